import PyProof.Rows.All
import Wide.All
import OpenK.AllK
import Wide.FinOn
import PySem.Challenge.RW_bd0031_06
section
namespace Mine
universe u0 u1 u2 u3 u4 u5 u6 u7 u8 u9 u10 u11 u12 u13 u14 u15 u16
theorem el_A {P0 : Prop} {P1 : Prop} {p : Prop} (h : (P0) ∧ (P1)) (k : (_ : P0) → (_ : P1) → p) : p := by
  obtain ⟨y0, y1⟩ := h
  exact k y0 y1
theorem el_AA {P0 : Prop} {P1 : Prop} {P2 : Prop} {p : Prop} (h : (P0) ∧ ((P1) ∧ (P2))) (k : (_ : P0) → (_ : P1) → (_ : P2) → p) : p := by
  obtain ⟨y0, y1, y2⟩ := h
  exact k y0 y1 y2
theorem el_AAA {P0 : Prop} {P1 : Prop} {P2 : Prop} {P3 : Prop} {p : Prop} (h : (P0) ∧ ((P1) ∧ ((P2) ∧ (P3)))) (k : (_ : P0) → (_ : P1) → (_ : P2) → (_ : P3) → p) : p := by
  obtain ⟨y0, y1, y2, y3⟩ := h
  exact k y0 y1 y2 y3
theorem el_AAAA {P0 : Prop} {P1 : Prop} {P2 : Prop} {P3 : Prop} {P4 : Prop} {p : Prop} (h : (P0) ∧ ((P1) ∧ ((P2) ∧ ((P3) ∧ (P4))))) (k : (_ : P0) → (_ : P1) → (_ : P2) → (_ : P3) → (_ : P4) → p) : p := by
  obtain ⟨y0, y1, y2, y3, y4⟩ := h
  exact k y0 y1 y2 y3 y4
theorem el_AAAAA {P0 : Prop} {P1 : Prop} {P2 : Prop} {P3 : Prop} {P4 : Prop} {P5 : Prop} {p : Prop} (h : (P0) ∧ ((P1) ∧ ((P2) ∧ ((P3) ∧ ((P4) ∧ (P5)))))) (k : (_ : P0) → (_ : P1) → (_ : P2) → (_ : P3) → (_ : P4) → (_ : P5) → p) : p := by
  obtain ⟨y0, y1, y2, y3, y4, y5⟩ := h
  exact k y0 y1 y2 y3 y4 y5
theorem el_AAE {α0 : Sort u0} {P0 : Prop} {P1 : Prop} {P2 : α0 → Prop} {p : Prop} (h : (P0) ∧ ((P1) ∧ (∃ x0 : α0, P2 x0))) (k : (_ : P0) → (_ : P1) → (x0 : α0) → (_ : P2 x0) → p) : p := by
  obtain ⟨y0, y1, y2, y3⟩ := h
  exact k y0 y1 y2 y3
theorem el_AAEA {α0 : Sort u0} {P0 : Prop} {P1 : Prop} {P2 : α0 → Prop} {P3 : α0 → Prop} {p : Prop} (h : (P0) ∧ ((P1) ∧ (∃ x0 : α0, (P2 x0) ∧ (P3 x0)))) (k : (_ : P0) → (_ : P1) → (x0 : α0) → (_ : P2 x0) → (_ : P3 x0) → p) : p := by
  obtain ⟨y0, y1, y2, y3, y4⟩ := h
  exact k y0 y1 y2 y3 y4
theorem el_AAEEA {α0 : Sort u0} {α1 : Sort u1} {P0 : Prop} {P1 : Prop} {P2 : α0 → α1 → Prop} {P3 : α0 → α1 → Prop} {p : Prop} (h : (P0) ∧ ((P1) ∧ (∃ x0 : α0, ∃ x1 : α1, (P2 x0 x1) ∧ (P3 x0 x1)))) (k : (_ : P0) → (_ : P1) → (x0 : α0) → (x1 : α1) → (_ : P2 x0 x1) → (_ : P3 x0 x1) → p) : p := by
  obtain ⟨y0, y1, y2, y3, y4, y5⟩ := h
  exact k y0 y1 y2 y3 y4 y5
theorem el_AAEEAAA {α0 : Sort u0} {α1 : Sort u1} {P0 : Prop} {P1 : Prop} {P2 : α0 → α1 → Prop} {P3 : α0 → α1 → Prop} {P4 : α0 → α1 → Prop} {P5 : α0 → α1 → Prop} {p : Prop} (h : (P0) ∧ ((P1) ∧ (∃ x0 : α0, ∃ x1 : α1, (P2 x0 x1) ∧ ((P3 x0 x1) ∧ ((P4 x0 x1) ∧ (P5 x0 x1)))))) (k : (_ : P0) → (_ : P1) → (x0 : α0) → (x1 : α1) → (_ : P2 x0 x1) → (_ : P3 x0 x1) → (_ : P4 x0 x1) → (_ : P5 x0 x1) → p) : p := by
  obtain ⟨y0, y1, y2, y3, y4, y5, y6, y7⟩ := h
  exact k y0 y1 y2 y3 y4 y5 y6 y7
theorem el_AE {α0 : Sort u0} {P0 : Prop} {P1 : α0 → Prop} {p : Prop} (h : (P0) ∧ (∃ x0 : α0, P1 x0)) (k : (_ : P0) → (x0 : α0) → (_ : P1 x0) → p) : p := by
  obtain ⟨y0, y1, y2⟩ := h
  exact k y0 y1 y2
theorem el_AEA {α0 : Sort u0} {P0 : Prop} {P1 : α0 → Prop} {P2 : α0 → Prop} {p : Prop} (h : (P0) ∧ (∃ x0 : α0, (P1 x0) ∧ (P2 x0))) (k : (_ : P0) → (x0 : α0) → (_ : P1 x0) → (_ : P2 x0) → p) : p := by
  obtain ⟨y0, y1, y2, y3⟩ := h
  exact k y0 y1 y2 y3
theorem el_AEAA {α0 : Sort u0} {P0 : Prop} {P1 : α0 → Prop} {P2 : α0 → Prop} {P3 : α0 → Prop} {p : Prop} (h : (P0) ∧ (∃ x0 : α0, (P1 x0) ∧ ((P2 x0) ∧ (P3 x0)))) (k : (_ : P0) → (x0 : α0) → (_ : P1 x0) → (_ : P2 x0) → (_ : P3 x0) → p) : p := by
  obtain ⟨y0, y1, y2, y3, y4⟩ := h
  exact k y0 y1 y2 y3 y4
theorem el_AEEA {α0 : Sort u0} {α1 : Sort u1} {P0 : Prop} {P1 : α0 → α1 → Prop} {P2 : α0 → α1 → Prop} {p : Prop} (h : (P0) ∧ (∃ x0 : α0, ∃ x1 : α1, (P1 x0 x1) ∧ (P2 x0 x1))) (k : (_ : P0) → (x0 : α0) → (x1 : α1) → (_ : P1 x0 x1) → (_ : P2 x0 x1) → p) : p := by
  obtain ⟨y0, y1, y2, y3, y4⟩ := h
  exact k y0 y1 y2 y3 y4
theorem el_AEEEAAA {α0 : Sort u0} {α1 : Sort u1} {α2 : Sort u2} {P0 : Prop} {P1 : α0 → α1 → α2 → Prop} {P2 : α0 → α1 → α2 → Prop} {P3 : α0 → α1 → α2 → Prop} {P4 : α0 → α1 → α2 → Prop} {p : Prop} (h : (P0) ∧ (∃ x0 : α0, ∃ x1 : α1, ∃ x2 : α2, (P1 x0 x1 x2) ∧ ((P2 x0 x1 x2) ∧ ((P3 x0 x1 x2) ∧ (P4 x0 x1 x2))))) (k : (_ : P0) → (x0 : α0) → (x1 : α1) → (x2 : α2) → (_ : P1 x0 x1 x2) → (_ : P2 x0 x1 x2) → (_ : P3 x0 x1 x2) → (_ : P4 x0 x1 x2) → p) : p := by
  obtain ⟨y0, y1, y2, y3, y4, y5, y6, y7⟩ := h
  exact k y0 y1 y2 y3 y4 y5 y6 y7
theorem el_E {α0 : Sort u0} {P0 : α0 → Prop} {p : Prop} (h : ∃ x0 : α0, P0 x0) (k : (x0 : α0) → (_ : P0 x0) → p) : p := by
  obtain ⟨y0, y1⟩ := h
  exact k y0 y1
theorem el_EA {α0 : Sort u0} {P0 : α0 → Prop} {P1 : α0 → Prop} {p : Prop} (h : ∃ x0 : α0, (P0 x0) ∧ (P1 x0)) (k : (x0 : α0) → (_ : P0 x0) → (_ : P1 x0) → p) : p := by
  obtain ⟨y0, y1, y2⟩ := h
  exact k y0 y1 y2
theorem el_EAA {α0 : Sort u0} {P0 : α0 → Prop} {P1 : α0 → Prop} {P2 : α0 → Prop} {p : Prop} (h : ∃ x0 : α0, (P0 x0) ∧ ((P1 x0) ∧ (P2 x0))) (k : (x0 : α0) → (_ : P0 x0) → (_ : P1 x0) → (_ : P2 x0) → p) : p := by
  obtain ⟨y0, y1, y2, y3⟩ := h
  exact k y0 y1 y2 y3
theorem el_EAAA {α0 : Sort u0} {P0 : α0 → Prop} {P1 : α0 → Prop} {P2 : α0 → Prop} {P3 : α0 → Prop} {p : Prop} (h : ∃ x0 : α0, (P0 x0) ∧ ((P1 x0) ∧ ((P2 x0) ∧ (P3 x0)))) (k : (x0 : α0) → (_ : P0 x0) → (_ : P1 x0) → (_ : P2 x0) → (_ : P3 x0) → p) : p := by
  obtain ⟨y0, y1, y2, y3, y4⟩ := h
  exact k y0 y1 y2 y3 y4
theorem el_EAAAA {α0 : Sort u0} {P0 : α0 → Prop} {P1 : α0 → Prop} {P2 : α0 → Prop} {P3 : α0 → Prop} {P4 : α0 → Prop} {p : Prop} (h : ∃ x0 : α0, (P0 x0) ∧ ((P1 x0) ∧ ((P2 x0) ∧ ((P3 x0) ∧ (P4 x0))))) (k : (x0 : α0) → (_ : P0 x0) → (_ : P1 x0) → (_ : P2 x0) → (_ : P3 x0) → (_ : P4 x0) → p) : p := by
  obtain ⟨y0, y1, y2, y3, y4, y5⟩ := h
  exact k y0 y1 y2 y3 y4 y5
theorem el_EAAAAA {α0 : Sort u0} {P0 : α0 → Prop} {P1 : α0 → Prop} {P2 : α0 → Prop} {P3 : α0 → Prop} {P4 : α0 → Prop} {P5 : α0 → Prop} {p : Prop} (h : ∃ x0 : α0, (P0 x0) ∧ ((P1 x0) ∧ ((P2 x0) ∧ ((P3 x0) ∧ ((P4 x0) ∧ (P5 x0)))))) (k : (x0 : α0) → (_ : P0 x0) → (_ : P1 x0) → (_ : P2 x0) → (_ : P3 x0) → (_ : P4 x0) → (_ : P5 x0) → p) : p := by
  obtain ⟨y0, y1, y2, y3, y4, y5, y6⟩ := h
  exact k y0 y1 y2 y3 y4 y5 y6
theorem el_EAAE {α0 : Sort u0} {α1 : Sort u1} {P0 : α0 → Prop} {P1 : α0 → Prop} {P2 : α0 → α1 → Prop} {p : Prop} (h : ∃ x0 : α0, (P0 x0) ∧ ((P1 x0) ∧ (∃ x1 : α1, P2 x0 x1))) (k : (x0 : α0) → (_ : P0 x0) → (_ : P1 x0) → (x1 : α1) → (_ : P2 x0 x1) → p) : p := by
  obtain ⟨y0, y1, y2, y3, y4⟩ := h
  exact k y0 y1 y2 y3 y4
theorem el_EAEA {α0 : Sort u0} {α1 : Sort u1} {P0 : α0 → Prop} {P1 : α0 → α1 → Prop} {P2 : α0 → α1 → Prop} {p : Prop} (h : ∃ x0 : α0, (P0 x0) ∧ (∃ x1 : α1, (P1 x0 x1) ∧ (P2 x0 x1))) (k : (x0 : α0) → (_ : P0 x0) → (x1 : α1) → (_ : P1 x0 x1) → (_ : P2 x0 x1) → p) : p := by
  obtain ⟨y0, y1, y2, y3, y4⟩ := h
  exact k y0 y1 y2 y3 y4
theorem el_EEA {α0 : Sort u0} {α1 : Sort u1} {P0 : α0 → α1 → Prop} {P1 : α0 → α1 → Prop} {p : Prop} (h : ∃ x0 : α0, ∃ x1 : α1, (P0 x0 x1) ∧ (P1 x0 x1)) (k : (x0 : α0) → (x1 : α1) → (_ : P0 x0 x1) → (_ : P1 x0 x1) → p) : p := by
  obtain ⟨y0, y1, y2, y3⟩ := h
  exact k y0 y1 y2 y3
theorem el_EEAA {α0 : Sort u0} {α1 : Sort u1} {P0 : α0 → α1 → Prop} {P1 : α0 → α1 → Prop} {P2 : α0 → α1 → Prop} {p : Prop} (h : ∃ x0 : α0, ∃ x1 : α1, (P0 x0 x1) ∧ ((P1 x0 x1) ∧ (P2 x0 x1))) (k : (x0 : α0) → (x1 : α1) → (_ : P0 x0 x1) → (_ : P1 x0 x1) → (_ : P2 x0 x1) → p) : p := by
  obtain ⟨y0, y1, y2, y3, y4⟩ := h
  exact k y0 y1 y2 y3 y4
theorem el_EEAAA {α0 : Sort u0} {α1 : Sort u1} {P0 : α0 → α1 → Prop} {P1 : α0 → α1 → Prop} {P2 : α0 → α1 → Prop} {P3 : α0 → α1 → Prop} {p : Prop} (h : ∃ x0 : α0, ∃ x1 : α1, (P0 x0 x1) ∧ ((P1 x0 x1) ∧ ((P2 x0 x1) ∧ (P3 x0 x1)))) (k : (x0 : α0) → (x1 : α1) → (_ : P0 x0 x1) → (_ : P1 x0 x1) → (_ : P2 x0 x1) → (_ : P3 x0 x1) → p) : p := by
  obtain ⟨y0, y1, y2, y3, y4, y5⟩ := h
  exact k y0 y1 y2 y3 y4 y5
theorem el_EEAAAA {α0 : Sort u0} {α1 : Sort u1} {P0 : α0 → α1 → Prop} {P1 : α0 → α1 → Prop} {P2 : α0 → α1 → Prop} {P3 : α0 → α1 → Prop} {P4 : α0 → α1 → Prop} {p : Prop} (h : ∃ x0 : α0, ∃ x1 : α1, (P0 x0 x1) ∧ ((P1 x0 x1) ∧ ((P2 x0 x1) ∧ ((P3 x0 x1) ∧ (P4 x0 x1))))) (k : (x0 : α0) → (x1 : α1) → (_ : P0 x0 x1) → (_ : P1 x0 x1) → (_ : P2 x0 x1) → (_ : P3 x0 x1) → (_ : P4 x0 x1) → p) : p := by
  obtain ⟨y0, y1, y2, y3, y4, y5, y6⟩ := h
  exact k y0 y1 y2 y3 y4 y5 y6
theorem el_EEAAAAA {α0 : Sort u0} {α1 : Sort u1} {P0 : α0 → α1 → Prop} {P1 : α0 → α1 → Prop} {P2 : α0 → α1 → Prop} {P3 : α0 → α1 → Prop} {P4 : α0 → α1 → Prop} {P5 : α0 → α1 → Prop} {p : Prop} (h : ∃ x0 : α0, ∃ x1 : α1, (P0 x0 x1) ∧ ((P1 x0 x1) ∧ ((P2 x0 x1) ∧ ((P3 x0 x1) ∧ ((P4 x0 x1) ∧ (P5 x0 x1)))))) (k : (x0 : α0) → (x1 : α1) → (_ : P0 x0 x1) → (_ : P1 x0 x1) → (_ : P2 x0 x1) → (_ : P3 x0 x1) → (_ : P4 x0 x1) → (_ : P5 x0 x1) → p) : p := by
  obtain ⟨y0, y1, y2, y3, y4, y5, y6, y7⟩ := h
  exact k y0 y1 y2 y3 y4 y5 y6 y7
theorem el_EEAEAA {α0 : Sort u0} {α1 : Sort u1} {α2 : Sort u2} {P0 : α0 → α1 → Prop} {P1 : α0 → α1 → α2 → Prop} {P2 : α0 → α1 → α2 → Prop} {P3 : α0 → α1 → α2 → Prop} {p : Prop} (h : ∃ x0 : α0, ∃ x1 : α1, (P0 x0 x1) ∧ (∃ x2 : α2, (P1 x0 x1 x2) ∧ ((P2 x0 x1 x2) ∧ (P3 x0 x1 x2)))) (k : (x0 : α0) → (x1 : α1) → (_ : P0 x0 x1) → (x2 : α2) → (_ : P1 x0 x1 x2) → (_ : P2 x0 x1 x2) → (_ : P3 x0 x1 x2) → p) : p := by
  obtain ⟨y0, y1, y2, y3, y4, y5, y6⟩ := h
  exact k y0 y1 y2 y3 y4 y5 y6
theorem el_EEE {α0 : Sort u0} {α1 : Sort u1} {α2 : Sort u2} {P0 : α0 → α1 → α2 → Prop} {p : Prop} (h : ∃ x0 : α0, ∃ x1 : α1, ∃ x2 : α2, P0 x0 x1 x2) (k : (x0 : α0) → (x1 : α1) → (x2 : α2) → (_ : P0 x0 x1 x2) → p) : p := by
  obtain ⟨y0, y1, y2, y3⟩ := h
  exact k y0 y1 y2 y3
theorem el_EEEA {α0 : Sort u0} {α1 : Sort u1} {α2 : Sort u2} {P0 : α0 → α1 → α2 → Prop} {P1 : α0 → α1 → α2 → Prop} {p : Prop} (h : ∃ x0 : α0, ∃ x1 : α1, ∃ x2 : α2, (P0 x0 x1 x2) ∧ (P1 x0 x1 x2)) (k : (x0 : α0) → (x1 : α1) → (x2 : α2) → (_ : P0 x0 x1 x2) → (_ : P1 x0 x1 x2) → p) : p := by
  obtain ⟨y0, y1, y2, y3, y4⟩ := h
  exact k y0 y1 y2 y3 y4
theorem el_EEEAA {α0 : Sort u0} {α1 : Sort u1} {α2 : Sort u2} {P0 : α0 → α1 → α2 → Prop} {P1 : α0 → α1 → α2 → Prop} {P2 : α0 → α1 → α2 → Prop} {p : Prop} (h : ∃ x0 : α0, ∃ x1 : α1, ∃ x2 : α2, (P0 x0 x1 x2) ∧ ((P1 x0 x1 x2) ∧ (P2 x0 x1 x2))) (k : (x0 : α0) → (x1 : α1) → (x2 : α2) → (_ : P0 x0 x1 x2) → (_ : P1 x0 x1 x2) → (_ : P2 x0 x1 x2) → p) : p := by
  obtain ⟨y0, y1, y2, y3, y4, y5⟩ := h
  exact k y0 y1 y2 y3 y4 y5
theorem el_EEEAAA {α0 : Sort u0} {α1 : Sort u1} {α2 : Sort u2} {P0 : α0 → α1 → α2 → Prop} {P1 : α0 → α1 → α2 → Prop} {P2 : α0 → α1 → α2 → Prop} {P3 : α0 → α1 → α2 → Prop} {p : Prop} (h : ∃ x0 : α0, ∃ x1 : α1, ∃ x2 : α2, (P0 x0 x1 x2) ∧ ((P1 x0 x1 x2) ∧ ((P2 x0 x1 x2) ∧ (P3 x0 x1 x2)))) (k : (x0 : α0) → (x1 : α1) → (x2 : α2) → (_ : P0 x0 x1 x2) → (_ : P1 x0 x1 x2) → (_ : P2 x0 x1 x2) → (_ : P3 x0 x1 x2) → p) : p := by
  obtain ⟨y0, y1, y2, y3, y4, y5, y6⟩ := h
  exact k y0 y1 y2 y3 y4 y5 y6
theorem el_EEEAAAAA {α0 : Sort u0} {α1 : Sort u1} {α2 : Sort u2} {P0 : α0 → α1 → α2 → Prop} {P1 : α0 → α1 → α2 → Prop} {P2 : α0 → α1 → α2 → Prop} {P3 : α0 → α1 → α2 → Prop} {P4 : α0 → α1 → α2 → Prop} {P5 : α0 → α1 → α2 → Prop} {p : Prop} (h : ∃ x0 : α0, ∃ x1 : α1, ∃ x2 : α2, (P0 x0 x1 x2) ∧ ((P1 x0 x1 x2) ∧ ((P2 x0 x1 x2) ∧ ((P3 x0 x1 x2) ∧ ((P4 x0 x1 x2) ∧ (P5 x0 x1 x2)))))) (k : (x0 : α0) → (x1 : α1) → (x2 : α2) → (_ : P0 x0 x1 x2) → (_ : P1 x0 x1 x2) → (_ : P2 x0 x1 x2) → (_ : P3 x0 x1 x2) → (_ : P4 x0 x1 x2) → (_ : P5 x0 x1 x2) → p) : p := by
  obtain ⟨y0, y1, y2, y3, y4, y5, y6, y7, y8⟩ := h
  exact k y0 y1 y2 y3 y4 y5 y6 y7 y8
theorem el_EEEAAAAAA {α0 : Sort u0} {α1 : Sort u1} {α2 : Sort u2} {P0 : α0 → α1 → α2 → Prop} {P1 : α0 → α1 → α2 → Prop} {P2 : α0 → α1 → α2 → Prop} {P3 : α0 → α1 → α2 → Prop} {P4 : α0 → α1 → α2 → Prop} {P5 : α0 → α1 → α2 → Prop} {P6 : α0 → α1 → α2 → Prop} {p : Prop} (h : ∃ x0 : α0, ∃ x1 : α1, ∃ x2 : α2, (P0 x0 x1 x2) ∧ ((P1 x0 x1 x2) ∧ ((P2 x0 x1 x2) ∧ ((P3 x0 x1 x2) ∧ ((P4 x0 x1 x2) ∧ ((P5 x0 x1 x2) ∧ (P6 x0 x1 x2))))))) (k : (x0 : α0) → (x1 : α1) → (x2 : α2) → (_ : P0 x0 x1 x2) → (_ : P1 x0 x1 x2) → (_ : P2 x0 x1 x2) → (_ : P3 x0 x1 x2) → (_ : P4 x0 x1 x2) → (_ : P5 x0 x1 x2) → (_ : P6 x0 x1 x2) → p) : p := by
  obtain ⟨y0, y1, y2, y3, y4, y5, y6, y7, y8, y9⟩ := h
  exact k y0 y1 y2 y3 y4 y5 y6 y7 y8 y9
theorem el_EEEAAAAAAAAAAA {α0 : Sort u0} {α1 : Sort u1} {α2 : Sort u2} {P0 : α0 → α1 → α2 → Prop} {P1 : α0 → α1 → α2 → Prop} {P2 : α0 → α1 → α2 → Prop} {P3 : α0 → α1 → α2 → Prop} {P4 : α0 → α1 → α2 → Prop} {P5 : α0 → α1 → α2 → Prop} {P6 : α0 → α1 → α2 → Prop} {P7 : α0 → α1 → α2 → Prop} {P8 : α0 → α1 → α2 → Prop} {P9 : α0 → α1 → α2 → Prop} {P10 : α0 → α1 → α2 → Prop} {P11 : α0 → α1 → α2 → Prop} {p : Prop} (h : ∃ x0 : α0, ∃ x1 : α1, ∃ x2 : α2, (P0 x0 x1 x2) ∧ ((P1 x0 x1 x2) ∧ ((P2 x0 x1 x2) ∧ ((P3 x0 x1 x2) ∧ ((P4 x0 x1 x2) ∧ ((P5 x0 x1 x2) ∧ ((P6 x0 x1 x2) ∧ ((P7 x0 x1 x2) ∧ ((P8 x0 x1 x2) ∧ ((P9 x0 x1 x2) ∧ ((P10 x0 x1 x2) ∧ (P11 x0 x1 x2)))))))))))) (k : (x0 : α0) → (x1 : α1) → (x2 : α2) → (_ : P0 x0 x1 x2) → (_ : P1 x0 x1 x2) → (_ : P2 x0 x1 x2) → (_ : P3 x0 x1 x2) → (_ : P4 x0 x1 x2) → (_ : P5 x0 x1 x2) → (_ : P6 x0 x1 x2) → (_ : P7 x0 x1 x2) → (_ : P8 x0 x1 x2) → (_ : P9 x0 x1 x2) → (_ : P10 x0 x1 x2) → (_ : P11 x0 x1 x2) → p) : p := by
  obtain ⟨y0, y1, y2, y3, y4, y5, y6, y7, y8, y9, y10, y11, y12, y13, y14⟩ := h
  exact k y0 y1 y2 y3 y4 y5 y6 y7 y8 y9 y10 y11 y12 y13 y14
theorem el_EEEEAAAAAAAAAA {α0 : Sort u0} {α1 : Sort u1} {α2 : Sort u2} {α3 : Sort u3} {P0 : α0 → α1 → α2 → α3 → Prop} {P1 : α0 → α1 → α2 → α3 → Prop} {P2 : α0 → α1 → α2 → α3 → Prop} {P3 : α0 → α1 → α2 → α3 → Prop} {P4 : α0 → α1 → α2 → α3 → Prop} {P5 : α0 → α1 → α2 → α3 → Prop} {P6 : α0 → α1 → α2 → α3 → Prop} {P7 : α0 → α1 → α2 → α3 → Prop} {P8 : α0 → α1 → α2 → α3 → Prop} {P9 : α0 → α1 → α2 → α3 → Prop} {P10 : α0 → α1 → α2 → α3 → Prop} {p : Prop} (h : ∃ x0 : α0, ∃ x1 : α1, ∃ x2 : α2, ∃ x3 : α3, (P0 x0 x1 x2 x3) ∧ ((P1 x0 x1 x2 x3) ∧ ((P2 x0 x1 x2 x3) ∧ ((P3 x0 x1 x2 x3) ∧ ((P4 x0 x1 x2 x3) ∧ ((P5 x0 x1 x2 x3) ∧ ((P6 x0 x1 x2 x3) ∧ ((P7 x0 x1 x2 x3) ∧ ((P8 x0 x1 x2 x3) ∧ ((P9 x0 x1 x2 x3) ∧ (P10 x0 x1 x2 x3))))))))))) (k : (x0 : α0) → (x1 : α1) → (x2 : α2) → (x3 : α3) → (_ : P0 x0 x1 x2 x3) → (_ : P1 x0 x1 x2 x3) → (_ : P2 x0 x1 x2 x3) → (_ : P3 x0 x1 x2 x3) → (_ : P4 x0 x1 x2 x3) → (_ : P5 x0 x1 x2 x3) → (_ : P6 x0 x1 x2 x3) → (_ : P7 x0 x1 x2 x3) → (_ : P8 x0 x1 x2 x3) → (_ : P9 x0 x1 x2 x3) → (_ : P10 x0 x1 x2 x3) → p) : p := by
  obtain ⟨y0, y1, y2, y3, y4, y5, y6, y7, y8, y9, y10, y11, y12, y13, y14⟩ := h
  exact k y0 y1 y2 y3 y4 y5 y6 y7 y8 y9 y10 y11 y12 y13 y14
theorem el_EEEEEEEEEEEEEEEEEAAA {α0 : Sort u0} {α1 : Sort u1} {α2 : Sort u2} {α3 : Sort u3} {α4 : Sort u4} {α5 : Sort u5} {α6 : Sort u6} {α7 : Sort u7} {α8 : Sort u8} {α9 : Sort u9} {α10 : Sort u10} {α11 : Sort u11} {α12 : Sort u12} {α13 : Sort u13} {α14 : Sort u14} {α15 : Sort u15} {α16 : Sort u16} {P0 : α0 → α1 → α2 → α3 → α4 → α5 → α6 → α7 → α8 → α9 → α10 → α11 → α12 → α13 → α14 → α15 → α16 → Prop} {P1 : α0 → α1 → α2 → α3 → α4 → α5 → α6 → α7 → α8 → α9 → α10 → α11 → α12 → α13 → α14 → α15 → α16 → Prop} {P2 : α0 → α1 → α2 → α3 → α4 → α5 → α6 → α7 → α8 → α9 → α10 → α11 → α12 → α13 → α14 → α15 → α16 → Prop} {P3 : α0 → α1 → α2 → α3 → α4 → α5 → α6 → α7 → α8 → α9 → α10 → α11 → α12 → α13 → α14 → α15 → α16 → Prop} {p : Prop} (h : ∃ x0 : α0, ∃ x1 : α1, ∃ x2 : α2, ∃ x3 : α3, ∃ x4 : α4, ∃ x5 : α5, ∃ x6 : α6, ∃ x7 : α7, ∃ x8 : α8, ∃ x9 : α9, ∃ x10 : α10, ∃ x11 : α11, ∃ x12 : α12, ∃ x13 : α13, ∃ x14 : α14, ∃ x15 : α15, ∃ x16 : α16, (P0 x0 x1 x2 x3 x4 x5 x6 x7 x8 x9 x10 x11 x12 x13 x14 x15 x16) ∧ ((P1 x0 x1 x2 x3 x4 x5 x6 x7 x8 x9 x10 x11 x12 x13 x14 x15 x16) ∧ ((P2 x0 x1 x2 x3 x4 x5 x6 x7 x8 x9 x10 x11 x12 x13 x14 x15 x16) ∧ (P3 x0 x1 x2 x3 x4 x5 x6 x7 x8 x9 x10 x11 x12 x13 x14 x15 x16)))) (k : (x0 : α0) → (x1 : α1) → (x2 : α2) → (x3 : α3) → (x4 : α4) → (x5 : α5) → (x6 : α6) → (x7 : α7) → (x8 : α8) → (x9 : α9) → (x10 : α10) → (x11 : α11) → (x12 : α12) → (x13 : α13) → (x14 : α14) → (x15 : α15) → (x16 : α16) → (_ : P0 x0 x1 x2 x3 x4 x5 x6 x7 x8 x9 x10 x11 x12 x13 x14 x15 x16) → (_ : P1 x0 x1 x2 x3 x4 x5 x6 x7 x8 x9 x10 x11 x12 x13 x14 x15 x16) → (_ : P2 x0 x1 x2 x3 x4 x5 x6 x7 x8 x9 x10 x11 x12 x13 x14 x15 x16) → (_ : P3 x0 x1 x2 x3 x4 x5 x6 x7 x8 x9 x10 x11 x12 x13 x14 x15 x16) → p) : p := by
  obtain ⟨y0, y1, y2, y3, y4, y5, y6, y7, y8, y9, y10, y11, y12, y13, y14, y15, y16, y17, y18, y19, y20⟩ := h
  exact k y0 y1 y2 y3 y4 y5 y6 y7 y8 y9 y10 y11 y12 y13 y14 y15 y16 y17 y18 y19 y20
theorem no_ns {α : Type _} {a : α} {p : Prop} (h : none = some a) : p := nomatch h
theorem no_sn {α : Type _} {a : α} {p : Prop} (h : some a = none) : p := nomatch h
theorem no_ft {p : Prop} (h : false = true) : p := nomatch h
theorem no_tf {p : Prop} (h : true = false) : p := nomatch h
end Mine
end
section
open PySem PySem.W PyProof.Rows
set_option Elab.async false
namespace Mine
noncomputable def er : Value → Value
  | .int i _ => .int i 0
  | .str s _ => .str s 0
  | .float b _ => .float b 0
  | .bytes b _ => .bytes b 0
  | v => v
theorem er_int {v : Value} {i : Int} (h : er v = .int i 0) : ∃ t, v = .int i t := by
  cases v <;> simp [er] at h <;> (subst h; exact ⟨_, rfl⟩)
theorem er_ref {v : Value} {a : Addr} (h : er v = .ref a) : v = .ref a := by
  cases v <;> simp [er] at h <;> (subst h; rfl)
theorem er_bool {v : Value} {b : Bool} (h : er v = .bool b) : v = .bool b := by
  cases v <;> simp [er] at h <;> (subst h; rfl)
theorem er_none {v : Value} (h : er v = .none) : v = .none := by
  cases v <;> simp [er] at h <;> rfl
inductive AO where
  | list (xs : List Value)
  | tup (xs : List Value)
  | ns (l : List (Str × Value))
  | cell (v : Option Value)
  | inst (C : Addr) (fs : List (Str × Value))
  | imap (kvs : List (Int × Value))
  | exc (cls : Value) (tb ctx : Option Nat)
  | iter (l : Nat) (i : Nat)
  | titer (l : Nat) (i : Nat)
  | tb
  | raw (o : Obj)
noncomputable def AO.tag : AO → Nat
  | .list _ => 0 | .tup _ => 1 | .ns _ => 2 | .cell _ => 3 | .inst _ _ => 4 | .imap _ => 5 | .exc _ _ _ => 6 | .iter _ _ => 7 | .titer _ _ => 8 | .tb => 9 | .raw _ => 10
theorem tag_ne {a b : AO} {p : Prop} (h : a = b) (t : Nat.beq a.tag b.tag = false) : p := by subst h; rw [Nat.beq_refl] at t; cases t
noncomputable abbrev AH := Nat → Option AO
noncomputable def upd (H : AH) (a : Nat) (o : AO) : AH := fun b => if b = a then some o else H b
theorem upd_self (H : AH) (a : Nat) (o : AO) : upd H a o a = some o := if_pos rfl
theorem upd_ne {H : AH} {a b : Nat} {o : AO} (h : b ≠ a) : upd H a o b = H b := if_neg h
theorem upd_upd (H : AH) (a : Nat) (o o' : AO) : upd (upd H a o) a o' = upd H a o' := by
  funext b; simp only [upd]; split <;> rfl
theorem upd_comm {H : AH} {a b : Nat} {o o' : AO} (h : a ≠ b) : upd (upd H a o) b o' = upd (upd H b o') a o := by
  funext c; simp only [upd]; split <;> split <;> simp_all
noncomputable def IP : List DictEntry → List (Int × Value) → Prop
  | [], [] => True
  | e :: es, p :: ps => (∃ t, e.key = .int p.1 t) ∧ e.hash = hashInt p.1 ∧ e.val = p.2 ∧ IP es ps
  | _, _ => False
noncomputable def KeysAre (es : List DictEntry) (kvs : List (Int × Value)) : Prop :=
  ∃ vs, IP es vs ∧ (vs.map (·.1)).Nodup ∧ (vs.map fun p => (p.1, er p.2)) = kvs
noncomputable def gv (x : Str) (es : List DictEntry) : Option Value := (es.find? (·.key.isStr x)).map (·.val)
noncomputable def Real (h : Heap) (a : Nat) : AO → Prop
  | .list xs => ∃ vs n, h.get? a = some { cls := .type "list", data := .seq vs n } ∧ vs.toList.map er = xs
  | .tup xs => ∃ vs n, h.get? a = some { cls := .type "tuple", data := .seq vs n } ∧ vs.toList.map er = xs
  | .ns l => ∃ m, h.Ns a m ∧ ∀ x v, l.lookup x = some v → (m x).map er = some v
  | .cell v => ∃ o v', h.get? a = some o ∧ o.data = .cell v' ∧ v'.map er = v
  | .inst C fs => 1 ≤ a ∧ h.get? a = some (instObj C (a - 1)) ∧ ∃ es n, h.get? (a - 1) = some (dictOf es n) ∧ es.length ≤ fs.length ∧
      (∀ e ∈ es, e.refKey = false) ∧ ∀ x, (gv x es).map er = fs.lookup x
  | .imap kvs => ∃ es n, h.get? a = some (dictOf es n) ∧ KeysAre es kvs
  | .exc cls tb ctx => ∃ o vs, h.get? a = some o ∧ o.cls = cls ∧ o.data = .fields vs ∧ vs[1]? = some (tb.elim .none .ref) ∧ vs[2]? = some (ctx.elim .none .ref)
  | .iter l i => h.IsListIter a l i
  | .titer l i => ∃ o, h.get? a = some o ∧ o.cls = .type "tuple_iterator" ∧ o.data = .fields #[.ref l, .int i 0]
  | .tb => ∃ o ts, h.get? a = some o ∧ o.data = .fields ts ∧ 3 < ts.size
  | .raw o => h.get? a = some o
noncomputable def AO.isInst : AO → Bool
  | .inst .. => true
  | _ => false
noncomputable def AO.isNs : AO → Bool
  | .ns _ => true
  | _ => false
noncomputable def AO.isBig : AO → Bool
  | .ns _ => true
  | .imap _ => true
  | _ => false
noncomputable def AO.at (o : AO) (a b : Nat) : Prop := b = a ∨ (o.isInst = true ∧ b = a - 1)
theorem Real.keep {h h' : Heap} {a : Nat} {o : AO} (r : Real h a o) (k : ∀ b, o.at a b → ∀ x, h.get? b = some x → h'.get? b = some x) : Real h' a o := by
  cases o with
  | list xs => (refine Mine.el_EEA r fun vs n e r => ?_); exact ⟨vs, n, k a (.inl rfl) _ e, r⟩
  | tup xs => (refine Mine.el_EEA r fun vs n e r => ?_); exact ⟨vs, n, k a (.inl rfl) _ e, r⟩
  | ns l => (refine Mine.el_EA r fun m zq0 r => ?_; refine Mine.el_EEEA zq0 fun o es ep ho r1 => ?_; clear zq0); exact ⟨m, ⟨o, es, ep, k a (.inl rfl) _ ho, r1⟩, r⟩
  | cell v => (refine Mine.el_EEA r fun o v' e r => ?_); exact ⟨o, v', k a (.inl rfl) _ e, r⟩
  | inst C fs => (refine Mine.el_AAEEA r fun h1 e1 es n e2 r => ?_); exact ⟨h1, k a (.inl rfl) _ e1, es, n, k _ (.inr ⟨rfl, rfl⟩) _ e2, r⟩
  | imap kvs => (refine Mine.el_EEA r fun es n e r => ?_); exact ⟨es, n, k a (.inl rfl) _ e, r⟩
  | iter l i => (refine Mine.el_EA r fun o e r => ?_); exact ⟨o, k a (.inl rfl) _ e, r⟩
  | titer l i => (refine Mine.el_EA r fun o e r => ?_); exact ⟨o, k a (.inl rfl) _ e, r⟩
  | exc cls tb ctx => (refine Mine.el_EEA r fun o vs e r => ?_); exact ⟨o, vs, k a (.inl rfl) _ e, r⟩
  | tb => (refine Mine.el_EEA r fun o ts e r => ?_); exact ⟨o, ts, k a (.inl rfl) _ e, r⟩
  | raw o => exact k a (.inl rfl) _ r
theorem Real.lt {h : Heap} {a : Nat} {o : AO} (r : Real h a o) : a < h.objs.size := by
  cases o with
  | list xs => (refine Mine.el_EEA r fun vs n e r => ?_); exact Heap.lt_size e
  | tup xs => (refine Mine.el_EEA r fun vs n e r => ?_); exact Heap.lt_size e
  | ns l => (refine Mine.el_EA r fun m r _ => ?_); exact r.lt
  | cell v => (refine Mine.el_EEA r fun o v' e r => ?_); exact Heap.lt_size e
  | inst C fs => (refine Mine.el_AA r fun h1 e1 r => ?_); exact Heap.lt_size e1
  | imap kvs => (refine Mine.el_EEA r fun es n e r => ?_); exact Heap.lt_size e
  | iter l i => (refine Mine.el_EA r fun o e r => ?_); exact Heap.lt_size e
  | titer l i => (refine Mine.el_EA r fun o e r => ?_); exact Heap.lt_size e
  | exc cls tb ctx => (refine Mine.el_EEA r fun o vs e r => ?_); exact Heap.lt_size e
  | tb => (refine Mine.el_EEA r fun o ts e r => ?_); exact Heap.lt_size e
  | raw o => exact Heap.lt_size r
structure Cx (prog : Program) (w : World) (K : Frag) where
  p : Program
  loose : List Str
  mg : Str → Option Value
  mb : Str → Option Value
  base : Heap
  gens : Array GenState
  drawn : Drawn
  os : OsState
  inK : K.In base
  top : TopRead p loose mg mb base
structure St {prog : Program} {w : World} {K : Frag} (c : Cx prog w K) (envs : List Env) (H : AH) (s : Shared) : Prop where
  base : c.base.StaysIn s.heap
  real : ∀ (a : Nat) o, H a = some o → Real s.heap a o
  low : ∀ (a : Nat) o, H a = some o → c.base.get? a = none ∧ (o.isInst = true → c.base.get? (a - 1) = none) ∧ (o.isBig = true → c.base.objs.size ≤ a)
  excl : ∀ (a : Nat) o, H a = some o → o.isInst = true → H (a - 1) = none
  envs : ∀ env ∈ envs, env.scope.kind ≠ .module ∧ ∃ L l, env.frame = some L ∧ H L = some (.ns l)
  gens : s.gens = c.gens
  drawn : s.drawn = c.drawn
  os : s.os = c.os
  size : c.base.objs.size ≤ s.heap.objs.size
section
variable {prog : Program} {w : World} {K : Frag} {c : Cx prog w K} {envs : List Env} {H : AH} {s : Shared}
theorem St.inK (S : St c envs H s) : K.In s.heap := c.inK.keeps S.base
theorem St.top (S : St c envs H s) : TopRead c.p c.loose c.mg c.mb s.heap := c.top.keeps S.base
theorem St.tok (S : St c envs H s) (t : Nat) : St c envs H { s with toks := t } :=
  ⟨S.base, S.real, S.low, S.excl, S.envs, S.gens, S.drawn, S.os, S.size⟩
theorem St.fresh (S : St c envs H s) {a : Nat} (h : s.heap.objs.size ≤ a) : H a = none := by
  cases e : H a with
  | none => rfl
  | some o => exact absurd (S.real a o e).lt (Nat.not_lt.mpr h)
theorem St.weak {H' : AH} {envs' : List Env} (S : St c envs H s) (h : ∀ (a : Nat) o, H' a = some o → H a = some o) (he : ∀ env ∈ envs', env ∈ envs ∧ ∀ L l, env.frame = some L → H L = some (.ns l) → H' L = some (.ns l)) : St c envs' H' s := by
  refine ⟨S.base, fun a o e => S.real a o (h a o e), fun a o e => S.low a o (h a o e), fun a o e i => ?_, fun env m => ?_, S.gens, S.drawn, S.os, S.size⟩
  · cases q : H' (a - 1) with
    | none => rfl
    | some o' => have := S.excl a o (h a o e) i; rw [h _ _ q] at this; (exact Mine.no_sn this)
  · (refine Mine.el_AEEA (S.envs env (he env m).1) fun k L l f e => ?_)
    exact ⟨k, L, l, f, (he env m).2 L l f e⟩
theorem St.set {h' : Heap} {a : Nat} {o o' : AO} {t : Nat} (S : St c envs H s) (e : H a = some o) (hs : Heap.SameBut a s.heap h') (r : Real h' a o')
    (hi : o'.isInst = o.isInst) (hn : o'.isNs = o.isNs) (hb' : o'.isBig = o.isBig := by rfl) : St c envs (upd H a o') { s with heap := h', toks := t } := by
  have lo := S.low a o e
  refine ⟨fun b x q => ?_, fun b x q => ?_, fun b x q => ?_, fun b x q i => ?_, fun env m => ?_, S.gens, S.drawn, S.os, hs.1 ▸ S.size⟩
  · have hb : b ≠ a := fun z => by rw [z, lo.1] at q; (exact Mine.no_ns q)
    exact (hs.2 b hb).trans (S.base b x q)
  · by_cases hb : b = a
    · subst hb; rw [upd_self] at q; (replace q := Option.some.inj q; subst q); exact r
    · rw [upd_ne hb] at q
      refine (S.real b x q).keep fun d hd y hy => ?_
      refine (hs.2 d ?_).trans hy
      rcases hd with rfl | ⟨i, rfl⟩
      · exact hb
      · intro z
        have := S.excl b x q i
        rw [z, e] at this; (exact Mine.no_sn this)
  · by_cases hb : b = a
    · subst hb; rw [upd_self] at q; (replace q := Option.some.inj q; subst q); exact ⟨lo.1, fun i => lo.2.1 (hi ▸ i), fun i => lo.2.2 (hb' ▸ i)⟩
    · rw [upd_ne hb] at q; exact S.low b x q
  · by_cases hb : b = a
    · subst hb; rw [upd_self] at q; (replace q := Option.some.inj q; subst q)
      have z := S.excl b o e (hi ▸ i)
      by_cases hz : b - 1 = b
      · rw [hz] at z; rw [e] at z; (exact Mine.no_sn z)
      · rw [upd_ne hz]; exact z
    · rw [upd_ne hb] at q
      have z := S.excl b x q i
      by_cases hz : b - 1 = a
      · rw [hz, e] at z; (exact Mine.no_sn z)
      · rw [upd_ne hz]; exact z
  · (refine Mine.el_AEEA (S.envs env m) fun k L l f q => ?_)
    by_cases hL : L = a
    · subst hL
      rw [e] at q; (replace q := Option.some.inj q; subst q)
      cases o' <;> first | exact ⟨k, L, _, f, upd_self ..⟩ | (exact Mine.no_ft hn)
    · exact ⟨k, L, l, f, (upd_ne hL).trans q⟩
theorem St.setDict {h' : Heap} {a : Nat} {C : Addr} {fs fs' : List (Str × Value)} {t : Nat} (S : St c envs H s) (e : H a = some (.inst C fs)) (hs : Heap.SameBut (a - 1) s.heap h') (r : Real h' a (.inst C fs')) :
    St c envs (upd H a (.inst C fs')) { s with heap := h', toks := t } := by
  have lo := S.low a _ e
  have ex := S.excl a _ e rfl
  refine ⟨fun b x q => ?_, fun b x q => ?_, fun b x q => ?_, fun b x q i => ?_, fun env m => ?_, S.gens, S.drawn, S.os, hs.1 ▸ S.size⟩
  · have hb : b ≠ a - 1 := fun z => by rw [z, lo.2.1 rfl] at q; (exact Mine.no_ns q)
    exact (hs.2 b hb).trans (S.base b x q)
  · by_cases hb : b = a
    · subst hb; rw [upd_self] at q; (replace q := Option.some.inj q; subst q); exact r
    · rw [upd_ne hb] at q
      refine (S.real b x q).keep fun d hd y hy => ?_
      refine (hs.2 d ?_).trans hy
      rcases hd with rfl | ⟨i, rfl⟩
      · intro z; rw [z, ex] at q; (exact Mine.no_ns q)
      · intro z
        have h1 := (S.real b x q)
        have h2 := (S.real a _ e)
        have b1 : 1 ≤ b := by cases x <;> first | exact h1.1 | (exact Mine.no_ft i)
        have a1 : 1 ≤ a := h2.1
        exact hb (by have z' : b - 1 = a - 1 := z; omega)
  · by_cases hb : b = a
    · subst hb; rw [upd_self] at q; (replace q := Option.some.inj q; subst q); exact ⟨lo.1, fun i => lo.2.1 rfl, fun i => by (exact Mine.no_ft i)⟩
    · rw [upd_ne hb] at q; exact S.low b x q
  · have key : ∀ d, H d = none → d ≠ a → upd H a (.inst C fs') d = none := fun d z hd => (upd_ne hd).trans z
    by_cases hb : b = a
    · subst hb
      exact key _ ex fun z => by rw [z, e] at ex; (exact Mine.no_sn ex)
    · rw [upd_ne hb] at q
      have z := S.excl b x q i
      exact key _ z fun y => by rw [y, e] at z; (exact Mine.no_sn z)
  · (refine Mine.el_AEEA (S.envs env m) fun k L l f q => ?_)
    have hL : L ≠ a := fun z => by rw [z, e] at q; (exact Mine.tag_ne (Option.some.inj q) rfl)
    exact ⟨k, L, l, f, (upd_ne hL).trans q⟩
theorem Real.there {h : Heap} {a : Nat} {o : AO} (r : Real h a o) : h.get? a ≠ none := by
  intro z
  cases o with
  | list xs => (refine Mine.el_EEA r fun vs n e r => ?_); rw [z] at e; (exact Mine.no_ns e)
  | tup xs => (refine Mine.el_EEA r fun vs n e r => ?_); rw [z] at e; (exact Mine.no_ns e)
  | ns l => (refine Mine.el_EA r fun m zq0 _ => ?_; refine Mine.el_EEEA zq0 fun _ _ _ e _ => ?_; clear zq0; (try clear r)); rw [z] at e; (exact Mine.no_ns e)
  | cell v => (refine Mine.el_EEA r fun o v' e r => ?_); rw [z] at e; (exact Mine.no_ns e)
  | inst C fs => (refine Mine.el_AA r fun h1 e r => ?_); rw [z] at e; (exact Mine.no_ns e)
  | imap kvs => (refine Mine.el_EEA r fun es n e r => ?_); rw [z] at e; (exact Mine.no_ns e)
  | iter l i => (refine Mine.el_EA r fun o e r => ?_); rw [z] at e; (exact Mine.no_ns e)
  | titer l i => (refine Mine.el_EA r fun o e r => ?_); rw [z] at e; (exact Mine.no_ns e)
  | exc cls tb ctx => (refine Mine.el_EEA r fun o vs e r => ?_); rw [z] at e; (exact Mine.no_ns e)
  | tb => (refine Mine.el_EEA r fun o ts e r => ?_); rw [z] at e; (exact Mine.no_ns e)
  | raw o => have r' : h.get? a = some o := r; rw [z] at r'; (exact Mine.no_ns r')
theorem St.freshG (S : St c envs H s) {a : Nat} (h : s.heap.get? a = none) : H a = none := by
  cases e : H a with
  | none => rfl
  | some o => exact absurd h (S.real a o e).there
theorem St.newG {h' : Heap} {a : Nat} {o : AO} {t : Nat} (S : St c envs H s) (hk : ∀ b x, s.heap.get? b = some x → h'.get? b = some x) (ha : s.heap.get? a = none) (hi : o.isInst = true → s.heap.get? (a - 1) = none) (hns : o.isBig = true → s.heap.objs.size ≤ a)
    (r : Real h' a o) (hz : c.base.objs.size ≤ h'.objs.size) :
    St c envs (upd H a o) { s with heap := h', toks := t } := by
  have nb : ∀ d : Nat, s.heap.get? d = none → c.base.get? d = none := fun d hd => by
    cases z : c.base.get? d with
    | none => rfl
    | some y => have := S.base d y z; rw [hd] at this; (exact Mine.no_ns this)
  refine ⟨fun b x q => hk _ _ (S.base b x q), fun b x q => ?_, fun b x q => ?_, fun b x q i => ?_, fun env m => ?_, S.gens, S.drawn, S.os, hz⟩
  · by_cases hb : b = a
    · subst hb; rw [upd_self] at q; (replace q := Option.some.inj q; subst q); exact r
    · rw [upd_ne hb] at q; exact (S.real b x q).keep fun d _ y hy => hk d y hy
  · by_cases hb' : b = a
    · subst hb'; rw [upd_self] at q; (replace q := Option.some.inj q; subst q)
      exact ⟨nb b ha, fun i => nb _ (hi i), fun i => Nat.le_trans S.size (hns i)⟩
    · rw [upd_ne hb'] at q; exact S.low b x q
  · by_cases hb' : b = a
    · subst hb'; rw [upd_self] at q; (replace q := Option.some.inj q; subst q)
      have z := S.freshG (hi i)
      have h1 : 1 ≤ b := by cases o <;> first | exact r.1 | (exact Mine.no_ft i)
      rw [upd_ne (by first | decide | omega)]; exact z
    · rw [upd_ne hb'] at q
      have z := S.excl b x q i
      have hb2 : b - 1 ≠ a := fun y => by
        have r := S.real b x q
        cases x with
        | inst C fs => (refine Mine.el_AAEEA r fun _ _ es n hx _ => ?_; (try clear r)); rw [y, ha] at hx; (exact Mine.no_ns hx)
        | _ => (exact Mine.no_ft i)
      rw [upd_ne hb2]; exact z
  · (refine Mine.el_AEEA (S.envs env m) fun k L l f q => ?_)
    have hL : L ≠ a := fun z => (S.real L _ q).there (z ▸ ha)
    exact ⟨k, L, l, f, (upd_ne hL).trans q⟩
theorem get_big {h : Heap} {a : Nat} (ha : h.objs.size ≤ a) : h.get? a = none := by
  cases e : h.get? a with
  | none => rfl
  | some o => have : a < h.objs.size := Heap.lt_size e; omega
theorem St.new {h' : Heap} {a : Nat} {o : AO} {t : Nat} (S : St c envs H s) (hk : ∀ b x, s.heap.get? b = some x → h'.get? b = some x) (ha : s.heap.objs.size ≤ a) (hi : o.isInst = true → s.heap.objs.size ≤ a - 1) (r : Real h' a o) (hz : s.heap.objs.size ≤ h'.objs.size) :
    St c envs (upd H a o) { s with heap := h', toks := t } :=
  S.newG hk (get_big ha) (fun i => get_big (hi i)) (fun _ => ha) r (Nat.le_trans S.size hz)
end
end Mine
end
section
open PySem PySem.W PyProof.Rows PySem.Calls
set_option linter.unusedVariables false
set_option Elab.async false
namespace Mine
section
variable {prog : Program} {w : World} {K : Frag} {c : Cx prog w K} {envs : List Env} {H : AH} {A : Around} {E : Value → Shared → Prop} {s : Shared}
theorem hideQ {α : Type} {M : Model} {t : Sem α} {Q : α → Shared → Prop} (h : ∀ QQ : α → Shared → Prop, (∀ v s, Q v s → QQ v s) → wpAny M A t QQ E s) : wpAny M A t Q E s := h Q fun _ _ x => x
theorem hideE {α : Type} {M : Model} {t : Sem α} {Q : α → Shared → Prop} (h : ∀ EE : Value → Shared → Prop, (∀ v s, E v s → EE v s) → wpAny M A t Q EE s) : wpAny M A t Q E s := h E fun _ _ x => x
theorem unhide {α : Type} {Q QQ : α → Shared → Prop} {v : α} (h : ∀ v s, Q v s → QQ v s) (k : Q v s) : QQ v s := h v s k
theorem execs_cons_h {M : Model} {st : Stmt} {rest : List Stmt} {env : Env} {Q : Flow → Shared → Prop} (h : ∀ QQ : Flow → Shared → Prop, (∀ f s', (match f with | .next => wpAny M A (execs rest env) Q E s' | f => Q f s') → QQ f s') → wpAny M A (exec st env) QQ E s) : wpAny M A (execs (st :: rest) env) Q E s :=
  wpAny_execs_cons (h _ fun _ _ x => x)
theorem of_int {i : Int} {P : Value → Prop} (h : ∀ t, P (.int i t)) : ∀ v, er v = .int i 0 → P v := fun v e => by (refine Mine.el_E (er_int e) fun t zq0 => ?_; (first | subst zq0 | cases zq0)); exact h t
theorem of_ref {a : Addr} {P : Value → Prop} (h : P (.ref a)) : ∀ v, er v = .ref a → P v := fun v e => by rw [er_ref e]; exact h
theorem of_int2 {i : Int} {T : Shared → Prop} {P : Value → Shared → Prop} (h : ∀ t s', T s' → P (.int i t) s') : ∀ v s', er v = .int i 0 → T s' → P v s' := fun v s' e => by (refine Mine.el_E (er_int e) fun t zq0 => ?_; (first | subst zq0 | cases zq0)); exact h t s'
theorem of_ref2 {a : Addr} {T : Shared → Prop} {P : Value → Shared → Prop} (h : ∀ s', T s' → P (.ref a) s') : ∀ v s', er v = .ref a → T s' → P v s' := fun v s' e => by rw [er_ref e]; exact h s'
theorem of_bool2 {b : Bool} {T : Shared → Prop} {P : Value → Shared → Prop} (h : ∀ s', T s' → P (.bool b) s') : ∀ v s', er v = .bool b → T s' → P v s' := fun v s' e => by rw [er_bool e]; exact h s'
theorem St.get (S : St c envs H s) {a : Nat} {o : AO} (e : H a = some o) : Real s.heap a o := S.real a o e
theorem St.listSet (S : St c envs H s) {q : Nat} {xs xs' : List Value} {vs : Array Value} {n : Nat} {t : Nat} (e : H q = some (.list xs)) (hv : s.heap.get? q = some (listOf vs n)) (f : Array Value → Array Value) (hf : (f vs).toList.map er = xs') :
    St c envs (upd H q (.list xs')) { s with heap := s.heap.update q (Obj.mapSeq f), toks := t } :=
  S.set e (Heap.SameBut.update ..) ⟨_, _, PySem.IsL.update hv f, hf⟩ rfl rfl
theorem list_insert (S : St c envs H s) {q : Nat} {xs : List Value} {i : Int} {u : Tok} {y : Value} {Q : Value → Shared → Prop} (e : H q = some (.list xs)) (h0 : 0 ≤ i) (h1 : i ≤ xs.length) (hz : xs.length ≤ 100000)
    (h : ∀ s', St c envs (upd H q (.list (xs.take i.toNat ++ er y :: xs.drop i.toNat))) s' → Q .none s') : wpAny (model prog w) A (call (.builtin "list.insert") [.ref q, .int i u, y]) Q E s := by
  (refine Mine.el_EEA (S.get e) fun vs n hv zq0 => ?_; (first | subst zq0 | cases zq0))
  have hl : vs.toList.length = vs.size := by simp
  rw [List.length_map] at h1 hz
  have hf : Builtin.List.listFitsIndex i = true := fitsIndex_of h0 (by first | decide | omega)
  refine call_meets PySem.F.slot_list_insert ⟨_, hv, rfl⟩ PySem.F.entry_list_insert (PySem.F.args_list_insert_3 _ _ _) (PySem.AutoSeq1.list_insert_list_int_val_1 q _ n i u y (by simp [hf]) (by rw [sizeLine_eq]; omega)) ⟨hv, h _ (S.listSet e hv _ ?_)⟩
  have hk : (if i < 0 then (i + (vs.size : Int)).toNat else min i.toNat vs.size) = i.toNat := by rw [if_neg (by first | decide | omega)]; omega
  show List.map er ((vs.extract 0 (if i < 0 then (i + (vs.size : Int)).toNat else min i.toNat vs.size)).push y ++ vs.extract (if i < 0 then (i + (vs.size : Int)).toNat else min i.toNat vs.size)).toList = _
  rw [hk]
  have he : (vs.extract 0 i.toNat).push y ++ vs.extract i.toNat = (vs.toList.take i.toNat ++ y :: vs.toList.drop i.toNat).toArray := by
    have := kl_ins_eq vs.toList i.toNat y
    simpa using this
  rw [he]
  simp [List.map_take, List.map_drop]
theorem list_append (S : St c envs H s) {q : Nat} {xs : List Value} {y : Value} {Q : Value → Shared → Prop} (e : H q = some (.list xs)) (hz : xs.length ≤ 100000)
    (h : ∀ s', St c envs (upd H q (.list (xs ++ [er y]))) s' → Q .none s') : wpAny (model prog w) A (call (.builtin "list.append") [.ref q, y]) Q E s := by
  (refine Mine.el_EEA (S.get e) fun vs n hv zq0 => ?_; (first | subst zq0 | cases zq0))
  rw [List.length_map] at hz
  refine append_at hv (fun h' hs hg => h _ (S.set e hs ⟨_, _, hg, by simp⟩ rfl rfl)) (by
    rw [sizeLine_eq]
    have hl : vs.toList.length = vs.size := by simp
    omega)
theorem list_pop0 (S : St c envs H s) {q : Nat} {x : Value} {xs : List Value} {u : Tok} {Q : Value → Shared → Prop} (e : H q = some (.list (x :: xs))) (hz : xs.length ≤ 100000)
    (h : ∀ v s', er v = x → St c envs (upd H q (.list xs)) s' → Q v s') : wpAny (model prog w) A (call (.builtin "list.pop") [.ref q, .int 0 u]) Q E s := by
  (refine Mine.el_EEA (S.get e) fun vs n hv hm => ?_)
  obtain ⟨l, rfl⟩ : ∃ l : List Value, vs = l.toArray := ⟨vs.toList, by simp⟩
  simp only at hm
  cases l with
  | nil => simp at hm
  | cons y l =>
    simp only [List.map_cons, List.cons.injEq] at hm
    (refine Mine.el_A hm fun zq0 zq1 => ?_; (first | subst zq0 | cases zq0); (first | subst zq1 | cases zq1); (try clear hm))
    rw [List.length_map] at hz
    refine call_meets PySem.F.slot_list_pop ⟨_, hv, rfl⟩ PySem.F.entry_list_pop (PySem.F.args_list_pop_2 _ _) (PySem.MeetsSeq.list_pop_at q _ n 0 u 0 y (by decide +kernel) (by simp [seqIndex?]) (by simp) (by rw [sizeLine_eq]; simp; omega)) ⟨hv, h _ _ rfl (S.listSet e hv _ ?_)⟩
    have := kl_erase [] l y
    simp only [List.nil_append, List.length_nil] at this
    rw [this]
theorem St.tup (S : St c envs H s) {q : Nat} {xs : List Value} (e : H q = some (.tup xs)) : ∃ vs : List Value, IsTup s.heap q vs.toArray ∧ vs.map er = xs := by
  (refine Mine.el_EEA (S.get e) fun vs n hv hm => ?_)
  exact ⟨vs.toList, ⟨_, hv, rfl, n, by simp⟩, hm⟩
theorem St.list (S : St c envs H s) {q : Nat} {xs : List Value} (e : H q = some (.list xs)) : ∃ vs : List Value, s.heap.IsList q vs.toArray ∧ vs.map er = xs := by
  (refine Mine.el_EEA (S.get e) fun vs n hv hm => ?_)
  exact ⟨vs.toList, ⟨_, hv, rfl, n, by simp⟩, hm⟩
theorem map_get {vs : List Value} {xs : List Value} {j : Nat} {x : Value} (h : vs.map er = xs) (hx : xs[j]? = some x) : ∃ y, vs[j]? = some y ∧ er y = x := by
  subst h
  rw [List.getElem?_map] at hx
  exact Option.map_eq_some_iff.mp hx
theorem tup_item (S : St c envs H s) {value slice : PySem.Expr} {q : Nat} {xs : List Value} {k : Int} {u : Tok} {x : Value} {Q : Value → Shared → Prop} (e : H q = some (.tup xs)) (h0 : 0 ≤ k) (hk : k < 2 ^ 62) (hx : xs[k.toNat]? = some x)
    (h : ∀ v, er v = x → Q v s) (hs : subscripted slice false (.ref q) (.int k u) = operate [.ref q, .int k u] (getItem (.ref q) (.int k u)) := by with_unfolding_all rfl) :
    wpAny (model prog w) A (subscriptTail value slice (.ref q) (.int k u)) Q E s := by
  (refine Mine.el_EA (S.tup e) fun vs ht hm => ?_)
  (refine Mine.el_EA (map_get hm hx) fun y hy he => ?_)
  have hl : k.toNat < vs.length := (List.getElem?_eq_some_iff.mp hy).1
  refine item_tupleT ht (by first | decide | omega) (by first | decide | omega) (j := k.toNat) ?_ hy (h y he) hs
  exact seqIndex_of h0 (by first | decide | omega)
theorem list_item (S : St c envs H s) {value slice : PySem.Expr} {q : Nat} {xs : List Value} {k : Int} {u : Tok} {x : Value} {Q : Value → Shared → Prop} (e : H q = some (.list xs)) (h0 : 0 ≤ k) (hk : k < 2 ^ 62) (hx : xs[k.toNat]? = some x)
    (h : ∀ v, er v = x → Q v s) (hs : subscripted slice false (.ref q) (.int k u) = operate [.ref q, .int k u] (getItem (.ref q) (.int k u)) := by with_unfolding_all rfl) :
    wpAny (model prog w) A (subscriptTail value slice (.ref q) (.int k u)) Q E s := by
  (refine Mine.el_EA (S.list e) fun vs ht hm => ?_)
  (refine Mine.el_EA (map_get hm hx) fun y hy he => ?_)
  exact tail_any ht.typeIs slot_list_getitem.lookup (wpAny_getItem_list ht h0 (by first | decide | omega) (by simpa using hy) (h y he)) hs
theorem len_list (S : St c envs H s) {q : Nat} {xs : List Value} {Q : Value → Shared → Prop} (e : H q = some (.list xs)) (hz : xs.length < 2 ^ 60) (h : ∀ t s', St c envs H s' → Q (.int xs.length t) s') :
    wpAny (model prog w) A (call (.builtin "len") [.ref q]) Q E s := by
  (refine Mine.el_EA (S.list e) fun vs ht hm => ?_)
  have hl : vs.length = xs.length := by rw [← hm, List.length_map]
  refine call_len_list ht (by simp; omega) ?_
  have := h (s.toks + 1) _ (S.tok (s.toks + 1 + 1))
  simpa [hl] using this
theorem nm (S : St c envs H s) {env : Env} {L : Nat} {l : List (Str × Value)} {x : Str} {v : Value} {Q : Value → Shared → Prop} (hH : H L = some (.ns l)) (hx : l.lookup x = some v) (h : ∀ v', er v' = v → Q v' s)
    (hL : env.locals = L := by rfl) (hk : env.scope.kind = .function := by rfl) (hl : env.kindOf x = some .local := by rfl) : wpAny (model prog w) A (loadName env x) Q E s := by
  subst hL
  (refine Mine.el_EA (S.get hH) fun m hn hm => ?_)
  have z := hm x v hx
  (refine Mine.el_EA (Option.map_eq_some_iff.mp z) fun y hy he => ?_)
  exact wpAny_loadName_local hk hl hn hy (h y he)
section
variable {env : Env} {L : Nat} {l : List (Str × Value)} {x : Str} {pos : Pos} {Q : Value → Shared → Prop}
theorem nm_ref {a : Nat} (S : St c envs H s) (hH : H L = some (.ns l)) (hx : l.lookup x = some (.ref a)) (h : Q (.ref a) s)
    (hL : env.locals = L := by rfl) (hk : env.scope.kind = .function := by rfl) (hl : env.kindOf x = some .local := by rfl) (hd : (x == ("__debug__" : Str)) = false := by decide) : wpAny (model prog w) A (eval (.Name x pos) env) Q E s :=
  wpAny_Name (nm S hH hx (fun v he => er_ref he ▸ h) hL hk hl) hd
theorem nm_int {i : Int} (S : St c envs H s) (hH : H L = some (.ns l)) (hx : l.lookup x = some (.int i 0)) (h : ∀ t, Q (.int i t) s)
    (hL : env.locals = L := by rfl) (hk : env.scope.kind = .function := by rfl) (hl : env.kindOf x = some .local := by rfl) (hd : (x == ("__debug__" : Str)) = false := by decide) : wpAny (model prog w) A (eval (.Name x pos) env) Q E s :=
  wpAny_Name (nm S hH hx (fun v he => by (refine Mine.el_E (er_int he) fun t zq0 => ?_; (first | subst zq0 | cases zq0)); exact h t) hL hk hl) hd
theorem nm_bool {b : Bool} (S : St c envs H s) (hH : H L = some (.ns l)) (hx : l.lookup x = some (.bool b)) (h : Q (.bool b) s)
    (hL : env.locals = L := by rfl) (hk : env.scope.kind = .function := by rfl) (hl : env.kindOf x = some .local := by rfl) (hd : (x == ("__debug__" : Str)) = false := by decide) : wpAny (model prog w) A (eval (.Name x pos) env) Q E s :=
  wpAny_Name (nm S hH hx (fun v he => er_bool he ▸ h) hL hk hl) hd
theorem nm_none (S : St c envs H s) (hH : H L = some (.ns l)) (hx : l.lookup x = some .none) (h : Q .none s)
    (hL : env.locals = L := by rfl) (hk : env.scope.kind = .function := by rfl) (hl : env.kindOf x = some .local := by rfl) (hd : (x == ("__debug__" : Str)) = false := by decide) : wpAny (model prog w) A (eval (.Name x pos) env) Q E s :=
  wpAny_Name (nm S hH hx (fun v he => er_none he ▸ h) hL hk hl) hd
end
theorem stv (S : St c envs H s) {env : Env} {L : Nat} {l : List (Str × Value)} {x : Str} {v v' : Value} {Q : Unit → Shared → Prop} (hH : H L = some (.ns l)) (hv : er v = v')
    (h : ∀ s', St c envs (upd H L (.ns ((x, v') :: l))) s' → Q () s')
    (hL : env.locals = L) (hk : env.scope.kind = .function := by rfl) (hl : env.kindOf x = some .local := by rfl) : wpAny (model prog w) A (storeName env x v) Q E s := by
  subst hL hv
  (refine Mine.el_EA (S.get hH) fun m hn hm => ?_)
  refine wpAny_storeName_local hl hn (fun h' hn' hs => h _ (S.set hH hs ⟨_, hn', fun y u hy => ?_⟩ rfl rfl)) (by rw [hk]; rfl)
  rw [List.lookup_cons] at hy
  by_cases hyx : y = x
  · subst hyx
    rw [if_pos rfl]
    simp at hy
    simp [hy]
  · rw [if_neg hyx]
    have hb : (y == x) = false := by simpa using hyx
    simp only [hb] at hy
    exact hm y u hy
theorem nm_global {env : Env} {x : Str} {pos : Pos} {v : Value} {Q : Value → Shared → Prop} (S : St c envs H s) (e : nsIn K mainGlobals x = some (some v)) (h : Q v s)
    (hg : env.globals = mainGlobals := by rfl) (hk : env.scope.kind = .function := by rfl) (hx : env.kindOf x = some .globalImplicit := by rfl) (hd : (x == ("__debug__" : Str)) = false := by decide) : wpAny (model prog w) A (eval (.Name x pos) env) Q E s :=
  Name_function_global hk hx (loadGlobal_global (hg ▸ S.top.g) (mg_of S.inK S.top.g e) h) hd
theorem nm_builtin {env : Env} {x : Str} {pos : Pos} {v : Value} {Q : Value → Shared → Prop} (S : St c envs H s) (e : nsIn K mainGlobals x = some none) (hv : bootBuiltins x = some v) (hn : x ≠ "__name__") (h : Q v s)
    (hg : env.globals = mainGlobals := by rfl) (hb : env.builtins = builtinsNs := by rfl) (hk : env.scope.kind = .function := by rfl) (hx : env.kindOf x = some .globalImplicit := by rfl) (hd : (x == ("__debug__" : Str)) = false := by decide) : wpAny (model prog w) A (eval (.Name x pos) env) Q E s :=
  Name_function_global hk hx (loadGlobal_builtin (hg ▸ S.top.g) (mg_none_of S.inK S.top.g e) (hb ▸ S.top.b) ((S.top.builtins x hn).trans hv) h) hd
noncomputable def setk (x : Str) (v : Value) : List (Str × Value) → List (Str × Value)
  | [] => [(x, v)]
  | p :: r => if p.1 == x then (x, v) :: r else p :: setk x v r
theorem setk_lookup (x : Str) (v : Value) (y : Str) : ∀ l : List (Str × Value), (setk x v l).lookup y = if y = x then some v else l.lookup y
  | [] => by
    simp only [setk, List.lookup_cons]
    by_cases h : y = x
    · simp [h]
    · have : (y == x) = false := by simpa using h
      simp [h, this]
  | p :: r => by
    unfold setk
    by_cases hp : p.1 == x
    · rw [if_pos hp]
      obtain ⟨a, b⟩ := p
      have ha : a = x := by simpa using hp
      subst ha
      by_cases h : y = a
      · simp [h, List.lookup_cons]
      · have : (y == a) = false := by simpa using h
        simp [h, List.lookup_cons, this]
    · rw [if_neg hp]
      obtain ⟨a, b⟩ := p
      have ha : ¬ a = x := by simpa using hp
      rw [List.lookup_cons, List.lookup_cons, setk_lookup x v y r]
      by_cases h : y = a
      · have : (y == a) = true := by simpa using h
        have hx : ¬ y = x := fun z => ha (h ▸ z)
        simp [this, hx]
      · have : (y == a) = false := by simpa using h
        simp [this]
theorem setk_le {x : Str} {v : Value} {n : Nat} : ∀ {l : List (Str × Value)}, l.length ≤ n → (setk x v l).length ≤ n + 1
  | [], _ => Nat.succ_le_succ (Nat.zero_le _)
  | p :: r, h => by
    unfold setk
    split
    · exact Nat.le_succ_of_le h
    · cases n with
      | zero => cases h
      | succ n => exact Nat.succ_le_succ (setk_le (Nat.le_of_succ_le_succ h))
theorem setk_length (x : Str) (v : Value) : ∀ l : List (Str × Value), (setk x v l).length = if (l.lookup x).isSome then l.length else l.length + 1
  | [] => rfl
  | p :: r => by
    obtain ⟨a, b⟩ := p
    unfold setk
    rw [List.lookup_cons]
    by_cases h : a = x
    · subst h; simp
    · have h1 : (a == x) = false := by simpa using h
      have h2 : (x == a) = false := by simpa using fun z : x = a => h z.symm
      simp only [h1, h2, Bool.false_eq_true, if_false, List.length_cons]
      rw [setk_length x v r]
      split <;> rfl
theorem getL_gv (y : Str) {es : List DictEntry} (h : ∀ e ∈ es, e.refKey = false) : getL y es = some (gv y es) := by
  unfold getL gv
  cases es.find? (fun e => e.key.isStr y) with
  | some e => rfl
  | none =>
    have : es.any (·.refKey) = false := by
      rw [List.any_eq_false]; intro e he; simp [h e he]
    simp [this]
theorem gv_putL (name : Str) (hsh : Int) (tk : Tok) (v : Value) (y : Str) : ∀ (es : List DictEntry), gv y (putL name hsh (.str name tk) v es) = if y = name then some v else gv y es
  | [] => by
    by_cases h : y = name
    · subst h; simp [gv, putL, Value.isStr]
    · have h1 : (name == y) = false := by simpa using fun z : name = y => h z.symm
      simp [gv, putL, Value.isStr, h, h1]
  | e :: r => by
    have hinj : ∀ a b : Str, e.key.isStr a = true → e.key.isStr b = true → a = b := Value.isStr_inj e.key
    unfold putL
    by_cases hn : e.key.isStr name = true
    · rw [if_pos hn]
      by_cases h : y = name
      · subst h; simp [gv, hn]
      · have hy : e.key.isStr y = false := by
          cases q : e.key.isStr y with
          | false => rfl
          | true => exact absurd (hinj _ _ q hn) h
        simp [gv, List.find?_cons, hy, if_neg h]
    · rw [if_neg hn]
      have ih := gv_putL name hsh tk v y r
      by_cases hy : e.key.isStr y = true
      · have h : ¬ y = name := fun z => hn (z ▸ hy)
        simp [gv, hy, h]
      · have hy' : e.key.isStr y = false := by simpa using hy
        unfold gv at ih ⊢
        simp only [List.find?_cons, hy']
        exact ih
theorem putL_refKey (name : Str) (hsh : Int) (tk : Tok) (v : Value) : ∀ {es : List DictEntry}, (∀ e ∈ es, e.refKey = false) → ∀ e ∈ putL name hsh (.str name tk) v es, e.refKey = false
  | [], _, e, he => by
    have : e = ⟨hsh, .str name tk, v⟩ := by simpa [putL] using he
    subst this; rfl
  | e₀ :: r, h, e, he => by
    unfold putL at he
    split at he
    · rcases List.mem_cons.mp he with rfl | he
      · have := h e₀ (.head _); simpa [DictEntry.refKey] using this
      · exact h e (.tail _ he)
    · rcases List.mem_cons.mp he with rfl | he
      · exact h _ (.head _)
      · exact putL_refKey name hsh tk v (fun e he => h e (.tail _ he)) e he
theorem putL_length (name : Str) (hsh : Int) (key v : Value) : ∀ es : List DictEntry, (putL name hsh key v es).length = if es.any (·.key.isStr name) then es.length else es.length + 1
  | [] => rfl
  | e :: r => by
    unfold putL
    by_cases h : e.key.isStr name = true
    · simp [h]
    · have h' : e.key.isStr name = false := by simpa using h
      simp only [h', Bool.false_eq_true, if_false, List.length_cons, List.any_cons, Bool.false_or]
      rw [putL_length name hsh key v r]
      split <;> rfl
theorem any_gv {name : Str} {es : List DictEntry} : es.any (·.key.isStr name) = (gv name es).isSome := by
  unfold gv
  cases q : es.find? (fun e => e.key.isStr name) with
  | some e =>
    have := List.find?_some q
    rw [List.any_eq_true.mpr ⟨e, List.mem_of_find?_eq_some q, this⟩]; rfl
  | none =>
    have : es.any (·.key.isStr name) = false := by
      rw [List.any_eq_false]
      intro e he
      have := List.find?_eq_none.mp q e he
      simpa using this
    rw [this]; rfl
theorem St.inst (S : St c envs H s) {a : Nat} {C : Addr} {fs : List (Str × Value)} (e : H a = some (.inst C fs)) :
    ∃ es n, InstAt s.heap a (instObj C (a - 1)) C (some (dictOf es n)) ∧ s.heap.get? (a - 1) = some (dictOf es n) ∧ es.length ≤ fs.length ∧ (∀ e ∈ es, e.refKey = false) ∧ ∀ x, (gv x es).map er = fs.lookup x := by
  (refine Mine.el_AAEEAAA (S.get e) fun h1 ha es n hd hz hk hm => ?_)
  exact ⟨es, n, ⟨ha, rfl, rfl, hd⟩, hd, hz, hk, hm⟩
theorem at_get {a : Nat} {C : Addr} {fs : List (Str × Value)} {name : Str} {v : Value} {attr : Option Value} {expr : Bool} {Q : Value → Shared → Prop} (S : St c envs H s) (e : H a = some (.inst C fs)) (hx : fs.lookup name = some v)
    (hg : plainGet K C name = true) (hh : hasDictIn K C = true) (ha : findIn K (.ref C) name = some attr) (hn : noGet K attr = true) (hv : handedIn v = true)
    (h : ∀ v' s', er v' = v → St c envs H s' → Q v' s') : wpAny (model prog w) A (getAttr (.ref a) name expr) Q E s := by
  (refine Mine.el_EEAAAA (S.inst e) fun es n I hd hz hk hm => ?_)
  have z := hm name
  rw [hx] at z
  (refine Mine.el_EA (Option.map_eq_some_iff.mp z) fun y hy he => ?_)
  refine get_value S.inK I (plainGet_of hg).1 (findObj_own hh ha hn (by rw [lookIn_dict, getL_gv _ hk, hy])) ?_ (h y _ he (S.tok _))
  subst he
  cases y <;> first | rfl | exact hv
theorem at_set {a : Nat} {C : Addr} {fs : List (Str × Value)} {name : Str} {v : Value} {Q : Unit → Shared → Prop} (S : St c envs H s) (e : H a = some (.inst C fs)) (hfz : fs.length ≤ 1000)
    (hs : findIn K (.ref C) "__setattr__" = some (some (.builtin "object.__setattr__"))) (hp : plainOver K C = true) (ht : takerIn K C name = some none) (hh : hasDictIn K C = true)
    (h : ∀ s', St c envs (upd H a (.inst C (setk name (er v) fs))) s' → Q () s') : wpAny (model prog w) A (setAttr (.ref a) name v) Q E s := by
  (refine Mine.el_EEAAAA (S.inst e) fun es n I hdd hz hk hm => ?_)
  refine set_plain S.inK I hs (osa_open (s := { s with toks := s.toks + 1 }) S.inK I hp ht fun b => ?_)
  (refine Mine.el_EA (any_some hh) fun cd hc hd => ?_)
  obtain ⟨hx, hcl, hno, -⟩ := I
  refine wpAny_bind (wpAny_pure (wpAny_bind (wpAny_bind (wpAny_loadPart hx (wpAny_bind ((looks_clsIn (M := model prog w) S.inK hc) _ _ _ _ (fun _ _ e => e) ?_))))))
  rw [hd]
  refine wpAny_pure (a := some (a - 1)) (wpAny_bind (wpAny_pure (wpAny_bind ?_)))
  unfold nsSet
  refine wpAny_bind (wpAny_bind (wpAny_askSetting (wpAny_pure (wpAny_bind (wpAny_mkText (wpAny_bind (wpAny_loadPart hdd ?_)))))))
  dsimp only
  have cnd' : (!es.toArray.any (·.key.isStr name) && es.toArray.any (·.refKey)) = false := by
    have : es.any (·.refKey) = false := by
      rw [List.any_eq_false]; intro e he; simp [hk e he]
    simp [this]
  rw [aRefKeyMayBeTheName_at, cnd']
  refine wpAny_updatePart hdd ?_
  have up := Heap.get?_update_self (Obj.putName name (PyData.keyHash w.params name) (.str name (s.toks + 1)) v) hdd (by rw [putName_dict]; rfl)
  rw [putName_dict] at up
  have hlen : (putL name (PyData.keyHash w.params name) (.str name (s.toks + 1)) v es).length ≤ (setk name (er v) fs).length := by
    rw [putL_length, setk_length, any_gv, ← hm name]
    cases gv name es <;> simp <;> omega
  have hlen2 : (setk name (er v) fs).length ≤ 1001 := by rw [setk_length]; split <;> omega
  refine wpAny_bind (wpAny_lookBehind up (pastItsLine_dict (by rw [List.size_toArray, sizeLine_eq]; omega)) ?_)
  have r := S.get e
  refine wpAny_pure (h _ (S.setDict e (Heap.SameBut.update ..) ⟨r.1, ?_, _, _, up, hlen, putL_refKey _ _ _ _ hk, fun x => ?_⟩))
  · rw [Heap.get?_update_other _ _ (by have := r.1; show a - 1 ≠ a; omega)]; exact hx
  · rw [gv_putL, setk_lookup]
    by_cases hxn : x = name
    · rw [if_pos hxn, if_pos hxn]; rfl
    · rw [if_neg hxn, if_neg hxn]; exact hm x
theorem meth {a : Nat} {C : Addr} {fs : List (Str × Value)} {name : Str} {f : Addr} {pl : Sem Bool} {Q : Value × List Value → Shared → Prop} (S : St c envs H s) (e : H a = some (.inst C fs)) (hx : fs.lookup name = none)
    (hg : plainGet K C name = true) (hf : findIn K (.ref C) name = some (some (.ref f))) (ht : isFn K (.ref f) = true) (h : Q (.ref f, [.ref a]) s) : wpAny (model prog w) A (getMethod (.ref a) name pl) Q E s := by
  (refine Mine.el_EEAAAA (S.inst e) fun es n I hd hz hk hm => ?_)
  have z := hm name
  rw [hx] at z
  have : gv name es = none := by simpa using z
  refine method_fn S.inK I (plainGet_of hg).1 (plainGet_of hg).2 hf (beq_iff_eq.mp ht) ?_ h
  show (lookIn name (dictOf es n)).map _ = _
  rw [lookIn_dict, getL_gv _ hk, this]; rfl
end
end Mine
end
section
open PySem PySem.W PyProof.Rows PySem.Calls
set_option linter.unusedVariables false
set_option Elab.async false
namespace Mine
theorem ne_fresh {H : AH} {a b : Nat} {o : AO} (h : H a = none) (k : H b = some o) : b ≠ a := fun z => by rw [z, h] at k; (exact Mine.no_ns k)
theorem upd_other {H : AH} {a b : Nat} {o : AO} {r : Option AO} (h : b ≠ a) (k : H b = r) : upd H a o b = r := (upd_ne h).trans k
structure Rm (A : Around) (d u : Nat) : Prop where
  depth : A.depth + d ≤ 900
  units : A.units + u ≤ 9000
theorem Rm.mono {A : Around} {d u d' u' : Nat} (R : Rm A d u) (hd : d' ≤ d) (hu : u' ≤ u) : Rm A d' u' := ⟨by have := R.depth; omega, by have := R.units; omega⟩
theorem Rm.deeper {A : Around} {d u : Nat} {env : Env} (R : Rm A (d + 1) (u + 3)) : Rm (A.deeper env) d u :=
  ⟨by have := R.depth; rw [depth_deeper]; omega, by have := R.units; rw [units_deeper]; omega⟩
theorem Rm.in1 {A : Around} {d u : Nat} (R : Rm A d (u + 1)) : Rm A.in1 d u := ⟨R.depth, by have := R.units; rw [units_in1]; omega⟩
theorem Rm.mark {A : Around} {d u : Nat} {h : Option Value} (R : Rm A d u) : Rm (A.mark h) d u := ⟨R.depth, R.units⟩
theorem Rm.room {A : Around} {d u : Nat} (R : Rm A d u) : A.depth < recursionLimit := by have := R.depth; unfold recursionLimit; omega
theorem Rm.line {A : Around} {d u : Nat} (R : Rm A d u) : A.units < cLine := by have := R.units; unfold cLine; omega
section
variable {prog : Program} {w : World} {K : Frag} {c : Cx prog w K} {envs : List Env} {H : AH} {A : Around} {E : Value → Shared → Prop} {s : Shared}
noncomputable abbrev backR (Q E : Value → Shared → Prop) : Result → Shared → Prop := fun r s' => match r with | .ok (.ret v) => Q v s' | .ok _ => False | .error e => E e s'
theorem lookup_er (x : Str) : ∀ l : List (Str × Value), (l.map fun p => (p.1, er p.2)).lookup x = (l.lookup x).map er
  | [] => rfl
  | p :: r => by
    rw [List.map_cons, List.lookup_cons, List.lookup_cons, lookup_er x r]
    cases x == p.1 <;> rfl
theorem code_fn {f : Addr} {oc ct : Value} {od an : Option Addr} {osl : Array (Option Value)} {name qual : Str} {params : Arguments} {body : List Stmt} {scope : Scope} {dV kV doc pm cdv : Value} {args : Args} {binds : List (Str × Value)} {l : List (Str × Value)} {R : Result → Shared → Prop} {d u : Nat}
    (S : St c envs H s) (Ro : Rm A d u) (ho : K.lookup f = some ⟨oc, od, .func (fnOf name qual params body scope dV kV doc pm an cdv ct), osl⟩) (hcd : codeIn K cdv qual = true)
    (hbind : BindsTo s (fnOf name qual params body scope dV kV doc pm an cdv ct) args binds) (hl : (binds.reverse.map fun p => (p.1, er p.2)) = l)
    (h : ∀ L s', H L = none → St c (callEnv (fnOf name qual params body scope dV kV doc pm an cdv ct) L f :: envs) (upd H L (.ns l)) s' →
      wpAny (model prog w) (A.deeper (callEnv (fnOf name qual params body scope dV kV doc pm an cdv ct) L f)) (execs body (callEnv (fnOf name qual params body scope dV kV doc pm an cdv ct) L f)) (fun fl s' => R (.ok (.ret (match fl with | .ret v => v | _ => .none))) s')
        (fun e s' => wpAny (model prog w) (A.deeper (callEnv (fnOf name qual params body scope dV kV doc pm an cdv ct) L f)) (leaving (callEnv (fnOf name qual params body scope dV kV doc pm an cdv ct) L f) e) (fun _ s'' => R (.error e) s'') (fun e' s'' => R (.error e') s'') s') s')
    (hloc : ∀ x ∈ binds, scope.names.lookup x.1 = some .local) (hcell : ∀ x ∈ scope.names, x.2 ≠ .cell)
    (hco : scope.isCoroutine = false) (hgen : scope.isGenerator = false) (hk : scope.kind = .function) : codeAny (model prog w) A (.call (.ref f) args) R s := by
  subst hl
  refine codeAny_call_def (fd := fnOf name qual params body scope dV kV doc pm an cdv ct) Ro.room (S.inK _ _ ho) rfl S.top.nolimit (codeRec_of S.inK hcd) rfl hbind hcell hloc (fun h₀ hn hkeep => ?_) hco hgen hk
  refine h _ _ (S.fresh (Nat.le_refl _)) ?_
  have S1 := S.new (a := s.heap.objs.size) (o := .ns (binds.reverse.map fun p => (p.1, er p.2))) (t := s.toks + binds.length) hkeep (Nat.le_refl _) (fun i => by (exact Mine.no_ft i))
    ⟨_, hn, fun x v hx => by rw [lookup_er] at hx; exact hx⟩ (Nat.le_of_lt hn.lt)
  refine ⟨S1.base, S1.real, S1.low, S1.excl, fun env m => ?_, S1.gens, S1.drawn, S1.os, S1.size⟩
  rcases List.mem_cons.mp m with rfl | m
  · exact ⟨by show scope.kind ≠ .module; rw [hk]; decide, s.heap.objs.size, _, rfl, upd_self ..⟩
  · exact S1.envs env m
theorem St.fr (S : St c envs H s) {L : Nat} {l : List (Str × Value)} (e : H L = some (.ns l)) : ∃ m, Fr c.base L s.heap m :=
  let ⟨m, hn, _⟩ := S.get e; ⟨m, hn, S.base, (S.low L _ e).2.2 rfl⟩
theorem const_int {i : Int} {k pos env} {Q : Value → Shared → Prop} (S : St c envs H s) (h : ∀ t s', St c envs H s' → Q (.int i t) s') : wpAny (model prog w) A (eval (.Constant (.int i) k pos) env) Q E s := wpAny_Constant_int (h _ _ (S.tok _))
theorem const_str {x : Str} {k pos env} {Q : Value → Shared → Prop} (S : St c envs H s) (h : ∀ t s', St c envs H s' → Q (.str x t) s') : wpAny (model prog w) A (eval (.Constant (.str x) k pos) env) Q E s := wpAny_Constant_str (h _ _ (S.tok _))
section
variable {a b : Int} {t u : Tok} {Q : Value → Shared → Prop}
theorem s_add (S : St c envs H s) (h : ∀ t s', St c envs H s' → Q (.int (a + b) t) s') : wpAny (model prog w) A (binaryOp .Add (.int a t) (.int b u)) Q E s := PyProof.Rows.add_int (h _ _ (S.tok _))
theorem s_sub (S : St c envs H s) (h : ∀ t s', St c envs H s' → Q (.int (a - b) t) s') : wpAny (model prog w) A (binaryOp .Sub (.int a t) (.int b u)) Q E s := PyProof.Rows.sub_int (h _ _ (S.tok _))
theorem s_iadd (S : St c envs H s) (h : ∀ t s', St c envs H s' → Q (.int (a + b) t) s') : wpAny (model prog w) A (inplaceOp .Add (.int a t) (.int b u)) Q E s := PyProof.Rows.iadd_int (h _ _ (S.tok _))
theorem s_isub (S : St c envs H s) (h : ∀ t s', St c envs H s' → Q (.int (a - b) t) s') : wpAny (model prog w) A (inplaceOp .Sub (.int a t) (.int b u)) Q E s := PyProof.Rows.isub_int (h _ _ (S.tok _))
end
theorem isi_inst {x C f : Nat} {fs : List (Str × Value)} {Q : Value → Shared → Prop} (S : St c envs H s) (e : H x = some (.inst f fs)) (hi : isIn K (.ref f) C = true) (h : Q (.bool true) s) :
    wpAny (model prog w) A (call (.builtin "isinstance") [.ref x, .ref C]) Q E s := by
  (refine Mine.el_EEA (S.inst e) fun es n I zq0 => ?_; clear zq0)
  exact isi_call S.inK (fun M => I.type) hi (by intro z; cases z) h
theorem cmp_inst {op : CmpOp} {x y C f L : Nat} {fs fs' : List (Str × Value)} {l : List (Str × Value)} {Q : Value → Shared → Prop} (S : St c envs H s) (Ro : Rm A 0 0) (hL : H L = some (.ns l)) (ex : H x = some (.inst C fs)) (ey : H y = some (.inst C fs'))
    (hn : notFirst K C (.ref C) = true) (hs : findIn K (.ref C) (cmpInfo op).2.1 = some (some (.ref f))) (hf : isFn K (.ref f) = true) (h : wpAny (model prog w) A (call (.ref f) [.ref x, .ref y]) (PySem.W.CmpBack Q) E s) :
    wpAny (model prog w) A (richCompare op (.ref x) (.ref y)) Q E s := by
  (refine Mine.el_E (S.fr hL) fun m F => ?_)
  (refine Mine.el_EEA (S.inst ex) fun es n I zq0 => ?_; clear zq0)
  (refine Mine.el_EEA (S.inst ey) fun es' n' I' zq0 => ?_; clear zq0)
  exact cmp_K Ro.line F c.inK I (I'.type) hn hs hf h
theorem list_meth {q : Nat} {xs : List Value} {name : Str} {id : String} {pl : Sem Bool} {Q : Value × List Value → Shared → Prop} (S : St c envs H s) (e : H q = some (.list xs)) (slot : Slot "list" name id) (hty : typeOf (.builtin id) = pure (.type "method_descriptor"))
    (h : Q (.builtin id, [.ref q]) s) : wpAny (model prog w) A (getMethod (.ref q) name pl) Q E s := by
  (refine Mine.el_EEA (S.get e) fun vs n hv zq0 => ?_; clear zq0)
  exact getMethod_builtin ⟨_, hv, rfl⟩ PySem.F.plainAttrs_list slot hty (fun a e => by cases e; exact ⟨_, hv, rfl⟩) h
end
noncomputable def AO.le (o o' : AO) : Prop := o = o' ∨ ∃ l l', o = .ns l ∧ o' = .ns l' ∧ ∀ x v, l.lookup x = some v → l'.lookup x = some v
theorem AO.le.rfl' (o : AO) : o.le o := .inl rfl
theorem AO.le.trans {a b d : AO} (h : a.le b) (k : b.le d) : a.le d := by
  rcases h with rfl | ⟨l, l', rfl, rfl, h⟩
  · exact k
  · rcases k with rfl | ⟨m, m', e, rfl, k⟩
    · exact .inr ⟨_, _, rfl, rfl, h⟩
    · cases e; exact .inr ⟨_, _, rfl, rfl, fun x v q => k x v (h x v q)⟩
theorem AO.le.inst {o o' : AO} (h : o.le o') : o'.isInst = o.isInst := by
  rcases h with rfl | ⟨l, l', rfl, rfl, h⟩ <;> rfl
theorem AO.le.big {o o' : AO} (h : o.le o') : o'.isBig = o.isBig := by
  rcases h with rfl | ⟨l, l', rfl, rfl, h⟩ <;> rfl
theorem Real.le {h : Heap} {a : Nat} {o o' : AO} (k : o.le o') (r : Real h a o') : Real h a o := by
  rcases k with rfl | ⟨l, l', rfl, rfl, k⟩
  · exact r
  · (refine Mine.el_EA r fun m hn hm => ?_; (try clear r)); exact ⟨m, hn, fun x v q => hm x v (k x v q)⟩
noncomputable def Sub (H G : AH) : Prop := ∀ (a : Nat) o, H a = some o → ∃ o', G a = some o' ∧ o.le o'
theorem Sub.refl (H : AH) : Sub H H := fun _ o e => ⟨o, e, .inl rfl⟩
theorem Sub.trans {H G F : AH} (x : Sub H G) (y : Sub G F) : Sub H F := fun a o e => by
  (refine Mine.el_EA (x a o e) fun o1 e1 l1 => ?_)
  (refine Mine.el_EA (y a o1 e1) fun o2 e2 l2 => ?_)
  exact ⟨o2, e2, l1.trans l2⟩
theorem Sub.fresh {H G : AH} {a : Nat} {x : AO} (h : Sub H G) (n : H a = none) : Sub H (upd G a x) := fun b o e => by
  rw [upd_ne (fun z => by rw [z, n] at e; (exact Mine.no_ns e))]; exact h b o e
theorem Sub.upd2 {H G : AH} {a : Nat} {x y : AO} (h : Sub H G) (k : x.le y) : Sub (upd H a x) (upd G a y) := fun b o e => by
  by_cases hb : b = a
  · subst hb; rw [upd_self] at e; (replace e := Option.some.inj e; subst e); exact ⟨y, upd_self .., k⟩
  · rw [upd_ne hb] at e ⊢; exact h b o e
theorem lookup_mem {x : Str} {v : Value} : ∀ {l : List (Str × Value)}, l.lookup x = some v → (x, v) ∈ l
  | [], h => by (exact Mine.no_ns h)
  | (a, b) :: r, h => by
    rw [List.lookup_cons] at h
    by_cases q : x = a
    · subst q; simp at h; subst h; exact .head _
    · have : (x == a) = false := by simpa using q
      rw [this] at h; exact .tail _ (lookup_mem h)
theorem ns_le {l l' : List (Str × Value)} (h : ∀ p ∈ l, l'.lookup p.1 = some p.2) : (AO.ns l).le (.ns l') := .inr ⟨l, l', rfl, rfl, fun x v e => h (x, v) (lookup_mem e)⟩
noncomputable def Frs (envs : List Env) (H : AH) : Prop := ∀ env ∈ envs, env.scope.kind ≠ .module ∧ ∃ L l, env.frame = some L ∧ H L = some (.ns l)
theorem Frs.turn {envs : List Env} {H : AH} {a : Nat} {o x : AO} (f : Frs envs H) (e : H a = some o) (n : o.isNs = false) : Frs envs (Mine.upd H a x) := fun env m => by
  (refine Mine.el_AEEA (f env m) fun k L l h1 h2 => ?_)
  exact ⟨k, L, l, h1, upd_other (fun z => by rw [z, e] at h2; (replace h2 := Option.some.inj h2; subst h2); (exact Mine.no_tf n)) h2⟩
theorem Frs.fresh {envs : List Env} {H : AH} {a : Nat} {x : AO} (f : Frs envs H) (e : H a = none) : Frs envs (Mine.upd H a x) := fun env m => by
  (refine Mine.el_AEEA (f env m) fun k L l h1 h2 => ?_)
  exact ⟨k, L, l, h1, upd_other (fun z => by rw [z, e] at h2; (exact Mine.no_ns h2)) h2⟩
section
variable {prog : Program} {w : World} {K : Frag} {c : Cx prog w K} {envs : List Env} {H : AH} {A : Around} {E : Value → Shared → Prop} {s : Shared}
theorem St.frs (S : St c envs H s) : Frs envs H := S.envs
theorem excl_sub {G : AH} (S : ∀ (a : Nat) o, G a = some o → o.isInst = true → G (a - 1) = none) (h : Sub H G) : ∀ (a : Nat) o, H a = some o → o.isInst = true → H (a - 1) = none := fun a o e i => by
  cases q : H (a - 1) with
  | none => rfl
  | some o' =>
    (refine Mine.el_EA (h a o e) fun o1 e1 l1 => ?_)
    (refine Mine.el_EA (h _ _ q) fun o2 e2 l2 => ?_)
    have z := S a o1 e1 (l1.inst.trans i)
    rw [e2] at z; (exact Mine.no_sn z)
theorem St.sub {G : AH} {envs' : List Env} (S : St c envs' G s) (h : Sub H G) (f : Frs envs H) : St c envs H s :=
  ⟨S.base, fun a o e => let ⟨o', e', l'⟩ := h a o e; (S.real a o' e').le l', fun a o e => let ⟨o', e', l'⟩ := h a o e; ⟨(S.low a o' e').1, fun i => (S.low a o' e').2.1 (l'.inst.trans i), fun i => (S.low a o' e').2.2 (l'.big.trans i)⟩, excl_sub S.excl h, f, S.gens, S.drawn, S.os, S.size⟩
theorem St.ret {env : Env} {G : AH} (S : St c (env :: envs) G s) (h : Sub H G) (f : Frs envs H) : St c envs H s := S.sub h f
theorem Frs.re {H : AH} {a : Nat} {l l' : List (Str × Value)} (f : Frs envs (upd H a (.ns l))) : Frs envs (upd H a (.ns l')) := by
  intro env m
  (refine Mine.el_AEEA (f env m) fun k L l1 h1 h2 => ?_)
  by_cases q : L = a
  · subst q; exact ⟨k, L, l', h1, upd_self ..⟩
  · exact ⟨k, L, l1, h1, by rw [upd_ne q] at h2 ⊢; exact h2⟩
theorem Frs.ns {H : AH} {a : Nat} {l l' : List (Str × Value)} (f : Frs envs H) (e : H a = some (.ns l)) : Frs envs (upd H a (.ns l')) := fun env m => by
  (refine Mine.el_AEEA (f env m) fun k L l1 h1 h2 => ?_)
  by_cases q : L = a
  · subst q; exact ⟨k, L, l', h1, upd_self ..⟩
  · exact ⟨k, L, l1, h1, (upd_ne q).trans h2⟩
noncomputable def Turn (n : Nat) (I : Nat → Shared → Prop) (s : Shared) : Prop := ∃ m, m < n ∧ I m s
theorem while_ {test : Expr} {body orelse : List Stmt} {pos : Pos} {env : Env} {Q : Flow → Shared → Prop} (I : Nat → Shared → Prop)
    (turn : ∀ n s, I n s →
      wpAny (model prog w) A (isTrue test env (eval test env)) (fun b s₂ =>
        if b then wpAny (model prog w) A (execs body env) (fun f s₃ => match f with
            | .next | .cont => Turn n I s₃
            | .brk => Q .next s₃
            | .ret v => Q (.ret v) s₃) (notedBy (model prog w) A env fun e s' => cameBackBy (model prog w) A env E e s') s₂
        else wpAny (model prog w) A (execs orelse env) (fun f s₃ => Q f s₃) (notedBy (model prog w) A env fun e s' => cameBackBy (model prog w) A env E e s') s₂)
        (notedBy (model prog w) A env fun e s' => cameBackBy (model prog w) A env E e s') s)
    (n : Nat) (h : I n s) : wpAny (model prog w) A (exec (.While test body orelse pos) env) Q E s :=
  wpAny_While (codeAny_whileLoop I turn n h)
theorem while_h {test : Expr} {body orelse : List Stmt} {pos : Pos} {env : Env} {Q : Flow → Shared → Prop} (I : Nat → Shared → Prop)
    (turn : ∀ n s, I n s → ∀ (QB QE : Flow → Shared → Prop) (EE : Value → Shared → Prop), (∀ f s₃, (match f with
            | .next | .cont => Turn n I s₃
            | .brk => Q .next s₃
            | .ret v => Q (.ret v) s₃) → QB f s₃) → (∀ f s₃, Q f s₃ → QE f s₃) → (∀ e s₃, notedBy (model prog w) A env (fun e s' => cameBackBy (model prog w) A env E e s') e s₃ → EE e s₃) →
      wpAny (model prog w) A (isTrue test env (eval test env)) (fun b s₂ => if b then wpAny (model prog w) A (execs body env) QB EE s₂ else wpAny (model prog w) A (execs orelse env) QE EE s₂) EE s)
    (n : Nat) (h : I n s) : wpAny (model prog w) A (exec (.While test body orelse pos) env) Q E s :=
  while_ I (fun n s hI => turn n s hI _ _ _ (fun _ _ x => x) (fun _ _ x => x) (fun _ _ x => x)) n h
end
end Mine
end
section
open PySem PySem.W PyProof.Rows PySem.Calls
set_option linter.unusedVariables false
set_option Elab.async false
namespace Mine
section
variable {prog : Program} {w : World} {K : Frag} {c : Cx prog w K} {envs outer : List Env} {env : Env} {H G : AH} {A : Around} {E : Value → Shared → Prop} {s : Shared} {e : Nat} {cls : Value}
theorem frames_fun (S : St c envs H s) {B : Heap} (hB : ∀ env ∈ envs, ∀ L, env.frame = some L → B.get? L = none) : s.heap.FunFrames B envs := by
  have go : ∀ l : List Env, (∀ env ∈ l, env ∈ envs) → s.heap.FunFrames B l := by
    intro l
    induction l with
    | nil => intro _; trivial
    | cons env r ih =>
      intro h
      (refine Mine.el_AEEA (S.envs env (h env (.head _))) fun k L ll hf hl => ?_)
      (refine Mine.el_EA (S.get hl) fun m zq0 _ => ?_; refine Mine.el_EEEAA zq0 fun o es ep ho hd _ => ?_; clear zq0)
      exact ⟨k, ⟨L, o, hf, hB env (h env (.head _)) L hf, ho, fun vs q => by rw [hd] at q; cases q⟩, ih fun x hx => h x (.tail _ hx)⟩
  exact go envs fun _ h => h
theorem Real.up {h h' : Heap} {a : Nat} {o : AO} {fr : List Nat} (r : Real h a o) (hs : Heap.SlotsOnly fr h h') (n : o.isNs = true ∨ ∀ b, o.at a b → b ∉ fr) : Real h' a o := by
  by_cases q : o.isNs = true
  · cases o with
    | ns l =>
      (refine Mine.el_EA r fun m zq0 hm => ?_; refine Mine.el_EEEAA zq0 fun o1 es ep ho1 hd1 r1 => ?_; clear zq0; (try clear r))
      (refine Mine.el_E (hs.2.2 a o1 ho1) fun sl z => ?_)
      exact ⟨m, ⟨_, es, ep, z, hd1, r1⟩, hm⟩
    | _ => (exact Mine.no_ft q)
  · rcases n with n | n
    · exact absurd n q
    · exact r.keep fun b hb x hx => (hs.2.1 b (n b hb)).trans hx
theorem St.slots {h' : Heap} (S : St c envs H s) (hs : Heap.SlotsOnly (envs.filterMap (·.frame)) s.heap h') : St c envs H { s with heap := h' } := by
  have fm : ∀ b : Nat, b ∈ envs.filterMap (·.frame) → ∃ l, H b = some (.ns l) := fun b hb => by
    (refine Mine.el_EA (List.mem_filterMap.mp hb) fun x hx hxf => ?_)
    (refine Mine.el_AEEA (S.envs x hx) fun k L' l hf' hl => ?_)
    rw [hf'] at hxf; (replace hxf := (Option.some.inj hxf).symm; subst hxf); exact ⟨l, hl⟩
  refine ⟨fun b x q => (hs.2.1 b fun m => ?_).trans (S.base b x q), fun a o q => (S.get q).up hs ?_, S.low, S.excl, S.envs, S.gens, S.drawn, S.os, hs.1 ▸ S.size⟩
  · (refine Mine.el_E (fm b m) fun l hl => ?_)
    have := (S.low b _ hl).1
    rw [q] at this; (exact Mine.no_sn this)
  · by_cases i : o.isNs = true
    · exact .inl i
    · refine .inr fun b hb m => ?_
      (refine Mine.el_E (fm b m) fun l hl => ?_)
      rcases hb with rfl | ⟨ii, rfl⟩
      · rw [q] at hl; (replace hl := Option.some.inj hl; subst hl); exact i rfl
      · have := S.excl a o q ii; rw [hl] at this; (exact Mine.no_sn this)
theorem Real.exc {h : Heap} {tb ctx : Option Nat} (r : Real h e (.exc cls tb ctx)) : ∃ o vs, h.get? e = some o ∧ o.cls = cls ∧ o.data = .fields vs ∧ vs[1]? = some (tb.elim .none .ref) ∧ vs[2]? = some (ctx.elim .none .ref) := r
theorem entry_ {head : Value} {hadNext : Bool} {tb ctx : Option Nat} {L : Nat} {Q : Unit → Shared → Prop} (S : St c (env :: outer) H s) (hfr : A.frames = some (env :: outer)) (hf : env.frame = some L) (he : H e = some (.exc cls tb ctx))
    (k : ∀ T s', H T = none → T ≠ e → St c (env :: outer) (upd (upd H T .tb) e (.exc cls (some T) ctx)) s' → Q () s') :
    wpAny (model prog w) A (do let a ← frameOf env; let pl ← entryPlaceOf L hadNext; let b ← EntryCells.newEntry head a .none (rawInt L) .none pl; setField (.ref e) 1 b) Q E s := by
  refine wpAny_bind (wpAny_frameOf_fun (base := hideAll s.heap ((env :: outer).filterMap (·.frame))) hfr (frames_fun S fun x hx L' hL' => hideAll_none _ (List.mem_filterMap.mpr ⟨x, hx, hL'⟩)) hf fun h₁ hs₁ => ?_)
  have S1 := S.slots hs₁
  refine wpAny_bind (wpAny_entryPlaceOf fun pl hpl => ?_)
  unfold EntryCells.newEntry newFields
  refine wpAny_bind (wpAny_newObj_type ?_ (hpl.sizeOk5 _ _ _ _ _))
  have S2 := S1.new (a := h₁.objs.size) (o := .tb) (t := s.toks) (h' := h₁.push { cls := .type "traceback", dict := none, data := .fields ([head, .ref L, .none, rawInt L, .none] ++ (if pl.isEmpty then List.replicate 6 Value.none else pl)).toArray })
    (fun b x q => Heap.get?_push_of_some _ q) (Nat.le_refl _) (by intro i; (exact Mine.no_ft i)) ⟨_, _, Heap.get?_push_size _ rfl, rfl, by simp⟩ (by rw [Heap.size_push]; exact Nat.le_succ _)
  have hT : H h₁.objs.size = none := S1.fresh (Nat.le_refl _)
  have hTe : h₁.objs.size ≠ e := fun z => by rw [z, he] at hT; (exact Mine.no_sn hT)
  have he2 : upd H h₁.objs.size .tb e = some (.exc cls tb ctx) := upd_other hTe.symm he
  (refine Mine.el_EEAAAA (S2.get he2) fun oe vs ho hc hd h1 h2 => ?_)
  have hsz : 1 < vs.size := (Array.getElem?_eq_some_iff.mp h1).1
  have hd' := Obj.data_mapFields hd (·.setIfInBounds 1 (Value.ref h₁.objs.size))
  refine wpAny_setField ho hd hsz (k h₁.objs.size _ hT hTe (S2.set (t := s.toks) he2 (Heap.SameBut.update ..) ⟨_, _, Heap.get?_update_self _ ho (Obj.isFreed_of_fields hd'), ?_, hd', by simp [hsz], ?_⟩ rfl rfl))
  · rw [Obj.cls_mapFields]; exact hc
  · rw [Array.getElem?_setIfInBounds_ne (by decide)]; exact h2
theorem setTb (S : St c envs H s) {T : Nat} (hT : H T = some .tb) {i : Nat} {x : Value} {Q : Unit → Shared → Prop} (hi : i ≤ 3) (k : ∀ s', St c envs H s' → Q () s') : wpAny (model prog w) A (setField (.ref T) i x) Q E s := by
  (refine Mine.el_EEAA (S.get hT) fun o ts ho hd hz => ?_)
  refine wpAny_setField ho hd (by first | decide | omega) (k _ ?_)
  have hd' := Obj.data_mapFields hd (·.setIfInBounds i x)
  have S1 := S.set (o' := .tb) (t := s.toks) hT (Heap.SameBut.update s.heap T (Obj.mapFields (·.setIfInBounds i x)))
    ⟨_, _, Heap.get?_update_self _ ho (Obj.isFreed_of_fields hd'), hd', by simpa using hz⟩ rfl rfl
  refine S1.sub (fun b o q => ?_) S.frs
  by_cases hb : b = T
  · subst hb; rw [hT] at q; (replace q := Option.some.inj q; subst q); exact ⟨_, upd_self .., .inl rfl⟩
  · exact ⟨o, (upd_ne hb).trans q, .inl rfl⟩
variable {ctx : Option Nat}
noncomputable def FlyT (c : Cx prog w K) (envs : List Env) (H : AH) (e : Nat) (cls : Value) (ctx : Option Nat) (s : Shared) : Prop :=
  H e = none ∧ ∃ T : Nat, T ≠ e ∧ H T = none ∧ St c envs (upd (upd H T .tb) e (.exc cls (some T) ctx)) s
noncomputable def Fly (c : Cx prog w K) (envs : List Env) (H : AH) (e : Nat) (cls : Value) (ctx : Option Nat) (s : Shared) : Prop :=
  FlyT c envs H e cls ctx s ∨ (H e = none ∧ St c envs (upd H e (.exc cls none ctx)) s)
theorem FlyT.frs (F : FlyT c envs H e cls ctx s) : Frs envs H := fun env m => by
  (refine Mine.el_AEAA F fun h1 T h2 h3 S => ?_; (try clear F))
  (refine Mine.el_AEEA (S.envs env m) fun k L l a b => ?_)
  refine ⟨k, L, l, a, ?_⟩
  by_cases q : L = e
  · subst q; rw [upd_self] at b; (exact Mine.tag_ne (Option.some.inj b) rfl)
  · rw [upd_ne q] at b
    by_cases q : L = T
    · subst q; rw [upd_self] at b; (exact Mine.tag_ne (Option.some.inj b) rfl)
    · rw [upd_ne q] at b; exact b
theorem FlyT.sub {envs' : List Env} (F : FlyT c envs' G e cls ctx s) (h : Sub H G) (f : Frs envs H) : FlyT c envs H e cls ctx s := by
  (refine Mine.el_AEAA F fun h1 T h2 h3 S => ?_; (try clear F))
  have n : ∀ x : Nat, G x = none → H x = none := fun x z => by
    cases q : H x with
    | none => rfl
    | some o => (refine Mine.el_EA (h x o q) fun o' y _ => ?_); rw [z] at y; (exact Mine.no_ns y)
  refine ⟨n e h1, T, h2, n T h3, S.sub (Sub.upd2 (Sub.upd2 h (.inl rfl)) (.inl rfl)) ?_⟩
  exact (f.fresh (n T h3)).fresh (upd_other (fun z => h2 z.symm) (n e h1))
theorem fly_note {L : Nat} {Q : Unit → Shared → Prop} (F : Fly c (env :: outer) H e cls ctx s) (hfr : A.frames = some (env :: outer)) (hf : env.frame = some L) (k : ∀ s', FlyT c (env :: outer) H e cls ctx s' → Q () s') :
    wpAny (model prog w) A (noteFrame (.ref e) env) Q E s := by
  unfold noteFrame
  simp only [hf]
  rcases F with ⟨he, T, hTe, hT, S⟩ | ⟨he, S⟩
  · have e1 : upd (upd H T .tb) e (.exc cls (some T) ctx) e = some (.exc cls (some T) ctx) := upd_self ..
    have eT : upd (upd H T .tb) e (.exc cls (some T) ctx) T = some .tb := upd_other hTe (upd_self ..)
    (refine Mine.el_EEAAAA ((S.get e1).exc) fun oe vs ho hc hd h1 zq0 => ?_; clear zq0)
    (refine Mine.el_EEAA (S.get eT) fun oT ts hoT hdT hzT => ?_)
    refine wpAny_bind (wpAny_field ho hd h1 ?_)
    rw [if_pos (show ((some T).elim Value.none Value.ref != Value.none) = true from by simp)]
    refine wpAny_bind (wpAny_field hoT hdT (Array.getElem?_eq_getElem hzT) ?_)
    by_cases hq : (ts[3] == rawInt L) = true
    · rw [if_pos hq]
      exact wpAny_pure (k _ ⟨he, T, hTe, hT, S⟩)
    · rw [if_neg hq]
      refine wpAny_bind (setTb S eT (Nat.le_refl 3) fun s1 S1 => ?_)
      refine entry_ S1 hfr hf e1 fun T' s2 hT' a1 S2 => k _ ?_
      have a2 : T' ≠ T := fun z => by rw [z, eT] at hT'; (exact Mine.no_sn hT')
      have hHT' : H T' = none := by rw [upd_ne a1, upd_ne a2] at hT'; exact hT'
      refine ⟨he, T', a1, hHT', S2.sub ?_ ?_⟩
      · refine Sub.upd2 ?_ (.inl rfl)
        refine Sub.upd2 ?_ (.inl rfl)
        exact ((Sub.refl H).fresh hT).fresh he
      · have f0 : Frs (env :: outer) H := FlyT.frs ⟨he, T, hTe, hT, S⟩
        exact (f0.fresh hHT').fresh (upd_other a1.symm he)
  · have e1 : upd H e (.exc cls none ctx) e = some (.exc cls none ctx) := upd_self ..
    (refine Mine.el_EEAAAA ((S.get e1).exc) fun oe vs ho hc hd h1 zq0 => ?_; clear zq0)
    refine wpAny_bind (wpAny_field ho hd h1 ?_)
    rw [if_neg (show ¬ ((none : Option Nat).elim Value.none Value.ref != Value.none) = true from by simp)]
    refine entry_ S hfr hf e1 fun T' s2 hT' a1 S2 => k _ ?_
    have hHT' : H T' = none := by rw [upd_ne a1] at hT'; exact hT'
    have f0 : Frs (env :: outer) H := fun x m => by
      (refine Mine.el_AEEA (S.envs x m) fun kk L' l a b => ?_)
      refine ⟨kk, L', l, a, ?_⟩
      by_cases q : L' = e
      · subst q; rw [upd_self] at b; (exact Mine.tag_ne (Option.some.inj b) rfl)
      · rw [upd_ne q] at b; exact b
    refine ⟨he, T', a1, hHT', S2.sub ?_ ?_⟩
    · refine Sub.upd2 ?_ (.inl rfl)
      refine Sub.upd2 ?_ (.inl rfl)
      exact (Sub.refl H).fresh he
    · exact (f0.fresh hHT').fresh (upd_other a1.symm he)
theorem fly_flight {fr : Option Addr} {Q : Unit → Shared → Prop} (F : FlyT c envs H e cls ctx s) (k : ∀ s', FlyT c envs H e cls ctx s' → Q () s') : wpAny (model prog w) A (setFlight (.ref e) fr) Q E s := by
  (refine Mine.el_AEAA F fun he T hTe hT S => ?_; (try clear F))
  have e1 : upd (upd H T .tb) e (.exc cls (some T) ctx) e = some (.exc cls (some T) ctx) := upd_self ..
  have eT : upd (upd H T .tb) e (.exc cls (some T) ctx) T = some .tb := upd_other hTe (upd_self ..)
  (refine Mine.el_EEAAAA ((S.get e1).exc) fun oe vs ho hc hd h1 zq0 => ?_; clear zq0)
  unfold setFlight
  refine wpAny_bind (wpAny_field ho hd h1 ?_)
  rw [if_pos (show ((some T).elim Value.none Value.ref != Value.none) = true from by simp)]
  exact setTb S eT (Nat.le_refl 3) fun s' S' => k _ ⟨he, T, hTe, hT, S'⟩
theorem fly_leave {L : Nat} {Q : Unit → Shared → Prop} (F : Fly c (env :: outer) H e cls ctx s) (hfr : A.frames = some (env :: outer)) (hf : env.frame = some L) (k : ∀ s', FlyT c (env :: outer) H e cls ctx s' → Q () s') :
    wpAny (model prog w) A (leaving env (.ref e)) Q E s :=
  wpAny_bind (fly_note F hfr hf fun _ F' => fly_flight F' k)
theorem fly_field {Q : Value → Shared → Prop} (F : FlyT c envs H e cls ctx s) (k : ∀ T : Nat, Q (.ref T) s) : wpAny (model prog w) A (field (.ref e) 1) Q E s := by
  (refine Mine.el_AEAA F fun he T hTe hT S => ?_; (try clear F))
  (refine Mine.el_EEAAAA ((S.get (upd_self ..)).exc) fun oe vs ho hc hd h1 zq0 => ?_; clear zq0)
  exact wpAny_field ho hd h1 (k T)
theorem fly_came (F : FlyT c envs H e cls ctx s) (k : ∀ s', FlyT c envs H e cls ctx s' → E (.ref e) s') : cameBackBy (model prog w) A env E (.ref e) s := by
  unfold cameBackBy
  refine wpAny_bind (fly_field F fun T => ?_)
  rw [if_neg (by simp)]
  exact fly_flight F k
theorem fly_noted {L : Nat} (F : Fly c (env :: outer) H e cls ctx s) (hfr : A.frames = some (env :: outer)) (hf : env.frame = some L) (k : ∀ s', FlyT c (env :: outer) H e cls ctx s' → E (.ref e) s') : notedBy (model prog w) A env E (.ref e) s :=
  fly_note F hfr hf k
theorem fly_passOn {α : Type} {what : String} {Q : α → Shared → Prop} (F : FlyT c envs H e cls ctx s) (k : ∀ s', FlyT c envs H e cls ctx s' → E (.ref e) s') : wpAny (model prog w) A (PySem.passOn what (.ref e) env) Q E s := by
  unfold PySem.passOn
  refine wpAny_bind (fly_field F fun T => ?_)
  rw [if_neg (by simp)]
  refine wpAny_bind (fly_flight F fun s' F' => wpAny_throw (k s' F'))
theorem newExc_fly {h' : Heap} {t : Nat} {X : String} (S : St c (env :: outer) H s) (x : Heap.NewExc s.heap h' e X) : Fly c (env :: outer) H e (.type X) none { s with heap := h', toks := t } := by
  (refine Mine.el_EEAA x.there fun ob tt ho hc hd => ?_)
  (refine Mine.el_AEEA (S.envs env (.head _)) fun _ L l _ h2 => ?_)
  (refine Mine.el_EA (S.get h2) fun m zq0 _ => ?_; refine Mine.el_EEEA zq0 fun o1 es ep ho1 _ => ?_; clear zq0)
  exact .inr ⟨S.freshG x.new, S.newG x.keeps x.new (by intro i; (exact Mine.no_ft i)) (by intro i; (exact Mine.no_ft i)) ⟨ob, _, ho, hc, hd, rfl, rfl⟩
    (Nat.le_of_lt (Nat.lt_of_le_of_lt ((S.low L _ h2).2.2 rfl) (Heap.lt_size (x.keeps _ _ ho1))))⟩
theorem list_pop0_empty {q : Nat} {u : Tok} {Q : Value → Shared → Prop} (S : St c (env :: outer) H s) (hh : A.handled = none) (e : H q = some (.list [])) (h : ∀ x s', Fly c (env :: outer) H x (.type "IndexError") none s' → E (.ref x) s') :
    wpAny (model prog w) A (call (.builtin "list.pop") [.ref q, .int 0 u]) Q E s := by
  (refine Mine.el_EEA (S.get e) fun vs n hv hm => ?_)
  have hz : vs.isEmpty = true := by
    have : vs.toList = [] := List.map_eq_nil_iff.mp hm
    simpa using this
  refine call_meets PySem.F.slot_list_pop ⟨_, hv, rfl⟩ PySem.F.entry_list_pop (PySem.F.args_list_pop_2 _ _) (PySem.AutoSeq1.list_pop_list_int_1 q _ n 0 u (by decide +kernel) hz) ⟨hv, hh, fun h' tk x hx => h _ _ (newExc_fly S hx)⟩
end
end Mine
end
section
open PySem PySem.W PyProof.Rows PySem.Calls
set_option linter.unusedVariables false
set_option Elab.async false
namespace Mine
section
variable {prog : Program} {w : World} {K : Frag} {c : Cx prog w K} {envs outer : List Env} {env : Env} {H G : AH} {A : Around} {E : Value → Shared → Prop} {s : Shared}
theorem unchain_entry : entryFor PySem.table "proto.unchain" = some PySem.Builtin.«proto.unchain» := entryFor_of_tree (by kernel_rfl)
noncomputable def Hd (A : Around) (H : AH) : Prop := A.handled = none ∨ ∃ h : Nat, ∃ cls tb ctx, A.handled = some (.ref h) ∧ H h = some (.exc cls tb ctx) ∧
  (ctx = none ∨ ∃ g : Nat, ∃ cls' tb', ctx = some g ∧ g ≠ h ∧ H g = some (.exc cls' tb' none))
theorem Hd.sub {H G : AH} (d : Hd A H) (h : Sub H G) : Hd A G := by
  have one : ∀ (x : Nat) a b d, H x = some (.exc a b d) → G x = some (.exc a b d) := fun x a b d q => by
    (refine Mine.el_EA (h x _ q) fun o' e l => ?_)
    rcases l with rfl | ⟨l, l', z, _⟩
    · exact e
    · (exact Mine.tag_ne z rfl)
  rcases d with d | ⟨h, cls, tb, ctx, e, e1, r⟩
  · exact .inl d
  · refine .inr ⟨h, cls, tb, ctx, e, one _ _ _ _ e1, ?_⟩
    rcases r with r | ⟨g, c', t', a, b, d⟩
    · exact .inl r
    · exact .inr ⟨g, c', t', a, b, one _ _ _ _ d⟩
theorem Hd.fresh {H : AH} {a : Nat} {x : AO} (d : Hd A H) (e : H a = none) : Hd A (upd H a x) := d.sub ((Sub.refl H).fresh e)
theorem raise_ {α : Type} {x : Nat} {cls : Value} {Q : α → Shared → Prop} (d : Hd A H) (hx : H x = none) (S : St c envs (upd H x (.exc cls none none)) s)
    (k : ∀ ctx s', A.handled = ctx.map Value.ref → St c envs (upd H x (.exc cls none ctx)) s' → E (.ref x) s') : wpAny (model prog w) A (raiseNew (.ref x) : Sem α) Q E s := by
  unfold raiseNew
  refine wpAny_bind (wpAny_handled ?_)
  rcases d with d | ⟨h, c1, tb, ctx, e, e1, r⟩
  · rw [d]
    exact wpAny_bind (wpAny_pure (wpAny_throw (k none _ (by rw [d]; rfl) S)))
  · rw [e]
    have hne : h ≠ x := fun z => by rw [z, hx] at e1; (exact Mine.no_ns e1)
    have hb : ((Value.ref h) != (Value.ref x)) = true := by simpa using hne
    dsimp only
    rw [if_pos hb]
    have ex : upd H x (.exc cls none none) x = some (.exc cls none none) := upd_self ..
    (refine Mine.el_EEAAAA (S.get (upd_other hne e1 : upd H x (.exc cls none none) h = _)) fun oh vh hoh hch hdh h1h h2h => ?_)
    refine wpAny_bind (wpAny_holding (wpAny_runValue (codeAny_builtin unchain_entry ?_)))
    have fin : wpAny (model prog w) A (do updateField x 2 (.ref h); throw (.ref x) : Sem α) Q E s := by
      (refine Mine.el_EEAAAA (S.get ex) fun o vs ho hc hd h1 h2 => ?_)
      have hz : 2 < vs.size := (Array.getElem?_eq_some_iff.mp h2).1
      refine wpAny_bind ?_
      show wpAny _ _ (setField (.ref x) 2 (.ref h)) _ _ _
      have hd' := Obj.data_mapFields hd (·.setIfInBounds 2 (Value.ref h))
      refine wpAny_setField ho hd hz (wpAny_throw (k (some h) _ e ?_))
      have S' := S.set (o' := .exc cls none (some h)) (t := s.toks) ex (Heap.SameBut.update s.heap x (Obj.mapFields (·.setIfInBounds 2 (Value.ref h))))
        ⟨_, _, Heap.get?_update_self _ ho (Obj.isFreed_of_fields hd'), by rw [Obj.cls_mapFields]; exact hc, hd', by rw [Array.getElem?_setIfInBounds_ne (by decide)]; exact h1, by simp [hz]⟩ rfl rfl
      rw [upd_upd] at S'
      exact S'
    unfold PySem.Builtin.«proto.unchain»
    dsimp only
    refine wpAny_bind (wpAny_field hoh hdh h2h ?_)
    rcases r with rfl | ⟨g, c2, t2, rfl, hgh, e2⟩
    · rw [if_pos (show ((none : Option Nat).elim Value.none Value.ref == Value.none) = true from rfl)]
      exact wpAny_pure fin
    · have hgx : g ≠ x := fun z => by rw [z, hx] at e2; (exact Mine.no_ns e2)
      rw [if_neg (show ¬ ((some g).elim Value.none Value.ref == Value.none) = true from Bool.false_ne_true)]
      rw [if_neg (show ¬ ((some g).elim Value.none Value.ref == Value.ref x) = true from by simpa using hgx)]
      rw [if_neg (show ¬ ((some g).elim Value.none Value.ref == Value.ref h) = true from by simpa using hgh)]
      refine wpAny_bind (wpAny_pure (wpAny_pure ⟨by kernel_rfl, codeAny_builtin unchain_entry ?_⟩))
      (refine Mine.el_EEAAAA (S.get (upd_other hgx e2 : upd H x (.exc cls none none) g = _)) fun og vg hog hcg hdg h1g h2g => ?_)
      unfold PySem.Builtin.«proto.unchain»
      dsimp only
      refine wpAny_bind (wpAny_field hog hdg h2g ?_)
      rw [if_pos (show ((none : Option Nat).elim Value.none Value.ref == Value.none) = true from rfl)]
      exact wpAny_pure fin
end
end Mine
end
section
open PySem PySem.W PyProof.Rows PySem.Calls
set_option linter.unusedVariables false
set_option Elab.async false
namespace Mine
section
variable {prog : Program} {w : World} {K : Frag} {c : Cx prog w K} {envs outer : List Env} {env : Env} {H G : AH} {A : Around} {E : Value → Shared → Prop} {s : Shared}
theorem St.off {a : Nat} {o : AO} {h' : Heap} (S : St c envs (upd H a o) s) (n : H a = none) (hi : o.isInst = false) (hn : o.isNs = false) (hs : Heap.SameBut a s.heap h') : St c envs H { s with heap := h' } := by
  have ea : upd H a o a = some o := upd_self ..
  have neq : ∀ (b : Nat) x, H b = some x → b ≠ a := fun b x q z => by rw [z, n] at q; (exact Mine.no_ns q)
  have up : ∀ (b : Nat) x, H b = some x → upd H a o b = some x := fun b x q => upd_other (neq b x q) q
  refine ⟨fun b x q => (hs.2 b fun z => ?_).trans (S.base b x q), fun b x q => ?_, fun b x q => S.low b x (up b x q), fun b x q i => ?_, fun env m => ?_, S.gens, S.drawn, S.os, hs.1 ▸ S.size⟩
  · have := (S.low a _ ea).1; rw [z, this] at q; (exact Mine.no_ns q)
  · refine (S.real b x (up b x q)).keep fun d hd y hy => (hs.2 d ?_).trans hy
    rcases hd with rfl | ⟨i, rfl⟩
    · exact neq _ _ q
    · intro z; have := S.excl b x (up b x q) i; rw [z, ea] at this; (exact Mine.no_sn this)
  · have := S.excl b x (up b x q) i
    by_cases z : b - 1 = a
    · rw [z, ea] at this; (exact Mine.no_sn this)
    · rw [upd_ne z] at this; exact this
  · (refine Mine.el_AEEA (S.envs env m) fun k L l f q => ?_)
    refine ⟨k, L, l, f, ?_⟩
    by_cases z : L = a
    · rw [z, ea] at q; (replace q := Option.some.inj q; subst q); (exact Mine.no_tf hn)
    · rw [upd_ne z] at q; exact q
theorem stop_ {α : Type} {Q : α → Shared → Prop} (S : St c envs H s) (d : Hd A H) (k : ∀ x s', St c envs H s' → s'.TypeIs (.ref x) "StopIteration" → E (.ref x) s') :
    wpAny (model prog w) A (newExc (.type "StopIteration") [] >>= fun e => (raiseNew e : Sem α)) Q E s := by
  refine wpAny_bind ?_
  simp only [newExc, newTuple]
  refine wpAny_bind (wpAny_newObj_type ?_ (by size_fits))
  refine wpAny_bind (m := firstArgMember _ _) (wpAny_of_eq (a := Value.none) (by first | rfl | (simp only [firstArgMember]; rfl)) ?_)
  refine wpAny_newObj_type ?_ (by size_fits)
  have g1 : ∀ b x, s.heap.get? b = some x → (s.heap.push { cls := .type "tuple", data := .seq ([] : List Value).toArray }).get? b = some x := fun b x q => Heap.get?_push_of_some _ q
  generalize hh : s.heap.push { cls := .type "tuple", data := .seq ([] : List Value).toArray } = h1 at g1 ⊢
  have z1 : s.heap.objs.size ≤ h1.objs.size := by subst hh; rw [Heap.size_push]; exact Nat.le_succ _
  have hx : H h1.objs.size = none := S.fresh z1
  have S1 := S.new (a := h1.objs.size) (o := .exc (.type "StopIteration") none none) (t := s.toks)
    (h' := h1.push { cls := .type "StopIteration", data := .fields (#[.ref s.heap.objs.size, .none, .none, .none, .bool false, .none] ++ ownMembersOf (.type "StopIteration") []) })
    (fun b x q => Heap.get?_push_of_some _ (g1 b x q)) z1 (by intro i; (exact Mine.no_ft i))
    ⟨_, _, Heap.get?_push_size _ rfl, rfl, rfl, rfl, rfl⟩ (by rw [Heap.size_push]; omega)
  refine raise_ d hx S1 fun ctx s' _ S' => ?_
  (refine Mine.el_EEAAA (S'.get (upd_self ..)) fun o vs ho hc hd _ => ?_)
  exact k _ _ (S'.weak (fun b x q => upd_other (fun z => by rw [z, hx] at q; (exact Mine.no_ns q)) q) fun en m => ⟨m, fun L l hf q => by
    by_cases z : L = h1.objs.size
    · rw [z, upd_self] at q; (exact Mine.tag_ne (Option.some.inj q) rfl)
    · rw [upd_ne z] at q; exact q⟩) ⟨o, ho, hc⟩
theorem iter_list {l : Nat} {xs : List Value} {Q : Value → Shared → Prop} (S : St c envs H s) (hl : H l = some (.list xs)) (k : ∀ it s', H it = none → St c envs (upd H it (.iter l 0)) s' → Q (.ref it) s') :
    wpAny (model prog w) A (pyIter (.ref l)) Q E s := by
  (refine Mine.el_EA (S.list hl) fun vs ht hm => ?_)
  refine wpAny_pyIter_list ht (k _ _ (S.fresh (Nat.le_refl _)) ?_)
  exact S.new (t := s.toks) (fun b x q => Heap.get?_push_of_some _ q) (Nat.le_refl _) (by intro i; (exact Mine.no_ft i)) ⟨_, Heap.get?_push_size _ rfl, rfl, rfl⟩ (by rw [Heap.size_push]; exact Nat.le_succ _)
theorem next_item {it l i : Nat} {xs : List Value} {x : Value} {Q : Option Value → Shared → Prop} (S : St c envs H s) (hit : H it = some (.iter l i)) (hl : H l = some (.list xs)) (hx : xs[i]? = some x)
    (k : ∀ v s', er v = x → St c envs (upd H it (.iter l (i + 1))) s' → Q (some v) s') : wpAny (model prog w) A (pyNext (.ref it)) Q E s := by
  (refine Mine.el_EA (S.list hl) fun vs ht hm => ?_)
  (refine Mine.el_EA (map_get hm hx) fun y hy he => ?_)
  exact wpAny_pyNext_list_item (S.get hit) ht (by simpa using hy) fun h' hi hs => k y _ he (S.set (t := s.toks) hit hs hi rfl rfl)
theorem next_end {it l i : Nat} {xs : List Value} {Q : Option Value → Shared → Prop} (S : St c envs (upd H it (.iter l i)) s) (hit : H it = none) (hl : H l = some (.list xs)) (hx : xs.length ≤ i) (d : Hd A H)
    (k : ∀ s', St c envs H s' → Q none s') : wpAny (model prog w) A (pyNext (.ref it)) Q E s := by
  (refine Mine.el_EA (S.list (upd_other (fun z => by rw [z, hit] at hl; cases hl) hl : upd H it (.iter l i) l = _)) fun vs ht hm => ?_)
  have hI : s.heap.IsListIter it l i := S.get (upd_self ..)
  (refine Mine.el_EAA (id hI) fun o ho hc hd => ?_)
  (refine Mine.el_EAAE ht fun ol hol _ nl hdl => ?_; (try clear ht))
  unfold pyNext
  refine wpAny_bind (wpAny_attempt (wpAny_callSpecial?_slot (name := Str.ofString "__next__") hI.typeIs slot_listiter_next
    (wpAny_call_entry slot_listiter_next hI.typeIs entry_listiter_next ?_ (args_listiter_next _))))
  show wpAny _ _ (field (.ref it) 0 >>= _) _ _ s
  refine wpAny_bind (wpAny_field ho hd (x := .ref l) rfl ?_)
  show wpAny _ _ (if (Value.ref l == Value.none) = true then _ else _) _ _ s
  rw [if_neg (show ¬ ((Value.ref l == Value.none) = true) from Bool.false_ne_true)]
  show wpAny _ _ (field (.ref it) 1 >>= _) _ _ s
  refine wpAny_bind (wpAny_field ho hd (x := .int i 0) rfl ?_)
  show wpAny _ _ (seqItems? (.ref l) >>= _) _ _ s
  refine wpAny_bind (wpAny_seqItems hol hdl ?_)
  have hn : vs.toArray[(i : Int).toNat]? = none := by
    rw [Int.toNat_natCast]
    have : vs.length = xs.length := by rw [← hm, List.length_map]
    simp; omega
  simp only [hn]
  refine wpAny_bind (wpAny_rule (wpAny_bind (wpAny_setField ho hd (by simp) ?_)))
  show wpAny _ _ (newExc (.type "StopIteration") [] >>= _) _ _ _
  have S1 := S.off hit rfl rfl (Heap.SameBut.update s.heap it (Obj.mapFields (·.setIfInBounds 0 Value.none)))
  refine stop_ S1 (A := A.in1) d fun x s' S' ti => ?_
  refine wpAny_bind (wpAny_isInstance (T := "StopIteration") (b := true) ti isSubtype_stop ?_)
  exact wpAny_pure (k _ S')
theorem unpackItems_ {t : Nat} {xs : List Value} {Q : List Value → Shared → Prop} (S : St c envs H s) (ht : H t = some (.tup xs)) (d : Hd A H)
    (k : ∀ vs s', vs.map er = xs → St c envs H s' → Q vs s') {n : Nat} (hn : n = xs.length) : wpAny (model prog w) A (unpackItems (.ref t) n none) Q E s := by
  (refine Mine.el_EA (S.tup ht) fun vs hT hm => ?_)
  obtain rfl : n = vs.toArray.size := by rw [hn, ← hm]; simp
  have hlt : t ≠ s.heap.objs.size := by (refine Mine.el_EA hT fun o ho _ => ?_; (try clear hT)); exact Nat.ne_of_lt (Heap.lt_size ho)
  have hfr : H s.heap.objs.size = none := S.fresh (Nat.le_refl _)
  unfold unpackItems
  refine wpAny_bind ?_
  unfold notIterableAtAll
  refine wpAny_bind (wpAny_specialOf hT.typeIs slot_tuple_iter.lookup ?_)
  refine wpAny_pure ?_
  simp only [Bool.false_eq_true, if_false]
  refine wpAny_bind (wpAny_holding (iter_tuple hT ?_))
  have S1 : St c envs (upd H s.heap.objs.size (.titer t 0)) { s with heap := s.heap.push { cls := .type "tuple_iterator", data := .fields #[.ref t, .int 0 0] } } := S.new (t := s.toks) (fun b x q => Heap.get?_push_of_some _ q) (Nat.le_refl _) (by intro i; (exact Mine.no_ft i)) ⟨_, Heap.get?_push_size _ rfl, rfl, rfl⟩ (by rw [Heap.size_push]; exact Nat.le_succ _)
  refine wpAny_bind (wpAny_holding (draw_tuple hlt vs.toArray.size 0 _ _ ⟨_, Heap.get?_push_size _ rfl, rfl, rfl⟩ (hT.push _) (by first | decide | omega) fun h₁ hit₁ hs₁ => ?_))
  have hall : List.take vs.toArray.size (List.drop 0 vs.toArray.toList) = vs := by
    rw [List.drop_zero]; simp
  rw [hall, if_neg (by simp)]
  have ht₁ : IsTup h₁ t vs.toArray := (hT.push _).extBut hs₁.extBut hlt
  have S2 := S1.off (h' := h₁) hfr rfl rfl hs₁
  (refine Mine.el_EAA (id hit₁) fun o ho hc hd => ?_)
  (refine Mine.el_EAAE ht₁ fun ol hol _ nl hdl => ?_; (try clear ht₁))
  refine wpAny_bind (wpAny_holding ?_)
  unfold pyNext
  refine wpAny_bind (wpAny_attempt (wpAny_callSpecial?_slot (name := Str.ofString "__next__") hit₁.typeIs slot_tupleiter_next
    (wpAny_call_entry slot_tupleiter_next hit₁.typeIs entry_tupleiter_next ?_ (args_tupleiter_next _))))
  show wpAny _ _ (field (.ref s.heap.objs.size) 0 >>= _) _ _ _
  refine wpAny_bind (wpAny_field ho hd (x := .ref t) rfl ?_)
  show wpAny _ _ (if (Value.ref t == Value.none) = true then _ else _) _ _ _
  rw [if_neg (show ¬ ((Value.ref t == Value.none) = true) from Bool.false_ne_true)]
  show wpAny _ _ (field (.ref s.heap.objs.size) 1 >>= _) _ _ _
  refine wpAny_bind (wpAny_field ho hd (x := .int (0 + vs.toArray.size : Nat) 0) rfl ?_)
  show wpAny _ _ (seqItems? (.ref t) >>= _) _ _ _
  refine wpAny_bind (wpAny_seqItems hol hdl ?_)
  have hn : vs.toArray[((0 + vs.toArray.size : Nat) : Int).toNat]? = none := by rw [Int.toNat_natCast]; simp
  simp only [hn]
  refine wpAny_bind (wpAny_rule (wpAny_bind (wpAny_setField ho hd (by simp) ?_)))
  show wpAny _ _ (newExc (.type "StopIteration") [] >>= _) _ _ _
  have S3 := S1.off (h' := h₁.update s.heap.objs.size (Obj.mapFields (·.setIfInBounds 0 Value.none))) hfr rfl rfl (hs₁.trans (Heap.SameBut.update ..))
  refine stop_ S3 (A := A.in1) d fun x s' S' ti => ?_
  refine wpAny_bind (wpAny_isInstance (T := "StopIteration") (b := true) ti isSubtype_stop ?_)
  refine wpAny_pure ?_
  simp only [Option.isSome_none, Bool.false_eq_true, if_false]
  exact wpAny_pure (k vs s' hm S')
theorem unpack_tup {elts : List Expr} {x1} {pos : Pos} {t : Nat} {xs : List Value} {Q : Unit → Shared → Prop} (S : St c envs H s) (ht : H t = some (.tup xs)) (d : Hd A H)
    (hn : (assignEach elts env).length = xs.length) (hstar : (assignEach elts env).findIdx? (·.1) = none)
    (k : ∀ vs s', vs.map er = xs → St c envs H s' → wpAny (model prog w) A (assignInOrder ((assignEach elts env).map (·.2)) vs) Q E s') :
    wpAny (model prog w) A (assign (.Tuple elts x1 pos) env (.ref t)) Q E s := by
  rw [assign_Tuple]
  unfold unpack
  rw [hstar]
  exact wpAny_bind (wpAny_standAt (wpAny_bind (wpAny_holding (unpackItems_ S ht d k hn))))
noncomputable def LoopAt (c : Cx prog w K) (envs : List Env) (I : Nat → AH → Prop) (it l i : Nat) (s : Shared) : Prop := ∃ G, I i G ∧ G it = none ∧ St c envs (upd G it (.iter l i)) s
theorem LoopAt.mk {I : Nat → AH → Prop} {it l i : Nat} (h : I i G) (n : G it = none) (S : St c envs (upd G it (.iter l i)) s) : LoopAt c envs I it l i s := ⟨G, h, n, S⟩
theorem own_go {target : Expr} {it l i : Nat} {v : Value} {Q : Unit → Shared → Prop} (hit : s.heap.IsListIter it l i) (hQ : Q () s) : wpAny (model prog w) A (letOwnedTupleGo target (.ref it) v) Q E s := by
  (refine Mine.el_EAA hit fun o ho hc hd => ?_; (try clear hit))
  have go : ∀ a, wpAny (model prog w) A (do
      let o ← load it
      match o.cls, o.data with
      | .type n, .fields vs =>
        if ["enumerate", "zip", "dict_itemiterator", "dict_reverseitemiterator", "odict_iterator", "itertools.zip_longest", "itertools.pairwise"].contains n && vs[0]? == some (rawInt a) then
          rule "for.unpacks-the-owned-tuple"
          updateField it 0 .none
      | _, _ => pure ()) Q E s := fun a => by
    refine wpAny_bind (wpAny_load ho ?_)
    rw [hc, hd]
    exact wpAny_pure hQ
  cases target <;> first
    | exact wpAny_pure hQ
    | (cases v <;> first | exact go _ | exact wpAny_pure hQ)
theorem for_list {target : Expr} {body orelse : List Stmt} {l : Nat} {R : Result → Shared → Prop} (xs : List Value) (I : Nat → AH → Prop) (S : St c envs H s) (hI : I 0 H)
    (hl : ∀ i G, I i G → G l = some (.list xs)) (hd : ∀ i G, I i G → Hd A G)
    (turn : ∀ (it i : Nat) G s' v x, I i G → G it = none → G l = some (.list xs) → xs[i]? = some x → er v = x → St c envs (upd G it (.iter l (i + 1))) s' →
      wpAny (model prog w) A (assign target env v) (fun _ s₂ => wpAny (model prog w) A (execs body env) (fun f s₃ => match f with
          | .next | .cont => LoopAt c envs I it l (i + 1) s₃
          | .brk => R (.ok .next) s₃
          | .ret v => R (.ok (.ret v)) s₃) (notedBy (model prog w) A env fun e s' => R (.error e) s') s₂) (notedBy (model prog w) A env fun e s' => R (.error e) s') s')
    (fin : ∀ G s', I xs.length G → St c envs G s' → wpAny (model prog w) A (execs orelse env) (fun f s₃ => R (.ok f) s₃) (notedBy (model prog w) A env fun e s' => R (.error e) s') s') :
    wpAny (model prog w) A (pyIter (.ref l)) (fun it s₂ => codeAny (model prog w) A (.forLoop target it body orelse env) R s₂) E s := by
  refine iter_list S (hl 0 H hI) fun it s1 h0 S1 => ?_
  refine codeAny_forLoop_any (fun n s' => ∃ i, n = xs.length - i ∧ i ≤ xs.length ∧ LoopAt c envs I it l i s') ?_ xs.length ⟨0, rfl, Nat.zero_le _, H, hI, h0, S1⟩
  rintro n s' ⟨i, rfl, hi, G, hG, hn, S'⟩
  have hGl := hl i G hG
  by_cases hlt : i < xs.length
  · have hx : xs[i]? = some xs[i] := List.getElem?_eq_getElem hlt
    have hG2 : upd G it (.iter l i) l = some (.list xs) := upd_other (fun z => by rw [z, hn] at hGl; (exact Mine.no_ns hGl)) hGl
    refine next_item S' (upd_self ..) hG2 hx fun v s2 hv S2 => ?_
    rw [upd_upd] at S2
    refine own_go (S2.get (upd_self ..)) ?_
    refine wpAny_mono (turn it i G s2 v _ hG hn hGl hx hv S2) (fun _ s3 h3 => wpAny_mono h3 (fun f s4 h4 => ?_) fun _ _ x => x) fun _ _ x => x
    cases f with
    | next => exact ⟨_, by omega, i + 1, rfl, by omega, h4⟩
    | cont => exact ⟨_, by omega, i + 1, rfl, by omega, h4⟩
    | brk => exact h4
    | ret v => exact h4
  · have he : i = xs.length := by omega
    subst he
    exact next_end S' hn hGl (Nat.le_refl _) (hd _ _ hG) fun s2 S2 => fin G s2 hG S2
end
end Mine
end
section
open PySem PySem.W PyProof.Rows PySem.Calls
set_option linter.unusedVariables false
set_option Elab.async false
namespace Mine
section
variable {prog : Program} {w : World} {K : Frag} {c : Cx prog w K} {envs outer : List Env} {env : Env} {H G : AH} {A : Around} {E : Value → Shared → Prop} {s : Shared} {e L : Nat} {cls : Value} {ctx : Option Nat}
theorem FlyT.open (F : FlyT c envs H e cls ctx s) : ∃ T : Nat, H e = none ∧ H T = none ∧ T ≠ e ∧ St c envs (upd (upd H T .tb) e (.exc cls (some T) ctx)) s := by
  (refine Mine.el_AEAA F fun a T b d S => ?_; (try clear F)); exact ⟨T, a, d, b, S⟩
theorem FlyT.close {T : Nat} (S : St c envs (upd (upd H T .tb) e (.exc cls (some T) ctx)) s) (a : H e = none) (d : H T = none) (b : T ≠ e) : FlyT c envs H e cls ctx s := ⟨a, T, b, d, S⟩
theorem fin_raised {f₀ : Stmt} {fs : List Stmt} {Q : Flow → Shared → Prop} (F : Fly c (env :: outer) H e cls ctx s) (hfr : A.frames = some (env :: outer)) (hf : env.frame = some L)
    (k : ∀ T s', H e = none → H T = none → T ≠ e → St c (env :: outer) (upd (upd H T .tb) e (.exc cls (some T) ctx)) s' →
      wpAny (model prog w) (A.mark (some (.ref e))) (execs (f₀ :: fs) env)
        (fun g s₂ => match g with | .next => wpAny (model prog w) A (PySem.passOn "try.finally" (.ref e) env) Q E s₂ | g => wpAny (model prog w) A (setFlight (.ref e) none) (fun _ s₃ => Q g s₃) E s₂) (notedBy (model prog w) (A.mark (some (.ref e))) env (cameBackBy (model prog w) A env E)) s') :
    FinallyRaised prog w A E env (f₀ :: fs) Q (.ref e) s := by
  refine ⟨ref_ne_byPass e, fly_note F hfr hf fun s1 F1 => fly_flight F1 fun s2 F2 => ?_⟩
  (refine Mine.el_EAAA F2.open fun T a b d S => ?_)
  exact k T s2 a b d S
theorem caught_B {X T' : String} {x : Str} {np pos : Pos} {b₀ : Stmt} {suite : List Stmt} {rest : List ExceptHandler} {Q : Flow → Shared → Prop} (F : Fly c (env :: outer) H e (.type X) ctx s) (hfr : A.frames = some (env :: outer)) (hf : env.frame = some L)
    (hexc : isSubtype (.type T') (.type "BaseException") = pure true) (hnt : isSubtype (.type ((Manifest.find? T').elim "type" fun y => y.metatype)) (.type "tuple") = pure false) (hsub : isSubtype (.type X) (.type T') = pure true)
    (en : nsIn K mainGlobals x = some none) (hv : bootBuiltins x = some (.type T')) (hn : x ≠ "__name__")
    (k : ∀ T s', H e = none → H T = none → T ≠ e → St c (env :: outer) (upd (upd H T .tb) e (.exc (.type X) (some T) ctx)) s' →
      wpAny (model prog w) (A.mark (some (.ref e))) (execs (b₀ :: suite) env) Q (notedBy (model prog w) (A.mark (some (.ref e))) env (cameBackBy (model prog w) A env E)) s')
    (hg : env.globals = mainGlobals := by rfl) (hb : env.builtins = builtinsNs := by rfl) (hk : env.scope.kind = .function := by rfl) (hx : env.kindOf x = some .globalImplicit := by rfl) (hd : (x == ("__debug__" : Str)) = false := by decide) :
    wpAny (model prog w) A (noteFrame (.ref e) env) (fun _ s₂ => wpAny (model prog w) A (setFlight (.ref e) none) (fun _ s₃ =>
        wpAny (model prog w) A (handleBy (.ref e) env (.ExceptHandler (some (.Name x np)) none (b₀ :: suite) pos :: rest)) Q E s₃) E s₂) E s := by
  refine fly_note F hfr hf fun s1 F1 => fly_flight F1 fun s2 F2 => ?_
  (refine Mine.el_EAAA F2.open fun T a b d S => ?_)
  (refine Mine.el_EEAAA ((S.get (upd_self ..)).exc) fun o vs ho hc hdt _ => ?_)
  refine wpAny_handleBy_builtin (X := X) (T := T') (b := true) hexc hnt hsub (nm_builtin S en hv hn ⟨rfl, ⟨o, ho, hc⟩, ?_⟩ hg hb hk hx hd)
  refine fly_flight (A := A.mark (some (.ref e))) F2 fun s3 F3 => ?_
  (refine Mine.el_EAAA F3.open fun T a b d S => ?_)
  exact k T s3 a b d S
theorem caught_R {C : Addr} {bmB : List Value} {newId : String} {x : Str} {np pos : Pos} {b₀ : Stmt} {suite : List Stmt} {rest : List ExceptHandler} {Q : Flow → Shared → Prop} (F : Fly c (env :: outer) H e (.ref C) ctx s) (hfr : A.frames = some (env :: outer)) (hf : env.frame = some L)
    (en : nsIn K mainGlobals x = some (some (.ref C))) (q : excIn K C bmB newId = true) (hbase : bmB.contains (.type "BaseException") = true)
    (k : ∀ T s', H e = none → H T = none → T ≠ e → St c (env :: outer) (upd (upd H T .tb) e (.exc (.ref C) (some T) ctx)) s' →
      wpAny (model prog w) (A.mark (some (.ref e))) (execs (b₀ :: suite) env) Q (notedBy (model prog w) (A.mark (some (.ref e))) env (cameBackBy (model prog w) A env E)) s')
    (hg : env.globals = mainGlobals := by rfl) (hk : env.scope.kind = .function := by rfl) (hx : env.kindOf x = some .globalImplicit := by rfl) (hd : (x == ("__debug__" : Str)) = false := by decide) :
    wpAny (model prog w) A (noteFrame (.ref e) env) (fun _ s₂ => wpAny (model prog w) A (setFlight (.ref e) none) (fun _ s₃ =>
        wpAny (model prog w) A (handleBy (.ref e) env (.ExceptHandler (some (.Name x np)) none (b₀ :: suite) pos :: rest)) Q E s₃) E s₂) E s := by
  refine fly_note F hfr hf fun s1 F1 => fly_flight F1 fun s2 F2 => ?_
  (refine Mine.el_EAAA F2.open fun T a b d S => ?_)
  (refine Mine.el_EEAAA ((S.get (upd_self ..)).exc) fun o vs ho hc hdt _ => ?_)
  refine wpAny_handleBy_cons (codeAny_handlers_test (nm_global S en ?_ hg hk hx hd)) (by intro q; cases q)
  (refine Mine.el_EEEEEEEEEEEEEEEEEAAA ((own_of_in S.inK S.top en q).obj) fun bm N nm qn bs hdct sn sub ab col dd k0 k1 k2 k3 k5 mN hC hN hni TL => ?_)
  obtain ⟨hp, g, dw, tk, os⟩ := s2
  refine wpAny_excMatches_sub_self hC ho hc (TL.hasType hbase) (codeAny_handlers_suite ?_)
  refine fly_flight (A := A.mark (some (.ref e))) F2 fun s3 F3 => ?_
  (refine Mine.el_EAAA F3.open fun T a b d S => ?_)
  exact k T s3 a b d S
section
variable {nm qn : Str} {C N : Addr} {bs bm bmB : List Value} {hdct : Bool} {sn : List Str} {sub : List Value} {ab : Bool} {col : Option Bool} {dd : Option Addr} {k0 k1 k2 k3 k5 : Option Value} {B newId initId : String}
theorem raiseStmt_H {x : Sem Value} {Q : Flow → Shared → Prop} (hbase : bm.contains (.type "BaseException") = true)
    (h : wpAny (model prog w) A x (fun v s₁ => ∃ e t, v = .ref e ∧ s₁.heap.get? C = some (excClassObj nm qn C N bs bm hdct sn sub ab col dd k0 k1 k2 k3 k5 newId) ∧
      s₁.heap.get? e = some { cls := .ref C, data := .fields #[.ref t, .none, .none, .none, .bool false, .none] } ∧ wpAny (model prog w) A (raiseNew (.ref e) : Sem Flow) Q E s₁) E s) :
    wpAny (model prog w) A (raiseStmt env (some x) none) Q E s := by
  have hcB : (Value.ref C :: bm).contains (.type "BaseException") = true := by rw [List.contains_cons, hbase, Bool.or_true]
  unfold raiseStmt
  refine wpAny_bind (wpAny_mono h (fun v s₁ h₁ => ?_) fun _ _ x => x)
  (refine Mine.el_EEAAA h₁ fun e t zq0 hC he hE => ?_; (first | subst zq0 | cases zq0); (try clear h₁))
  obtain ⟨hp, g, d, tk, os⟩ := s₁
  repeat (first | with_reducible refine wpAny_loadPart_at he ?_ | with_reducible refine wpAny_loadPart_at hC ?_ | (with_reducible refine wpAny_isSubtype_exc hC ?_; rw [hcB]) | wp_step)
  exact hE
end
theorem St.sizeKeep {h' : Heap} (S : St c (env :: outer) H s) (hk : ∀ b o, s.heap.get? b = some o → h'.get? b = some o) : c.base.objs.size ≤ h'.objs.size := by
  (refine Mine.el_AEEA (S.envs env (.head _)) fun _ L l _ h2 => ?_)
  (refine Mine.el_EA (S.get h2) fun m zq0 _ => ?_; refine Mine.el_EEEA zq0 fun o1 es ep ho1 _ => ?_; clear zq0)
  exact Nat.le_of_lt (Nat.lt_of_le_of_lt ((S.low L _ h2).2.2 rfl) (Heap.lt_size (hk _ _ ho1)))
theorem Raise_ {C : Addr} {bmB : List Value} {B newId initId : String} {x : Str} {m : Str} {kk : _} {np cpos pos pm : Pos} {Q : Flow → Shared → Prop} (S : St c (env :: outer) H s) (d : Hd A H)
    (en : nsIn K mainGlobals x = some (some (.ref C))) (q : excIn K C bmB newId = true) (FB : ExcBaseFacts B newId initId bmB)
    (k : ∀ e ctx s', H e = none → A.handled = ctx.map Value.ref → St c (env :: outer) (upd H e (.exc (.ref C) none ctx)) s' → E (.ref e) s')
    (hg : env.globals = mainGlobals := by rfl) (hk : env.scope.kind = .function := by rfl) (hx : env.kindOf x = some .globalImplicit := by rfl) (hd : (x == ("__debug__" : Str)) = false := by decide) :
    wpAny (model prog w) A (exec (.Raise (some (.Call (.Name x np) [.Constant (.str m) kk pm] [] cpos)) none pos) env) Q E s := by
  (refine Mine.el_EEEEEEEEEEEEEEEEEAAA ((own_of_in c.inK c.top en q).obj) fun bm N nm qn bs hdct sn sub ab col dd k0 k1 k2 k3 k5 mN hC hN hni TL => ?_)
  rw [arm_exec_Raise]
  refine wpAny_bind (wpAny_standAt (raiseStmt_H (C := C) (nm := nm) (qn := qn) (N := N) (bs := bs) (bm := bm) (hdct := hdct) (sn := sn) (sub := sub) (ab := ab) (col := col) (dd := dd) (k0 := k0) (k1 := k1) (k2 := k2) (k3 := k3) (k5 := k5) (newId := newId) (TL.hasType FB.hasBase) ?_))
  refine wpAny_bind (wpAny_mono (Q := fun v s₁ => ∃ e t, v = .ref e ∧ H e = none ∧ St c (env :: outer) (upd H e (.exc (.ref C) none none)) s₁ ∧ s₁.heap.get? e = some { cls := .ref C, data := .fields #[.ref t, .none, .none, .none, .bool false, .none] }) (E := E) (wpAny_Call_ofName (nm_global S en ?_ hg hk hx hd)) (fun v s₃ h₃ => wpAny_bind (wpAny_standAt (wpAny_pure ?_))) fun _ _ x => x)
  · unfold callWith
    refine wpAny_bind (wpAny_holding (wpAny_mono (Q := fun a s₂ => a.kw = [] ∧ a.pos.length ≤ sizeLine ∧ St c (env :: outer) H s₂) (E := E) ?_ (fun a s₂ h₂ => wpAny_bind (wpAny_standAt ?_)) fun _ _ x => x))
    · refine Calls.evalArgs_plain (spliced_more (const_str S fun t s' S' => spliced_none ?_))
      exact ⟨rfl, by show 1 ≤ sizeLine; rw [sizeLine_eq]; decide, S'⟩
    · obtain ⟨apos, akw⟩ := a
      (refine Mine.el_AA h₂ fun hkw hlen S2 => ?_; (try clear h₂))
      obtain rfl : akw = [] := hkw
      have hC2 := S2.base _ _ hC
      have hN2 := hN.keeps S2.base
      have TL2 := TL.keeps S2.base
      obtain ⟨hp, g, dw, tk, os⟩ := s₂
      simp only [show (backTo cpos (starEach [Expr.Constant (.str m) kk pm] env)).any (·.1) = false from rfl]
      refine wpAny_bind (wpAny_keeperOf_exc hC2 ?_)
      refine wpAny_bind (wpAny_call_exc_subT (hrest := hlen) FB TL2 hC2 hN2 hni fun h' e hm => wpAny_bind (wpAny_holding (wpAny_point (wpAny_pure ?_))))
      (refine Mine.el_EAA hm.there fun t ht _ _ => ?_)
      have he : H e = none := S2.freshG hm.new
      exact ⟨e, t, rfl, he, S2.newG (t := tk) hm.keeps hm.new (by intro i; (exact Mine.no_ft i)) (by intro i; (exact Mine.no_ft i)) ⟨_, _, ht, rfl, rfl, rfl, rfl⟩ (S2.sizeKeep hm.keeps), ht⟩
  · (refine Mine.el_EEAAA h₃ fun e t zq0 he S3 hg3 => ?_; (first | subst zq0 | cases zq0); (try clear h₃))
    exact ⟨e, t, rfl, S3.base _ _ hC, hg3, raise_ d he S3 fun ctx s' hc S' => k e ctx s' he hc S'⟩
end
end Mine
end
section
open PySem PySem.W PyProof.Rows PySem.Calls
set_option linter.unusedVariables false
set_option Elab.async false
namespace Mine
section
variable {prog : Program} {w : World} {K : Frag} {c : Cx prog w K} {envs outer : List Env} {env : Env} {H G : AH} {A : Around} {E : Value → Shared → Prop} {s : Shared}
section
variable {a b : Int} {t u : Tok} {Q : Value → Shared → Prop}
theorem s_fdiv (S : St c envs H s) (h0 : 0 < b) (h1 : b < 1073741824) (h : ∀ t s', St c envs H s' → Q (.int (a / b) t) s') : wpAny (model prog w) A (binaryOp .FloorDiv (.int a t) (.int b u)) Q E s := by
  refine floordiv_int (by first | decide | omega) ?_ (Or.inl (PyProof.noPylong_small (by first | decide | omega)))
  rw [Int.fdiv_eq_ediv_of_nonneg _ (by first | decide | omega)]
  exact h _ _ (S.tok _)
theorem s_mod (S : St c envs H s) (h0 : 0 < b) (h : ∀ t s', St c envs H s' → Q (.int (a % b) t) s') : wpAny (model prog w) A (binaryOp .Mod (.int a t) (.int b u)) Q E s := by
  refine mod_int' (by first | decide | omega) ?_
  rw [Int.fmod_eq_emod_of_nonneg _ (by first | decide | omega)]
  exact h _ _ (S.tok _)
theorem bits64 {x : Int} (h : x.natAbs < 1073741824) : Builtin.Int.intBits x ≤ 64 := by
  unfold Builtin.Int.intBits
  split
  · decide
  · rename_i q
    have h0 : x.natAbs ≠ 0 := by simpa using q
    have h30 : x.natAbs.log2 < 30 := (Nat.log2_lt h0).mpr h
    omega
theorem s_mul (S : St c envs H s) (h0 : a.natAbs < 1073741824 ∨ b.natAbs < 1073741824) (h : ∀ t s', St c envs H s' → Q (.int (a * b) t) s') : wpAny (model prog w) A (binaryOp .Mult (.int a t) (.int b u)) Q E s :=
  mul_int (h _ _ (S.tok _)) (h0.elim (fun z => .of_left (bits64 z)) fun z => .of_right (bits64 z))
end
noncomputable def NewL (P : Value → Shared → Prop) (vs : List Value) (s : Shared) : Prop := vs.length ≤ sizeLine ∧ P (.ref s.heap.objs.size) { s with heap := s.heap.push { cls := .type "list", data := .seq vs.toArray } }
noncomputable def NewT (P : Value → Shared → Prop) (vs : List Value) (s : Shared) : Prop := vs.length ≤ sizeLine ∧ P (.ref s.heap.objs.size) { s with heap := s.heap.push { cls := .type "tuple", data := .seq vs.toArray } }
theorem list_disp {elts : List Expr} {pos : Pos} {Q : Value → Shared → Prop} (h : wpAny (model prog w) A (spliced (backTo pos (starEach elts env))) (fun vs s₁ => NewL Q vs s₁) E s) : wpAny (model prog w) A (eval (.List elts pos) env) Q E s := wpAny_List_spliced h
theorem tup_disp {elts : List Expr} {x1} {pos : Pos} {Q : Value → Shared → Prop} (h : wpAny (model prog w) A (spliced (backTo pos (starEach elts env))) (fun vs s₁ => NewT Q vs s₁) E s) : wpAny (model prog w) A (eval (.Tuple elts x1 pos) env) Q E s := wpAny_Tuple_spliced h
theorem newL {vs : List Value} {P : Value → Shared → Prop} (S : St c envs H s) (hz : vs.length ≤ 1000) (k : ∀ (a : Nat) s', H a = none → St c envs (upd H a (.list (vs.map er))) s' → P (.ref a) s') : NewL P vs s :=
  ⟨by rw [sizeLine_eq]; omega, k _ _ (S.fresh (Nat.le_refl _)) (S.new (t := s.toks) (fun b x q => Heap.get?_push_of_some _ q) (Nat.le_refl _) (by intro i; (exact Mine.no_ft i)) ⟨_, _, Heap.get?_push_size _ rfl, by simp⟩ (by rw [Heap.size_push]; exact Nat.le_succ _))⟩
theorem newT {vs : List Value} {P : Value → Shared → Prop} (S : St c envs H s) (hz : vs.length ≤ 1000) (k : ∀ (a : Nat) s', H a = none → St c envs (upd H a (.tup (vs.map er))) s' → P (.ref a) s') : NewT P vs s :=
  ⟨by rw [sizeLine_eq]; omega, k _ _ (S.fresh (Nat.le_refl _)) (S.new (t := s.toks) (fun b x q => Heap.get?_push_of_some _ q) (Nat.le_refl _) (by intro i; (exact Mine.no_ft i)) ⟨_, _, Heap.get?_push_size _ rfl, by simp⟩ (by rw [Heap.size_push]; exact Nat.le_succ _))⟩
end
noncomputable def join (F G : AH) : AH := fun a => match F a with | some o => some o | none => G a
noncomputable def Dj (F G : AH) : Prop := ∀ (a : Nat) o, G a = some o → F a = none
section
variable {F G : AH} {a : Nat} {o o' : AO}
theorem join_l (h : F a = some o) : join F G a = some o := by unfold join; rw [h]
theorem join_n (h : F a = none) : join F G a = G a := by unfold join; rw [h]
theorem join_r (d : Dj F G) (h : G a = some o) : join F G a = some o := (join_n (d a o h)).trans h
theorem join_none (h : join F G a = none) : F a = none ∧ G a = none := by
  unfold join at h
  cases q : F a with
  | none => rw [q] at h; exact ⟨rfl, h⟩
  | some x => rw [q] at h; (exact Mine.no_sn h)
theorem upd_join : upd (join F G) a o = join (upd F a o) G := by
  funext b
  by_cases h : b = a
  · subst h; rw [upd_self, join_l (upd_self ..)]
  · rw [upd_ne h]; unfold join; rw [upd_ne h]
theorem upd_join_r (n : F a = none) : upd (join F G) a o = join F (upd G a o) := by
  funext b
  by_cases h : b = a
  · subst h; rw [upd_self, join_n n, upd_self]
  · rw [upd_ne h]; unfold join; rw [upd_ne h]
theorem Dj.l (d : Dj F G) (n : G a = none) : Dj (upd F a o) G := fun b x q => by
  rw [upd_ne (fun z => by rw [z, n] at q; (exact Mine.no_ns q))]; exact d b x q
theorem Dj.r (d : Dj F G) (n : F a = none) : Dj F (upd G a o) := fun b x q => by
  by_cases h : b = a
  · subst h; exact n
  · rw [upd_ne h] at q; exact d b x q
theorem Dj.has (d : Dj F G) (h : F a = some o) : G a = none := by
  cases q : G a with
  | none => rfl
  | some x => have := d a x q; rw [h] at this; (exact Mine.no_sn this)
theorem Dj.sub {N : AH} (d : Dj F G) (h : Sub N F) : Dj N G := fun b x q => by
  cases z : N b with
  | none => rfl
  | some y => (refine Mine.el_EA (h b y z) fun o' e _ => ?_); rw [d b x q] at e; (exact Mine.no_ns e)
theorem sub_join {N : AH} (d : Dj F G) (h : Sub N F) : Sub (join N G) (join F G) := fun b x q => by
  cases z : N b with
  | none => rw [join_n z] at q; exact ⟨x, join_r d q, .inl rfl⟩
  | some y => rw [join_l z] at q; (replace q := (Option.some.inj q).symm; subst q); (refine Mine.el_EA (h b _ z) fun o' e l => ?_); exact ⟨o', join_l e, l⟩
end
end Mine
end
section
set_option linter.unusedVariables false
set_option Elab.async false
namespace Mine
noncomputable def place {α : Type} (lt : α → Bool) : List α → Nat
  | [] => 0
  | x :: r => match place lt r with
    | 0 => if lt x then 0 else 1
    | n + 1 => n + 2
theorem place_le {α : Type} (lt : α → Bool) : ∀ l, place lt l ≤ l.length
  | [] => Nat.le_refl _
  | x :: r => by
    have := place_le lt r
    unfold place
    split <;> rename_i h <;> rw [h] at this <;> simp only [List.length_cons]
    · split <;> omega
    · omega
theorem place_snoc {α : Type} (lt : α → Bool) (y : α) : ∀ l, place lt (l ++ [y]) = if lt y then place lt l else l.length + 1
  | [] => by simp [place]
  | x :: r => by
    rw [List.cons_append]
    unfold place
    rw [place_snoc lt y r]
    cases lt y with
    | true => simp
    | false => simp
noncomputable def klt (a b : Int × Int) : Bool := decide (a.1 < b.1 ∨ (a.1 = b.1 ∧ a.2 < b.2))
noncomputable def put (p : Nat) {α : Type} (x : α) (l : List α) : List α := l.take p ++ x :: l.drop p
noncomputable def ins (e : Int × Int) (q : List (Int × Int)) : List (Int × Int) := put (place (klt e) q) e q
structure Nd where
  wt : Int
  kids : List Int
  par : Option Int
  q : List (Int × Int)
  act : Bool
  lw : Int
  df : Int
noncomputable abbrev Mo := Int → Option Nd
noncomputable def Mo.put (M : Mo) (i : Int) (n : Nd) : Mo := fun j => if j = i then some n else M j
theorem Mo.put_self (M : Mo) (i : Int) (n : Nd) : M.put i n i = some n := if_pos rfl
theorem Mo.put_ne {M : Mo} {i j : Int} {n : Nd} (h : j ≠ i) : M.put i n j = M j := if_neg h
theorem Mo.put_put (M : Mo) (i : Int) (n m : Nd) : (M.put i n).put i m = M.put i m := by
  funext j; simp only [Mo.put]; split <;> rfl
noncomputable def fstep (i : Int) (M : Mo) (e : Int × Int) : Mo :=
  match M i, M e.2 with
  | some d, some n => (M.put e.2 { n with df := (256 + n.df) % n.wt }).put i { d with lw := e.1, q := ins (e.1 + (256 + n.df) / n.wt, e.2) d.q }
  | _, _ => M
noncomputable def fin (i : Int) (pp : List (Int × Int)) (M : Mo) : Mo := pp.foldl (fstep i) M
noncomputable def goL (f : Mo → Int → Option Int × Mo) (i : Int) : List (Int × Int) → Mo → List (Int × Int) → Option Int × Mo × List (Int × Int)
  | [], M, pp => (none, M, pp)
  | e :: r, M, pp =>
    match M i, M e.2 with
    | some d, some n =>
      let M1 := M.put i { d with q := r }
      if n.act then (some e.2, M1, pp ++ [e])
      else match f M1 e.2 with
        | (some x, M2) => (some x, M2, pp ++ [e])
        | (none, M2) => goL f i r M2 (pp ++ [e])
    | _, _ => (none, M, pp)
noncomputable def sched : Nat → Mo → Int → Option Int × Mo
  | 0, M, _ => (none, M)
  | n + 1, M, i =>
    let z := goL (sched n) i (((M i).map (·.q)).getD []) M []
    (z.1, fin i z.2.2 z.2.1)
structure OkM (rk : Int → Nat) (M : Mo) : Prop where
  ok : ∀ i n, M i = some n → 1 ≤ n.wt ∧ n.wt ≤ 256 ∧ 0 ≤ n.df ∧ n.df < 256 ∧ n.q.length ≤ 1000 ∧ ∀ e ∈ n.q, (∃ m, M e.2 = some m) ∧ rk e.2 < rk i
structure Like (M M' : Mo) : Prop where
  fw : ∀ i n, M i = some n → ∃ n', M' i = some n' ∧ n'.wt = n.wt ∧ n'.kids = n.kids ∧ n'.par = n.par ∧ n'.act = n.act
  bw : ∀ i n, M' i = some n → ∃ n', M i = some n'
theorem Like.refl (M : Mo) : Like M M := ⟨fun i n h => ⟨n, h, rfl, rfl, rfl, rfl⟩, fun i n h => ⟨n, h⟩⟩
theorem Like.trans {M M' M'' : Mo} (a : Like M M') (b : Like M' M'') : Like M M'' :=
  ⟨fun i n h => by
    (refine Mine.el_EAAAA (a.fw i n h) fun n1 h1 a1 a2 a3 a4 => ?_)
    (refine Mine.el_EAAAA (b.fw i n1 h1) fun n2 h2 b1 b2 b3 b4 => ?_)
    exact ⟨n2, h2, b1.trans a1, b2.trans a2, b3.trans a3, b4.trans a4⟩, fun i n h => by
    (refine Mine.el_E (b.bw i n h) fun n1 h1 => ?_)
    exact a.bw i n1 h1⟩
theorem Like.put {M : Mo} {i : Int} {n n' : Nd} (h : M i = some n) (w : n'.wt = n.wt) (k : n'.kids = n.kids) (p : n'.par = n.par) (a : n'.act = n.act) : Like M (M.put i n') :=
  ⟨fun j m hj => by
    by_cases q : j = i
    · subst q; rw [h] at hj; (replace hj := Option.some.inj hj; subst hj); exact ⟨n', Mo.put_self .., w, k, p, a⟩
    · exact ⟨m, (Mo.put_ne q).trans hj, rfl, rfl, rfl, rfl⟩, fun j m hj => by
    by_cases q : j = i
    · subst q; exact ⟨n, h⟩
    · rw [Mo.put_ne q] at hj; exact ⟨m, hj⟩⟩
end Mine
end
section
set_option linter.unusedVariables false
set_option Elab.async false
namespace Mine
section
variable {rk : Int → Nat} {M M' : Mo} {i : Int} {d n : Nd} {e : Int × Int} {r pp : List (Int × Int)}
theorem put_length {α : Type} (p : Nat) (x : α) (l : List α) : (put p x l).length = l.length + 1 := by
  unfold put
  simp only [List.length_append, List.length_take, List.length_cons, List.length_drop]; omega
theorem mem_put {α : Type} {p : Nat} {x y : α} {l : List α} : y ∈ put p x l ↔ y = x ∨ y ∈ l := by
  unfold put
  have : y ∈ l ↔ y ∈ l.take p ∨ y ∈ l.drop p := by
    conv => lhs; rw [← List.take_append_drop p l]
    exact List.mem_append
  simp only [List.mem_append, List.mem_cons, this]
  constructor
  · rintro (h | rfl | h)
    · exact .inr (.inl h)
    · exact .inl rfl
    · exact .inr (.inr h)
  · rintro (rfl | h | h)
    · exact .inr (.inl rfl)
    · exact .inl h
    · exact .inr (.inr h)
theorem ins_length (e : Int × Int) (q : List (Int × Int)) : (ins e q).length = q.length + 1 := put_length ..
theorem mem_ins {e x : Int × Int} {q : List (Int × Int)} : x ∈ ins e q ↔ x = e ∨ x ∈ q := mem_put
theorem OkM.put (o : OkM rk M) (h : 1 ≤ n.wt ∧ n.wt ≤ 256 ∧ 0 ≤ n.df ∧ n.df < 256 ∧ n.q.length ≤ 1000 ∧ ∀ e ∈ n.q, (∃ m, M e.2 = some m) ∧ rk e.2 < rk i) : OkM rk (M.put i n) := by
  have ex : ∀ j, (∃ m, M j = some m) → ∃ m, M.put i n j = some m := fun j ⟨m, hm⟩ => by
    by_cases q : j = i
    · subst q; exact ⟨n, Mo.put_self ..⟩
    · exact ⟨m, (Mo.put_ne q).trans hm⟩
  refine ⟨fun j m hj => ?_⟩
  by_cases q : j = i
  · subst q; rw [Mo.put_self] at hj; (replace hj := Option.some.inj hj; subst hj)
    (refine Mine.el_AAAAA h fun a b c d e f => ?_; (try clear h))
    exact ⟨a, b, c, d, e, fun x hx => ⟨ex _ (f x hx).1, (f x hx).2⟩⟩
  · rw [Mo.put_ne q] at hj
    (refine Mine.el_AAAAA (o.ok j m hj) fun a b c d e f => ?_)
    exact ⟨a, b, c, d, e, fun x hx => ⟨ex _ (f x hx).1, (f x hx).2⟩⟩
theorem OkM.pop (o : OkM rk M) (h : M i = some d) (hq : d.q = e :: r) : OkM rk (M.put i { d with q := r }) := by
  (refine Mine.el_AAAAA (o.ok i d h) fun a b c dd l f => ?_)
  rw [hq] at l f
  refine o.put ⟨a, b, c, dd, ?_, fun x hx => f x (.tail _ hx)⟩
  simp only [List.length_cons] at l ⊢; omega
structure Res (rk : Int → Nat) (i : Int) (M M' : Mo) : Prop where
  ok : OkM rk M'
  like : Like M M'
  far : ∀ j, rk i < rk j → M' j = M j
theorem Res.refl (o : OkM rk M) : Res rk i M M := ⟨o, Like.refl M, fun _ _ => rfl⟩
theorem Res.trans {M M' M'' : Mo} (a : Res rk i M M') (b : Res rk i M' M'') : Res rk i M M'' := ⟨b.ok, a.like.trans b.like, fun j h => (b.far j h).trans (a.far j h)⟩
theorem Res.up {i' : Int} (a : Res rk i' M M') (h : rk i' ≤ rk i) : Res rk i M M' := ⟨a.ok, a.like, fun j q => a.far j (by first | decide | omega)⟩
theorem Res.pop (o : OkM rk M) (h : M i = some d) (hq : d.q = e :: r) : Res rk i M (M.put i { d with q := r }) :=
  ⟨o.pop h hq, Like.put h rfl rfl rfl rfl, fun j q => Mo.put_ne fun z => by rw [z] at q; omega⟩
theorem fstep_eq (hi : M i = some d) (he : M e.2 = some n) :
    fstep i M e = (M.put e.2 { n with df := (256 + n.df) % n.wt }).put i { d with lw := e.1, q := ins (e.1 + (256 + n.df) / n.wt, e.2) d.q } := by
  unfold fstep; rw [hi, he]
theorem Res.fstep (o : OkM rk M) (hi : M i = some d) (he : M e.2 = some n) (hr : rk e.2 < rk i) (hz : d.q.length + 1 ≤ 1000) : Res rk i M (fstep i M e) := by
  rw [fstep_eq hi he]
  have hne : i ≠ e.2 := fun z => by rw [← z] at hr; omega
  (refine Mine.el_AAAAA (o.ok _ n he) fun a b c dd l f => ?_)
  have o1 : OkM rk (M.put e.2 { n with df := (256 + n.df) % n.wt }) := o.put ⟨a, b, Int.emod_nonneg _ (by first | decide | omega), Int.lt_of_lt_of_le (Int.emod_lt_of_pos _ (by first | decide | omega)) b, l, f⟩
  have hi1 : (M.put e.2 { n with df := (256 + n.df) % n.wt }) i = some d := (Mo.put_ne hne).trans hi
  (refine Mine.el_AAAAA (o1.ok i d hi1) fun a2 b2 c2 dd2 l2 f2 => ?_)
  refine ⟨o1.put ⟨a2, b2, c2, dd2, by rw [ins_length]; omega, fun x hx => ?_⟩, (Like.put he (by rfl) (by rfl) (by rfl) (by rfl)).trans (Like.put hi1 (by rfl) (by rfl) (by rfl) (by rfl)), fun j q => ?_⟩
  · rcases mem_ins.mp hx with rfl | hx
    · exact ⟨⟨_, Mo.put_self ..⟩, hr⟩
    · exact f2 x hx
  · rw [Mo.put_ne (fun z => by rw [z] at q; omega), Mo.put_ne (fun z => by rw [z] at q; omega)]
theorem fstep_self (hi : M i = some d) (he : M e.2 = some n) : ∃ d', fstep i M e i = some d' ∧ d'.q.length = d.q.length + 1 := by
  rw [fstep_eq hi he]; exact ⟨_, Mo.put_self .., ins_length ..⟩
theorem Res.fin : ∀ (pp : List (Int × Int)) {M : Mo} {d : Nd} (o : OkM rk M) (hi : M i = some d) (hp : ∀ e ∈ pp, (∃ m, M e.2 = some m) ∧ rk e.2 < rk i) (hz : d.q.length + pp.length ≤ 1000), Res rk i M (fin i pp M)
  | [], M, d, o, hi, hp, hz => Res.refl o
  | e :: pp, M, d, o, hi, hp, hz => by
    (refine Mine.el_A (hp e (.head _)) fun zq0 hr => ?_; refine Mine.el_E zq0 fun n hn => ?_; clear zq0)
    simp only [List.length_cons] at hz
    have R := Res.fstep o hi hn hr (by first | decide | omega)
    (refine Mine.el_EA (fstep_self hi hn) fun d' hd' hl => ?_)
    exact R.trans (Res.fin pp R.ok hd' (fun x hx => ⟨(hp x (.tail _ hx)).1.elim fun m hm => (R.like.fw _ m hm).elim fun m' h => ⟨m', h.1⟩, (hp x (.tail _ hx)).2⟩) (by first | decide | omega))
theorem goL_act {f : Mo → Int → Option Int × Mo} (hi : M i = some d) (he : M e.2 = some n) (ha : n.act = true) : goL f i (e :: r) M pp = (some e.2, M.put i { d with q := r }, pp ++ [e]) := by
  simp only [goL, hi, he, ha, if_true]
theorem goL_some {f : Mo → Int → Option Int × Mo} {x : Int} (hi : M i = some d) (he : M e.2 = some n) (ha : n.act = false) (hf : f (M.put i { d with q := r }) e.2 = (some x, M')) : goL f i (e :: r) M pp = (some x, M', pp ++ [e]) := by
  simp only [goL, hi, he, ha, hf]; rfl
theorem goL_none {f : Mo → Int → Option Int × Mo} (hi : M i = some d) (he : M e.2 = some n) (ha : n.act = false) (hf : f (M.put i { d with q := r }) e.2 = (none, M')) : goL f i (e :: r) M pp = goL f i r M' (pp ++ [e]) := by
  simp only [goL, hi, he, ha, hf]; rfl
theorem sched_eq (f : Nat) (hi : M i = some d) {x : Option Int} {pp' : List (Int × Int)} (h : goL (sched f) i d.q M [] = (x, M', pp')) : sched (f + 1) M i = (x, fin i pp' M') := by
  simp only [sched, hi, Option.map_some, Option.getD_some, h]
theorem Res.goL {f : Mo → Int → Option Int × Mo} (hf : ∀ M ch, OkM rk M → (∃ m, M ch = some m) → rk ch < rk i → Res rk ch M (f M ch).2) :
    ∀ (r : List (Int × Int)) {M : Mo} {d : Nd} {pp : List (Int × Int)} (o : OkM rk M) (hi : M i = some d) (hq : d.q = r), Res rk i M (goL f i r M pp).2.1 ∧
      (∃ d', (goL f i r M pp).2.1 i = some d' ∧ d'.q.length + (goL f i r M pp).2.2.length = r.length + pp.length) ∧ ∀ e ∈ (goL f i r M pp).2.2, e ∈ pp ∨ e ∈ r
  | [], M, d, pp, o, hi, hq => ⟨Res.refl o, ⟨d, hi, by show d.q.length + pp.length = _; rw [hq]⟩, fun e he => .inl he⟩
  | e :: r, M, d, pp, o, hi, hq => by
    (refine Mine.el_AAAAA (o.ok i d hi) fun a b c dd l fo => ?_)
    (refine Mine.el_A (fo e (by rw [hq]; exact .head _)) fun zq0 hr => ?_; refine Mine.el_E zq0 fun n hn => ?_; clear zq0)
    have R := Res.pop o hi hq
    have hne : e.2 ≠ i := fun z => by rw [z] at hr; omega
    have h1 : (M.put i { d with q := r }) i = some { d with q := r } := Mo.put_self ..
    cases ha : n.act with
    | true =>
      rw [goL_act hi hn ha]
      exact ⟨R, ⟨_, h1, by simp; omega⟩, fun x hx => by
        rcases List.mem_append.mp hx with hx | hx
        · exact .inl hx
        · (have zq := ((List.mem_singleton.mp hx)).symm; subst zq); exact .inr (.head _)⟩
    | false =>
      have F := hf (M.put i { d with q := r }) e.2 R.ok ⟨n, (Mo.put_ne hne).trans hn⟩ hr
      cases q : f (M.put i { d with q := r }) e.2 with
      | mk x M2 =>
        rw [q] at F
        have h2 : M2 i = some { d with q := r } := (F.far i hr).trans h1
        have RF := R.trans (F.up (Nat.le_of_lt hr))
        cases x with
        | some x =>
          rw [goL_some hi hn ha q]
          exact ⟨RF, ⟨_, h2, by simp; omega⟩, fun x hx => by
            rcases List.mem_append.mp hx with hx | hx
            · exact .inl hx
            · (have zq := ((List.mem_singleton.mp hx)).symm; subst zq); exact .inr (.head _)⟩
        | none =>
          rw [goL_none hi hn ha q]
          (refine Mine.el_AA (Res.goL hf r (pp := pp ++ [e]) F.ok h2 rfl) fun I zq0 hm => ?_; refine Mine.el_EA zq0 fun d' hd' hl => ?_; clear zq0)
          refine ⟨RF.trans I, ⟨d', hd', by rw [hl]; simp; omega⟩, fun x hx => ?_⟩
          rcases hm x hx with hx | hx
          · rcases List.mem_append.mp hx with hx | hx
            · exact .inl hx
            · (have zq := ((List.mem_singleton.mp hx)).symm; subst zq); exact .inr (.head _)
          · exact .inr (.tail _ hx)
theorem Res.sched : ∀ (n : Nat) {M : Mo} {i : Int} (o : OkM rk M) (hi : ∃ m, M i = some m) (hr : rk i < n), Res rk i M (sched n M i).2
  | 0, _, _, _, _, hr => by omega
  | n + 1, M, i, o, ⟨d, hi⟩, hr => by
    (refine Mine.el_AA (Res.goL (f := Mine.sched n) (fun M ch o h hc => Res.sched n o h (by first | decide | omega)) d.q (pp := []) o hi rfl) fun R zq0 hm => ?_; refine Mine.el_EA zq0 fun d' hd' hl => ?_; clear zq0)
    rw [sched_eq n hi rfl]
    (refine Mine.el_AAAAA (o.ok i d hi) fun a b c dd l fo => ?_)
    refine R.trans (Res.fin _ R.ok hd' (fun e he => ?_) (by rw [hl]; simpa using l))
    rcases hm e he with h | h
    · cases h
    · exact ⟨(fo e h).1.elim fun m hm => (R.like.fw _ m hm).elim fun m' h => ⟨m', h.1⟩, (fo e h).2⟩
end
end Mine
end
section
open PySem PySem.W PyProof.Rows PySem.Calls
set_option linter.unusedVariables false
set_option Elab.async false
namespace Mine
structure Pl where
  D : Int → Nat
  CL : Int → Nat
  QL : Int → Nat
noncomputable def pv (P : Pl) : Option Int → Value
  | none => .none
  | some j => .ref (P.D j)
noncomputable abbrev flds (P : Pl) (i : Int) (n : Nd) : List (Str × Value) :=
  [("stream_id", .int i 0), ("_weight", .int n.wt 0), ("children", .ref (P.CL i)), ("parent", pv P n.par), ("child_queue", .ref (P.QL i)), ("active", .bool n.act), ("last_weight", .int n.lw 0), ("_deficit", .int n.df 0)]
noncomputable def Ents (P : Pl) (G : AH) : List Nat → List (Int × Int) → Prop
  | [], [] => True
  | t :: ts, e :: q => G t = some (.tup [.int e.1 0, .ref (P.D e.2)]) ∧ Ents P G ts q
  | _, _ => False
noncomputable def StreamAt (SC : Nat) (P : Pl) (H : AH) (i : Int) : Prop := ∃ fs, H (P.D i) = some (.inst SC fs) ∧ fs.lookup ("stream_id" : Str) = some (.int i 0)
section
variable {SC : Nat} {P : Pl} {G H : AH} {M : Mo}
theorem Ents.len : ∀ {ts : List Nat} {q : List (Int × Int)}, Ents P G ts q → ts.length = q.length
  | [], [], _ => rfl
  | t :: ts, e :: q, h => by simp only [List.length_cons, Ents.len h.2]
  | [], _ :: _, h => h.elim
  | _ :: _, [], h => h.elim
theorem Ents.mono (k : ∀ (a : Nat) xs, G a = some (.tup xs) → H a = some (.tup xs)) : ∀ {ts : List Nat} {q : List (Int × Int)}, Ents P G ts q → Ents P H ts q
  | [], [], _ => trivial
  | t :: ts, e :: q, h => ⟨k _ _ h.1, Ents.mono k h.2⟩
  | [], _ :: _, h => h.elim
  | _ :: _, [], h => h.elim
theorem Ents.append : ∀ {ts ts' : List Nat} {q q' : List (Int × Int)}, Ents P G ts q → Ents P G ts' q' → Ents P G (ts ++ ts') (q ++ q')
  | [], _, [], _, _, h => h
  | t :: ts, _, e :: q, _, h, h' => ⟨h.1, Ents.append h.2 h'⟩
  | [], _, _ :: _, _, h, _ => h.elim
  | _ :: _, _, [], _, h, _ => h.elim
theorem Ents.take : ∀ (p : Nat) {ts : List Nat} {q : List (Int × Int)}, Ents P G ts q → Ents P G (ts.take p) (q.take p)
  | 0, ts, q, _ => by simp [Ents]
  | p + 1, [], [], _ => by simp [Ents]
  | p + 1, t :: ts, e :: q, h => ⟨h.1, Ents.take p h.2⟩
  | p + 1, [], _ :: _, h => h.elim
  | p + 1, _ :: _, [], h => h.elim
theorem Ents.drop : ∀ (p : Nat) {ts : List Nat} {q : List (Int × Int)}, Ents P G ts q → Ents P G (ts.drop p) (q.drop p)
  | 0, ts, q, h => h
  | p + 1, [], [], _ => by simp [Ents]
  | p + 1, t :: ts, e :: q, h => Ents.drop p h.2
  | p + 1, [], _ :: _, h => h.elim
  | p + 1, _ :: _, [], h => h.elim
theorem Ents.put {ts : List Nat} {q : List (Int × Int)} {t : Nat} {e : Int × Int} {p : Nat} (h : Ents P G ts q) (ht : G t = some (.tup [.int e.1 0, .ref (P.D e.2)])) : Ents P G (put p t ts) (put p e q) :=
  (h.take p).append ⟨ht, h.drop p⟩
theorem Ents.get : ∀ {ts : List Nat} {q : List (Int × Int)}, Ents P G ts q → ∀ k (h : k < q.length), ∃ t, ts[k]? = some t ∧ G t = some (.tup [.int q[k].1 0, .ref (P.D q[k].2)])
  | t :: ts, e :: q, h, 0, _ => ⟨t, rfl, h.1⟩
  | t :: ts, e :: q, h, k + 1, hk => Ents.get h.2 k (by simpa using hk)
  | [], _ :: _, h, _, _ => h.elim
  | _, [], h, k, hk => by simp at hk
structure Tree (SC : Nat) (P : Pl) (M : Mo) (G : AH) : Prop where
  inst : ∀ i n, M i = some n → G (P.D i) = some (.inst SC (flds P i n))
  cl : ∀ i n, M i = some n → G (P.CL i) = some (.list (n.kids.map fun j => .ref (P.D j)))
  ql : ∀ i n, M i = some n → ∃ ts : List Nat, G (P.QL i) = some (.list (ts.map .ref)) ∧ Ents P G ts n.q
  cq : ∀ i j n m, M i = some n → M j = some m → P.CL i ≠ P.QL j
  qq : ∀ i j n m, M i = some n → M j = some m → P.QL i = P.QL j → i = j
  cc : ∀ i j n m, M i = some n → M j = some m → P.CL i = P.CL j → i = j
theorem Tree.dd (t : Tree SC P M G) {i j : Int} {n m : Nd} (hi : M i = some n) (hj : M j = some m) (h : P.D i = P.D j) : i = j := by
  have a := t.inst i n hi
  have b := t.inst j m hj
  rw [h, b] at a
  simp only [Option.some.injEq, AO.inst.injEq, true_and] at a
  have := congrArg (fun l => List.lookup ("stream_id" : Str) l) a
  simp [flds, List.lookup_cons] at this
  exact this.symm
theorem Tree.fresh (t : Tree SC P M G) {a : Nat} {o : AO} (h : G a = none) : Tree SC P M (upd G a o) :=
  ⟨fun i n hi => upd_other (ne_fresh h (t.inst i n hi)) (t.inst i n hi), fun i n hi => upd_other (ne_fresh h (t.cl i n hi)) (t.cl i n hi), fun i n hi => by
    (refine Mine.el_EA (t.ql i n hi) fun ts h1 h2 => ?_)
    exact ⟨ts, upd_other (ne_fresh h h1) h1, h2.mono fun b xs q => upd_other (ne_fresh h q) q⟩, t.cq, t.qq, t.cc⟩
theorem Tree.set (t : Tree SC P M G) {i : Int} {n n' : Nd} (hi : M i = some n) (hk : n'.kids = n.kids) (hq : n'.q = n.q) : Tree SC P (M.put i n') (upd G (P.D i) (.inst SC (flds P i n'))) := by
  have e := t.inst i n hi
  have ex : ∀ j m, M.put i n' j = some m → ∃ m0, M j = some m0 ∧ m0.kids = m.kids ∧ m0.q = m.q := fun j m h => by
    by_cases q : j = i
    · subst q; rw [Mo.put_self] at h; (replace h := Option.some.inj h; subst h); exact ⟨n, hi, hk.symm, hq.symm⟩
    · rw [Mo.put_ne q] at h; exact ⟨m, h, rfl, rfl⟩
  refine ⟨fun j m h => ?_, fun j m h => ?_, fun j m h => ?_, fun j l a b h1 h2 => ?_, fun j l a b h1 h2 => ?_, fun j l a b h1 h2 => ?_⟩
  · by_cases q : j = i
    · subst q; rw [Mo.put_self] at h; (replace h := Option.some.inj h; subst h); exact upd_self ..
    · rw [Mo.put_ne q] at h
      exact upd_other (fun z => q (t.dd h hi z)) (t.inst j m h)
  · (refine Mine.el_EAA (ex j m h) fun m0 h0 k0 _ => ?_)
    have := t.cl j m0 h0
    rw [← k0]
    exact upd_other (fun z => by rw [z, e] at this; (exact Mine.tag_ne (Option.some.inj this) rfl)) this
  · (refine Mine.el_EAA (ex j m h) fun m0 h0 _ k0 => ?_)
    (refine Mine.el_EA (t.ql j m0 h0) fun ts h1 h2 => ?_)
    rw [← k0]
    exact ⟨ts, upd_other (fun z => by rw [z, e] at h1; (exact Mine.tag_ne (Option.some.inj h1) rfl)) h1, h2.mono fun b xs q => upd_other (fun z => by rw [z, e] at q; (exact Mine.tag_ne (Option.some.inj q) rfl)) q⟩
  · (refine Mine.el_EA (ex j a h1) fun _ h1 _ => ?_); (refine Mine.el_EA (ex l b h2) fun _ h2 _ => ?_); exact t.cq _ _ _ _ h1 h2
  · (refine Mine.el_EA (ex j a h1) fun _ h1 _ => ?_); (refine Mine.el_EA (ex l b h2) fun _ h2 _ => ?_); exact t.qq _ _ _ _ h1 h2
  · (refine Mine.el_EA (ex j a h1) fun _ h1 _ => ?_); (refine Mine.el_EA (ex l b h2) fun _ h2 _ => ?_); exact t.cc _ _ _ _ h1 h2
theorem Tree.setq (t : Tree SC P M G) {i : Int} {n : Nd} {ts : List Nat} {q : List (Int × Int)} (hi : M i = some n) (he : Ents P G ts q) : Tree SC P (M.put i { n with q := q }) (upd G (P.QL i) (.list (ts.map .ref))) := by
  (refine Mine.el_EA (t.ql i n hi) fun ts0 e _ => ?_)
  have ex : ∀ j m, M.put i { n with q := q } j = some m → ∃ m0, M j = some m0 ∧ m0.kids = m.kids ∧ flds P j m0 = flds P j m ∧ (j ≠ i → m0.q = m.q) := fun j m h => by
    by_cases q : j = i
    · subst q; rw [Mo.put_self] at h; (replace h := Option.some.inj h; subst h); exact ⟨n, hi, rfl, rfl, fun z => absurd rfl z⟩
    · rw [Mo.put_ne q] at h; exact ⟨m, h, rfl, rfl, fun _ => rfl⟩
  have tk : ∀ (b : Nat) xs, G b = some (.tup xs) → upd G (P.QL i) (.list (ts.map .ref)) b = some (.tup xs) := fun b xs z => upd_other (fun y => by rw [y, e] at z; (exact Mine.tag_ne (Option.some.inj z) rfl)) z
  refine ⟨fun j m h => ?_, fun j m h => ?_, fun j m h => ?_, fun j l a b h1 h2 => ?_, fun j l a b h1 h2 => ?_, fun j l a b h1 h2 => ?_⟩
  · (refine Mine.el_EAAA (ex j m h) fun m0 h0 k0 f0 _ => ?_)
    have := t.inst j m0 h0
    rw [f0] at this
    exact upd_other (fun z => by rw [z, e] at this; (exact Mine.tag_ne (Option.some.inj this) rfl)) this
  · (refine Mine.el_EAA (ex j m h) fun m0 h0 k0 _ => ?_)
    have := t.cl j m0 h0
    rw [← k0]
    exact upd_other (t.cq j i _ _ h0 hi) this
  · (refine Mine.el_EAAA (ex j m h) fun m0 h0 _ _ k0 => ?_)
    by_cases z : j = i
    · subst z; rw [Mo.put_self] at h; (replace h := Option.some.inj h; subst h)
      exact ⟨ts, upd_self .., he.mono tk⟩
    · rw [← k0 z]
      (refine Mine.el_EA (t.ql j m0 h0) fun ts1 h1 h2 => ?_)
      exact ⟨ts1, upd_other (fun y => z (t.qq _ _ _ _ h0 hi y)) h1, h2.mono tk⟩
  · (refine Mine.el_EA (ex j a h1) fun _ h1 _ => ?_); (refine Mine.el_EA (ex l b h2) fun _ h2 _ => ?_); exact t.cq _ _ _ _ h1 h2
  · (refine Mine.el_EA (ex j a h1) fun _ h1 _ => ?_); (refine Mine.el_EA (ex l b h2) fun _ h2 _ => ?_); exact t.qq _ _ _ _ h1 h2
  · (refine Mine.el_EA (ex j a h1) fun _ h1 _ => ?_); (refine Mine.el_EA (ex l b h2) fun _ h2 _ => ?_); exact t.cc _ _ _ _ h1 h2
noncomputable def Tups (G G' : AH) : Prop := ∀ (a : Nat) xs, G a = some (.tup xs) → G' a = some (.tup xs)
theorem Tups.refl (G : AH) : Tups G G := fun _ _ h => h
theorem Tups.trans {G G' G'' : AH} (a : Tups G G') (b : Tups G' G'') : Tups G G'' := fun x xs h => b x xs (a x xs h)
theorem Tups.upd {G G' : AH} {a : Nat} {o o' : AO} (t : Tups G G') (h : G' a = some o) (n : ∀ xs, o ≠ .tup xs) : Tups G (upd G' a o') := fun x xs q => by
  have := t x xs q
  exact upd_other (fun z => by rw [z, h] at this; (replace this := Option.some.inj this; subst this); exact n _ rfl) this
theorem Tups.fresh {G G' : AH} {a : Nat} {o' : AO} (t : Tups G G') (h : G' a = none) : Tups G (Mine.upd G' a o') := fun x xs q => by
  have := t x xs q
  exact upd_other (ne_fresh h this) this
end
end Mine
end
section
open PySem PySem.W PyProof.Rows PySem.Calls
set_option linter.unusedVariables false
set_option Elab.async false
namespace Mine
section
variable {prog : Program} {w : World} {K : Frag} {c : Cx prog w K} {envs outer : List Env} {env : Env} {H G : AH} {A : Around} {E : Value → Shared → Prop} {s : Shared}
theorem at_prop {a : Nat} {C : Addr} {fs : List (Str × Value)} {name : Str} {expr : Bool} {p fget : Addr} {rest : List Value} {Q : Value → Shared → Prop} (S : St c envs H s) (e : H a = some (.inst C fs))
    (hg : plainGet K C name = true) (hh : hasDictIn K C = true) (ha : findIn K (.ref C) name = some (some (.ref p))) (hn : specialIn K (.ref p) "__get__" = some (some (.builtin "property.__get__"))) (ht : takesIn K (.ref p) = some true) (hp : recIn K p "property" = some (.ref fget :: rest))
    (h : ∀ s', St c envs H s' → codeAny (model prog w) A.in1 (.call (.ref fget) ⟨[.ref a], []⟩) (fun r s' => match r with | .ok (.ret v) => wpAny (model prog w) A (handedOut v) Q E s' | .ok _ => False | .error e => wpAny (model prog w) A (noteIf true (.ref a) (.str name s.toks) e) (fun _ s'' => E e s'') E s') s') :
    wpAny (model prog w) A (getAttr (.ref a) name expr) Q E s := by
  (refine Mine.el_EEAAAA (S.inst e) fun es n I hd hz hk hm => ?_)
  have X := S.inK
  exact get_bind X I (plainGet_of hg).1 (findObj_data (by (refine Mine.el_EA (any_some hh) fun cd hc _ => ?_); rw [hc]; rfl) ha hn ht) (plainGet_of hg).2 (wpAny_call (prop_get (s := { s with toks := s.toks + 1 }) X hp (h _ (S.tok _))))
theorem at_pset {a : Nat} {C : Addr} {fs : List (Str × Value)} {name : Str} {v va : Value} {p fset : Addr} {rest : List Value} {Q : Unit → Shared → Prop} (S : St c envs H s) (e : H a = some (.inst C fs))
    (hs : findIn K (.ref C) "__setattr__" = some (some (.builtin "object.__setattr__"))) (hp : plainOver K C = true) (ht : takerIn K C name = some (some (.ref p))) (hT : typeIn K (.ref p) = some (.type "property")) (hr : recIn K p "property" = some (va :: .ref fset :: rest))
    (h : ∀ s', St c envs H s' → codeAny (model prog w) A.in1.in1 (.call (.ref fset) ⟨[.ref a, v], []⟩) (fun r s' => match r with | .ok (.ret _) => Q () s' | .ok _ => False | .error e => E e s') s') : wpAny (model prog w) A (setAttr (.ref a) name v) Q E s := by
  (refine Mine.el_EEAAAA (S.inst e) fun es n I hd hz hk hm => ?_)
  have X := S.inK
  exact set_plain X I hs (osa_descr (s := { s with toks := s.toks + 1 }) KF.slot_pset X I hp ht hT (prop_set (s := { s with toks := s.toks + 1 }) X hr (codeAny_mono (h _ (S.tok _)) fun r s' z => by rcases r with e | (v | _ | _ | _) <;> first | exact z | exact z.elim)))
end
end Mine
end
section
open PySem PySem.W PyProof.Rows PySem.Calls
set_option linter.unusedVariables false
set_option Elab.async false
namespace Mine
theorem none_up {H : AH} {a b : Nat} {o : AO} (h : upd H a o b = none) : H b = none := by
  by_cases z : b = a
  · subst z; rw [upd_self] at h; (exact Mine.no_sn h)
  · rw [upd_ne z] at h; exact h
theorem ne_kind {H : AH} {a b : Nat} {o o' : AO} (h : H a = some o) (k : H b = some o') (n : o ≠ o') : a ≠ b := fun z => by rw [z, k] at h; exact n (Option.some.inj h).symm
noncomputable def Cov (xs : List Nat) (N H : AH) : Prop := ∀ b, b ∉ xs → ∀ o, N b = some o → ∃ o', H b = some o' ∧ o.le o'
section
variable {N H : AH} {xs : List Nat} {a : Nat} {v v' : AO}
theorem Cov.sub (h : Cov [] N H) : Sub N H := fun b o q => h b List.not_mem_nil o q
theorem Cov.n (e : H a = some v') (l : v.le v') (h : Cov (a :: xs) N H) : Cov xs (upd N a v) H := fun b hb o q => by
  by_cases z : b = a
  · subst z; rw [upd_self] at q; (replace q := Option.some.inj q; subst q); exact ⟨v', e, l⟩
  · rw [upd_ne z] at q; exact h b (fun y => by rcases List.mem_cons.mp y with y | y; exact z y; exact hb y) o q
theorem Cov.refl : Cov xs N N := fun b _ o q => ⟨o, q, .inl rfl⟩
theorem Cov.hm (m : a ∈ xs) (h : Cov xs N H) : Cov xs N (upd H a v) := fun b hb o q => by
  (refine Mine.el_EA (h b hb o q) fun o' e l => ?_)
  exact ⟨o', upd_other (fun z => hb (z ▸ m)) e, l⟩
theorem Cov.hn (n : N a = none) (h : Cov xs N H) : Cov xs N (upd H a v) := fun b hb o q => by
  (refine Mine.el_EA (h b hb o q) fun o' e l => ?_)
  exact ⟨o', upd_other (fun z => by rw [z, n] at q; (exact Mine.no_ns q)) e, l⟩
theorem Cov.hs (n : N a = some v') (l : v'.le v) (h : Cov xs N H) : Cov xs N (upd H a v) := fun b hb o q => by
  by_cases z : b = a
  · subst z; rw [n] at q; (replace q := Option.some.inj q; subst q); exact ⟨v, upd_self .., l⟩
  · (refine Mine.el_EA (h b hb o q) fun o' e l => ?_)
    exact ⟨o', upd_other z e, l⟩
end
section
variable {prog : Program} {w : World} {K : Frag} {c : Cx prog w K} {envs outer : List Env} {env : Env} {H G : AH} {A : Around} {E : Value → Shared → Prop} {s : Shared}
theorem with_fin {body orelse fb : List Stmt} {hs : List ExceptHandler} {pos : Pos} {Q : Flow → Shared → Prop} (Pre : Around → (Flow → Shared → Prop) → Shared → Prop)
    (fin : ∀ A' E' Q' s', Pre A' Q' s' → wpAny (model prog w) A' (execs fb env) Q' E' s')
    (main : (∀ A' E' Q' s', Pre A' Q' s' → wpAny (model prog w) A' (execs fb env) Q' E' s') → wpAny (model prog w) A (exec (.Try body hs orelse fb pos) env) Q E s) : wpAny (model prog w) A (exec (.Try body hs orelse fb pos) env) Q E s := main fin
theorem unpack2 {a b : Str} {pa pb pos : Pos} {x1} {t : Nat} {x y : Value} {Q : Unit → Shared → Prop} (S : St c envs H s) (ht : H t = some (.tup [x, y])) (d : Hd A H)
    (k : ∀ v1 v2 s', er v1 = x → er v2 = y → St c envs H s' → wpAny (model prog w) A (assign (.Name a pa) env v1) (fun _ s2 => wpAny (model prog w) A (assign (.Name b pb) env v2) Q E s2) E s') :
    wpAny (model prog w) A (assign (.Tuple [.Name a pa, .Name b pb] x1 pos) env (.ref t)) Q E s := by
  refine unpack_tup S ht d rfl rfl fun vs s' hm S' => ?_
  obtain ⟨v1, r1, rfl, h1, hm⟩ := List.map_eq_cons_iff.mp hm
  obtain ⟨v2, r2, rfl, h2, hm⟩ := List.map_eq_cons_iff.mp hm
  (have zq := (List.map_eq_nil_iff.mp hm); subst zq)
  · show wpAny _ _ (do holding [v2] (assign (.Name a pa) env v1); holding [] (assign (.Name b pb) env v2); pure ()) Q E s'
    refine wpAny_bind (wpAny_holding (wpAny_mono (k v1 v2 s' h1 h2 S') (fun _ s2 h2 => wpAny_bind (wpAny_holding (wpAny_mono h2 (fun _ s3 h3 => wpAny_pure h3) fun _ _ x => x))) fun _ _ x => x))
theorem unpack3 {a b e : Str} {pa pb pe pos : Pos} {x1} {t : Nat} {x y z : Value} {Q : Unit → Shared → Prop} (S : St c envs H s) (ht : H t = some (.tup [x, y, z])) (d : Hd A H)
    (k : ∀ v1 v2 v3 s', er v1 = x → er v2 = y → er v3 = z → St c envs H s' → wpAny (model prog w) A (assign (.Name a pa) env v1) (fun _ s2 => wpAny (model prog w) A (assign (.Name b pb) env v2) (fun _ s3 => wpAny (model prog w) A (assign (.Name e pe) env v3) Q E s3) E s2) E s') :
    wpAny (model prog w) A (assign (.Tuple [.Name a pa, .Name b pb, .Name e pe] x1 pos) env (.ref t)) Q E s := by
  refine unpack_tup S ht d rfl rfl fun vs s' hm S' => ?_
  obtain ⟨v1, r1, rfl, h1, hm⟩ := List.map_eq_cons_iff.mp hm
  obtain ⟨v2, r2, rfl, h2, hm⟩ := List.map_eq_cons_iff.mp hm
  obtain ⟨v3, r3, rfl, h3', hm⟩ := List.map_eq_cons_iff.mp hm
  (have zq := (List.map_eq_nil_iff.mp hm); subst zq)
  · show wpAny _ _ (do holding [v2, v3] (assign (.Name a pa) env v1); holding [v3] (assign (.Name b pb) env v2); holding [] (assign (.Name e pe) env v3); pure ()) Q E s'
    refine wpAny_bind (wpAny_holding (wpAny_mono (k v1 v2 v3 s' h1 h2 h3' S') (fun _ s2 h2 => wpAny_bind (wpAny_holding (wpAny_mono h2 (fun _ s3 h3 => wpAny_bind (wpAny_holding (wpAny_mono h3 (fun _ s4 h4 => wpAny_pure h4) fun _ _ x => x))) fun _ _ x => x))) fun _ _ x => x))
theorem for_list_h {target : Expr} {body orelse : List Stmt} {l : Nat} {R : Result → Shared → Prop} (xs : List Value) (I : Nat → AH → Prop) (S : St c envs H s) (hI : I 0 H)
    (hl : ∀ i G, I i G → G l = some (.list xs)) (hd : ∀ i G, I i G → Hd A G)
    (turn : ∀ (it i : Nat) G s' v x, I i G → G it = none → G l = some (.list xs) → xs[i]? = some x → er v = x → St c envs (upd G it (.iter l (i + 1))) s' → ∀ (QB : Flow → Shared → Prop) (EB : Value → Shared → Prop), (∀ s₃, LoopAt c envs I it l (i + 1) s₃ → QB .next s₃) →
      wpAny (model prog w) A (assign target env v) (fun _ s₂ => wpAny (model prog w) A (execs body env) QB EB s₂) EB s')
    (fin : ∀ G s', I xs.length G → St c envs G s' → ∀ (QB : Flow → Shared → Prop) (EB : Value → Shared → Prop), (∀ f s₃, R (.ok f) s₃ → QB f s₃) → wpAny (model prog w) A (execs orelse env) QB EB s') :
    wpAny (model prog w) A (pyIter (.ref l)) (fun it s₂ => codeAny (model prog w) A (.forLoop target it body orelse env) R s₂) E s :=
  for_list xs I S hI hl hd (fun it i G s' v x a b d e f g => turn it i G s' v x a b d e f g _ _ fun _ z => z) (fun G s' a b => fin G s' a b _ _ fun _ _ z => z)
end
end Mine
end
section
open PySem PySem.W PyProof.Rows PySem.Calls
set_option linter.unusedVariables false
set_option Elab.async false
namespace Mine
theorem loc_callEnv {fd : FuncData} {L f : Addr} : (callEnv fd L f).locals = L := rfl
theorem Frs.join {envs : List Env} {F G : AH} (f : Frs envs F) : Frs envs (Mine.join F G) := fun env m => by
  (refine Mine.el_AEEA (f env m) fun k L l h1 h2 => ?_)
  exact ⟨k, L, l, h1, join_l h2⟩
theorem Frs.cons {envs : List Env} {env : Env} {H : AH} {L : Nat} {l : List (Str × Value)} (f : Frs envs H) (e : H L = some (.ns l)) (hf : env.frame = some L) (k : env.scope.kind ≠ .module) : Frs (env :: envs) H := fun x m => by
  rcases List.mem_cons.mp m with rfl | m
  · exact ⟨k, L, l, hf, e⟩
  · exact f x m
theorem fn_re {F : AH} {a b : Nat} {x y x' y' : AO} (h : a ≠ b) : upd (upd (upd (upd F a x) b y) a x') b y' = upd (upd F a x') b y' := by
  funext c; simp only [upd]; split <;> (try rfl) <;> split <;> (try rfl) <;> simp_all
theorem idx_exc : isSubtype (.type "IndexError") (.type "BaseException") = pure true := by rw [isSubtype_type]; kernel_rfl
theorem idx_nt : isSubtype (.type ((Manifest.find? "IndexError").elim "type" fun y => y.metatype)) (.type "tuple") = pure false := by rw [isSubtype_type]; kernel_rfl
theorem idx_sub : isSubtype (.type "IndexError") (.type "IndexError") = pure true := by rw [isSubtype_type]; kernel_rfl
theorem key_exc : isSubtype (.type "KeyError") (.type "BaseException") = pure true := by rw [isSubtype_type]; kernel_rfl
theorem key_nt : isSubtype (.type ((Manifest.find? "KeyError").elim "type" fun y => y.metatype)) (.type "tuple") = pure false := by rw [isSubtype_type]; kernel_rfl
theorem key_sub : isSubtype (.type "KeyError") (.type "KeyError") = pure true := by rw [isSubtype_type]; kernel_rfl
theorem none_ne {H : AH} {a b : Nat} {o : AO} (h : upd H a o b = none) : b ≠ a := fun z => by subst z; rw [upd_self] at h; (exact Mine.no_sn h)
theorem St.env {prog : Program} {w : World} {K : Frag} {c : Cx prog w K} {ev : List Env} {H : AH} {s : Shared} (S : St c ev H s) : ∃ e, e = ev ∧ St c e H s := ⟨_, rfl, S⟩
section
variable {SC : Nat} {P : Pl} {G H : AH} {M : Mo} {a : Nat} {o o' : AO}
theorem Ents.turn {ts : List Nat} {q : List (Int × Int)} (h : Ents P H ts q) (e : H a = some o) (n : ∀ xs, o ≠ .tup xs) : Ents P (upd H a o') ts q :=
  h.mono fun b xs z => upd_other (fun y => by rw [y, e] at z; (replace z := Option.some.inj z; subst z); exact n _ rfl) z
theorem Ents.fresh {ts : List Nat} {q : List (Int × Int)} (h : Ents P H ts q) (e : H a = none) : Ents P (upd H a o') ts q :=
  h.mono fun b xs z => upd_other (ne_fresh e z) z
theorem StreamAt.turn {i : Int} (h : StreamAt SC P H i) (e : H a = some o) (n : o.isInst = false) : StreamAt SC P (upd H a o') i :=
  let ⟨fs, h1, h2⟩ := h; ⟨fs, upd_other (fun y => by rw [y, e] at h1; (replace h1 := Option.some.inj h1; subst h1); (exact Mine.no_tf n)) h1, h2⟩
theorem StreamAt.fresh {i : Int} (h : StreamAt SC P H i) (e : H a = none) : StreamAt SC P (upd H a o') i :=
  let ⟨fs, h1, h2⟩ := h; ⟨fs, upd_other (ne_fresh e h1) h1, h2⟩
theorem StreamAt.inst {i : Int} {fs fs' : List (Str × Value)} (h : StreamAt SC P H i) (e : H a = some (.inst SC fs)) (l : fs'.lookup ("stream_id" : Str) = fs.lookup ("stream_id" : Str)) : StreamAt SC P (upd H a (.inst SC fs')) i := by
  (refine Mine.el_EA h fun f h1 h2 => ?_; (try clear h))
  by_cases z : P.D i = a
  · rw [z] at h1; rw [h1] at e; cases e
    exact ⟨fs', by rw [z]; exact upd_self .., l.trans h2⟩
  · exact ⟨f, upd_other z h1, h2⟩
end
section
variable {rk : Int → Nat} {M : Mo} {i : Int} {d n : Nd} {pp : List (Int × Int)}
theorem fin_take {e : Int × Int} {j : Nat} (h : pp[j]? = some e) : fin i (pp.take (j + 1)) M = fstep i (fin i (pp.take j) M) e := by
  have hj : j < pp.length := (List.getElem?_eq_some_iff.mp h).1
  have he : pp[j] = e := (List.getElem?_eq_some_iff.mp h).2
  rw [List.take_succ_eq_append_getElem hj, he]
  unfold fin
  rw [List.foldl_append]; rfl
theorem fin_self : ∀ (pp : List (Int × Int)) {M : Mo} {d : Nd} (o : OkM rk M) (hi : M i = some d) (hp : ∀ e ∈ pp, (∃ m, M e.2 = some m) ∧ rk e.2 < rk i) (hz : d.q.length + pp.length ≤ 1000), ∃ d', fin i pp M i = some d' ∧ d'.q.length = d.q.length + pp.length
  | [], M, d, o, hi, hp, hz => ⟨d, hi, rfl⟩
  | e :: pp, M, d, o, hi, hp, hz => by
    (refine Mine.el_A (hp e (.head _)) fun zq0 hr => ?_; refine Mine.el_E zq0 fun n hn => ?_; clear zq0)
    simp only [List.length_cons] at hz
    have R := Res.fstep o hi hn hr (by first | decide | omega)
    (refine Mine.el_EA (fstep_self hi hn) fun d' hd' hl => ?_)
    (refine Mine.el_EA (fin_self pp R.ok hd' (fun x hx => ⟨(hp x (.tail _ hx)).1.elim fun m hm => (R.like.fw _ m hm).elim fun m' h => ⟨m', h.1⟩, (hp x (.tail _ hx)).2⟩) (by first | decide | omega)) fun d2 h2 l2 => ?_)
    exact ⟨d2, h2, by rw [l2, hl]; simp only [List.length_cons]; omega⟩
theorem Tree.fstep {SC : Nat} {P : Pl} {G : AH} {t' : Nat} {e : Int × Int} {ts : List Nat} (t : Tree SC P M G) (hi : M i = some d) (he : M e.2 = some n) (hne : e.2 ≠ i) (h' : G t' = none) (hts : G (P.QL i) = some (.list (ts.map .ref))) (hE : Ents P G ts d.q) :
    Tree SC P (fstep i M e) (upd (upd (upd (upd G (P.D i) (.inst SC (flds P i { d with lw := e.1 }))) (P.D e.2) (.inst SC (flds P e.2 { n with df := (256 + n.df) % n.wt }))) t' (.tup [.int (e.1 + (256 + n.df) / n.wt) 0, .ref (P.D e.2)]))
      (P.QL i) (.list ((put (place (klt (e.1 + (256 + n.df) / n.wt, e.2)) d.q) t' ts).map .ref))) := by
  rw [fstep_eq hi he]
  have t1 := t.set (n' := { d with lw := e.1 }) hi rfl rfl
  have he1 : (M.put i { d with lw := e.1 }) e.2 = some n := (Mo.put_ne hne).trans he
  have t2 := t1.set (n' := { n with df := (256 + n.df) % n.wt }) he1 rfl rfl
  have f1 : (upd (upd G (P.D i) (.inst SC (flds P i { d with lw := e.1 }))) (P.D e.2) (.inst SC (flds P e.2 { n with df := (256 + n.df) % n.wt }))) t' = none := by
    rw [upd_ne (fun z => by have := t.inst _ _ he; rw [← z, h'] at this; (exact Mine.no_ns this)), upd_ne (fun z => by have := t.inst _ _ hi; rw [← z, h'] at this; (exact Mine.no_ns this))]; exact h'
  have t3 := t2.fresh (o := .tup [.int (e.1 + (256 + n.df) / n.wt) 0, .ref (P.D e.2)]) f1
  have hi3 : ((M.put i { d with lw := e.1 }).put e.2 { n with df := (256 + n.df) % n.wt }) i = some { d with lw := e.1 } := (Mo.put_ne hne.symm).trans (Mo.put_self ..)
  have hE2 : Ents P (upd (upd (upd G (P.D i) (.inst SC (flds P i { d with lw := e.1 }))) (P.D e.2) (.inst SC (flds P e.2 { n with df := (256 + n.df) % n.wt }))) t' (.tup [.int (e.1 + (256 + n.df) / n.wt) 0, .ref (P.D e.2)])) ts d.q := by
    refine Ents.fresh ?_ f1
    refine Ents.turn (Ents.turn hE (t.inst _ _ hi) (by intro xs z; (exact Mine.tag_ne z rfl))) (t1.inst _ _ he1) (by intro xs z; (exact Mine.tag_ne z rfl))
  have t4 := t3.setq hi3 (hE2.put (t := t') (e := (e.1 + (256 + n.df) / n.wt, e.2)) (p := place (klt (e.1 + (256 + n.df) / n.wt, e.2)) d.q) (upd_self ..))
  have hM : (((M.put i { d with lw := e.1 }).put e.2 { n with df := (256 + n.df) % n.wt }).put i { d with lw := e.1, q := put (place (klt (e.1 + (256 + n.df) / n.wt, e.2)) d.q) (e.1 + (256 + n.df) / n.wt, e.2) d.q }) =
      ((M.put e.2 { n with df := (256 + n.df) % n.wt }).put i { d with lw := e.1, q := ins (e.1 + (256 + n.df) / n.wt, e.2) d.q }) := by
    funext j
    simp only [Mo.put, ins]
    split
    · rfl
    · split <;> rfl
  rw [← hM]; exact t4
end
end Mine
end
section
open PySem PySem.W PyProof.Rows PySem.Calls
set_option linter.unusedVariables false
set_option Elab.async false
namespace Mine
noncomputable abbrev pfl (P : Pl) (dd : Nat) : List (Str × Value) := [("_root_stream", .ref (P.D 0)), ("_streams", .ref dd), ("_maximum_streams", .int 1000 0)]
structure PT (SC PC : Nat) (P : Pl) (M : Mo) (ks : List Int) (pt dd : Nat) (Gt : AH) : Prop where
  tree : Tree SC P M Gt
  pn : Gt pt = none
  dn : Gt dd = none
  ne : pt ≠ dd
  nd : ks.Nodup
  ks : ∀ i, i ∈ ks ↔ ∃ n, M i = some n
noncomputable def pdict (P : Pl) (ks : List Int) : List (Int × Value) := ks.map fun i => (i, .ref (P.D i))
noncomputable def PTree (SC PC : Nat) (M : Mo) (ks : List Int) (pt : Nat) (G : AH) : Prop :=
  ∃ P dd Gt, PT SC PC P M ks pt dd Gt ∧ G = upd (upd Gt pt (.inst PC (pfl P dd))) dd (.imap (pdict P ks))
theorem PTree.split {SC PC : Nat} {M : Mo} {ks : List Int} {pt : Nat} {F G : AH} (t : PTree SC PC M ks pt G) (dj : Dj F G) :
    ∃ P dd Gt, PT SC PC P M ks pt dd Gt ∧ F pt = none ∧ F dd = none ∧ Dj F Gt ∧ Dj (upd (upd F pt (.inst PC (pfl P dd))) dd (.imap (pdict P ks))) Gt ∧ join F G = join (upd (upd F pt (.inst PC (pfl P dd))) dd (.imap (pdict P ks))) Gt := by
  (refine Mine.el_EEEA t fun P dd Gt p zq0 => ?_; (first | subst zq0 | cases zq0); (try clear t))
  have f2 : F dd = none := dj _ _ (upd_self ..)
  have f1 : F pt = none := dj _ _ (upd_other p.ne (upd_self ..))
  have d0 : Dj F Gt := fun a o q => dj a o (upd_other (fun z => by rw [z, p.dn] at q; (exact Mine.no_ns q)) (upd_other (fun z => by rw [z, p.pn] at q; (exact Mine.no_ns q)) q))
  refine ⟨P, dd, Gt, p, f1, f2, d0, (d0.l p.pn).l p.dn, ?_⟩
  rw [← upd_join_r f2, ← upd_join_r f1, upd_join, upd_join]
theorem PTree.back {SC PC : Nat} {P : Pl} {M M' : Mo} {ks : List Int} {pt dd : Nat} {F Gt Gt' : AH} (p : PT SC PC P M ks pt dd Gt) (f1 : F pt = none) (f2 : F dd = none) (d : Dj (upd (upd F pt (.inst PC (pfl P dd))) dd (.imap (pdict P ks))) Gt') (t : Tree SC P M' Gt') (l : Like M M') :
    PTree SC PC M' ks pt (upd (upd Gt' pt (.inst PC (pfl P dd))) dd (.imap (pdict P ks))) ∧ Dj F (upd (upd Gt' pt (.inst PC (pfl P dd))) dd (.imap (pdict P ks))) ∧
    join (upd (upd F pt (.inst PC (pfl P dd))) dd (.imap (pdict P ks))) Gt' = join F (upd (upd Gt' pt (.inst PC (pfl P dd))) dd (.imap (pdict P ks))) := by
  have pn : Gt' pt = none := d.has (upd_other p.ne (upd_self ..))
  have dn : Gt' dd = none := d.has (upd_self ..)
  refine ⟨⟨P, dd, Gt', ⟨t, pn, dn, p.ne, p.nd, fun i => (p.ks i).trans ⟨fun ⟨n, h⟩ => (l.fw i n h).elim fun n' h' => ⟨n', h'.1⟩, fun ⟨n, h⟩ => l.bw i n h⟩⟩, rfl⟩, ?_, ?_⟩
  · have d0 : Dj F Gt' := d.sub (((Sub.refl F).fresh f1).fresh f2)
    exact (d0.r f1).r f2
  · rw [← upd_join_r f2, ← upd_join_r f1, upd_join, upd_join]
end Mine
end
section
open PySem PySem.W PyProof.Rows PySem.Calls
set_option linter.unusedVariables false
set_option Elab.async false
namespace Mine
section
variable {prog : Program} {w : World} {K : Frag} {c : Cx prog w K} {envs outer : List Env} {env : Env} {H G : AH} {A : Around} {E : Value → Shared → Prop} {s : Shared}
theorem Rm.under {A : Around} {d u : Nat} {C : Addr} {vals : List Value} {kw : List (Str × Value)} (R : Rm A (d + 1) (u + 1)) : Rm (A.under (.builtin "type.__call__" ⟨.ref C :: vals, kw⟩)) d u :=
  ⟨by have := R.depth; rw [show (A.under (.builtin "type.__call__" ⟨.ref C :: vals, kw⟩)).depth = A.depth + 1 from rfl]; omega,
   by have := R.units; rw [show (A.under (.builtin "type.__call__" ⟨.ref C :: vals, kw⟩)).units = A.units + 1 from by show A.units + _ = _; congr 1]; omega⟩
theorem make_ {C fI : Addr} {rest : List Value} {kw : List (Str × Value)} {R : Result → Shared → Prop} (S : St c envs H s) (hm : makesIn K C = true) (hi : findIn K (.ref C) "__init__" = some (some (.ref fI))) (hf : isFn K (.ref fI) = true)
    (h : ∀ (x : Nat) s', H x = none → St c envs (upd H x (.inst C [])) s' → codeAny (model prog w) (A.under (.builtin "type.__call__" ⟨.ref C :: rest, kw⟩)) (.call (.ref fI) ⟨.ref x :: rest, kw⟩) (InitBack x R) s') :
    codeAny (model prog w) A (.call (.ref C) ⟨rest, kw⟩) R s := by
  have X := S.inK
  have hx : H (s.heap.objs.size + 1) = none := S.fresh (by first | decide | omega)
  have k : ∀ b o, s.heap.get? b = some o → ((s.heap.push emptyDict).push (instObj C s.heap.objs.size)).get? b = some o := fun b o e => Heap.get?_push_of_some _ (Heap.get?_push_of_some _ e)
  have S1 := S.new (a := s.heap.objs.size + 1) (o := .inst C []) (t := s.toks) (h' := (s.heap.push emptyDict).push (instObj C s.heap.objs.size)) k (by first | decide | omega) (fun _ => by omega)
    ⟨by omega, by
      have : ((s.heap.push emptyDict).push (instObj C s.heap.objs.size)).get? (s.heap.objs.size + 1) = some (instObj C s.heap.objs.size) := by heap_get
      exact this, [], 0, by
      have : ((s.heap.push emptyDict).push (instObj C s.heap.objs.size)).get? s.heap.objs.size = some emptyDict := by heap_get
      exact this, Nat.le_refl _, (fun e he => by cases he), fun x => rfl⟩ (by simp only [Heap.size_push]; omega)
  have h2 := h _ _ hx S1
  obtain ⟨hh, g, dw, tk, os⟩ := s
  exact make_core (makes_of X hm) (looks_findIn X hi) (fun self => bind_fn X self (beq_iff_eq.mp hf)) (.inl rfl) h2
end
end Mine
end
section
set_option linter.unusedVariables false
set_option Elab.async false
namespace Mine
noncomputable def newNd (w : Int) : Nd := ⟨w, [], none, [], true, 0, 0⟩
noncomputable def adopt (M : Mo) (i j : Int) : Mo :=
  match M i, M j with
  | some d, some n => (M.put j { n with par := some i }).put i { d with kids := d.kids ++ [j], q := ins (d.lw, j) d.q }
  | _, _ => M
noncomputable def actv (M : Mo) (i : Int) (b : Bool) : Mo :=
  match M i with
  | some n => M.put i { n with act := b }
  | none => M
structure Clo (M : Mo) : Prop where
  kids : ∀ i n, M i = some n → ∀ k ∈ n.kids, ∃ m, M k = some m
  par : ∀ i n p, M i = some n → n.par = some p → ∃ m, M p = some m
section
variable {rk : Int → Nat} {M : Mo} {i j : Int} {d n : Nd}
theorem adopt_eq (hi : M i = some d) (hj : M j = some n) : adopt M i j = (M.put j { n with par := some i }).put i { d with kids := d.kids ++ [j], q := ins (d.lw, j) d.q } := by
  unfold adopt; rw [hi, hj]
theorem actv_eq (hi : M i = some n) {b : Bool} : actv M i b = M.put i { n with act := b } := by unfold actv; rw [hi]
theorem put_ex {k : Int} {m : Nd} (h : ∃ n, M k = some n) : ∃ n, M.put i m k = some n := by
  by_cases q : k = i
  · subst q; exact ⟨m, Mo.put_self ..⟩
  · (refine Mine.el_E h fun n hn => ?_; (try clear h)); exact ⟨n, (Mo.put_ne q).trans hn⟩
end
end Mine
end
section
open PySem PySem.W PyProof.Rows PySem.Calls
set_option linter.unusedVariables false
set_option Elab.async false
namespace Mine
section
variable {SC : Nat} {P : Pl} {G H : AH} {M : Mo} {rk : Int → Nat}
noncomputable abbrev nfl (i w : Int) (cl ql : Nat) : List (Str × Value) := [("stream_id", .int i 0), ("_weight", .int w 0), ("children", .ref cl), ("parent", .none), ("child_queue", .ref ql), ("active", .bool true), ("last_weight", .int 0 0), ("_deficit", .int 0 0)]
noncomputable def Pl.at (P : Pl) (i : Int) (x cl ql : Nat) : Pl := ⟨fun j => if j = i then x else P.D j, fun j => if j = i then cl else P.CL j, fun j => if j = i then ql else P.QL j⟩
theorem Ents.pl {P P' : Pl} : ∀ {ts : List Nat} {q : List (Int × Int)}, (∀ e ∈ q, P'.D e.2 = P.D e.2) → Ents P G ts q → Ents P' G ts q
  | [], [], _, _ => trivial
  | t :: ts, e :: q, k, h => ⟨by rw [k e (.head _)]; exact h.1, Ents.pl (fun x hx => k x (.tail _ hx)) h.2⟩
  | [], _ :: _, _, h => h.elim
  | _ :: _, [], _, h => h.elim
theorem Tree.newNode (t : Tree SC P M G) (c : Clo M) (o : OkM rk M) {i w : Int} {x cl ql : Nat} (hi : M i = none) (hx : G x = none) (hc : G cl = none) (hq : G ql = none) (n1 : x ≠ cl) (n2 : x ≠ ql) (n3 : cl ≠ ql) :
    Tree SC (P.at i x cl ql) (M.put i (newNd w)) (upd (upd (upd G x (.inst SC (nfl i w cl ql))) cl (.list [])) ql (.list [])) := by
  have keep : ∀ (a : Nat) o, G a = some o → upd (upd (upd G x (.inst SC (nfl i w cl ql))) cl (.list [])) ql (.list []) a = some o := fun a o h =>
    upd_other (ne_fresh hq h) (upd_other (ne_fresh hc h) (upd_other (ne_fresh hx h) h))
  have old : ∀ j m, M.put i (newNd w) j = some m → j ≠ i → M j = some m := fun j m h q => by rw [Mo.put_ne q] at h; exact h
  have ne : ∀ j m, M j = some m → j ≠ i := fun j m h z => by rw [z, hi] at h; (exact Mine.no_ns h)
  have D1 : ∀ j, j ≠ i → (P.at i x cl ql).D j = P.D j := fun j h => if_neg h
  have C1 : ∀ j, j ≠ i → (P.at i x cl ql).CL j = P.CL j := fun j h => if_neg h
  have Q1 : ∀ j, j ≠ i → (P.at i x cl ql).QL j = P.QL j := fun j h => if_neg h
  have D0 : (P.at i x cl ql).D i = x := if_pos rfl
  have C0 : (P.at i x cl ql).CL i = cl := if_pos rfl
  have Q0 : (P.at i x cl ql).QL i = ql := if_pos rfl
  refine ⟨fun j m h => ?_, fun j m h => ?_, fun j m h => ?_, fun j l a b h1 h2 => ?_, fun j l a b h1 h2 z => ?_, fun j l a b h1 h2 z => ?_⟩
  · by_cases q : j = i
    · subst q; rw [Mo.put_self] at h; (replace h := Option.some.inj h; subst h)
      rw [D0]
      show _ = some (AO.inst SC (flds (P.at j x cl ql) j (newNd w)))
      unfold flds
      rw [C0, Q0]
      exact upd_other n2 (upd_other n1 (upd_self ..))
    · have h0 := old j m h q
      rw [D1 j q]
      have e := keep _ _ (t.inst j m h0)
      unfold flds at e ⊢
      rw [C1 j q, Q1 j q]
      have : pv (P.at i x cl ql) m.par = pv P m.par := by
        cases hp : m.par with
        | none => rfl
        | some p => (refine Mine.el_E (c.par j m p h0 hp) fun y hy => ?_); show Value.ref _ = Value.ref _; rw [D1 p (ne p y hy)]
      rw [this]; exact e
  · by_cases q : j = i
    · subst q; rw [Mo.put_self] at h; (replace h := Option.some.inj h; subst h)
      rw [C0]; exact upd_other n3 (upd_self ..)
    · have h0 := old j m h q
      rw [C1 j q]
      have e := keep _ _ (t.cl j m h0)
      have : (m.kids.map fun k => Value.ref ((P.at i x cl ql).D k)) = m.kids.map fun k => .ref (P.D k) := List.map_congr_left fun k hk => by
        (refine Mine.el_E (c.kids j m h0 k hk) fun y hy => ?_); rw [D1 k (ne k y hy)]
      rw [this]; exact e
  · by_cases q : j = i
    · subst q; rw [Mo.put_self] at h; (replace h := Option.some.inj h; subst h)
      rw [Q0]; exact ⟨[], upd_self .., trivial⟩
    · have h0 := old j m h q
      rw [Q1 j q]
      (refine Mine.el_EA (t.ql j m h0) fun ts e1 e2 => ?_)
      refine ⟨ts, keep _ _ e1, (e2.mono fun a xs z => keep _ _ z).pl fun e he => D1 _ ?_⟩
      (refine Mine.el_A ((o.ok j m h0).2.2.2.2.2 e he) fun zq0 _ => ?_; refine Mine.el_E zq0 fun y hy => ?_; clear zq0)
      exact ne _ y hy
  · by_cases q : j = i
    · subst q; rw [C0]
      by_cases q2 : l = j
      · subst q2; rw [Q0]; exact n3
      · rw [Q1 l q2]; intro z; (refine Mine.el_EA (t.ql l b (old l b h2 q2)) fun ts e1 _ => ?_); rw [← z, hc] at e1; (exact Mine.no_ns e1)
    · rw [C1 j q]
      by_cases q2 : l = i
      · subst q2; rw [Q0]; intro z; have := t.cl j a (old j a h1 q); rw [z, hq] at this; (exact Mine.no_ns this)
      · rw [Q1 l q2]; exact t.cq j l a b (old j a h1 q) (old l b h2 q2)
  · by_cases q : j = i
    · by_cases q2 : l = i
      · rw [q, q2]
      · exfalso; rw [q, Q0, Q1 l q2] at z; (refine Mine.el_EA (t.ql l b (old l b h2 q2)) fun ts e1 _ => ?_); rw [← z, hq] at e1; (exact Mine.no_ns e1)
    · by_cases q2 : l = i
      · exfalso; rw [q2, Q0, Q1 j q] at z; (refine Mine.el_EA (t.ql j a (old j a h1 q)) fun ts e1 _ => ?_); rw [z, hq] at e1; (exact Mine.no_ns e1)
      · rw [Q1 j q, Q1 l q2] at z; exact t.qq j l a b (old j a h1 q) (old l b h2 q2) z
  · by_cases q : j = i
    · by_cases q2 : l = i
      · rw [q, q2]
      · exfalso; rw [q, C0, C1 l q2] at z; have := t.cl l b (old l b h2 q2); rw [← z, hc] at this; (exact Mine.no_ns this)
    · by_cases q2 : l = i
      · exfalso; rw [q2, C0, C1 j q] at z; have := t.cl j a (old j a h1 q); rw [z, hc] at this; (exact Mine.no_ns this)
      · rw [C1 j q, C1 l q2] at z; exact t.cc j l a b (old j a h1 q) (old l b h2 q2) z
end
end Mine
end
section
open PySem PySem.W PyProof.Rows PySem.Calls
set_option linter.unusedVariables false
set_option Elab.async false
namespace Mine
section
variable {SC : Nat} {P : Pl} {G H : AH} {M : Mo} {rk : Int → Nat}
theorem Tree.setkids (t : Tree SC P M G) {i : Int} {n : Nd} {ks : List Int} (hi : M i = some n) : Tree SC P (M.put i { n with kids := ks }) (upd G (P.CL i) (.list (ks.map fun j => .ref (P.D j)))) := by
  have e := t.cl i n hi
  have ex : ∀ j m, M.put i { n with kids := ks } j = some m → ∃ m0, M j = some m0 ∧ m0.q = m.q ∧ flds P j m0 = flds P j m ∧ (j ≠ i → m0.kids = m.kids) := fun j m h => by
    by_cases q : j = i
    · subst q; rw [Mo.put_self] at h; (replace h := Option.some.inj h; subst h); exact ⟨n, hi, rfl, rfl, fun z => absurd rfl z⟩
    · rw [Mo.put_ne q] at h; exact ⟨m, h, rfl, rfl, fun _ => rfl⟩
  have tk : ∀ (b : Nat) xs, G b = some (.tup xs) → upd G (P.CL i) (.list (ks.map fun j => .ref (P.D j))) b = some (.tup xs) := fun b xs z => upd_other (fun y => by rw [y, e] at z; (exact Mine.tag_ne (Option.some.inj z) rfl)) z
  refine ⟨fun j m h => ?_, fun j m h => ?_, fun j m h => ?_, fun j l a b h1 h2 => ?_, fun j l a b h1 h2 => ?_, fun j l a b h1 h2 => ?_⟩
  · (refine Mine.el_EAAA (ex j m h) fun m0 h0 k0 f0 _ => ?_)
    have := t.inst j m0 h0
    rw [f0] at this
    exact upd_other (fun z => by rw [z, e] at this; (exact Mine.tag_ne (Option.some.inj this) rfl)) this
  · (refine Mine.el_EAAA (ex j m h) fun m0 h0 _ _ k0 => ?_)
    by_cases z : j = i
    · subst z; rw [Mo.put_self] at h; (replace h := Option.some.inj h; subst h); exact upd_self ..
    · rw [← k0 z]
      have := t.cl j m0 h0
      exact upd_other (fun y => z (t.cc _ _ _ _ h0 hi y)) this
  · (refine Mine.el_EAA (ex j m h) fun m0 h0 k0 _ => ?_)
    (refine Mine.el_EA (t.ql j m0 h0) fun ts1 h1 h2 => ?_)
    rw [← k0]
    exact ⟨ts1, upd_other (Ne.symm (t.cq i j _ _ hi h0)) h1, h2.mono tk⟩
  · (refine Mine.el_EA (ex j a h1) fun _ h1 _ => ?_); (refine Mine.el_EA (ex l b h2) fun _ h2 _ => ?_); exact t.cq _ _ _ _ h1 h2
  · (refine Mine.el_EA (ex j a h1) fun _ h1 _ => ?_); (refine Mine.el_EA (ex l b h2) fun _ h2 _ => ?_); exact t.qq _ _ _ _ h1 h2
  · (refine Mine.el_EA (ex j a h1) fun _ h1 _ => ?_); (refine Mine.el_EA (ex l b h2) fun _ h2 _ => ?_); exact t.cc _ _ _ _ h1 h2
theorem Tree.adopt (t : Tree SC P M G) {i j : Int} {d n : Nd} {t' : Nat} {ts : List Nat} (hi : M i = some d) (hj : M j = some n) (hne : j ≠ i) (h' : G t' = none) (hts : G (P.QL i) = some (.list (ts.map .ref))) (hE : Ents P G ts d.q) :
    Tree SC P (adopt M i j) (upd (upd (upd (upd G (P.D j) (.inst SC (flds P j { n with par := some i }))) (P.CL i) (.list ((d.kids ++ [j]).map fun j => .ref (P.D j)))) t' (.tup [.int d.lw 0, .ref (P.D j)]))
      (P.QL i) (.list ((put (place (klt (d.lw, j)) d.q) t' ts).map .ref))) := by
  rw [adopt_eq hi hj]
  have t1 := t.set (n' := { n with par := some i }) hj rfl rfl
  have hi1 : (M.put j { n with par := some i }) i = some d := (Mo.put_ne (Ne.symm hne)).trans hi
  have t2 := t1.setkids (ks := d.kids ++ [j]) hi1
  have f1 : (upd (upd G (P.D j) (.inst SC (flds P j { n with par := some i }))) (P.CL i) (.list ((d.kids ++ [j]).map fun j => .ref (P.D j)))) t' = none := by
    rw [upd_ne (fun z => by have := t.cl _ _ hi; rw [← z, h'] at this; (exact Mine.no_ns this)), upd_ne (fun z => by have := t.inst _ _ hj; rw [← z, h'] at this; (exact Mine.no_ns this))]; exact h'
  have t3 := t2.fresh (o := .tup [.int d.lw 0, .ref (P.D j)]) f1
  have hi3 : ((M.put j { n with par := some i }).put i { d with kids := d.kids ++ [j] }) i = some { d with kids := d.kids ++ [j] } := Mo.put_self ..
  have hE2 : Ents P (upd (upd (upd G (P.D j) (.inst SC (flds P j { n with par := some i }))) (P.CL i) (.list ((d.kids ++ [j]).map fun j => .ref (P.D j)))) t' (.tup [.int d.lw 0, .ref (P.D j)])) ts d.q := by
    refine Ents.fresh ?_ f1
    refine Ents.turn (Ents.turn hE (t.inst _ _ hj) (by intro xs z; (exact Mine.tag_ne z rfl))) (t1.cl _ _ hi1) (by intro xs z; (exact Mine.tag_ne z rfl))
  have t4 := t3.setq hi3 (hE2.put (t := t') (e := (d.lw, j)) (p := place (klt (d.lw, j)) d.q) (upd_self ..))
  have hM : (((M.put j { n with par := some i }).put i { d with kids := d.kids ++ [j] }).put i { d with kids := d.kids ++ [j], q := put (place (klt (d.lw, j)) d.q) (d.lw, j) d.q }) =
      ((M.put j { n with par := some i }).put i { d with kids := d.kids ++ [j], q := ins (d.lw, j) d.q }) := by
    rw [Mo.put_put]; rfl
  rw [← hM]; exact t4
end
end Mine
end
section
open PySem PySem.W PyProof.Rows PySem.Calls
set_option linter.unusedVariables false
set_option Elab.async false
namespace Mine
theorem IP.pairs {prog : Program} {w : World} : ∀ {es : List DictEntry} {vs : List (Int × Value)}, IP es vs → Pairs (intKind prog w) es vs
  | [], [], _ => .nil
  | e :: es, p :: ps, ⟨⟨t, h1⟩, h2, h3, h4⟩ => .cons (by rw [h1]; show (p.1 == p.1) = true; simp) h3 (IP.pairs h4)
  | [], _ :: _, h => h.elim
  | _ :: _, [], h => h.elim
theorem IP.keys {prog : Program} {w : World} : ∀ {es : List DictEntry} {vs : List (Int × Value)}, IP es vs → ∀ e ∈ es, ∃ k, (intKind prog w).is k e.key = true ∧ e.hash = (intKind prog w).hash k
  | e :: es, p :: ps, ⟨⟨t, h1⟩, h2, h3, h4⟩, x, hx => by
    rcases List.mem_cons.mp hx with rfl | hx
    · exact ⟨p.1, by rw [h1]; show (p.1 == p.1) = true; simp, h2⟩
    · exact IP.keys h4 x hx
  | [], _, _, x, hx => by cases hx
  | _ :: _, [], h, _, _ => h.elim
theorem IP.of {prog : Program} {w : World} {es : List DictEntry} {vs : List (Int × Value)} (h : Pairs (intKind prog w) es vs) (k : ∀ e ∈ es, ∃ k, (intKind prog w).is k e.key = true ∧ e.hash = (intKind prog w).hash k) : IP es vs := by
  induction h with
  | nil => trivial
  | @cons e kv es kvs h1 h2 _ ih =>
    (refine Mine.el_E (Value.isInt_shape h1) fun t h3 => ?_)
    (refine Mine.el_EA (k e (.head _)) fun k' h4 h5 => ?_)
    have : k' = kv.1 := Value.isInt_inj _ _ _ h4 h1
    subst this
    exact ⟨⟨t, h3⟩, h5, h2, ih fun e he => k e (.tail _ he)⟩
theorem Real.dictOf (prog : Program) (w : World) {h : Heap} {a : Nat} {kvs : List (Int × Value)} (r : Real h a (.imap kvs)) : ∃ vs, h.DictOf (intKind prog w) a vs ∧ (vs.map fun p => (p.1, er p.2)) = kvs := by
  (refine Mine.el_EEAEAA r fun es n e vs h1 h2 h3 => ?_; (try clear r))
  exact ⟨vs, ⟨_, es.toArray, n, e, ⟨rfl, rfl, rfl⟩, rfl, fun x hx => IP.keys h1 x (by simpa using hx), by simpa using IP.pairs h1, h2⟩, h3⟩
theorem Real.ofDict {prog : Program} {w : World} {h : Heap} {a : Nat} {vs : List (Int × Value)} (d : h.DictOf (intKind prog w) a vs) : Real h a (.imap (vs.map fun p => (p.1, er p.2))) := by
  (refine Mine.el_EEEAAAAA d fun o es ep ho zq0 hd hk hp hn => ?_; refine Mine.el_AA zq0 fun e1 e2 e3 => ?_; clear zq0; (try clear d))
  refine ⟨es.toList, ep, ?_, vs, IP.of hp (fun e he => hk e (by simpa using he)), hn, rfl⟩
  rw [ho]
  obtain ⟨c, dd, dt, sl⟩ := o
  simp only at e1 e2 e3 hd
  subst e1 e2 e3 hd
  simp [dictOf]
noncomputable def kput (k : Int) (v : Value) (l : List (Int × Value)) : List (Int × Value) := if l.any (fun p => p.1 = k) then l.map (fun p => if p.1 = k then (p.1, v) else p) else l ++ [(k, v)]
noncomputable def kdel (k : Int) (l : List (Int × Value)) : List (Int × Value) := l.filter fun p => p.1 ≠ k
theorem stored_er (vs : List (Int × Value)) (k : Int) (v : Value) : ((stored vs k v).map fun p => (p.1, er p.2)) = kput k (er v) (vs.map fun p => (p.1, er p.2)) := by
  have ha : ((vs.map fun p => (p.1, er p.2)).any fun p => p.1 = k) = vs.any fun kv => kv.1 = k := by rw [List.any_map]; rfl
  unfold stored kput
  rw [ha]
  split
  · rw [List.map_map, List.map_map]
    refine List.map_congr_left fun p _ => ?_
    simp only [Function.comp]
    split <;> rfl
  · simp
theorem valueAt_er (vs : List (Int × Value)) (k : Int) : (valueAt vs k).map er = (vs.map fun p => (p.1, er p.2)).lookup k := by
  induction vs with
  | nil => rfl
  | cons p r ih =>
    unfold valueAt at ih ⊢
    rw [List.map_cons, List.lookup_cons, List.find?_cons]
    by_cases h : p.1 = k
    · simp [h]
    · have : (k == p.1) = false := by simpa using fun z : k = p.1 => h z.symm
      simp only [h, decide_false, this]
      exact ih
section
variable {prog : Program} {w : World} {K : Frag} {c : Cx prog w K} {envs outer : List Env} {env : Env} {H G : AH} {A : Around} {E : Value → Shared → Prop} {s : Shared} {d : Nat} {k : Int} {t : Tok} {kvs : List (Int × Value)}
theorem not_sys (S : St c envs H s) (e : H d = some (.imap kvs)) : (d == sysModules) = false := by
  have h1 := (S.low d _ e).2.2 rfl
  have h2 := c.top.g.lt
  have h3 : sysModules < mainGlobals := by decide
  have h4 : d ≠ sysModules := by intro z; subst z; exact absurd (Nat.lt_trans h3 h2) (Nat.not_lt.mpr h1)
  simpa using h4
theorem int_is {prog : Program} {w : World} (k : Int) (t : Tok) : (intKind prog w).is k (.int k t) = true := by show (k == k) = true; simp
theorem d_in {Q : Value → Shared → Prop} (S : St c envs H s) (e : H d = some (.imap kvs)) (h : ∀ s', St c envs H s' → Q (.bool (kvs.lookup k).isSome) s') : wpAny (model prog w) A (compareOp .In (.int k t) (.ref d)) Q E s := by
  have ns := not_sys S e
  (refine Mine.el_EA ((S.get e).dictOf prog w) fun vs hD zq0 => ?_; (first | subst zq0 | cases zq0))
  refine wpAny_in_of (int_is k t) ns hD.mapOf ?_
  have := h _ (S.tok (s.toks + 1))
  rw [← valueAt_er, Option.isSome_map] at this
  exact this
theorem d_get {v : Value} {Q : Value → Shared → Prop} (S : St c envs H s) (e : H d = some (.imap kvs)) (hv : kvs.lookup k = some v) (h : ∀ v' s', er v' = v → St c envs H s' → Q v' s') : wpAny (model prog w) A (getItem (.ref d) (.int k t)) Q E s := by
  (refine Mine.el_EA ((S.get e).dictOf prog w) fun vs hD zq0 => ?_; (first | subst zq0 | cases zq0))
  rw [← valueAt_er] at hv
  (refine Mine.el_EA (Option.map_eq_some_iff.mp hv) fun y hy he => ?_)
  exact wpAny_getItem_of (int_is k t) hD.mapOf hy (h y _ he (S.tok _))
theorem d_item {value slice : PySem.Expr} {v : Value} {Q : Value → Shared → Prop} (S : St c envs H s) (e : H d = some (.imap kvs)) (hv : kvs.lookup k = some v) (h : ∀ v' s', er v' = v → St c envs H s' → Q v' s')
    (hs : subscripted slice false (.ref d) (.int k t) = operate [.ref d, .int k t] (getItem (.ref d) (.int k t)) := by with_unfolding_all rfl) : wpAny (model prog w) A (subscriptTail value slice (.ref d) (.int k t)) Q E s := by
  (refine Mine.el_EA ((S.get e).dictOf prog w) fun vs hD _ => ?_)
  exact tail_any hD.typeIs slot_dict_getitem.lookup (d_get S e hv h) hs
theorem d_set {v : Value} {Q : Unit → Shared → Prop} (S : St c envs H s) (e : H d = some (.imap kvs)) (hz : kvs.length ≤ 1000) (h : ∀ s', St c envs (upd H d (.imap (kput k (er v) kvs))) s' → Q () s') : wpAny (model prog w) A (setItem (.ref d) (.int k t) v) Q E s := by
  (refine Mine.el_EA ((S.get e).dictOf prog w) fun vs hD zq0 => ?_; (first | subst zq0 | cases zq0))
  refine wpAny_setItem_pairs (int_is k t) hD (fun h' hD' hs => h _ ?_) (by rw [sizeLine_eq]; rw [List.length_map] at hz; omega)
  rw [← stored_er]
  exact S.set e hs (Real.ofDict hD') rfl rfl
theorem d_len {Q : Value → Shared → Prop} (S : St c envs H s) (e : H d = some (.imap kvs)) (hz : kvs.length ≤ 1000) (h : ∀ t s', St c envs H s' → Q (.int kvs.length t) s') : wpAny (model prog w) A (call (.builtin "len") [.ref d]) Q E s := by
  have ns := not_sys S e
  (refine Mine.el_EA ((S.get e).dictOf prog w) fun vs hD zq0 => ?_; (first | subst zq0 | cases zq0))
  rw [List.length_map] at hz
  refine call_len_dict ns hD (by first | decide | omega) ?_
  have := h (s.toks + 1) _ (S.tok (s.toks + 1 + 1))
  rw [List.length_map] at this
  exact this
end
end Mine
namespace Mine
theorem pdict_get {P : Pl} {i : Int} : ∀ {ks : List Int}, i ∈ ks → (pdict P ks).lookup i = some (.ref (P.D i))
  | k :: r, h => by
    show List.lookup i ((k, Value.ref (P.D k)) :: pdict P r) = _
    rw [List.lookup_cons]
    by_cases q : i = k
    · subst q; simp
    · have : (i == k) = false := by simpa using q
      rw [this]
      rcases List.mem_cons.mp h with h | h
      · exact absurd h q
      · exact pdict_get h
end Mine
namespace Mine
theorem PTree.back2 {SC PC : Nat} {P : Pl} {M M' : Mo} {ks : List Int} {pt dd : Nat} {F Gt Gt' : AH} (p : PT SC PC P M ks pt dd Gt) (f1 : F pt = none) (f2 : F dd = none) (d : Dj (upd (upd F pt (.inst PC (pfl P dd))) dd (.imap (pdict P ks))) Gt') (t : Tree SC P M' Gt') (l : ∀ i, (∃ n, M i = some n) ↔ ∃ n, M' i = some n) :
    PTree SC PC M' ks pt (upd (upd Gt' pt (.inst PC (pfl P dd))) dd (.imap (pdict P ks))) ∧ Dj F (upd (upd Gt' pt (.inst PC (pfl P dd))) dd (.imap (pdict P ks))) ∧
    join (upd (upd F pt (.inst PC (pfl P dd))) dd (.imap (pdict P ks))) Gt' = join F (upd (upd Gt' pt (.inst PC (pfl P dd))) dd (.imap (pdict P ks))) := by
  have pn : Gt' pt = none := d.has (upd_other p.ne (upd_self ..))
  have dn : Gt' dd = none := d.has (upd_self ..)
  refine ⟨⟨P, dd, Gt', ⟨t, pn, dn, p.ne, p.nd, fun i => (p.ks i).trans (l i)⟩, rfl⟩, ?_, ?_⟩
  · have d0 : Dj F Gt' := d.sub (((Sub.refl F).fresh f1).fresh f2)
    exact (d0.r f1).r f2
  · rw [← upd_join_r f2, ← upd_join_r f1, upd_join, upd_join]
theorem put_ks {M : Mo} {i : Int} {n m : Nd} (h : M i = some n) : ∀ j, (∃ x, M j = some x) ↔ ∃ x, M.put i m j = some x := fun j => by
  by_cases q : j = i
  · subst q; exact ⟨fun _ => ⟨m, Mo.put_self ..⟩, fun _ => ⟨n, h⟩⟩
  · rw [Mo.put_ne q]
end Mine
end
section
open PySem PySem.W PyProof.Rows PySem.Calls
set_option linter.unusedVariables false
set_option Elab.async false
namespace Mine
theorem pdict_none {P : Pl} {i : Int} : ∀ {ks : List Int}, i ∉ ks → (pdict P ks).lookup i = none
  | [], _ => rfl
  | k :: r, h => by
    show List.lookup i ((k, Value.ref (P.D k)) :: pdict P r) = _
    have q : ¬ i = k := fun z => h (z ▸ .head _)
    have : (i == k) = false := by simpa using q
    rw [List.lookup_cons, this]
    exact pdict_none fun z => h (.tail _ z)
theorem pdict_any {P : Pl} {i : Int} {ks : List Int} (h : i ∉ ks) : ((pdict P ks).any fun p => p.1 = i) = false := by
  rw [List.any_eq_false]
  intro p hp
  (refine Mine.el_EA (List.mem_map.mp hp) fun k hk zq0 => ?_; (first | subst zq0 | cases zq0))
  simpa using fun z : k = i => h (z ▸ hk)
theorem pdict_add {P P' : Pl} {i : Int} {ks : List Int} (h : i ∉ ks) (e : ∀ j ∈ ks, P'.D j = P.D j) : kput i (.ref (P'.D i)) (pdict P ks) = pdict P' (ks ++ [i]) := by
  unfold kput
  rw [pdict_any h]
  unfold pdict
  rw [List.map_append]
  simp only [Bool.false_eq_true, if_false, List.map_cons, List.map_nil]
  congr 1
  exact List.map_congr_left fun j hj => by rw [e j hj]
theorem pdict_len {P : Pl} {ks : List Int} : (pdict P ks).length = ks.length := List.length_map ..
theorem PTree.more {SC PC : Nat} {P P' : Pl} {M M' : Mo} {ks : List Int} {pt dd : Nat} {i : Int} {F Gt Gt' : AH} (p : PT SC PC P M ks pt dd Gt) (f1 : F pt = none) (f2 : F dd = none)
    (d : Dj (upd (upd F pt (.inst PC (pfl P dd))) dd (.imap (pdict P ks))) Gt') (t : Tree SC P' M' Gt') (hi : i ∉ ks) (e : ∀ j ∈ ks, P'.D j = P.D j) (h0 : 0 ∈ ks) (l : ∀ j, (∃ n, M' j = some n) ↔ (j = i ∨ ∃ n, M j = some n)) :
    PTree SC PC M' (ks ++ [i]) pt (upd (upd Gt' pt (.inst PC (pfl P' dd))) dd (.imap (pdict P' (ks ++ [i])))) ∧ Dj F (upd (upd Gt' pt (.inst PC (pfl P' dd))) dd (.imap (pdict P' (ks ++ [i])))) ∧
    upd (join (upd (upd F pt (.inst PC (pfl P dd))) dd (.imap (pdict P ks))) Gt') dd (.imap (kput i (.ref (P'.D i)) (pdict P ks))) = join F (upd (upd Gt' pt (.inst PC (pfl P' dd))) dd (.imap (pdict P' (ks ++ [i])))) := by
  have pn : Gt' pt = none := d.has (upd_other p.ne (upd_self ..))
  have dn : Gt' dd = none := d.has (upd_self ..)
  refine ⟨⟨P', dd, Gt', ⟨t, pn, dn, p.ne, ?_, fun j => ?_⟩, rfl⟩, ?_, ?_⟩
  · rw [List.nodup_append]
    exact ⟨p.nd, by simp, fun a ha b hb z => by (have zq := ((List.mem_singleton.mp hb)).symm; subst zq); exact hi (z ▸ ha)⟩
  · rw [List.mem_append, List.mem_singleton, l j, p.ks j]
    exact or_comm
  · have d0 : Dj F Gt' := d.sub (((Sub.refl F).fresh f1).fresh f2)
    exact (d0.r f1).r f2
  · rw [pdict_add hi e, upd_join, upd_upd, ← upd_join_r f2, ← upd_join_r f1, upd_join, upd_join]
    have : pfl P' dd = pfl P dd := by unfold pfl; rw [e 0 h0]
    rw [this]
end Mine
end
section
set_option linter.unusedVariables false
set_option Elab.async false
namespace Mine
noncomputable def pushAll (a q : List (Int × Int)) : List (Int × Int) := q.foldl (fun a e => ins e a) a
noncomputable def keepQ (j : Int) (q : List (Int × Int)) : List (Int × Int) := q.filter fun e => decide (e.2 ≠ j)
noncomputable def remv (M : Mo) (i j : Int) : Mo :=
  match M i with
  | some d => M.put i { d with kids := d.kids.erase j, q := pushAll [] (keepQ j d.q) }
  | none => M
noncomputable def adopts (M : Mo) (i : Int) (ks : List Int) : Mo := ks.foldl (fun M k => adopt M i k) M
noncomputable def kidsOf (M : Mo) (i : Int) : List Int := ((M i).map (·.kids)).getD []
noncomputable def rmc (M : Mo) (i j : Int) (strip : Bool) : Mo := if strip then adopts (remv M i j) i (kidsOf M j) else remv M i j
noncomputable def clr (M : Mo) (i : Int) : Mo :=
  match M i with
  | some d => M.put i { d with kids := [], q := [], lw := 0 }
  | none => M
noncomputable def adoptX (M : Mo) (i j : Int) : Mo := adopts (adopt (clr M i) i j) j (kidsOf M i)
theorem remv_eq {M : Mo} {i j : Int} {d : Nd} (h : M i = some d) : remv M i j = M.put i { d with kids := d.kids.erase j, q := pushAll [] (keepQ j d.q) } := by unfold remv; rw [h]
theorem clr_eq {M : Mo} {i : Int} {d : Nd} (h : M i = some d) : clr M i = M.put i { d with kids := [], q := [], lw := 0 } := by unfold clr; rw [h]
theorem kidsOf_eq {M : Mo} {i : Int} {d : Nd} (h : M i = some d) : kidsOf M i = d.kids := by unfold kidsOf; rw [h]; rfl
theorem keepQ_cons (j : Int) (e : Int × Int) (q : List (Int × Int)) : keepQ j (e :: q) = if e.2 = j then keepQ j q else e :: keepQ j q := by
  unfold keepQ
  rw [List.filter_cons]
  by_cases h : e.2 = j
  · simp [h]
  · simp [h]
theorem pushAll_length : ∀ (q a : List (Int × Int)), (pushAll a q).length = a.length + q.length
  | [], a => rfl
  | e :: q, a => by
    show (pushAll (ins e a) q).length = _
    rw [pushAll_length q, ins_length]
    simp only [List.length_cons]
    omega
theorem keepQ_length (j : Int) (q : List (Int × Int)) : (keepQ j q).length ≤ q.length := List.length_filter_le _ _
theorem mem_pushAll {x : Int × Int} : ∀ {q a : List (Int × Int)}, x ∈ pushAll a q ↔ x ∈ a ∨ x ∈ q
  | [], a => by simp [pushAll]
  | e :: q, a => by
    show x ∈ pushAll (ins e a) q ↔ _
    rw [mem_pushAll, mem_ins, List.mem_cons]
    constructor
    · rintro ((h | h) | h)
      · exact .inr (.inl h)
      · exact .inl h
      · exact .inr (.inr h)
    · rintro (h | h | h)
      · exact .inl (.inr h)
      · exact .inl (.inl h)
      · exact .inr h
noncomputable def Same (M M' : Mo) : Prop := ∀ i, (∃ n, M i = some n) ↔ ∃ n, M' i = some n
theorem Same.refl (M : Mo) : Same M M := fun _ => Iff.rfl
theorem Same.trans {M M' M'' : Mo} (a : Same M M') (b : Same M' M'') : Same M M'' := fun i => (a i).trans (b i)
theorem Same.put {M : Mo} {i : Int} {n m : Nd} (h : M i = some n) : Same M (M.put i m) := fun j => by
  by_cases q : j = i
  · subst q; exact ⟨fun _ => ⟨m, Mo.put_self ..⟩, fun _ => ⟨n, h⟩⟩
  · rw [Mo.put_ne q]
theorem Same.adopt (M : Mo) (i j : Int) : Same M (adopt M i j) := by
  unfold Mine.adopt
  cases hi : M i with
  | none => exact Same.refl M
  | some d =>
    cases hj : M j with
    | none => exact Same.refl M
    | some n =>
      dsimp only
      by_cases q : i = j
      · subst q
        exact (Same.put hj).trans (Same.put (Mo.put_self ..))
      · exact (Same.put hj).trans (Same.put ((Mo.put_ne q).trans hi))
theorem Same.adopts : ∀ (ks : List Int) (M : Mo) (i : Int), Same M (adopts M i ks)
  | [], M, i => Same.refl M
  | k :: ks, M, i => (Same.adopt M i k).trans (Same.adopts ks _ i)
theorem Same.remv (M : Mo) (i j : Int) : Same M (remv M i j) := by
  unfold Mine.remv
  cases hi : M i with
  | none => exact Same.refl M
  | some d => exact Same.put hi
theorem Same.clr (M : Mo) (i : Int) : Same M (clr M i) := by
  unfold Mine.clr
  cases hi : M i with
  | none => exact Same.refl M
  | some d => exact Same.put hi
theorem Same.rmc (M : Mo) (i j : Int) (b : Bool) : Same M (rmc M i j b) := by
  unfold Mine.rmc
  cases b with
  | true => exact (Same.remv M i j).trans (Same.adopts _ _ _)
  | false => exact Same.remv M i j
theorem Same.adoptX (M : Mo) (i j : Int) : Same M (adoptX M i j) := ((Same.clr M i).trans (Same.adopt _ _ _)).trans (Same.adopts _ _ _)
theorem Same.actv (M : Mo) (i : Int) (b : Bool) : Same M (actv M i b) := by
  unfold Mine.actv
  cases hi : M i with
  | none => exact Same.refl M
  | some d => exact Same.put hi
theorem adopt_child {M : Mo} {i j : Int} {d n : Nd} (hi : M i = some d) (hj : M j = some n) (hne : j ≠ i) : adopt M i j j = some { n with par := some i } := by
  rw [adopt_eq hi hj, Mo.put_ne hne, Mo.put_self]
theorem adopt_at {M : Mo} {i j : Int} {d n : Nd} (hi : M i = some d) (hj : M j = some n) : adopt M i j i = some { d with kids := d.kids ++ [j], q := ins (d.lw, j) d.q } := by
  rw [adopt_eq hi hj, Mo.put_self]
theorem adopt_far {M : Mo} {i j k : Int} (h1 : k ≠ i) (h2 : k ≠ j) : adopt M i j k = M k := by
  unfold adopt
  cases M i with
  | none => rfl
  | some d =>
    cases M j with
    | none => rfl
    | some n => exact (Mo.put_ne h1).trans (Mo.put_ne h2)
end Mine
end
section
open PySem PySem.W PyProof.Rows PySem.Calls
set_option linter.unusedVariables false
set_option Elab.async false
namespace Mine
noncomputable def Pl.lists (P : Pl) (i : Int) (cl ql : Nat) : Pl := ⟨P.D, fun j => if j = i then cl else P.CL j, fun j => if j = i then ql else P.QL j⟩
noncomputable abbrev fldsOf (P : Pl) (i : Int) (c q : Nat) (n : Nd) : List (Str × Value) := [("stream_id", .int i 0), ("_weight", .int n.wt 0), ("children", .ref c), ("parent", pv P n.par), ("child_queue", .ref q), ("active", .bool n.act), ("last_weight", .int n.lw 0), ("_deficit", .int n.df 0)]
theorem flds_lists {P : Pl} {i : Int} {c q : Nat} {n : Nd} : flds (P.lists i c q) i n = fldsOf P i c q n := by
  have e1 : (P.lists i c q).CL i = c := if_pos rfl
  have e2 : (P.lists i c q).QL i = q := if_pos rfl
  have e3 : pv (P.lists i c q) n.par = pv P n.par := by cases n.par <;> rfl
  unfold flds fldsOf
  rw [e1, e2, e3]
section
variable {SC : Nat} {P : Pl} {G H : AH} {M : Mo} {rk : Int → Nat}
theorem Ents.pl' {P P' : Pl} (e : P'.D = P.D) : ∀ {ts : List Nat} {q : List (Int × Int)}, Ents P G ts q → Ents P' G ts q
  | [], [], _ => trivial
  | t :: ts, x :: q, h => ⟨by rw [e]; exact h.1, Ents.pl' e h.2⟩
  | [], _ :: _, h => h.elim
  | _ :: _, [], h => h.elim
theorem pv_pl {P P' : Pl} (e : P'.D = P.D) (x : Option Int) : pv P' x = pv P x := by
  cases x with
  | none => rfl
  | some j => show Value.ref _ = Value.ref _; rw [e]
theorem Tree.swap (t : Tree SC P M G) {i : Int} {n n' : Nd} {c' q' : Nat} {ts : List Nat} (hi : M i = some n) (hc : G c' = some (.list (n'.kids.map fun j => .ref (P.D j)))) (hq : G q' = some (.list (ts.map .ref))) (hE : Ents P G ts n'.q) (ncq : c' ≠ q')
    (fc : ∀ j m, M j = some m → j ≠ i → c' ≠ P.CL j ∧ c' ≠ P.QL j) (fq : ∀ j m, M j = some m → j ≠ i → q' ≠ P.CL j ∧ q' ≠ P.QL j) :
    Tree SC (P.lists i c' q') (M.put i n') (upd G (P.D i) (.inst SC (fldsOf P i c' q' n'))) := by
  rw [← flds_lists]
  have e := t.inst i n hi
  have old : ∀ j m, M.put i n' j = some m → j ≠ i → M j = some m := fun j m h q => by rw [Mo.put_ne q] at h; exact h
  have C1 : ∀ j, j ≠ i → (P.lists i c' q').CL j = P.CL j := fun j h => if_neg h
  have Q1 : ∀ j, j ≠ i → (P.lists i c' q').QL j = P.QL j := fun j h => if_neg h
  have C0 : (P.lists i c' q').CL i = c' := if_pos rfl
  have Q0 : (P.lists i c' q').QL i = q' := if_pos rfl
  have kp : ∀ (a : Nat) xs, G a = some (.list xs) → upd G (P.D i) (.inst SC (flds (P.lists i c' q') i n')) a = some (.list xs) := fun a xs h => upd_other (fun z => by rw [z, e] at h; (exact Mine.tag_ne (Option.some.inj h) rfl)) h
  have kt : ∀ (a : Nat) xs, G a = some (.tup xs) → upd G (P.D i) (.inst SC (flds (P.lists i c' q') i n')) a = some (.tup xs) := fun a xs h => upd_other (fun z => by rw [z, e] at h; (exact Mine.tag_ne (Option.some.inj h) rfl)) h
  refine ⟨fun j m h => ?_, fun j m h => ?_, fun j m h => ?_, fun j l a b h1 h2 z => ?_, fun j l a b h1 h2 z => ?_, fun j l a b h1 h2 z => ?_⟩
  · by_cases q : j = i
    · subst q; rw [Mo.put_self] at h; (replace h := Option.some.inj h; subst h); exact upd_self ..
    · have h0 := old j m h q
      have x := t.inst j m h0
      have : flds (P.lists i c' q') j m = flds P j m := by
        show [_, _, _, _, _, _, _, _] = _
        rw [C1 j q, Q1 j q, pv_pl (P := P) (P' := P.lists i c' q') rfl]
      rw [this]
      exact upd_other (fun z => q (t.dd h0 hi z)) x
  · by_cases q : j = i
    · subst q; rw [Mo.put_self] at h; (replace h := Option.some.inj h; subst h); rw [C0]; exact kp _ _ hc
    · have h0 := old j m h q
      rw [C1 j q]; exact kp _ _ (t.cl j m h0)
  · by_cases q : j = i
    · subst q; rw [Mo.put_self] at h; (replace h := Option.some.inj h; subst h); rw [Q0]; exact ⟨ts, kp _ _ hq, (Ents.pl' (P := P) (P' := P.lists j c' q') rfl hE).mono kt⟩
    · have h0 := old j m h q
      rw [Q1 j q]
      (refine Mine.el_EA (t.ql j m h0) fun ts1 h1 h2 => ?_)
      exact ⟨ts1, kp _ _ h1, (Ents.pl' (P := P) (P' := P.lists i c' q') rfl h2).mono kt⟩
  · by_cases q1 : j = i
    · by_cases q2 : l = i
      · subst q1 q2; rw [C0, Q0] at z; exact ncq z
      · subst q1; rw [C0, Q1 l q2] at z; exact (fc l b (old l b h2 q2) q2).2 z
    · by_cases q2 : l = i
      · subst q2; rw [C1 j q1, Q0] at z; exact (fq j a (old j a h1 q1) q1).1 z.symm
      · rw [C1 j q1, Q1 l q2] at z; exact t.cq _ _ _ _ (old j a h1 q1) (old l b h2 q2) z
  · by_cases q1 : j = i
    · by_cases q2 : l = i
      · rw [q1, q2]
      · subst q1; rw [Q0, Q1 l q2] at z; exact absurd z (fq l b (old l b h2 q2) q2).2
    · by_cases q2 : l = i
      · subst q2; rw [Q1 j q1, Q0] at z; exact absurd z.symm (fq j a (old j a h1 q1) q1).2
      · rw [Q1 j q1, Q1 l q2] at z; exact t.qq _ _ _ _ (old j a h1 q1) (old l b h2 q2) z
  · by_cases q1 : j = i
    · by_cases q2 : l = i
      · rw [q1, q2]
      · subst q1; rw [C0, C1 l q2] at z; exact absurd z (fc l b (old l b h2 q2) q2).1
    · by_cases q2 : l = i
      · subst q2; rw [C1 j q1, C0] at z; exact absurd z.symm (fc j a (old j a h1 q1) q1).1
      · rw [C1 j q1, C1 l q2] at z; exact t.cc _ _ _ _ (old j a h1 q1) (old l b h2 q2) z
noncomputable def AH.del (G : AH) (a : Nat) : AH := fun b => if b = a then none else G b
theorem Tree.drop (t : Tree SC P M G) {a : Nat} {xs : List Value} (h : G a = some (.list xs)) (n : ∀ j m, M j = some m → a ≠ P.CL j ∧ a ≠ P.QL j) : Tree SC P M (G.del a) := by
  have kp : ∀ (b : Nat) o, b ≠ a → G b = some o → G.del a b = some o := fun b o z h => (if_neg z).trans h
  have ki : ∀ (b : Nat) o, G b = some o → (∀ xs, o ≠ .list xs) → G.del a b = some o := fun b o h' z => kp b o (fun y => by subst y; rw [h] at h'; (replace h' := Option.some.inj h'; subst h'); exact z _ rfl) h'
  refine ⟨fun i m hi => ki _ _ (t.inst i m hi) (by intro xs z; (exact Mine.tag_ne z rfl)), fun i m hi => kp _ _ (Ne.symm (n i m hi).1) (t.cl i m hi), fun i m hi => ?_, t.cq, t.qq, t.cc⟩
  (refine Mine.el_EA (t.ql i m hi) fun ts h1 h2 => ?_)
  exact ⟨ts, kp _ _ (Ne.symm (n i m hi).2) h1, h2.mono fun b xs z => ki b _ z (by intro ys y; (exact Mine.tag_ne y rfl))⟩
theorem join_del {F : AH} {a : Nat} {o : AO} (f : F a = none) (h : G a = some o) : join F G = join (upd F a o) (G.del a) := by
  funext b
  by_cases q : b = a
  · subst q
    rw [join_n f, h]
    exact (join_l (upd_self ..)).symm
  · cases z : F b with
    | some x => rw [join_l z, join_l ((upd_ne q).trans z)]
    | none => rw [join_n z, join_n ((upd_ne q).trans z)]; exact (if_neg q).symm
theorem Dj.del {F : AH} {a : Nat} {o : AO} (d : Dj F G) : Dj (upd F a o) (G.del a) := fun b x h => by
  by_cases q : b = a
  · subst q; have : G.del b b = none := if_pos rfl; rw [this] at h; (exact Mine.no_ns h)
  · have : G.del a b = G b := if_neg q
    rw [this] at h
    exact (upd_ne q).trans (d b x h)
theorem Tree.less (t : Tree SC P M G) {M' : Mo} (h : ∀ i n, M' i = some n → M i = some n) : Tree SC P M' G :=
  ⟨fun i n hi => t.inst i n (h i n hi), fun i n hi => t.cl i n (h i n hi), fun i n hi => t.ql i n (h i n hi), fun i j n m hi hj => t.cq i j n m (h i n hi) (h j m hj), fun i j n m hi hj => t.qq i j n m (h i n hi) (h j m hj), fun i j n m hi hj => t.cc i j n m (h i n hi) (h j m hj)⟩
end
theorem pdict_pl {P P' : Pl} (e : P'.D = P.D) (ks : List Int) : pdict P' ks = pdict P ks := by unfold pdict; rw [e]
theorem pfl_pl {P P' : Pl} (e : P'.D = P.D) (dd : Nat) : pfl P' dd = pfl P dd := by unfold pfl; rw [e]
end Mine
end
section
open PySem PySem.W PyProof.Rows PySem.Calls
set_option linter.unusedVariables false
set_option Elab.async false
namespace Mine
noncomputable def PTreeD (SC PC : Nat) (D : Int → Nat) (M : Mo) (ks : List Int) (pt : Nat) (G : AH) : Prop :=
  ∃ P dd Gt, PT SC PC P M ks pt dd Gt ∧ G = upd (upd Gt pt (.inst PC (pfl P dd))) dd (.imap (pdict P ks)) ∧ ∀ j ∈ ks, P.D j = D j
theorem PTreeD.ptree {SC PC : Nat} {D : Int → Nat} {M : Mo} {ks : List Int} {pt : Nat} {G : AH} (t : PTreeD SC PC D M ks pt G) : PTree SC PC M ks pt G := let ⟨P, dd, Gt, h, e, _⟩ := t; ⟨P, dd, Gt, h, e⟩
theorem PTree.withD {SC PC : Nat} {M : Mo} {ks : List Int} {pt : Nat} {G : AH} (t : PTree SC PC M ks pt G) : ∃ D, PTreeD SC PC D M ks pt G := let ⟨P, dd, Gt, h, e⟩ := t; ⟨P.D, P, dd, Gt, h, e, fun _ _ => rfl⟩
theorem PTreeD.split {SC PC : Nat} {D : Int → Nat} {M : Mo} {ks : List Int} {pt : Nat} {F G : AH} (t : PTreeD SC PC D M ks pt G) (dj : Dj F G) :
    ∃ P dd Gt, PT SC PC P M ks pt dd Gt ∧ F pt = none ∧ F dd = none ∧ Dj F Gt ∧ Dj (upd (upd F pt (.inst PC (pfl P dd))) dd (.imap (pdict P ks))) Gt ∧ join F G = join (upd (upd F pt (.inst PC (pfl P dd))) dd (.imap (pdict P ks))) Gt ∧ ∀ j ∈ ks, P.D j = D j := by
  (refine Mine.el_EEEAA t fun P dd Gt p zq0 eD => ?_; (first | subst zq0 | cases zq0); (try clear t))
  have f2 : F dd = none := dj _ _ (upd_self ..)
  have f1 : F pt = none := dj _ _ (upd_other p.ne (upd_self ..))
  have d0 : Dj F Gt := fun a o q => dj a o (upd_other (fun z => by rw [z, p.dn] at q; (exact Mine.no_ns q)) (upd_other (fun z => by rw [z, p.pn] at q; (exact Mine.no_ns q)) q))
  refine ⟨P, dd, Gt, p, f1, f2, d0, (d0.l p.pn).l p.dn, ?_, eD⟩
  rw [← upd_join_r f2, ← upd_join_r f1, upd_join, upd_join]
theorem PTreeD.back {SC PC : Nat} {D : Int → Nat} {P P' : Pl} {M M' : Mo} {ks : List Int} {pt dd : Nat} {F Gt Gt' : AH} (p : PT SC PC P M ks pt dd Gt) (f1 : F pt = none) (f2 : F dd = none) (d : Dj (upd (upd F pt (.inst PC (pfl P dd))) dd (.imap (pdict P ks))) Gt') (t : Tree SC P' M' Gt') (eD : P'.D = P.D) (l : Same M M') (eE : ∀ j ∈ ks, P.D j = D j) :
    PTreeD SC PC D M' ks pt (upd (upd Gt' pt (.inst PC (pfl P dd))) dd (.imap (pdict P ks))) ∧ Dj F (upd (upd Gt' pt (.inst PC (pfl P dd))) dd (.imap (pdict P ks))) ∧
    join (upd (upd F pt (.inst PC (pfl P dd))) dd (.imap (pdict P ks))) Gt' = join F (upd (upd Gt' pt (.inst PC (pfl P dd))) dd (.imap (pdict P ks))) := by
  have pn : Gt' pt = none := d.has (upd_other p.ne (upd_self ..))
  have dn : Gt' dd = none := d.has (upd_self ..)
  refine ⟨⟨P', dd, Gt', ⟨t, pn, dn, p.ne, p.nd, fun i => (p.ks i).trans (l i)⟩, by rw [pfl_pl eD, pdict_pl eD], fun j hj => by rw [eD]; exact eE j hj⟩, ?_, ?_⟩
  · have d0 : Dj F Gt' := d.sub (((Sub.refl F).fresh f1).fresh f2)
    exact (d0.r f1).r f2
  · rw [← upd_join_r f2, ← upd_join_r f1, upd_join, upd_join]
theorem PT.more {SC PC : Nat} {P P' : Pl} {M M' : Mo} {ks : List Int} {pt dd : Nat} {i : Int} {F Gt Gt' : AH} (p : PT SC PC P M ks pt dd Gt) (f1 : F pt = none) (f2 : F dd = none)
    (d : Dj (upd (upd F pt (.inst PC (pfl P dd))) dd (.imap (pdict P ks))) Gt') (t : Tree SC P' M' Gt') (hi : i ∉ ks) (e : ∀ j ∈ ks, P'.D j = P.D j) (h0 : 0 ∈ ks) (l : ∀ j, (∃ n, M' j = some n) ↔ (j = i ∨ ∃ n, M j = some n)) :
    PT SC PC P' M' (ks ++ [i]) pt dd Gt' ∧ Dj F (upd (upd Gt' pt (.inst PC (pfl P' dd))) dd (.imap (pdict P' (ks ++ [i])))) ∧
    upd (join (upd (upd F pt (.inst PC (pfl P dd))) dd (.imap (pdict P ks))) Gt') dd (.imap (kput i (.ref (P'.D i)) (pdict P ks))) = join F (upd (upd Gt' pt (.inst PC (pfl P' dd))) dd (.imap (pdict P' (ks ++ [i])))) := by
  (refine Mine.el_AA (PTree.more p f1 f2 d t hi e h0 l) fun zq0 b2 b3 => ?_; clear zq0)
  have pn : Gt' pt = none := d.has (upd_other p.ne (upd_self ..))
  have dn : Gt' dd = none := d.has (upd_self ..)
  refine ⟨⟨t, pn, dn, p.ne, ?_, fun j => ?_⟩, b2, b3⟩
  · rw [List.nodup_append]
    exact ⟨p.nd, by simp, fun a ha b hb z => by (have zq := ((List.mem_singleton.mp hb)).symm; subst zq); exact hi (z ▸ ha)⟩
  · rw [List.mem_append, List.mem_singleton, l j, p.ks j]
    exact or_comm
end Mine
end
section
open PySem PySem.W PyProof.Rows PySem.Calls
set_option linter.unusedVariables false
set_option Elab.async false
namespace Mine
section
variable {prog : Program} {w : World} {K : Frag} {c : Cx prog w K} {envs outer : List Env} {env : Env} {H G : AH} {A : Around} {E : Value → Shared → Prop} {s : Shared}
theorem nm_c {x : Str} {b : Nat} {v : Value} {Q : Value → Shared → Prop} (S : St c envs H s) (hc : env.cells.lookup x = some b) (hH : H b = some (.cell (some v))) (h : ∀ v', er v' = v → Q v' s)
    (hk : env.scope.kind = .function := by rfl) (hl : env.kindOf x = some .cell := by rfl) : wpAny (model prog w) A (loadName env x) Q E s := by
  (refine Mine.el_EEAA (S.get hH) fun o v' ho hd he => ?_)
  cases v' with
  | none => (exact Mine.no_ns he)
  | some u => exact wpAny_loadName_cell hk hl hc ⟨o, ho, hd⟩ (h u (Option.some.inj he))
theorem nmc {x : Str} {pos : Pos} {b : Nat} {v : Value} {Q : Value → Shared → Prop} (S : St c envs H s) (hc : env.cells.lookup x = some b) (hH : H b = some (.cell (some v))) (h : ∀ v', er v' = v → Q v' s)
    (hk : env.scope.kind = .function := by rfl) (hl : env.kindOf x = some .cell := by rfl) (hd : (x == ("__debug__" : Str)) = false := by decide) : wpAny (model prog w) A (eval (.Name x pos) env) Q E s :=
  wpAny_Name (nm_c S hc hH h hk hl) hd
theorem stc {x : Str} {b : Nat} {v v' : Value} {u : Option Value} {Q : Unit → Shared → Prop} (S : St c envs H s) (hc : env.cells.lookup x = some b) (hH : H b = some (.cell u)) (hv : er v = v')
    (h : ∀ s', St c envs (upd H b (.cell (some v'))) s' → Q () s')
    (hk : env.scope.kind = .function := by rfl) (hl : env.kindOf x = some .cell := by rfl) : wpAny (model prog w) A (storeName env x v) Q E s := by
  subst hv
  (refine Mine.el_EEAA (S.get hH) fun o u' ho hd he => ?_)
  exact wpAny_storeName_cell hk hl hc ⟨o, ho, hd⟩ fun h' hi hs => h _ (S.set hH hs (let ⟨o, ho, hd⟩ := hi; ⟨o, some v, ho, hd, rfl⟩) rfl rfl)
structure Row (prog : Program) (w : World) (P : AH → Prop) (xs : List Value) (ao : Nat → AO) : Prop where
  up : ∀ (G : AH) (it : Nat) o, G it = none → P G → P (upd G it o)
  next : ∀ {K : Frag} {c : Cx prog w K} {envs : List Env} {G : AH} {s : Shared} {A : Around} {E : Value → Shared → Prop} {Q : Option Value → Shared → Prop} {it i : Nat} {x : Value},
    St c envs (upd G it (ao i)) s → G it = none → P G → xs[i]? = some x → (∀ v s', er v = x → St c envs (upd G it (ao (i + 1))) s' → Q (some v) s') → wpAny (model prog w) A (pyNext (.ref it)) Q E s
  fin : ∀ {K : Frag} {c : Cx prog w K} {envs : List Env} {G : AH} {s : Shared} {A : Around} {E : Value → Shared → Prop} {Q : Option Value → Shared → Prop} {it i : Nat},
    St c envs (upd G it (ao i)) s → G it = none → P G → xs.length ≤ i → Hd A G → (∀ s', St c envs G s' → Q none s') → wpAny (model prog w) A (pyNext (.ref it)) Q E s
  self : ∀ {K : Frag} {c : Cx prog w K} {envs : List Env} {G : AH} {s : Shared} {A : Around} {E : Value → Shared → Prop} {Q : Value → Shared → Prop} {it i : Nat},
    St c envs (upd G it (ao i)) s → Q (.ref it) s → wpAny (model prog w) A (pyIter (.ref it)) Q E s
  own : ∀ {K : Frag} {c : Cx prog w K} {envs : List Env} {G : AH} {s : Shared} {A : Around} {E : Value → Shared → Prop} {Q : Unit → Shared → Prop} {it i : Nat} {target : Expr} {v : Value},
    St c envs (upd G it (ao i)) s → Q () s → wpAny (model prog w) A (letOwnedTupleGo target (.ref it) v) Q E s
theorem row_list (l : Nat) (xs : List Value) : Row prog w (fun G => G l = some (.list xs)) xs (fun i => .iter l i) where
  up := fun G it o n h => upd_other (ne_fresh n h) h
  next := fun S n h hx k => next_item S (upd_self ..) (upd_other (ne_fresh n h) h) hx fun v s' hv S' => k v s' hv (by rw [upd_upd] at S'; exact S')
  fin := fun S n h hx d k => next_end S n h hx d k
  self := fun S h => wpAny_pyIter_listiter (S.get (upd_self ..)) h
  own := fun S h => own_go (S.get (upd_self ..)) h
noncomputable abbrev rIt (x left step : Int) : Obj := { cls := .type "range_iterator", data := .fields #[rawInt x, rawInt left, rawInt step] }
noncomputable abbrev rOb (a b d : Int) (t u v : Tok) : Obj := { cls := .type "range", data := .fields #[.int a t, .int b u, .int d v] }
noncomputable def rRow (a d : Int) (n : Nat) : List Value := (List.range n).map fun k : Nat => .int (a + (k : Int) * d) 0
theorem rRow_len {a d : Int} {n : Nat} : (rRow a d n).length = n := by unfold rRow; rw [List.length_map, List.length_range]
theorem rRow_get {a d : Int} {n i : Nat} {x : Value} (h : (rRow a d n)[i]? = some x) : i < n ∧ x = .int (a + (i : Int) * d) 0 := by
  have hi := (List.getElem?_eq_some_iff.mp h).1
  rw [rRow_len] at hi
  refine ⟨hi, ?_⟩
  unfold rRow at h
  rw [List.getElem?_map, List.getElem?_range hi] at h
  exact (Option.some.inj h).symm
theorem own_raw {target : Expr} {it : Nat} {v : Value} {o : Obj} {n : String} {vs : Array Value} {Q : Unit → Shared → Prop} (ho : s.heap.get? it = some o) (hc : o.cls = .type n) (hd : o.data = .fields vs)
    (hn : ["enumerate", "zip", "dict_itemiterator", "dict_reverseitemiterator", "odict_iterator", "itertools.zip_longest", "itertools.pairwise"].contains n = false) (hQ : Q () s) : wpAny (model prog w) A (letOwnedTupleGo target (.ref it) v) Q E s := by
  have go : ∀ a, wpAny (model prog w) A (do
      let o ← load it
      match o.cls, o.data with
      | .type n, .fields vs =>
        if ["enumerate", "zip", "dict_itemiterator", "dict_reverseitemiterator", "odict_iterator", "itertools.zip_longest", "itertools.pairwise"].contains n && vs[0]? == some (rawInt a) then
          rule "for.unpacks-the-owned-tuple"
          updateField it 0 .none
      | _, _ => pure ()) Q E s := fun a => by
    refine wpAny_bind (wpAny_load ho ?_)
    rw [hc, hd]
    dsimp only
    rw [hn]
    exact wpAny_pure hQ
  cases target <;> first
    | exact wpAny_pure hQ
    | (cases v <;> first | exact go _ | exact wpAny_pure hQ)
theorem row_range (a d : Int) (n : Nat) : Row prog w (fun _ => True) (rRow a d n) (fun i => .raw (rIt (a + (i : Int) * d) ((n : Int) - i) d)) where
  up := fun _ _ _ _ _ => trivial
  next := fun {K c envs G s A E Q it i x} S m _ hx k => by
    (refine Mine.el_A (rRow_get hx) fun hi zq0 => ?_; (first | subst zq0 | cases zq0))
    have hit : s.heap.get? it = some (rIt (a + (i : Int) * d) ((n : Int) - i) d) := S.get (upd_self ..)
    refine wpAny_pyNext_range_item hit (by first | decide | omega) fun h' hi' hs => k _ _ rfl ?_
    have e1 : a + (i : Int) * d + d = a + ((i + 1 : Nat) : Int) * d := by rw [Int.natCast_add, Int.add_mul]; omega
    have e2 : (n : Int) - (i : Int) - 1 = (n : Int) - ((i + 1 : Nat) : Int) := by omega
    have S' := S.set (t := s.toks + 1) (o' := .raw (rIt (a + ((i + 1 : Nat) : Int) * d) ((n : Int) - ((i + 1 : Nat) : Int)) d)) (upd_self ..) hs (by
      show h'.get? it = _
      rw [← e1, ← e2]; exact hi') rfl rfl
    rw [upd_upd] at S'
    exact S'
  fin := fun {K c envs G s A E Q it i} S m _ hx hdd k => by
    rw [rRow_len] at hx
    have hit : s.heap.get? it = some (rIt (a + (i : Int) * d) ((n : Int) - i) d) := S.get (upd_self ..)
    have hT : s.TypeIs (.ref it) "range_iterator" := ⟨_, hit, rfl⟩
    unfold pyNext
    refine wpAny_bind (wpAny_attempt (wpAny_callSpecial?_slot (name := Str.ofString "__next__") hT F.slot_range_iterator_next
      (wpAny_call_entry F.slot_range_iterator_next hT F.entry_range_iterator_next ?_ (F.args_range_iterator_next_1 _))))
    show wpAny _ _ (field (.ref it) 0 >>= _) _ _ s
    refine wpAny_bind (wpAny_field hit rfl (x := rawInt (a + (i : Int) * d)) rfl ?_)
    show wpAny _ _ (field (.ref it) 1 >>= _) _ _ s
    refine wpAny_bind (wpAny_field hit rfl (x := rawInt ((n : Int) - i)) rfl ?_)
    show wpAny _ _ (field (.ref it) 2 >>= _) _ _ s
    refine wpAny_bind (wpAny_field hit rfl (x := rawInt d) rfl ?_)
    show wpAny _ _ (if (n : Int) - i ≤ 0 then _ else _) _ _ s
    rw [if_pos (by first | decide | omega)]
    refine wpAny_bind (wpAny_rule ?_)
    refine wpAny_bind ?_
    show wpAny _ _ (newExc (.type "StopIteration") [] >>= _) _ _ _
    have S1 := S.off (h' := s.heap) m rfl rfl (Heap.SameBut.refl ..)
    refine stop_ S1 (A := A.in1) hdd fun x s' S' ti => ?_
    refine wpAny_bind (wpAny_isInstance (T := "StopIteration") (b := true) ti isSubtype_stop ?_)
    exact wpAny_pure (k _ S')
  self := fun {K c envs G s A E Q it i} S h => by
    have hit : s.heap.get? it = some (rIt (a + (i : Int) * d) ((n : Int) - i) d) := S.get (upd_self ..)
    have hT : s.TypeIs (.ref it) "range_iterator" := ⟨_, hit, rfl⟩
    refine wpAny_pyIter_slot hT F.slot_range_iterator_iter (wpAny_call_entry F.slot_range_iterator_iter hT F.entry_range_iterator_iter ?_ (F.args_range_iterator_iter_1 _))
    show wpAny _ _ (ret (.ref it)) _ _ s
    exact wpAny_pure ⟨_, rfl, "range_iterator", _, hT, F.slot_range_iterator_next.lookup, h⟩
  own := fun S h => own_raw (S.get (upd_self ..)) rfl rfl (by decide) h
end
end Mine
end
section
open PySem PySem.W PyProof.Rows PySem.Calls
set_option linter.unusedVariables false
set_option Elab.async false
namespace Mine
section
variable {prog : Program} {w : World} {K : Frag} {c : Cx prog w K} {envs outer : List Env} {env : Env} {H G : AH} {A : Around} {E : Value → Shared → Prop} {s : Shared}
theorem St.newRaw (S : St c envs H s) (o : Obj) (t : Nat) (hf : o.isFreed = false) (hz : True := trivial) : H s.heap.objs.size = none ∧ St c envs (upd H s.heap.objs.size (.raw o)) { s with heap := s.heap.push o, toks := t } :=
  ⟨S.fresh (Nat.le_refl _), S.new (fun b x q => Heap.get?_push_of_some _ q) (Nat.le_refl _) (by intro i; (exact Mine.no_ft i)) (Heap.get?_push_size _ hf) (by rw [Heap.size_push]; exact Nat.le_succ _)⟩
theorem mk_range1 {n : Int} {t : Tok} {Q : Value → Shared → Prop} (S : St c envs H s) (h : ∀ (r : Nat) t u v s', H r = none → St c envs (upd H r (.raw (rOb 0 n 1 t u v))) s' → Q (.ref r) s') :
    wpAny (model prog w) A (call (.type "range") [.int n t]) Q E s :=
  call_range_1 (let ⟨a, b⟩ := S.newRaw (rOb 0 n 1 s.toks t (s.toks + 1)) (s.toks + 1 + 1) rfl; h _ _ _ _ _ a b)
theorem iter_range {r : Nat} {a b d : Int} {t u v : Tok} {Q : Value → Shared → Prop} (S : St c envs H s) (e : H r = some (.raw (rOb a b d t u v))) (n : Nat) (hn : Builtin.Range.rangeSize a b d = (n : Int)) (hs : Builtin.Range.small a b d = true)
    (k : ∀ (it : Nat) s', H it = none → St c envs (upd H it (.raw (rIt (a + ((0 : Nat) : Int) * d) ((n : Int) - (0 : Nat)) d))) s' → Q (.ref it) s') : wpAny (model prog w) A (pyIter (.ref r)) Q E s := by
  have hr : s.heap.get? r = some (rOb a b d t u v) := S.get e
  refine wpAny_pyIter_range hr hs ?_
  rw [hn]
  (refine Mine.el_A (S.newRaw (rIt a (n : Int) d) s.toks rfl) fun x y => ?_)
  have e1 : a + ((0 : Nat) : Int) * d = a := by simp
  have e2 : (n : Int) - ((0 : Nat) : Int) = n := by simp
  refine k _ _ x ?_
  rw [e1, e2]; exact y
noncomputable def RowAt (c : Cx prog w K) (envs : List Env) (I : Nat → AH → Prop) (ao : Nat → AO) (it i : Nat) (s : Shared) : Prop := ∃ G, I i G ∧ G it = none ∧ St c envs (upd G it (ao i)) s
theorem RowAt.mk {I : Nat → AH → Prop} {ao : Nat → AO} {it i : Nat} (h : I i G) (n : G it = none) (S : St c envs (upd G it (ao i)) s) : RowAt c envs I ao it i s := ⟨G, h, n, S⟩
theorem for_row {target : Expr} {body orelse : List Stmt} {it : Nat} {R : Result → Shared → Prop} {P : AH → Prop} {xs : List Value} {ao : Nat → AO} (row : Row prog w P xs ao) (I : Nat → AH → Prop) (S : St c envs (upd H it (ao 0)) s) (n : H it = none) (hI : I 0 H)
    (hP : ∀ i G, I i G → P G) (hd : ∀ i G, I i G → Hd A G)
    (turn : ∀ i G s' v x, I i G → G it = none → xs[i]? = some x → er v = x → St c envs (upd G it (ao (i + 1))) s' →
      wpAny (model prog w) A (assign target env v) (fun _ s₂ => wpAny (model prog w) A (execs body env) (fun f s₃ => match f with
          | .next | .cont => RowAt c envs I ao it (i + 1) s₃
          | .brk => R (.ok .next) s₃
          | .ret v => R (.ok (.ret v)) s₃) (notedBy (model prog w) A env fun e s' => R (.error e) s') s₂) (notedBy (model prog w) A env fun e s' => R (.error e) s') s')
    (fin : ∀ G s', I xs.length G → St c envs G s' → wpAny (model prog w) A (execs orelse env) (fun f s₃ => R (.ok f) s₃) (notedBy (model prog w) A env fun e s' => R (.error e) s') s') :
    codeAny (model prog w) A (.forLoop target (.ref it) body orelse env) R s := by
  refine codeAny_forLoop_any (fun n s' => ∃ i, n = xs.length - i ∧ i ≤ xs.length ∧ RowAt c envs I ao it i s') ?_ xs.length ⟨0, rfl, Nat.zero_le _, H, hI, n, S⟩
  rintro n s' ⟨i, rfl, hi, G, hG, hn, S'⟩
  by_cases hlt : i < xs.length
  · have hx : xs[i]? = some xs[i] := List.getElem?_eq_getElem hlt
    refine row.next S' hn (hP i G hG) hx fun v s2 hv S2 => ?_
    refine row.own S2 ?_
    refine wpAny_mono (turn i G s2 v _ hG hn hx hv S2) (fun _ s3 h3 => wpAny_mono h3 (fun f s4 h4 => ?_) fun _ _ x => x) fun _ _ x => x
    cases f with
    | next => exact ⟨_, by omega, i + 1, rfl, by omega, h4⟩
    | cont => exact ⟨_, by omega, i + 1, rfl, by omega, h4⟩
    | brk => exact h4
    | ret v => exact h4
  · have he : i = xs.length := by omega
    subst he
    exact row.fin S' hn (hP _ G hG) (Nat.le_refl _) (hd _ _ hG) fun s2 S2 => fin G s2 hG S2
theorem comp_env0 {scope : Scope} {g : Addr} {cl : List (Str × Addr)} {qual : Str} {Q : Env → Shared → Prop} (S : St c envs H s) (hcell : ∀ y ∈ scope.names, y.2 ≠ .cell) (hkind : scope.kind = .function)
    (k : ∀ (C : Nat) s', H C = none → St c envs (upd H C (.ns [])) s' → Q (newEnv scope C g cl qual none .none (some env) builtinsNs) s') :
    wpAny (model prog w) A (newFunctionEnv scope g cl [] qual none .none (some env)) Q E s := by
  refine wpAny_newFunctionEnv hcell (by intro y hy; simp at hy) (fun h₁ hns hsb => ?_) hkind
  have hz : s.heap.objs.size ≤ h₁.objs.size := by rw [hsb.1, Heap.size_push]; exact Nat.le_succ _
  refine k _ _ (S.fresh (Nat.le_refl _)) (S.new (fun b x q => ?_) (Nat.le_refl _) (by intro i; (exact Mine.no_ft i)) ⟨_, hns, fun x v q => by (exact Mine.no_ns q)⟩ hz)
  exact (hsb.2 b (Nat.ne_of_lt (Heap.lt_size q))).trans (Heap.get?_push_of_some _ q)
theorem comp_off {C : Nat} {l : List (Str × Value)} {h' : Heap} (S : St c envs (upd H C (.ns l)) s) (n : H C = none) (f : Frs envs H) (hs : Heap.SameBut C s.heap h') : St c envs H { s with heap := h' } := by
  have ea : upd H C (.ns l) C = some (.ns l) := upd_self ..
  have neq : ∀ (b : Nat) x, H b = some x → b ≠ C := fun b x q z => by rw [z, n] at q; (exact Mine.no_ns q)
  have up : ∀ (b : Nat) x, H b = some x → upd H C (.ns l) b = some x := fun b x q => upd_other (neq b x q) q
  refine ⟨fun b x q => (hs.2 b fun z => ?_).trans (S.base b x q), fun b x q => ?_, fun b x q => S.low b x (up b x q), fun b x q i => ?_, f, S.gens, S.drawn, S.os, hs.1 ▸ S.size⟩
  · have := (S.low C _ ea).1; rw [z, this] at q; (exact Mine.no_ns q)
  · refine (S.real b x (up b x q)).keep fun d hd y hy => (hs.2 d ?_).trans hy
    rcases hd with rfl | ⟨i, rfl⟩
    · exact neq _ _ q
    · intro z; have := S.excl b x (up b x q) i; rw [z, ea] at this; (exact Mine.no_sn this)
  · have := S.excl b x (up b x q) i
    by_cases z : b - 1 = C
    · rw [z, ea] at this; (exact Mine.no_sn this)
    · rw [upd_ne z] at this; exact this
end
end Mine
end
section
open PySem PySem.W PyProof.Rows PySem.Calls
set_option linter.unusedVariables false
set_option Elab.async false
namespace Mine
section
variable {prog : Program} {w : World} {K : Frag} {c : Cx prog w K} {envs outer : List Env} {env cenv : Env} {H G : AH} {A : Around} {E : Value → Shared → Prop} {s : Shared} {P : AH → Prop} {xs : List Value} {ao : Nat → AO} {it C D : Nat}
  {elt iter : Expr} {x : Str} {px : Pos} {ifs : List Expr} {scope : Scope} {pos : Pos} {cl : List (Str × Addr)} {l : List (Str × Value)}
noncomputable def CompAt (c : Cx prog w K) (envs : List Env) (I : Nat → AH → Prop) (ao : Nat → AO) (it C i : Nat) (s : Shared) : Prop := ∃ G l, I i G ∧ G it = none ∧ G C = none ∧ St c envs (upd (upd G it (ao i)) C (.ns l)) s
theorem CompAt.mk {I : Nat → AH → Prop} {i : Nat} (h : I i G) (n : G it = none) (nC : G C = none) (S : St c envs (upd (upd G it (ao i)) C (.ns l)) s) : CompAt c envs I ao it C i s := ⟨G, l, h, n, nC, S⟩
noncomputable abbrev testsOf (prog : Program) (w : World) (A : Around) (ifs : List Expr) (cenv : Env) (Q : Bool → Shared → Prop) (E : Value → Shared → Prop) (s : Shared) : Prop :=
  wpAny (model prog w) A (forIn ifs true fun c r => if r = true then do let ok ← isTrue c cenv (eval c cenv); pure (ForInStep.yield ok) else pure (ForInStep.yield r)) Q E s
theorem comp_loop {acc : Value} {R : Result → Shared → Prop} (row : Row prog w P xs ao) (hne : it ≠ C) (I : Nat → AH → Prop) (S : St c envs (upd (upd H it (ao 0)) C (.ns l)) s) (n : H it = none) (nC : H C = none) (hI : I 0 H) (hP : ∀ i G, I i G → P G) (hd : ∀ i G, I i G → Hd A G)
    (turn : ∀ (i : Nat) (G : AH) (s' : Shared) (v y : Value) (l : List (Str × Value)), I i G → G it = none → G C = none → xs[i]? = some y → er v = y → St c envs (upd (upd G it (ao (i + 1))) C (.ns l)) s' →
      wpAny (model prog w) A (assign (.Name x px) cenv v) (fun _ s₂ => testsOf prog w A ifs cenv (fun ok s₃ =>
            if ok = true then wpAny (model prog w) A (eval elt cenv) (fun y s₄ =>
              wpAny (model prog w) A (call (.builtin "list.append") [acc, y]) (fun _ s₅ => CompAt c envs I ao it C (i + 1) s₅) (notedBy (model prog w) A cenv fun e s' => R (.error e) s') s₄) (notedBy (model prog w) A cenv fun e s' => R (.error e) s') s₃
            else CompAt c envs I ao it C (i + 1) s₃) (notedBy (model prog w) A cenv fun e s' => R (.error e) s') s₂) (notedBy (model prog w) A cenv fun e s' => R (.error e) s') s')
    (fin : ∀ (G : AH) (s' : Shared) (l : List (Str × Value)), I xs.length G → G C = none → St c envs (upd G C (.ns l)) s' → R (.ok .next) s') :
    codeAny (model prog w) A (.compLoop (.ListComp elt [⟨.Name x px, iter, ifs, 0⟩] scope pos) 0 (.ref it) acc cenv) R s := by
  refine codeAny_compLoop_tests (fun n s' => ∃ i, n = xs.length + 1 - i ∧ i ≤ xs.length ∧ CompAt c envs I ao it C i s') ?_ (xs.length + 1) ⟨0, rfl, Nat.zero_le _, H, l, hI, n, nC, S⟩
  rintro n s' ⟨i, rfl, hi, G, l', hG, hn, hC, S'⟩
  rw [upd_comm hne] at S'
  have hP' : P (upd G C (.ns l')) := row.up G C _ hC (hP i G hG)
  have hn' : upd G C (.ns l') it = none := upd_other hne hn
  by_cases hlt : i < xs.length
  · have hx : xs[i]? = some xs[i] := List.getElem?_eq_getElem hlt
    refine row.next S' hn' hP' hx fun v s2 hv S2 => ?_
    rw [← upd_comm hne] at S2
    refine wpAny_mono (turn i G s2 v _ l' hG hn hC hx hv S2) (fun _ s3 h3 => wpAny_mono h3 (fun ok s4 h4 => ?_) fun _ _ x => x) fun _ _ x => x
    cases ok with
    | false =>
      simp only [Bool.false_eq_true, if_false] at h4 ⊢
      exact ⟨_, by omega, i + 1, rfl, by omega, h4⟩
    | true =>
      simp only [if_true] at h4 ⊢
      exact wpAny_mono h4 (fun y s5 h5 => wpAny_mono h5 (fun _ s6 h6 => ⟨_, by omega, i + 1, rfl, by omega, h6⟩) fun _ _ x => x) fun _ _ x => x
  · have he : i = xs.length := by omega
    subst he
    exact row.fin S' hn' hP' (Nat.le_refl _) ((hd _ _ hG).sub ((Sub.refl G).fresh hC)) fun s2 S2 => fin G s2 l' hG hC S2
noncomputable def CompIn (prog : Program) (w : World) (A : Around) (E : Value → Shared → Prop) (use : Option (Value → Sem Unit)) (Q : Value → Shared → Prop) (e : Expr) (scope : Scope) (cl : List (Str × Addr)) (env : Env) (itv : Value) (s₂ : Shared) : Prop :=
  wpAny (model prog w) A (newList []) (fun acc s₃ => wpAny (model prog w) A (newFunctionEnv scope env.globals cl [] env.qual none .none (some env)) (fun cenv s₄ =>
    codeAny (model prog w) A (.compStart e 0 itv acc { cenv with scope := relabel scope env }) (compPost (model prog w) A E use Q acc cenv.locals) s₄) E s₃) E s₂
theorem comp_eval {Q : Value → Shared → Prop} (hclos : closureFor scope env = pure cl) (hkind : scope.kind = .function) (hnames : ∀ y ∈ scope.names, y.2 = .local → scope.names.lookup y.1 = some .local)
    (h : wpAny (model prog w) A (eval iter env) (fun xv s₁ => wpAny (model prog w) A (pyIter xv) (fun itv s₂ => CompIn prog w A E none Q (.ListComp elt [⟨.Name x px, iter, ifs, 0⟩] scope pos) scope cl env itv s₂) E s₁) E s)
    (hs : ∀ x, foldedSetIterable iter env x = pure x := by intro _; rfl) :
    wpAny (model prog w) A (eval (.ListComp elt [⟨.Name x px, iter, ifs, 0⟩] scope pos) env) Q E s := by
  rw [eval_ListComp]
  exact wpAny_comprehension_free (use := none) rfl hs hclos hkind hnames h
theorem comp_none {Q : Value → Shared → Prop} {acc : Value} (S : St c envs (upd G C (.ns l)) s) (n : G C = none) (f : Frs envs G) (k : ∀ s', St c envs G s' → Q acc s') : compPost (model prog w) A E none Q acc C (.ok .next) s := by
  (refine Mine.el_EA (S.get (upd_self ..)) fun m hm _ => ?_)
  exact ⟨m, hm, fun h' hs => k _ (comp_off S n f hs)⟩
theorem comp_in {Q : Value → Shared → Prop} {use : Option (Value → Sem Unit)} (row : Row prog w P xs ao) (I : Nat → Nat → AH → Prop) (S : St c envs (upd H it (ao 0)) s) (n : H it = none) (hI : ∀ D, H D = none → I D 0 (upd H D (.list []))) (hP : ∀ D i G, I D i G → P G) (hd : ∀ D i G, I D i G → Hd A G)
    (hcell : ∀ y ∈ scope.names, y.2 ≠ .cell) (hkind : scope.kind = .function)
    (turn : ∀ (D C i : Nat) (G : AH) (s' : Shared) (v y : Value) (l : List (Str × Value)), D ≠ it → H D = none → I D i G → G it = none → G C = none → it ≠ C → D ≠ C → xs[i]? = some y → er v = y → St c envs (upd (upd G it (ao (i + 1))) C (.ns l)) s' → ∀ E',
      wpAny (model prog w) A (assign (.Name x px) (compEnvC scope cl C env) v) (fun _ s₂ => testsOf prog w A ifs (compEnvC scope cl C env) (fun ok s₃ =>
            if ok = true then wpAny (model prog w) A (eval elt (compEnvC scope cl C env)) (fun y s₄ =>
              wpAny (model prog w) A (call (.builtin "list.append") [.ref D, y]) (fun _ s₅ => CompAt c envs (I D) ao it C (i + 1) s₅) E' s₄) E' s₃
            else CompAt c envs (I D) ao it C (i + 1) s₃) E' s₂) E' s')
    (fin : ∀ (D C : Nat) (G : AH) (s' : Shared) (l : List (Str × Value)), H D = none → I D xs.length G → G C = none → St c envs (upd G C (.ns l)) s' → compPost (model prog w) A E use Q (.ref D) C (.ok .next) s') :
    CompIn prog w A E use Q (.ListComp elt [⟨.Name x px, iter, ifs, 0⟩] scope pos) scope cl env (.ref it) s := by
  unfold CompIn
  show wpAny _ A (newObj (.type "list") (.seq ([] : List Value).toArray)) _ _ _
  refine wpAny_newObj_type ?_ (by size_fits)
  have nD0 : upd H it (ao 0) s.heap.objs.size = none := S.fresh (Nat.le_refl _)
  have nD : H s.heap.objs.size = none := none_up nD0
  have hDi : s.heap.objs.size ≠ it := none_ne nD0
  have S1 : St c envs (upd (upd H it (ao 0)) s.heap.objs.size (.list [])) { s with heap := s.heap.push { cls := .type "list", dict := none, data := .seq ([] : List Value).toArray } } :=
    S.new (t := s.toks) (fun b x q => Heap.get?_push_of_some _ q) (Nat.le_refl _) (by intro i; (exact Mine.no_ft i)) ⟨_, _, Heap.get?_push_size _ rfl, rfl⟩ (by rw [Heap.size_push]; exact Nat.le_succ _)
  generalize s.heap.objs.size = D at nD nD0 hDi S1 ⊢
  rw [upd_comm (Ne.symm hDi)] at S1
  refine comp_env0 S1 hcell hkind fun C s2 nC S2 => ?_
  have nC1 := none_up nC
  have nC2 := none_ne nC
  have nC3 := none_ne nC1
  have lp : ∀ s2, St c envs (upd (upd (upd H D (.list [])) it (ao 0)) C (.ns [])) s2 → codeAny (model prog w) A (.compLoop (.ListComp elt [⟨.Name x px, iter, ifs, 0⟩] scope pos) 0 (.ref it) (.ref D) (compEnvC scope cl C env)) (compPost (model prog w) A E use Q (.ref D) C) s2 := fun s2 S2 =>
    comp_loop row (Ne.symm nC2) (I D) S2 (upd_other (Ne.symm hDi) n) nC1 (hI D nD) (hP D) (hd D) (fun i G s' v y l a b d e f g => turn D C i G s' v y l hDi nD a b d (Ne.symm nC2) (Ne.symm nC3) e f g _)
      (fun G s' l a b d => fin D C G s' l nD a b d)
  refine codeAny_compStart_list (lp _ S2) ?_
  have S3 := S2
  rw [upd_comm (Ne.symm nC2)] at S3
  exact row.self S3 (lp _ S2)
theorem comp_pure {Q : Value → Shared → Prop} {use : Option (Value → Sem Unit)} (row : Row prog w P xs ao) (f : Value → Option Value) (S : St c envs (upd H it (ao 0)) s) (n : H it = none) (hPH : P H) (hdH : Hd A H) (hz : xs.length ≤ 1000)
    (hcell : ∀ y ∈ scope.names, y.2 ≠ .cell) (hkind : scope.kind = .function) (hx : scope.names.lookup x = some .local)
    (tests : ∀ (C i : Nat) (v y : Value) (s' : Shared) (Hc : AH) (l : List (Str × Value)) (E' : Value → Shared → Prop), xs[i]? = some y → er v = y → (∀ (a : Nat) o, H a = some o → Hc a = some o) → Hc C = some (.ns ((x, y) :: l)) → St c envs Hc s' → testsOf prog w A ifs (compEnvC scope cl C env) (fun ok s₃ => ok = (f y).isSome ∧ St c envs Hc s₃) E' s')
    (helt : ∀ (C i : Nat) (v y z : Value) (s' : Shared) (Hc : AH) (l : List (Str × Value)) (E' : Value → Shared → Prop), xs[i]? = some y → er v = y → f y = some z → (∀ (a : Nat) o, H a = some o → Hc a = some o) → Hc C = some (.ns ((x, y) :: l)) → St c envs Hc s' → wpAny (model prog w) A (eval elt (compEnvC scope cl C env)) (fun u s₃ => er u = z ∧ St c envs Hc s₃) E' s')
    (fin : ∀ (D C : Nat) (s' : Shared) (l : List (Str × Value)), H D = none → upd H D (.list (xs.filterMap f)) C = none → St c envs (upd (upd H D (.list (xs.filterMap f))) C (.ns l)) s' → compPost (model prog w) A E use Q (.ref D) C (.ok .next) s') :
    CompIn prog w A E use Q (.ListComp elt [⟨.Name x px, iter, ifs, 0⟩] scope pos) scope cl env (.ref it) s := by
  refine comp_in row (fun D i G => H D = none ∧ G = upd H D (.list ((xs.take i).filterMap f))) S n (fun D nD => ⟨nD, by simp⟩) (fun D i G h => by rw [h.2]; exact row.up H D _ h.1 hPH) (fun D i G h => by rw [h.2]; exact hdH.fresh h.1) hcell hkind ?_ ?_
  · rintro D C i _ s' v y l hDi nD ⟨-, rfl⟩ hit hC hiC hDC hy hv S' E'
    have keep : ∀ (a : Nat) o, H a = some o → upd (upd (upd H D (.list ((xs.take i).filterMap f))) it (ao (i + 1))) C (.ns ((x, y) :: l)) a = some o := fun a o h =>
      upd_other (ne_fresh (none_up hC) h) (upd_other (ne_fresh n h) (upd_other (ne_fresh nD h) h))
    refine wpAny_assign_Name (stv S' (upd_self ..) hv (fun s2 S2 => ?_) rfl (by simp [compEnvC, relabel, hkind]) (lookup_relabel_local hx))
    rw [upd_upd] at S2
    have hlen : (xs.take (i + 1)).filterMap f = (xs.take i).filterMap f ++ (match f y with | some z => [z] | none => []) := by
      have hi := (List.getElem?_eq_some_iff.mp hy).1
      have he := (List.getElem?_eq_some_iff.mp hy).2
      rw [List.take_succ_eq_append_getElem hi, List.filterMap_append, he]
      congr 1
      cases hfy : f y <;> simp [hfy]
    refine wpAny_mono (tests C i v y s2 _ l E' hy hv keep (upd_self ..) S2) (fun ok s3 h3 => ?_) fun _ _ x => x
    (refine Mine.el_A h3 fun zq0 S3 => ?_; (first | subst zq0 | cases zq0); (try clear h3))
    cases hfy : f y with
    | none =>
      simp only [hfy, Option.isSome_none, Bool.false_eq_true, if_false]
      refine CompAt.mk (G := upd H D (.list ((xs.take i).filterMap f))) ⟨nD, ?_⟩ hit hC S3
      rw [hlen, hfy]; simp
    | some z =>
      simp only [hfy, Option.isSome_some, if_true]
      refine wpAny_mono (helt C i v y z s3 _ l E' hy hv hfy keep (upd_self ..) S3) (fun u s4 h4 => ?_) fun _ _ x => x
      (refine Mine.el_A h4 fun zq0 S4 => ?_; (first | subst zq0 | cases zq0); (try clear h4))
      refine list_append S4 (upd_other hDC (upd_other hDi (upd_self ..))) ?_ fun s5 S5 => ?_
      · refine Nat.le_trans (List.length_filterMap_le ..) (?_)
        rw [List.length_take]; omega
      · rw [← upd_comm hDC, ← upd_comm hDi, upd_upd] at S5
        refine CompAt.mk (l := (x, y) :: l) (G := upd H D (.list ((xs.take i).filterMap f ++ [er u]))) ⟨nD, ?_⟩ (upd_other (Ne.symm hDi) n) ?_ ?_
        · rw [hlen, hfy]
        · exact upd_other (Ne.symm hDC) (none_up hC)
        · exact S5
  · rintro D C _ s' l nD ⟨-, rfl⟩ hC S'
    rw [List.take_length] at hC S'
    exact fin D C s' l nD hC S'
end
end Mine
end
section
open PySem PySem.W PyProof.Rows PySem.Calls
set_option linter.unusedVariables false
set_option Elab.async false
namespace Mine
section
variable {prog : Program} {w : World} {K : Frag} {c : Cx prog w K} {envs outer : List Env} {env cenv : Env} {H G : AH} {A : Around} {E : Value → Shared → Prop} {s : Shared}
noncomputable def DictOne (c : Cx prog w K) (envs : List Env) (d : Nat) (Q : Value → Shared → Prop) (kv vv : Value) (s : Shared) : Prop :=
  ∃ i t H2, kv = .int i t ∧ H2 d = some (.imap []) ∧ St c envs H2 s ∧ ∀ s3, St c envs (upd H2 d (.imap [(i, er vv)])) s3 → Q (.ref d) s3
theorem dict_one {kx vx : Expr} {pos : Pos} {Q : Value → Shared → Prop} (S : St c envs H s)
    (h : ∀ (d : Nat) s0, H d = none → St c envs (upd H d (.imap [])) s0 → wpAny (model prog w) A (eval kx env) (fun kv s1 => wpAny (model prog w) A (eval vx env) (fun vv s2 => DictOne c envs d Q kv vv s2) E s1) E s0) :
    wpAny (model prog w) A (eval (.Dict [some kx] [vx] pos) env) Q E s := by
  refine wpAny_Dict_walk (knd := intKind prog w) rfl rfl (by simp) (by simp) (pairTrees_cons_walk ?_)
  have S1 : St c envs (upd H s.heap.objs.size (.imap [])) { s with heap := s.heap.push { cls := .type "dict", data := .dict #[] } } :=
    S.new (t := s.toks) (fun b x q => Heap.get?_push_of_some _ q) (Nat.le_refl _) (by intro i; (exact Mine.no_ft i)) ⟨[], 0, Heap.get?_push_size _ rfl, [], trivial, List.nodup_nil, rfl⟩ (by rw [Heap.size_push]; exact Nat.le_succ _)
  refine wpAny_mono (h _ _ (S.fresh (Nat.le_refl _)) S1) (fun kv s1 h1 => wpAny_mono h1 (fun vv s2 h2 => pairTrees_nil_walk ?_) fun _ _ x => x) fun _ _ x => x
  (refine Mine.el_EEEAAA h2 fun i t H2 zq0 hd S2 k => ?_; (first | subst zq0 | cases zq0); (try clear h2))
  (refine Mine.el_EA ((S2.get hd).dictOf prog w) fun vs hD hm => ?_)
  obtain rfl : vs = [] := List.map_eq_nil_iff.mp hm
  refine ⟨[(i, vv)], ⟨int_is i t, rfl, trivial⟩, hD, fun h' hD' hs => k _ ?_⟩
  have r : Real h' s.heap.objs.size (.imap [(i, er vv)]) := Real.ofDict (prog := prog) (w := w) (vs := [(i, vv)]) hD'
  exact S2.set hd hs r rfl rfl
end
theorem join_nil {F : AH} : join F (fun _ => none) = F := by
  funext a; unfold join; cases F a <;> rfl
theorem Dj.nil {F : AH} : Dj F (fun _ => none) := fun a o h => by (exact Mine.no_ns h)
noncomputable def Mo.root : Mo := (Mo.put (fun _ => none) 0 { newNd 1 with act := false })
theorem PTree.root {SC PC : Nat} {x cl ql pt dd : Nat} (n1 : x ≠ cl) (n2 : x ≠ ql) (n3 : cl ≠ ql) (p1 : pt ≠ x) (p2 : pt ≠ cl) (p3 : pt ≠ ql) (d1 : dd ≠ x) (d2 : dd ≠ cl) (d3 : dd ≠ ql) (pd : pt ≠ dd) :
    PTree SC PC Mo.root [0] pt (upd (upd (upd (upd (upd (fun _ => none) x (.inst SC (setk "active" (.bool false) (nfl 0 1 cl ql)))) cl (.list [])) ql (.list [])) pt (.inst PC [("_root_stream", .ref x), ("_streams", .ref dd), ("_maximum_streams", .int 1000 0)])) dd (.imap [(0, .ref x)])) := by
  have t0 : Tree SC (⟨fun _ => 0, fun _ => 0, fun _ => 0⟩ : Pl) (fun _ => none : Mo) (fun _ => none) := by
    refine ⟨?_, ?_, ?_, ?_, ?_, ?_⟩ <;> intros <;> simp_all
  have ok0 : OkM (fun _ => 0) (fun _ => none : Mo) := ⟨fun i n h => by (exact Mine.no_ns h)⟩
  have c0 : Clo (fun _ => none : Mo) := ⟨fun i n h => (by (exact Mine.no_ns h)), fun i n p h => (by (exact Mine.no_ns h))⟩
  have t1 := t0.newNode c0 ok0 (i := 0) (w := 1) (x := x) (cl := cl) (ql := ql) rfl rfl rfl rfl n1 n2 n3
  have t2 := t1.set (n' := { newNd 1 with act := false }) (Mo.put_self ..) rfl rfl
  rw [Mo.put_put] at t2
  have hG : upd (upd (upd (upd (fun _ => none) x (.inst SC (nfl 0 1 cl ql))) cl (.list [])) ql (.list [])) x (.inst SC (setk "active" (.bool false) (nfl 0 1 cl ql))) = upd (upd (upd (fun _ => none) x (.inst SC (setk "active" (.bool false) (nfl 0 1 cl ql)))) cl (.list [])) ql (.list []) := by
    rw [upd_comm (Ne.symm n2), upd_comm (Ne.symm n1), upd_upd]
  refine ⟨Pl.at ⟨fun _ => 0, fun _ => 0, fun _ => 0⟩ 0 x cl ql, dd, _, ⟨t2, ?_, ?_, pd, by simp, fun i => ?_⟩, ?_⟩
  · show upd _ x _ pt = none
    rw [upd_ne p1, upd_ne p3, upd_ne p2, upd_ne p1]
  · show upd _ x _ dd = none
    rw [upd_ne d1, upd_ne d3, upd_ne d2, upd_ne d1]
  · rw [List.mem_singleton]
    unfold Mo.root Mo.put
    constructor
    · rintro rfl; exact ⟨_, if_pos rfl⟩
    · rintro ⟨n, h⟩
      by_cases q : i = 0
      · exact q
      · rw [if_neg q] at h; (exact Mine.no_ns h)
  · rw [← hG]; rfl
end Mine
end
section
open PySem PySem.W PyProof.Rows PySem.Calls
set_option linter.unusedVariables false
set_option Elab.async false
set_option maxRecDepth 100000
namespace Mine
noncomputable def fnBody : Stmt → List Stmt
  | .FunctionDef _ _ b _ _ _ _ _ _ _ => b
  | _ => []
noncomputable def fnScope : Stmt → Scope
  | .FunctionDef _ _ _ _ _ _ sc _ _ _ => sc
  | _ => default
noncomputable def nthSt (p : Program) (n i : Nat) : Stmt := (fnBody (p.main.body.getD n default)).getD i default
noncomputable def envAt (p : Program) (n : Nat) (nm : Str) (L : Nat) (a : Nat) (cd : Value) (cs : List (Str × Addr)) : Env :=
  { scope := fnScope (p.main.body.getD n default), locals := L, globals := mainGlobals, cells := cs, qual := nm, func := some a, code := cd, frame := some L, builtins := builtinsNs }
theorem list_ne_lengths (l : Addr) (items : Array Value) (n : Nat) (b : Addr) (items2 : Array Value) (n2 : Nat) (hc0 : (items.size != items2.size) = true) :
    Meets (Builtin.«list.__ne__» ⟨[.ref l, .ref b], []⟩) (fun _ R s => s.heap.get? l = some { cls := .type "list", dict := none, data := .seq items n, slots := #[] } ∧ s.heap.get? b = some { cls := .type "list", dict := none, data := .seq items2 n2, slots := #[] } ∧ R (.ok (.ret (Value.bool (CmpOp.NotEq == CmpOp.NotEq)))) { s with heap := s.heap, toks := s.toks }) :=
  .of_wp fun prog w A R s h => by obtain ⟨hp, g, d, tk, os⟩ := s; (refine Mine.el_AA h fun hl hb h => ?_); have f1 := AutoSeq1.idx_int; have f2 := AutoSeq1.sub_tuple_tuple; have f3 := AutoSeq1.sub_list_list; have f4 := AutoSeq1.sub_tuple_list; have f5 := AutoSeq1.sub_list_tuple; wp_walk using AutoSeq1.wpAny_loadPart' hl, AutoSeq1.wpAny_loadPart' hb; exact ⟨_, rfl, h⟩
theorem list_ne_nils (l : Addr) (n : Nat) (b : Addr) (n2 : Nat) :
    Meets (Builtin.«list.__ne__» ⟨[.ref l, .ref b], []⟩) (fun _ R s => s.heap.get? l = some { cls := .type "list", dict := none, data := .seq #[] n, slots := #[] } ∧ s.heap.get? b = some { cls := .type "list", dict := none, data := .seq #[] n2, slots := #[] } ∧ R (.ok (.ret (Value.bool false))) s) := by
  intro prog w A R s h
  obtain ⟨hp, g, d, tk, os⟩ := s; (refine Mine.el_AA h fun hl hb h => ?_)
  have f3 := AutoSeq1.sub_list_list
  wp_walk using AutoSeq1.wpAny_loadPart' hl, AutoSeq1.wpAny_loadPart' hb
  refine ⟨plainId_quiet MeetsSeq3.plain_eq_loop _, codeAny_builtin MeetsSeq3.entry_eq_loop ?_⟩
  rw [Around.under_plainId MeetsSeq3.plain_eq_loop _]
  wp_walk using AutoSeq1.wpAny_loadPart' hl, AutoSeq1.wpAny_loadPart' hb
  exact h
theorem slot_list_ne : Slot "list" (cmpInfo .NotEq).2.1 "list.__ne__" :=
  .of (owner := "list") (n := "__ne__") (by rw [typeLookup_type, builtinLookup_eq_fast]; kernel_rfl) (by decide +kernel) (by decide +kernel) (by decide +kernel)
    (by first | exact .inl (by decide +kernel) | exact .inr (by decide +kernel)) (by rw [isSubtype_type]; kernel_rfl)
theorem entry_list_ne : entryFor table "list.__ne__" = some Builtin.«list.__ne__» := entryFor_of_tree (by kernel_rfl)
theorem args_list_ne_2 (a b : Value) : argsOk "list.__ne__" ⟨[a, b], []⟩ := by
  unfold argsOk; rw [signature?_of (id := "list.__ne__") (n := ['_', '_', 'e', 'n', '_', '_']) (o := ['t', 's', 'i', 'l']) (by kernel_rfl) F.owner_list]; kernel_rfl
section
variable {prog : Program} {w : World} {K : Frag} {c : Cx prog w K} {envs outer : List Env} {env cenv : Env} {H G : AH} {A : Around} {E : Value → Shared → Prop} {s : Shared}
noncomputable def Scr (c : Cx prog w K) (sa : Nat) (ns : List Int) : Prop := ∃ vs : List Value, c.base.IsList sa vs.toArray ∧ IntsAre vs ns ∧ ns.length ≤ 63
theorem Scr.here {sa : Nat} {ns : List Int} (h : Scr c sa ns) (S : St c envs H s) : ∃ vs : List Value, s.heap.IsList sa vs.toArray ∧ IntsAre vs ns ∧ ns.length ≤ 63 := by
  (refine Mine.el_EAA h fun vs zq0 h2 h3 => ?_; refine Mine.el_EA zq0 fun o ho r => ?_; clear zq0; (try clear h))
  exact ⟨vs, ⟨o, S.base _ _ ho, r⟩, h2, h3⟩
theorem scr_len {sa : Nat} {ns : List Int} {Q : Value → Shared → Prop} (h : Scr c sa ns) (S : St c envs H s) (k : ∀ t s', St c envs H s' → Q (.int ns.length t) s') : wpAny (model prog w) A (call (.builtin "len") [.ref sa]) Q E s := by
  (refine Mine.el_EAA (h.here S) fun vs hl hi hz => ?_)
  have e := hi.length
  refine call_len_list hl (by simp; omega) ?_
  have := k (s.toks + 1) _ (S.tok (s.toks + 1 + 1))
  simpa [e] using this
theorem scr_item {value slice : PySem.Expr} {sa : Nat} {ns : List Int} {k i : Int} {u : Tok} {Q : Value → Shared → Prop} (h : Scr c sa ns) (S : St c envs H s) (h0 : 0 ≤ k) (hx : ns[k.toNat]? = some i) (q : ∀ t, Q (.int i t) s)
    (hs : subscripted slice false (.ref sa) (.int k u) = operate [.ref sa, .int k u] (getItem (.ref sa) (.int k u)) := by with_unfolding_all rfl) : wpAny (model prog w) A (subscriptTail value slice (.ref sa) (.int k u)) Q E s := by
  (refine Mine.el_EAA (h.here S) fun vs hl hi hz => ?_)
  (refine Mine.el_E (hi.get _ _ hx) fun t ht => ?_)
  have := (List.getElem?_eq_some_iff.mp hx).1
  exact tail_any hl.typeIs slot_list_getitem.lookup (wpAny_getItem_list hl h0 (by first | decide | omega) (by simpa using ht) (q t)) hs
theorem ne_nil {a b : Nat} {xs : List Value} {Q : Value → Shared → Prop} (S : St c envs H s) (ea : H a = some (.list xs)) (eb : H b = some (.list [])) (hu : A.units < cLine) (k : Q (.bool (!xs.isEmpty)) s) : wpAny (model prog w) A (compareOp .NotEq (.ref a) (.ref b)) Q E s := by
  (refine Mine.el_EEA (S.get ea) fun va ka ha zq0 => ?_; (first | subst zq0 | cases zq0))
  (refine Mine.el_EEA (S.get eb) fun vb kb hb hm => ?_)
  have hz : vb = #[] := by
    have : vb.toList = [] := List.map_eq_nil_iff.mp hm
    simpa using this
  subst hz
  by_cases h : va.size = 0
  · have he : va = #[] := Array.size_eq_zero_iff.mp h
    subst he
    exact richCompare_meets_room (op := .NotEq) ⟨_, ha, rfl⟩ ⟨_, hb, rfl⟩ slot_list_ne entry_list_ne (args_list_ne_2 _ _) (list_ne_nils a ka b kb)
      ⟨ha, hb, show Value.bool false ≠ Value.notImplemented ∧ Q (.bool false) s from ⟨(fun x => nomatch x), by simpa using k⟩⟩ hu
  · have : (va.toList.map er).isEmpty = false := by
      cases q : va.toList with
      | nil => exact absurd (by have := congrArg List.length q; simpa using this) h
      | cons x r => rfl
    rw [this] at k
    exact richCompare_meets_room (op := .NotEq) ⟨_, ha, rfl⟩ ⟨_, hb, rfl⟩ slot_list_ne entry_list_ne (args_list_ne_2 _ _) (list_ne_lengths a _ ka b _ kb (by simpa using h))
      ⟨ha, hb, show Value.bool true ≠ Value.notImplemented ∧ Q (.bool true) s from ⟨(fun x => nomatch x), k⟩⟩ hu
end
end Mine
end
section
open PySem PySem.W PyProof.Rows PySem.Calls
set_option linter.unusedVariables false
set_option Elab.async false
set_option maxRecDepth 100000
namespace Mine
section
variable {prog : Program} {w : World} {K : Frag} {c : Cx prog w K} {envs outer : List Env} {env cenv : Env} {H G : AH} {A : Around} {E : Value → Shared → Prop} {s : Shared}
theorem iter_range1 {r : Nat} {a b : Int} {t u v : Tok} {Q : Value → Shared → Prop} (S : St c envs (upd H r (.raw (rOb a b 1 t u v))) s) (hr : H r = none) (n : Nat) (hn : b = a + n) (hb : -1000 ≤ a) (hb2 : b ≤ 100000)
    (k : ∀ (it : Nat) s', H it = none → St c envs (upd H it (.raw (rIt (a + ((0 : Nat) : Int) * 1) ((n : Int) - (0 : Nat)) 1))) s' → Q (.ref it) s') : wpAny (model prog w) A (pyIter (.ref r)) Q E s := by
  refine iter_range S (upd_self ..) n ?_ (small_one (by first | decide | omega) (by first | decide | omega) (by first | decide | omega) (by first | decide | omega)) fun it s' hit S' => k it s' (none_up hit) ?_
  · rw [rangeSize_one]; split <;> omega
  · refine S'.sub (Sub.upd2 ((Sub.refl H).fresh hr) (.inl rfl)) (Frs.fresh ?_ (none_up hit))
    intro env m
    (refine Mine.el_AEEA (S.frs env m) fun kk L l h1 h2 => ?_)
    refine ⟨kk, L, l, h1, ?_⟩
    by_cases q : L = r
    · subst q; rw [upd_self] at h2; (exact Mine.tag_ne (Option.some.inj h2) rfl)
    · rw [upd_ne q] at h2; exact h2
end
end Mine
end
section
open PySem PySem.W PyProof.Rows PySem.Calls
set_option linter.unusedVariables false
set_option Elab.async false
set_option maxRecDepth 100000
namespace Mine
end Mine
end
section
open PySem PySem.W PyProof.Rows PySem.Calls
set_option linter.unusedVariables false
set_option Elab.async false
namespace Mine
section
variable {prog : Program} {w : World} {K : Frag} {c : Cx prog w K} {envs outer : List Env} {env cenv : Env} {H G : AH} {A : Around} {E : Value → Shared → Prop} {s : Shared} {P : AH → Prop} {xs : List Value} {ao : Nat → AO} {it C D : Nat}
  {elt iter : Expr} {x : Str} {px : Pos} {ifs : List Expr} {scope : Scope} {pos : Pos} {cl : List (Str × Addr)} {l : List (Str × Value)}
end
end Mine
end
section
open PySem PySem.W PyProof.Rows PySem.Calls
set_option linter.unusedVariables false
set_option Elab.async false
namespace Mine
noncomputable def Kp (L : Nat) (F F' : AH) : Prop := ∀ (a : Nat) o, a ≠ L → F a = some o → F' a = some o
theorem upd_id {H : AH} {a : Nat} {o : AO} (h : H a = some o) : upd H a o = H := by
  funext b
  by_cases q : b = a
  · subst q; rw [upd_self, h]
  · rw [upd_ne q]
theorem join_back {F' G2 : AH} {it L : Nat} {x o : AO} (fit : F' it = none) (nL : L ≠ it) (d : Dj (upd (upd F' it x) L o) G2) :
    join (upd (upd F' it x) L o) G2 = upd (join (upd F' L o) G2) it x ∧ join (upd F' L o) G2 it = none ∧ Dj (upd F' L o) G2 := by
  have hit : upd (upd F' it x) L o it = some x := upd_other (Ne.symm nL) (upd_self ..)
  have g : G2 it = none := d.has hit
  have f : upd F' L o it = none := upd_other (Ne.symm nL) fit
  refine ⟨by rw [upd_comm (Ne.symm nL), upd_join], by rw [join_n f]; exact g, fun b y q => ?_⟩
  have := d b y q
  by_cases h : b = L
  · subst h; rw [upd_self] at this; (exact Mine.no_sn this)
  · rw [upd_ne h] at this ⊢
    exact none_up this
end Mine
end
section
open PySem PySem.W PyProof.Rows PySem.Calls
set_option linter.unusedVariables false
set_option Elab.async false
namespace Mine
section
variable {cmp : Nat → Nat → (Bool → Shared → Prop) → Shared → Prop} {I : Shared → Prop} {key : Nat → Int} {N : Nat} {s : Shared} {p : Array Nat}
end
end Mine
end
section
open PySem PySem.W PyProof.Rows PySem.Calls
set_option linter.unusedVariables false
set_option Elab.async false
namespace Mine
section
variable {prog : Program} {w : World} {K : Frag} {c : Cx prog w K} {envs : List Env} {H : AH} {A : Around} {E : Value → Shared → Prop} {s : Shared} {L : Nat} {l : List (Str × Value)}
theorem St.grown {h' : Heap} {m : Str → Option Value} (S : St c envs H s) (hL : H L = some (.ns l)) (hm : ∀ x v, l.lookup x = some v → (m x).map er = some v) (hn : h'.Ns L m)
    (old : ∀ b x, b ≠ L → s.heap.get? b = some x → h'.get? b = some x) : St c envs H { s with heap := h' } := by
  refine ⟨fun b x q => old b x (fun z => ?_) (S.base b x q), fun a o e => ?_, S.low, S.excl, S.envs, S.gens, S.drawn, S.os, ?_⟩
  · have := (S.low L _ hL).1; rw [z, this] at q; (exact Mine.no_ns q)
  · by_cases q : a = L
    · subst q; rw [hL] at e; (replace e := Option.some.inj e; subst e); exact ⟨m, hn, hm⟩
    · refine (S.get e).keep fun b hb x hx => old b x (fun z => ?_) hx
      rcases hb with rfl | ⟨i, rfl⟩
      · exact q z
      · have := S.excl a o e i; rw [z, hL] at this; (exact Mine.no_sn this)
  · exact Nat.le_trans ((S.low L _ hL).2.2 rfl) (Nat.le_of_lt hn.lt)
end
end Mine
end
section
open PySem PySem.W PyProof.Rows PySem.Calls
set_option linter.unusedVariables false
set_option Elab.async false
namespace Mine
theorem map_two {vs : List Value} {x y : Value} (h : vs.map er = [x, y]) : ∃ v1 v2, vs = [v1, v2] ∧ er v1 = x ∧ er v2 = y := by
  match vs with
  | [v1, v2] =>
    simp only [List.map_cons, List.map_nil, List.cons.injEq, and_true] at h
    exact ⟨v1, v2, rfl, h.1, h.2⟩
  | [] => cases h
  | [_] => simp at h
  | _ :: _ :: _ :: _ => simp at h
section
variable {prog : Program} {w : World} {K : Frag} {c : Cx prog w K} {envs : List Env} {H : AH} {A : Around} {E : Value → Shared → Prop} {s : Shared}
end
end Mine
namespace Mine
end Mine
end
section
open PySem PySem.W PyProof.Rows PySem.Calls
set_option linter.unusedVariables false
set_option Elab.async false
namespace Mine
end Mine
end
section
open PySem PySem.W PyProof.Rows PySem.Calls
set_option linter.unusedVariables false
set_option Elab.async false
namespace Mine
section
variable {prog : Program} {w : World} {K : Frag} {envs : List Env} {H : AH} {s : Shared}
end
end Mine
end
section
open PySem PySem.W PyProof.Rows PySem.Calls
set_option linter.unusedVariables false
set_option Elab.async false
namespace Mine
noncomputable def intsV (l : List Int) : List Value := l.map fun i => .int i 0
theorem intsV_len {l : List Int} : (intsV l).length = l.length := by unfold intsV; simp
theorem intsAre_of : ∀ {vs : List Value} {l : List Int}, vs.map er = intsV l → IntsAre vs l
  | [], [], _ => .nil
  | [], _ :: _, h => by simp [intsV] at h
  | _ :: _, [], h => by simp [intsV] at h
  | v :: vs, i :: l, h => by
    simp only [intsV, List.map_cons, List.cons.injEq] at h
    (refine Mine.el_E (er_int h.1) fun t zq0 => ?_; (first | subst zq0 | cases zq0))
    exact .cons i t (intsAre_of h.2)
theorem map_erase {α β : Type} (f : α → β) : ∀ (l : List α) (j : Nat), (l.eraseIdx j).map f = (l.map f).eraseIdx j
  | [], _ => rfl
  | x :: r, 0 => rfl
  | x :: r, j + 1 => by rw [List.eraseIdx_cons_succ, List.map_cons, List.map_cons, List.eraseIdx_cons_succ, map_erase f r j]
theorem eraseIdx_arr {l : List Value} {j : Nat} (h : j < l.length) : (l.toArray.eraseIdxIfInBounds j).toList = l.eraseIdx j := by
  unfold Array.eraseIdxIfInBounds
  have : j < l.toArray.size := by simpa using h
  rw [dif_pos this]
  simp
section
variable {prog : Program} {w : World} {K : Frag} {c : Cx prog w K} {envs outer : List Env} {env : Env} {H : AH} {A : Around} {E : Value → Shared → Prop} {s : Shared}
theorem St.more {h' : Heap} {L : Nat} {l : List (Str × Value)} (S : St c envs H s) (hL : H L = some (.ns l)) (old : ∀ b x, s.heap.get? b = some x → h'.get? b = some x) (tk : Nat) : St c envs H { s with heap := h', toks := tk } := by
  (refine Mine.el_EA (S.get hL) fun m hn hm => ?_)
  (refine Mine.el_EEEA hn fun o es ep h1 h2 => ?_; (try clear hn))
  have hn' : h'.Ns L m := ⟨o, es, ep, old _ _ h1, h2⟩
  exact (S.grown hL hm hn' fun b x _ q => old b x q).tok tk
end
end Mine
end
section
open PySem PySem.W PyProof.Rows PySem.Calls
open PySem.AutoSeq1 (wpAny_loadPart')
set_option linter.unusedVariables false
set_option Elab.async false
namespace Mine
section
variable {prog : Program} {w : World} {K : Frag} {c : Cx prog w K} {envs outer : List Env} {env : Env} {H : AH} {A : Around} {E : Value → Shared → Prop} {s : Shared}
theorem eqb_same {a : Nat} {Q : Bool → Shared → Prop} (h : Q true s) : wpAny (model prog w) A (eqBool (.ref a) (.ref a)) Q E s := by
  unfold eqBool
  refine wpAny_holding ?_
  show wpAny _ _ (if (Value.ref a == Value.ref a) = true then _ else _) Q E s
  rw [if_pos (by simp)]
  exact wpAny_bind (wpAny_rule (wpAny_pure h))
theorem eqb_cmp {a b : Nat} {B : Bool} {Q : Bool → Shared → Prop} (hne : a ≠ b) (h : wpAny (model prog w) A (richCompare .Eq (.ref a) (.ref b)) (fun v s' => v = .bool B ∧ Q B s') E s) : wpAny (model prog w) A (eqBool (.ref a) (.ref b)) Q E s := by
  unfold eqBool
  refine wpAny_holding ?_
  show wpAny _ _ (if (Value.ref a == Value.ref b) = true then _ else _) Q E s
  rw [if_neg (by simpa using hne)]
  refine wpAny_bind (wpAny_mono h (fun v s' hv => ?_) fun _ _ z => z)
  (refine Mine.el_A hv fun zq0 hq => ?_; (first | subst zq0 | cases zq0); (try clear hv))
  exact wpAny_truthy_bool hq
noncomputable abbrev finR (prog : Program) (w : World) (A : Around) (R : Result → Shared → Prop) : Fin → Shared → Prop := fun fin s' => match fin with | .done f => R (.ok f) s' | .again c' => c'.quiet = true ∧ codeAny (model prog w) A c' R s'
theorem rem_loop {q x j : Nat} {xs : List Nat} {R : Result → Shared → Prop} (hx : xs[j]? = some x) (hz : xs.length ≤ 1000) (hq : H q = some (.list (xs.map .ref)))
    (hc : ∀ i a, i < j → xs[i]? = some a → a ≠ x ∧ ∀ (E' : Value → Shared → Prop) (Q' : Value → Shared → Prop) s, St c envs H s → (∀ s', St c envs H s' → Q' (.bool false) s') → wpAny (model prog w) A.in1 (richCompare .Eq (.ref a) (.ref x)) Q' E' s)
    (h : ∀ s', St c envs (upd H q (.list ((xs.eraseIdx j).map .ref))) s' → R (.ok (.ret .none)) s') :
    ∀ k i s, j - i = k → i ≤ j → St c envs H s → wpAny (model prog w) A.in1 (Builtin.«list.remove.loop» ⟨[.ref q, .ref x, rawInt i], []⟩) (finR prog w A R) (fun e s' => R (.error e) s') s := by
  intro k
  induction k with
  | zero =>
    intro i s hk hij S
    have hij' : i = j := by omega
    subst hij'
    (refine Mine.el_EEA (S.get hq) fun vs0 n hv hm => ?_)
    (refine Mine.el_E (show ∃ l : List Value, vs0 = l.toArray from ⟨vs0.toList, by simp⟩) fun vs zq0 => ?_; (first | subst zq0 | cases zq0))
    simp only at hm
    have hlen : vs.length = xs.length := by rw [← List.length_map (f := er), hm, List.length_map]
    have hjl := (List.getElem?_eq_some_iff.mp hx).1
    have hjv : i < vs.length := by omega
    have hvj : vs[i]? = some (.ref x) := by
      have : (vs.map er)[i]? = some (.ref x) := by rw [hm, List.getElem?_map, hx]; rfl
      rw [List.getElem?_map] at this
      (refine Mine.el_EA (Option.map_eq_some_iff.mp this) fun y hy he => ?_)
      rw [hy, er_ref he]
    have hi : vs.toArray[((i : Nat) : Int).toNat]? = some (.ref x) := by simpa using hvj
    unfold Builtin.«list.remove.loop»
    wp_walk using wpAny_loadPart' hv
    rw [hi]
    refine wpAny_bind (eqb_same ?_)
    have hs1 : vs.toArray.size ≤ sizeLine := by rw [sizeLine_eq]; simp; omega
    have hz' : (vs.toArray.eraseIdxIfInBounds i).size ≤ sizeLine + 1 := Nat.le_trans (MeetsSeq.size_erased _ _) (Nat.le_succ_of_le hs1)
    wp_walk using (wpAny_updateSeq hv rfl (hz := hs1) (_hz' := hz')), wpAny_loadPart' hv
    refine h _ (S.listSet hq hv _ ?_)
    rw [Int.toNat_natCast, eraseIdx_arr hjv, map_erase, hm, map_erase]
  | succ k ih =>
    intro i s hk hij S
    (refine Mine.el_EEA (S.get hq) fun vs0 n hv hm => ?_)
    (refine Mine.el_E (show ∃ l : List Value, vs0 = l.toArray from ⟨vs0.toList, by simp⟩) fun vs zq0 => ?_; (first | subst zq0 | cases zq0))
    simp only at hm
    have hlen : vs.length = xs.length := by rw [← List.length_map (f := er), hm, List.length_map]
    have hjl := (List.getElem?_eq_some_iff.mp hx).1
    have hil : i < xs.length := by omega
    have hxi : xs[i]? = some xs[i] := List.getElem?_eq_getElem hil
    (refine Mine.el_A (hc i xs[i] (by first | decide | omega) hxi) fun hne hcmp => ?_)
    have hvj : vs[i]? = some (.ref xs[i]) := by
      have : (vs.map er)[i]? = some (.ref xs[i]) := by rw [hm, List.getElem?_map, hxi]; rfl
      rw [List.getElem?_map] at this
      (refine Mine.el_EA (Option.map_eq_some_iff.mp this) fun y hy he => ?_)
      rw [hy, er_ref he]
    have hi : vs.toArray[((i : Nat) : Int).toNat]? = some (.ref xs[i]) := by simpa using hvj
    unfold Builtin.«list.remove.loop»
    wp_walk using wpAny_loadPart' hv
    rw [hi]
    refine wpAny_bind (eqb_cmp hne (hcmp _ _ _ S fun s' S' => ⟨rfl, ?_⟩))
    wp_walk
    have hcst : ((i : Int) + 1) = ((i + 1 : Nat) : Int) := by push_cast; rfl
    rw [hcst]
    exact ⟨plainId_quiet MeetsSeq.plain_remove_loop _, codeAny_builtin MeetsSeq.entry_remove_loop (by
      rw [Around.under_plainId MeetsSeq.plain_remove_loop _]
      exact ih (i + 1) s' (by first | decide | omega) (by first | decide | omega) S')⟩
theorem remove_own {q x j : Nat} {xs : List Nat} {Q : Value → Shared → Prop} (S : St c envs H s) (hq : H q = some (.list (xs.map .ref))) (hx : xs[j]? = some x) (hz : xs.length ≤ 1000)
    (hc : ∀ i a, i < j → xs[i]? = some a → a ≠ x ∧ ∀ (E' : Value → Shared → Prop) (Q' : Value → Shared → Prop) s, St c envs H s → (∀ s', St c envs H s' → Q' (.bool false) s') → wpAny (model prog w) A.in1 (richCompare .Eq (.ref a) (.ref x)) Q' E' s)
    (h : ∀ s', St c envs (upd H q (.list ((xs.eraseIdx j).map .ref))) s' → Q .none s') : wpAny (model prog w) A (call (.builtin "list.remove") [.ref q, .ref x]) Q E s := by
  (refine Mine.el_EEA (S.get hq) fun vs0 n hv hm => ?_)
  refine wpAny_call (codeAny_call_builtin PySem.F.slot_list_remove.plain PySem.F.entry_list_remove (PySem.F.slot_list_remove.check _ _ _ _ _ _ _ _ ⟨_, hv, rfl⟩ (PySem.F.args_list_remove_2 _ _) ?_))
  unfold Builtin.«list.remove»
  wp_walk
  exact ⟨plainId_quiet MeetsSeq.plain_remove_loop _, codeAny_builtin MeetsSeq.entry_remove_loop (by
    rw [Around.under_plainId MeetsSeq.plain_remove_loop _]
    exact rem_loop (R := wants Q E) hx hz hq hc h _ 0 s rfl (Nat.zero_le _) S)⟩
end
end Mine
end
section
open PySem PySem.W PyProof.Rows PySem.Calls
set_option linter.unusedVariables false
set_option Elab.async false
namespace Mine
section
variable {prog : Program} {w : World} {K : Frag} {c : Cx prog w K} {envs outer : List Env} {env : Env} {H : AH} {A : Around} {E : Value → Shared → Prop} {s : Shared}
theorem truth_list {q : Nat} {xs : List Value} {Q : Bool → Shared → Prop} (S : St c envs H s) (e : H q = some (.list xs)) (hz : xs.length ≤ 5000) (h : ∀ s', St c envs H s' → Q (!xs.isEmpty) s') :
    wpAny (model prog w) A (truthy (.ref q)) Q E s := by
  (refine Mine.el_EA (S.list e) fun vs h1 h2 => ?_)
  have hl : vs.length = xs.length := by rw [← h2, List.length_map]
  refine wpAny_truthy_list h1 (by simp; omega) ?_
  have := h _ (S.tok (s.toks + 1 + 1))
  have e2 : (!xs.isEmpty) = !vs.toArray.isEmpty := by
    cases vs with
    | nil => cases xs <;> first | rfl | simp at hl
    | cons a r => cases xs <;> first | rfl | simp at hl
  rw [e2] at this
  exact this
theorem truth_nil {q : Nat} {Q : Bool → Shared → Prop} (S : St c envs H s) (e : H q = some (.list [])) (h : ∀ s', St c envs H s' → Q false s') : wpAny (model prog w) A (truthy (.ref q)) Q E s :=
  truth_list S e (Nat.zero_le _) h
theorem truth_cons {q : Nat} {x : Value} {xs : List Value} {Q : Bool → Shared → Prop} (S : St c envs H s) (e : H q = some (.list (x :: xs))) (hz : (x :: xs).length ≤ 5000) (h : ∀ s', St c envs H s' → Q true s') : wpAny (model prog w) A (truthy (.ref q)) Q E s :=
  truth_list S e hz h
end
end Mine
end
section
set_option linter.unusedVariables false
set_option Elab.async false
namespace Mine
theorem adopts_take {M : Mo} {i x : Int} {ks : List Int} {k : Nat} (h : ks[k]? = some x) : adopts M i (ks.take (k + 1)) = adopt (adopts M i (ks.take k)) i x := by
  have hl := (List.getElem?_eq_some_iff.mp h).1
  have e : ks.take (k + 1) = ks.take k ++ [x] := by
    rw [List.take_succ_eq_append_getElem hl, (List.getElem?_eq_some_iff.mp h).2]
  rw [e]
  unfold adopts
  rw [List.foldl_append]; rfl
theorem adopts_at : ∀ (ks : List Int) {M : Mo} {i : Int} {d : Nd}, M i = some d → (∀ k ∈ ks, k ≠ i ∧ ∃ m, M k = some m) →
    ∃ q', adopts M i ks i = some { d with kids := d.kids ++ ks, q := q' } ∧ q'.length = d.q.length + ks.length ∧ (q'.map (·.2)).Perm (d.q.map (·.2) ++ ks) ∧ ∀ e ∈ q', e ∈ d.q ∨ (e.1 = d.lw ∧ e.2 ∈ ks)
  | [], M, i, d, h, _ => ⟨d.q, by rw [List.append_nil]; exact h, rfl, by rw [List.append_nil], fun e he => .inl he⟩
  | k :: ks, M, i, d, h, hk => by
    (refine Mine.el_AE (hk k (.head _)) fun hki m hm => ?_)
    have h1 := adopt_at h hm
    (refine Mine.el_EAAA (adopts_at ks h1 fun x hx => ⟨(hk x (.tail _ hx)).1, (Same.adopt M i k x).mp (hk x (.tail _ hx)).2⟩) fun q' a b c e => ?_)
    refine ⟨q', ?_, ?_, ?_, ?_⟩
    · show adopts (adopt M i k) i ks i = _
      rw [a]; simp only [List.append_assoc, List.cons_append, List.nil_append]
    · rw [b]; simp only [ins_length, List.length_cons]; omega
    · refine c.trans ?_
      have p1 : ((ins (d.lw, k) d.q).map (·.2)).Perm (k :: d.q.map (·.2)) := by
        unfold ins put
        rw [List.map_append, List.map_cons]
        refine List.perm_middle.trans ?_
        rw [← List.map_append, List.take_append_drop]
      refine (p1.append_right ks).trans ?_
      rw [List.cons_append]
      exact List.perm_middle.symm
    · intro x hx
      rcases e x hx with h2 | ⟨h2, h3⟩
      · rcases mem_ins.mp h2 with rfl | h2
        · exact .inr ⟨rfl, .head _⟩
        · exact .inl h2
      · exact .inr ⟨h2, .tail _ h3⟩
theorem adopts_other : ∀ (ks : List Int) {M : Mo} {i j : Int} {d n : Nd}, M i = some d → M j = some n → j ≠ i → (∀ k ∈ ks, k ≠ i ∧ ∃ m, M k = some m) → adopts M i ks j = some { n with par := if j ∈ ks then some i else n.par }
  | [], M, i, j, d, n, hi, h, hne, _ => by rw [if_neg (by simp)]; exact h
  | k :: ks, M, i, j, d, n, hi, h, hne, hk => by
    (refine Mine.el_AE (hk k (.head _)) fun hki m hm => ?_)
    have hk2 : ∀ x ∈ ks, x ≠ i ∧ ∃ m, adopt M i k x = some m := fun x hx => ⟨(hk x (.tail _ hx)).1, (Same.adopt M i k x).mp (hk x (.tail _ hx)).2⟩
    show adopts (adopt M i k) i ks j = _
    by_cases q : j = k
    · subst q
      rw [h] at hm
      (replace hm := Option.some.inj hm; subst hm)
      have hm := h
      rw [adopts_other ks (adopt_at hi hm) (adopt_child hi hm hki) hne hk2]
      rw [if_pos (List.mem_cons_self ..)]
      split <;> rfl
    · have : adopt M i k j = some n := (adopt_far hne q).trans h
      rw [adopts_other ks (adopt_at hi hm) this hne hk2]
      by_cases q2 : j ∈ ks
      · rw [if_pos q2, if_pos (.tail _ q2)]
      · rw [if_neg q2, if_neg (fun z => by rcases List.mem_cons.mp z with z | z <;> contradiction)]
end Mine
end
section
set_option linter.unusedVariables false
set_option Elab.async false
namespace Mine
section
variable (t : RR)
variable {t}
end
end Mine
end
section
set_option linter.unusedVariables false
set_option Elab.async false
namespace Mine
section
variable {t : RR}
end
end Mine
end
section
set_option linter.unusedVariables false
set_option Elab.async false
namespace Mine
section
variable {t : RR}
end
end Mine
end
section
set_option linter.unusedVariables false
set_option Elab.async false
namespace Mine
section
variable {t : RR}
end
end Mine
end
section
set_option linter.unusedVariables false
set_option Elab.async false
namespace Mine
namespace GG
section
variable {nm : Nat → Int}
end
section
variable (g : GG)
variable {g}
variable (g)
variable {g}
end
end GG
end Mine
end
section
set_option linter.unusedVariables false
set_option Elab.async false
namespace Mine
section
variable {g : GG} {a : Nat → Bool}
end
end Mine
end
section
open PySem PySem.W PyProof.Rows PySem.Calls
set_option linter.unusedVariables false
set_option Elab.async false
namespace Mine
end Mine
end
section
open PySem PySem.W PyProof.Rows PySem.Calls
set_option linter.unusedVariables false
set_option Elab.async false
namespace Mine
theorem join_swap {F G1 G2 : AH} (d1 : Dj F G1) (d2 : Dj (join F G1) G2) : join (join F G1) G2 = join (join F G2) G1 ∧ Dj F G2 ∧ Dj (join F G2) G1 := by
  refine ⟨?_, fun a o h => (join_none (d2 a o h)).1, fun a o h => ?_⟩
  · funext a
    unfold join
    cases hf : F a with
    | some o => rfl
    | none =>
      cases h1 : G1 a with
      | none => simp only; cases G2 a <;> rfl
      | some o =>
        cases h2 : G2 a with
        | none => rfl
        | some o2 => have := (join_none (d2 a o2 h2)).2; rw [h1] at this; (exact Mine.no_sn this)
  · have f := d1 a o h
    cases h2 : G2 a with
    | none => rw [join_n f]; exact h2
    | some o2 => have := (join_none (d2 a o2 h2)).2; rw [h] at this; (exact Mine.no_sn this)
section
variable {prog : Program} {w : World} {K : Frag} {c : Cx prog w K} {envs outer : List Env} {env : Env} {F G H : AH} {A : Around} {E : Value → Shared → Prop} {s : Shared}
noncomputable def TurnAt (c : Cx prog w K) (envs : List Env) (L : Nat) (F : AH) (I : Nat → List (Str × Value) → AH → Prop) (i : Nat) (s : Shared) : Prop :=
  ∃ l G, I i l G ∧ Dj F G ∧ St c envs (join (upd F L (.ns l)) G) s
theorem for_tree {x : Str} {px : Pos} {body orelse : List Stmt} {it L : Nat} {l : List (Str × Value)} {R : Result → Shared → Prop} {P : AH → Prop} {xs : List Value} {ao : Nat → AO} (row : Row prog w P xs ao)
    (I : Nat → List (Str × Value) → AH → Prop) (S : St c envs (upd (join F G) it (ao 0)) s) (n : join F G it = none) (hL : F L = some (.ns l)) (fr : Frs envs F) (dj : Dj F G) (hI : I 0 l G)
    (hP : ∀ i l G, I i l G → Dj F G → P (join (upd F L (.ns l)) G)) (hh : A.handled = none)
    (turn : ∀ (i : Nat) (F2 : AH) (l : List (Str × Value)) (G' : AH) (s' : Shared) (y : Value), I i l G' → xs[i]? = some y → Kp L F F2 → F2 L = some (.ns ((x, y) :: l)) → Dj F2 G' → Frs envs F2 → St c envs (join F2 G') s' → ∀ (QB : Flow → Shared → Prop) (EB : Value → Shared → Prop), (∀ f s₃, (match f with
          | .next | .cont => TurnAt c envs L F2 I (i + 1) s₃
          | .brk => R (.ok .next) s₃
          | .ret v => R (.ok (.ret v)) s₃) → QB f s₃) →
      wpAny (model prog w) A (execs body env) QB EB s')
    (fin : ∀ l G s', I xs.length l G → Dj F G → St c envs (join (upd F L (.ns l)) G) s' → wpAny (model prog w) A (execs orelse env) (fun f s₃ => R (.ok f) s₃) (notedBy (model prog w) A env fun e s' => R (.error e) s') s')
    (hloc : env.locals = L := by rfl) (hk : env.scope.kind = .function := by rfl) (hl : env.kindOf x = some .local := by rfl) :
    codeAny (model prog w) A (.forLoop (.Name x px) (.ref it) body orelse env) R s := by
  (refine Mine.el_A (join_none n) fun fi gi => ?_)
  have nL : L ≠ it := ne_fresh fi hL
  have e0 : join F G = join (upd F L (.ns l)) G := by rw [upd_id hL]
  refine for_row row (fun i Hc => ∃ l G, I i l G ∧ Dj F G ∧ Hc = join (upd F L (.ns l)) G) S n ⟨l, G, hI, dj, e0⟩ ?_ (fun _ _ _ => .inl hh) ?_ ?_
  · rintro i _ ⟨l', G', h1, h2, rfl⟩; exact hP i l' G' h1 h2
  · rintro i _ s' v y ⟨l', G', h1, h2, rfl⟩ hit hy hv S'
    (refine Mine.el_A (join_none hit) fun fi' gi' => ?_)
    refine wpAny_assign_Name (stv S' (upd_other nL (join_l (upd_self ..))) hv (fun s4 S4 => ?_) hloc hk hl)
    have e1 : upd (upd (join (upd F L (.ns l')) G') it (ao (i + 1))) L (.ns ((x, y) :: l')) = join (upd (upd F it (ao (i + 1))) L (.ns ((x, y) :: l'))) G' := by
      rw [upd_join, upd_join, upd_comm (a := L) (b := it) nL, upd_upd]
    rw [e1] at S4
    have d2 : Dj (upd (upd F it (ao (i + 1))) L (.ns ((x, y) :: l'))) G' := (h2.l gi').l (h2.has hL)
    refine wpAny_mono (turn i (upd (upd F it (ao (i + 1))) L (.ns ((x, y) :: l'))) l' G' s4 y h1 hy (fun a o n h => upd_other n (upd_other (ne_fresh fi h) h)) (upd_self ..) d2 ((fr.fresh fi).ns (upd_other nL hL)) S4 _ _ fun _ _ x => x) (fun f s5 h5 => ?_) fun _ _ x => x
    have back : TurnAt c envs L (upd (upd F it (ao (i + 1))) L (.ns ((x, y) :: l'))) I (i + 1) s5 → RowAt c envs (fun i Hc => ∃ l G, I i l G ∧ Dj F G ∧ Hc = join (upd F L (.ns l)) G) ao it (i + 1) s5 := by
      rintro ⟨l3, G3, j1, j2, S5⟩
      rw [upd_upd] at S5
      have d3 : Dj (upd (upd F it (ao (i + 1))) L (.ns l3)) G3 := by
        have := j2.l (o := .ns l3) (j2.has (upd_self ..))
        rwa [upd_upd] at this
      (refine Mine.el_AA (join_back fi nL d3) fun b1 b2 b3 => ?_)
      rw [b1] at S5
      refine RowAt.mk ⟨l3, G3, j1, fun a o h => ?_, rfl⟩ b2 S5
      have := b3 a o h
      exact none_up this
    cases f with
    | next => exact back h5
    | cont => exact back h5
    | brk => exact h5
    | ret v => exact h5
  · rintro _ s' ⟨l', G', h1, h2, rfl⟩ S'
    exact fin l' G' s' h1 h2 S'
end
end Mine
end
section
open PySem PySem.W PyProof.Rows PySem.Calls
set_option linter.unusedVariables false
set_option Elab.async false
namespace Mine
section
variable {prog : Program} {w : World} {K : Frag} {c : Cx prog w K} {envs outer : List Env} {env : Env} {H : AH} {A : Around} {E : Value → Shared → Prop} {s : Shared} {d : Nat} {k : Int} {t : Tok} {kvs : List (Int × Value)}
theorem d_miss {value slice : PySem.Expr} {Q : Value → Shared → Prop} (S : St c (env :: outer) H s) (hh : A.handled = none) (e : H d = some (.imap kvs)) (hv : kvs.lookup k = none) (h : ∀ x s', Fly c (env :: outer) H x (.type "KeyError") none s' → E (.ref x) s')
    (hs : subscripted slice false (.ref d) (.int k t) = operate [.ref d, .int k t] (getItem (.ref d) (.int k t)) := by with_unfolding_all rfl) : wpAny (model prog w) A (subscriptTail value slice (.ref d) (.int k t)) Q E s := by
  have ns := not_sys S e
  (refine Mine.el_EA ((S.get e).dictOf prog w) fun vs hD zq0 => ?_; (first | subst zq0 | cases zq0))
  rw [← valueAt_er, Option.map_eq_none_iff] at hv
  exact tail_any hD.typeIs slot_dict_getitem.lookup (wpAny_getItem_missing_of (int_is k t) ns hh hD.mapOf hv fun h' x hx => h x _ (newExc_fly (t := s.toks + 1) S hx)) hs
theorem kdel_er (vs : List (Int × Value)) (k : Int) : ((without vs k).map fun p => (p.1, er p.2)) = kdel k (vs.map fun p => (p.1, er p.2)) := by
  unfold without kdel
  rw [List.filter_map]; rfl
theorem d_pop {v : Value} {Q : Value → Shared → Prop} (S : St c envs H s) (e : H d = some (.imap kvs)) (hv : kvs.lookup k = some v) (hz : kvs.length ≤ 1000) (h : ∀ v' s', er v' = v → St c envs (upd H d (.imap (kdel k kvs))) s' → Q v' s') : wpAny (model prog w) A (call (.builtin "dict.pop") [.ref d, .int k t]) Q E s := by
  (refine Mine.el_EA ((S.get e).dictOf prog w) fun vs hD zq0 => ?_; (first | subst zq0 | cases zq0))
  rw [← valueAt_er] at hv
  (refine Mine.el_EA (Option.map_eq_some_iff.mp hv) fun y hy he => ?_)
  refine call_meetsIn PySem.F.slot_dict_pop hD.typeIs PySem.F.entry_dict_pop (PySem.F.args_dict_pop_2 _ _) (meets_dict_pop_there (intKind prog w) d (int_is k t) [] (.inl rfl) (by rfl)) ⟨vs, y, hD, by rw [sizeLine_eq]; rw [List.length_map] at hz; omega, hy, fun h' hmm hs => h _ _ he ?_⟩
  rw [← kdel_er]
  exact S.set e hs (Real.ofDict hmm) rfl rfl
theorem d_meth {name : Str} {id : String} {pl : Sem Bool} {Q : Value × List Value → Shared → Prop} (S : St c envs H s) (e : H d = some (.imap kvs)) (slot : Slot "dict" name id) (hty : typeOf (.builtin id) = pure (.type "method_descriptor"))
    (h : Q (.builtin id, [.ref d]) s) : wpAny (model prog w) A (getMethod (.ref d) name pl) Q E s := by
  (refine Mine.el_EA ((S.get e).dictOf prog w) fun vs hD zq0 => ?_; (first | subst zq0 | cases zq0))
  exact getMethod_builtin hD.typeIs PySem.F.plainAttrs_dict slot hty hD.mapOf.noDict h
end
end Mine
end
section
set_option linter.unusedVariables false
set_option Elab.async false
namespace Mine
noncomputable def parOf (M : Mo) (i : Int) : Option Int := (M i).bind (·.par)
theorem parOf_eq {M : Mo} {i : Int} {n : Nd} (h : M i = some n) : parOf M i = n.par := by unfold parOf; rw [h]; rfl
structure Bd (b : Nat) (M : Mo) : Prop where
  kl : ∀ i n, M i = some n → n.kids.length ≤ b
  ql : ∀ i n, M i = some n → n.q.length ≤ b
  kx : ∀ i n, M i = some n → ∀ k ∈ n.kids, ∃ m, M k = some m
  qx : ∀ i n, M i = some n → ∀ e ∈ n.q, ∃ m, M e.2 = some m
section
variable {b : Nat} {M : Mo} {i j : Int} {d n : Nd}
theorem Bd.mono (h : Bd b M) {b' : Nat} (hb : b ≤ b') : Bd b' M :=
  ⟨fun i n h1 => Nat.le_trans (h.kl i n h1) hb, fun i n h1 => Nat.le_trans (h.ql i n h1) hb, h.kx, h.qx⟩
theorem Bd.put (h : Bd b M) {b' : Nat} (hb : b ≤ b') {m : Nd} (kl : m.kids.length ≤ b') (ql : m.q.length ≤ b') (kx : ∀ k ∈ m.kids, ∃ x, M k = some x) (qx : ∀ e ∈ m.q, ∃ x, M e.2 = some x) : Bd b' (M.put i m) := by
  have go : ∀ j n, M.put i m j = some n → (n = m) ∨ M j = some n := fun j n hj => by
    by_cases q : j = i
    · subst q; rw [Mo.put_self] at hj; (replace hj := Option.some.inj hj; subst hj); exact .inl rfl
    · rw [Mo.put_ne q] at hj; exact .inr hj
  refine ⟨fun j n hj => ?_, fun j n hj => ?_, fun j n hj k hk => ?_, fun j n hj e he => ?_⟩
  · rcases go j n hj with rfl | hj
    · exact kl
    · exact Nat.le_trans (h.kl j n hj) hb
  · rcases go j n hj with rfl | hj
    · exact ql
    · exact Nat.le_trans (h.ql j n hj) hb
  · rcases go j n hj with rfl | hj
    · exact put_ex (kx k hk)
    · exact put_ex (h.kx j n hj k hk)
  · rcases go j n hj with rfl | hj
    · exact put_ex (qx e he)
    · exact put_ex (h.qx j n hj e he)
theorem Bd.remv (h : Bd b M) : Bd b (remv M i j) := by
  unfold Mine.remv
  cases hi : M i with
  | none => exact h
  | some d =>
    refine h.put (Nat.le_refl _) ?_ ?_ ?_ ?_
    · exact Nat.le_trans List.length_erase_le (h.kl i d hi)
    · rw [pushAll_length]
      exact Nat.le_trans (by simpa using keepQ_length j d.q) (h.ql i d hi)
    · intro k hk; exact h.kx i d hi k (List.mem_of_mem_erase hk)
    · intro e he
      rcases mem_pushAll.mp he with he | he
      · cases he
      · exact h.qx i d hi e ((List.mem_filter.mp he).1)
theorem Bd.adopt (h : Bd b M) : Bd (b + 1) (adopt M i j) := by
  unfold Mine.adopt
  cases hi : M i with
  | none => exact h.mono (Nat.le_succ _)
  | some d =>
    cases hj : M j with
    | none => exact h.mono (Nat.le_succ _)
    | some n =>
      dsimp only
      have h1 : Bd b (M.put j { n with par := some i }) := h.put (Nat.le_refl _) (h.kl j n hj) (h.ql j n hj) (h.kx j n hj) (h.qx j n hj)
      refine h1.put (Nat.le_succ _) ?_ ?_ ?_ ?_
      · simp only [List.length_append, List.length_cons, List.length_nil]; exact Nat.succ_le_succ (h.kl i d hi)
      · simp only [ins_length]; exact Nat.succ_le_succ (h.ql i d hi)
      · intro k hk
        rcases List.mem_append.mp hk with hk | hk
        · exact put_ex (h.kx i d hi k hk)
        · (have zq := ((List.mem_singleton.mp hk)).symm; subst zq); exact put_ex ⟨n, hj⟩
      · intro e he
        rcases mem_ins.mp he with rfl | he
        · exact put_ex ⟨n, hj⟩
        · exact put_ex (h.qx i d hi e he)
theorem parOf_put_ne {k : Int} {m : Nd} (h : k ≠ i) : parOf (M.put i m) k = parOf M k := by unfold parOf; rw [Mo.put_ne h]
theorem parOf_put (h : M i = some n) {m : Nd} (e : m.par = n.par) (k : Int) : parOf (M.put i m) k = parOf M k := by
  by_cases q : k = i
  · subst q; rw [parOf_eq (Mo.put_self ..), parOf_eq h, e]
  · exact parOf_put_ne q
theorem remv_none (h : M i = none) : remv M i j = M := by unfold remv; rw [h]
theorem parOf_remv (k : Int) : parOf (remv M i j) k = parOf M k := by
  cases hi : M i with
  | none => rw [remv_none hi]
  | some d => rw [remv_eq hi]; exact parOf_put (m := { d with kids := d.kids.erase j, q := pushAll [] (keepQ j d.q) }) hi rfl k
theorem parOf_adopt {k : Int} (h : k ≠ j) : parOf (adopt M i j) k = parOf M k := by
  unfold adopt
  cases hi : M i with
  | none => rfl
  | some d =>
    cases hj : M j with
    | none => rfl
    | some n =>
      dsimp only
      by_cases q : k = i
      · subst q; rw [parOf_eq (Mo.put_self ..), parOf_eq hi]
      · rw [parOf_put_ne q, parOf_put_ne h]
theorem parOf_adopt_self (hi : M i = some d) (hj : M j = some n) (h : j ≠ i) : parOf (adopt M i j) j = some i := by
  rw [parOf_eq (adopt_child hi hj h)]
theorem kidsOf_put (h : M i = some n) {m : Nd} (e : m.kids = n.kids) (k : Int) : kidsOf (M.put i m) k = kidsOf M k := by
  by_cases q : k = i
  · subst q; rw [kidsOf_eq (Mo.put_self ..), kidsOf_eq h, e]
  · unfold kidsOf; rw [Mo.put_ne q]
theorem kidsOf_remv {k : Int} : kidsOf (remv M i j) k = if k = i then (kidsOf M k).erase j else kidsOf M k := by
  cases hi : M i with
  | none =>
    rw [remv_none hi]
    by_cases q : k = i
    · subst q; rw [if_pos rfl]; unfold kidsOf; rw [hi]; rfl
    · rw [if_neg q]
  | some d =>
    rw [remv_eq hi]
    by_cases q : k = i
    · subst q; rw [if_pos rfl, kidsOf_eq hi, kidsOf_eq (Mo.put_self ..)]
    · rw [if_neg q]; unfold kidsOf; rw [Mo.put_ne q]
theorem kidsOf_adopt {k : Int} (hi : M i = some d) (hj : M j = some n) : kidsOf (adopt M i j) k = if k = i then kidsOf M k ++ [j] else kidsOf M k := by
  rw [adopt_eq hi hj]
  by_cases q : k = i
  · subst q; rw [if_pos rfl, kidsOf_eq hi, kidsOf_eq (Mo.put_self ..)]
  · rw [if_neg q]
    unfold kidsOf; rw [Mo.put_ne q]
    by_cases q2 : k = j
    · subst q2; rw [Mo.put_self, hj]; rfl
    · rw [Mo.put_ne q2]
end
noncomputable def cyc (M : Mo) (x : Int) : Nat → Int → Bool
  | 0, _ => false
  | n + 1, v => match parOf M v with
    | some p => if p = x then true else if p = 0 then false else cyc M x n p
    | none => false
noncomputable def setw (M : Mo) (i w : Int) : Mo :=
  match M i with
  | some n => M.put i { n with wt := w }
  | none => M
theorem setw_eq {M : Mo} {i w : Int} {n : Nd} (h : M i = some n) : setw M i w = M.put i { n with wt := w } := by unfold setw; rw [h]
theorem Same.setw (M : Mo) (i w : Int) : Same M (setw M i w) := by
  unfold Mine.setw
  cases hi : M i with
  | none => exact Same.refl M
  | some d => exact Same.put hi
noncomputable def made (M : Mo) (dep : Int) : Mo := actv (adopt (M.put dep (newNd 16)) 0 dep) dep false
noncomputable def lift (M : Mo) (x y : Int) : Mo := adopt (rmc M ((parOf M y).getD 0) y true) ((parOf M x).getD 0) y
noncomputable def repri1 (M : Mo) (x y w : Int) (cy : Bool) : Mo :=
  let M2 := setw M x w
  let M4 := if cy then lift M2 x y else M2
  rmc M4 ((parOf M x).getD 0) x false
noncomputable def repri (M : Mo) (x y w : Int) (ex cy : Bool) : Mo := if ex then adoptX (repri1 M x y w cy) y x else adopt (repri1 M x y w cy) y x
end Mine
end
section
open PySem PySem.W PyProof.Rows PySem.Calls
set_option linter.unusedVariables false
set_option Elab.async false
namespace Mine
noncomputable def Mo.del (M : Mo) (x : Int) : Mo := fun j => if j = x then none else M j
noncomputable def without1 (x : Int) (ks : List Int) : List Int := ks.filter fun k => decide (k ≠ x)
theorem kdel_pdict {P : Pl} {x : Int} {ks : List Int} : kdel x (pdict P ks) = pdict P (without1 x ks) := by
  unfold kdel pdict without1
  rw [List.filter_map]; rfl
theorem PTreeD.gone {SC PC : Nat} {D : Int → Nat} {P P' : Pl} {M M' : Mo} {ks : List Int} {x : Int} {pt dd : Nat} {F Gt Gt' : AH} (p : PT SC PC P M ks pt dd Gt) (f1 : F pt = none) (f2 : F dd = none) (d : Dj (upd (upd F pt (.inst PC (pfl P dd))) dd (.imap (pdict P (without1 x ks)))) Gt') (t : Tree SC P' M' Gt') (eD : P'.D = P.D) (l : Same M M') (eE : ∀ j ∈ ks, P.D j = D j) :
    PTreeD SC PC D (M'.del x) (without1 x ks) pt (upd (upd Gt' pt (.inst PC (pfl P dd))) dd (.imap (pdict P (without1 x ks)))) ∧ Dj F (upd (upd Gt' pt (.inst PC (pfl P dd))) dd (.imap (pdict P (without1 x ks)))) ∧
    join (upd (upd F pt (.inst PC (pfl P dd))) dd (.imap (pdict P (without1 x ks)))) Gt' = join F (upd (upd Gt' pt (.inst PC (pfl P dd))) dd (.imap (pdict P (without1 x ks)))) := by
  have pn : Gt' pt = none := d.has (upd_other p.ne (upd_self ..))
  have dn : Gt' dd = none := d.has (upd_self ..)
  refine ⟨⟨P', dd, Gt', ⟨t.less fun i n h => ?_, pn, dn, p.ne, p.nd.filter _, fun i => ?_⟩, by rw [pfl_pl eD, pdict_pl eD], fun j hj => by rw [eD]; exact eE j (List.mem_filter.mp hj).1⟩, ?_, ?_⟩
  · unfold Mo.del at h
    split at h
    · (exact Mine.no_ns h)
    · exact h
  · unfold without1 Mo.del
    rw [List.mem_filter]
    by_cases q : i = x
    · subst q; simp
    · simp only [if_neg q, decide_eq_true_eq]
      exact ⟨fun h => (l i).mp ((p.ks i).mp h.1), fun h => ⟨(p.ks i).mpr ((l i).mpr h), q⟩⟩
  · have d0 : Dj F Gt' := d.sub (((Sub.refl F).fresh f1).fresh f2)
    exact (d0.r f1).r f2
  · rw [← upd_join_r f2, ← upd_join_r f1, upd_join, upd_join]
end Mine
end
section
set_option linter.unusedVariables false
set_option Elab.async false
namespace Mine
theorem klt_iff {a b : Int × Int} : klt a b = true ↔ a.1 < b.1 ∨ (a.1 = b.1 ∧ a.2 < b.2) := by unfold klt; exact decide_eq_true_iff
theorem ins_perm (x : Int × Int) (q : List (Int × Int)) : (ins x q).Perm (x :: q) := by
  unfold ins put
  have : (q.take (place (klt x) q) ++ x :: q.drop (place (klt x) q)).Perm (x :: (q.take (place (klt x) q) ++ q.drop (place (klt x) q))) := List.perm_middle
  rw [List.take_append_drop] at this
  exact this
end Mine
end
section
set_option linter.unusedVariables false
set_option Elab.async false
namespace Mine
structure Fam (f : Int) (M : Mo) : Prop where
  root : ∃ n, M 0 = some n ∧ n.act = false
  up : ∀ i n, M i = some n → i ≠ 0 → i ≠ f → ∃ p d, n.par = some p ∧ M p = some d ∧ i ∈ d.kids
  dn : ∀ i n, M i = some n → ∀ k ∈ n.kids, k ≠ 0 ∧ k ≠ f ∧ ∃ m, M k = some m ∧ m.par = some i
  nd : ∀ i n, M i = some n → n.kids.Nodup
  qk : ∀ i n, M i = some n → (n.q.map (·.2)).Perm n.kids
  wt : ∀ i n, M i = some n → 1 ≤ n.wt ∧ n.wt ≤ 256 ∧ 0 ≤ n.df ∧ n.df < 256
noncomputable def RkM (rk : Int → Nat) (M : Mo) : Prop := ∀ i n, M i = some n → ∀ k ∈ n.kids, rk k < rk i
section
variable {f : Int} {M : Mo} {i j x : Int} {d n : Nd} {rk : Int → Nat}
theorem Fam.kid (h : Fam f M) (hi : M i = some d) (hj : M j = some n) (hp : n.par = some i) (h0 : j ≠ 0) (hf : j ≠ f) : j ∈ d.kids := by
  (refine Mine.el_EEAA (h.up j n hj h0 hf) fun p d' e1 e2 e3 => ?_)
  rw [hp] at e1
  (replace e1 := Option.some.inj e1; subst e1)
  rw [hi] at e2
  (replace e2 := Option.some.inj e2; subst e2)
  exact e3
theorem ins_perm2 (e : Int × Int) (q : List (Int × Int)) : ((ins e q).map (·.2)).Perm (q.map (·.2) ++ [e.2]) := by
  refine ((ins_perm e q).map (·.2)).trans ?_
  rw [List.map_cons]
  exact (List.perm_append_singleton _ _).symm
theorem Fam.put_new (h : Fam 0 M) {v : Int} (hi : M i = none) (h0 : i ≠ 0) (h1 : 1 ≤ v) (h2 : v ≤ 256) : Fam i (M.put i (newNd v)) := by
  have go : ∀ j n, M.put i (newNd v) j = some n → (j = i ∧ n = newNd v) ∨ (j ≠ i ∧ M j = some n) := fun j n hj => by
    by_cases q : j = i
    · subst q; rw [Mo.put_self] at hj; (replace hj := Option.some.inj hj; subst hj); exact .inl ⟨rfl, rfl⟩
    · rw [Mo.put_ne q] at hj; exact .inr ⟨q, hj⟩
  have old : ∀ j n, M j = some n → M.put i (newNd v) j = some n := fun j n hj => (Mo.put_ne (fun z => by rw [z, hi] at hj; (exact Mine.no_ns hj))).trans hj
  refine ⟨?_, fun j n hj a b => ?_, fun j n hj k hk => ?_, fun j n hj => ?_, fun j n hj => ?_, fun j n hj => ?_⟩
  · (refine Mine.el_EA h.root fun n a b => ?_)
    exact ⟨n, old _ _ a, b⟩
  · rcases go j n hj with ⟨rfl, rfl⟩ | ⟨q, hj⟩
    · exact absurd rfl b
    · (refine Mine.el_EEAA (h.up j n hj a a) fun p d e1 e2 e3 => ?_)
      exact ⟨p, d, e1, old _ _ e2, e3⟩
  · rcases go j n hj with ⟨rfl, rfl⟩ | ⟨q, hj⟩
    · cases hk
    · (refine Mine.el_AAEA (h.dn j n hj k hk) fun a b m c e => ?_)
      exact ⟨a, (fun z => by rw [z, hi] at c; (exact Mine.no_ns c)), m, old _ _ c, e⟩
  · rcases go j n hj with ⟨rfl, rfl⟩ | ⟨q, hj⟩
    · exact List.nodup_nil
    · exact h.nd j n hj
  · rcases go j n hj with ⟨rfl, rfl⟩ | ⟨q, hj⟩
    · exact List.Perm.refl _
    · exact h.qk j n hj
  · rcases go j n hj with ⟨rfl, rfl⟩ | ⟨q, hj⟩
    · exact ⟨h1, h2, Int.le_refl _, (by decide : (0 : Int) < 256)⟩
    · exact h.wt j n hj
theorem Fam.adopt (h : Fam f M) (hf0 : f ≠ 0) (hi : M i = some d) (hf : M f = some n) (hne : f ≠ i) : Fam 0 (adopt M i f) := by
  have hd : f ∉ d.kids := fun z => (h.dn i d hi f z).2.1 rfl
  have go : ∀ k m, Mine.adopt M i f k = some m → (k = i ∧ m = { d with kids := d.kids ++ [f], q := ins (d.lw, f) d.q }) ∨ (k ≠ i ∧ k = f ∧ m = { n with par := some i }) ∨ (k ≠ i ∧ k ≠ f ∧ M k = some m) := fun k m hk => by
    by_cases q : k = i
    · subst q; rw [adopt_at hi hf] at hk; (replace hk := Option.some.inj hk; subst hk); exact .inl ⟨rfl, rfl⟩
    · by_cases q2 : k = f
      · subst q2; rw [adopt_child hi hf hne] at hk; (replace hk := Option.some.inj hk; subst hk); exact .inr (.inl ⟨q, rfl, rfl⟩)
      · rw [adopt_far q q2] at hk; exact .inr (.inr ⟨q, q2, hk⟩)
  have old : ∀ k m, M k = some m → ∃ m', Mine.adopt M i f k = some m' ∧ (k ≠ f → m'.par = m.par) ∧ (∀ z ∈ m.kids, z ∈ m'.kids) := fun k m hk => by
    by_cases q : k = i
    · subst q; rw [hi] at hk; (replace hk := Option.some.inj hk; subst hk); exact ⟨_, adopt_at hi hf, fun _ => rfl, fun z hz => List.mem_append_left _ hz⟩
    · by_cases q2 : k = f
      · subst q2; rw [hf] at hk; (replace hk := Option.some.inj hk; subst hk); exact ⟨_, adopt_child hi hf hne, fun z => absurd rfl z, fun z hz => hz⟩
      · exact ⟨m, (adopt_far q q2).trans hk, fun _ => rfl, fun z hz => hz⟩
  have kid : ∀ k m, M k = some m → ∀ z ∈ m.kids, z ≠ 0 ∧ z ≠ 0 ∧ ∃ m', Mine.adopt M i f z = some m' ∧ m'.par = some k := fun k m hk z hz => by
    (refine Mine.el_AAEA (h.dn k m hk z hz) fun a b y c e => ?_)
    (refine Mine.el_EAA (old z y c) fun y' c1 c2 _ => ?_)
    exact ⟨a, a, y', c1, (c2 b).trans e⟩
  refine ⟨?_, fun k m hk a b => ?_, fun k m hk z hz => ?_, fun k m hk => ?_, fun k m hk => ?_, fun k m hk => ?_⟩
  · (refine Mine.el_EA h.root fun r a b => ?_)
    by_cases q : (0 : Int) = i
    · subst q; rw [hi] at a; (replace a := Option.some.inj a; subst a); exact ⟨_, adopt_at hi hf, b⟩
    · exact ⟨r, (adopt_far q (Ne.symm hf0)).trans a, b⟩
  · have back : ∀ m0 : Nd, M k = some m0 → k ≠ f → m.par = m0.par → ∃ p d', m.par = some p ∧ Mine.adopt M i f p = some d' ∧ k ∈ d'.kids := fun m0 h0 hkf e => by
      (refine Mine.el_EEAA (h.up k m0 h0 a hkf) fun p d' e1 e2 e3 => ?_)
      (refine Mine.el_EAA (old p d' e2) fun d2 c1 _ c3 => ?_)
      exact ⟨p, d2, e.trans e1, c1, c3 _ e3⟩
    rcases go k m hk with ⟨rfl, rfl⟩ | ⟨q, rfl, rfl⟩ | ⟨q, q2, hk⟩
    · exact back d hi (Ne.symm hne) rfl
    · exact ⟨i, _, rfl, adopt_at hi hf, List.mem_append_right _ (List.mem_singleton_self _)⟩
    · exact back m hk q2 rfl
  · rcases go k m hk with ⟨rfl, rfl⟩ | ⟨q, rfl, rfl⟩ | ⟨q, q2, hk⟩
    · rcases List.mem_append.mp hz with hz | hz
      · exact kid _ d hi z hz
      · (have zq := ((List.mem_singleton.mp hz)).symm; subst zq)
        exact ⟨hf0, hf0, _, adopt_child hi hf hne, rfl⟩
    · exact kid _ n hf z hz
    · exact kid k m hk z hz
  · rcases go k m hk with ⟨rfl, rfl⟩ | ⟨q, rfl, rfl⟩ | ⟨q, q2, hk⟩
    · rw [List.nodup_append]
      exact ⟨h.nd _ d hi, by simp, fun a ha b hb z => by (have zq := ((List.mem_singleton.mp hb)).symm; subst zq); exact hd (z ▸ ha)⟩
    · exact h.nd _ n hf
    · exact h.nd k m hk
  · rcases go k m hk with ⟨rfl, rfl⟩ | ⟨q, rfl, rfl⟩ | ⟨q, q2, hk⟩
    · exact (ins_perm2 _ _).trans ((h.qk _ d hi).append_right _)
    · exact h.qk _ n hf
    · exact h.qk k m hk
  · rcases go k m hk with ⟨rfl, rfl⟩ | ⟨q, rfl, rfl⟩ | ⟨q, q2, hk⟩
    · exact h.wt _ d hi
    · exact h.wt _ n hf
    · exact h.wt k m hk
theorem RkM.adopt (h : RkM rk M) {S : Int → Prop} [DecidablePred S] (hS : ∀ i n, M i = some n → S i → ∀ k ∈ n.kids, S k) (hSf : S j) (hSi : ¬ S i) (hi : M i = some d) (hj : M j = some n) (hne : j ≠ i) :
    ∃ rk', RkM rk' (adopt M i j) := by
  refine ⟨fun k => if S k then rk k else rk k + (rk j + 1), fun k m hk z hz => ?_⟩
  have old : ∀ m0 : Nd, M k = some m0 → z ∈ m0.kids → (if S z then rk z else rk z + (rk j + 1)) < (if S k then rk k else rk k + (rk j + 1)) := fun m0 h0 h1 => by
    have h2 := h k m0 h0 z h1
    by_cases q : S k
    · rw [if_pos q, if_pos (hS k m0 h0 q z h1)]; exact h2
    · rw [if_neg q]; split <;> omega
  by_cases q : k = i
  · subst q
    rw [adopt_at hi hj] at hk; (replace hk := Option.some.inj hk; subst hk)
    rcases List.mem_append.mp hz with hz | hz
    · exact old d hi hz
    · (have zq := ((List.mem_singleton.mp hz)).symm; subst zq)
      simp only [if_pos hSf, if_neg hSi]; omega
  · by_cases q2 : k = j
    · subst q2; rw [adopt_child hi hj hne] at hk; (replace hk := Option.some.inj hk; subst hk); exact old n hj hz
    · rw [adopt_far q q2] at hk; exact old m hk hz
end
end Mine
end
section
set_option linter.unusedVariables false
set_option Elab.async false
namespace Mine
section
variable {f : Int} {M : Mo} {i j x : Int} {d n : Nd} {rk : Int → Nat}
theorem adoptX_eqs (hi : M i = some d) (hf : M f = some n) (hne : f ≠ i) (hkf : f ∉ d.kids) (hki : i ∉ d.kids) (hkx : ∀ k ∈ d.kids, ∃ m, M k = some m) :
    adoptX M i f i = some { d with kids := [f], q := [(0, f)], lw := 0 } ∧ (∃ q', adoptX M i f f = some { n with par := some i, kids := n.kids ++ d.kids, q := q' } ∧ (q'.map (·.2)).Perm (n.q.map (·.2) ++ d.kids)) ∧
    ∀ k, k ≠ i → k ≠ f → adoptX M i f k = (M k).map fun m => { m with par := if k ∈ d.kids then some f else m.par } := by
  have c1 : clr M i i = some { d with kids := [], q := [], lw := 0 } := by rw [clr_eq hi]; exact Mo.put_self ..
  have c2 : ∀ k, k ≠ i → clr M i k = M k := fun k h => by rw [clr_eq hi]; exact Mo.put_ne h
  have c3 : clr M i f = some n := (c2 f hne).trans hf
  have a1 : adopt (clr M i) i f i = some { d with kids := [f], q := [(0, f)], lw := 0 } := by rw [adopt_at c1 c3]; rfl
  have a2 : adopt (clr M i) i f f = some { n with par := some i } := adopt_child c1 c3 hne
  have a3 : ∀ k, k ≠ i → k ≠ f → adopt (clr M i) i f k = M k := fun k h1 h2 => (adopt_far h1 h2).trans (c2 k h1)
  have hk : ∀ k ∈ d.kids, k ≠ f ∧ ∃ m, adopt (clr M i) i f k = some m := fun k hk => ⟨fun z => hkf (z ▸ hk), by
    rw [a3 k (fun z => hki (z ▸ hk)) (fun z => hkf (z ▸ hk))]; exact hkx k hk⟩
  unfold adoptX
  rw [kidsOf_eq hi]
  refine ⟨?_, ?_, fun k h1 h2 => ?_⟩
  · rw [adopts_other d.kids a2 a1 (Ne.symm hne) hk, if_neg hki]
  · (refine Mine.el_EAAA (adopts_at d.kids a2 hk) fun q' e1 e2 e3 e4 => ?_)
    exact ⟨q', e1, e3⟩
  · cases hm : M k with
    | none =>
      cases z : adopts (adopt (clr M i) i f) f d.kids k with
      | none => rfl
      | some y =>
        (refine Mine.el_E ((Same.adopts d.kids (adopt (clr M i) i f) f k).mpr ⟨y, z⟩) fun y' hy => ?_)
        rw [a3 k h1 h2, hm] at hy; (exact Mine.no_ns hy)
    | some m =>
      rw [adopts_other d.kids a2 ((a3 k h1 h2).trans hm) h2 hk]; rfl
theorem Fam.adoptX (h : Fam f M) (hf0 : f ≠ 0) (hi : M i = some d) (hf : M f = some n) (hne : f ≠ i) (hki : i ∉ d.kids) : Fam 0 (adoptX M i f) := by
  have hkf : f ∉ d.kids := fun z => (h.dn i d hi f z).2.1 rfl
  (refine Mine.el_AA (adoptX_eqs hi hf hne hkf hki (fun k hk => let ⟨_, _, m, hm, _⟩ := h.dn i d hi k hk; ⟨m, hm⟩)) fun A zq0 C => ?_; refine Mine.el_EA zq0 fun q' B Bp => ?_; clear zq0)
  have go : ∀ k m, Mine.adoptX M i f k = some m → (k = i ∧ m = { d with kids := [f], q := [(0, f)], lw := 0 }) ∨ (k ≠ i ∧ k = f ∧ m = { n with par := some i, kids := n.kids ++ d.kids, q := q' }) ∨ (k ≠ i ∧ k ≠ f ∧ ∃ m0, M k = some m0 ∧ m = { m0 with par := if k ∈ d.kids then some f else m0.par }) := fun k m hk => by
    by_cases q : k = i
    · subst q; rw [A] at hk; (replace hk := Option.some.inj hk; subst hk); exact .inl ⟨rfl, rfl⟩
    · by_cases q2 : k = f
      · subst q2; rw [B] at hk; (replace hk := Option.some.inj hk; subst hk); exact .inr (.inl ⟨q, rfl, rfl⟩)
      · rw [C k q q2] at hk
        (refine Mine.el_EA (Option.map_eq_some_iff.mp hk) fun m0 h0 zq0 => ?_; (first | subst zq0 | cases zq0))
        exact .inr (.inr ⟨q, q2, m0, h0, rfl⟩)
  have old : ∀ k m, M k = some m → k ≠ f → ∃ m', Mine.adoptX M i f k = some m' ∧ m'.par = (if k ∈ d.kids then some f else m.par) ∧ (k ≠ i → m'.kids = m.kids) := fun k m hk q2 => by
    by_cases q : k = i
    · subst q; rw [hi] at hk; (replace hk := Option.some.inj hk; subst hk); exact ⟨_, A, by rw [if_neg hki], fun z => absurd rfl z⟩
    · exact ⟨{ m with par := if k ∈ d.kids then some f else m.par }, by rw [C k q q2, hk]; rfl, rfl, fun _ => rfl⟩
  have kid : ∀ k m, M k = some m → k ≠ i → ∀ z ∈ m.kids, z ≠ 0 ∧ z ≠ 0 ∧ ∃ m', Mine.adoptX M i f z = some m' ∧ m'.par = some k := fun k m hk hki2 z hz => by
    (refine Mine.el_AAEA (h.dn k m hk z hz) fun a b y c e => ?_)
    (refine Mine.el_EAA (old z y c b) fun y' c1 c2 _ => ?_)
    refine ⟨a, a, y', c1, ?_⟩
    rw [c2, if_neg (fun w => ?_)]
    · exact e
    · (refine Mine.el_AAEA (h.dn i d hi z w) fun zq0 zq1 y2 g1 g2 => ?_; clear zq0; clear zq1)
      rw [c] at g1; (replace g1 := Option.some.inj g1; subst g1)
      rw [e] at g2; (replace g2 := (Option.some.inj g2).symm; subst g2)
      exact hki2 rfl
  refine ⟨?_, fun k m hk a b => ?_, fun k m hk z hz => ?_, fun k m hk => ?_, fun k m hk => ?_, fun k m hk => ?_⟩
  · (refine Mine.el_EA h.root fun r a b => ?_)
    by_cases q : (0 : Int) = i
    · subst q; rw [hi] at a; (replace a := Option.some.inj a; subst a); exact ⟨_, A, b⟩
    · exact ⟨{ r with par := if (0 : Int) ∈ d.kids then some f else r.par }, by rw [C 0 q (Ne.symm hf0), a]; rfl, b⟩
  · by_cases q2 : k = f
    · subst q2
      rw [B] at hk; (replace hk := Option.some.inj hk; subst hk)
      exact ⟨i, _, rfl, A, List.mem_singleton_self _⟩
    · have hm0 : ∃ m0, M k = some m0 ∧ m.par = (if k ∈ d.kids then some f else m0.par) := by
        rcases go k m hk with ⟨rfl, rfl⟩ | ⟨q, rfl, rfl⟩ | ⟨q, _, m0, h0, rfl⟩
        · exact ⟨d, hi, by rw [if_neg hki]⟩
        · exact absurd rfl q2
        · exact ⟨m0, h0, rfl⟩
      (refine Mine.el_EA hm0 fun m0 h0 hp => ?_; (try clear hm0))
      by_cases w : k ∈ d.kids
      · rw [if_pos w] at hp
        exact ⟨f, _, hp, B, List.mem_append_right _ w⟩
      · rw [if_neg w] at hp
        (refine Mine.el_EEAA (h.up k m0 h0 a q2) fun p d' e1 e2 e3 => ?_)
        have hpi : p ≠ i := fun z => by subst z; rw [hi] at e2; (replace e2 := Option.some.inj e2; subst e2); exact w e3
        by_cases q3 : p = f
        · subst q3; rw [hf] at e2; (replace e2 := Option.some.inj e2; subst e2)
          exact ⟨_, _, hp.trans e1, B, List.mem_append_left _ e3⟩
        · (refine Mine.el_EAA (old p d' e2 q3) fun d2 c1 _ c3 => ?_)
          exact ⟨p, d2, hp.trans e1, c1, by rw [c3 hpi]; exact e3⟩
  · rcases go k m hk with ⟨rfl, rfl⟩ | ⟨q, rfl, rfl⟩ | ⟨q, q2, m0, h0, rfl⟩
    · (have zq := ((List.mem_singleton.mp hz)).symm; subst zq)
      exact ⟨hf0, hf0, _, B, rfl⟩
    · rcases List.mem_append.mp hz with hz | hz
      · exact kid _ n hf q z hz
      · (refine Mine.el_AAEA (h.dn i d hi z hz) fun a b y c e => ?_)
        (refine Mine.el_EAA (old z y c b) fun y' c1 c2 _ => ?_)
        exact ⟨a, a, y', c1, by rw [c2, if_pos hz]⟩
    · exact kid k m0 h0 q z hz
  · rcases go k m hk with ⟨rfl, rfl⟩ | ⟨q, rfl, rfl⟩ | ⟨q, q2, m0, h0, rfl⟩
    · simp
    · rw [List.nodup_append]
      refine ⟨h.nd _ n hf, h.nd _ d hi, fun a ha b hb z => ?_⟩
      subst z
      (refine Mine.el_AAEA (h.dn _ n hf a ha) fun zq0 zq1 y1 g1 g2 => ?_; clear zq0; clear zq1)
      (refine Mine.el_AAEA (h.dn i d hi a hb) fun zq0 zq1 y2 g3 g4 => ?_; clear zq0; clear zq1)
      rw [g1] at g3; (replace g3 := Option.some.inj g3; subst g3)
      rw [g2] at g4; (replace g4 := (Option.some.inj g4).symm; subst g4)
      exact hne rfl
    · exact h.nd k m0 h0
  · rcases go k m hk with ⟨rfl, rfl⟩ | ⟨q, rfl, rfl⟩ | ⟨q, q2, m0, h0, rfl⟩
    · exact List.Perm.refl _
    · exact Bp.trans ((h.qk _ n hf).append_right _)
    · exact h.qk k m0 h0
  · rcases go k m hk with ⟨rfl, rfl⟩ | ⟨q, rfl, rfl⟩ | ⟨q, q2, m0, h0, rfl⟩
    · exact h.wt _ d hi
    · exact h.wt _ n hf
    · exact h.wt k m0 h0
theorem RkM.adoptX (h : RkM rk M) (F : Fam f M) {S : Int → Prop} [DecidablePred S] (hS : ∀ i n, M i = some n → S i → ∀ k ∈ n.kids, S k) (hSf : S f) (hSi : ¬ S i) (hi : M i = some d) (hf : M f = some n) (hne : f ≠ i) (hki : i ∉ d.kids) :
    ∃ rk', RkM rk' (adoptX M i f) := by
  have hkf : f ∉ d.kids := fun z => (F.dn i d hi f z).2.1 rfl
  (refine Mine.el_AA (adoptX_eqs hi hf hne hkf hki (fun k hk => let ⟨_, _, m, hm, _⟩ := F.dn i d hi k hk; ⟨m, hm⟩)) fun A zq0 C => ?_; refine Mine.el_EA zq0 fun q' B Bp => ?_; clear zq0)
  let g : Int → Nat := fun k => if k = f then rk i + rk f else if S k then rk k else if rk k < rk i then rk k + rk f else rk k + rk f + 1
  have g1 : ∀ k, k = f → g k = rk i + rk f := fun k z => if_pos z
  have g2 : ∀ k, k ≠ f → S k → g k = rk k := fun k z w => (if_neg z).trans (if_pos w)
  have g3 : ∀ k, k ≠ f → ¬ S k → g k = if rk k < rk i then rk k + rk f else rk k + rk f + 1 := fun k z w => (if_neg z).trans (if_neg w)
  refine ⟨g, fun k m hk z hz => ?_⟩
  have inner : ∀ m0, M k = some m0 → k ≠ f → z ∈ m0.kids → g z < g k := fun m0 h0 hkf hz => by
    have hzf : z ≠ f := (F.dn k m0 h0 z hz).2.1
    have hr := h k m0 h0 z hz
    by_cases w : S k
    · rw [g2 k hkf w, g2 z hzf (hS k m0 h0 w z hz)]; exact hr
    · rw [g3 k hkf w]
      by_cases w2 : S z
      · rw [g2 z hzf w2]; split <;> omega
      · rw [g3 z hzf w2]; split <;> split <;> omega
  by_cases q : k = i
  · subst q
    rw [A] at hk; (replace hk := Option.some.inj hk; subst hk)
    (have zq := ((List.mem_singleton.mp hz)).symm; subst zq)
    rw [g1 f rfl, g3 k (Ne.symm hne) hSi, if_neg (Nat.lt_irrefl _)]
    omega
  · by_cases q2 : k = f
    · subst q2
      rw [B] at hk; (replace hk := Option.some.inj hk; subst hk)
      rw [g1 k rfl]
      rcases List.mem_append.mp hz with hz | hz
      · have hzf : z ≠ k := (F.dn k n hf z hz).2.1
        rw [g2 z hzf (hS k n hf hSf z hz)]
        have := h k n hf z hz
        omega
      · have hzf : z ≠ k := (F.dn i d hi z hz).2.1
        have := h i d hi z hz
        by_cases w2 : S z
        · rw [g2 z hzf w2]; omega
        · rw [g3 z hzf w2, if_pos this]; omega
    · rw [C k q q2] at hk
      (refine Mine.el_EA (Option.map_eq_some_iff.mp hk) fun m0 h0 zq0 => ?_; (first | subst zq0 | cases zq0))
      exact inner m0 h0 q2 hz
end
end Mine
end
section
set_option linter.unusedVariables false
set_option Elab.async false
namespace Mine
theorem pushAll_perm : ∀ (q a : List (Int × Int)), (pushAll a q).Perm (a ++ q)
  | [], a => by rw [List.append_nil]; exact List.Perm.refl _
  | e :: q, a => by
    show (pushAll (ins e a) q).Perm _
    refine (pushAll_perm q _).trans ?_
    refine ((ins_perm e a).append_right q).trans ?_
    exact List.perm_middle.symm
theorem keepQ_snd (j : Int) : ∀ q : List (Int × Int), (keepQ j q).map (·.2) = (q.map (·.2)).filter fun k => decide (k ≠ j)
  | [] => rfl
  | e :: q => by
    rw [keepQ_cons, List.map_cons, List.filter_cons]
    by_cases h : e.2 = j
    · rw [if_pos h, if_neg (by simpa using h)]; exact keepQ_snd j q
    · rw [if_neg h, if_pos (by simpa using h), List.map_cons, keepQ_snd j q]
theorem erase_filter {j : Int} : ∀ {l : List Int}, l.Nodup → l.erase j = l.filter fun k => decide (k ≠ j)
  | [], _ => rfl
  | x :: r, h => by
    rw [List.filter_cons]
    have hr := (List.nodup_cons.mp h)
    by_cases q : x = j
    · subst q
      rw [List.erase_cons_head, if_neg (by simp)]
      refine (List.filter_eq_self.mpr fun a ha => ?_).symm
      have : a ≠ x := fun z => hr.1 (z ▸ ha)
      simpa using this
    · rw [List.erase_cons_tail (by simpa using q), if_pos (by simpa using q), erase_filter hr.2]
section
variable {f : Int} {M : Mo} {i j x : Int} {d n : Nd} {rk : Int → Nat}
theorem remv_far {k : Int} (h : k ≠ i) : remv M i j k = M k := by
  cases hi : M i with
  | none => rw [remv_none hi]
  | some d => rw [remv_eq hi]; exact Mo.put_ne h
theorem qk_remv (F : Fam f M) (hi : M i = some d) : ((pushAll [] (keepQ j d.q)).map (·.2)).Perm (d.kids.erase j) := by
  refine ((pushAll_perm _ _).map (·.2)).trans ?_
  rw [List.nil_append, keepQ_snd, erase_filter (F.nd i d hi)]
  exact (F.qk i d hi).filter _
theorem Fam.remv (h : Fam 0 M) (hj0 : j ≠ 0) (hi : M i = some d) (hj : M j = some n) (hp : n.par = some i) : Fam j (remv M i j) := by
  have A : Mine.remv M i j i = some { d with kids := d.kids.erase j, q := pushAll [] (keepQ j d.q) } := by rw [remv_eq hi]; exact Mo.put_self ..
  have C : ∀ k, k ≠ i → Mine.remv M i j k = M k := fun k => remv_far
  have go : ∀ k m, Mine.remv M i j k = some m → ∃ m0, M k = some m0 ∧ m.par = m0.par ∧ (∀ z ∈ m.kids, z ∈ m0.kids) ∧ m.wt = m0.wt ∧ m.df = m0.df := fun k m hk => by
    by_cases q : k = i
    · subst q; rw [A] at hk; (replace hk := Option.some.inj hk; subst hk); exact ⟨d, hi, rfl, fun z hz => List.mem_of_mem_erase hz, rfl, rfl⟩
    · exact ⟨m, (C k q).symm.trans hk, rfl, fun z hz => hz, rfl, rfl⟩
  have old : ∀ k m, M k = some m → ∃ m', Mine.remv M i j k = some m' ∧ m'.par = m.par ∧ m'.act = m.act ∧ (∀ z ∈ m.kids, z ≠ j → z ∈ m'.kids) := fun k m hk => by
    by_cases q : k = i
    · subst q; rw [hi] at hk; (replace hk := Option.some.inj hk; subst hk); exact ⟨_, A, rfl, rfl, fun z hz h2 => (List.mem_erase_of_ne h2).mpr hz⟩
    · exact ⟨m, (C k q).trans hk, rfl, rfl, fun z hz _ => hz⟩
  have hjk : j ∈ d.kids := h.kid hi hj hp hj0 hj0
  refine ⟨?_, fun k m hk a b => ?_, fun k m hk z hz => ?_, fun k m hk => ?_, fun k m hk => ?_, fun k m hk => ?_⟩
  · (refine Mine.el_EA h.root fun r a b => ?_)
    (refine Mine.el_EAAA (old 0 r a) fun r' c1 _ c3 _ => ?_)
    exact ⟨r', c1, c3.trans b⟩
  · (refine Mine.el_EAA (go k m hk) fun m0 h0 e _ => ?_)
    (refine Mine.el_EEAA (h.up k m0 h0 a a) fun p d' e1 e2 e3 => ?_)
    (refine Mine.el_EAAA (old p d' e2) fun d2 c1 _ _ c4 => ?_)
    exact ⟨p, d2, e.trans e1, c1, c4 k e3 b⟩
  · (refine Mine.el_EAAA (go k m hk) fun m0 h0 _ e _ => ?_)
    (refine Mine.el_AAEA (h.dn k m0 h0 z (e z hz)) fun a b y c1 c2 => ?_)
    (refine Mine.el_EAA (old z y c1) fun y' g1 g2 _ => ?_)
    refine ⟨a, fun w => ?_, y', g1, g2.trans c2⟩
    subst w
    rw [hj] at c1; (replace c1 := Option.some.inj c1; subst c1)
    rw [hp] at c2; (replace c2 := Option.some.inj c2; subst c2)
    rw [A] at hk; (replace hk := Option.some.inj hk; subst hk)
    rw [erase_filter (h.nd _ d hi)] at hz
    simp at hz
  · by_cases q : k = i
    · subst q; rw [A] at hk; (replace hk := Option.some.inj hk; subst hk); exact (h.nd _ d hi).erase j
    · rw [C k q] at hk; exact h.nd k m hk
  · by_cases q : k = i
    · subst q; rw [A] at hk; (replace hk := Option.some.inj hk; subst hk); exact qk_remv h hi
    · rw [C k q] at hk; exact h.qk k m hk
  · (refine Mine.el_EAAAA (go k m hk) fun m0 h0 _ _ e1 e2 => ?_)
    rw [e1, e2]; exact h.wt k m0 h0
theorem RkM.remv (h : RkM rk M) : RkM rk (remv M i j) := fun k m hk z hz => by
  by_cases q : k = i
  · subst q
    cases hi : M k with
    | none => rw [remv_none hi, hi] at hk; (exact Mine.no_ns hk)
    | some d => rw [remv_eq hi, Mo.put_self] at hk; (replace hk := Option.some.inj hk; subst hk); exact h k d hi z (List.mem_of_mem_erase hz)
  · rw [remv_far q] at hk; exact h k m hk z hz
theorem Fam.set (h : Fam f M) (hi : M i = some n) {m : Nd} (e1 : m.kids = n.kids) (e2 : m.par = n.par) (e3 : (m.q.map (·.2)).Perm (n.q.map (·.2))) (e4 : 1 ≤ m.wt ∧ m.wt ≤ 256 ∧ 0 ≤ m.df ∧ m.df < 256) (e5 : i = 0 → m.act = false) : Fam f (M.put i m) := by
  have go : ∀ k x, M.put i m k = some x → (k = i ∧ x = m) ∨ (k ≠ i ∧ M k = some x) := fun k x hk => by
    by_cases q : k = i
    · subst q; rw [Mo.put_self] at hk; (replace hk := Option.some.inj hk; subst hk); exact .inl ⟨rfl, rfl⟩
    · rw [Mo.put_ne q] at hk; exact .inr ⟨q, hk⟩
  have old : ∀ k x, M k = some x → ∃ x', M.put i m k = some x' ∧ x'.par = x.par ∧ x'.kids = x.kids := fun k x hk => by
    by_cases q : k = i
    · subst q; rw [hi] at hk; (replace hk := Option.some.inj hk; subst hk); exact ⟨m, Mo.put_self .., e2, e1⟩
    · exact ⟨x, (Mo.put_ne q).trans hk, rfl, rfl⟩
  have up : ∀ k x, M k = some x → k ≠ 0 → k ≠ f → ∃ p d, x.par = some p ∧ M.put i m p = some d ∧ k ∈ d.kids := fun k x hk a b => by
    (refine Mine.el_EEAA (h.up k x hk a b) fun p d g1 g2 g3 => ?_)
    (refine Mine.el_EAA (old p d g2) fun d' c1 _ c3 => ?_)
    exact ⟨p, d', g1, c1, c3 ▸ g3⟩
  have dn : ∀ k x, M k = some x → ∀ z ∈ x.kids, z ≠ 0 ∧ z ≠ f ∧ ∃ y, M.put i m z = some y ∧ y.par = some k := fun k x hk z hz => by
    (refine Mine.el_AAEA (h.dn k x hk z hz) fun a b y c1 c2 => ?_)
    (refine Mine.el_EAA (old z y c1) fun y' g1 g2 _ => ?_)
    exact ⟨a, b, y', g1, g2.trans c2⟩
  refine ⟨?_, fun k x hk a b => ?_, fun k x hk => ?_, fun k x hk => ?_, fun k x hk => ?_, fun k x hk => ?_⟩
  · (refine Mine.el_EA h.root fun r a b => ?_)
    by_cases q : (0 : Int) = i
    · exact ⟨m, by rw [q]; exact Mo.put_self .., e5 q.symm⟩
    · exact ⟨r, (Mo.put_ne q).trans a, b⟩
  · rcases go k x hk with ⟨rfl, rfl⟩ | ⟨q, hk⟩
    · rw [e2]; exact up k n hi a b
    · exact up k x hk a b
  · rcases go k x hk with ⟨rfl, rfl⟩ | ⟨q, hk⟩
    · rw [e1]; exact dn k n hi
    · exact dn k x hk
  · rcases go k x hk with ⟨rfl, rfl⟩ | ⟨q, hk⟩
    · rw [e1]; exact h.nd k n hi
    · exact h.nd k x hk
  · rcases go k x hk with ⟨rfl, rfl⟩ | ⟨q, hk⟩
    · rw [e1]; exact e3.trans (h.qk k n hi)
    · exact h.qk k x hk
  · rcases go k x hk with ⟨rfl, rfl⟩ | ⟨q, hk⟩
    · exact e4
    · exact h.wt k x hk
theorem RkM.set (h : RkM rk M) (hi : M i = some n) {m : Nd} (e1 : m.kids = n.kids) : RkM rk (M.put i m) := fun k x hk z hz => by
  by_cases q : k = i
  · subst q; rw [Mo.put_self] at hk; (replace hk := Option.some.inj hk; subst hk); rw [e1] at hz; exact h k n hi z hz
  · rw [Mo.put_ne q] at hk; exact h k x hk z hz
theorem Fam.actv (h : Fam f M) (hi0 : i ≠ 0) {b : Bool} : Fam f (actv M i b) := by
  cases hi : M i with
  | none => unfold Mine.actv; rw [hi]; exact h
  | some n => rw [actv_eq hi]; exact h.set (m := { n with act := b }) hi rfl rfl (List.Perm.refl _) (h.wt i n hi) fun z => absurd z hi0
theorem RkM.actv (h : RkM rk M) {b : Bool} : RkM rk (actv M i b) := by
  cases hi : M i with
  | none => unfold Mine.actv; rw [hi]; exact h
  | some n => rw [actv_eq hi]; exact h.set (m := { n with act := b }) hi rfl
theorem Fam.setw (h : Fam f M) {w : Int} (hi0 : i ≠ 0) (h1 : 1 ≤ w) (h2 : w ≤ 256) : Fam f (setw M i w) := by
  cases hi : M i with
  | none => unfold Mine.setw; rw [hi]; exact h
  | some n => rw [setw_eq hi]; exact h.set (m := { n with wt := w }) hi rfl rfl (List.Perm.refl _) ⟨h1, h2, (h.wt i n hi).2.2⟩ fun z => absurd z hi0
theorem RkM.setw (h : RkM rk M) {w : Int} : RkM rk (setw M i w) := by
  cases hi : M i with
  | none => unfold Mine.setw; rw [hi]; exact h
  | some n => rw [setw_eq hi]; exact h.set (m := { n with wt := w }) hi rfl
end
end Mine
end
section
set_option linter.unusedVariables false
set_option Elab.async false
namespace Mine
section
variable {f : Int} {M : Mo} {i j x p : Int} {d n : Nd} {rk : Int → Nat}
theorem Fam.mem_kids (h : Fam f M) (hi : M i = some d) {k : Int} : k ∈ d.kids ↔ k ≠ 0 ∧ k ≠ f ∧ parOf M k = some i := by
  constructor
  · intro hk
    (refine Mine.el_AAEA (h.dn i d hi k hk) fun a b m c e => ?_)
    exact ⟨a, b, by rw [parOf_eq c, e]⟩
  · rintro ⟨a, b, c⟩
    cases hm : M k with
    | none => unfold parOf at c; rw [hm] at c; (exact Mine.no_ns c)
    | some m => rw [parOf_eq hm] at c; exact h.kid hi hm c a b
theorem rmc_del (F : Fam 0 M) (R : RkM rk M) (hx0 : x ≠ 0) (hx : M x = some n) (hp : n.par = some p) (hd : M p = some d) :
    p ≠ x ∧ (∃ q', ((rmc M p x true).del x) p = some { d with kids := d.kids.erase x ++ n.kids, q := q' } ∧ (q'.map (·.2)).Perm (d.kids.erase x ++ n.kids)) ∧ ((rmc M p x true).del x) x = none ∧
    ∀ k, k ≠ x → k ≠ p → ((rmc M p x true).del x) k = (M k).map fun m => { m with par := if k ∈ n.kids then some p else m.par } := by
  have hxd : x ∈ d.kids := F.kid hd hx hp hx0 hx0
  have r1 := R p d hd x hxd
  have hpx : p ≠ x := fun z => by rw [z] at r1; exact Nat.lt_irrefl _ r1
  have A : remv M p x p = some { d with kids := d.kids.erase x, q := pushAll [] (keepQ x d.q) } := by rw [remv_eq hd]; exact Mo.put_self ..
  have hk : ∀ k ∈ n.kids, k ≠ p ∧ ∃ m, remv M p x k = some m := fun k hk => by
    have r2 := R x n hx k hk
    (refine Mine.el_AAEA (F.dn x n hx k hk) fun _ _ m hm _ => ?_)
    exact ⟨fun z => by rw [z] at r2; omega, (Same.remv M p x k).mp ⟨m, hm⟩⟩
  have eM : rmc M p x true = adopts (remv M p x) p n.kids := by unfold rmc; rw [if_pos rfl, kidsOf_eq hx]
  have D : ∀ k, k ≠ x → (rmc M p x true).del x k = adopts (remv M p x) p n.kids k := fun k h => by rw [eM]; exact if_neg h
  refine ⟨hpx, ?_, if_pos rfl, fun k h1 h2 => ?_⟩
  · (refine Mine.el_EAAA (adopts_at n.kids A hk) fun q' e1 _ e3 _ => ?_)
    rw [D p hpx]
    exact ⟨q', e1, e3.trans ((qk_remv F hd).append_right _)⟩
  · rw [D k h1]
    cases hm : M k with
    | none =>
      cases z : adopts (remv M p x) p n.kids k with
      | none => rfl
      | some y =>
        (refine Mine.el_E (((Same.remv M p x).trans (Same.adopts n.kids _ p) k).mpr ⟨y, z⟩) fun y' hy => ?_)
        rw [hm] at hy; (exact Mine.no_ns hy)
    | some m => rw [adopts_other n.kids A ((remv_far h2).trans hm) h2 hk]; rfl
theorem Fam.gone (F : Fam 0 M) (R : RkM rk M) (hx0 : x ≠ 0) (hx : M x = some n) (hp : n.par = some p) (hd : M p = some d) : Fam 0 ((rmc M p x true).del x) ∧ RkM rk ((rmc M p x true).del x) := by
  (refine Mine.el_AAA (rmc_del F R hx0 hx hp hd) fun hpx zq0 B C => ?_; refine Mine.el_EA zq0 fun q' A Ap => ?_; clear zq0)
  have hxd : x ∈ d.kids := F.kid hd hx hp hx0 hx0
  generalize (rmc M p x true).del x = N at A B C
  have hpk : p ∉ n.kids := fun z => by have := R x n hx p z; have := R p d hd x hxd; omega
  have go : ∀ k m, N k = some m → k ≠ x ∧ ((k = p ∧ m = { d with kids := d.kids.erase x ++ n.kids, q := q' }) ∨ (k ≠ p ∧ ∃ m0, M k = some m0 ∧ m = { m0 with par := if k ∈ n.kids then some p else m0.par })) := fun k m hk => by
    have q0 : k ≠ x := fun z => by rw [z, B] at hk; (exact Mine.no_ns hk)
    by_cases q : k = p
    · subst q; rw [A] at hk; (replace hk := Option.some.inj hk; subst hk); exact ⟨q0, .inl ⟨rfl, rfl⟩⟩
    · rw [C k q0 q] at hk
      (refine Mine.el_EA (Option.map_eq_some_iff.mp hk) fun m0 h0 zq0 => ?_; (first | subst zq0 | cases zq0))
      exact ⟨q0, .inr ⟨q, m0, h0, rfl⟩⟩
  have old : ∀ k m, M k = some m → k ≠ x → ∃ m', N k = some m' ∧ m'.par = (if k ∈ n.kids then some p else m.par) ∧ m'.act = m.act ∧ (∀ z ∈ m.kids, z ≠ x → z ∈ m'.kids) := fun k m hk q0 => by
    by_cases q : k = p
    · subst q; rw [hd] at hk; (replace hk := Option.some.inj hk; subst hk)
      exact ⟨_, A, by rw [if_neg hpk], rfl, fun z hz h2 => List.mem_append_left _ ((List.mem_erase_of_ne h2).mpr hz)⟩
    · exact ⟨{ m with par := if k ∈ n.kids then some p else m.par }, by rw [C k q0 q, hk]; rfl, rfl, rfl, fun z hz _ => hz⟩
  have kid : ∀ k m, M k = some m → k ≠ x → ∀ z ∈ m.kids, z ≠ x → z ≠ 0 ∧ z ≠ 0 ∧ ∃ m', N z = some m' ∧ m'.par = some k := fun k m hk hkx z hz hzx => by
    (refine Mine.el_AAEA (F.dn k m hk z hz) fun a b y c e => ?_)
    (refine Mine.el_EAA (old z y c hzx) fun y' c1 c2 _ => ?_)
    refine ⟨a, a, y', c1, ?_⟩
    rw [c2, if_neg (fun w => ?_)]
    · exact e
    · (refine Mine.el_AAEA (F.dn x n hx z w) fun _ _ y2 g1 g2 => ?_)
      rw [c] at g1; (replace g1 := Option.some.inj g1; subst g1)
      rw [e] at g2; (replace g2 := (Option.some.inj g2).symm; subst g2)
      exact hkx rfl
  have nox : ∀ k m, M k = some m → k ≠ p → ∀ z ∈ m.kids, z ≠ x := fun k m hk h1 z hz w => by
    subst w
    (refine Mine.el_AAEA (F.dn k m hk z hz) fun _ _ y c e => ?_)
    rw [hx] at c; (replace c := Option.some.inj c; subst c)
    rw [hp] at e; (replace e := Option.some.inj e; subst e)
    exact h1 rfl
  have er : ∀ z ∈ d.kids.erase x, z ∈ d.kids ∧ z ≠ x := fun z hz => by
    rw [erase_filter (F.nd p d hd)] at hz
    have := List.mem_filter.mp hz
    exact ⟨this.1, by simpa using this.2⟩
  refine ⟨⟨?_, fun k m hk a b => ?_, fun k m hk z hz => ?_, fun k m hk => ?_, fun k m hk => ?_, fun k m hk => ?_⟩, fun k m hk z hz => ?_⟩
  · (refine Mine.el_EA F.root fun r a b => ?_)
    (refine Mine.el_EAAA (old 0 r a (Ne.symm hx0)) fun r' c1 _ c3 _ => ?_)
    exact ⟨r', c1, c3.trans b⟩
  · (refine Mine.el_A (go k m hk) fun q0 h => ?_)
    have hm0 : ∃ m0, M k = some m0 ∧ m.par = (if k ∈ n.kids then some p else m0.par) := by
      rcases h with ⟨rfl, rfl⟩ | ⟨q, m0, h0, rfl⟩
      · exact ⟨d, hd, by rw [if_neg hpk]⟩
      · exact ⟨m0, h0, rfl⟩
    (refine Mine.el_EA hm0 fun m0 h0 e => ?_; (try clear hm0))
    by_cases w : k ∈ n.kids
    · rw [if_pos w] at e
      exact ⟨p, _, e, A, List.mem_append_right _ w⟩
    · rw [if_neg w] at e
      (refine Mine.el_EEAA (F.up k m0 h0 a a) fun p2 d' e1 e2 e3 => ?_)
      have hp2 : p2 ≠ x := fun z => by rw [z, hx] at e2; (replace e2 := Option.some.inj e2; subst e2); exact w e3
      (refine Mine.el_EAAA (old p2 d' e2 hp2) fun d2 c1 _ _ c4 => ?_)
      exact ⟨p2, d2, e.trans e1, c1, c4 k e3 q0⟩
  · obtain ⟨q0, ⟨rfl, rfl⟩ | ⟨q, m0, h0, rfl⟩⟩ := go k m hk
    · rcases List.mem_append.mp hz with hz | hz
      · exact kid k d hd q0 z (er z hz).1 (er z hz).2
      · (refine Mine.el_AAEA (F.dn x n hx z hz) fun a b y c e => ?_)
        have hzx : z ≠ x := fun w => by rw [w] at hz; exact Nat.lt_irrefl _ (R x n hx x hz)
        (refine Mine.el_EAA (old z y c hzx) fun y' c1 c2 _ => ?_)
        exact ⟨a, a, y', c1, by rw [c2, if_pos hz]⟩
    · exact kid k m0 h0 q0 z hz (nox k m0 h0 q z hz)
  · obtain ⟨q0, ⟨rfl, rfl⟩ | ⟨q, m0, h0, rfl⟩⟩ := go k m hk
    · rw [List.nodup_append]
      refine ⟨(F.nd k d hd).erase x, F.nd x n hx, fun a ha b hb z => ?_⟩
      subst z
      (refine Mine.el_AAEA (F.dn k d hd a (er a ha).1) fun _ _ y1 g1 g2 => ?_)
      (refine Mine.el_AAEA (F.dn x n hx a hb) fun _ _ y2 g3 g4 => ?_)
      rw [g1] at g3; (replace g3 := Option.some.inj g3; subst g3)
      rw [g2] at g4; (replace g4 := (Option.some.inj g4).symm; subst g4)
      exact hpx rfl
    · exact F.nd k m0 h0
  · obtain ⟨q0, ⟨rfl, rfl⟩ | ⟨q, m0, h0, rfl⟩⟩ := go k m hk
    · exact Ap
    · exact F.qk k m0 h0
  · obtain ⟨q0, ⟨rfl, rfl⟩ | ⟨q, m0, h0, rfl⟩⟩ := go k m hk
    · exact F.wt k d hd
    · exact F.wt k m0 h0
  · obtain ⟨q0, ⟨rfl, rfl⟩ | ⟨q, m0, h0, rfl⟩⟩ := go k m hk
    · rcases List.mem_append.mp hz with hz | hz
      · exact R k d hd z (er z hz).1
      · have := R x n hx z hz
        have := R k d hd x hxd
        omega
    · exact R k m0 h0 z hz
theorem parOf_gone (F : Fam 0 M) (R : RkM rk M) (hx0 : x ≠ 0) (hx : M x = some n) (hp : n.par = some p) (hd : M p = some d) (k : Int) (hk0 : k ≠ 0) :
    parOf ((rmc M p x true).del x) k = if k = x then none else if parOf M k = some x then some p else parOf M k := by
  (refine Mine.el_AAA (rmc_del F R hx0 hx hp hd) fun hpx zq0 B C => ?_; refine Mine.el_EA zq0 fun q' A Ap => ?_; clear zq0)
  have hxd : x ∈ d.kids := F.kid hd hx hp hx0 hx0
  have hpk : p ∉ n.kids := fun z => by have := R x n hx p z; have := R p d hd x hxd; omega
  have hmk : ∀ k, k ≠ 0 → (k ∈ n.kids ↔ parOf M k = some x) := fun k hk => (F.mem_kids hx).trans ⟨fun h => h.2.2, fun h => ⟨hk, hk, h⟩⟩
  by_cases q : k = x
  · subst q; rw [if_pos rfl]; unfold parOf; rw [B]; rfl
  · rw [if_neg q]
    by_cases q2 : k = p
    · subst q2
      rw [parOf_eq A, parOf_eq hd]
      rw [if_neg (fun w => hpk ((hmk k hk0).mpr (by rw [parOf_eq hd]; exact w)))]
    · unfold parOf
      rw [C k q q2]
      cases hm : M k with
      | none => rw [if_neg (by intro z; (exact Mine.no_ns z))]; rfl
      | some m =>
        have := hmk k hk0
        rw [parOf_eq hm] at this
        show (if k ∈ n.kids then some p else m.par) = if m.par = some x then some p else m.par
        by_cases w : k ∈ n.kids
        · rw [if_pos w, if_pos (this.mp w)]
        · rw [if_neg w, if_neg (fun z => w (this.mpr z))]
end
end Mine
end
section
set_option linter.unusedVariables false
set_option Elab.async false
namespace Mine
structure Kx (i : Int) (pp : List (Int × Int)) (M M' : Mo) : Prop where
  fw : ∀ j n, M j = some n → ∃ n', M' j = some n' ∧ n'.wt = n.wt ∧ n'.kids = n.kids ∧ n'.par = n.par ∧ n'.act = n.act ∧ (n'.q.map (·.2) ++ if j = i then pp.map (·.2) else []).Perm (n.q.map (·.2))
  bw : ∀ j n, M' j = some n → ∃ n', M j = some n'
structure Kin (M M' : Mo) : Prop where
  fw : ∀ j n, M j = some n → ∃ n', M' j = some n' ∧ n'.wt = n.wt ∧ n'.kids = n.kids ∧ n'.par = n.par ∧ n'.act = n.act ∧ (n'.q.map (·.2)).Perm (n.q.map (·.2))
  bw : ∀ j n, M' j = some n → ∃ n', M j = some n'
section
variable {rk : Int → Nat} {M M' M0 : Mo} {i : Int} {pp r : List (Int × Int)} {e : Int × Int} {d n : Nd}
theorem Kx.start (M : Mo) (i : Int) : Kx i [] M M := ⟨fun j n h => ⟨n, h, rfl, rfl, rfl, rfl, by simp⟩, fun j n h => ⟨n, h⟩⟩
theorem Kx.stop (h : Kx i [] M M') : Kin M M' := ⟨fun j n hj => by
  (refine Mine.el_EAAAAA (h.fw j n hj) fun n' a b c d e p => ?_)
  exact ⟨n', a, b, c, d, e, by simpa using p⟩, h.bw⟩
theorem Kx.kin (h : Kx i pp M0 M) (k : Kin M M') : Kx i pp M0 M' := ⟨fun j n hj => by
  (refine Mine.el_EAAAAA (h.fw j n hj) fun n' a b c d e p => ?_)
  (refine Mine.el_EAAAAA (k.fw j n' a) fun n2 a2 b2 c2 d2 e2 p2 => ?_)
  exact ⟨n2, a2, b2.trans b, c2.trans c, d2.trans d, e2.trans e, (p2.append_right _).trans p⟩, fun j n hj => by
  (refine Mine.el_E (k.bw j n hj) fun n' h' => ?_)
  exact h.bw j n' h'⟩
theorem Kx.pop (h : Kx i pp M0 M) (hi : M i = some d) (hq : d.q = e :: r) : Kx i (pp ++ [e]) M0 (M.put i { d with q := r }) := ⟨fun j n hj => by
  (refine Mine.el_EAAAAA (h.fw j n hj) fun n' a b c dd ee p => ?_)
  by_cases q : j = i
  · subst q
    rw [hi] at a; (replace a := Option.some.inj a; subst a)
    refine ⟨_, Mo.put_self .., b, c, dd, ee, ?_⟩
    rw [if_pos rfl] at p ⊢
    refine List.Perm.trans ?_ p
    rw [hq, List.map_append, List.map_cons, List.map_cons, List.map_nil, ← List.append_assoc]
    exact (List.perm_append_singleton _ _)
  · refine ⟨n', (Mo.put_ne q).trans a, b, c, dd, ee, ?_⟩
    rw [if_neg q] at p ⊢; exact p, fun j n hj => by
  by_cases q : j = i
  · subst q; exact h.bw _ _ hi
  · rw [Mo.put_ne q] at hj; exact h.bw j n hj⟩
theorem Kx.fstep (h : Kx i (e :: pp) M0 M) (hi : M i = some d) (he : M e.2 = some n) (hne : e.2 ≠ i) : Kx i pp M0 (fstep i M e) := by
  rw [fstep_eq hi he]
  refine ⟨fun j m hj => ?_, fun j m hj => ?_⟩
  · (refine Mine.el_EAAAAA (h.fw j m hj) fun n' a b c dd ee p => ?_)
    by_cases q : j = i
    · subst q
      rw [hi] at a; (replace a := Option.some.inj a; subst a)
      refine ⟨_, Mo.put_self .., b, c, dd, ee, ?_⟩
      rw [if_pos rfl] at p ⊢
      refine List.Perm.trans ((ins_perm2 _ _).append_right _) ?_
      rw [List.append_assoc, List.singleton_append]
      exact p
    · rw [if_neg q] at p
      by_cases q2 : j = e.2
      · subst q2
        rw [he] at a; (replace a := Option.some.inj a; subst a)
        exact ⟨_, (Mo.put_ne q).trans (Mo.put_self ..), b, c, dd, ee, by rw [if_neg q]; exact p⟩
      · exact ⟨n', (Mo.put_ne q).trans ((Mo.put_ne q2).trans a), b, c, dd, ee, by rw [if_neg q]; exact p⟩
  · by_cases q : j = i
    · subst q; exact h.bw _ _ hi
    · rw [Mo.put_ne q] at hj
      by_cases q2 : j = e.2
      · subst q2; exact h.bw _ _ he
      · rw [Mo.put_ne q2] at hj; exact h.bw j m hj
theorem Kx.fin : ∀ {pp : List (Int × Int)} {M : Mo}, Kx i pp M0 M → (∃ d, M i = some d) → (∀ e ∈ pp, e.2 ≠ i ∧ ∃ m, M e.2 = some m) → Kin M0 (fin i pp M)
  | [], M, h, _, _ => h.stop
  | e :: pp, M, h, ⟨d, hi⟩, hp => by
    (refine Mine.el_AE (hp e (.head _)) fun hne n he => ?_)
    show Kin M0 (Mine.fin i pp (Mine.fstep i M e))
    have sm : ∀ j, (∃ m, M j = some m) → ∃ m, Mine.fstep i M e j = some m := fun j hj => by
      rw [fstep_eq hi he]; exact put_ex (put_ex hj)
    exact Kx.fin (h.fstep hi he hne) (sm i ⟨d, hi⟩) fun x hx => ⟨(hp x (.tail _ hx)).1, sm _ (hp x (.tail _ hx)).2⟩
theorem goL_kx {f : Mo → Int → Option Int × Mo} (hf : ∀ M ch, OkM rk M → (∃ m, M ch = some m) → rk ch < rk i → Kin M (f M ch).2 ∧ Res rk ch M (f M ch).2) :
    ∀ (es : List (Int × Int)) {M : Mo} {pp : List (Int × Int)} {d : Nd}, OkM rk M → M i = some d → d.q = es → Kx i pp M0 M → (∀ e ∈ pp, rk e.2 < rk i) →
    Kx i (goL f i es M pp).2.2 M0 (goL f i es M pp).2.1 ∧ (∃ d, (goL f i es M pp).2.1 i = some d) ∧ ∀ e ∈ (goL f i es M pp).2.2, rk e.2 < rk i
  | [], M, pp, d, ok, hi, hq, K, hp => ⟨K, ⟨d, hi⟩, hp⟩
  | e :: r, M, pp, d, ok, hi, hq, K, hp => by
    (refine Mine.el_A ((ok.ok i d hi).2.2.2.2.2 e (by rw [hq]; exact .head _)) fun zq0 hr => ?_; refine Mine.el_E zq0 fun n hn => ?_; clear zq0)
    have hp2 : ∀ x ∈ pp ++ [e], rk x.2 < rk i := fun x hx => by
      rcases List.mem_append.mp hx with hx | hx
      · exact hp x hx
      · (have zq := ((List.mem_singleton.mp hx)).symm; subst zq); exact hr
    have K2 := K.pop hi hq
    have RP := Res.pop ok hi hq
    cases ha : n.act with
    | true => rw [goL_act hi hn ha]; exact ⟨K2, ⟨_, Mo.put_self ..⟩, hp2⟩
    | false =>
      have hne : e.2 ≠ i := fun z => by rw [z] at hr; exact Nat.lt_irrefl _ hr
      (refine Mine.el_A (hf (M.put i { d with q := r }) e.2 RP.ok ⟨n, (Mo.put_ne hne).trans hn⟩ hr) fun k1 k2 => ?_)
      have hii : (f (M.put i { d with q := r }) e.2).2 i = some { d with q := r } := (k2.far i hr).trans (Mo.put_self ..)
      cases hz : (f (M.put i { d with q := r }) e.2).1 with
      | some x =>
        have hs : f (M.put i { d with q := r }) e.2 = (some x, (f (M.put i { d with q := r }) e.2).2) := by rw [← hz]
        rw [goL_some hi hn ha hs]
        exact ⟨K2.kin k1, ⟨_, hii⟩, hp2⟩
      | none =>
        have hs : f (M.put i { d with q := r }) e.2 = (none, (f (M.put i { d with q := r }) e.2).2) := by rw [← hz]
        rw [goL_none hi hn ha hs]
        exact goL_kx hf r k2.ok hii rfl (K2.kin k1) hp2
theorem Kin.sched : ∀ (n : Nat) {M : Mo} {i : Int}, OkM rk M → (∃ m, M i = some m) → rk i < n → Kin M (Mine.sched n M i).2
  | 0, M, i, ok, hi, hr => by omega
  | n + 1, M, i, ok, hi, hr => by
    (refine Mine.el_E hi fun d hi => ?_)
    have g := goL_kx (M0 := M) (i := i) (f := Mine.sched n) (fun M ch o h r => ⟨Kin.sched n o h (by first | decide | omega), Res.sched n o h (by first | decide | omega)⟩) d.q ok hi rfl (Kx.start M i) (fun e he => by cases he)
    have e1 : Mine.sched (n + 1) M i = ((goL (Mine.sched n) i d.q M []).1, Mine.fin i (goL (Mine.sched n) i d.q M []).2.2 (goL (Mine.sched n) i d.q M []).2.1) := sched_eq n hi rfl
    rw [e1]
    have fw := g.1.fw
    refine Kx.fin g.1 g.2.1 fun e he => ⟨fun z => by have := g.2.2 e he; rw [z] at this; exact Nat.lt_irrefl _ this, ?_⟩
    have hm : e.2 ∈ d.q.map (·.2) := by
      (refine Mine.el_EAAAAA (fw i d hi) fun n' _ _ _ _ _ p => ?_)
      rw [if_pos rfl] at p
      exact p.mem_iff.mp (List.mem_append_right _ (List.mem_map.mpr ⟨e, he, rfl⟩))
    (refine Mine.el_EA (List.mem_map.mp hm) fun e0 h0 h1 => ?_)
    (refine Mine.el_A ((ok.ok i d hi).2.2.2.2.2 e0 h0) fun zq0 _ => ?_; refine Mine.el_E zq0 fun m hm => ?_; clear zq0)
    rw [h1] at hm
    (refine Mine.el_EA (fw e.2 m hm) fun m' h' _ => ?_)
    exact ⟨m', h'⟩
inductive Dsn (M : Mo) : Int → Int → Prop
  | here {i x : Int} {d n : Nd} : M i = some d → x ∈ d.kids → M x = some n → n.act = true → Dsn M i x
  | down {i k x : Int} {d n : Nd} : M i = some d → k ∈ d.kids → M k = some n → n.act = false → Dsn M k x → Dsn M i x
theorem Dsn.like {x : Int} (l : Like M M') (h : Dsn M i x) : Dsn M' i x := by
  induction h with
  | here a b c e =>
    (refine Mine.el_EAAA (l.fw _ _ a) fun d' h1 _ h3 _ => ?_)
    (refine Mine.el_EAAAA (l.fw _ _ c) fun n' g1 _ _ _ g5 => ?_)
    exact .here h1 (h3 ▸ b) g1 (g5.trans e)
  | down a b c e _ ih =>
    (refine Mine.el_EAAA (l.fw _ _ a) fun d' h1 _ h3 _ => ?_)
    (refine Mine.el_EAAAA (l.fw _ _ c) fun n' g1 _ _ _ g5 => ?_)
    exact .down h1 (h3 ▸ b) g1 (g5.trans e) ih
theorem Like.symm (l : Like M M') : Like M' M := ⟨fun j n hj => by
  (refine Mine.el_E (l.bw j n hj) fun n' h' => ?_)
  (refine Mine.el_EAAAA (l.fw j n' h') fun n2 a b c d e => ?_)
  rw [hj] at a; (replace a := Option.some.inj a; subst a)
  exact ⟨n', h', b.symm, c.symm, d.symm, e.symm⟩, fun j n hj => let ⟨n', a, _⟩ := l.fw j n hj; ⟨n', a⟩⟩
noncomputable def Tell (M : Mo) (k x : Int) : Prop := ∃ n, M k = some n ∧ ((n.act = true ∧ x = k) ∨ (n.act = false ∧ Dsn M k x))
noncomputable def Mute (M : Mo) (k : Int) : Prop := ∃ n, M k = some n ∧ n.act = false ∧ ∀ x, ¬ Dsn M k x
theorem goL_told {f : Mo → Int → Option Int × Mo} (hf : ∀ M ch, OkM rk M → (∀ j m, M j = some m → rk j ≤ rk ch → (m.q.map (·.2)).Perm m.kids) → (∃ m, M ch = some m) → rk ch < rk i →
      Kin M (f M ch).2 ∧ Res rk ch M (f M ch).2 ∧ (∀ x, (f M ch).1 = some x → Dsn M ch x) ∧ ((f M ch).1 = none → ∀ x, ¬ Dsn M ch x)) :
    ∀ (es : List (Int × Int)) {M : Mo} {pp : List (Int × Int)} {d : Nd}, OkM rk M → (∀ j m, M j = some m → rk j < rk i → (m.q.map (·.2)).Perm m.kids) → M i = some d → d.q = es → Like M0 M →
    (∀ x, (goL f i es M pp).1 = some x → ∃ e ∈ es, Tell M0 e.2 x) ∧ ((goL f i es M pp).1 = none → ∀ e ∈ es, Mute M0 e.2)
  | [], M, pp, d, ok, qk, hi, hq, K => ⟨fun x h => (by (exact Mine.no_ns h)), fun _ e he => (by cases he)⟩
  | e :: r, M, pp, d, ok, qk, hi, hq, K => by
    (refine Mine.el_A ((ok.ok i d hi).2.2.2.2.2 e (by rw [hq]; exact .head _)) fun zq0 hr => ?_; refine Mine.el_E zq0 fun n hn => ?_; clear zq0)
    have RP := Res.pop ok hi hq
    (refine Mine.el_E (K.bw _ _ hn) fun n0 hn0 => ?_)
    (refine Mine.el_EAAAA (K.fw _ _ hn0) fun n1 h1 _ _ _ h5 => ?_)
    rw [hn] at h1; (replace h1 := Option.some.inj h1; subst h1)
    cases ha : n.act with
    | true =>
      rw [goL_act hi hn ha]
      exact ⟨fun x h => ⟨e, .head _, n0, hn0, .inl ⟨h5.symm.trans ha, by (replace h := Option.some.inj h; subst h); rfl⟩⟩, fun h => by (exact Mine.no_sn h)⟩
    | false =>
      have hne : e.2 ≠ i := fun z => by rw [z] at hr; exact Nat.lt_irrefl _ hr
      have qk1 : ∀ j m, (M.put i { d with q := r }) j = some m → rk j < rk i → (m.q.map (·.2)).Perm m.kids := fun j m hj h => by
        have : j ≠ i := fun z => by rw [z] at h; exact Nat.lt_irrefl _ h
        rw [Mo.put_ne this] at hj; exact qk j m hj h
      (refine Mine.el_AAA (hf (M.put i { d with q := r }) e.2 RP.ok (fun j m hj h => qk1 j m hj (by first | decide | omega)) ⟨n, (Mo.put_ne hne).trans hn⟩ hr) fun k1 k2 k3 k4 => ?_)
      have hii : (f (M.put i { d with q := r }) e.2).2 i = some { d with q := r } := (k2.far i hr).trans (Mo.put_self ..)
      have L1 : Like M0 (M.put i { d with q := r }) := K.trans RP.like
      cases hz : (f (M.put i { d with q := r }) e.2).1 with
      | some x =>
        have hs : f (M.put i { d with q := r }) e.2 = (some x, (f (M.put i { d with q := r }) e.2).2) := by rw [← hz]
        rw [goL_some hi hn ha hs]
        refine ⟨fun y h => ?_, fun h => by (exact Mine.no_sn h)⟩
        (replace h := Option.some.inj h; subst h)
        exact ⟨e, .head _, n0, hn0, .inr ⟨h5.symm.trans ha, (k3 _ hz).like L1.symm⟩⟩
      | none =>
        have hs : f (M.put i { d with q := r }) e.2 = (none, (f (M.put i { d with q := r }) e.2).2) := by rw [← hz]
        rw [goL_none hi hn ha hs]
        have qk2 : ∀ j m, (f (M.put i { d with q := r }) e.2).2 j = some m → rk j < rk i → (m.q.map (·.2)).Perm m.kids := fun j m hj h => by
          (refine Mine.el_E (k1.bw j m hj) fun m0 h0 => ?_)
          (refine Mine.el_EAAAAA (k1.fw j m0 h0) fun m1 a _ c _ _ p => ?_)
          rw [hj] at a; (replace a := Option.some.inj a; subst a)
          rw [c]; exact p.trans (qk1 j m0 h0 h)
        (refine Mine.el_A (goL_told hf r (pp := pp ++ [e]) k2.ok qk2 hii rfl (L1.trans k2.like)) fun g1 g2 => ?_)
        refine ⟨fun x h => ?_, fun h x hx => ?_⟩
        · (refine Mine.el_EA (g1 x h) fun e' h1 h2 => ?_)
          exact ⟨e', .tail _ h1, h2⟩
        · rcases List.mem_cons.mp hx with rfl | hx
          · exact ⟨n0, hn0, h5.symm.trans ha, fun y hy => k4 hz y (hy.like L1)⟩
          · exact g2 h x hx
theorem sched_told : ∀ (n : Nat) {M : Mo} {i : Int}, OkM rk M → (∀ j m, M j = some m → rk j ≤ rk i → (m.q.map (·.2)).Perm m.kids) → (∃ m, M i = some m) → rk i < n →
    (∀ x, (Mine.sched n M i).1 = some x → Dsn M i x) ∧ ((Mine.sched n M i).1 = none → ∀ x, ¬ Dsn M i x)
  | 0, M, i, ok, qk, hi, hr => by omega
  | n + 1, M, i, ok, qk, hi, hr => by
    (refine Mine.el_E hi fun d hi => ?_)
    (refine Mine.el_A (goL_told (M0 := M) (i := i) (f := Mine.sched n) (fun M ch o q h r => ⟨Kin.sched n o h (by first | decide | omega), Res.sched n o h (by first | decide | omega), sched_told n o q h (by first | decide | omega)⟩) d.q (pp := []) ok (fun j m hj h => qk j m hj (by first | decide | omega)) hi rfl (Like.refl M)) fun g1 g2 => ?_)
    have e1 : Mine.sched (n + 1) M i = ((goL (Mine.sched n) i d.q M []).1, Mine.fin i (goL (Mine.sched n) i d.q M []).2.2 (goL (Mine.sched n) i d.q M []).2.1) := sched_eq n hi rfl
    have pk := qk i d hi (Nat.le_refl _)
    rw [e1]
    refine ⟨fun x h => ?_, fun h x hx => ?_⟩
    · (refine Mine.el_EAEA (g1 x h) fun e he nk hk t => ?_)
      have hm : e.2 ∈ d.kids := pk.mem_iff.mp (List.mem_map.mpr ⟨e, he, rfl⟩)
      rcases t with ⟨a, rfl⟩ | ⟨a, b⟩
      · exact .here hi hm hk a
      · exact .down hi hm hk a b
    · have key : ∀ k ∈ d.kids, Mute M k := fun k hk => by
        (refine Mine.el_EA (List.mem_map.mp (pk.mem_iff.mpr hk)) fun e he zq0 => ?_; (first | subst zq0 | cases zq0))
        exact g2 h e he
      cases hx with
      | here a b c e =>
        rw [hi] at a; (replace a := Option.some.inj a; subst a)
        (refine Mine.el_EAA (key _ b) fun n' h1 h2 _ => ?_)
        rw [c] at h1; (replace h1 := Option.some.inj h1; subst h1)
        rw [e] at h2; (exact Mine.no_tf h2)
      | down a b c e f =>
        rw [hi] at a; (replace a := Option.some.inj a; subst a)
        (refine Mine.el_EAA (key _ b) fun n' h1 h2 h3 => ?_)
        exact h3 _ f
end
end Mine
end
section
set_option linter.unusedVariables false
set_option Elab.async false
namespace Mine
open Classical
inductive Abv (M : Mo) (x : Int) : Int → Prop
  | self : Abv M x x
  | up {v p : Int} : v ≠ 0 → parOf M v = some p → Abv M x p → Abv M x v
structure Sh (f : Int) (M : Mo) (D : Int → Prop) (P : Int → Option Int) (C : Int → Bool) : Prop where
  fam : Fam f M
  rk : ∃ rk, RkM rk M
  dom : ∀ j, (∃ n, M j = some n) ↔ D j
  par : ∀ j, j ≠ 0 → j ≠ f → parOf M j = P j
  act : ∀ j n, M j = some n → n.act = C j
  r0 : parOf M 0 = none
section
variable {f : Int} {M : Mo} {i j x y p : Int} {d n : Nd} {rk : Int → Nat} {D : Int → Prop} {P : Int → Option Int} {C : Int → Bool}
theorem Fam.pp (h : Fam f M) {v : Int} (h0 : v ≠ 0) (hf : v ≠ f) (hp : parOf M v = some p) : ∃ n d, M v = some n ∧ n.par = some p ∧ M p = some d ∧ v ∈ d.kids := by
  cases hm : M v with
  | none => unfold parOf at hp; rw [hm] at hp; (exact Mine.no_ns hp)
  | some n =>
    rw [parOf_eq hm] at hp
    (refine Mine.el_EEAA (h.up v n hm h0 hf) fun p' d e1 e2 e3 => ?_)
    rw [hp] at e1; (replace e1 := Option.some.inj e1; subst e1)
    exact ⟨n, d, rfl, hp, e2, e3⟩
theorem Abv.rank (h : Fam f M) (R : RkM rk M) (hx : x ≠ f ∨ True) {v : Int} (hf : Abv M x v) (hv : ∀ u, Abv M x u → u ≠ f ∨ u = x) : v = x ∨ rk v < rk x := by
  induction hf with
  | self => exact .inl rfl
  | @up v p h0 hp ha ih =>
    by_cases hvx : v = x
    · exact .inl hvx
    · have hvf : v ≠ f := (hv v (.up h0 hp ha)).resolve_right hvx
      (refine Mine.el_EEAAA (h.pp h0 hvf hp) fun n d e1 e2 e3 e4 => ?_)
      have := R p d e3 v e4
      rcases ih with rfl | ih
      · exact .inr this
      · exact .inr (by first | decide | omega)
theorem Abv.lt (h : Fam 0 M) (R : RkM rk M) {v : Int} (hf : Abv M x v) : v = x ∨ rk v < rk x := by
  induction hf with
  | self => exact .inl rfl
  | @up v p h0 hp ha ih =>
    (refine Mine.el_EEAAA (h.pp h0 h0 hp) fun n d e1 e2 e3 e4 => ?_)
    have := R p d e3 v e4
    rcases ih with rfl | ih
    · exact .inr this
    · exact .inr (by first | decide | omega)
theorem Abv.eqv {M' : Mo} (e : ∀ j, j ≠ 0 → parOf M' j = parOf M j) {v : Int} (h : Abv M x v) : Abv M' x v := by
  induction h with
  | self => exact .self
  | up h0 hp _ ih => exact .up h0 ((e _ h0).trans hp) ih
theorem Sh.closed (F : Fam f M) (x : Int) : ∀ i n, M i = some n → Abv M x i → ∀ k ∈ n.kids, Abv M x k := fun i n hi ha k hk => by
  (refine Mine.el_AAEA (F.dn i n hi k hk) fun a b m c e => ?_)
  exact .up a (by rw [parOf_eq c, e]) ha
theorem Sh.put_new (h : Sh 0 M D P C) {v : Int} (hi : ¬ D i) (h0 : i ≠ 0) (h1 : 1 ≤ v) (h2 : v ≤ 256) : Sh i (M.put i (newNd v)) (fun j => j = i ∨ D j) P (fun j => if j = i then true else C j) := by
  have hn : M i = none := by
    cases z : M i with
    | none => rfl
    | some n => exact absurd ((h.dom i).mp ⟨n, z⟩) hi
  (refine Mine.el_E h.rk fun rk R => ?_)
  refine ⟨h.fam.put_new hn h0 h1 h2, ⟨rk, fun k m hk z hz => ?_⟩, fun j => ?_, fun j a b => (parOf_put_ne b).trans (h.par j a a), fun j m hj => ?_, (parOf_put_ne (Ne.symm h0)).trans h.r0⟩
  · by_cases q : k = i
    · subst q; rw [Mo.put_self] at hk; (replace hk := Option.some.inj hk; subst hk); cases hz
    · rw [Mo.put_ne q] at hk; exact R k m hk z hz
  · by_cases q : j = i
    · subst q; exact ⟨fun _ => .inl rfl, fun _ => ⟨_, Mo.put_self ..⟩⟩
    · rw [Mo.put_ne q, h.dom j]; exact ⟨.inr, fun z => z.resolve_left q⟩
  · by_cases q : j = i
    · subst q; rw [Mo.put_self] at hj; (replace hj := Option.some.inj hj; subst hj); rw [if_pos rfl]; rfl
    · rw [Mo.put_ne q] at hj; rw [if_neg q]; exact h.act j m hj
theorem new_abv (h : Sh 0 M D P C) {v : Int} (hi : ¬ D i) : ∀ u, Abv (M.put i (newNd v)) i u → ¬ D u := fun u hu => by
  induction hu with
  | self => exact hi
  | @up u p h0 hp ha ih =>
    intro hu
    have hne : u ≠ i := fun z => hi (z ▸ hu)
    rw [parOf_put_ne hne] at hp
    (refine Mine.el_EEAAA (h.fam.pp h0 h0 hp) fun n d _ _ e3 _ => ?_)
    exact ih ((h.dom p).mp ⟨d, e3⟩)
theorem actOf_adopt {k : Int} {m : Nd} (hi : M i = some d) (hj : M j = some n) (hm : adopt M i j k = some m) : ∃ m0, M k = some m0 ∧ m.act = m0.act := by
  rw [adopt_eq hi hj] at hm
  by_cases q : k = i
  · subst q; rw [Mo.put_self] at hm; (replace hm := Option.some.inj hm; subst hm); exact ⟨d, hi, rfl⟩
  · rw [Mo.put_ne q] at hm
    by_cases q2 : k = j
    · subst q2; rw [Mo.put_self] at hm; (replace hm := Option.some.inj hm; subst hm); exact ⟨n, hj, rfl⟩
    · rw [Mo.put_ne q2] at hm; exact ⟨m, hm, rfl⟩
theorem Sh.adopt (h : Sh f M D P C) (hf0 : f ≠ 0) (hi : D i) (hf : D f) (hne : f ≠ i) (hno : ¬ Abv M f i) : Sh 0 (adopt M i f) D (fun k => if k = f then some i else P k) C := by
  (refine Mine.el_E ((h.dom i).mpr hi) fun d hi => ?_)
  (refine Mine.el_E ((h.dom f).mpr hf) fun n hf => ?_)
  (refine Mine.el_E h.rk fun rk R => ?_)
  refine ⟨h.fam.adopt hf0 hi hf hne, R.adopt (S := Abv M f) (Sh.closed h.fam f) .self hno hi hf hne, fun j => (Same.adopt M i f j).symm.trans (h.dom j), fun j a b => ?_, fun j m hj => ?_, (parOf_adopt (Ne.symm hf0)).trans h.r0⟩
  · by_cases q : j = f
    · subst q; rw [if_pos rfl]; exact parOf_adopt_self hi hf hne
    · rw [if_neg q, parOf_adopt q]; exact h.par j a q
  · (refine Mine.el_EA (actOf_adopt hi hf hj) fun m0 h0 e => ?_)
    exact e.trans (h.act j m0 h0)
theorem Sh.adoptX (h : Sh f M D P C) (hf0 : f ≠ 0) (hi : D i) (hf : D f) (hne : f ≠ i) (hno : ¬ Abv M f i) : Sh 0 (adoptX M i f) D (fun k => if k = f then some i else if P k = some i then some f else P k) C := by
  (refine Mine.el_E ((h.dom i).mpr hi) fun d hi => ?_)
  (refine Mine.el_E ((h.dom f).mpr hf) fun n hf => ?_)
  (refine Mine.el_E h.rk fun rk R => ?_)
  have hki : i ∉ d.kids := fun z => Nat.lt_irrefl _ (R i d hi i z)
  have hkf : f ∉ d.kids := fun z => (h.fam.dn i d hi f z).2.1 rfl
  (refine Mine.el_AA (adoptX_eqs hi hf hne hkf hki (fun k hk => let ⟨_, _, m, hm, _⟩ := h.fam.dn i d hi k hk; ⟨m, hm⟩)) fun A zq0 Cc => ?_; refine Mine.el_EA zq0 fun q' B Bp => ?_; clear zq0)
  refine ⟨h.fam.adoptX hf0 hi hf hne hki, R.adoptX h.fam (S := Abv M f) (Sh.closed h.fam f) .self hno hi hf hne hki, fun j => (Same.adoptX M i f j).symm.trans (h.dom j), fun j a b => ?_, fun j m hj => ?_, ?_⟩
  rotate_left
  rotate_left
  · by_cases q : (0 : Int) = i
    · have h0 := h.r0
      subst q
      rw [parOf_eq hi] at h0
      rw [parOf_eq A]; exact h0
    · have h0 := h.r0
      have hz : (0 : Int) ∉ d.kids := fun z => (h.fam.dn i d hi 0 z).1 rfl
      have := Cc 0 q (Ne.symm hf0)
      unfold parOf at h0 ⊢
      rw [this]
      cases hm : M 0 with
      | none => rfl
      | some m =>
        rw [hm] at h0
        show (if (0 : Int) ∈ d.kids then some f else m.par) = none
        rw [if_neg hz]; exact h0
  · have hm := h.fam.mem_kids hi (k := j)
    by_cases q : j = f
    · subst q; rw [if_pos rfl, parOf_eq B]
    · rw [if_neg q]
      have hp := h.par j a q
      by_cases q2 : j = i
      · subst q2
        rw [parOf_eq A]
        have : ¬ P j = some j := fun z => hki (hm.mpr ⟨a, q, hp.trans z⟩)
        rw [if_neg this, ← hp, parOf_eq hi]
      · cases hmj : M j with
        | none =>
          have e1 : parOf M j = none := by unfold parOf; rw [hmj]; rfl
          have e2 : parOf (Mine.adoptX M i f) j = none := by unfold parOf; rw [Cc j q2 q, hmj]; rfl
          rw [e2, ← hp, e1, if_neg (by intro z; (exact Mine.no_ns z))]
        | some m0 =>
          have e2 : Mine.adoptX M i f j = some { m0 with par := if j ∈ d.kids then some f else m0.par } := by rw [Cc j q2 q, hmj]; rfl
          rw [parOf_eq e2]
          show (if j ∈ d.kids then some f else m0.par) = _
          rw [parOf_eq hmj] at hp hm
          by_cases w : j ∈ d.kids
          · rw [if_pos w, if_pos (hp.symm.trans (hm.mp w).2.2)]
          · rw [if_neg w, if_neg (fun z => w (hm.mpr ⟨a, q, hp.trans z⟩))]; exact hp
  · by_cases q : j = i
    · subst q; rw [A] at hj; (replace hj := Option.some.inj hj; subst hj); exact h.act j d hi
    · by_cases q2 : j = f
      · subst q2; rw [B] at hj; (replace hj := Option.some.inj hj; subst hj); exact h.act j n hf
      · rw [Cc j q q2] at hj
        (refine Mine.el_EA (Option.map_eq_some_iff.mp hj) fun m0 h0 zq0 => ?_; (first | subst zq0 | cases zq0))
        exact h.act j m0 h0
theorem Sh.remv (h : Sh 0 M D P C) (hj0 : j ≠ 0) (hj : D j) (hp : P j = some i) : Sh j (remv M i j) D P C := by
  (refine Mine.el_E ((h.dom j).mpr hj) fun n hj => ?_)
  have hp' := (h.par j hj0 hj0).trans hp
  (refine Mine.el_EEAAA (h.fam.pp hj0 hj0 hp') fun n' d e1 e2 e3 e4 => ?_)
  rw [hj] at e1; (replace e1 := Option.some.inj e1; subst e1)
  (refine Mine.el_E h.rk fun rk R => ?_)
  refine ⟨h.fam.remv hj0 e3 hj e2, ⟨rk, R.remv⟩, fun k => (Same.remv M i j k).symm.trans (h.dom k), fun k a b => (parOf_remv k).trans (h.par k a a), fun k m hk => ?_, (parOf_remv 0).trans h.r0⟩
  by_cases q : k = i
  · subst q; rw [remv_eq e3, Mo.put_self] at hk; (replace hk := Option.some.inj hk; subst hk); exact h.act k d e3
  · rw [remv_far q] at hk; exact h.act k m hk
theorem Sh.setw (h : Sh f M D P C) {w : Int} (hi0 : i ≠ 0) (h1 : 1 ≤ w) (h2 : w ≤ 256) : Sh f (setw M i w) D P C := by
  (refine Mine.el_E h.rk fun rk R => ?_)
  refine ⟨h.fam.setw hi0 h1 h2, ⟨rk, R.setw⟩, fun k => (Same.setw M i w k).symm.trans (h.dom k), fun k a b => ?_, fun k m hk => ?_, ?_⟩
  rotate_left
  rotate_left
  · cases hi : M i with
    | none => unfold Mine.setw; rw [hi]; exact h.r0
    | some n => rw [setw_eq hi, parOf_put (m := { n with wt := w }) hi rfl 0]; exact h.r0
  · cases hi : M i with
    | none => unfold Mine.setw; rw [hi]; exact h.par k a b
    | some n => rw [setw_eq hi, parOf_put (m := { n with wt := w }) hi rfl k]; exact h.par k a b
  · cases hi : M i with
    | none => unfold Mine.setw at hk; rw [hi] at hk; exact h.act k m hk
    | some n =>
      rw [setw_eq hi] at hk
      by_cases q : k = i
      · subst q; rw [Mo.put_self] at hk; (replace hk := Option.some.inj hk; subst hk); exact h.act k n hi
      · rw [Mo.put_ne q] at hk; exact h.act k m hk
theorem Sh.actv (h : Sh f M D P C) {b : Bool} (hi0 : i ≠ 0) : Sh f (actv M i b) D P (fun j => if j = i then b else C j) := by
  (refine Mine.el_E h.rk fun rk R => ?_)
  refine ⟨h.fam.actv hi0, ⟨rk, R.actv⟩, fun k => (Same.actv M i b k).symm.trans (h.dom k), fun k a b' => ?_, fun k m hk => ?_, ?_⟩
  rotate_left
  rotate_left
  · cases hi : M i with
    | none => unfold Mine.actv; rw [hi]; exact h.r0
    | some n => rw [actv_eq hi, parOf_put (m := { n with act := b }) hi rfl 0]; exact h.r0
  · cases hi : M i with
    | none => unfold Mine.actv; rw [hi]; exact h.par k a b'
    | some n => rw [actv_eq hi, parOf_put (m := { n with act := b }) hi rfl k]; exact h.par k a b'
  · cases hi : M i with
    | none =>
      rw [show Mine.actv M i b = M by unfold Mine.actv; rw [hi]] at hk
      have q : k ≠ i := fun z => by rw [z, hi] at hk; (exact Mine.no_ns hk)
      rw [if_neg q]; exact h.act k m hk
    | some n =>
      rw [actv_eq hi] at hk
      by_cases q : k = i
      · subst q; rw [Mo.put_self] at hk; (replace hk := Option.some.inj hk; subst hk); rw [if_pos rfl]
      · rw [Mo.put_ne q] at hk; rw [if_neg q]; exact h.act k m hk
theorem Sh.gone (h : Sh 0 M D P C) (hx0 : x ≠ 0) (hx : D x) (hp : P x = some p) : Sh 0 ((rmc M p x true).del x) (fun j => j ≠ x ∧ D j) (fun k => if k = x then none else if P k = some x then some p else P k) C := by
  (refine Mine.el_E ((h.dom x).mpr hx) fun n hx => ?_)
  have hp' := (h.par x hx0 hx0).trans hp
  (refine Mine.el_EEAAA (h.fam.pp hx0 hx0 hp') fun n' d e1 e2 e3 e4 => ?_)
  rw [hx] at e1; (replace e1 := Option.some.inj e1; subst e1)
  (refine Mine.el_E h.rk fun rk R => ?_)
  (refine Mine.el_A (h.fam.gone R hx0 hx e2 e3) fun g1 g2 => ?_)
  (refine Mine.el_AAA (rmc_del h.fam R hx0 hx e2 e3) fun hpx zq0 B Cc => ?_; refine Mine.el_EA zq0 fun q' A Ap => ?_; clear zq0)
  refine ⟨g1, ⟨rk, g2⟩, fun j => ?_, fun j a b => ?_, fun j m hj => ?_, ?_⟩
  rotate_left
  rotate_left
  rotate_left
  · have h0 := h.r0
    by_cases q : (0 : Int) = p
    · subst q
      rw [parOf_eq A]
      rw [parOf_eq e3] at h0
      exact h0
    · have hz : (0 : Int) ∉ n.kids := fun z => (h.fam.dn x n hx 0 z).1 rfl
      have := Cc 0 (Ne.symm hx0) q
      unfold parOf at h0 ⊢
      rw [this]
      cases hm : M 0 with
      | none => rfl
      | some m =>
        rw [hm] at h0
        show (if (0 : Int) ∈ n.kids then some p else m.par) = none
        rw [if_neg hz]; exact h0
  · by_cases q : j = x
    · subst q; rw [B]; simp
    · rw [show (∃ n, ((rmc M p x true).del x) j = some n) ↔ ∃ n, (rmc M p x true) j = some n by rw [show ((rmc M p x true).del x) j = (rmc M p x true) j from if_neg q]]
      rw [← (Same.rmc M p x true) j, h.dom j]
      exact ⟨fun z => ⟨q, z⟩, fun z => z.2⟩
  · rw [parOf_gone h.fam R hx0 hx e2 e3 j a, h.par j a a]
  · have q : j ≠ x := fun z => by rw [z, B] at hj; (exact Mine.no_ns hj)
    by_cases q2 : j = p
    · subst q2; rw [A] at hj; (replace hj := Option.some.inj hj; subst hj); exact h.act j d e3
    · rw [Cc j q q2] at hj
      (refine Mine.el_EA (Option.map_eq_some_iff.mp hj) fun m0 h0 zq0 => ?_; (first | subst zq0 | cases zq0))
      exact h.act j m0 h0
end
end Mine
end
section
set_option linter.unusedVariables false
set_option Elab.async false
namespace Mine
noncomputable abbrev Tb := List (Int × Int)
noncomputable def tput (k v : Int) (A : Tb) : Tb := if A.any (fun p => p.1 = k) then A.map (fun p => if p.1 = k then (p.1, v) else p) else A ++ [(k, v)]
noncomputable def tdel (k : Int) (A : Tb) : Tb := A.filter fun p => p.1 ≠ k
noncomputable def tmap (f : Int → Int → Int) (A : Tb) : Tb := A.map fun p => (p.1, f p.1 p.2)
theorem lookup_cons' {k j v : Int} {A : Tb} : List.lookup j ((k, v) :: A) = if j = k then some v else A.lookup j := by
  rw [List.lookup_cons]
  by_cases h : j = k
  · subst h; simp
  · have : (j == k) = false := by simpa using h
    rw [this, if_neg h]
theorem lookup_tmap {f : Int → Int → Int} {j : Int} : ∀ {A : Tb}, (tmap f A).lookup j = (A.lookup j).map (f j)
  | [] => rfl
  | (k, v) :: A => by
    show List.lookup j ((k, f k v) :: tmap f A) = _
    rw [lookup_cons', lookup_cons', lookup_tmap]
    by_cases h : j = k
    · subst h; simp
    · simp [h]
theorem lookup_any {k : Int} : ∀ {A : Tb}, A.any (fun p => decide (p.1 = k)) = (A.lookup k).isSome
  | [] => rfl
  | (a, v) :: A => by
    rw [List.any_cons, lookup_cons', lookup_any]
    by_cases h : a = k
    · subst h; simp
    · have : ¬ k = a := fun z => h z.symm
      simp [h, this]
theorem lookup_append {j : Int} {B : Tb} : ∀ {A : Tb}, (A ++ B).lookup j = (A.lookup j).or (B.lookup j)
  | [] => by simp
  | (k, v) :: A => by
    rw [List.cons_append, lookup_cons', lookup_cons', lookup_append]
    by_cases h : j = k
    · subst h; simp
    · simp [h]
theorem lookup_tput {k v j : Int} {A : Tb} : (tput k v A).lookup j = if j = k then some v else A.lookup j := by
  unfold tput
  rw [lookup_any]
  cases h : A.lookup k with
  | none =>
    simp only [Option.isSome_none, Bool.false_eq_true, if_false]
    rw [lookup_append, lookup_cons']
    by_cases q : j = k
    · subst q; rw [h]; simp
    · rw [if_neg q, if_neg q]; simp
  | some w =>
    simp only [Option.isSome_some, if_true]
    have e : (A.map fun p => if p.1 = k then (p.1, v) else p) = tmap (fun a b => if a = k then v else b) A := by
      unfold tmap
      refine List.map_congr_left fun p _ => ?_
      by_cases q : p.1 = k <;> simp [q]
    rw [e, lookup_tmap]
    by_cases q : j = k
    · subst q; rw [h]; simp
    · simp only [if_neg q]; cases A.lookup j <;> rfl
theorem lookup_tdel {k j : Int} : ∀ {A : Tb}, (tdel k A).lookup j = if j = k then none else A.lookup j
  | [] => by simp [tdel]
  | (a, v) :: A => by
    have ih := lookup_tdel (k := k) (j := j) (A := A)
    unfold tdel at ih ⊢
    rw [List.filter_cons]
    by_cases h : a = k
    · subst h
      rw [if_neg (by simp), ih, lookup_cons']
      by_cases q : j = a <;> simp [q]
    · rw [if_pos (by simpa using h), lookup_cons', ih, lookup_cons']
      by_cases q : j = a
      · subst q; rw [if_pos rfl, if_neg h, if_pos rfl]
      · rw [if_neg q, if_neg q]
theorem keys_tput {k v : Int} {A : Tb} : (tput k v A).map (·.1) = if (A.lookup k).isSome then A.map (·.1) else A.map (·.1) ++ [k] := by
  unfold tput
  rw [lookup_any]
  split
  · rw [List.map_map]
    refine List.map_congr_left fun p _ => ?_
    simp only [Function.comp]; split <;> rfl
  · simp
theorem mem_keys {k : Int} : ∀ {A : Tb}, k ∈ A.map (·.1) ↔ (A.lookup k).isSome
  | [] => by simp
  | (a, v) :: A => by
    rw [List.map_cons, List.mem_cons, lookup_cons', mem_keys]
    by_cases h : k = a
    · subst h; simp
    · simp [h]
theorem nd_tput {k v : Int} {A : Tb} (h : (A.map (·.1)).Nodup) : ((tput k v A).map (·.1)).Nodup := by
  rw [keys_tput]
  split
  · exact h
  · rename_i q
    rw [List.nodup_append]
    exact ⟨h, by simp, fun a ha b hb z => by (have zq := ((List.mem_singleton.mp hb)).symm; subst zq); subst z; exact q (mem_keys.mp ha)⟩
theorem nd_tmap {f : Int → Int → Int} {A : Tb} (h : (A.map (·.1)).Nodup) : ((tmap f A).map (·.1)).Nodup := by
  have : (tmap f A).map (·.1) = A.map (·.1) := by unfold tmap; rw [List.map_map]; rfl
  rw [this]; exact h
theorem nd_tdel {k : Int} {A : Tb} (h : (A.map (·.1)).Nodup) : ((tdel k A).map (·.1)).Nodup := by
  have : (tdel k A).map (·.1) = (A.map (·.1)).filter fun a => decide (a ≠ k) := by unfold tdel; rw [List.filter_map]; rfl
  rw [this]; exact h.filter _
theorem mem_lookup {k v : Int} : ∀ {A : Tb}, (A.map (·.1)).Nodup → (k, v) ∈ A → A.lookup k = some v
  | (a, b) :: A, h, hm => by
    rw [lookup_cons']
    rw [List.map_cons, List.nodup_cons] at h
    rcases List.mem_cons.mp hm with e | hm
    · cases e; rw [if_pos rfl]
    · have : k ≠ a := fun z => h.1 (z ▸ List.mem_map.mpr ⟨(k, v), hm, rfl⟩)
      rw [if_neg this]; exact mem_lookup h.2 hm
end Mine
end
section
set_option linter.unusedVariables false
set_option Elab.async false
namespace Mine
theorem nodup_len : ∀ {l ks : List Int}, l.Nodup → (∀ z ∈ l, z ∈ ks) → l.length ≤ ks.length
  | [], _, _, _ => Nat.zero_le _
  | a :: l, ks, h, hs => by
    have ha := hs a (.head _)
    rw [List.nodup_cons] at h
    have := nodup_len (l := l) (ks := ks.erase a) h.2 fun z hz => (List.mem_erase_of_ne (fun (w : z = a) => h.1 (w ▸ hz))).mpr (hs z (.tail _ hz))
    rw [List.length_erase_of_mem ha] at this
    have : 0 < ks.length := List.length_pos_of_mem ha
    rw [List.length_cons]; omega
section
variable {f : Int} {M M' : Mo} {i j x y p : Int} {d n : Nd} {rk : Int → Nat} {D : Int → Prop} {P : Int → Option Int} {C : Int → Bool} {A W : Tb}
theorem Sh.congr (h : Sh f M D P C) {D' : Int → Prop} {P' : Int → Option Int} {C' : Int → Bool} (e1 : ∀ j, D j ↔ D' j) (e2 : ∀ j, j ≠ 0 → j ≠ f → P j = P' j) (e3 : ∀ j, D j → C j = C' j) : Sh f M D' P' C' :=
  ⟨h.fam, h.rk, fun j => (h.dom j).trans (e1 j), fun j a b => (h.par j a b).trans (e2 j a b), fun j m hj => (h.act j m hj).trans (e3 j ((h.dom j).mp ⟨m, hj⟩)), h.r0⟩
theorem Fam.kin (h : Fam f M) (k : Kin M M') (w : ∀ i n, M' i = some n → 1 ≤ n.wt ∧ n.wt ≤ 256 ∧ 0 ≤ n.df ∧ n.df < 256) : Fam f M' := by
  have bk : ∀ i n, M' i = some n → ∃ m, M i = some m ∧ n.kids = m.kids ∧ n.par = m.par ∧ n.act = m.act ∧ (n.q.map (·.2)).Perm (m.q.map (·.2)) := fun i n hi => by
    (refine Mine.el_E (k.bw i n hi) fun m hm => ?_)
    (refine Mine.el_EAAAAA (k.fw i m hm) fun n' a _ b c e p => ?_)
    rw [hi] at a; (replace a := Option.some.inj a; subst a)
    exact ⟨m, hm, b, c, e, p⟩
  refine ⟨?_, fun i n hi a b => ?_, fun i n hi z hz => ?_, fun i n hi => ?_, fun i n hi => ?_, w⟩
  · (refine Mine.el_EA h.root fun n a b => ?_)
    (refine Mine.el_EAAAAA (k.fw 0 n a) fun n' c _ _ _ e _ => ?_)
    exact ⟨n', c, e.trans b⟩
  · (refine Mine.el_EAAA (bk i n hi) fun m hm e1 e2 _ => ?_)
    (refine Mine.el_EEAA (h.up i m hm a b) fun p d g1 g2 g3 => ?_)
    (refine Mine.el_EAAA (k.fw p d g2) fun d' c1 _ c2 _ => ?_)
    exact ⟨p, d', e2.trans g1, c1, c2 ▸ g3⟩
  · (refine Mine.el_EAA (bk i n hi) fun m hm e1 _ => ?_)
    rw [e1] at hz
    (refine Mine.el_AAEA (h.dn i m hm z hz) fun a b y c1 c2 => ?_)
    (refine Mine.el_EAAAA (k.fw z y c1) fun y' g1 _ _ g2 _ => ?_)
    exact ⟨a, b, y', g1, g2.trans c2⟩
  · (refine Mine.el_EAA (bk i n hi) fun m hm e1 _ => ?_)
    rw [e1]; exact h.nd i m hm
  · (refine Mine.el_EAAAA (bk i n hi) fun m hm e1 _ _ e5 => ?_)
    rw [e1]; exact e5.trans (h.qk i m hm)
theorem Sh.kin (h : Sh f M D P C) (k : Kin M M') (w : ∀ i n, M' i = some n → 1 ≤ n.wt ∧ n.wt ≤ 256 ∧ 0 ≤ n.df ∧ n.df < 256) : Sh f M' D P C := by
  (refine Mine.el_E h.rk fun rk R => ?_)
  have bk : ∀ i n, M' i = some n → ∃ m, M i = some m ∧ n.kids = m.kids ∧ n.par = m.par ∧ n.act = m.act := fun i n hi => by
    (refine Mine.el_E (k.bw i n hi) fun m hm => ?_)
    (refine Mine.el_EAAAAA (k.fw i m hm) fun n' a _ b c e p => ?_)
    rw [hi] at a; (replace a := Option.some.inj a; subst a)
    exact ⟨m, hm, b, c, e⟩
  refine ⟨h.fam.kin k w, ⟨rk, fun i n hi z hz => ?_⟩, fun j => ⟨fun ⟨n, hn⟩ => (h.dom j).mp (k.bw j n hn), fun hj => ?_⟩, fun j a b => ?_, fun j m hj => ?_, ?_⟩
  rotate_left
  rotate_left
  rotate_left
  rotate_left
  · have h0 := h.r0
    unfold parOf at h0 ⊢
    cases hm' : M' 0 with
    | none => rfl
    | some n =>
      (refine Mine.el_EAAA (bk 0 n hm') fun m hm _ e2 _ => ?_)
      rw [hm] at h0
      show n.par = none
      rw [e2]; exact h0
  · (refine Mine.el_EAA (bk i n hi) fun m hm e1 _ => ?_)
    rw [e1] at hz; exact R i m hm z hz
  · (refine Mine.el_E ((h.dom j).mpr hj) fun n hn => ?_)
    (refine Mine.el_EA (k.fw j n hn) fun n' a _ => ?_)
    exact ⟨n', a⟩
  · rw [← h.par j a b]
    cases hm : M j with
    | none =>
      cases hm' : M' j with
      | none => unfold parOf; rw [hm, hm']
      | some n => (refine Mine.el_E (k.bw j n hm') fun m z => ?_); rw [hm] at z; (exact Mine.no_ns z)
    | some n =>
      (refine Mine.el_EAAAA (k.fw j n hm) fun n' e1 _ _ e2 _ => ?_)
      rw [parOf_eq e1, parOf_eq hm, e2]
  · (refine Mine.el_EAAA (bk j m hj) fun m0 hm _ _ e => ?_)
    exact e.trans (h.act j m0 hm)
theorem Sh.small (h : Sh f M D P C) (ks : List Int) (hk : ∀ j, D j → j ∈ ks) (hl : ks.length ≤ 9) : Bd 9 M ∧ ∃ rk, RkM rk M ∧ OkM rk M ∧ ∀ j, rk j ≤ 9 := by
  (refine Mine.el_E h.rk fun rk0 R0 => ?_)
  have kl : ∀ i n, M i = some n → n.kids.length ≤ 9 := fun i n hi => Nat.le_trans (nodup_len (h.fam.nd i n hi) fun z hz => by
    (refine Mine.el_AAEA (h.fam.dn i n hi z hz) fun _ _ m hm _ => ?_)
    exact hk z ((h.dom z).mp ⟨m, hm⟩)) hl
  have ql : ∀ i n, M i = some n → n.q.length ≤ 9 := fun i n hi => by
    have := (h.fam.qk i n hi).length_eq
    rw [List.length_map] at this
    rw [this]; exact kl i n hi
  have mq : ∀ i n, M i = some n → ∀ e ∈ n.q, e.2 ∈ n.kids := fun i n hi e he => (h.fam.qk i n hi).mem_iff.mp (List.mem_map.mpr ⟨e, he, rfl⟩)
  let rk : Int → Nat := fun j => (ks.filter fun z => decide (rk0 z < rk0 j)).length
  have R : RkM rk M := fun i n hi z hz => by
    have h1 := R0 i n hi z hz
    (refine Mine.el_AAEA (h.fam.dn i n hi z hz) fun _ _ m hm _ => ?_)
    have hzk : z ∈ ks := hk z ((h.dom z).mp ⟨m, hm⟩)
    show (ks.filter fun a => decide (rk0 a < rk0 z)).length < (ks.filter fun a => decide (rk0 a < rk0 i)).length
    have go : ∀ l : List Int, (l.filter fun a => decide (rk0 a < rk0 z)).length ≤ (l.filter fun a => decide (rk0 a < rk0 i)).length ∧ (z ∈ l → (l.filter fun a => decide (rk0 a < rk0 z)).length < (l.filter fun a => decide (rk0 a < rk0 i)).length) := by
      intro l
      induction l with
      | nil => exact ⟨Nat.le_refl _, fun h => by cases h⟩
      | cons a l ih =>
        rw [List.filter_cons, List.filter_cons]
        by_cases q1 : rk0 a < rk0 z
        · rw [if_pos (by simpa using q1), if_pos (by simpa using Nat.lt_trans q1 h1)]
          refine ⟨Nat.succ_le_succ ih.1, fun hm => ?_⟩
          rcases List.mem_cons.mp hm with rfl | hm
          · exact absurd q1 (Nat.lt_irrefl _)
          · exact Nat.succ_lt_succ (ih.2 hm)
        · rw [if_neg (by simpa using q1)]
          by_cases q2 : rk0 a < rk0 i
          · rw [if_pos (by simpa using q2)]
            exact ⟨Nat.le_succ_of_le ih.1, fun _ => Nat.lt_succ_of_le ih.1⟩
          · rw [if_neg (by simpa using q2)]
            refine ⟨ih.1, fun hm => ?_⟩
            rcases List.mem_cons.mp hm with rfl | hm
            · exact absurd h1 q2
            · exact ih.2 hm
    exact (go ks).2 hzk
  refine ⟨⟨kl, ql, fun i n hi k hk' => ?_, fun i n hi e he => ?_⟩, rk, R, ⟨fun i n hi => ?_⟩, fun j => Nat.le_trans (List.length_filter_le _ _) hl⟩
  · (refine Mine.el_AAEA (h.fam.dn i n hi k hk') fun _ _ m hm _ => ?_)
    exact ⟨m, hm⟩
  · (refine Mine.el_AAEA (h.fam.dn i n hi e.2 (mq i n hi e he)) fun _ _ m hm _ => ?_)
    exact ⟨m, hm⟩
  · (refine Mine.el_AAA (h.fam.wt i n hi) fun a b c e => ?_)
    refine ⟨a, b, c, e, by have := ql i n hi; omega, fun e he => ⟨?_, R i n hi e.2 (mq i n hi e he)⟩⟩
    (refine Mine.el_AAEA (h.fam.dn i n hi e.2 (mq i n hi e he)) fun _ _ m hm _ => ?_)
    exact ⟨m, hm⟩
inductive Anc (P : Int → Option Int) (x : Int) : Int → Prop
  | one {v : Int} : P x = some v → Anc P x v
  | more {v u : Int} : Anc P x v → P v = some u → Anc P x u
theorem Anc.step {v : Int} (h : Anc P x v) (hp : P x = some p) : v = p ∨ Anc P p v := by
  induction h with
  | one e => rw [hp] at e; (replace e := Option.some.inj e; subst e); exact .inl rfl
  | more _ e ih =>
    rcases ih with rfl | ih
    · exact .inr (.one e)
    · exact .inr (.more ih e)
theorem Dsn.anc (h : Sh 0 M D P C) (hd : Dsn M i x) (hq : ∀ v, (v = i ∨ Anc P i v) → v = 0 ∨ C v = false) : (∃ n, M x = some n ∧ n.act = true) ∧ ∀ v, Anc P x v → v = 0 ∨ C v = false := by
  have kp : ∀ {i d k}, M i = some d → k ∈ d.kids → P k = some i := fun {i d k} hi hk => by
    (refine Mine.el_AAEA (h.fam.dn i d hi k hk) fun a b m c e => ?_)
    rw [← h.par k a a, parOf_eq c, e]
  induction hd with
  | here a b c e => exact ⟨⟨_, c, e⟩, fun v hv => hq v (hv.step (kp a b))⟩
  | down a b c e f ih =>
    refine ih fun v hv => ?_
    rcases hv with rfl | hv
    · exact .inr ((h.act _ _ c).symm.trans e)
    · exact hq v (hv.step (kp a b))
theorem mute_all (h : Sh 0 M D P C) (R : RkM rk M) {b : Nat} (hb : ∀ j, rk j ≤ b) (h0 : ∀ x, ¬ Dsn M 0 x) : ∀ j n, M j = some n → n.act = false := by
  have go : ∀ k j, b - rk j = k → ∀ n, M j = some n → n.act = false ∧ ∀ x, ¬ Dsn M j x := by
    intro k
    induction k using Nat.strongRecOn with
    | _ k ih =>
      intro j hk n hn
      by_cases q : j = 0
      · subst q
        (refine Mine.el_EA h.fam.root fun r a e => ?_)
        rw [hn] at a; (replace a := Option.some.inj a; subst a)
        exact ⟨e, h0⟩
      · (refine Mine.el_EEAA (h.fam.up j n hn q q) fun p d e1 e2 e3 => ?_)
        have hr := R p d e2 j e3
        have hbp := hb p
        (refine Mine.el_A (ih (b - rk p) (by first | decide | omega) p rfl d e2) fun g1 g2 => ?_)
        cases ha : n.act with
        | true => exact absurd (Dsn.here e2 e3 hn ha) (g2 j)
        | false => exact ⟨rfl, fun x hx => g2 x (.down e2 e3 hn ha hx)⟩
  exact fun j n hn => (go _ j rfl n hn).1
structure T3 (M : Mo) (A W : Tb) : Prop where
  sh : Sh 0 M (fun j => j = 0 ∨ (A.lookup j).isSome = true) (fun j => A.lookup j) (fun j => decide (0 < (W.lookup j).getD 0))
  keys : ∀ j, (W.lookup j).isSome = (A.lookup j).isSome
  rng : ∀ j, (A.lookup j).isSome = true → 1 ≤ j ∧ j ≤ 7
  w0 : ∀ j v, W.lookup j = some v → 0 ≤ v
  an : (A.map (·.1)).Nodup
  wn : (W.map (·.1)).Nodup
noncomputable def eight : List Int := [0, 1, 2, 3, 4, 5, 6, 7]
end
end Mine
end
section
set_option linter.unusedVariables false
set_option Elab.async false
namespace Mine
section
variable {M : Mo} {i j x y p v : Int} {A W : Tb}
theorem T3.x0 (T : T3 M A W) (h : (A.lookup x).isSome = true) : x ≠ 0 := by have := T.rng x h; omega
theorem T3.gone (T : T3 M A W) (hx : A.lookup x = some p) : T3 ((rmc M p x true).del x) (tdel x (tmap (fun _ b => if b = x then p else b) A)) (tdel x W) := by
  have hxs : (A.lookup x).isSome = true := by rw [hx]; rfl
  have h0 := T.x0 hxs
  have g := T.sh.gone h0 (.inr hxs) hx
  have lk : ∀ j, (tdel x (tmap (fun _ b => if b = x then p else b) A)).lookup j = if j = x then none else (A.lookup j).map fun b => if b = x then p else b := fun j => by
    rw [lookup_tdel, lookup_tmap]
  refine ⟨g.congr (fun j => ?_) (fun j a b => ?_) (fun j hj => ?_), fun j => ?_, fun j hj => ?_, fun j u hj => ?_, nd_tdel (nd_tmap T.an), nd_tdel T.wn⟩
  · show (j ≠ x ∧ (j = 0 ∨ (A.lookup j).isSome = true)) ↔ (j = 0 ∨ _)
    rw [lk]
    by_cases q : j = x
    · subst q; simp [h0]
    · rw [if_neg q, Option.isSome_map]
      exact ⟨fun h => h.2, fun h => ⟨q, h⟩⟩
  · show _ = (tdel x _).lookup j
    rw [lk]
    by_cases q : j = x
    · rw [if_pos q, if_pos q]
    · rw [if_neg q, if_neg q]
      cases A.lookup j with
      | none => rw [if_neg (by intro z; (exact Mine.no_ns z))]; rfl
      | some b =>
        show _ = some (if b = x then p else b)
        by_cases q2 : b = x
        · rw [if_pos (by rw [q2]), if_pos q2]
        · rw [if_neg (fun z => q2 (Option.some.inj z)), if_neg q2]
  · show decide _ = decide _
    rw [lookup_tdel, if_neg hj.1]
  · rw [lookup_tdel, lk]
    by_cases q : j = x
    · rw [if_pos q, if_pos q]
    · rw [if_neg q, if_neg q, Option.isSome_map]; exact T.keys j
  · rw [lk] at hj
    by_cases q : j = x
    · rw [if_pos q] at hj; (exact Mine.no_ft hj)
    · rw [if_neg q, Option.isSome_map] at hj; exact T.rng j hj
  · rw [lookup_tdel] at hj
    by_cases q : j = x
    · rw [if_pos q] at hj; (exact Mine.no_ns hj)
    · rw [if_neg q] at hj; exact T.w0 j u hj
end
end Mine
end
section
set_option linter.unusedVariables false
set_option Elab.async false
namespace Mine
section
variable {f : Int} {M : Mo} {i j x y p w : Int} {d n : Nd} {rk : Int → Nat} {D : Int → Prop} {P : Int → Option Int} {C : Int → Bool} {A W : Tb} {cy ex : Bool}
theorem cyc_iff (F : Fam 0 M) (R : RkM rk M) (hb : ∀ j, rk j ≤ 9) (hx0 : x ≠ 0) : ∀ (n : Nat) (v : Int), v ≠ 0 → (∃ m, M v = some m) → 9 < n + rk v → (cyc M x n v = true ↔ ∃ p, parOf M v = some p ∧ Abv M x p)
  | 0, v, _, _, h => by have := hb v; omega
  | n + 1, v, hv, ⟨m, hm⟩, h => by
    (refine Mine.el_EEAA (F.up v m hm hv hv) fun p d e1 e2 e3 => ?_)
    have hp : parOf M v = some p := by rw [parOf_eq hm, e1]
    have hr := R p d e2 v e3
    have e : cyc M x (n + 1) v = if p = x then true else if p = 0 then false else cyc M x n p := by
      show (match parOf M v with | some p => _ | none => _) = _
      rw [hp]
    rw [e]
    have uq : (∃ q, parOf M v = some q ∧ Abv M x q) ↔ Abv M x p := ⟨fun ⟨q, h1, h2⟩ => by rw [hp] at h1; (replace h1 := Option.some.inj h1; subst h1); exact h2, fun h => ⟨p, hp, h⟩⟩
    rw [uq]
    by_cases q1 : p = x
    · rw [if_pos q1]; subst q1; exact ⟨fun _ => .self, fun _ => rfl⟩
    · rw [if_neg q1]
      by_cases q2 : p = 0
      · rw [if_pos q2]
        refine ⟨fun h => (by (exact Mine.no_ft h)), fun h => ?_⟩
        cases h with
        | self => exact absurd q2 hx0
        | up h0 _ _ => exact absurd q2 h0
      · rw [if_neg q2, cyc_iff F R hb hx0 n p q2 ⟨d, e2⟩ (by first | decide | omega)]
        refine ⟨fun ⟨q, h1, h2⟩ => .up q2 h1 h2, fun h => ?_⟩
        cases h with
        | self => exact absurd rfl q1
        | up _ h1 h2 => exact ⟨_, h1, h2⟩
theorem cyc_abv (F : Fam 0 M) (R : RkM rk M) (hb : ∀ j, rk j ≤ 9) (hx0 : x ≠ 0) (hy0 : y ≠ 0) (hy : ∃ m, M y = some m) (hyx : y ≠ x) : cyc M x 100 y = true ↔ Abv M x y := by
  rw [cyc_iff F R hb hx0 100 y hy0 hy (by first | decide | omega)]
  refine ⟨fun ⟨p, h1, h2⟩ => .up hy0 h1 h2, fun h => ?_⟩
  cases h with
  | self => exact absurd rfl hyx
  | up _ h1 h2 => exact ⟨_, h1, h2⟩
theorem repri_sh (h : Sh 0 M D P C) (R : RkM rk M) (hb : ∀ j, rk j ≤ 9) (hx0 : x ≠ 0) (hDx : D x) (hDy : D y) (hyx : y ≠ x) (hcy : cy = true ↔ Abv M x y) (leaf : cy = true → ∀ z, z ≠ 0 → P z ≠ some y) (h1 : 1 ≤ w) (h2 : w ≤ 256) :
    ∃ px nx ny, M x = some nx ∧ nx.par = some px ∧ (∃ d, M px = some d) ∧ x ∈ kidsOf M px ∧ px ≠ x ∧ (∀ k ∈ nx.kids, k ≠ px ∧ k ≠ x) ∧ M y = some ny ∧
      (cy = true → ∃ py d, ny.par = some py ∧ M py = some d ∧ py ≠ y ∧ y ≠ px ∧ y ∈ kidsOf M py ∧ ny.kids = []) ∧ x ∉ kidsOf (repri1 M x y w cy) y ∧ cy = (decide (y ≠ 0) && cyc M x 100 y) ∧ P x = some px ∧
      Sh 0 (repri M x y w ex cy) D (fun k => if k = x then some y else if ex = true ∧ (if cy = true ∧ k = y then some px else P k) = some y then some x else if cy = true ∧ k = y then some px else P k) C := by
  (refine Mine.el_E ((h.dom x).mpr hDx) fun nx hnx => ?_)
  (refine Mine.el_E ((h.dom y).mpr hDy) fun ny hny => ?_)
  (refine Mine.el_EEAA (h.fam.up x nx hnx hx0 hx0) fun px dpx e1 e2 e3 => ?_)
  have hPx : P x = some px := by rw [← h.par x hx0 hx0, parOf_eq hnx, e1]
  have rx := R px dpx e2 x e3
  have hpx : px ≠ x := fun z => by rw [z] at rx; exact Nat.lt_irrefl _ rx
  have hkk : ∀ k ∈ nx.kids, k ≠ px ∧ k ≠ x := fun k hk => by
    have rk1 := R x nx hnx k hk
    exact ⟨fun z => by rw [z] at rk1; omega, fun z => by rw [z] at rk1; exact Nat.lt_irrefl _ rk1⟩
  have sw : Sh 0 (setw M x w) D P C := h.setw hx0 h1 h2
  have ceq : cy = (decide (y ≠ 0) && cyc M x 100 y) := by
    by_cases hy0 : y = 0
    · have : cy = false := by
        cases hc : cy with
        | false => rfl
        | true =>
          have := hcy.mp hc
          subst hy0
          cases this with
          | self => exact absurd rfl hx0
          | up h0 _ _ => exact absurd rfl h0
      rw [this, decide_eq_false (fun z => z hy0)]; rfl
    · rw [decide_eq_true hy0, Bool.true_and]
      have := cyc_abv h.fam R hb hx0 hy0 ⟨ny, hny⟩ hyx
      cases hc : cy with
      | true => exact (this.mpr (hcy.mp hc)).symm
      | false =>
        cases hz : cyc M x 100 y with
        | false => rfl
        | true => have := hcy.mpr (this.mp hz); rw [hc] at this; (exact Mine.no_ft this)
  have psw : ∀ k, parOf (setw M x w) k = parOf M k := fun k => by rw [setw_eq hnx]; exact parOf_put (m := { nx with wt := w }) hnx rfl k
  have gpx : (parOf M x).getD 0 = px := by rw [parOf_eq hnx, e1]; rfl
  have hDpx : D px := (h.dom px).mp ⟨dpx, e2⟩
  -- the tree once y stands in x's place
  have m4 : ∃ M4 P4, M4 = (if cy then lift (setw M x w) x y else setw M x w) ∧ Sh 0 M4 D P4 C ∧ P4 x = some px ∧ ¬ Abv M4 x y ∧ ∀ k, k ≠ x → P4 k = if cy = true ∧ k = y then some px else P k := by
    cases hc : cy with
    | false =>
      refine ⟨_, P, rfl, sw, hPx, fun ha => ?_, fun k _ => by rw [if_neg (fun z => by (exact Mine.no_ft (z.1)))]⟩
      have := hcy.mpr (ha.eqv (M := setw M x w) (M' := M) fun j _ => (psw j).symm)
      rw [hc] at this; (exact Mine.no_ft this)
    | true =>
      have ha := hcy.mp hc
      have hy0 : y ≠ 0 := fun z => by
        subst z
        cases ha with
        | self => exact hx0 rfl
        | up h0 _ _ => exact h0 rfl
      (refine Mine.el_EEAA (h.fam.up y ny hny hy0 hy0) fun py dpy g1 g2 g3 => ?_)
      have hPy : P y = some py := by rw [← h.par y hy0 hy0, parOf_eq hny, g1]
      have ry := (ha.lt h.fam R).resolve_left hyx
      have hypx : y ≠ px := fun z => by rw [z] at ry; omega
      have s1 := sw.remv hy0 hDy hPy
      have no1 : ¬ Abv (remv (setw M x w) py y) y px := fun z => by
        have z2 : Abv M y px := z.eqv (M' := M) fun j _ => by rw [parOf_remv, psw]
        rcases z2.lt h.fam R with q | q
        · exact hypx q.symm
        · omega
      have s2 := s1.adopt hy0 hDpx hDy hypx no1
      have yk : ny.kids = [] := by
        cases hk : ny.kids with
        | nil => rfl
        | cons a r =>
          have := (h.fam.mem_kids hny (k := a)).mp (by rw [hk]; exact .head _)
          exact absurd ((h.par a this.1 this.1).symm.trans this.2.2) (leaf hc a this.1)
      have swy : setw M x w y = some ny := by rw [setw_eq hnx]; exact (Mo.put_ne hyx).trans hny
      have eL : lift (setw M x w) x y = adopt (remv (setw M x w) py y) px y := by
        unfold lift
        rw [psw, psw, gpx, parOf_eq hny, g1]
        show adopt (rmc (setw M x w) py y true) px y = _
        unfold rmc
        rw [if_pos rfl, kidsOf_eq swy, yk]
        rfl
      refine ⟨_, _, rfl, by rw [if_pos rfl, eL]; exact s2, by rw [if_neg (Ne.symm hyx)]; exact hPx, fun z => ?_, fun k _ => ?_⟩
      · rw [if_pos rfl, eL] at z
        (refine Mine.el_E s2.rk fun rk4 R4 => ?_)
        have pm4 : parOf (adopt (remv (setw M x w) py y) px y) y = some px := by rw [s2.par y hy0 hy0, if_pos rfl]
        (refine Mine.el_E ((s2.dom x).mpr hDx) fun x4 hx4 => ?_)
        have pmx : x4.par = some px := by
          have := s2.par x hx0 hx0
          rw [if_neg (Ne.symm hyx), hPx, parOf_eq hx4] at this
          exact this
        (refine Mine.el_E ((s2.dom px).mpr hDpx) fun p4 hp4 => ?_)
        have r4 := R4 px p4 hp4 x (s2.fam.kid hp4 hx4 pmx hx0 hx0)
        cases z with
        | self => exact hyx rfl
        | up _ h3 h4 =>
          rw [pm4] at h3
          (replace h3 := Option.some.inj h3; subst h3)
          rcases h4.lt s2.fam R4 with q | q
          · exact hpx q
          · omega
      · by_cases q : k = y
        · rw [if_pos q, if_pos ⟨rfl, q⟩]
        · rw [if_neg q, if_neg (fun z => q z.2)]
  (refine Mine.el_EEAAAA m4 fun M4 P4 hM4 s4 hP4x no4 hP4 => ?_; (try clear m4))
  have eR : repri1 M x y w cy = remv M4 px x := by
    unfold repri1
    rw [gpx, hM4]
    rfl
  have s5 : Sh x (repri1 M x y w cy) D P4 C := by rw [eR]; exact s4.remv hx0 hDx hP4x
  have no5 : ¬ Abv (repri1 M x y w cy) x y := fun z => no4 (z.eqv (M' := M4) fun j _ => by rw [eR, parOf_remv])
  refine ⟨px, nx, ny, hnx, e1, ⟨dpx, e2⟩, by rw [kidsOf_eq e2]; exact e3, hpx, hkk, hny, fun hc => ?_, ?_, ceq, hPx, ?_⟩
  · have ha := hcy.mp hc
    have hy0 : y ≠ 0 := fun z => by
      subst z
      cases ha with
      | self => exact hx0 rfl
      | up h0 _ _ => exact h0 rfl
    (refine Mine.el_EEAA (h.fam.up y ny hny hy0 hy0) fun py dpy g1 g2 g3 => ?_)
    have ry := (ha.lt h.fam R).resolve_left hyx
    have rpy := R py dpy g2 y g3
    refine ⟨py, dpy, g1, g2, (fun z => by rw [z] at rpy; exact Nat.lt_irrefl _ rpy), (fun z => by rw [z] at ry; omega), by rw [kidsOf_eq g2]; exact g3, ?_⟩
    cases hk : ny.kids with
    | nil => rfl
    | cons a r =>
      have := (h.fam.mem_kids hny (k := a)).mp (by rw [hk]; exact .head _)
      exact absurd ((h.par a this.1 this.1).symm.trans this.2.2) (leaf hc a this.1)
  · (refine Mine.el_E ((s5.dom y).mpr hDy) fun y5 hy5 => ?_)
    rw [kidsOf_eq hy5]
    exact fun z => (s5.fam.dn y y5 hy5 x z).2.1 rfl
  · unfold Mine.repri
    cases ex with
    | true =>
      rw [if_pos rfl]
      refine (s5.adoptX hx0 hDy hDx (Ne.symm hyx) no5).congr (fun _ => Iff.rfl) (fun k hk0 _ => ?_) (fun _ _ => rfl)
      by_cases q : k = x
      · rw [if_pos q, if_pos q]
      · rw [if_neg q, if_neg q, hP4 k q]
        simp only [true_and]
    | false =>
      rw [if_neg (by decide)]
      refine (s5.adopt hx0 hDy hDx (Ne.symm hyx) no5).congr (fun _ => Iff.rfl) (fun k hk0 _ => ?_) (fun _ _ => rfl)
      by_cases q : k = x
      · rw [if_pos q, if_pos q]
      · rw [if_neg q, if_neg q, if_neg (fun z => by (exact Mine.no_ft (z.1)))]; exact hP4 k q
theorem inserted_sh (h : Sh 0 M D P C) (hx0 : x ≠ 0) (hDx : ¬ D x) (hDy : D y) (h1 : 1 ≤ w) (h2 : w ≤ 256) :
    Sh 0 (if ex then Mine.adoptX (M.put x (newNd w)) y x else Mine.adopt (M.put x (newNd w)) y x) (fun j => j = x ∨ D j) (fun k => if k = x then some y else if ex = true ∧ P k = some y then some x else P k) (fun j => if j = x then true else C j) := by
  have hyx : x ≠ y := fun z => hDx (z ▸ hDy)
  have s1 := h.put_new hDx hx0 h1 h2
  have no : ¬ Abv (M.put x (newNd w)) x y := fun z => new_abv h hDx y z hDy
  cases ex with
  | true =>
    rw [if_pos rfl]
    exact (s1.adoptX hx0 (.inr hDy) (.inl rfl) hyx no).congr (fun _ => Iff.rfl) (fun k _ _ => by simp) (fun _ _ => rfl)
  | false =>
    rw [if_neg (by decide)]
    exact (s1.adopt hx0 (.inr hDy) (.inl rfl) hyx no).congr (fun _ => Iff.rfl) (fun k _ _ => by simp) (fun _ _ => rfl)
theorem made_sh (h : Sh 0 M D P C) (hy0 : y ≠ 0) (hDy : ¬ D y) : Sh 0 (made M y) (fun j => j = y ∨ D j) (fun k => if k = y then some 0 else P k) (fun j => if j = y then false else C j) := by
  (refine Mine.el_EA h.fam.root fun r hr zq0 => ?_; clear zq0)
  have s := (inserted_sh (ex := false) (w := 16) h hy0 hDy ((h.dom 0).mp ⟨r, hr⟩) (by decide) (by decide)).actv (b := false) hy0
  rw [if_neg (by decide)] at s
  refine s.congr (fun _ => Iff.rfl) (fun k _ _ => ?_) (fun j _ => ?_)
  · by_cases q : k = y
    · rw [if_pos q, if_pos q]
    · rw [if_neg q, if_neg q, if_neg (fun z => by (exact Mine.no_ft (z.1)))]
  · by_cases q : j = y
    · rw [if_pos q, if_pos q]
    · rw [if_neg q, if_neg q, if_neg q]
end
end Mine
end
section
set_option linter.unusedVariables false
set_option Elab.async false
namespace Mine
section
variable {f : Int} {M : Mo} {i j x y p w px : Int} {d n : Nd} {rk : Int → Nat} {D : Int → Prop} {P : Int → Option Int} {C : Int → Bool} {A A' W W' : Tb} {cy ex : Bool}
theorem Abv.trans {u v z : Int} (h : Abv M v z) (h0 : v ≠ 0) (hp : parOf M v = some u) : Abv M u z := by
  induction h with
  | self => exact .up h0 hp .self
  | up a b _ ih => exact .up a b ih
theorem abv_anc (h : Sh 0 M D P C) (p0 : P 0 = none) {y : Int} : Abv M x y ↔ (y = x ∨ Anc P y x) := by
  constructor
  · intro ha
    induction ha with
    | self => exact .inl rfl
    | @up v p h0 hp _ ih =>
      have e : P v = some p := (h.par v h0 h0).symm.trans hp
      refine .inr ?_
      rcases ih with rfl | ih
      · exact .one e
      · have go : ∀ u, Anc P p u → Anc P v u := fun u hu => by
          induction hu with
          | one e2 => exact .more (.one e) e2
          | more _ e2 ih => exact .more ih e2
        exact go _ ih
  · rintro (rfl | ha)
    · exact .self
    · induction ha with
      | one e =>
        have h0 : y ≠ 0 := fun z => by rw [z, p0] at e; (exact Mine.no_ns e)
        exact .up h0 ((h.par y h0 h0).trans e) .self
      | @more v u _ e ih =>
        have h0 : v ≠ 0 := fun z => by rw [z, p0] at e; (exact Mine.no_ns e)
        exact ih.trans h0 ((h.par v h0 h0).trans e)
theorem T3.made (T : T3 M A W) (h1 : 1 ≤ y) (h7 : y ≤ 7) (hn : A.lookup y = none) : T3 (Mine.made M y) (tput y 0 A) (tput y 0 W) := by
  have s := made_sh T.sh (y := y) (by first | decide | omega) (fun z => by
    rcases z with z | z
    · omega
    · rw [hn] at z; (exact Mine.no_ft z))
  refine ⟨s.congr (fun j => ?_) (fun k _ _ => by rw [lookup_tput]) (fun j _ => ?_), fun j => ?_, fun j hj => ?_, fun j v hj => ?_, nd_tput T.an, nd_tput T.wn⟩
  · rw [lookup_tput]
    by_cases q : j = y
    · rw [if_pos q]; simp [q]
    · rw [if_neg q]; simp [q]
  · show (if j = y then false else _) = decide (0 < ((tput y 0 W).lookup j).getD 0)
    rw [lookup_tput]
    by_cases q : j = y
    · rw [if_pos q, if_pos q]; rfl
    · rw [if_neg q, if_neg q]
  · rw [lookup_tput, lookup_tput]
    by_cases q : j = y
    · rw [if_pos q, if_pos q]
    · rw [if_neg q, if_neg q]; exact T.keys j
  · rw [lookup_tput] at hj
    by_cases q : j = y
    · omega
    · rw [if_neg q] at hj; exact T.rng j hj
  · rw [lookup_tput] at hj
    by_cases q : j = y
    · rw [if_pos q] at hj; (replace hj := Option.some.inj hj; subst hj); exact Int.le_refl _
    · rw [if_neg q] at hj; exact T.w0 j v hj
noncomputable def laidT (A : Tb) (x y px : Int) (cy ex : Bool) : Tb :=
  tput x y (if ex then tmap (fun z b => if z ≠ x ∧ b = y then x else b) (if cy then tput y px A else A) else if cy then tput y px A else A)
theorem laidT_at {k : Int} : (laidT A x y px cy ex).lookup k = if k = x then some y else if ex = true ∧ (if cy = true ∧ k = y then some px else A.lookup k) = some y then some x else if cy = true ∧ k = y then some px else A.lookup k := by
  unfold laidT
  rw [lookup_tput]
  by_cases q : k = x
  · rw [if_pos q, if_pos q]
  · rw [if_neg q, if_neg q]
    have e2 : (if cy then tput y px A else A).lookup k = if cy = true ∧ k = y then some px else A.lookup k := by
      cases cy with
      | true =>
        rw [if_pos rfl, lookup_tput]
        by_cases q2 : k = y <;> simp [q2]
      | false => simp
    cases ex with
    | true =>
      rw [if_pos rfl, lookup_tmap, e2]
      generalize (if cy = true ∧ k = y then some px else A.lookup k) = o
      cases o with
      | none => simp
      | some b =>
        by_cases q3 : b = y
        · subst q3; simp [q]
        · simp [q3]
    | false => simp only [Bool.false_eq_true, if_false, false_and]; exact e2
theorem laidT_nd (h : (A.map (·.1)).Nodup) : ((laidT A x y px cy ex).map (·.1)).Nodup := by
  unfold laidT
  refine nd_tput ?_
  have : ((if cy then tput y px A else A).map (·.1)).Nodup := by
    split
    · exact nd_tput h
    · exact h
  split
  · exact nd_tmap this
  · exact this
theorem laidT_some {k : Int} (hy : cy = true → (A.lookup y).isSome = true) : ((laidT A x y px cy ex).lookup k).isSome = true ↔ (k = x ∨ (A.lookup k).isSome = true) := by
  rw [laidT_at]
  by_cases q : k = x
  · rw [if_pos q]; simp [q]
  · rw [if_neg q]
    have e : (if cy = true ∧ k = y then some px else A.lookup k).isSome = (A.lookup k).isSome := by
      by_cases h : cy = true ∧ k = y
      · rw [if_pos h, h.2, hy h.1]; rfl
      · rw [if_neg h]
    by_cases h : ex = true ∧ (if cy = true ∧ k = y then some px else A.lookup k) = some y
    · rw [if_pos h]
      have := e
      rw [h.2] at this
      simp [q, ← this]
    · rw [if_neg h, e]; simp [q]
theorem T3.relaid (T : T3 M A W) (hx : (A.lookup x).isSome = true) (hy : y = 0 ∨ (A.lookup y).isSome = true) (hcy : cy = true → (A.lookup y).isSome = true) {M' : Mo} (hpx : A.lookup x = some px)
    (h : Sh 0 M' (fun j => j = 0 ∨ (A.lookup j).isSome = true) (fun k => if k = x then some y else if ex = true ∧ (if cy = true ∧ k = y then some px else A.lookup k) = some y then some x else if cy = true ∧ k = y then some px else A.lookup k) (fun j => decide (0 < (W.lookup j).getD 0))) :
    T3 M' (laidT A x y px cy ex) W := by
  have sm : ∀ k, ((laidT A x y px cy ex).lookup k).isSome = true ↔ (A.lookup k).isSome = true := fun k => (laidT_some hcy).trans ⟨fun h => by
    rcases h with rfl | h
    · exact hx
    · exact h, .inr⟩
  refine ⟨h.congr (fun j => by rw [sm]) (fun k _ _ => laidT_at.symm) (fun _ _ => rfl), fun j => ?_, fun j hj => T.rng j ((sm j).mp hj), T.w0, laidT_nd T.an, T.wn⟩
  rw [T.keys]
  have := sm j
  cases h1 : (A.lookup j).isSome <;> cases h2 : ((laidT A x y px cy ex).lookup j).isSome <;> rw [h1, h2] at this <;> simp at this <;> rfl
theorem T3.insd (T : T3 M A W) (hx : A.lookup x = none) (h1 : 1 ≤ x) (h7 : x ≤ 7) (hy : y = 0 ∨ (A.lookup y).isSome = true) {M' : Mo}
    (h : Sh 0 M' (fun j => j = x ∨ (j = 0 ∨ (A.lookup j).isSome = true)) (fun k => if k = x then some y else if ex = true ∧ A.lookup k = some y then some x else A.lookup k) (fun j => if j = x then false else decide (0 < (W.lookup j).getD 0))) :
    T3 M' (laidT A x y px false ex) (tput x 0 W) := by
  have sm : ∀ k, ((laidT A x y px false ex).lookup k).isSome = true ↔ (k = x ∨ (A.lookup k).isSome = true) := fun k => laidT_some (fun z => by (exact Mine.no_ft z))
  refine ⟨h.congr (fun j => ?_) (fun k _ _ => ?_) (fun j _ => ?_), fun j => ?_, fun j hj => ?_, fun j v hj => ?_, laidT_nd T.an, nd_tput T.wn⟩
  · rw [sm]
    constructor
    · rintro (h | h | h)
      · exact .inr (.inl h)
      · exact .inl h
      · exact .inr (.inr h)
    · rintro (h | h | h)
      · exact .inr (.inl h)
      · exact .inl h
      · exact .inr (.inr h)
  · show _ = (laidT A x y px false ex).lookup k
    rw [laidT_at]
    simp
  · show _ = decide (0 < ((tput x 0 W).lookup j).getD 0)
    rw [lookup_tput]
    by_cases q : j = x
    · rw [if_pos q, if_pos q]; rfl
    · rw [if_neg q, if_neg q]
  · rw [lookup_tput]
    have := sm j
    by_cases q : j = x
    · rw [if_pos q]
      exact (this.mpr (.inl q)).symm
    · rw [if_neg q, T.keys]
      cases h1 : (A.lookup j).isSome <;> cases h2 : ((laidT A x y px false ex).lookup j).isSome <;> rw [h1, h2] at this <;> simp [q] at this <;> rfl
  · rcases (sm j).mp hj with q | q
    · omega
    · exact T.rng j q
  · rw [lookup_tput] at hj
    by_cases q : j = x
    · rw [if_pos q] at hj; (replace hj := Option.some.inj hj; subst hj); exact Int.le_refl _
    · rw [if_neg q] at hj; exact T.w0 j v hj
end
end Mine
end
section
set_option linter.unusedVariables false
set_option Elab.async false
namespace Mine
noncomputable def turned (f : Int → Int → Int) (A : Tb) (i : Nat) : Tb := tmap f (A.take i) ++ A.drop i
theorem turned_end {f : Int → Int → Int} {A : Tb} : turned f A A.length = tmap f A := by
  unfold turned; rw [List.take_length, List.drop_length, List.append_nil]
theorem turned_keys {f : Int → Int → Int} {A : Tb} {i : Nat} : (turned f A i).map (·.1) = A.map (·.1) := by
  unfold turned tmap
  rw [List.map_append, List.map_map]
  show (A.take i).map (·.1) ++ (A.drop i).map (·.1) = _
  rw [← List.map_append, List.take_append_drop]
theorem turned_succ {f : Int → Int → Int} {A : Tb} {i : Nat} (h : i < A.length) : turned f A (i + 1) = tmap f (A.take i) ++ (A[i].1, f A[i].1 A[i].2) :: A.drop (i + 1) := by
  unfold turned
  rw [List.take_succ_eq_append_getElem h]
  unfold tmap
  rw [List.map_append, List.append_assoc]; rfl
theorem turned_at {f : Int → Int → Int} {A : Tb} {i : Nat} (h : i < A.length) : turned f A i = tmap f (A.take i) ++ A[i] :: A.drop (i + 1) := by
  unfold turned
  rw [List.drop_eq_getElem_cons h]
theorem key_fresh {A : Tb} {i : Nat} (hn : (A.map (·.1)).Nodup) (h : i < A.length) : A[i].1 ∉ (A.take i).map (·.1) ∧ A[i].1 ∉ (A.drop (i + 1)).map (·.1) := by
  have e : A = A.take i ++ A[i] :: A.drop (i + 1) := by rw [← List.drop_eq_getElem_cons h, List.take_append_drop]
  have hn2 := hn
  rw [e, List.map_append, List.map_cons, List.nodup_append] at hn2
  (refine Mine.el_AA hn2 fun _ h2 h3 => ?_; (try clear hn2))
  rw [List.nodup_cons] at h2
  exact ⟨fun z => h3 _ z _ (.head _) rfl, h2.1⟩
theorem turned_lookup {f : Int → Int → Int} {A : Tb} {i : Nat} (hn : (A.map (·.1)).Nodup) (h : i < A.length) : (turned f A i).lookup A[i].1 = some A[i].2 := by
  refine mem_lookup (by rw [turned_keys]; exact hn) ?_
  rw [turned_at h]
  exact List.mem_append_right _ (.head _)
theorem map_same {k v : Int} : ∀ {l : Tb}, k ∉ l.map (·.1) → (l.map fun p => if p.1 = k then (p.1, v) else p) = l
  | [], _ => rfl
  | p :: l, h => by
    rw [List.map_cons, List.mem_cons, not_or] at h
    rw [List.map_cons, if_neg (fun z => h.1 z.symm), map_same h.2]
theorem turned_put {f : Int → Int → Int} {A : Tb} {i : Nat} (hn : (A.map (·.1)).Nodup) (h : i < A.length) : tput A[i].1 (f A[i].1 A[i].2) (turned f A i) = turned f A (i + 1) := by
  (refine Mine.el_A (key_fresh hn h) fun k1 k2 => ?_)
  have k1' : A[i].1 ∉ (tmap f (A.take i)).map (·.1) := by
    unfold tmap; rw [List.map_map]; exact k1
  unfold tput
  rw [lookup_any, turned_lookup hn h]
  simp only [Option.isSome_some, if_true]
  rw [turned_at h, turned_succ h, List.map_append, List.map_cons, map_same k1', map_same k2, if_pos rfl]
theorem turned_same {f : Int → Int → Int} {A : Tb} {i : Nat} (h : i < A.length) (e : f A[i].1 A[i].2 = A[i].2) : turned f A (i + 1) = turned f A i := by
  rw [turned_at h, turned_succ h, e]
end Mine
end
section
set_option linter.unusedVariables false
set_option Elab.async false
namespace Mine
theorem Mo.root_at {j : Int} {n : Nd} (h : Mo.root j = some n) : j = 0 ∧ n = { newNd 1 with act := false } := by
  unfold Mo.root at h
  by_cases q : j = 0
  · subst q; rw [Mo.put_self] at h; (replace h := Option.some.inj h; subst h); exact ⟨rfl, rfl⟩
  · rw [Mo.put_ne q] at h; (exact Mine.no_ns h)
theorem Mo.root_self : Mo.root 0 = some { newNd 1 with act := false } := Mo.put_self ..
theorem Sh.root : Sh 0 Mo.root (fun j => j = 0) (fun _ => none) (fun _ => false) := by
  refine ⟨⟨⟨_, Mo.root_self, rfl⟩, ?_, ?_, ?_, ?_, ?_⟩, ⟨fun _ => 0, ?_⟩, ?_, ?_, ?_, ?_⟩
  · intro i n hi h0; exact absurd (Mo.root_at hi).1 h0
  · intro i n hi k hk; rw [(Mo.root_at hi).2] at hk; cases hk
  · intro i n hi; rw [(Mo.root_at hi).2]; exact List.nodup_nil
  · intro i n hi; rw [(Mo.root_at hi).2]; exact List.Perm.refl _
  · intro i n hi; rw [(Mo.root_at hi).2]; decide
  · intro i n hi k hk; rw [(Mo.root_at hi).2] at hk; cases hk
  · intro j
    exact ⟨fun ⟨n, hn⟩ => (Mo.root_at hn).1, fun h => ⟨_, by rw [h]; exact Mo.root_self⟩⟩
  · intro j h0 _
    unfold parOf
    cases hm : Mo.root j with
    | none => rfl
    | some n => exact absurd (Mo.root_at hm).1 h0
  · intro j n hj; rw [(Mo.root_at hj).2]
  · rw [parOf_eq Mo.root_self]; rfl
theorem T3.start : T3 Mo.root [] [] :=
  ⟨Sh.root.congr (fun j => ⟨.inl, fun h => h.elim id (fun z => Bool.noConfusion z)⟩) (fun _ _ _ => rfl) (fun _ _ => rfl), fun _ => rfl, fun _ h => Bool.noConfusion h, (fun _ _ h => nomatch h), List.nodup_nil, List.nodup_nil⟩
end Mine
end
section
set_option linter.unusedVariables false
set_option Elab.async false
namespace Mine
end Mine
end
section
set_option linter.unusedVariables false
set_option Elab.async false
namespace Mine
section
variable {f : Int} {M M' : Mo} {i j x y p : Int} {d n : Nd} {rk : Int → Nat} {D : Int → Prop} {P : Int → Option Int} {C : Int → Bool} {A W : Tb}
end
end Mine
end
section
set_option linter.unusedVariables false
set_option Elab.async false
namespace Mine
section
variable {f : Int} {M : Mo} {i j x y p w : Int} {d n : Nd} {rk : Int → Nat} {D : Int → Prop} {P : Int → Option Int} {C : Int → Bool} {A W : Tb} {cy ex : Bool}
end
end Mine
end
section
set_option linter.unusedVariables false
set_option Elab.async false
namespace Mine
section
variable {M : Mo} {Cs : Nat → List Int} {new x y k q : Int} {C : Int → Bool} {c d : Nat} {A B A' B' : List Int}
end
end Mine
end
section
set_option linter.unusedVariables false
set_option Elab.async false
namespace Mine
section
variable {M : Mo} {Cs : Nat → List Int} {new x y k q w : Int} {C : Int → Bool} {c d : Nat} {A B A' B' : List Int} {ex : Bool}
end
end Mine
end
section
set_option linter.unusedVariables false
set_option Elab.async false
namespace Mine
section
variable {M : Mo} {Cs : Nat → List Int} {new x y k q w : Int} {C : Int → Bool} {c d : Nat} {A B A' B' S : List Int} {ex : Bool} {P : Int → Option Int}
end
end Mine
end
section
set_option linter.unusedVariables false
set_option Elab.async false
namespace Mine
section
variable {M : Mo} {Cs : Nat → List Int} {new x y k q w : Int} {c d : Nat} {A B A' B' S : List Int} {ex : Bool} {P : Int → Option Int}
end
end Mine
end
section
open PySem PySem.W PyProof.Rows PySem.Calls
set_option linter.unusedVariables false
set_option Elab.async false
namespace Mine
section
variable {prog : Program} {w : World} {K : Frag} {c : Cx prog w K} {envs outer : List Env} {env : Env} {H G : AH} {A : Around} {E : Value → Shared → Prop} {s : Shared}
theorem for_row_h {target : Expr} {body orelse : List Stmt} {it : Nat} {R : Result → Shared → Prop} {P : AH → Prop} {xs : List Value} {ao : Nat → AO} (row : Row prog w P xs ao) (I : Nat → AH → Prop) (S : St c envs (upd H it (ao 0)) s) (n : H it = none) (hI : I 0 H)
    (hP : ∀ i G, I i G → P G) (hd : ∀ i G, I i G → Hd A G)
    (turn : ∀ i G s' v x, I i G → G it = none → xs[i]? = some x → er v = x → St c envs (upd G it (ao (i + 1))) s' → ∀ (QB : Flow → Shared → Prop) (EB : Value → Shared → Prop), (∀ s₃, RowAt c envs I ao it (i + 1) s₃ → QB .next s₃) →
      wpAny (model prog w) A (assign target env v) (fun _ s₂ => wpAny (model prog w) A (execs body env) QB EB s₂) EB s')
    (fin : ∀ G s', I xs.length G → St c envs G s' → ∀ (QB : Flow → Shared → Prop) (EB : Value → Shared → Prop), (∀ f s₃, R (.ok f) s₃ → QB f s₃) → wpAny (model prog w) A (execs orelse env) QB EB s') :
    codeAny (model prog w) A (.forLoop target (.ref it) body orelse env) R s :=
  for_row row I S n hI hP hd (fun i G s' v x a b d e f => turn i G s' v x a b d e f _ _ fun _ z => z) (fun G s' a b => fin G s' a b _ _ fun _ _ z => z)
end
end Mine
end
section
open PySem PySem.W PyProof.Rows PySem.Calls
set_option linter.unusedVariables false
set_option Elab.async false
namespace Mine
section
variable {prog : Program} {w : World} {K : Frag} {c : Cx prog w K} {envs outer : List Env} {env : Env} {H G : AH} {A : Around} {E : Value → Shared → Prop} {s : Shared} {d : Nat} {k : Int} {t : Tok} {kvs : List (Int × Value)} {es : List DictEntry} {ep : Nat}
theorem dr_at {h : Heap} (prog : Program) (w : World) (e : h.get? d = some (dictOf es ep)) (ka : KeysAre es kvs) : ∃ vs, h.DictAt (intKind prog w) d vs ep ∧ (vs.map fun p => (p.1, er p.2)) = kvs := by
  (refine Mine.el_EAA ka fun vs h1 h2 h3 => ?_; (try clear ka))
  exact ⟨vs, ⟨_, es.toArray, e, ⟨rfl, rfl, rfl⟩, rfl, fun x hx => IP.keys h1 x (by simpa using hx), by simpa using IP.pairs h1, h2⟩, h3⟩
theorem dr_of {h : Heap} {vs : List (Int × Value)} (x : h.DictAt (intKind prog w) d vs ep) : ∃ es, h.get? d = some (dictOf es ep) ∧ KeysAre es (vs.map fun p => (p.1, er p.2)) := by
  (refine Mine.el_EEAAAAA x fun o es ho zq0 hd hk hp hn => ?_; refine Mine.el_AA zq0 fun e1 e2 e3 => ?_; clear zq0; (try clear x))
  refine ⟨es.toList, ?_, vs, IP.of hp (fun e he => hk e (by simpa using he)), hn, rfl⟩
  rw [ho]
  obtain ⟨c, dd, dt, sl⟩ := o
  simp only at e1 e2 e3 hd
  subst e1 e2 e3 hd
  simp [dictOf]
theorem St.swapO {o o' : AO} (S : St c envs (upd H d o) s) (r : Real s.heap d o') (hi : o'.isInst = false) (hn : o.isNs = false) (hi2 : o.isInst = false) (hb : o'.isBig = true → c.base.objs.size ≤ d) : St c envs (upd H d o') s := by
  have nx : ∀ (b : Nat) x, b ≠ d → upd H d o' b = some x → upd H d o b = some x := fun b x q h => by rw [upd_ne q] at h ⊢; exact h
  refine ⟨S.base, fun b x h => ?_, fun b x h => ?_, fun b x h i => ?_, fun en m => ?_, S.gens, S.drawn, S.os, S.size⟩
  · by_cases q : b = d
    · subst q; rw [upd_self] at h; (replace h := Option.some.inj h; subst h); exact r
    · exact S.real b x (nx b x q h)
  · by_cases q : b = d
    · subst q; rw [upd_self] at h; (replace h := Option.some.inj h; subst h)
      exact ⟨(S.low b o (upd_self ..)).1, (fun z => by rw [hi] at z; (exact Mine.no_ft z)), hb⟩
    · exact S.low b x (nx b x q h)
  · by_cases q : b = d
    · subst q; rw [upd_self] at h; (replace h := Option.some.inj h; subst h); rw [hi] at i; (exact Mine.no_ft i)
    · have z := S.excl b x (nx b x q h) i
      by_cases q2 : b - 1 = d
      · rw [q2, upd_self] at z; (exact Mine.no_sn z)
      · rw [upd_ne q2] at z ⊢; exact z
  · (refine Mine.el_AEEA (S.envs en m) fun k L l f e => ?_)
    refine ⟨k, L, l, f, ?_⟩
    by_cases q : L = d
    · subst q; rw [upd_self] at e; (replace e := Option.some.inj e; subst e); (exact Mine.no_tf hn)
    · rw [upd_ne q] at e ⊢; exact e
theorem dr_close (S : St c envs (upd H d (.raw (dictOf es ep))) s) (ka : KeysAre es kvs) (hb : c.base.objs.size ≤ d) : St c envs (upd H d (.imap kvs)) s :=
  S.swapO ⟨es, ep, S.get (upd_self ..), ka⟩ rfl rfl rfl fun _ => hb
theorem dr_open (S : St c envs H s) (e : H d = some (.imap kvs)) : ∃ es ep, KeysAre es kvs ∧ c.base.objs.size ≤ d ∧ St c envs (upd H d (.raw (dictOf es ep))) s := by
  (refine Mine.el_EEA (S.get e) fun es ep h1 h2 => ?_)
  refine ⟨es, ep, h2, (S.low d _ e).2.2 rfl, ?_⟩
  have S' : St c envs (upd H d (.imap kvs)) s := by
    have : upd H d (.imap kvs) = H := by
      funext b
      by_cases q : b = d
      · subst q; rw [upd_self, e]
      · exact upd_ne q
    rw [this]; exact S
  exact S'.swapO (o' := .raw (dictOf es ep)) h1 rfl rfl rfl (fun z => by (exact Mine.no_ft z))
theorem dr_sys (hb : c.base.objs.size ≤ d) : (d == sysModules) = false := by
  have h2 := c.top.g.lt
  have h3 : sysModules < mainGlobals := by decide
  have h4 : d ≠ sysModules := by intro z; subst z; exact absurd (Nat.lt_trans h3 h2) (Nat.not_lt.mpr hb)
  simpa using h4
theorem dr_item {value slice : PySem.Expr} {v : Value} {Q : Value → Shared → Prop} (S : St c envs H s) (e : H d = some (.raw (dictOf es ep))) (ka : KeysAre es kvs) (hv : kvs.lookup k = some v) (h : ∀ v' s', er v' = v → St c envs H s' → Q v' s')
    (hs : subscripted slice false (.ref d) (.int k t) = operate [.ref d, .int k t] (getItem (.ref d) (.int k t)) := by with_unfolding_all rfl) : wpAny (model prog w) A (subscriptTail value slice (.ref d) (.int k t)) Q E s := by
  (refine Mine.el_EA (dr_at prog w (S.get e) ka) fun vs hD zq0 => ?_; (first | subst zq0 | cases zq0))
  rw [← valueAt_er] at hv
  (refine Mine.el_EA (Option.map_eq_some_iff.mp hv) fun y hy he => ?_)
  exact tail_any hD.dictOf.typeIs slot_dict_getitem.lookup (wpAny_getItem_of (int_is k t) hD.dictOf.mapOf hy (h y _ he (S.tok _))) hs
theorem dr_set {v : Value} {Q : Unit → Shared → Prop} (S : St c envs H s) (e : H d = some (.raw (dictOf es ep))) (ka : KeysAre es kvs) (hx : (kvs.lookup k).isSome = true)
    (h : ∀ es' s', KeysAre es' (kput k (er v) kvs) → St c envs (upd H d (.raw (dictOf es' ep))) s' → Q () s') : wpAny (model prog w) A (setItem (.ref d) (.int k t) v) Q E s := by
  (refine Mine.el_EA (dr_at prog w (S.get e) ka) fun vs hD hkv => ?_)
  have hkey := int_is (prog := prog) (w := w) k t
  unfold setItem
  try with_reducible refine wpAny_holding ?_
  refine wpAny_bind (wpAny_sequenceKey hD.dictOf.typeIs (by decide) ?_)
  refine wpAny_bind (wpAny_callSpecial?_slot (name := Str.ofString "__setitem__") hD.dictOf.typeIs slot_dict_setitem (wpAny_call_entry slot_dict_setitem hD.dictOf.typeIs entry_dict_setitem ?_ (args_dict_setitem _ _ _)))
  show wpAny _ _ (Builtin.Dict.notOrdered "__setitem__" ⟨[.ref d, .int k t, v], []⟩ >>= _) _ _ s
  refine wpAny_bind (wpAny_notOrdered_dict hD.dictOf.typeIs ?_)
  show wpAny _ _ (dictSet d (.int k t) v >>= _) _ _ s
  refine wpAny_bind ?_
  (refine Mine.el_EEAAAAA hD fun o eA ho hc hd hk hp hn => ?_; (try clear hD))
  unfold dictSet
  try with_reducible refine wpAny_holding ?_
  refine wpAny_bind ((intKind prog w).pyHash hkey ?_)
  unfold dictSetHashed
  try with_reducible refine wpAny_holding ?_
  refine wpAny_bind (wpAny_dictFind_of (s := { s with toks := s.toks + 1 }) hkey ho hd hk ?_)
  have hidx : (eA.findIdx? fun e => (intKind prog w).is k e.key) = vs.findIdx? fun kv => decide (kv.1 = k) := by
    rw [← hp.findIdx k]; obtain ⟨l⟩ := eA; simp
  cases hi : eA.findIdx? fun e => (intKind prog w).is k e.key with
  | some i =>
    refine wpAny_bind (wpAny_rule (wpAny_bind (wpAny_updateDict (s := { s with toks := s.toks + 1 }) ho hd (wpAny_point ?_))))
    have D' : (s.heap.update d (Obj.mapDict (·.modify i fun e => { e with val := v }))).DictAt (intKind prog w) d (stored vs k v) ep := by
      refine ⟨_, _, Heap.get?_update_self _ ho (Obj.isFreed_of_dict (Obj.data_mapDict hd _)), hc.mapDict _, Obj.data_mapDict hd _, hk.modify _ _, ?_, ?_⟩
      · rw [stored, if_pos (any_of_findIdx_some (hidx ▸ hi))]
        have hl : (eA.toList.findIdx? fun e => (intKind prog w).is k e.key) = some i := by rw [← hi]; obtain ⟨l⟩ := eA; simp
        have := hp.modify hn hl v
        obtain ⟨l⟩ := eA
        simpa using this
      · rw [stored, if_pos (any_of_findIdx_some (hidx ▸ hi)), keys_map_store]; exact hn
    (refine Mine.el_EA (dr_of D') fun es' g1 g2 => ?_)
    rw [stored_er, hkv] at g2
    exact wpAny_pure ⟨.none, rfl, wpAny_pure (h es' _ g2 (S.set (o' := .raw (dictOf es' ep)) e (Heap.SameBut.update ..) g1 rfl rfl))⟩
  | none =>
    exfalso
    have hnot : k ∉ vs.map (·.1) := not_mem_of_findIdx_none (hidx ▸ hi)
    rw [← hkv, ← valueAt_er, Option.isSome_map] at hx
    (refine Mine.el_E (Option.isSome_iff_exists.mp hx) fun y hy => ?_)
    unfold valueAt at hy
    (refine Mine.el_EA (Option.map_eq_some_iff.mp hy) fun p hp1 _ => ?_)
    exact hnot (List.mem_map.mpr ⟨p, List.mem_of_find?_eq_some hp1, by simpa using List.find?_some hp1⟩)
noncomputable abbrev kit (d i n ep : Nat) : Obj := { cls := .type "dict_keyiterator", data := .fields #[.ref d, .int i 0, .int n 0, .int ep 0] }
noncomputable def DR (G : AH) (d ep : Nat) (ks : List Int) : Prop := ∃ es kvs, G d = some (.raw (dictOf es ep)) ∧ KeysAre es kvs ∧ kvs.map (·.1) = ks
theorem kit_is {it i n : Nat} {h : Heap} (x : h.get? it = some (kit d i n ep)) : h.IsKeyIter it d i n ep := ⟨_, x, rfl, rfl⟩
theorem dr_keys {h : Heap} {ks : List Int} {es : List DictEntry} {kvs : List (Int × Value)} (prog : Program) (w : World) (e : h.get? d = some (dictOf es ep)) (ka : KeysAre es kvs) (hk : kvs.map (·.1) = ks) :
    ∃ eA : Array DictEntry, ∃ od, h.get? d = some od ∧ od.data = .dict eA ep ∧ eA.size = ks.length ∧ ∀ (i : Nat) (k : Int), ks[i]? = some k → ∃ (e : DictEntry) (t : Tok), eA[i]? = some e ∧ e.key = .int k t := by
  (refine Mine.el_EAA ka fun vs h1 h2 h3 => ?_; (try clear ka))
  have hl : ∀ (es : List DictEntry) (vs : List (Int × Value)), IP es vs → es.length = vs.length ∧ ∀ (i : Nat) (p : Int × Value), vs[i]? = some p → ∃ (e : DictEntry) (t : Tok), es[i]? = some e ∧ e.key = .int p.1 t := by
    intro es
    induction es with
    | nil => intro vs h; cases vs with
      | nil => exact ⟨rfl, fun i p z => by simp at z⟩
      | cons _ _ => exact h.elim
    | cons e es ih => intro vs h; cases vs with
      | nil => exact h.elim
      | cons p vs =>
        (refine Mine.el_AAA h fun zq0 zq1 zq2 q4 => ?_; refine Mine.el_E zq0 fun t q1 => ?_; clear zq0; clear zq1; clear zq2; (try clear h))
        (refine Mine.el_A (ih vs q4) fun g1 g2 => ?_)
        refine ⟨by simp [g1], fun i x hx => ?_⟩
        cases i with
        | zero => (replace hx := Option.some.inj hx; subst hx); exact ⟨e, t, rfl, q1⟩
        | succ i => exact g2 i x (by simpa using hx)
  (refine Mine.el_A (hl es vs h1) fun g1 g2 => ?_)
  have hks : vs.map (·.1) = ks := by rw [← hk, ← h3, List.map_map]; rfl
  refine ⟨es.toArray, _, e, rfl, by simp [g1, ← hks], fun i k hi => ?_⟩
  rw [← hks, List.getElem?_map] at hi
  (refine Mine.el_EA (Option.map_eq_some_iff.mp hi) fun p hp zq0 => ?_; (first | subst zq0 | cases zq0))
  (refine Mine.el_EEA (g2 i p hp) fun x t q1 q2 => ?_)
  exact ⟨x, t, by simpa using q1, q2⟩
theorem row_keys (d ep : Nat) (ks : List Int) : Row prog w (fun G => DR G d ep ks) (intsV ks) (fun i => .raw (kit d i ks.length ep)) where
  up := fun G it o n ⟨es, kvs, h, r⟩ => ⟨es, kvs, upd_other (ne_fresh n h) h, r⟩
  next := fun {K c envs G s A E Q it i x} S n hP hx k => by
    (refine Mine.el_EEAA hP fun es kvs h1 h2 h3 => ?_; (try clear hP))
    (refine Mine.el_EEAAA (dr_keys prog w (S.get (upd_other (ne_fresh n h1) h1)) h2 h3) fun eA od hod hdd hsz hget => ?_)
    have hit : s.heap.get? it = some (kit d i ks.length ep) := S.get (upd_self ..)
    have hti := (kit_is hit).typeIs (s := s)
    unfold intsV at hx
    rw [List.getElem?_map] at hx
    (refine Mine.el_EA (Option.map_eq_some_iff.mp hx) fun k0 hk0 zq0 => ?_; (first | subst zq0 | cases zq0))
    have hlt := (List.getElem?_eq_some_iff.mp hk0).1
    (refine Mine.el_EEA (hget i k0 hk0) fun e t he hkey => ?_)
    unfold pyNext
    refine wpAny_bind (wpAny_attempt (wpAny_callSpecial?_slot (name := Str.ofString "__next__") hti F.slot_dict_keyiterator_next (wpAny_call_entry F.slot_dict_keyiterator_next hti F.entry_dict_keyiterator_next ?_ (F.args_dict_keyiterator_next_1 _))))
    refine wpAny_bind (wpAny_pure ?_)
    refine wpAny_bind ?_
    refine wpAny_bind ?_
    first | refine wpAny_bind (wpAny_typeNameOfWhole_keyiter hti (wpAny_pure ?_)) | refine wpAny_bind (wpAny_typeNameOf_keyiter hti (wpAny_pure ?_))
    refine wpAny_bind (wpAny_fieldsOf hit rfl ?_)
    rw [show Builtin.Dict_items.ownsTuple "dict_keyiterator" = false by decide, if_neg Bool.false_ne_true]
    show wpAny _ _ (if (Value.ref d == Value.none) = true then _ else _) _ _ s
    rw [if_neg (show ¬ ((Value.ref d == Value.none) = true) from Bool.false_ne_true)]
    refine wpAny_bind (wpAny_pure (wpAny_bind (wpAny_dictEntries hod hdd ?_)))
    rw [if_neg (by rw [hsz]; simp)]
    refine wpAny_bind (wpAny_pure (wpAny_bind (wpAny_dictEpoch hod hdd ?_)))
    rw [if_neg (by simp)]
    refine wpAny_pure ?_
    dsimp only
    rw [if_neg (show ¬ ((i : Int) < 0) by omega), Int.toNat_natCast, he]
    dsimp only
    refine wpAny_bind ?_
    first | refine wpAny_bind (wpAny_typeNameOfWhole_keyiter hti (wpAny_pure ?_)) | refine wpAny_bind (wpAny_typeNameOf_keyiter hti (wpAny_pure ?_))
    refine wpAny_bind (wpAny_isOneOf_keyiter hti ?_)
    show wpAny _ _ (setField (.ref it) 1 (rawInt ((i : Int) + 1)) >>= _) _ _ s
    refine wpAny_bind (wpAny_setField hit rfl (by simp) ?_)
    have hit' : (s.heap.update it (Obj.mapFields (·.setIfInBounds 1 (rawInt ((i : Int) + 1))))).get? it = some (kit d (i + 1) ks.length ep) := Heap.get?_update_self _ hit rfl
    refine wpAny_bind (wpAny_holding ?_)
    refine wpAny_bind (wpAny_isOneOf_keyiter (s := { s with heap := s.heap.update it (Obj.mapFields (·.setIfInBounds 1 (rawInt ((i : Int) + 1)))) }) (kit_is hit').typeIs ?_)
    show wpAny _ _ (pure e.key) _ _ _
    rw [hkey]
    have S' := S.set (t := s.toks) (o' := .raw (kit d (i + 1) ks.length ep)) (upd_self ..) (Heap.SameBut.update ..) hit' rfl rfl
    rw [upd_upd] at S'
    exact wpAny_pure (wpAny_pure ⟨_, rfl, wpAny_pure (k _ _ rfl S')⟩)
  fin := fun {K c envs G s A E Q it i} S n hP hx hdd0 k => by
    (refine Mine.el_EEAA hP fun es kvs h1 h2 h3 => ?_; (try clear hP))
    (refine Mine.el_EEAAA (dr_keys prog w (S.get (upd_other (ne_fresh n h1) h1)) h2 h3) fun eA od hod hdd hsz hget => ?_)
    have hit : s.heap.get? it = some (kit d i ks.length ep) := S.get (upd_self ..)
    have hti := (kit_is hit).typeIs (s := s)
    rw [intsV_len] at hx
    unfold pyNext
    refine wpAny_bind (wpAny_attempt (wpAny_callSpecial?_slot (name := Str.ofString "__next__") hti F.slot_dict_keyiterator_next (wpAny_call_entry F.slot_dict_keyiterator_next hti F.entry_dict_keyiterator_next ?_ (F.args_dict_keyiterator_next_1 _))))
    refine wpAny_bind (wpAny_pure ?_)
    refine wpAny_bind ?_
    refine wpAny_bind ?_
    first | refine wpAny_bind (wpAny_typeNameOfWhole_keyiter hti (wpAny_pure ?_)) | refine wpAny_bind (wpAny_typeNameOf_keyiter hti (wpAny_pure ?_))
    refine wpAny_bind (wpAny_fieldsOf hit rfl ?_)
    rw [show Builtin.Dict_items.ownsTuple "dict_keyiterator" = false by decide, if_neg Bool.false_ne_true]
    show wpAny _ _ (if (Value.ref d == Value.none) = true then _ else _) _ _ s
    rw [if_neg (show ¬ ((Value.ref d == Value.none) = true) from Bool.false_ne_true)]
    refine wpAny_bind (wpAny_pure (wpAny_bind (wpAny_dictEntries hod hdd ?_)))
    rw [if_neg (by rw [hsz]; simp)]
    refine wpAny_bind (wpAny_pure (wpAny_bind (wpAny_dictEpoch hod hdd ?_)))
    rw [if_neg (by simp)]
    refine wpAny_pure ?_
    dsimp only
    rw [if_neg (show ¬ ((i : Int) < 0) by omega), Int.toNat_natCast, Array.getElem?_eq_none (show eA.size ≤ i by omega)]
    dsimp only
    refine wpAny_bind ?_
    first | refine wpAny_bind (wpAny_typeNameOfWhole_keyiter hti (wpAny_pure ?_)) | refine wpAny_bind (wpAny_typeNameOf_keyiter hti (wpAny_pure ?_))
    show wpAny _ _ (setField (.ref it) 0 .none >>= _) _ _ s
    refine wpAny_bind (wpAny_setField hit rfl (by simp) ?_)
    show wpAny _ _ (newExc (.type "StopIteration") [] >>= _) _ _ _
    have S1 := S.off n rfl rfl (Heap.SameBut.update s.heap it (Obj.mapFields (·.setIfInBounds 0 .none)))
    refine stop_ S1 (A := A.in1) hdd0 fun x s' S' ti => ?_
    refine wpAny_bind (wpAny_isInstance (T := "StopIteration") (b := true) ti isSubtype_stop ?_)
    exact wpAny_pure (k _ S')
  self := fun {K c envs G s A E Q it i} S h => by
    have hit : s.heap.get? it = some (kit d i ks.length ep) := S.get (upd_self ..)
    have hT : s.TypeIs (.ref it) "dict_keyiterator" := (kit_is hit).typeIs
    refine wpAny_pyIter_slot hT F.slot_dict_keyiterator_iter (wpAny_call_entry F.slot_dict_keyiterator_iter hT F.entry_dict_keyiterator_iter ?_ (F.args_dict_keyiterator_iter_1 _))
    show wpAny _ _ (ret (.ref it)) _ _ s
    exact wpAny_pure ⟨_, rfl, "dict_keyiterator", _, hT, F.slot_dict_keyiterator_next.lookup, h⟩
  own := fun S h => own_raw (S.get (upd_self ..)) rfl rfl (by decide) h
theorem iter_dict {Q : Value → Shared → Prop} (S : St c envs H s) (e : H d = some (.imap kvs)) (h : ∀ es ep it s', KeysAre es kvs → c.base.objs.size ≤ d → upd H d (.raw (dictOf es ep)) it = none → St c envs (upd (upd H d (.raw (dictOf es ep))) it (.raw (kit d 0 (kvs.map (·.1)).length ep))) s' → Q (.ref it) s') :
    wpAny (model prog w) A (pyIter (.ref d)) Q E s := by
  (refine Mine.el_EEAA (dr_open S e) fun es ep ka hb S1 => ?_)
  (refine Mine.el_EA (dr_at prog w (S1.get (upd_self ..)) ka) fun vs hD hkv => ?_)
  have hl : vs.length = (kvs.map (·.1)).length := by rw [← hkv, List.map_map, List.length_map]
  refine wpAny_pyIter_dict (dr_sys hb) hD ?_
  rw [hl]
  exact h es ep _ _ ka hb (S1.fresh (Nat.le_refl _)) (S1.new (o := .raw (kit d 0 (kvs.map (·.1)).length ep)) (t := s.toks) (fun b x q => Heap.get?_push_of_some _ q) (Nat.le_refl _) (fun z => by (exact Mine.no_ft z)) (Heap.get?_push_size _ rfl) (by rw [Heap.size_push]; exact Nat.le_succ _))
end
end Mine
end
section
open PySem PySem.W PyProof.Rows PySem.Calls
set_option linter.unusedVariables false
set_option Elab.async false
set_option maxRecDepth 100000
namespace Mine
section
variable {prog : Program} {w : World} {K : Frag} {c : Cx prog w K} {envs outer : List Env} {env : Env} {H G : AH} {A : Around} {E : Value → Shared → Prop} {s : Shared}
end
end Mine
end
section
open PySem PySem.W PyProof.Rows PySem.Calls
set_option linter.unusedVariables false
set_option Elab.async false
namespace Mine
noncomputable def iV (A : Tb) : List (Int × Value) := A.map fun p => (p.1, .int p.2 0)
theorem lookup_iV {k : Int} : ∀ {A : Tb}, (iV A).lookup k = (A.lookup k).map fun v => .int v 0
  | [] => rfl
  | (a, v) :: A => by
    show List.lookup k ((a, Value.int v 0) :: iV A) = _
    rw [List.lookup_cons, lookup_cons', lookup_iV]
    by_cases h : k = a
    · subst h; simp
    · have : (k == a) = false := by simpa using h
      rw [this, if_neg h]
theorem kput_iV {k v : Int} {A : Tb} : kput k (.int v 0) (iV A) = iV (tput k v A) := by
  unfold kput tput iV
  rw [List.any_map]
  have e : (A.any ((fun p : Int × Value => decide (p.1 = k)) ∘ fun p : Int × Int => (p.1, Value.int p.2 0))) = A.any fun p => decide (p.1 = k) := rfl
  rw [e]
  split
  · rw [List.map_map, List.map_map]
    refine List.map_congr_left fun p _ => ?_
    simp only [Function.comp]
    split <;> rfl
  · simp
theorem kdel_iV {k : Int} {A : Tb} : kdel k (iV A) = iV (tdel k A) := by
  unfold kdel tdel iV
  rw [List.filter_map]; rfl
theorem keys_iV {A : Tb} : (iV A).map (·.1) = A.map (·.1) := by unfold iV; rw [List.map_map]; rfl
theorem len_iV {A : Tb} : (iV A).length = A.length := List.length_map ..
section
variable {prog : Program} {w : World} {K : Frag} {c : Cx prog w K} {envs : List Env} {H : AH} {A : Around} {E : Value → Shared → Prop} {s : Shared} {d : Nat} {k : Int} {t : Tok} {kvs : List (Int × Value)}
theorem d_notin {Q : Value → Shared → Prop} (S : St c envs H s) (e : H d = some (.imap kvs)) (h : ∀ s', St c envs H s' → Q (.bool (!(kvs.lookup k).isSome)) s') : wpAny (model prog w) A (compareOp .NotIn (.int k t) (.ref d)) Q E s := by
  have ns := not_sys S e
  (refine Mine.el_EA ((S.get e).dictOf prog w) fun vs hD zq0 => ?_; (first | subst zq0 | cases zq0))
  refine wpAny_notIn_of (int_is k t) ns hD.mapOf ?_
  have := h _ (S.tok (s.toks + 1))
  rw [← valueAt_er, Option.isSome_map] at this
  exact this
theorem d_notin_no {v : Value} {Q : Value → Shared → Prop} (S : St c envs H s) (e : H d = some (.imap kvs)) (hv : kvs.lookup k = some v) (h : ∀ s', St c envs H s' → Q (.bool false) s') : wpAny (model prog w) A (compareOp .NotIn (.int k t) (.ref d)) Q E s :=
  d_notin S e fun s' S' => by rw [hv]; exact h s' S'
theorem d_notin_yes {Q : Value → Shared → Prop} (S : St c envs H s) (e : H d = some (.imap kvs)) (hv : kvs.lookup k = none) (h : ∀ s', St c envs H s' → Q (.bool true) s') : wpAny (model prog w) A (compareOp .NotIn (.int k t) (.ref d)) Q E s :=
  d_notin S e fun s' S' => by rw [hv]; exact h s' S'
theorem d_in_yes {v : Value} {Q : Value → Shared → Prop} (S : St c envs H s) (e : H d = some (.imap kvs)) (hv : kvs.lookup k = some v) (h : ∀ s', St c envs H s' → Q (.bool true) s') : wpAny (model prog w) A (compareOp .In (.int k t) (.ref d)) Q E s :=
  d_in S e fun s' S' => by rw [hv]; exact h s' S'
theorem d_in_no {Q : Value → Shared → Prop} (S : St c envs H s) (e : H d = some (.imap kvs)) (hv : kvs.lookup k = none) (h : ∀ s', St c envs H s' → Q (.bool false) s') : wpAny (model prog w) A (compareOp .In (.int k t) (.ref d)) Q E s :=
  d_in S e fun s' S' => by rw [hv]; exact h s' S'
end
end Mine
end
section
open PySem PySem.W PyProof.Rows PySem.Calls
set_option linter.unusedVariables false
set_option Elab.async false
namespace Mine
theorem bindL_eq {k : Str → Option NameKind} {y : Str} : ∀ {binds : List (Str × Value)} {m : Str → Option Value}, bindL k binds m y = ((binds.filter fun p => decide (k p.1 = some .local)).reverse.lookup y).or (m y)
  | [], m => rfl
  | (n, v) :: r, m => by
    unfold bindL
    rw [bindL_eq, List.filter_cons]
    by_cases h : k n = some .local
    · rw [if_pos h, if_pos (show decide (k (n, v).1 = some NameKind.local) = true by simpa using h), List.reverse_cons]
      have : ∀ (l : List (Str × Value)), (l ++ [(n, v)]).lookup y = (l.lookup y).or (if y = n then some v else none) := by
        intro l
        induction l with
        | nil =>
          rw [List.nil_append, List.lookup_cons]
          by_cases q : y = n
          · subst q; simp
          · rw [show (y == n) = false by simpa using q, if_neg q]; rfl
        | cons p l ih =>
          rw [List.cons_append, List.lookup_cons, List.lookup_cons, ih]
          cases y == p.1 <;> rfl
      rw [this]
      by_cases q : y = n
      · subst q; simp
      · simp [q]
    · rw [if_neg h, if_neg (by simpa using h)]
theorem bindC_eq {k : Str → Option NameKind} {y : Str} : ∀ {binds : List (Str × Value)} {m : Str → Option Value}, bindC k binds m y = ((binds.filter fun p => decide (¬ k p.1 = some .local)).reverse.lookup y).or (m y)
  | [], m => rfl
  | (n, v) :: r, m => by
    unfold bindC
    rw [bindC_eq, List.filter_cons]
    by_cases h : k n = some .local
    · rw [if_pos h, if_neg (by simpa using h)]
    · rw [if_neg h, if_pos (show decide (¬ k (n, v).1 = some NameKind.local) = true by simpa using h), List.reverse_cons]
      have : ∀ (l : List (Str × Value)), (l ++ [(n, v)]).lookup y = (l.lookup y).or (if y = n then some v else none) := by
        intro l
        induction l with
        | nil =>
          rw [List.nil_append, List.lookup_cons]
          by_cases q : y = n
          · subst q; simp
          · rw [show (y == n) = false by simpa using q, if_neg q]; rfl
        | cons p l ih =>
          rw [List.cons_append, List.lookup_cons, List.lookup_cons, ih]
          cases y == p.1 <;> rfl
      rw [this]
      by_cases q : y = n
      · subst q; simp
      · simp [q]
section
variable {prog : Program} {w : World} {K : Frag} {c : Cx prog w K} {envs outer : List Env} {env : Env} {H : AH} {A : Around} {E : Value → Shared → Prop} {s : Shared}
theorem St.know {a : Nat} {o : AO} (S : St c envs H s) (hn : H a = none) (r : Real s.heap a o) (hi : o.isInst = false) (hb : c.base.get? a = none) (hbig : o.isBig = true → c.base.objs.size ≤ a) (hex : ∀ (b : Nat) x, H b = some x → x.isInst = true → b - 1 ≠ a) : St c envs (upd H a o) s := by
  refine ⟨S.base, fun b x q => ?_, fun b x q => ?_, fun b x q i => ?_, fun en m => ?_, S.gens, S.drawn, S.os, S.size⟩
  · by_cases z : b = a
    · subst z; rw [upd_self] at q; (replace q := Option.some.inj q; subst q); exact r
    · rw [upd_ne z] at q; exact S.real b x q
  · by_cases z : b = a
    · subst z; rw [upd_self] at q; (replace q := Option.some.inj q; subst q); exact ⟨hb, (fun w => by rw [hi] at w; (exact Mine.no_ft w)), hbig⟩
    · rw [upd_ne z] at q; exact S.low b x q
  · by_cases z : b = a
    · subst z; rw [upd_self] at q; (replace q := Option.some.inj q; subst q); rw [hi] at i; (exact Mine.no_ft i)
    · rw [upd_ne z] at q
      rw [upd_ne (hex b x q i)]; exact S.excl b x q i
  · (refine Mine.el_AEEA (S.envs en m) fun k L l f e => ?_)
    exact ⟨k, L, l, f, upd_other (fun z => by rw [z, hn] at e; (exact Mine.no_ns e)) e⟩
end
end Mine
end
section
open PySem PySem.W PyProof.Rows PySem.Calls
set_option linter.unusedVariables false
set_option Elab.async false
namespace Mine
section
variable {prog : Program} {w : World} {K : Frag} {c : Cx prog w K} {envs outer : List Env} {env : Env} {H : AH} {A : Around} {E : Value → Shared → Prop} {s : Shared}
theorem code_fn2 {f : Addr} {oc ct : Value} {od an : Option Addr} {osl : Array (Option Value)} {name qual : Str} {params : Arguments} {body : List Stmt} {scope : Scope} {dV kV doc pm cdv : Value} {vals : List Value} {binds : List (Str × Value)} {l : List (Str × Value)} {x y : Str} {v u : Value} {R : Result → Shared → Prop} {d dn : Nat}
    (S : St c envs H s) (Ro : Rm A d dn) (ho : K.lookup f = some ⟨oc, od, .func (fnOf name qual params body scope dV kV doc pm an cdv ct), osl⟩) (hcd : codeIn K cdv qual = true)
    (hbind : bindArgs (fnOf name qual params body scope dV kV doc pm an cdv ct) ⟨vals, []⟩ = pure binds)
    (hcells : ∀ n, cellsFrom n scope.names [] = [(y, n + 1), (x, n)]) (hxy : x ≠ y)
    (hkind : ∀ z ∈ binds, scope.names.lookup z.1 = some .local ∨ (scope.names.lookup z.1 = some .cell ∧ (z.1 = x ∨ z.1 = y)))
    (hl : ∀ L, ((binds.filter fun p => decide ((callEnvC (fnOf name qual params body scope dV kV doc pm an cdv ct) L f).kindOf p.1 = some .local)).reverse.map fun p => (p.1, er p.2)) = l)
    (hv : ∀ L, (((binds.filter fun p => decide (¬ (callEnvC (fnOf name qual params body scope dV kV doc pm an cdv ct) L f).kindOf p.1 = some .local)).reverse.lookup x).map er) = some v)
    (hu : ∀ L, (((binds.filter fun p => decide (¬ (callEnvC (fnOf name qual params body scope dV kV doc pm an cdv ct) L f).kindOf p.1 = some .local)).reverse.lookup y).map er) = some u)
    (h : ∀ L s', H L = none → H (L + 1) = none → H (L + 2) = none → St c (callEnvC (fnOf name qual params body scope dV kV doc pm an cdv ct) L f :: envs) (upd (upd (upd H L (.ns l)) (L + 1) (.cell (some v))) (L + 2) (.cell (some u))) s' →
      wpAny (model prog w) (A.deeper (callEnvC (fnOf name qual params body scope dV kV doc pm an cdv ct) L f)) (execs body (callEnvC (fnOf name qual params body scope dV kV doc pm an cdv ct) L f)) (fun fl s' => R (.ok (.ret (match fl with | .ret v => v | _ => .none))) s')
        (fun e s' => wpAny (model prog w) (A.deeper (callEnvC (fnOf name qual params body scope dV kV doc pm an cdv ct) L f)) (leaving (callEnvC (fnOf name qual params body scope dV kV doc pm an cdv ct) L f) e) (fun _ s'' => R (.error e) s'') (fun e' s'' => R (.error e') s'') s') s')
    (hclo : (fnOf name qual params body scope dV kV doc pm an cdv ct).closure = [] := by rfl)
    (hco : scope.isCoroutine = false := by rfl) (hgen : scope.isGenerator = false := by rfl) (hk : scope.kind = .function := by rfl) : codeAny (model prog w) A (.call (.ref f) ⟨vals, []⟩) R s := by
  refine codeAny_call_cells (fd := fnOf name qual params body scope dV kV doc pm an cdv ct) Ro.room (S.inK _ _ ho) rfl S.top.nolimit (codeRec_of S.inK hcd) rfl hbind hclo (fun z hz => ?_) (fun s₁ X => ?_) hco hgen hk
  · rcases hkind z hz with a | ⟨a, b⟩
    · exact .inl a
    · refine .inr ⟨a, ?_⟩
      show ((cellsFrom (s.heap.objs.size + 1) scope.names []).lookup z.1).isSome = true
      rw [hcells]
      rcases b with b | b
      · rw [b, List.lookup_cons, show (x == y) = false by simpa using hxy]; simp
      · rw [b]; simp
  · obtain ⟨⟨⟨h', tk, rfl⟩, hns, hkeep, hfr⟩, hc, hap, hab⟩ := X
    have e1 : (callEnvC (fnOf name qual params body scope dV kV doc pm an cdv ct) s.heap.objs.size f).cells = [(y, s.heap.objs.size + 1 + 1), (x, s.heap.objs.size + 1)] := hcells _
    (refine Mine.el_EA (hc x (s.heap.objs.size + 1) (by rw [e1, List.lookup_cons, show (x == y) = false by simpa using hxy]; simp)) fun oc1 hoc1 hod1 => ?_)
    (refine Mine.el_EA (hc y (s.heap.objs.size + 1 + 1) (by rw [e1]; simp)) fun oc2 hoc2 hod2 => ?_)
    have f1 : H s.heap.objs.size = none := S.fresh (Nat.le_refl _)
    have f2 : H (s.heap.objs.size + 1) = none := S.fresh (Nat.le_succ _)
    have f3 : H (s.heap.objs.size + 2) = none := S.fresh (Nat.le_add_right _ 2)
    have hx : (bindC (callEnvC (fnOf name qual params body scope dV kV doc pm an cdv ct) s.heap.objs.size f).kindOf binds (fun _ => none) x).map er = some v := by
      rw [bindC_eq, Option.or_none]; exact hv _
    have hy : (bindC (callEnvC (fnOf name qual params body scope dV kV doc pm an cdv ct) s.heap.objs.size f).kindOf binds (fun _ => none) y).map er = some u := by
      rw [bindC_eq, Option.or_none]; exact hu _
    have S1 := S.new (h' := h') (a := s.heap.objs.size) (o := .ns l) (t := tk) hkeep (Nat.le_refl _) (fun i => by (exact Mine.no_ft i)) ⟨_, hns, fun y z hy => by
      rw [bindL_eq, Option.or_none]
      rw [← hl s.heap.objs.size, lookup_er] at hy
      exact hy⟩ (Nat.le_of_lt hns.lt)
    have bn : c.base.get? (s.heap.objs.size + 1) = none := get_big (Nat.le_trans S.size (Nat.le_succ _))
    have bn2 : c.base.get? (s.heap.objs.size + 2) = none := get_big (Nat.le_trans S.size (Nat.le_add_right _ 2))
    have n1 : s.heap.objs.size + 1 ≠ s.heap.objs.size := Nat.succ_ne_self _
    have n2 : s.heap.objs.size + 2 ≠ s.heap.objs.size := by omega
    have n3 : s.heap.objs.size + 2 ≠ s.heap.objs.size + 1 := by omega
    have S2 := S1.know (a := s.heap.objs.size + 1) (o := .cell (some v)) (by rw [upd_ne n1]; exact f2) ⟨oc1, _, hoc1, hod1, hx⟩ rfl bn (fun z => by (exact Mine.no_ft z)) (fun b y hb hi => by
      by_cases q : b = s.heap.objs.size
      · subst q; rw [upd_self] at hb; (replace hb := Option.some.inj hb; subst hb); (exact Mine.no_ft hi)
      · rw [upd_ne q] at hb
        have := (S.real b y hb).lt
        intro z
        omega)
    have S3 := S2.know (a := s.heap.objs.size + 2) (o := .cell (some u)) (by rw [upd_ne n3, upd_ne n2]; exact f3) ⟨oc2, _, hoc2, hod2, hy⟩ rfl bn2 (fun z => by (exact Mine.no_ft z)) (fun b y hb hi => by
      by_cases q2 : b = s.heap.objs.size + 1
      · subst q2; rw [upd_self] at hb; (replace hb := Option.some.inj hb; subst hb); (exact Mine.no_ft hi)
      · rw [upd_ne q2] at hb
        by_cases q : b = s.heap.objs.size
        · subst q; rw [upd_self] at hb; (replace hb := Option.some.inj hb; subst hb); (exact Mine.no_ft hi)
        · rw [upd_ne q] at hb
          have := (S.real b y hb).lt
          intro z
          omega)
    refine h _ _ f1 f2 f3 ⟨S3.base, S3.real, S3.low, S3.excl, fun en m => ?_, S3.gens, S3.drawn, S3.os, S3.size⟩
    rcases List.mem_cons.mp m with rfl | m
    · exact ⟨by show scope.kind ≠ .module; rw [hk]; decide, s.heap.objs.size, l, rfl, upd_other (Ne.symm n2) (upd_other (Ne.symm n1) (upd_self ..))⟩
    · exact S3.envs en m
end
section
variable {F G : AH} {L ab wa : Nat} {l : List (Str × Value)} {y : Int} {Ta Tw : Tb}
end
end Mine
end
section
open PySem PySem.W PyProof.Rows PySem.Calls
set_option linter.unusedVariables false
set_option Elab.async false
namespace Mine
section
variable {prog : Program} {w : World} {K : Frag} {c : Cx prog w K} {envs outer : List Env} {env : Env} {H : AH} {A : Around} {E : Value → Shared → Prop} {s : Shared}
end
end Mine
end
section
open PySem PySem.W PyProof.Rows PySem.Calls
set_option linter.unusedVariables false
set_option Elab.async false
namespace Mine
theorem join_move {F G : AH} {a : Nat} {o o' : AO} (h : F a = some o) : join (upd F a o') G = join (F.del a) (upd G a o') := by
  funext b
  by_cases q : b = a
  · subst q
    rw [join_l (upd_self ..), join_n (show F.del b b = none from if_pos rfl), upd_self]
  · have e1 : F.del a b = F b := if_neg q
    cases z : F b with
    | some x => rw [join_l ((upd_ne q).trans z), join_l (e1.trans z)]
    | none => rw [join_n ((upd_ne q).trans z), join_n (e1.trans z), upd_ne q]
theorem Frs.del {envs : List Env} {F : AH} {a : Nat} {o : AO} (fr : Frs envs F) (h : F a = some o) (n : o.isNs = false) : Frs envs (F.del a) := fun env m => by
  (refine Mine.el_AEEA (fr env m) fun k L l f e => ?_)
  refine ⟨k, L, l, f, (if_neg fun z => ?_).trans e⟩
  rw [z, h] at e; (replace e := Option.some.inj e; subst e); (exact Mine.no_tf n)
theorem Dj.del_r {F G : AH} {a : Nat} {o : AO} (d : Dj F G) : Dj (F.del a) (upd G a o) := fun b x h => by
  by_cases q : b = a
  · exact if_pos q
  · rw [upd_ne q] at h; exact (if_neg q).trans (d b x h)
theorem del_upd {F : AH} {a b : Nat} {o : AO} (h : b ≠ a) : (upd F b o).del a = upd (F.del a) b o := by
  funext z
  show (if z = a then none else upd F b o z) = (if z = b then some o else if z = a then none else F z)
  by_cases q : z = a
  · rw [if_pos q, if_neg (by rw [q]; exact Ne.symm h), if_pos q]
  · rw [if_neg q, if_neg q]; rfl
end Mine
end
section
open PySem PySem.W PyProof.Rows PySem.Calls
set_option linter.unusedVariables false
set_option Elab.async false
namespace Mine
section
variable {prog : Program} {w : World} {K : Frag} {c : Cx prog w K} {envs : List Env} {H : AH} {A : Around} {E : Value → Shared → Prop} {s : Shared} {L : Nat} {l : List (Str × Value)}
theorem min_two5 {a b : Int} {t u : Tok} {Q : Value → Shared → Prop} (S : St c envs H s) (hh : A.handled = none) (hL : H L = some (.ns l)) (h : ∀ t s', St c envs H s' → Q (.int (if b < a then b else a) t) s') :
    wpAny (model prog w) A (call (.builtin "min") [.int a t, .int b u]) Q E s := by
  refine min_two_ints hh fun h' tk hk => ?_
  have S' := S.more hL hk tk
  by_cases q : b < a
  · rw [if_pos q]; have := h u _ S'; rwa [if_pos q] at this
  · rw [if_neg q]; have := h t _ S'; rwa [if_neg q] at this
theorem dict_nil {env : Env} {pos : Pos} {Q : Value → Shared → Prop} (S : St c envs H s) (h : ∀ (d : Nat) s', H d = none → St c envs (upd H d (.imap [])) s' → Q (.ref d) s') : wpAny (model prog w) A (eval (.Dict [] [] pos) env) Q E s :=
  wpAny_Dict_empty (h _ _ (S.fresh (Nat.le_refl _)) (S.new (t := s.toks) (fun b x q => Heap.get?_push_of_some _ q) (Nat.le_refl _) (by intro i; (exact Mine.no_ft i)) ⟨[], 0, Heap.get?_push_size _ rfl, [], trivial, List.nodup_nil, rfl⟩ (by rw [Heap.size_push]; exact Nat.le_succ _)))
end
end Mine
end
section
open PySem PySem.W PyProof.Rows PySem.Calls
set_option linter.unusedVariables false
set_option Elab.async false
namespace Mine
noncomputable def forBd : Stmt → List Stmt
  | .For _ _ b _ _ => b
  | _ => []
noncomputable def ifYes : Stmt → List Stmt
  | .If _ b _ _ => b
  | _ => []
noncomputable def ifNo : Stmt → List Stmt
  | .If _ _ b _ => b
  | _ => []
end Mine
end
section
open PySem PySem.W PyProof.Rows PySem.Calls
set_option linter.unusedVariables false
set_option Elab.async false
namespace Mine
theorem if_cut {prog : Program} {w : World} {A : Around} {env : Env} {E : Value → Shared → Prop} {s : Shared} {t : Expr} {y n : List Stmt} {pos : Pos} {Q : Flow → Shared → Prop} (P : Bool → Shared → Prop) (h : wpAny (model prog w) A (isTrue t env (eval t env)) P E s)
    (hy : ∀ s', P true s' → wpAny (model prog w) A (execs y env) Q E s') (hn : ∀ s', P false s' → wpAny (model prog w) A (execs n env) Q E s') : wpAny (model prog w) A (exec (.If t y n pos) env) Q E s :=
  wpAny_If (wpAny_mono h (fun b s' hb => by
    cases b
    · exact hn s' hb
    · exact hy s' hb) fun _ _ z => z)
end Mine
end
section
open PySem PySem.W PyProof.Rows PySem.Calls
set_option linter.unusedVariables false
set_option Elab.async false
namespace Mine
section
variable {prog : Program} {w : World} {K : Frag}
theorem St.startL {p : Program} {loose : List Str} {mean : ExcName → Option Value} {mg mb : Str → Option Value} {s₁ : Shared} {h₁ : Heap} {tk : Nat} {m : Str → Option Value} {L : Nat} {env : Env} {l : List (Str × Value)} (KX : K.In s₁.heap) (TT : Top p loose mean mg mb s₁.heap) (FF : Fr s₁.heap L h₁ m) (hl : ∀ x v, l.lookup x = some v → (m x).map er = some v) (he : env.frame = some L) (hk : env.scope.kind ≠ .module) :
    St (⟨p, loose, mg, mb, s₁.heap, s₁.gens, s₁.drawn, s₁.os, KX, topRead_of TT⟩ : Cx prog w K) [env] (upd (fun _ => none) L (.ns l)) { s₁ with heap := h₁, toks := tk } := by
  have one : ∀ (a : Nat) o, upd (fun _ => none) L (.ns l) a = some o → a = L ∧ o = .ns l := fun a o h => by
    by_cases q : a = L
    · subst q; rw [upd_self] at h; (replace h := Option.some.inj h; subst h); exact ⟨rfl, rfl⟩
    · rw [upd_ne q] at h; (exact Mine.no_ns h)
  refine ⟨FF.keep, fun a o h => ?_, fun a o h => ?_, fun a o h i => ?_, fun e m => ?_, rfl, rfl, rfl, Nat.le_trans FF.above (Nat.le_of_lt FF.ns.lt)⟩
  · (refine Mine.el_A (one a o h) fun zq0 zq1 => ?_; (first | subst zq0 | cases zq0); (first | subst zq1 | cases zq1)); exact ⟨m, FF.ns, hl⟩
  · (refine Mine.el_A (one a o h) fun zq0 zq1 => ?_; (first | subst zq0 | cases zq0); (first | subst zq1 | cases zq1)); exact ⟨get_big FF.above, (fun i => by (exact Mine.no_ft i)), fun _ => FF.above⟩
  · (refine Mine.el_A (one a o h) fun zq0 zq1 => ?_; (first | subst zq0 | cases zq0); (first | subst zq1 | cases zq1)); (exact Mine.no_ft i)
  · rw [List.mem_singleton.mp m]; exact ⟨hk, L, l, he, upd_self ..⟩
end
end Mine
end
section
open PySem PySem.W PyProof.Rows PySem.Calls
set_option linter.unusedVariables false
set_option Elab.async false
namespace Mine
noncomputable def updL (F : AH) : List (Nat × AO) → AH
  | [] => F
  | e :: l => updL (upd F e.1 e.2) l
noncomputable def FreshL (F : AH) : List (Nat × AO) → Prop
  | [] => True
  | e :: l => F e.1 = none ∧ FreshL (upd F e.1 e.2) l
theorem updL_join {F : AH} : ∀ {l : List (Nat × AO)} {G : AH}, Dj F G → FreshL (join F G) l → ∃ G', updL (join F G) l = join F G' ∧ Dj F G' ∧ (∀ (a : Nat) o, G a = some o → G' a = some o) ∧ ∀ e ∈ l, G' e.1 = some e.2
  | [], G, dj, _ => ⟨G, rfl, dj, fun _ _ h => h, fun e h => by cases h⟩
  | e :: l, G, dj, ⟨h1, h2⟩ => by
    (refine Mine.el_A (join_none h1) fun f g => ?_)
    rw [upd_join_r f] at h2
    (refine Mine.el_EAAA (updL_join (dj.r f) h2) fun G' a1 a2 a3 a4 => ?_)
    refine ⟨G', ?_, a2, fun a o h => a3 a o (upd_other (ne_fresh g h) h), fun x hx => ?_⟩
    · show updL (upd (join F G) e.1 e.2) l = _
      rw [upd_join_r f]; exact a1
    · rcases List.mem_cons.mp hx with rfl | hx
      · exact a3 _ _ (upd_self ..)
      · exact a4 x hx
theorem updL_new {F : AH} {l : List (Nat × AO)} (h : FreshL F l) : ∃ G', updL F l = join F G' ∧ Dj F G' ∧ ∀ e ∈ l, G' e.1 = some e.2 := by
  have h' : FreshL (join F (fun _ => none)) l := by rw [join_nil]; exact h
  (refine Mine.el_EAAA (updL_join (Dj.nil (F := F)) h') fun G' a1 a2 zq0 a4 => ?_; clear zq0)
  rw [join_nil] at a1
  exact ⟨G', a1, a2, a4⟩
end Mine
end
section
open PySem PySem.W PyProof.Rows PySem.Calls
set_option linter.unusedVariables false
set_option Elab.async false
namespace Mine
section
variable {prog : Program} {w : World} {K : Frag} {c : Cx prog w K} {envs outer : List Env} {env : Env} {H G : AH} {A : Around} {E : Value → Shared → Prop} {s : Shared}
set_option maxRecDepth 100000 in
end
end Mine
end
section
open PySem PySem.W PyProof.Rows PySem.Calls
set_option linter.unusedVariables false
set_option Elab.async false
namespace Mine
section
variable {prog : Program} {w : World} {K : Frag} {c : Cx prog w K} {envs outer : List Env} {env : Env} {H G : AH} {A : Around} {E : Value → Shared → Prop} {s : Shared}
theorem slice_any {value slice : PySem.Expr} {q : Nat} {xs ys : List Value} {vl vu : Value} {lo hi : Option Int} {Q : Value → Shared → Prop} (S : St c envs H s) (e : H q = some (.list xs)) (pl : IsPart vl lo) (pu : IsPart vu hi) (hz : xs.length ≤ 1000)
    (hy : ∀ vs : List Value, vs.map er = xs → (slicePick vs.toArray lo hi none).toList.map er = ys)
    (h : ∀ (d : Nat) s', H d = none → St c envs (upd H d (.list ys)) s' → Q (.ref d) s')
    (hs : subscripted slice false (.ref q) (.ref s.heap.objs.size) = operate [.ref s.heap.objs.size, .ref q] (getItem (.ref q) (.ref s.heap.objs.size)) := by with_unfolding_all rfl) (ht : ∀ r, letTemporaryGo value (.ref q) r = pure () := by intro _; with_unfolding_all rfl) :
    wpAny (model prog w) A (subscriptTail value slice (.ref q) (.ref s.heap.objs.size)) Q E { s with heap := s.heap.push { cls := .type "slice", data := .fields #[vl, vu, .none] } } := by
  (refine Mine.el_EA (S.list e) fun vs hl hm => ?_)
  have hsz : vs.toArray.size ≤ sizeLine := by
    rw [← hm, List.length_map] at hz
    rw [sizeLine_eq]
    simp
    omega
  have e1 : (s.heap.push { cls := .type "slice", data := .fields #[vl, vu, .none] }).objs.size = s.heap.objs.size + 1 := Heap.size_push ..
  have g1 := Heap.get?_push_size (s.heap.push { cls := .type "slice", data := .fields #[vl, vu, .none] }) (o := { cls := .type "list", data := .seq (slicePick vs.toArray lo hi none) }) rfl
  rw [e1] at g1
  have S1 := S.new (t := s.toks) (a := s.heap.objs.size) (o := .raw { cls := .type "slice", data := .fields #[vl, vu, .none] }) (fun b x q => Heap.get?_push_of_some _ q) (Nat.le_refl _) (by intro i; (exact Mine.no_ft i)) (Heap.get?_push_size _ rfl) (by rw [Heap.size_push]; exact Nat.le_succ _)
  have S2 := S1.new (t := s.toks) (a := s.heap.objs.size + 1) (o := .list ys) (fun b x q => Heap.get?_push_of_some { cls := .type "list", data := .seq (slicePick vs.toArray lo hi none) } q) (by rw [Heap.size_push]; exact Nat.le_refl _) (by intro i; (exact Mine.no_ft i)) ⟨_, _, g1, hy vs hm⟩ (by show (s.heap.push _).objs.size ≤ ((s.heap.push _).push _).objs.size; rw [Heap.size_push (s.heap.push _)]; exact Nat.le_succ _)
  have n0 : H s.heap.objs.size = none := S.fresh (Nat.le_refl _)
  have n1 : H (s.heap.objs.size + 1) = none := S.fresh (Nat.le_succ _)
  refine slice_listK hl pl pu (h _ _ n1 (S2.sub (Sub.upd2 ((Sub.refl _).fresh n0) (.inl rfl)) (S.frs.fresh n1))) hs ht hsz
theorem slice_from {value slice : PySem.Expr} {q : Nat} {xs : List Value} {i : Int} {u : Tok} {Q : Value → Shared → Prop} (S : St c envs H s) (e : H q = some (.list xs)) (h0 : 0 ≤ i) (hz : xs.length ≤ 1000)
    (h : ∀ (d : Nat) s', H d = none → St c envs (upd H d (.list (xs.drop i.toNat))) s' → Q (.ref d) s')
    (hs : subscripted slice false (.ref q) (.ref s.heap.objs.size) = operate [.ref s.heap.objs.size, .ref q] (getItem (.ref q) (.ref s.heap.objs.size)) := by with_unfolding_all rfl) (ht : ∀ r, letTemporaryGo value (.ref q) r = pure () := by intro _; with_unfolding_all rfl) :
    wpAny (model prog w) A (subscriptTail value slice (.ref q) (.ref s.heap.objs.size)) Q E { s with heap := s.heap.push { cls := .type "slice", data := .fields #[.int i u, .none, .none] } } :=
  slice_any S e (.int _ _) .none hz (fun vs hm => by
    have ex : i = (i.toNat : Int) := by omega
    rw [ex, slicePick_from' vs.toArray i.toNat, ← hm]
    simp [← ex]) h hs ht
theorem slice_upto {value slice : PySem.Expr} {q : Nat} {xs : List Value} {i : Int} {u : Tok} {Q : Value → Shared → Prop} (S : St c envs H s) (e : H q = some (.list xs)) (h0 : 0 ≤ i) (hz : xs.length ≤ 1000)
    (h : ∀ (d : Nat) s', H d = none → St c envs (upd H d (.list (xs.take i.toNat))) s' → Q (.ref d) s')
    (hs : subscripted slice false (.ref q) (.ref s.heap.objs.size) = operate [.ref s.heap.objs.size, .ref q] (getItem (.ref q) (.ref s.heap.objs.size)) := by with_unfolding_all rfl) (ht : ∀ r, letTemporaryGo value (.ref q) r = pure () := by intro _; with_unfolding_all rfl) :
    wpAny (model prog w) A (subscriptTail value slice (.ref q) (.ref s.heap.objs.size)) Q E { s with heap := s.heap.push { cls := .type "slice", data := .fields #[.none, .int i u, .none] } } :=
  slice_any S e .none (.int _ _) hz (fun vs hm => by
    have ex : i = (i.toNat : Int) := by omega
    rw [ex, slicePick_upto' vs.toArray i.toNat, ← hm]
    simp [← ex]) h hs ht
end
end Mine
end
section
set_option linter.unusedVariables false
set_option Elab.async false
namespace Mine
noncomputable def wsr (q : List (Int × Int)) : Prop := q.Pairwise fun a b => a.1 ≤ b.1
theorem place_wsr {x : Int × Int} : ∀ {q : List (Int × Int)}, wsr q → (∀ e ∈ q.take (place (klt x) q), e.1 ≤ x.1) ∧ ∀ e ∈ q.drop (place (klt x) q), x.1 ≤ e.1
  | [], _ => ⟨fun e h => by simp [place] at h, fun e h => by simp [place] at h⟩
  | y :: r, hs => by
    (refine Mine.el_A (List.pairwise_cons.mp hs) fun h1 h2 => ?_)
    (refine Mine.el_A (place_wsr (x := x) h2) fun a b => ?_)
    have hl := place_le (klt x) r
    unfold place
    split
    · rename_i hp
      rw [hp] at a b
      split
      · rename_i hy
        rw [klt_iff] at hy
        exact ⟨fun e h => by simp at h, fun e h => by
          rcases List.mem_cons.mp h with rfl | h
          · omega
          · exact b e h⟩
      · rename_i hy
        rw [klt_iff] at hy
        exact ⟨fun e h => by
          have : e = y := by simpa using h
          rw [this]; omega, fun e h => b e h⟩
    · rename_i n hp
      rw [hp] at a b hl
      refine ⟨fun e h => ?_, fun e h => b e h⟩
      rcases List.mem_cons.mp h with rfl | h
      · cases r with
        | nil => simp at hl
        | cons z r' =>
          have := h1 z (.head _)
          have := a z (.head _)
          omega
      · exact a e h
theorem ins_wsr {x : Int × Int} {q : List (Int × Int)} (hs : wsr q) : wsr (ins x q) := by
  (refine Mine.el_A (place_wsr (x := x) hs) fun a b => ?_)
  unfold ins put wsr
  rw [List.pairwise_append, List.pairwise_cons]
  have hs' := hs
  rw [← List.take_append_drop (place (klt x) q) q] at hs'
  (refine Mine.el_AA (List.pairwise_append.mp hs') fun c1 c2 c3 => ?_)
  refine ⟨c1, ⟨b, c2⟩, fun e he f hf => ?_⟩
  rcases List.mem_cons.mp hf with rfl | hf
  · exact a e he
  · exact c3 e he f hf
structure Qn (n : Nd) : Prop where
  s : wsr n.q
  r : ∀ e ∈ n.q, n.lw ≤ e.1 ∧ e.1 ≤ n.lw + 16
structure Ql (M : Mo) : Prop where
  q : ∀ i n, M i = some n → Qn n
  w : ∀ i n, M i = some n → i ≠ 0 → n.wt = 16 ∧ n.df = 0
section
variable {M : Mo} {i j x y p : Int} {d n : Nd}
theorem Qn.congr (h : Qn n) {m : Nd} (e1 : m.q = n.q) (e2 : m.lw = n.lw) : Qn m := ⟨by rw [e1]; exact h.s, by rw [e1, e2]; exact h.r⟩
theorem Qn.add (h : Qn n) {m : Nd} {e : Int × Int} (e1 : m.q = ins e n.q) (e2 : m.lw = n.lw) (h1 : n.lw ≤ e.1) (h2 : e.1 ≤ n.lw + 16) : Qn m := by
  refine ⟨by rw [e1]; exact ins_wsr h.s, fun x hx => ?_⟩
  rw [e1] at hx
  rw [e2]
  rcases mem_ins.mp hx with rfl | hx
  · exact ⟨h1, h2⟩
  · exact h.r x hx
theorem Qn.nil {m : Nd} (e : m.q = []) : Qn m := ⟨by rw [e]; exact List.Pairwise.nil, fun x hx => by rw [e] at hx; cases hx⟩
theorem Ql.put (h : Ql M) {m : Nd} (a : Qn m) (b : i ≠ 0 → m.wt = 16 ∧ m.df = 0) : Ql (M.put i m) := by
  have go : ∀ j n, M.put i m j = some n → (j = i ∧ n = m) ∨ M j = some n := fun j n hj => by
    by_cases q : j = i
    · subst q; rw [Mo.put_self] at hj; (replace hj := Option.some.inj hj; subst hj); exact .inl ⟨rfl, rfl⟩
    · rw [Mo.put_ne q] at hj; exact .inr hj
  refine ⟨fun j n hj => ?_, fun j n hj h0 => ?_⟩
  · rcases go j n hj with ⟨rfl, rfl⟩ | hj
    · exact a
    · exact h.q j n hj
  · rcases go j n hj with ⟨rfl, rfl⟩ | hj
    · exact b h0
    · exact h.w j n hj h0
theorem Ql.new (h : Ql M) : Ql (M.put i (newNd 16)) := h.put (.nil rfl) fun _ => ⟨rfl, rfl⟩
theorem Ql.adopt (h : Ql M) : Ql (adopt M i j) := by
  unfold Mine.adopt
  cases hi : M i with
  | none => exact h
  | some d =>
    cases hj : M j with
    | none => exact h
    | some n =>
      dsimp only
      exact (h.put (i := j) (m := { n with par := some i }) ((h.q j n hj).congr rfl rfl) fun h0 => h.w j n hj h0).put ((h.q i d hi).add (e := (d.lw, j)) rfl rfl (Int.le_refl _) (by show d.lw ≤ d.lw + 16; omega)) fun h0 => h.w i d hi h0
theorem Ql.adopts : ∀ (ks : List Int) {M : Mo}, Ql M → Ql (adopts M i ks)
  | [], M, h => h
  | k :: ks, M, h => Ql.adopts ks (M := Mine.adopt M i k) h.adopt
theorem Ql.clr (h : Ql M) : Ql (clr M i) := by
  unfold Mine.clr
  cases hi : M i with
  | none => exact h
  | some d => exact h.put (.nil rfl) fun h0 => h.w i d hi h0
theorem Ql.adoptX (h : Ql M) : Ql (adoptX M i j) := Ql.adopts _ (h.clr.adopt)
theorem pushAll_wsr : ∀ {q a : List (Int × Int)}, wsr a → wsr (pushAll a q)
  | [], a, h => h
  | e :: q, a, h => pushAll_wsr (q := q) (ins_wsr h)
theorem Ql.remv (h : Ql M) : Ql (remv M i j) := by
  unfold Mine.remv
  cases hi : M i with
  | none => exact h
  | some d =>
    refine h.put ⟨pushAll_wsr List.Pairwise.nil, fun e he => ?_⟩ fun h0 => h.w i d hi h0
    rcases mem_pushAll.mp he with he | he
    · cases he
    · exact (h.q i d hi).r e (List.mem_filter.mp he).1
theorem Ql.rmc (h : Ql M) {b : Bool} : Ql (rmc M i j b) := by
  unfold Mine.rmc
  cases b with
  | true => exact Ql.adopts _ h.remv
  | false => exact h.remv
theorem Ql.setw (h : Ql M) : Ql (setw M i 16) := by
  cases hi : M i with
  | none => unfold Mine.setw; rw [hi]; exact h
  | some n => rw [setw_eq hi]; exact h.put ((h.q i n hi).congr rfl rfl) fun h0 => ⟨rfl, (h.w i n hi h0).2⟩
theorem Ql.actv (h : Ql M) {b : Bool} : Ql (actv M i b) := by
  cases hi : M i with
  | none => unfold Mine.actv; rw [hi]; exact h
  | some n => rw [actv_eq hi]; exact h.put ((h.q i n hi).congr rfl rfl) fun h0 => h.w i n hi h0
theorem Ql.del (h : Ql M) : Ql (M.del x) := ⟨fun i n hi => by
  unfold Mo.del at hi
  split at hi
  · (exact Mine.no_ns hi)
  · exact h.q i n hi, fun i n hi h0 => by
  unfold Mo.del at hi
  split at hi
  · (exact Mine.no_ns hi)
  · exact h.w i n hi h0⟩
theorem Ql.made (h : Ql M) : Ql (made M y) := (h.new.adopt).actv
theorem Ql.repri (h : Ql M) {ex cy : Bool} : Ql (repri M x y 16 ex cy) := by
  have h1 : Ql (repri1 M x y 16 cy) := by
    unfold Mine.repri1
    cases cy with
    | true => exact Ql.rmc (h.setw.rmc).adopt
    | false => exact Ql.rmc h.setw
  unfold Mine.repri
  cases ex with
  | true => exact h1.adoptX
  | false => exact h1.adopt
end
end Mine
end
section
set_option linter.unusedVariables false
set_option Elab.async false
namespace Mine
noncomputable def qOf (M : Mo) (v : Int) : Option (List (Int × Int)) := (M v).map (·.q)
noncomputable def QK (rk : Int → Nat) (b : Nat) (M : Mo) : Prop := ∀ j m, M j = some m → rk j < b → (m.q.map (·.2)).Perm m.kids
section
variable {rk : Int → Nat} {M M' M0 : Mo} {i j v x : Int} {pp r es : List (Int × Int)} {e : Int × Int} {d n : Nd} {b : Nat}
theorem QK.mono (h : QK rk b M) {b' : Nat} (hb : b' ≤ b) : QK rk b' M := fun j m hj hr => h j m hj (by first | decide | omega)
theorem QK.kin (h : QK rk b M) (k : Kin M M') : QK rk b M' := fun j m hj hr => by
  (refine Mine.el_E (k.bw j m hj) fun m0 h0 => ?_)
  (refine Mine.el_EAAAAA (k.fw j m0 h0) fun m1 a _ c _ _ p => ?_)
  rw [hj] at a; (replace a := Option.some.inj a; subst a)
  rw [c]; exact p.trans (h j m0 h0 hr)
theorem QK.put (h : QK rk b M) {m : Nd} (hr : b ≤ rk i) : QK rk b (M.put i m) := fun j m' hj hr' => by
  have : j ≠ i := fun z => by rw [z] at hr'; omega
  rw [Mo.put_ne this] at hj; exact h j m' hj hr'
theorem qOf_put (h : v ≠ i) {m : Nd} : qOf (M.put i m) v = qOf M v := by unfold qOf; rw [Mo.put_ne h]
theorem qOf_fstep (h : v ≠ i) : qOf (fstep i M e) v = qOf M v := by
  unfold fstep
  cases hi : M i with
  | none => rfl
  | some d =>
    cases he : M e.2 with
    | none => rfl
    | some n =>
      dsimp only
      rw [qOf_put h]
      by_cases q : v = e.2
      · subst q; unfold qOf; rw [Mo.put_self, he]; rfl
      · exact qOf_put q
structure Ref (rk : Int → Nat) (M0 : Mo) : Prop where
  F : Fam 0 M0
  R : RkM rk M0
structure Pt (rk : Int → Nat) (M0 M : Mo) (b : Nat) : Prop where
  ok : OkM rk M
  qk : QK rk b M
  like : Like M0 M
theorem Pt.mono (h : Pt rk M0 M b) {b' : Nat} (hb : b' ≤ b) : Pt rk M0 M b' := ⟨h.ok, h.qk.mono hb, h.like⟩
theorem Pt.pop (h : Pt rk M0 M (rk i)) (hi : M i = some d) (hq : d.q = e :: r) : Pt rk M0 (M.put i { d with q := r }) (rk i) :=
  ⟨h.ok.pop hi hq, h.qk.put (Nat.le_refl _), h.like.trans (Like.put hi rfl rfl rfl rfl)⟩
theorem Pt.deep (h : Pt rk M0 M b) {k : Int} {f : Nat} (hk : ∃ m, M k = some m) (hf : rk k < f) (hb : rk k < b) : Pt rk M0 (sched f M k).2 b ∧ (∀ j, rk k < rk j → (sched f M k).2 j = M j) := by
  have R := Res.sched f h.ok hk hf
  have K := Kin.sched f h.ok hk hf
  exact ⟨⟨R.ok, h.qk.kin K, h.like.trans R.like⟩, R.far⟩
theorem Pt.told (h : Pt rk M0 M b) {k : Int} {f : Nat} (hk : ∃ m, M k = some m) (hf : rk k < f) (hb : rk k < b) :
    (∀ x, (sched f M k).1 = some x → Dsn M0 k x) ∧ ((sched f M k).1 = none → ∀ x, ¬ Dsn M0 k x) := by
  (refine Mine.el_A (sched_told f h.ok (fun j m hj hr => h.qk j m hj (by first | decide | omega)) hk hf) fun t1 t2 => ?_)
  exact ⟨fun x hx => (t1 x hx).like h.like.symm, fun hn x hx => t2 hn x (hx.like h.like)⟩
theorem Dsn.abv (F : Fam 0 M) (h : Dsn M i x) : Abv M i x := by
  induction h with
  | @here i x d n a b c _ =>
    (refine Mine.el_AAEA (F.dn i d a x b) fun h0 zq0 m c1 c2 => ?_; clear zq0)
    exact .up h0 (by rw [parOf_eq c1]; exact c2) .self
  | @down i k x d n a b c _ _ ih =>
    (refine Mine.el_AAEA (F.dn i d a k b) fun h0 zq0 m c1 c2 => ?_; clear zq0)
    exact ih.trans h0 (by rw [parOf_eq c1]; exact c2)
end
end Mine
end
section
set_option linter.unusedVariables false
set_option Elab.async false
namespace Mine
noncomputable def dfOf (M : Mo) (c : Int) : Option Int := (M c).map (·.df)
structure Os (M0 : Mo) (v : Int) (M M' : Mo) : Prop where
  q : qOf M' v = qOf M v
  df : ∀ c, parOf M0 c = some v → dfOf M' c = dfOf M c
section
variable {rk : Int → Nat} {M M' M'' M0 : Mo} {i j v x : Int} {pp r es : List (Int × Int)} {e : Int × Int} {d n : Nd} {b : Nat}
theorem Os.refl (M0 M : Mo) (v : Int) : Os M0 v M M := ⟨rfl, fun _ _ => rfl⟩
theorem Os.trans (a : Os M0 v M M') (b : Os M0 v M' M'') : Os M0 v M M'' := ⟨b.q.trans a.q, fun c hc => (b.df c hc).trans (a.df c hc)⟩
theorem Os.pop (hi : M i = some d) (hv : v ≠ i) : Os M0 v M (M.put i { d with q := r }) := by
  refine ⟨qOf_put hv, fun c _ => ?_⟩
  by_cases q : c = i
  · subst q; unfold dfOf; rw [Mo.put_self, hi]; rfl
  · unfold dfOf; rw [Mo.put_ne q]
theorem Os.fstep (hv : v ≠ i) (he : parOf M0 e.2 = some i) : Os M0 v M (fstep i M e) := by
  refine ⟨qOf_fstep hv, fun c hc => ?_⟩
  have ce : c ≠ e.2 := fun z => by rw [z, he] at hc; (replace hc := Option.some.inj hc; subst hc); exact hv rfl
  unfold Mine.fstep
  cases hi : M i with
  | none => rfl
  | some d =>
    cases hn : M e.2 with
    | none => rfl
    | some n =>
      dsimp only
      unfold dfOf
      by_cases q : c = i
      · subst q; rw [Mo.put_self, hi]; rfl
      · rw [Mo.put_ne q, Mo.put_ne ce]
theorem Os.fin (hv : v ≠ i) : ∀ (pp : List (Int × Int)) {M : Mo}, (∀ e ∈ pp, parOf M0 e.2 = some i) → Os M0 v M (fin i pp M)
  | [], M, _ => Os.refl _ _ _
  | e :: pp, M, h => (Os.fstep hv (h e (.head _))).trans (Os.fin hv pp fun x hx => h x (.tail _ hx))
inductive Trk (I : Mo → Prop) (rk : Int → Nat) (M0 : Mo) (v : Int) (M : Mo) (x : Int) (M' : Mo) : Prop
  | past (h : ¬ Abv M0 v x) (o : Os M0 v M M') : Trk I rk M0 v M x M'
  | thru (h : Abv M0 v x) (f : Nat) (M3 : Mo) (p : Pt rk M0 M3 (rk v + 1)) (hv : ∃ m, M3 v = some m) (hf : rk v < f) (o : Os M0 v M M3) (t : (sched f M3 v).1 = some x) (o2 : Os M0 v (sched f M3 v).2 M') (hI : I M3) : Trk I rk M0 v M x M'
theorem Trk.pre {I : Mo → Prop} (o : Os M0 v M M') (h : Trk I rk M0 v M' x M'') : Trk I rk M0 v M x M'' := by
  cases h with
  | past a b => exact .past a (o.trans b)
  | thru a f M3 p hv hf o3 t o2 hI => exact .thru a f M3 p hv hf (o.trans o3) t o2 hI
theorem Trk.post {I : Mo → Prop} (h : Trk I rk M0 v M x M') (o : Os M0 v M' M'') : Trk I rk M0 v M x M'' := by
  cases h with
  | past a b => exact .past a (b.trans o)
  | thru a f M3 p hv hf o3 t o2 hI => exact .thru a f M3 p hv hf o3 t (o2.trans o) hI
theorem goL_trk {f : Nat} {I : Mo → Prop} (Ip : ∀ {M : Mo} {i : Int} {d : Nd} {e : Int × Int} {r : List (Int × Int)}, I M → M i = some d → d.q = e :: r → I (M.put i { d with q := r })) (Is : ∀ (f : Nat) {M : Mo} {k : Int}, Pt rk M0 M (rk k + 1) → (∃ m, M k = some m) → rk k < f → I M → I (sched f M k).2) (hv : v ≠ i) (hvi : ¬ Abv M0 v i) (va : ∀ n, M0 v = some n → n.act = false)
    (ih : ∀ {M : Mo} {k : Int}, Pt rk M0 M (rk k + 1) → (∃ m, M k = some m) → rk k < f → (Abv M0 v k → k = v) → I M → (∀ x, (sched f M k).1 = some x → Trk I rk M0 v M x (sched f M k).2) ∧ ((sched f M k).1 = none → Os M0 v M (sched f M k).2)) (hf : rk i ≤ f) :
    ∀ (es : List (Int × Int)) {M : Mo} {pp : List (Int × Int)} {d : Nd}, Pt rk M0 M (rk i) → I M → M i = some d → d.q = es → (∀ e ∈ es, e.2 ≠ 0 ∧ parOf M0 e.2 = some i) →
    (∀ x, (goL (sched f) i es M pp).1 = some x → Trk I rk M0 v M x (goL (sched f) i es M pp).2.1) ∧ ((goL (sched f) i es M pp).1 = none → Os M0 v M (goL (sched f) i es M pp).2.1)
  | [], M, pp, d, p, II, hi, hq, hk => ⟨fun x h => (by (exact Mine.no_ns h)), fun _ => Os.refl _ _ _⟩
  | e :: r, M, pp, d, p, II, hi, hq, hk => by
    (refine Mine.el_A ((p.ok.ok i d hi).2.2.2.2.2 e (by rw [hq]; exact .head _)) fun zq0 hr => ?_; refine Mine.el_E zq0 fun n hn => ?_; clear zq0)
    have p1 := p.pop hi hq
    (refine Mine.el_A (hk e (.head _)) fun e0 ep => ?_)
    have hne : e.2 ≠ i := fun z => by rw [z] at hr; exact Nat.lt_irrefl _ hr
    have o1 : Os M0 v M (M.put i { d with q := r }) := Os.pop hi hv
    have abk : Abv M0 v e.2 → e.2 = v := fun h => by
      cases h with
      | self => rfl
      | up _ hp h2 => rw [ep] at hp; (replace hp := Option.some.inj hp; subst hp); exact absurd h2 hvi
    cases ha : n.act with
    | true =>
      rw [goL_act hi hn ha]
      refine ⟨fun x h => ?_, fun h => by (exact Mine.no_sn h)⟩
      (replace h := Option.some.inj h; subst h)
      refine .past (fun h => ?_) o1
      have ev := abk h
      (refine Mine.el_E (p.like.bw _ _ hn) fun n0 hn0 => ?_)
      (refine Mine.el_EAAAA (p.like.fw _ _ hn0) fun n1 h1 _ _ _ h5 => ?_)
      rw [hn] at h1; (replace h1 := Option.some.inj h1; subst h1)
      have := va n0 (by rw [← ev]; exact hn0)
      rw [ha, this] at h5; (exact Mine.no_tf h5)
    | false =>
      have hke : ∃ m, (M.put i { d with q := r }) e.2 = some m := ⟨n, (Mo.put_ne hne).trans hn⟩
      (refine Mine.el_A (ih (p1.mono (by first | decide | omega)) hke (by first | decide | omega) abk (Ip II hi hq)) fun i1 i2 => ?_)
      (refine Mine.el_A (p1.deep hke (f := f) (by first | decide | omega) hr) fun p2 far => ?_)
      have hii : (sched f (M.put i { d with q := r }) e.2).2 i = some { d with q := r } := (far i hr).trans (Mo.put_self ..)
      cases hz : (sched f (M.put i { d with q := r }) e.2).1 with
      | some x =>
        have hs : sched f (M.put i { d with q := r }) e.2 = (some x, (sched f (M.put i { d with q := r }) e.2).2) := by rw [← hz]
        rw [goL_some hi hn ha hs]
        refine ⟨fun y h => ?_, fun h => by (exact Mine.no_sn h)⟩
        (replace h := Option.some.inj h; subst h)
        exact (i1 _ hz).pre o1
      | none =>
        have hs : sched f (M.put i { d with q := r }) e.2 = (none, (sched f (M.put i { d with q := r }) e.2).2) := by rw [← hz]
        rw [goL_none hi hn ha hs]
        (refine Mine.el_A (goL_trk Ip Is hv hvi va ih hf r (pp := pp ++ [e]) p2 (Is f (p1.mono (by first | decide | omega)) hke (by first | decide | omega) (Ip II hi hq)) hii rfl fun x hx => hk x (.tail _ hx)) fun g1 g2 => ?_)
        have o2 := o1.trans (i2 hz)
        exact ⟨fun x h => (g1 x h).pre o2, fun h => o2.trans (g2 h)⟩
theorem track {I : Mo → Prop} (Ip : ∀ {M : Mo} {i : Int} {d : Nd} {e : Int × Int} {r : List (Int × Int)}, I M → M i = some d → d.q = e :: r → I (M.put i { d with q := r })) (Is : ∀ (f : Nat) {M : Mo} {k : Int}, Pt rk M0 M (rk k + 1) → (∃ m, M k = some m) → rk k < f → I M → I (sched f M k).2) (T : Ref rk M0) (va : ∀ n, M0 v = some n → n.act = false) (hl : ∃ z, Dsn M0 v z) :
    ∀ (f : Nat) {M : Mo} {i : Int}, Pt rk M0 M (rk i + 1) → (∃ m, M i = some m) → rk i < f → (Abv M0 v i → i = v) → I M →
    (∀ x, (sched f M i).1 = some x → Trk I rk M0 v M x (sched f M i).2) ∧ ((sched f M i).1 = none → Os M0 v M (sched f M i).2)
  | 0, M, i, _, _, h, _, _ => by omega
  | f + 1, M, i, p, hi, hf, hvi, II => by
    by_cases q : i = v
    · subst q
      (refine Mine.el_A (p.told hi hf (Nat.lt_succ_self _)) fun t1 t2 => ?_)
      refine ⟨fun x h => .thru ((t1 x h).abv T.F) (f + 1) M p hi hf (Os.refl _ _ _) h (Os.refl _ _ _) II, fun h => ?_⟩
      (refine Mine.el_E hl fun z hz => ?_; (try clear hl))
      exact absurd hz (t2 h z)
    · (refine Mine.el_E hi fun d hd => ?_; (try clear hi))
      have hk : ∀ e ∈ d.q, e.2 ≠ 0 ∧ parOf M0 e.2 = some i := fun e he => by
        have m1 : e.2 ∈ d.kids := (p.qk i d hd (Nat.lt_succ_self _)).mem_iff.mp (List.mem_map.mpr ⟨e, he, rfl⟩)
        (refine Mine.el_E (p.like.bw i d hd) fun d0 h0 => ?_)
        (refine Mine.el_EAAA (p.like.fw i d0 h0) fun d1 h1 _ h3 _ => ?_)
        rw [hd] at h1; (replace h1 := Option.some.inj h1; subst h1)
        rw [h3] at m1
        (refine Mine.el_AAEA (T.F.dn i d0 h0 e.2 m1) fun a _ m c e' => ?_)
        exact ⟨a, by rw [parOf_eq c, e']⟩
      have nvi : ¬ Abv M0 v i := fun z => q (hvi z)
      (refine Mine.el_A (goL_trk (f := f) Ip Is (Ne.symm q) nvi va (fun p h r a b => track Ip Is T va hl f p h r a b) (by first | decide | omega) d.q (pp := []) (p.mono (Nat.le_succ _)) II hd rfl hk) fun g1 g2 => ?_)
      have e1 : sched (f + 1) M i = ((goL (sched f) i d.q M []).1, fin i (goL (sched f) i d.q M []).2.2 (goL (sched f) i d.q M []).2.1) := sched_eq f hd rfl
      have hpp : ∀ e ∈ (goL (sched f) i d.q M []).2.2, parOf M0 e.2 = some i := fun e he => by
        (refine Mine.el_AA (Res.goL (rk := rk) (i := i) (f := sched f) (fun M ch o h hc => Res.sched f o h (by first | decide | omega)) d.q (pp := []) p.ok hd rfl) fun zq0 zq1 h3 => ?_; clear zq0; clear zq1)
        rcases h3 e he with h | h
        · cases h
        · exact (hk e h).2
      have o := Os.fin (M0 := M0) (Ne.symm q) (goL (sched f) i d.q M []).2.2 (M := (goL (sched f) i d.q M []).2.1) hpp
      rw [e1]
      exact ⟨fun x h => (g1 x h).post o, fun h => (g2 h).trans o⟩
end
end Mine
end
section
set_option linter.unusedVariables false
set_option Elab.async false
namespace Mine
section
variable {rk : Int → Nat} {M M' M0 : Mo} {i j v x : Int} {pp r es : List (Int × Int)} {e : Int × Int} {d n : Nd} {b : Nat}
theorem Ql.pop (h : Ql M) (hi : M i = some d) (hq : d.q = e :: r) : Ql (M.put i { d with q := r }) := by
  have g := h.q i d hi
  have gs := g.s
  rw [hq] at gs
  exact h.put ⟨(List.pairwise_cons.mp gs).2, fun x hx => g.r x (by rw [hq]; exact .tail _ hx)⟩ fun h0 => h.w i d hi h0
structure Jq (pp : List (Int × Int)) (d : Nd) : Prop where
  s : wsr pp
  r : ∀ e ∈ pp, d.lw ≤ e.1 ∧ e.1 ≤ d.lw + 16
  q : ∀ e ∈ pp, ∀ x ∈ d.q, e.1 ≤ x.1
theorem fin_ql : ∀ (pp : List (Int × Int)) {M : Mo} {d : Nd}, Ql M → M i = some d → Jq pp d → (∀ e ∈ pp, e.2 ≠ i ∧ e.2 ≠ 0 ∧ ∃ m, M e.2 = some m) →
    Ql (fin i pp M) ∧ ∃ d', fin i pp M i = some d' ∧ (∀ x ∈ d.q, x ∈ d'.q) ∧ ∀ e ∈ pp, (e.1 + 16, e.2) ∈ d'.q
  | [], M, d, h, hi, J, hp => ⟨h, d, hi, fun _ z => z, fun e he => by cases he⟩
  | e :: pp, M, d, h, hi, J, hp => by
    (refine Mine.el_AAE (hp e (.head _)) fun hne h0 n hn => ?_)
    (refine Mine.el_A (h.w _ n hn h0) fun w1 w2 => ?_)
    (refine Mine.el_A (J.r e (.head _)) fun r1 r2 => ?_)
    (refine Mine.el_A (List.pairwise_cons.mp J.s) fun s1 s2 => ?_)
    have g := h.q i d hi
    have ef : fstep i M e = (M.put e.2 { n with df := 0 }).put i { d with lw := e.1, q := ins (e.1 + 16, e.2) d.q } := by
      rw [fstep_eq hi hn, w1, w2]; rfl
    have Q1 : Ql (fstep i M e) := by
      rw [ef]
      refine (h.put (i := e.2) (m := { n with df := 0 }) ((h.q _ n hn).congr rfl rfl) fun _ => ⟨w1, rfl⟩).put (m := { d with lw := e.1, q := ins (e.1 + 16, e.2) d.q }) ⟨ins_wsr g.s, fun x hx => ?_⟩ fun hi0 => h.w i d hi hi0
      rcases mem_ins.mp hx with rfl | hx
      · exact ⟨by show e.1 ≤ e.1 + 16; omega, Int.le_refl _⟩
      · have := g.r x hx
        have := J.q e (.head _) x hx
        exact ⟨this, by show x.1 ≤ e.1 + 16; omega⟩
    have hi2 : fstep i M e i = some { d with lw := e.1, q := ins (e.1 + 16, e.2) d.q } := by rw [ef, Mo.put_self]
    have J2 : Jq pp { d with lw := e.1, q := ins (e.1 + 16, e.2) d.q } := by
      refine ⟨s2, fun y hy => ⟨s1 y hy, ?_⟩, fun y hy x hx => ?_⟩
      · have := J.r y (.tail _ hy)
        show y.1 ≤ e.1 + 16; omega
      · rcases mem_ins.mp hx with rfl | hx
        · have := J.r y (.tail _ hy)
          show y.1 ≤ e.1 + 16; omega
        · exact J.q y (.tail _ hy) x hx
    obtain ⟨A, d', hd', m1, m2⟩ := fin_ql pp Q1 hi2 J2 fun y hy => by
      (refine Mine.el_AA (hp y (.tail _ hy)) fun a b c => ?_)
      exact ⟨a, b, by rw [ef]; exact put_ex (put_ex c)⟩
    refine ⟨A, d', hd', fun x hx => m1 x (mem_ins.mpr (.inr hx)), fun y hy => ?_⟩
    rcases List.mem_cons.mp hy with rfl | hy
    · exact m1 _ (mem_ins.mpr (.inl rfl))
    · exact m2 y hy
inductive Spl (M0 : Mo) (es pp pp' : List (Int × Int)) (r : Option Int) (q : List (Int × Int)) : Prop
  | none (h : r = none) (a : pp' = pp ++ es) (b : q = []) : Spl M0 es pp pp' r q
  | some (x : Int) (es1 : List (Int × Int)) (e : Int × Int) (h : r = some x) (a : es = es1 ++ e :: q) (b : pp' = pp ++ (es1 ++ [e])) (t : Tell M0 e.2 x) (m : ∀ y ∈ es1, Mute M0 y.2) : Spl M0 es pp pp' r q
theorem goL_ql {f : Nat} (hf : rk i ≤ f) (ih : ∀ {M : Mo} {k : Int}, Pt rk M0 M (rk k + 1) → (∃ m, M k = some m) → rk k < f → Ql M → Ql (sched f M k).2) :
    ∀ (es : List (Int × Int)) {M : Mo} {pp : List (Int × Int)} {d : Nd}, Pt rk M0 M (rk i) → Ql M → M i = some d → d.q = es →
    Ql (goL (sched f) i es M pp).2.1 ∧ ∃ q, (goL (sched f) i es M pp).2.1 i = some { d with q := q } ∧ Spl M0 es pp (goL (sched f) i es M pp).2.2 (goL (sched f) i es M pp).1 q
  | [], M, pp, d, p, Q, hi, hq => ⟨Q, [], by show M i = _; rw [hi, ← hq], .none rfl (List.append_nil _).symm rfl⟩
  | e :: r, M, pp, d, p, Q, hi, hq => by
    (refine Mine.el_A ((p.ok.ok i d hi).2.2.2.2.2 e (by rw [hq]; exact .head _)) fun zq0 hr => ?_; refine Mine.el_E zq0 fun n hn => ?_; clear zq0)
    have p1 := p.pop hi hq
    have Q1 := Q.pop hi hq
    have hne : e.2 ≠ i := fun z => by rw [z] at hr; exact Nat.lt_irrefl _ hr
    (refine Mine.el_E (p.like.bw _ _ hn) fun n0 hn0 => ?_)
    (refine Mine.el_EAAAA (p.like.fw _ _ hn0) fun n1 h1 _ _ _ h5 => ?_)
    rw [hn] at h1; (replace h1 := Option.some.inj h1; subst h1)
    cases ha : n.act with
    | true =>
      rw [goL_act hi hn ha]
      exact ⟨Q1, r, Mo.put_self .., .some e.2 [] e rfl rfl rfl ⟨n0, hn0, .inl ⟨h5.symm.trans ha, rfl⟩⟩ fun y hy => by cases hy⟩
    | false =>
      have hke : ∃ m, (M.put i { d with q := r }) e.2 = some m := ⟨n, (Mo.put_ne hne).trans hn⟩
      have Q2 := ih (p1.mono (by first | decide | omega)) hke (by first | decide | omega) Q1
      (refine Mine.el_A (p1.deep hke (f := f) (by first | decide | omega) hr) fun p2 far => ?_)
      (refine Mine.el_A (p1.told hke (f := f) (by first | decide | omega) hr) fun t1 t2 => ?_)
      have hii : (sched f (M.put i { d with q := r }) e.2).2 i = some { d with q := r } := (far i hr).trans (Mo.put_self ..)
      cases hz : (sched f (M.put i { d with q := r }) e.2).1 with
      | some x =>
        have hs : sched f (M.put i { d with q := r }) e.2 = (some x, (sched f (M.put i { d with q := r }) e.2).2) := by rw [← hz]
        rw [goL_some hi hn ha hs]
        exact ⟨Q2, r, hii, .some x [] e rfl rfl rfl ⟨n0, hn0, .inr ⟨h5.symm.trans ha, t1 x hz⟩⟩ fun y hy => by cases hy⟩
      | none =>
        have hs : sched f (M.put i { d with q := r }) e.2 = (none, (sched f (M.put i { d with q := r }) e.2).2) := by rw [← hz]
        rw [goL_none hi hn ha hs]
        (refine Mine.el_AEA (goL_ql hf ih r (pp := pp ++ [e]) p2 Q2 hii rfl) fun Q3 q hq3 S => ?_)
        refine ⟨Q3, q, hq3, ?_⟩
        cases S with
        | none h a b => exact .none h (a.trans (by rw [List.append_assoc]; rfl)) b
        | some x es1 e' h a b t m =>
          refine .some x (e :: es1) e' h (congrArg (e :: ·) a) (b.trans (by simp)) t fun y hy => ?_
          rcases List.mem_cons.mp hy with rfl | hy
          · exact ⟨n0, hn0, h5.symm.trans ha, t2 hz⟩
          · exact m y hy
theorem Spl.jq {r' : Option Int} {q pp' : List (Int × Int)} (S : Spl M0 d.q [] pp' r' q) (g : Qn d) : Jq pp' { d with q := q } ∧ ∀ e ∈ pp', e ∈ d.q := by
  have key : ∀ es1 : List (Int × Int), d.q = es1 ++ q → Jq es1 { d with q := q } ∧ ∀ e ∈ es1, e ∈ d.q := fun es1 h => by
    have gs := g.s
    rw [h] at gs
    (refine Mine.el_AA (List.pairwise_append.mp gs) fun a b c => ?_)
    exact ⟨⟨a, fun e he => g.r e (by rw [h]; exact List.mem_append_left _ he), fun e he x hx => c e he x hx⟩, fun e he => by rw [h]; exact List.mem_append_left _ he⟩
  cases S with
  | none h a b =>
    subst b
    rw [a, List.nil_append]
    exact key d.q (List.append_nil _).symm
  | some x es1 e h a b t m =>
    rw [b, List.nil_append]
    exact key (es1 ++ [e]) (by rw [a]; simp)
theorem kidsQ (F : Fam 0 M0) (p : Pt rk M0 M (rk i + 1)) (hi : M i = some d) : ∀ e ∈ d.q, e.2 ≠ 0 ∧ parOf M0 e.2 = some i := fun e he => by
  have m1 : e.2 ∈ d.kids := (p.qk i d hi (Nat.lt_succ_self _)).mem_iff.mp (List.mem_map.mpr ⟨e, he, rfl⟩)
  (refine Mine.el_E (p.like.bw i d hi) fun d0 h0 => ?_)
  (refine Mine.el_EAAA (p.like.fw i d0 h0) fun d1 h1 _ h3 _ => ?_)
  rw [hi] at h1; (replace h1 := Option.some.inj h1; subst h1)
  rw [h3] at m1
  (refine Mine.el_AAEA (F.dn i d0 h0 e.2 m1) fun a _ m c e' => ?_)
  exact ⟨a, by rw [parOf_eq c, e']⟩
theorem turn_at (T : Ref rk M0) : ∀ (f : Nat) {M : Mo} {i : Int} {d : Nd}, Pt rk M0 M (rk i + 1) → M i = some d → rk i < f → Ql M →
    Ql (sched f M i).2 ∧ ∃ q q' pp', Spl M0 d.q [] pp' (sched f M i).1 q ∧ qOf (sched f M i).2 i = some q' ∧ (∀ x ∈ q, x ∈ q') ∧ ∀ e ∈ pp', (e.1 + 16, e.2) ∈ q'
  | 0, M, i, d, _, _, h, _ => by omega
  | f + 1, M, i, d, p, hi, hf, Q => by
    obtain ⟨Q1, q, hq, S⟩ := goL_ql (f := f) (by first | decide | omega) (fun {M k} p hk h Q => by
      (refine Mine.el_E hk fun m hm => ?_; (try clear hk))
      exact (turn_at T f p hm h Q).1) d.q (pp := []) (p.mono (Nat.le_succ _)) Q hi rfl
    (refine Mine.el_A (S.jq (Q.q i d hi)) fun J hm => ?_)
    have e1 : sched (f + 1) M i = ((goL (sched f) i d.q M []).1, fin i (goL (sched f) i d.q M []).2.2 (goL (sched f) i d.q M []).2.1) := sched_eq f hi rfl
    (refine Mine.el_AA (Res.goL (rk := rk) (i := i) (f := sched f) (fun M ch o h hc => Res.sched f o h (by first | decide | omega)) d.q (pp := []) p.ok hi rfl) fun RR zq0 zq1 => ?_; clear zq0; clear zq1)
    obtain ⟨Q2, d', hd', m1, m2⟩ := fin_ql (goL (sched f) i d.q M []).2.2 Q1 hq J fun e he => by
      have he2 := hm e he
      (refine Mine.el_A ((p.ok.ok i d hi).2.2.2.2.2 e he2) fun hx hr => ?_)
      refine ⟨fun z => by rw [z] at hr; exact Nat.lt_irrefl _ hr, (kidsQ T.F p hi e he2).1, ?_⟩
      (refine Mine.el_E hx fun m hm => ?_; (try clear hx))
      (refine Mine.el_EA (RR.like.fw _ m hm) fun m' h' _ => ?_)
      exact ⟨m', h'⟩
    rw [e1]
    exact ⟨Q2, q, d'.q, _, S, by show Option.map _ (fin i (goL (sched f) i d.q M []).2.2 (goL (sched f) i d.q M []).2.1 i) = _; rw [hd']; rfl, m1, m2⟩
end
end Mine
end
section
set_option linter.unusedVariables false
set_option Elab.async false
namespace Mine
section
variable {rk : Int → Nat} {M M' M0 N : Mo} {i j v x y c c' p cx cy a b : Int} {pp r es : List (Int × Int)} {e : Int × Int} {d n : Nd}
theorem Abv.child (h : Abv M i x) (ne : x ≠ i) : ∃ c, c ≠ 0 ∧ parOf M c = some i ∧ Abv M c x := by
  induction h with
  | self => exact absurd rfl ne
  | @up x p h0 hp ha ih =>
    by_cases q : p = i
    · subst q; exact ⟨x, h0, hp, .self⟩
    · (refine Mine.el_EAA (ih q) fun c c0 cp ca => ?_)
      exact ⟨c, c0, cp, .up h0 hp ca⟩
theorem Abv.lin (h : Abv M c x) (h' : Abv M c' x) : Abv M c c' ∨ Abv M c' c := by
  induction h with
  | self => exact .inr h'
  | @up x p h0 hp ha ih =>
    cases h' with
    | self => exact .inl (.up h0 hp ha)
    | up _ hp' ha' =>
      rw [hp] at hp'; (replace hp' := Option.some.inj hp'; subst hp')
      exact ih ha'
theorem Ref.kid (T : Ref rk M0) (c0 : c ≠ 0) (hp : parOf M0 c = some v) : rk c < rk v := by
  (refine Mine.el_EEAAA (T.F.pp c0 c0 hp) fun _ d _ _ e3 e4 => ?_)
  exact T.R v d e3 c e4
theorem Ref.kids_uniq (T : Ref rk M0) (c0 : c ≠ 0) (c0' : c' ≠ 0) (hp : parOf M0 c = some v) (hp' : parOf M0 c' = some v) (h : Abv M0 c x) (h' : Abv M0 c' x) : c = c' := by
  have key : ∀ {c c' : Int}, c' ≠ 0 → parOf M0 c = some v → c ≠ 0 → parOf M0 c' = some v → Abv M0 c c' → c = c' := fun {c c'} c0' hp c0 hp' z => by
    cases z with
    | self => rfl
    | up _ h2 h3 =>
      rw [hp'] at h2; (replace h2 := Option.some.inj h2; subst h2)
      have r1 := T.kid c0 hp
      rcases h3.lt T.F T.R with q | q
      · rw [q] at r1; exact absurd r1 (Nat.lt_irrefl _)
      · omega
  rcases h.lin h' with z | z
  · exact key c0' hp c0 hp' z
  · exact (key c0 hp' c0' hp z).symm
theorem Ref.part (T : Ref rk M0) (n1 : ¬ Abv M0 x y) (n2 : ¬ Abv M0 y x) : ∀ (k : Nat) {i : Int}, rk i ≤ k → Abv M0 i x → Abv M0 i y →
    ∃ v cx cy, cx ≠ cy ∧ cx ≠ 0 ∧ cy ≠ 0 ∧ parOf M0 cx = some v ∧ parOf M0 cy = some v ∧ Abv M0 cx x ∧ Abv M0 cy y
  | k, i, hk, hx, hy => by
    have nx : x ≠ i := fun z => n1 (z ▸ hy)
    have ny : y ≠ i := fun z => n2 (z ▸ hx)
    (refine Mine.el_EAA (hx.child nx) fun cx x0 xp xa => ?_)
    (refine Mine.el_EAA (hy.child ny) fun cy y0 yp ya => ?_)
    by_cases q : cx = cy
    · subst q
      have r1 := T.kid x0 xp
      match k with
      | 0 => omega
      | k + 1 => exact Ref.part T n1 n2 k (by first | decide | omega) xa ya
    · exact ⟨i, cx, cy, q, x0, y0, xp, yp, xa, ya⟩
theorem Ref.live (T : Ref rk M0) (hy : M0 y = some n) (ha : n.act = true) (hb : ∀ u m, Abv M0 u y → u ≠ y → M0 u = some m → m.act = false) : ∀ (k : Nat) {c : Int}, rk c ≤ k → Abv M0 c y → Tell M0 c y
  | k, c, hk, h => by
    by_cases q : y = c
    · subst q; exact ⟨n, hy, .inl ⟨ha, rfl⟩⟩
    · (refine Mine.el_EAA (h.child q) fun z z0 zp za => ?_)
      (refine Mine.el_EEAAA (T.F.pp z0 z0 zp) fun _ d e1 _ e3 e4 => ?_)
      have r1 := T.R c d e3 z e4
      match k with
      | 0 => omega
      | k + 1 =>
        (refine Mine.el_EA (Ref.live T hy ha hb k (by first | decide | omega) za) fun m hm t => ?_)
        refine ⟨d, e3, .inr ⟨hb c d h (Ne.symm q) e3, ?_⟩⟩
        rcases t with ⟨t1, rfl⟩ | ⟨t1, t2⟩
        · exact .here e3 e4 hm t1
        · exact .down e3 e4 hm t1 t2
theorem Tell.abv (F : Fam 0 M) (h : Tell M c x) : Abv M c x := by
  (refine Mine.el_EA h fun n hn t => ?_; (try clear h))
  rcases t with ⟨_, rfl⟩ | ⟨_, t⟩
  · exact .self
  · exact t.abv F
theorem key_uniq {q : List (Int × Int)} (h : (q.map (·.2)).Nodup) {e f : Int × Int} (he : e ∈ q) (hf : f ∈ q) (z : e.2 = f.2) : e = f := by
  induction q with
  | nil => cases he
  | cons g q ih =>
    rw [List.map_cons, List.nodup_cons] at h
    by_cases q1 : e = g
    · by_cases q2 : f = g
      · rw [q1, q2]
      · exact (h.1 (List.mem_map.mpr ⟨f, (List.mem_cons.mp hf).resolve_left q2, by rw [← z, q1]⟩)).elim
    · by_cases q2 : f = g
      · exact (h.1 (List.mem_map.mpr ⟨e, (List.mem_cons.mp he).resolve_left q1, by rw [z, q2]⟩)).elim
      · exact ih h.2 ((List.mem_cons.mp he).resolve_left q1) ((List.mem_cons.mp hf).resolve_left q2)
noncomputable def Two (N : Mo) (v cx cy a b : Int) : Prop := ∃ q, qOf N v = some q ∧ (a, cx) ∈ q ∧ (b, cy) ∈ q
structure Prt (rk : Int → Nat) (M0 : Mo) (x y v cx cy : Int) : Prop where
  ne : cx ≠ cy
  x0 : cx ≠ 0
  y0 : cy ≠ 0
  px : parOf M0 cx = some v
  py : parOf M0 cy = some v
  ax : Abv M0 cx x
  ay : Abv M0 cy y
  ly : Tell M0 cy y
  hv : ∃ m, M0 v = some m ∧ m.act = false
theorem pair_turn (T : Ref rk M0) (P : Prt rk M0 x y v cx cy) {f : Nat} (hf : rk 0 < f) (r0 : parOf M0 0 = none) (p : Pt rk M0 N (rk 0 + 1)) (h0 : ∃ m, N 0 = some m) (Q : Ql N) (h2 : Two N v cx cy a b) (t : (sched f N 0).1 = some x) :
    a ≤ b ∧ Two (sched f N 0).2 v cx cy (a + 16) b := by
  (refine Mine.el_EAA h2 fun q hq ma mb => ?_; (try clear h2))
  (refine Mine.el_EA P.hv fun mv hmv hva => ?_)
  (refine Mine.el_EA P.ly fun ny hny ty => ?_)
  (refine Mine.el_EEAAA (T.F.pp P.y0 P.y0 P.py) fun _ dv ec1 ec2 ec3 ec4 => ?_)
  rw [hmv] at ec3; (replace ec3 := Option.some.inj ec3; subst ec3)
  rw [hny] at ec1; (replace ec1 := Option.some.inj ec1; subst ec1)
  have liv : ∃ z, Dsn M0 v z := by
    rcases ty with ⟨t1, rfl⟩ | ⟨t1, t2⟩
    · exact ⟨_, .here hmv ec4 hny t1⟩
    · exact ⟨_, .down hmv ec4 hny t1 t2⟩
  have vx : Abv M0 v x := P.ax.trans P.x0 P.px
  obtain ⟨tr, -⟩ := track (I := Ql) (fun h hi hq => h.pop hi hq) (fun f {M k} p hk h Q => by
    (refine Mine.el_E hk fun m hm => ?_; (try clear hk))
    exact (turn_at T f p hm h Q).1) T (fun n hn => by rw [hmv] at hn; (replace hn := Option.some.inj hn; subst hn); exact hva) liv f p h0 hf (fun z => by
      cases z with
      | self => rfl
      | up z0 _ _ => exact absurd rfl z0) Q
  cases tr x t with
  | past h o => exact absurd vx h
  | thru h f3 M3 p3 hv3 hf3 o3 t3 o2 Q3 =>
    (refine Mine.el_E hv3 fun m hm => ?_; (try clear hv3))
    have hmq : m.q = q := by
      have := o3.q
      rw [hq] at this
      unfold qOf at this
      rw [hm] at this
      exact Option.some.inj this
    (refine Mine.el_AEEEAAA (turn_at T f3 p3 hm hf3 Q3) fun zq0 q1 q' pp' S hq' k1 k2 => ?_; clear zq0)
    rw [t3] at S
    have hkq := kidsQ T.F p3 hm
    have nd : (m.q.map (·.2)).Nodup := by
      (refine Mine.el_E (p3.like.bw v m hm) fun m0 h0' => ?_)
      (refine Mine.el_EAAA (p3.like.fw v m0 h0') fun m1 g1 _ g3 _ => ?_)
      rw [hm] at g1; (replace g1 := Option.some.inj g1; subst g1)
      refine (p3.qk v m hm (Nat.lt_succ_self _)).symm.nodup ?_
      rw [g3]; exact T.F.nd v m0 h0'
    cases S with
    | none h _ _ => (exact Mine.no_sn h)
    | some x' es1 e hx es bb tt mm =>
      (replace hx := Option.some.inj hx; subst hx)
      have hee : e ∈ m.q := by rw [es]; exact List.mem_append_right _ (.head _)
      (refine Mine.el_A (hkq e hee) fun e0 ep => ?_)
      have ec : e.2 = cx := T.kids_uniq e0 P.x0 ep P.px (tt.abv T.F) P.ax
      rw [← hmq] at ma mb
      have ea : e = (a, cx) := key_uniq nd hee ma ec
      have hb : (b, cy) ∈ q1 := by
        rw [es] at mb
        rcases List.mem_append.mp mb with z | z
        · (refine Mine.el_EAA (mm _ z) fun n' g1 g2 g3 => ?_)
          rw [hny] at g1; (replace g1 := Option.some.inj g1; subst g1)
          rcases ty with ⟨t1, _⟩ | ⟨_, t2⟩
          · rw [t1] at g2; (exact Mine.no_tf g2)
          · exact absurd t2 (g3 y)
        · rcases List.mem_cons.mp z with z | z
          · rw [← z] at ec; exact absurd ec.symm P.ne
          · exact z
      have gs := (Q3.q v m hm).s
      rw [es] at gs
      have le := (List.pairwise_cons.mp (List.pairwise_append.mp gs).2.1).1 _ hb
      rw [ea] at le
      refine ⟨le, q', o2.q.trans hq', ?_, k1 _ hb⟩
      have := k2 e (by rw [bb]; exact List.mem_append_right _ (List.mem_append_right _ (List.mem_singleton_self _)))
      rw [ea] at this
      exact this
end
end Mine
end
section
set_option linter.unusedVariables false
set_option Elab.async false
namespace Mine
structure T6 (M : Mo) (A : Tb) (C : Int → Bool) : Prop where
  sh : Sh 0 M (fun j => j = 0 ∨ (A.lookup j).isSome = true) (fun j => A.lookup j) C
  ql : Ql M
  rng : ∀ j, (A.lookup j).isSome = true → 1 ≤ j ∧ j ≤ 7
  an : (A.map (·.1)).Nodup
section
variable {M M' M1 M2 M3 : Mo} {A : Tb} {C C' : Int → Bool} {x y p : Int} {b : Bool} {rk : Int → Nat}
theorem T6.mem (T : T6 M A C) : ∀ j, (j = 0 ∨ (A.lookup j).isSome = true) → j ∈ eight := fun j h => by
  rcases h with h | h
  · subst h; decide
  · have := T.rng j h
    unfold eight
    simp only [List.mem_cons, List.not_mem_nil, or_false]
    omega
theorem T6.x0 (T : T6 M A C) (h : (A.lookup x).isSome = true) : x ≠ 0 := by have := T.rng x h; omega
theorem T6.z0 (T : T6 M A C) : A.lookup 0 = none := by
  cases z : A.lookup 0 with
  | none => rfl
  | some v => have := T.rng 0 (by rw [z]; rfl); omega
theorem T6.small (T : T6 M A C) : Bd 9 M ∧ ∃ rk, RkM rk M ∧ OkM rk M ∧ ∀ j, rk j ≤ 9 := T.sh.small eight T.mem (by decide)
theorem T6.congr (T : T6 M A C) (h : ∀ j, (A.lookup j).isSome = true → C j = C' j) (h0 : C 0 = C' 0) : T6 M A C' :=
  ⟨T.sh.congr (fun _ => Iff.rfl) (fun _ _ _ => rfl) (fun j hj => by
    rcases hj with rfl | hj
    · exact h0
    · exact h j hj), T.ql, T.rng, T.an⟩
theorem T6.actv (T : T6 M A C) (h0 : x ≠ 0) : T6 (actv M x b) A (fun j => if j = x then b else C j) := ⟨T.sh.actv h0, T.ql.actv, T.rng, T.an⟩
theorem T6.c0 (T : T6 M A C) : C 0 = false := by
  (refine Mine.el_EA T.sh.fam.root fun r h1 h2 => ?_)
  rw [← T.sh.act 0 r h1]; exact h2
theorem T6.pt (T : T6 M A C) (ok : OkM rk M) {b : Nat} : Pt rk M M b := ⟨ok, fun j m hj _ => T.sh.fam.qk j m hj, Like.refl M⟩
theorem T6.next (T : T6 M A C) (R : RkM rk M) (ok : OkM rk M) (hb : ∀ j, rk j ≤ 9) : T6 (sched 10 M 0).2 A C := by
  (refine Mine.el_EA T.sh.fam.root fun r hr zq0 => ?_; clear zq0)
  have h0 : rk 0 < 10 := Nat.lt_succ_of_le (hb 0)
  have K := Kin.sched 10 ok ⟨r, hr⟩ h0
  have RS := Res.sched 10 ok ⟨r, hr⟩ h0
  exact ⟨T.sh.kin K fun i n hi => let h := RS.ok.ok i n hi; ⟨h.1, h.2.1, h.2.2.1, h.2.2.2.1⟩, (turn_at ⟨T.sh.fam, R⟩ 10 (T.pt ok) hr h0 T.ql).1, T.rng, T.an⟩
theorem T6.no0 (T : T6 M A C) : ∀ v, ¬ Anc (fun j => A.lookup j) 0 v := fun v hv => by
  induction hv with
  | @one v e =>
    have e' : A.lookup 0 = some v := e
    rw [T.z0] at e'; (exact Mine.no_ns e')
  | more _ _ ih => exact ih
theorem T6.turn (T : T6 M A C) : ∃ rk, RkM rk M ∧ OkM rk M ∧ (∀ j, rk j ≤ 9) ∧ (∀ x M', sched 10 M 0 = (some x, M') → T6 M' A C ∧ (A.lookup x).isSome = true ∧ C x = true ∧ ∀ v, Anc (fun j => A.lookup j) x v → v = 0 ∨ C v = false) ∧
    ∀ M', sched 10 M 0 = (none, M') → T6 M' A C ∧ ∀ j, (A.lookup j).isSome = true → C j = false := by
  (refine Mine.el_AEAA T.small fun zq0 rk R ok hb => ?_; clear zq0)
  (refine Mine.el_EA T.sh.fam.root fun r hr zq0 => ?_; clear zq0)
  have h0 : rk 0 < 10 := Nat.lt_succ_of_le (hb 0)
  (refine Mine.el_A (sched_told 10 ok (fun j m hj _ => T.sh.fam.qk j m hj) ⟨r, hr⟩ h0) fun t1 t2 => ?_)
  have T' := T.next R ok hb
  refine ⟨rk, R, ok, hb, fun x M' hs => ?_, fun M' hs => ?_⟩
  · rw [hs] at T'
    obtain ⟨⟨n, hn, ha⟩, g2⟩ := (t1 x (by rw [hs])).anc T.sh (fun v hv => by
      rcases hv with rfl | hv
      · exact .inl rfl
      · exact absurd hv (T.no0 v))
    have hC := (T.sh.act x n hn).symm.trans ha
    refine ⟨T', ((T.sh.dom x).mp ⟨n, hn⟩).resolve_left (fun z => ?_), hC, g2⟩
    rw [z, T.c0] at hC; (exact Mine.no_ft hC)
  · rw [hs] at T'
    refine ⟨T', fun j hj => ?_⟩
    (refine Mine.el_E ((T.sh.dom j).mpr (.inr hj)) fun n hn => ?_)
    rw [← T.sh.act j n hn]
    exact mute_all T.sh R hb (t2 (by rw [hs])) j n hn
theorem T6.root (T : T6 M A C) (R : RkM rk M) (hb : ∀ j, rk j ≤ 9) : ∀ (k : Nat) {x : Int}, 9 - rk x ≤ k → (∃ n, M x = some n) → Abv M 0 x
  | k, x, hk, ⟨n, hn⟩ => by
    by_cases h0 : x = 0
    · subst h0; exact .self
    · (refine Mine.el_EEAA (T.sh.fam.up x n hn h0 h0) fun p d e1 e2 e3 => ?_)
      have r1 := R p d e2 x e3
      have r2 := hb p
      match k with
      | 0 => omega
      | k + 1 => exact .up h0 (by rw [parOf_eq hn]; exact e1) (T6.root T R hb k (by first | decide | omega) ⟨d, e2⟩)
theorem T6.three (T : T6 M A fun j => decide (j = x ∨ j = y)) (hx : (A.lookup x).isSome = true) (hy : (A.lookup y).isSome = true) (ne : x ≠ y) (n1 : ¬ Anc (fun j => A.lookup j) y x) (n2 : ¬ Anc (fun j => A.lookup j) x y)
    (s1 : sched 10 M 0 = (some x, M1)) (s2 : sched 10 M1 0 = (some x, M2)) (s3 : sched 10 M2 0 = (some x, M3)) : False := by
  (refine Mine.el_AEAA T.small fun zq0 rk R ok hb => ?_; clear zq0)
  have h0 : rk 0 < 10 := Nat.lt_succ_of_le (hb 0)
  (refine Mine.el_EA T.sh.fam.root fun r hr zq0 => ?_; clear zq0)
  have F : Ref rk M := ⟨T.sh.fam, R⟩
  have a1 : ¬ Abv M x y := fun z => by
    rcases (abv_anc T.sh T.z0).mp z with z | z
    · exact ne z.symm
    · exact n1 z
  have a2 : ¬ Abv M y x := fun z => by
    rcases (abv_anc T.sh T.z0).mp z with z | z
    · exact ne z
    · exact n2 z
  have hxn := (T.sh.dom x).mpr (.inr hx)
  have hyn := (T.sh.dom y).mpr (.inr hy)
  (refine Mine.el_EEEAAAAAA (F.part a1 a2 _ (Nat.le_refl _) (T.root R hb _ (Nat.le_refl _) hxn) (T.root R hb _ (Nat.le_refl _) hyn)) fun v cx cy hne cx0 cy0 px py ax ay => ?_)
  (refine Mine.el_E hyn fun ny hny => ?_; (try clear hyn))
  (refine Mine.el_EEAAA (T.sh.fam.pp cx0 cx0 px) fun nx' dv g1 g2 g3 g4 => ?_)
  (refine Mine.el_EEAAA (T.sh.fam.pp cy0 cy0 py) fun ny' dv' k1 k2 k3 k4 => ?_)
  rw [g3] at k3; (replace k3 := Option.some.inj k3; subst k3)
  have ly : Tell M cy y := F.live hny (by rw [T.sh.act y ny hny]; simp) (fun u m hu hne hm => by
    rw [T.sh.act u m hm]
    have : u ≠ x := fun z => a1 (z ▸ hu)
    simp [this, hne]) _ (Nat.le_refl _) ay
  have vi : dv.act = false := by
    rw [T.sh.act v dv g3]
    have e1 : v ≠ x := fun z => a1 (z ▸ ay.trans cy0 py)
    have e2 : v ≠ y := fun z => a2 (z ▸ ax.trans cx0 px)
    simp [e1, e2]
  have P : Prt rk M x y v cx cy := ⟨hne, cx0, cy0, px, py, ax, ay, ly, ⟨dv, g3, vi⟩⟩
  have qk := T.sh.fam.qk v dv g3
  (refine Mine.el_EA (List.mem_map.mp (qk.mem_iff.mpr g4)) fun zq0 ha zq1 => ?_; obtain ⟨a, _⟩ := zq0; (first | subst zq1 | cases zq1))
  (refine Mine.el_EA (List.mem_map.mp (qk.mem_iff.mpr k4)) fun zq0 hbm zq1 => ?_; obtain ⟨b, _⟩ := zq0; (first | subst zq1 | cases zq1))
  have tw : Two M v _ _ a b := ⟨dv.q, by unfold qOf; rw [g3]; rfl, ha, hbm⟩
  have b1 := (T.ql.q v dv g3).r _ ha
  have b2 := (T.ql.q v dv g3).r _ hbm
  have p0 : Pt rk M M (rk 0 + 1) := T.pt ok
  (refine Mine.el_A (pair_turn F P h0 T.sh.r0 p0 ⟨r, hr⟩ T.ql tw (by rw [s1])) fun l1 tw1 => ?_)
  (refine Mine.el_A (p0.deep (k := 0) (f := 10) ⟨r, hr⟩ h0 (Nat.lt_succ_self _)) fun p1 zq0 => ?_; clear zq0)
  (refine Mine.el_A (turn_at F 10 p0 hr h0 T.ql) fun Q1 zq0 => ?_; clear zq0)
  rw [s1] at tw1 p1 Q1
  have ex : ∀ {N : Mo}, Pt rk M N (rk 0 + 1) → ∃ m, N 0 = some m := fun p => by
    (refine Mine.el_EA (p.like.fw 0 r hr) fun m hm _ => ?_)
    exact ⟨m, hm⟩
  (refine Mine.el_A (pair_turn F P h0 T.sh.r0 p1 (ex p1) Q1 tw1 (by rw [s2])) fun l2 tw2 => ?_)
  (refine Mine.el_A (p1.deep (k := 0) (f := 10) (ex p1) h0 (Nat.lt_succ_self _)) fun p2 zq0 => ?_; clear zq0)
  (refine Mine.el_E (ex p1) fun m1 hm1 => ?_)
  (refine Mine.el_A (turn_at F 10 p1 hm1 h0 Q1) fun Q2 zq0 => ?_; clear zq0)
  rw [s2] at tw2 p2 Q2
  (refine Mine.el_A (pair_turn F P h0 T.sh.r0 p2 (ex p2) Q2 tw2 (by rw [s3])) fun l3 zq0 => ?_; clear zq0)
  simp only at b1 b2
  omega
end
end Mine
end
section
set_option linter.unusedVariables false
set_option Elab.async false
namespace Mine
inductive Tk (Ma : Mo) : List Int → Mo → Prop
  | nil : Tk Ma [] Ma
  | snoc {ts : List Int} {M M' : Mo} {t : Int} : Tk Ma ts M → sched 10 M 0 = (some t, M') → Tk Ma (ts ++ [t]) M'
section
variable {Ma M3 : Mo} {A : Tb} {C : Int → Bool} {x y : Int} {ts : List Int}
theorem Tk.each (h : Tk Ma ts M3) (T : T6 Ma A C) : T6 M3 A C ∧ ∀ t ∈ ts, C t = true ∧ ∀ v, Anc (fun j => A.lookup j) t v → v = 0 ∨ C v = false := by
  induction h with
  | nil => exact ⟨T, fun t ht => by cases ht⟩
  | snoc h hs ih =>
    (refine Mine.el_A ih fun T1 h1 => ?_; (try clear ih))
    (refine Mine.el_EAAAA T1.turn fun rk zq0 zq1 zq2 tn zq3 => ?_; clear zq0; clear zq1; clear zq2; clear zq3)
    (refine Mine.el_AAA (tn _ _ hs) fun T2 zq0 c1 c2 => ?_; clear zq0)
    refine ⟨T2, fun t ht => ?_⟩
    rcases List.mem_append.mp ht with ht | ht
    · exact h1 t ht
    · rw [List.mem_singleton.mp ht]; exact ⟨c1, c2⟩
theorem Tk.last (h : Tk Ma ts M3) : ∀ {us : List Int} {u : Int}, ts = us ++ [u] → ∃ M, Tk Ma us M ∧ sched 10 M 0 = (some u, M3) := by
  cases h with
  | nil => intro us u e; cases us <;> cases e
  | snoc h hs =>
    intro us u e
    (refine Mine.el_A (List.append_inj' e rfl) fun zq0 e2 => ?_; (first | subst zq0 | cases zq0))
    cases e2
    exact ⟨_, h, hs⟩
theorem Tk.none (h : Tk Ma [] M3) : M3 = Ma := by
  generalize e : ([] : List Int) = l at h
  cases h with
  | nil => rfl
  | snoc _ _ => exact absurd (congrArg List.length e) (by simp)
theorem tk_one (h : Tk Ma ts M3) (T : T6 Ma A fun j => decide (j ∈ [x])) : ∀ t ∈ ts, t = x := fun t ht => by
  have := ((h.each T).2 t ht).1
  simpa using this
theorem three_of {l : List Int} (h : l.length = 3) : ∃ a b c, l = [a, b, c] := by
  match l, h with
  | [a, b, c], _ => exact ⟨a, b, c, rfl⟩
theorem tk_two (h : Tk Ma ts M3) (hl : ts.length = 3) (T : T6 Ma A fun j => decide (j ∈ [x, y])) (hx : (A.lookup x).isSome = true) (hy : (A.lookup y).isSome = true) (ne : x ≠ y) :
    ts.count x + ts.count y = 3 ∧ (ts.count x = 0 ↔ Anc (fun j => A.lookup j) x y) ∧ (ts.count y = 0 ↔ Anc (fun j => A.lookup j) y x) := by
  have eC : ∀ j, decide (j ∈ [x, y]) = decide (j = x ∨ j = y) := fun j => by simp
  have T2 : T6 Ma A fun j => decide (j = x ∨ j = y) := T.congr (fun j _ => eC j) (eC 0)
  have T3' : T6 Ma A fun j => decide (j = y ∨ j = x) := T2.congr (fun j _ => by simp [or_comm]) (by simp [or_comm])
  (refine Mine.el_A (h.each T2) fun zq0 he => ?_; clear zq0)
  have x0 := T.x0 hx
  have y0 := T.x0 hy
  have mem : ∀ t ∈ ts, t = x ∨ t = y := fun t ht => by simpa using (he t ht).1
  have nox : Anc (fun j => A.lookup j) x y → ∀ t ∈ ts, t ≠ x := fun ha t ht z => by
    rcases (he t ht).2 y (z ▸ ha) with q | q
    · exact y0 q
    · simp at q
  have noy : Anc (fun j => A.lookup j) y x → ∀ t ∈ ts, t ≠ y := fun ha t ht z => by
    rcases (he t ht).2 x (z ▸ ha) with q | q
    · exact x0 q
    · simp at q
  (refine Mine.el_EEE (three_of hl) fun a b c zq0 => ?_; (first | subst zq0 | cases zq0))
  (refine Mine.el_EA (h.last (us := [a, b]) (u := c) rfl) fun Mb h2 s3 => ?_)
  (refine Mine.el_EA (h2.last (us := [a]) (u := b) rfl) fun Mc h1 s2 => ?_)
  (refine Mine.el_EA (h1.last (us := []) (u := a) rfl) fun Md h0 s1 => ?_)
  rw [h0.none] at s1
  have ma := mem a (by simp)
  have mb := mem b (by simp)
  have mc := mem c (by simp)
  have key1 : ¬ Anc (fun j => A.lookup j) x y → ¬ Anc (fun j => A.lookup j) y x → ¬ (a = x ∧ b = x ∧ c = x) := fun n1 n2 ⟨e1, e2, e3⟩ => by
    subst e1 e2 e3
    exact T2.three hx hy ne n2 n1 s1 s2 s3
  have key2 : ¬ Anc (fun j => A.lookup j) x y → ¬ Anc (fun j => A.lookup j) y x → ¬ (a = y ∧ b = y ∧ c = y) := fun n1 n2 ⟨e1, e2, e3⟩ => by
    subst e1 e2 e3
    exact T3'.three hy hx (Ne.symm ne) n1 n2 s1 s2 s3
  have na := nox
  have nb := noy
  by_cases q1 : Anc (fun j => A.lookup j) x y
  · have a1 := ma.resolve_left (nox q1 a (by simp))
    have b1 := mb.resolve_left (nox q1 b (by simp))
    have c1 := mc.resolve_left (nox q1 c (by simp))
    have q2 : ¬ Anc (fun j => A.lookup j) y x := fun z => noy z a (by simp) a1
    subst a1 b1 c1
    simp [q1, q2, Ne.symm ne]
  · by_cases q2 : Anc (fun j => A.lookup j) y x
    · have a1 := ma.resolve_right (noy q2 a (by simp))
      have b1 := mb.resolve_right (noy q2 b (by simp))
      have c1 := mc.resolve_right (noy q2 c (by simp))
      subst a1 b1 c1
      simp [q1, q2, ne]
    · have k1 := key1 q1 q2
      have k2 := key2 q1 q2
      rcases ma with rfl | rfl <;> rcases mb with rfl | rfl <;> rcases mc with rfl | rfl <;> simp_all
end
end Mine
end
section
open PySem PySem.W PyProof.Rows PySem.Calls PySem.SeqAt
set_option linter.unusedVariables false
set_option Elab.async false
namespace Mine
theorem are_ints : ∀ {xs : List Int} {vs : List Value}, IntsAre vs xs → vs.map er = intsV xs
  | _, _, .nil => rfl
  | _, _, .cons _ _ h => by
    show _ :: _ = _ :: _
    rw [are_ints h]; rfl
section
variable {prog : Program} {w : World} {K : Frag} {c : Cx prog w K} {envs : List Env} {H : AH} {A : Around} {E : Value → Shared → Prop} {s : Shared}
theorem cnt_ints {a : Nat} {xs : List Int} {x : Int} {tx : Tok} {Q : Value → Shared → Prop} (S : St c envs H s) (ea : H a = some (.list (intsV xs)))
    (k : ∀ t s', St c envs H s' → Q (.int (xs.count x) t) s') : wpAny (model prog w) A (call (.builtin "list.count") [.ref a, .int x tx]) Q E s := by
  (refine Mine.el_EEA (S.get ea) fun va ka ha hm => ?_)
  refine count_list_ints (vs := va.toList) (ns := xs) ⟨_, ha, rfl, ka, by simp⟩ (intsAre_of hm) ?_
  exact k _ _ (S.tok _)
theorem sort_ints {a : Nat} {xs : List Int} {Q : Value → Shared → Prop} (S : St c envs H s) (ea : H a = some (.list (intsV xs))) (hz : xs.length < 64)
    (k : ∀ (d : Nat) (ys : List Int) s', H d = none → ys.Perm xs → St c envs (upd H d (.list (intsV ys))) s' → Q (.ref d) s') : wpAny (model prog w) A (call (.builtin "sorted") [.ref a]) Q E s := by
  (refine Mine.el_EEA (S.get ea) fun va ka ha hm => ?_)
  have hl : va.toList.length = xs.length := by have := congrArg List.length hm; simpa [intsV] using this
  refine sorted_ints (vs := va.toList) (ns := xs) ⟨_, ha, rfl, ka, by simp⟩ (intsAre_of hm) (by first | decide | omega) fun out ns' i p _ => ?_
  (refine Mine.el_E (sortedAll_at s.heap va.toList out) fun e he => ?_)
  have S' := S.new (h' := sortedAll s.heap va.toList out) (a := s.heap.objs.size + 1) (o := .list (intsV ns')) (t := s.toks) (fun b x hb => sortedAll_old hb) (Nat.le_succ _) (fun z => by (exact Mine.no_ft z)) ⟨out, e, he, are_ints i⟩ (Nat.le_of_lt (Nat.lt_of_succ_lt (Heap.lt_size he)))
  exact k _ ns' _ (S.fresh (Nat.le_succ _)) p S'
theorem ne_same {a b : Nat} {xs : List Int} {Q : Value → Shared → Prop} (S : St c envs H s) (ea : H a = some (.list (intsV xs))) (eb : H b = some (.list (intsV xs))) (hu : A.units < cLine) (k : Q (.bool false) s) : wpAny (model prog w) A (compareOp .NotEq (.ref a) (.ref b)) Q E s := by
  (refine Mine.el_EEA (S.get ea) fun va ka ha hma => ?_)
  (refine Mine.el_EEA (S.get eb) fun vb kb hb hmb => ?_)
  have hsz : va.size = vb.size := by
    have h1 := congrArg List.length hma
    have h2 := congrArg List.length hmb
    simp at h1 h2; omega
  have key : ∀ j (h1 : j < va.size) (h2 : j < vb.size), EqAt A.in1 s va[j] vb[j] true := fun j h1 h2 => by
    have i1 := congrArg (·[j]?) hma
    have i2 := congrArg (·[j]?) hmb
    simp only [List.getElem?_map, Array.getElem?_toList, Array.getElem?_eq_getElem h1, Array.getElem?_eq_getElem h2, Option.map_some] at i1 i2
    rw [← i2] at i1
    have i3 := Option.some.inj i1
    have hx : ∃ x : Int, er vb[j] = .int x 0 := by
      unfold intsV at i2
      rw [List.getElem?_map] at i2
      (refine Mine.el_EA (Option.map_eq_some_iff.mp i2.symm) fun x zq0 hx => ?_; clear zq0)
      exact ⟨x, hx.symm⟩
    (refine Mine.el_E hx fun x hx => ?_)
    (refine Mine.el_E (er_int hx) fun t2 e2 => ?_)
    (refine Mine.el_E (er_int (i3.trans hx)) fun t1 e1 => ?_)
    rw [e1, e2]
    have := EqAt.int_int (A := A.in1) (s := s) x t1 x t2
    rwa [beq_self_eq_true] at this
  have z := RcNeAt.lists (A := A) (s := s) (e := fun _ => true) ⟨_, ha, rfl, ka, rfl⟩ ⟨_, hb, rfl, kb, rfl⟩ hsz hu key
  refine z prog w E Q ?_
  rw [show (List.range va.size).all (fun _ => true) = true from List.all_eq_true.mpr fun _ _ => rfl]
  exact k
end
end Mine
end
section
open PySem PySem.W PyProof.Rows PySem.Calls
set_option linter.unusedVariables false
set_option Elab.async false
namespace Mine
structure LF6 (F : AH) (L ab : Nat) (l : List (Str × Value)) (y : Int) (Ta : Tb) : Prop where
  hL : F L = some (.ns l)
  h1 : F (L + 1) = some (.cell (some (.ref ab)))
  h2 : F (L + 2) = some (.cell (some (.int y 0)))
  ha : F ab = some (.imap (iV Ta))
section
variable {F G : AH} {L ab : Nat} {l : List (Str × Value)} {y : Int} {Ta : Tb}
theorem LF6.ns (h : LF6 F L ab l y Ta) (l' : List (Str × Value)) : LF6 (upd F L (.ns l')) L ab l' y Ta :=
  ⟨upd_self .., upd_other (by first | decide | omega) h.h1, upd_other (by first | decide | omega) h.h2, upd_other (ne_kind h.ha h.hL (by intro z; (exact Mine.tag_ne z rfl))) h.ha⟩
theorem LF6.sy (h : LF6 F L ab l y Ta) (y' : Int) : LF6 (upd F (L + 2) (.cell (some (.int y' 0)))) L ab l y' Ta :=
  ⟨upd_other (by first | decide | omega) h.hL, upd_other (by first | decide | omega) h.h1, upd_self .., upd_other (ne_kind h.ha h.h2 (by intro z; (exact Mine.tag_ne z rfl))) h.ha⟩
theorem LF6.sa (h : LF6 F L ab l y Ta) (Ta' : Tb) : LF6 (upd F ab (.imap (iV Ta'))) L ab l y Ta' :=
  ⟨upd_other (ne_kind h.hL h.ha (by intro z; (exact Mine.tag_ne z rfl))) h.hL, upd_other (ne_kind h.h1 h.ha (by intro z; (exact Mine.tag_ne z rfl))) h.h1, upd_other (ne_kind h.h2 h.ha (by intro z; (exact Mine.tag_ne z rfl))) h.h2, upd_self ..⟩
noncomputable def Kp6 (L ab : Nat) (F F' : AH) : Prop := ∀ (a : Nat) o, a ≠ L → a ≠ L + 1 → a ≠ L + 2 → a ≠ ab → F a = some o → F' a = some o
theorem Kp6.refl (F : AH) : Kp6 L ab F F := fun _ _ _ _ _ _ h => h
theorem Kp6.upd {F F' : AH} (h : Kp6 L ab F F') {b : Nat} (hb : b = L ∨ b = L + 1 ∨ b = L + 2 ∨ b = ab) (o : AO) : Kp6 L ab F (Mine.upd F' b o) := fun a x h1 h2 h3 h4 hx => by
  refine (upd_ne fun z => ?_).trans (h a x h1 h2 h3 h4 hx)
  subst z
  rcases hb with rfl | rfl | rfl | rfl <;> contradiction
theorem lf_sub6 {F1 : AH} (lf : LF6 F1 L ab l y Ta) (kp : Kp6 L ab F F1) (h1 : F L = none) (h2 : F (L + 1) = none) (h3 : F (L + 2) = none) : Sub (upd F ab (.imap (iV Ta))) F1 := fun b o hb => by
  refine ⟨o, ?_, .inl rfl⟩
  by_cases q2 : b = ab
  · subst q2; rw [upd_self] at hb; (replace hb := Option.some.inj hb; subst hb); exact lf.ha
  · rw [upd_ne q2] at hb
    exact kp b o (fun z => by rw [z, h1] at hb; (exact Mine.no_ns hb)) (fun z => by rw [z, h2] at hb; (exact Mine.no_ns hb)) (fun z => by rw [z, h3] at hb; (exact Mine.no_ns hb)) q2 hb
end
end Mine
end
section
set_option linter.unusedVariables false
set_option Elab.async false
namespace Mine
noncomputable def zr (A : Tb) : Tb := A.map fun p => (p.1, 0)
theorem lookup_zr {j : Int} : ∀ {A : Tb}, (zr A).lookup j = (A.lookup j).map fun _ => 0
  | [] => rfl
  | p :: A => by
    show List.lookup j ((p.1, 0) :: zr A) = _
    rw [List.lookup_cons, lookup_zr, List.lookup_cons]
    split <;> rfl
theorem zr_keys {A : Tb} : (zr A).map (·.1) = A.map (·.1) := by unfold zr; rw [List.map_map]; rfl
theorem zr_zero {A : Tb} {j v : Int} (h : (zr A).lookup j = some v) : v = 0 := by
  rw [lookup_zr] at h
  (refine Mine.el_EA (Option.map_eq_some_iff.mp h) fun _ _ e => ?_)
  exact e.symm
theorem zr_false {A : Tb} {j : Int} : decide (0 < ((zr A).lookup j).getD 0) = false := by
  rw [lookup_zr]
  cases A.lookup j <;> rfl
section
variable {M M' : Mo} {A W : Tb} {x y p px : Int} {cy ex : Bool}
theorem T6.to3 (T : T6 M A fun _ => false) : T3 M A (zr A) :=
  ⟨T.sh.congr (fun _ => Iff.rfl) (fun _ _ _ => rfl) (fun j _ => zr_false.symm), fun j => by rw [lookup_zr]; cases A.lookup j <;> rfl, T.rng, fun j v h => by rw [zr_zero h]; exact Int.le_refl _, T.an, by rw [zr_keys]; exact T.an⟩
theorem T6.of3 (T : T3 M A W) (Q : Ql M) (h0 : ∀ j v, W.lookup j = some v → v = 0) : T6 M A fun _ => false :=
  ⟨T.sh.congr (fun _ => Iff.rfl) (fun _ _ _ => rfl) (fun j _ => by
    cases h : W.lookup j with
    | none => rfl
    | some v => rw [h0 j v h]; rfl), Q, T.rng, T.an⟩
theorem zr_put {j : Int} : ∀ k v, (tput j 0 (zr A)).lookup k = some v → v = 0 := fun k v h => by
  rw [lookup_tput] at h
  split at h
  · exact (Option.some.inj h).symm
  · exact zr_zero h
theorem T6.made (T : T6 M A fun _ => false) (h1 : 1 ≤ y) (h7 : y ≤ 7) (hn : A.lookup y = none) : T6 (Mine.made M y) (tput y 0 A) fun _ => false :=
  .of3 (T.to3.made h1 h7 hn) T.ql.made zr_put
theorem T6.relaid (T : T6 M A fun _ => false) (hx : (A.lookup x).isSome = true) (hy : y = 0 ∨ (A.lookup y).isSome = true) (hcy : cy = true → (A.lookup y).isSome = true) (hpx : A.lookup x = some px) (Q : Ql M')
    (h : Sh 0 M' (fun j => j = 0 ∨ (A.lookup j).isSome = true) (fun k => if k = x then some y else if ex = true ∧ (if cy = true ∧ k = y then some px else A.lookup k) = some y then some x else if cy = true ∧ k = y then some px else A.lookup k) (fun _ => false)) :
    T6 M' (laidT A x y px cy ex) fun _ => false :=
  .of3 (T.to3.relaid hx hy hcy hpx (h.congr (fun _ => Iff.rfl) (fun _ _ _ => rfl) fun _ _ => zr_false.symm)) Q fun _ _ h => zr_zero h
theorem T6.insd (T : T6 M A fun _ => false) (hx : A.lookup x = none) (h1 : 1 ≤ x) (h7 : x ≤ 7) (hy : y = 0 ∨ (A.lookup y).isSome = true) (Q : Ql M')
    (h : Sh 0 M' (fun j => j = x ∨ (j = 0 ∨ (A.lookup j).isSome = true)) (fun k => if k = x then some y else if ex = true ∧ A.lookup k = some y then some x else A.lookup k) (fun j => if j = x then false else false)) :
    T6 M' (laidT A x y px false ex) fun _ => false :=
  .of3 (T.to3.insd (px := px) hx h1 h7 hy (h.congr (fun _ => Iff.rfl) (fun _ _ _ => rfl) fun j _ => by
    by_cases q : j = x
    · rw [if_pos q, if_pos q]
    · rw [if_neg q, if_neg q]; exact zr_false.symm)) Q zr_put
theorem T6.gone (T : T6 M A fun _ => false) (hx : A.lookup x = some p) : T6 ((rmc M p x true).del x) (tdel x (tmap (fun _ b => if b = x then p else b) A)) fun _ => false :=
  .of3 (T.to3.gone hx) T.ql.rmc.del fun j v h => by
    rw [lookup_tdel] at h
    split at h
    · (exact Mine.no_ns h)
    · exact zr_zero h
theorem Ql.root : Ql Mo.root := by
  refine ⟨fun i n hi => ?_, fun i n hi h0 => ?_⟩
  · unfold Mo.root Mo.put at hi
    split at hi
    · (replace hi := Option.some.inj hi; subst hi); exact .nil rfl
    · (exact Mine.no_ns hi)
  · unfold Mo.root at hi
    rw [Mo.put_ne h0] at hi
    (exact Mine.no_ns hi)
theorem T6.start : T6 Mo.root [] fun _ => false := .of3 T3.start Ql.root fun _ _ h => by (exact Mine.no_ns h)
theorem T6.par (T : T6 M A C) (h : (A.lookup x).isSome = true) : ∃ p n d, A.lookup x = some p ∧ M x = some n ∧ n.par = some p ∧ M p = some d ∧ x ∈ d.kids ∧ (p = 0 ∨ (A.lookup p).isSome = true) := by
  (refine Mine.el_E ((T.sh.dom x).mpr (.inr h)) fun n hn => ?_)
  have h0 := T.x0 h
  (refine Mine.el_EEAA (T.sh.fam.up x n hn h0 h0) fun p d e1 e2 e3 => ?_)
  have hp := T.sh.par x h0 h0
  rw [parOf_eq hn, e1] at hp
  exact ⟨p, n, d, hp.symm, hn, e1, e2, e3, (T.sh.dom p).mp ⟨d, e2⟩⟩
theorem T6.anc_some (T : T6 M A C) {u z : Int} (h : Anc (fun j => A.lookup j) u z) : z = 0 ∨ (A.lookup z).isSome = true := by
  cases h with
  | one e =>
    (refine Mine.el_EEEAAAAA (T.par (x := u) (by rw [e]; rfl)) fun p _ _ hp _ _ _ _ h6 => ?_)
    rw [hp] at e; (replace e := (Option.some.inj e).symm; subst e); exact h6
  | @more v _ _ e =>
    (refine Mine.el_EEEAAAAA (T.par (x := v) (by rw [e]; rfl)) fun p _ _ hp _ _ _ _ h6 => ?_)
    rw [hp] at e; (replace e := (Option.some.inj e).symm; subst e); exact h6
theorem T6.len (T : T6 M A C) : A.length ≤ 8 := by rw [← List.length_map (f := (·.1))]; exact nodup_len (ks := eight) T.an fun z hz => T.mem z (.inr (mem_keys.mp hz))
theorem T6.acyc (T : T6 M A C) {u : Int} : ¬ Anc (fun j => A.lookup j) u u := fun h => by
  (refine Mine.el_AEAA T.small fun zq0 rk R zq1 zq2 => ?_; clear zq0; clear zq1; clear zq2)
  have go : ∀ v, Anc (fun j => A.lookup j) u v → rk u < rk v := fun v hv => by
    induction hv with
    | one e =>
      (refine Mine.el_EEEAAAAA (T.par (x := u) (by rw [e]; rfl)) fun p _ d hp _ _ hd hk _ => ?_)
      have e' : some p = some _ := hp.symm.trans e
      rw [← Option.some.inj e']; exact R p d hd u hk
    | @more v w _ e ih =>
      (refine Mine.el_EEEAAAAA (T.par (x := v) (by rw [e]; rfl)) fun p _ d hp _ _ hd hk _ => ?_)
      have e' : some p = some w := hp.symm.trans e
      rw [← Option.some.inj e']; exact Nat.lt_trans ih (R p d hd v hk)
  exact Nat.lt_irrefl _ (go u h)
end
end Mine
end
section
open PySem PySem.W PyProof.Rows PySem.Calls
set_option linter.unusedVariables false
set_option linter.unusedSimpArgs false
set_option Elab.async false
set_option maxRecDepth 100000
set_option maxHeartbeats 8000000
set_option compiler.extract_closed false
namespace Mine
def nq : Str := Str.ofString "a"
theorem nq_rfl : nq = nq := rfl
end Mine
name_quick tw6384284461741629688 for Mine.nq by Mine.nq_rfl
name_quick tw9821977120257159380 for Mine.nq by Mine.nq_rfl
name_quick tw1746347558433595337 for Mine.nq by Mine.nq_rfl
name_quick tw1372773348543759107 for Mine.nq by Mine.nq_rfl
name_quick tw9637616106297418166 for Mine.nq by Mine.nq_rfl
name_quick tw2550136888749451593 for Mine.nq by Mine.nq_rfl
name_quick tw6678554070491390161 for Mine.nq by Mine.nq_rfl
name_quick tw206288665681806374 for Mine.nq by Mine.nq_rfl
name_quick tw14813205888235950564 for Mine.nq by Mine.nq_rfl
name_quick tw573794330333625106 for Mine.nq by Mine.nq_rfl
name_quick tw1253718169912126859 for Mine.nq by Mine.nq_rfl
name_quick tw295158114584252112 for Mine.nq by Mine.nq_rfl
name_quick tw2225861669824453019 for Mine.nq by Mine.nq_rfl
name_quick tw2514947519815837508 for Mine.nq by Mine.nq_rfl
name_quick tw2146392958426930758 for Mine.nq by Mine.nq_rfl
name_quick tw1176984701034804349 for Mine.nq by Mine.nq_rfl
name_quick tw11965798063410538427 for Mine.nq by Mine.nq_rfl
name_quick tw1241343275428458861 for Mine.nq by Mine.nq_rfl
name_quick tw8414707142223275713 for Mine.nq by Mine.nq_rfl
name_quick tw508937547452911378 for Mine.nq by Mine.nq_rfl
name_quick tw6543802491312495291 for Mine.nq by Mine.nq_rfl
name_quick tw9535170268554559372 for Mine.nq by Mine.nq_rfl
name_quick tw281841072780438573 for Mine.nq by Mine.nq_rfl
name_quick tw10077512558897761711 for Mine.nq by Mine.nq_rfl
name_quick tw15048331744799092419 for Mine.nq by Mine.nq_rfl
name_quick tw8064525449969774617 for Mine.nq by Mine.nq_rfl
name_quick tw8567421774701459403 for Mine.nq by Mine.nq_rfl
name_quick tw5877089747905441157 for Mine.nq by Mine.nq_rfl
name_quick tw13166600596664719206 for Mine.nq by Mine.nq_rfl
name_quick tw3024592797514069591 for Mine.nq by Mine.nq_rfl
name_quick tw15253713106536929212 for Mine.nq by Mine.nq_rfl
name_quick tw3919314752684427065 for Mine.nq by Mine.nq_rfl
name_quick tw8975735408759014816 for Mine.nq by Mine.nq_rfl
name_quick tw13567635786341143122 for Mine.nq by Mine.nq_rfl
name_quick tw11703855869365521149 for Mine.nq by Mine.nq_rfl
name_quick tw11756180256103969542 for Mine.nq by Mine.nq_rfl
name_quick tw17491496635513904520 for Mine.nq by Mine.nq_rfl
name_quick tw58413421185161098 for Mine.nq by Mine.nq_rfl
name_quick tw5778047346085363635 for Mine.nq by Mine.nq_rfl
name_quick tw8721119329980295110 for Mine.nq by Mine.nq_rfl
name_quick tw2593874375889684645 for Mine.nq by Mine.nq_rfl
name_quick tw16670923289451256722 for Mine.nq by Mine.nq_rfl
name_quick tw9594001772907574545 for Mine.nq by Mine.nq_rfl
name_quick tw4751478162800029779 for Mine.nq by Mine.nq_rfl
name_quick tw10856712835392162425 for Mine.nq by Mine.nq_rfl
name_quick tw5467519921422045739 for Mine.nq by Mine.nq_rfl
name_quick tw6714868971185114565 for Mine.nq by Mine.nq_rfl
name_quick tw9746625169508218059 for Mine.nq by Mine.nq_rfl
name_quick tw17285607756020876236 for Mine.nq by Mine.nq_rfl
name_quick tw9912425994934407819 for Mine.nq by Mine.nq_rfl
name_quick tw3851469853737163134 for Mine.nq by Mine.nq_rfl
name_quick tw2205719720868618666 for Mine.nq by Mine.nq_rfl
name_quick tw7748554079653594635 for Mine.nq by Mine.nq_rfl
name_quick tw15242116879618706194 for Mine.nq by Mine.nq_rfl
name_quick tw14701977119377764433 for Mine.nq by Mine.nq_rfl
name_quick tw16729569036959976846 for Mine.nq by Mine.nq_rfl
name_quick tw10184588269537293620 for Mine.nq by Mine.nq_rfl
name_quick tw9612672015310551868 for Mine.nq by Mine.nq_rfl
name_quick tw13237844983548725456 for Mine.nq by Mine.nq_rfl
name_quick tw3984457864602645399 for Mine.nq by Mine.nq_rfl
name_quick tw2612783162996472123 for Mine.nq by Mine.nq_rfl
name_quick tw11123086593744197372 for Mine.nq by Mine.nq_rfl
name_quick tw16613875493547966852 for Mine.nq by Mine.nq_rfl
name_quick tw17097821163593179588 for Mine.nq by Mine.nq_rfl
name_quick tw16982744368012412758 for Mine.nq by Mine.nq_rfl
name_quick tw12883132169478976071 for Mine.nq by Mine.nq_rfl
name_quick tw1949356418937781551 for Mine.nq by Mine.nq_rfl
name_quick tw14021230997843198564 for Mine.nq by Mine.nq_rfl
name_quick tw1459208141647307474 for Mine.nq by Mine.nq_rfl
name_quick tw15624714606074315715 for Mine.nq by Mine.nq_rfl
name_quick tw5624669206558600111 for Mine.nq by Mine.nq_rfl
name_quick tw5077581375261851089 for Mine.nq by Mine.nq_rfl
name_quick tw14626363478959083958 for Mine.nq by Mine.nq_rfl
name_quick tw8187081200310122076 for Mine.nq by Mine.nq_rfl
name_quick tw14605702834172648273 for Mine.nq by Mine.nq_rfl
name_quick tw16164918703547406004 for Mine.nq by Mine.nq_rfl
name_quick tw17196975520135435197 for Mine.nq by Mine.nq_rfl
name_quick tw3744716053712579968 for Mine.nq by Mine.nq_rfl
name_quick tw15852418618254888133 for Mine.nq by Mine.nq_rfl
name_quick tw8127447518859850296 for Mine.nq by Mine.nq_rfl
name_quick tw14773509712426791089 for Mine.nq by Mine.nq_rfl
name_quick tw10877413134234344531 for Mine.nq by Mine.nq_rfl
name_quick tw2724676021440004308 for Mine.nq by Mine.nq_rfl
name_quick tw16629612837617992614 for Mine.nq by Mine.nq_rfl
name_quick tw1513029788606724791 for Mine.nq by Mine.nq_rfl
name_quick tw2615795761831903464 for Mine.nq by Mine.nq_rfl
name_quick tw15339691569314305670 for Mine.nq by Mine.nq_rfl
name_quick tw4041821760720696341 for Mine.nq by Mine.nq_rfl
name_quick tw9103310933311007397 for Mine.nq by Mine.nq_rfl
name_quick tw13063454990182052478 for Mine.nq by Mine.nq_rfl
name_quick tw3220028150255651006 for Mine.nq by Mine.nq_rfl
name_quick tw5144397670752711987 for Mine.nq by Mine.nq_rfl
name_quick tw12670845564440333473 for Mine.nq by Mine.nq_rfl
name_quick tw6813041062179833445 for Mine.nq by Mine.nq_rfl
name_quick tw15052430979892313760 for Mine.nq by Mine.nq_rfl
name_quick tw2786459242175096484 for Mine.nq by Mine.nq_rfl
name_quick tw11942845085649238702 for Mine.nq by Mine.nq_rfl
name_quick tw14082039318012873693 for Mine.nq by Mine.nq_rfl
name_quick tw8238534867955997690 for Mine.nq by Mine.nq_rfl
name_quick tw1889050332149886875 for Mine.nq by Mine.nq_rfl
name_quick tw5161053319311518864 for Mine.nq by Mine.nq_rfl
name_quick tw827106698547405791 for Mine.nq by Mine.nq_rfl
name_quick tw8957134239449722539 for Mine.nq by Mine.nq_rfl
name_quick tw5465212274667124382 for Mine.nq by Mine.nq_rfl
name_quick tw12367650440139049597 for Mine.nq by Mine.nq_rfl
name_quick tw13343461726426194607 for Mine.nq by Mine.nq_rfl
name_quick tw11599132250606127907 for Mine.nq by Mine.nq_rfl
name_quick tw13195720168200566630 for Mine.nq by Mine.nq_rfl
name_quick tw6839331591458617662 for Mine.nq by Mine.nq_rfl
name_quick tw17127743327281923166 for Mine.nq by Mine.nq_rfl
name_quick tw6482019011972154943 for Mine.nq by Mine.nq_rfl
name_quick tw11437919183145730863 for Mine.nq by Mine.nq_rfl
name_quick tw4556700289760006671 for Mine.nq by Mine.nq_rfl
name_quick tw13311353378509069583 for Mine.nq by Mine.nq_rfl
name_quick tw6068272031012857275 for Mine.nq by Mine.nq_rfl
name_quick tw12204382177802003002 for Mine.nq by Mine.nq_rfl
name_quick tw6619490545015067207 for Mine.nq by Mine.nq_rfl
name_quick tw10153397990264109449 for Mine.nq by Mine.nq_rfl
name_quick tw9753741940635838506 for Mine.nq by Mine.nq_rfl
name_quick tw10173124252156980543 for Mine.nq by Mine.nq_rfl
name_quick tw4791426268163011105 for Mine.nq by Mine.nq_rfl
name_quick tw12171553681018910542 for Mine.nq by Mine.nq_rfl
name_quick tw547191734899326466 for Mine.nq by Mine.nq_rfl
name_quick tw9740324311538904819 for Mine.nq by Mine.nq_rfl
name_quick tw11176835235461709816 for Mine.nq by Mine.nq_rfl
name_quick tw7643232025118728705 for Mine.nq by Mine.nq_rfl
name_quick tw11128549585110499959 for Mine.nq by Mine.nq_rfl
name_quick tw1487755033246905294 for Mine.nq by Mine.nq_rfl
name_quick tw2078191249513347474 for Mine.nq by Mine.nq_rfl
name_quick tw9368585349161967942 for Mine.nq by Mine.nq_rfl
name_quick tw8322859051176925097 for Mine.nq by Mine.nq_rfl
name_quick tw10951819575092376495 for Mine.nq by Mine.nq_rfl
name_quick tw5301076238638085756 for Mine.nq by Mine.nq_rfl
name_quick tw15149180882198471752 for Mine.nq by Mine.nq_rfl
name_quick tw13481763384651238587 for Mine.nq by Mine.nq_rfl
name_quick tw2514612800365338617 for Mine.nq by Mine.nq_rfl
name_quick tw15025590108382710512 for Mine.nq by Mine.nq_rfl
name_quick tw18022991426498854473 for Mine.nq by Mine.nq_rfl
name_quick tw17600841341516030941 for Mine.nq by Mine.nq_rfl
name_quick tw12641364861235294461 for Mine.nq by Mine.nq_rfl
name_quick tw12400238717853346265 for Mine.nq by Mine.nq_rfl
name_quick tw3456571083492441453 for Mine.nq by Mine.nq_rfl
name_quick tw9486709356237091125 for Mine.nq by Mine.nq_rfl
name_quick tw860648672081048324 for Mine.nq by Mine.nq_rfl
name_quick tw17702719377474183314 for Mine.nq by Mine.nq_rfl
name_quick tw6152077179709123664 for Mine.nq by Mine.nq_rfl
name_quick tw3994726098318772208 for Mine.nq by Mine.nq_rfl
name_quick tw5916453677353241594 for Mine.nq by Mine.nq_rfl
name_quick tw7178292369654101021 for Mine.nq by Mine.nq_rfl
name_quick tw1362691324256733486 for Mine.nq by Mine.nq_rfl
name_quick tw8249167001743385412 for Mine.nq by Mine.nq_rfl
name_quick tw5119820228738538837 for Mine.nq by Mine.nq_rfl
name_quick tw3317462989674347011 for Mine.nq by Mine.nq_rfl
name_quick tw1662412061097358909 for Mine.nq by Mine.nq_rfl
name_quick tw3060779566765708633 for Mine.nq by Mine.nq_rfl
name_quick tw11032288311024073452 for Mine.nq by Mine.nq_rfl
name_quick tw4903169653908555329 for Mine.nq by Mine.nq_rfl
name_quick tw4019194518960018008 for Mine.nq by Mine.nq_rfl
name_quick tw7675078806582938939 for Mine.nq by Mine.nq_rfl
name_quick tw7183787996843840669 for Mine.nq by Mine.nq_rfl
name_quick tw275827330789786191 for Mine.nq by Mine.nq_rfl
name_quick tw14351000688963698199 for Mine.nq by Mine.nq_rfl
name_quick tw10932834426561998003 for Mine.nq by Mine.nq_rfl
name_quick tw12132438518962610784 for Mine.nq by Mine.nq_rfl
name_quick tw1303969622770654653 for Mine.nq by Mine.nq_rfl
name_quick tw4421477190475177751 for Mine.nq by Mine.nq_rfl
name_quick tw9435042870772312822 for Mine.nq by Mine.nq_rfl
name_quick tw7423086322359588862 for Mine.nq by Mine.nq_rfl
name_quick tw11971560273547352008 for Mine.nq by Mine.nq_rfl
name_quick tw1681232566215850207 for Mine.nq by Mine.nq_rfl
name_quick tw12039147934589137871 for Mine.nq by Mine.nq_rfl
name_quick tw8766472978148464848 for Mine.nq by Mine.nq_rfl
name_quick tw1799466108103082662 for Mine.nq by Mine.nq_rfl
name_quick tw7099541200963586819 for Mine.nq by Mine.nq_rfl
name_quick tw2264711001312105635 for Mine.nq by Mine.nq_rfl
name_quick tw2760285239938686285 for Mine.nq by Mine.nq_rfl
name_quick tw786218976670858567 for Mine.nq by Mine.nq_rfl
name_quick tw12539731471513976603 for Mine.nq by Mine.nq_rfl
name_quick tw5206711931955139529 for Mine.nq by Mine.nq_rfl
name_quick tw18044772033736509624 for Mine.nq by Mine.nq_rfl
name_quick tw7264564868467954424 for Mine.nq by Mine.nq_rfl
name_quick tw12039640741984040343 for Mine.nq by Mine.nq_rfl
name_quick tw10622465295618830048 for Mine.nq by Mine.nq_rfl
name_quick tw1862523482517305515 for Mine.nq by Mine.nq_rfl
name_quick tw2172508916182142657 for Mine.nq by Mine.nq_rfl
name_quick tw1123993016316537150 for Mine.nq by Mine.nq_rfl
name_quick tw13280191505927967116 for Mine.nq by Mine.nq_rfl
name_quick tw15943778425431997400 for Mine.nq by Mine.nq_rfl
name_quick tw4036027369504893846 for Mine.nq by Mine.nq_rfl
name_quick tw7285866839528297110 for Mine.nq by Mine.nq_rfl
name_quick tw8800414941367319197 for Mine.nq by Mine.nq_rfl
name_quick tw11942918368763115337 for Mine.nq by Mine.nq_rfl
name_quick tw9857220320739968221 for Mine.nq by Mine.nq_rfl
name_quick tw16262943470744321830 for Mine.nq by Mine.nq_rfl
name_quick tw17059694541660321999 for Mine.nq by Mine.nq_rfl
name_quick tw1174688143480765567 for Mine.nq by Mine.nq_rfl
name_quick tw11900130046921669522 for Mine.nq by Mine.nq_rfl
name_quick tw1450986613127831428 for Mine.nq by Mine.nq_rfl
name_quick tw3989758106482875701 for Mine.nq by Mine.nq_rfl
name_quick tw7061051225368521305 for Mine.nq by Mine.nq_rfl
name_quick tw16658155956994961839 for Mine.nq by Mine.nq_rfl
name_quick tw10804207746132164421 for Mine.nq by Mine.nq_rfl
name_quick tw9135381548975687176 for Mine.nq by Mine.nq_rfl
name_quick tw14586529202037896344 for Mine.nq by Mine.nq_rfl
name_quick tw4601979354473543915 for Mine.nq by Mine.nq_rfl
name_quick tw16658422150657513672 for Mine.nq by Mine.nq_rfl
name_quick tw10295692493634532523 for Mine.nq by Mine.nq_rfl
name_quick tw17419358671643532668 for Mine.nq by Mine.nq_rfl
name_quick tw15957902780227234806 for Mine.nq by Mine.nq_rfl
name_quick tw16594656083262384752 for Mine.nq by Mine.nq_rfl
name_quick tw176609655623843514 for Mine.nq by Mine.nq_rfl
name_quick tw2068768393410330855 for Mine.nq by Mine.nq_rfl
name_quick tw7754399652296992482 for Mine.nq by Mine.nq_rfl
name_quick tw5439406559029941658 for Mine.nq by Mine.nq_rfl
name_quick tw18374224080836763861 for Mine.nq by Mine.nq_rfl
name_quick tw6512343940206248464 for Mine.nq by Mine.nq_rfl
name_quick tw12616149485744366804 for Mine.nq by Mine.nq_rfl
name_quick tw5042196134292462105 for Mine.nq by Mine.nq_rfl
name_quick tw1613782473541009371 for Mine.nq by Mine.nq_rfl
name_quick tw14266305231870008196 for Mine.nq by Mine.nq_rfl
name_quick tw17542491380657703146 for Mine.nq by Mine.nq_rfl
name_quick tw8115132593001063074 for Mine.nq by Mine.nq_rfl
name_quick tw5528021865569915719 for Mine.nq by Mine.nq_rfl
name_quick tw450649722010238627 for Mine.nq by Mine.nq_rfl
name_quick tw12040748966733980073 for Mine.nq by Mine.nq_rfl
name_quick tw16055750773512198348 for Mine.nq by Mine.nq_rfl
name_quick tw11469647399813913371 for Mine.nq by Mine.nq_rfl
name_quick tw7719227258301919856 for Mine.nq by Mine.nq_rfl
name_quick tw15718359560609617345 for Mine.nq by Mine.nq_rfl
name_quick tw17538839764788146552 for Mine.nq by Mine.nq_rfl
name_quick tw6255106906943118120 for Mine.nq by Mine.nq_rfl
name_quick tw7888859464835981055 for Mine.nq by Mine.nq_rfl
name_quick tw14427700606633109709 for Mine.nq by Mine.nq_rfl
name_quick tw17756179450831198793 for Mine.nq by Mine.nq_rfl
name_quick tw3346516477294861663 for Mine.nq by Mine.nq_rfl
name_quick tw3335650596809004647 for Mine.nq by Mine.nq_rfl
name_quick tw3876041706209863288 for Mine.nq by Mine.nq_rfl
name_quick tw10800381998247402418 for Mine.nq by Mine.nq_rfl
name_quick tw5829557809119726209 for Mine.nq by Mine.nq_rfl
name_quick tw10899928444652561671 for Mine.nq by Mine.nq_rfl
name_quick tw9126881050622632314 for Mine.nq by Mine.nq_rfl
name_quick tw5034570654505515926 for Mine.nq by Mine.nq_rfl
name_quick tw8898408842067805994 for Mine.nq by Mine.nq_rfl
name_quick tw18338843338756378606 for Mine.nq by Mine.nq_rfl
name_quick tw10970212529159555371 for Mine.nq by Mine.nq_rfl
name_quick tw11269898805732643086 for Mine.nq by Mine.nq_rfl
name_quick tw494713878115571085 for Mine.nq by Mine.nq_rfl
name_quick tw14015825241879950055 for Mine.nq by Mine.nq_rfl
name_quick tw8895288903186670712 for Mine.nq by Mine.nq_rfl
name_quick tw7466512435828418511 for Mine.nq by Mine.nq_rfl
name_quick tw13558723367298376964 for Mine.nq by Mine.nq_rfl
name_quick tw27914345072074935 for Mine.nq by Mine.nq_rfl
name_quick tw5544535192489738091 for Mine.nq by Mine.nq_rfl
name_quick tw17136648757045153592 for Mine.nq by Mine.nq_rfl
name_quick tw1902592578610556756 for Mine.nq by Mine.nq_rfl
name_quick tw13853496792867640099 for Mine.nq by Mine.nq_rfl
name_quick tw2728217946356634317 for Mine.nq by Mine.nq_rfl
name_quick tw14200731362085958547 for Mine.nq by Mine.nq_rfl
name_quick tw11389326089251139704 for Mine.nq by Mine.nq_rfl
name_quick tw9466190724604962976 for Mine.nq by Mine.nq_rfl
name_quick tw9471751051550702002 for Mine.nq by Mine.nq_rfl
name_quick tw14323191683527004385 for Mine.nq by Mine.nq_rfl
name_quick tw1469006186239232635 for Mine.nq by Mine.nq_rfl
name_quick tw14122118235476106720 for Mine.nq by Mine.nq_rfl
name_quick tw11756209923692085429 for Mine.nq by Mine.nq_rfl
name_quick tw2815856817661251079 for Mine.nq by Mine.nq_rfl
name_quick tw2478812921140235972 for Mine.nq by Mine.nq_rfl
name_quick tw15558944290496000118 for Mine.nq by Mine.nq_rfl
name_quick tw1349512821860694810 for Mine.nq by Mine.nq_rfl
name_quick tw9601830559500562358 for Mine.nq by Mine.nq_rfl
name_quick tw17512956158218462591 for Mine.nq by Mine.nq_rfl
name_quick tw13216550943055739206 for Mine.nq by Mine.nq_rfl
name_quick tw10363098926003520993 for Mine.nq by Mine.nq_rfl
name_quick tw6002448621044059110 for Mine.nq by Mine.nq_rfl
name_quick tw2408428389488378829 for Mine.nq by Mine.nq_rfl
name_quick tw9836191945928279202 for Mine.nq by Mine.nq_rfl
name_quick tw13116705672368042070 for Mine.nq by Mine.nq_rfl
name_quick tw2705070345831063243 for Mine.nq by Mine.nq_rfl
name_quick tw11181602933962326385 for Mine.nq by Mine.nq_rfl
name_quick tw17470182516447604088 for Mine.nq by Mine.nq_rfl
name_quick tw8456008463702214827 for Mine.nq by Mine.nq_rfl
name_quick tw9430785825888562999 for Mine.nq by Mine.nq_rfl
name_quick tw9294052569563132878 for Mine.nq by Mine.nq_rfl
name_quick tw16775486880773237633 for Mine.nq by Mine.nq_rfl
name_quick tw3363259976756999616 for Mine.nq by Mine.nq_rfl
name_quick tw1465700549354054143 for Mine.nq by Mine.nq_rfl
name_quick tw11658679034325858985 for Mine.nq by Mine.nq_rfl
name_quick tw10993635847552443774 for Mine.nq by Mine.nq_rfl
name_quick tw10363632054614041535 for Mine.nq by Mine.nq_rfl
name_quick tw15744667898403790179 for Mine.nq by Mine.nq_rfl
name_quick tw3410327690191594304 for Mine.nq by Mine.nq_rfl
name_quick tw6285900777688727 for Mine.nq by Mine.nq_rfl
name_quick tw100317234535270090 for Mine.nq by Mine.nq_rfl
name_quick tw5570527783124031326 for Mine.nq by Mine.nq_rfl
name_quick tw1714459380628716832 for Mine.nq by Mine.nq_rfl
name_quick tw15057979764553838229 for Mine.nq by Mine.nq_rfl
name_quick tw6864694949123290066 for Mine.nq by Mine.nq_rfl
name_quick tw911514066367193542 for Mine.nq by Mine.nq_rfl
name_quick tw2460060685057441140 for Mine.nq by Mine.nq_rfl
name_quick tw9756189279628919893 for Mine.nq by Mine.nq_rfl
name_quick tw5619023038169207897 for Mine.nq by Mine.nq_rfl
name_quick tw8992944254649244289 for Mine.nq by Mine.nq_rfl
name_quick tw18115109253202687806 for Mine.nq by Mine.nq_rfl
name_quick tw5938930275181633926 for Mine.nq by Mine.nq_rfl
name_quick tw10418042740109905113 for Mine.nq by Mine.nq_rfl
name_quick tw5421411531478906721 for Mine.nq by Mine.nq_rfl
name_quick tw653045798526291285 for Mine.nq by Mine.nq_rfl
name_quick tw12542599427624453036 for Mine.nq by Mine.nq_rfl
name_quick tw12982523959702907818 for Mine.nq by Mine.nq_rfl
name_quick tw15110633834456799321 for Mine.nq by Mine.nq_rfl
name_quick tw7401188181067149365 for Mine.nq by Mine.nq_rfl
name_quick tw6530814583390787407 for Mine.nq by Mine.nq_rfl
name_quick tw9086167103360699692 for Mine.nq by Mine.nq_rfl
name_quick tw4064329021677312773 for Mine.nq by Mine.nq_rfl
name_quick tw13516082070915891624 for Mine.nq by Mine.nq_rfl
name_quick tw4254473196351684166 for Mine.nq by Mine.nq_rfl
name_quick tw14097473756581174308 for Mine.nq by Mine.nq_rfl
name_quick tw9697149922678371837 for Mine.nq by Mine.nq_rfl
name_quick tw18065358436285042598 for Mine.nq by Mine.nq_rfl
name_quick tw2150526042354789816 for Mine.nq by Mine.nq_rfl
name_quick tw9584101625446177679 for Mine.nq by Mine.nq_rfl
name_quick tw13167953452625630233 for Mine.nq by Mine.nq_rfl
name_quick tw16701476733426327718 for Mine.nq by Mine.nq_rfl
name_quick tw9037744934858087096 for Mine.nq by Mine.nq_rfl
name_quick tw16415526775699336647 for Mine.nq by Mine.nq_rfl
name_quick tw5326554667396096590 for Mine.nq by Mine.nq_rfl
name_quick tw13024490644149834659 for Mine.nq by Mine.nq_rfl
name_quick tw11957221923566817055 for Mine.nq by Mine.nq_rfl
name_quick tw2645253730830170669 for Mine.nq by Mine.nq_rfl
name_quick tw9533871199000860955 for Mine.nq by Mine.nq_rfl
name_quick tw11282132465515538834 for Mine.nq by Mine.nq_rfl
name_quick tw2056952263875640506 for Mine.nq by Mine.nq_rfl
name_quick tw674513321012243120 for Mine.nq by Mine.nq_rfl
name_quick tw2381779857757554982 for Mine.nq by Mine.nq_rfl
name_quick tw2974168805566760095 for Mine.nq by Mine.nq_rfl
name_quick tw8413033410311042802 for Mine.nq by Mine.nq_rfl
name_quick tw10369993220563554966 for Mine.nq by Mine.nq_rfl
name_quick tw1500001586437499229 for Mine.nq by Mine.nq_rfl
name_quick tw5156215486018121394 for Mine.nq by Mine.nq_rfl
name_quick tw12246879708356120756 for Mine.nq by Mine.nq_rfl
name_quick tw2552149334360943457 for Mine.nq by Mine.nq_rfl
name_quick tw7266321515953080419 for Mine.nq by Mine.nq_rfl
name_quick tw11903041915960050728 for Mine.nq by Mine.nq_rfl
name_quick tw368413529313430098 for Mine.nq by Mine.nq_rfl
name_quick tw16682038035393449015 for Mine.nq by Mine.nq_rfl
name_quick tw5117486665703424817 for Mine.nq by Mine.nq_rfl
name_quick tw13953968432653430011 for Mine.nq by Mine.nq_rfl
name_quick tw4372461843655280518 for Mine.nq by Mine.nq_rfl
name_quick tw2273858819278549214 for Mine.nq by Mine.nq_rfl
name_quick tw9931992706918115027 for Mine.nq by Mine.nq_rfl
name_quick tw15309902003326921531 for Mine.nq by Mine.nq_rfl
name_quick tw3296799355246950638 for Mine.nq by Mine.nq_rfl
name_quick tw5455636406925824968 for Mine.nq by Mine.nq_rfl
name_quick tw10870844614742548876 for Mine.nq by Mine.nq_rfl
name_quick tw2880636966107452029 for Mine.nq by Mine.nq_rfl
name_quick tw12572467164891943314 for Mine.nq by Mine.nq_rfl
name_quick tw6294843599283722287 for Mine.nq by Mine.nq_rfl
name_quick tw9850301400940741980 for Mine.nq by Mine.nq_rfl
name_quick tw9271197160210241461 for Mine.nq by Mine.nq_rfl
name_quick tw3559286889762577286 for Mine.nq by Mine.nq_rfl
name_quick tw841194403230263022 for Mine.nq by Mine.nq_rfl
name_quick tw3946905001735722233 for Mine.nq by Mine.nq_rfl
name_quick tw2332693452846706326 for Mine.nq by Mine.nq_rfl
name_quick tw4393603934423812307 for Mine.nq by Mine.nq_rfl
name_quick tw6269966834518387820 for Mine.nq by Mine.nq_rfl
name_quick tw13308427868814031534 for Mine.nq by Mine.nq_rfl
name_quick tw10648174273078443320 for Mine.nq by Mine.nq_rfl
name_quick tw376056386549438138 for Mine.nq by Mine.nq_rfl
name_quick tw15255086577722922688 for Mine.nq by Mine.nq_rfl
name_quick tw9710547745389366427 for Mine.nq by Mine.nq_rfl
name_quick tw16087480847854898326 for Mine.nq by Mine.nq_rfl
name_quick tw14779988860287478557 for Mine.nq by Mine.nq_rfl
name_quick tw17672885280981196277 for Mine.nq by Mine.nq_rfl
name_quick tw16569167677417678222 for Mine.nq by Mine.nq_rfl
name_quick tw8463493634643875071 for Mine.nq by Mine.nq_rfl
name_quick tw9904784518248871179 for Mine.nq by Mine.nq_rfl
name_quick tw8237628468659082764 for Mine.nq by Mine.nq_rfl
name_quick tw13345322153190985431 for Mine.nq by Mine.nq_rfl
name_quick tw17176256520905523406 for Mine.nq by Mine.nq_rfl
name_quick tw18442899603206844609 for Mine.nq by Mine.nq_rfl
name_quick tw6006512938429671707 for Mine.nq by Mine.nq_rfl
name_quick tw6227843714873953886 for Mine.nq by Mine.nq_rfl
name_quick tw12310914268238720402 for Mine.nq by Mine.nq_rfl
name_quick tw9181683983548711307 for Mine.nq by Mine.nq_rfl
name_quick tw645280481220653323 for Mine.nq by Mine.nq_rfl
name_quick tw7937360525058898846 for Mine.nq by Mine.nq_rfl
name_quick tw2494582366520428600 for Mine.nq by Mine.nq_rfl
name_quick tw8179168226198291759 for Mine.nq by Mine.nq_rfl
name_quick tw10139841075400542888 for Mine.nq by Mine.nq_rfl
name_quick tw4663019059281673177 for Mine.nq by Mine.nq_rfl
name_quick tw4435446575649361319 for Mine.nq by Mine.nq_rfl
name_quick tw13063908843372219496 for Mine.nq by Mine.nq_rfl
name_quick tw5443997597417879742 for Mine.nq by Mine.nq_rfl
name_quick tw17620334132377794742 for Mine.nq by Mine.nq_rfl
name_quick tw7379500111108612711 for Mine.nq by Mine.nq_rfl
name_quick tw9468467155352863866 for Mine.nq by Mine.nq_rfl
name_quick tw18136030922241914178 for Mine.nq by Mine.nq_rfl
name_quick tw743720327355064036 for Mine.nq by Mine.nq_rfl
name_quick tw11284887420068549275 for Mine.nq by Mine.nq_rfl
name_quick tw6555836376182642527 for Mine.nq by Mine.nq_rfl
name_quick tw1535497942135152695 for Mine.nq by Mine.nq_rfl
name_quick tw12398223195291822079 for Mine.nq by Mine.nq_rfl
name_quick tw1947122803551259453 for Mine.nq by Mine.nq_rfl
name_quick tw15430376819022150306 for Mine.nq by Mine.nq_rfl
name_quick tw2437803716964573062 for Mine.nq by Mine.nq_rfl
name_quick tw9298284251206045596 for Mine.nq by Mine.nq_rfl
name_quick tw3128610181653113651 for Mine.nq by Mine.nq_rfl
name_quick tw15191179921418398502 for Mine.nq by Mine.nq_rfl
name_quick tw6871070775303988041 for Mine.nq by Mine.nq_rfl
name_quick tw6609635895153467700 for Mine.nq by Mine.nq_rfl
name_quick tw11699524648409779975 for Mine.nq by Mine.nq_rfl
name_quick tw11917786201327553717 for Mine.nq by Mine.nq_rfl
name_quick tw6391029557713974115 for Mine.nq by Mine.nq_rfl
name_quick tw10423019370350879141 for Mine.nq by Mine.nq_rfl
name_quick tw11356772286708262303 for Mine.nq by Mine.nq_rfl
name_quick tw4831305437095251883 for Mine.nq by Mine.nq_rfl
name_quick tw8392597382566269865 for Mine.nq by Mine.nq_rfl
name_quick tw7013153251980690481 for Mine.nq by Mine.nq_rfl
name_quick tw4596069886926316615 for Mine.nq by Mine.nq_rfl
name_quick tw14824234498139079507 for Mine.nq by Mine.nq_rfl
name_quick tw8012632809779845559 for Mine.nq by Mine.nq_rfl
name_quick tw12333229107473029286 for Mine.nq by Mine.nq_rfl
name_quick tw17692189638669753560 for Mine.nq by Mine.nq_rfl
name_quick tw274016917212898722 for Mine.nq by Mine.nq_rfl
name_quick tw11268565894811700663 for Mine.nq by Mine.nq_rfl
name_quick tw12456627185932919654 for Mine.nq by Mine.nq_rfl
name_quick tw11117089975213408038 for Mine.nq by Mine.nq_rfl
name_quick tw12897223096894402239 for Mine.nq by Mine.nq_rfl
name_quick tw7290644721084481783 for Mine.nq by Mine.nq_rfl
namespace MineTop
open_top hd for PySem.Challenge.rw_bd0031_06
end MineTop
namespace Mine
set_option hygiene false in
local macro_rules | `(tactic| walk_at "q") => `(tactic| (rename St _ _ _ _ => ymS))
set_option hygiene false in
local macro_rules | `(tactic| walk_at "i") => `(tactic| (intro ys' yS'; clear ymS; (try dsimp only [er] at yS')))
set_option hygiene false in
local macro_rules | `(tactic| walk_at "j") => `(tactic| (intro ys' yS'; clear ymS))
set_option hygiene false in
local macro_rules | `(tactic| walk_at "k") => `(tactic| (intro ytk ys' yS'; clear ymS))
set_option hygiene false in
local macro_rules | `(tactic| walk_at "m_ne") => `(tactic| first
  | assumption
  | exact Ne.symm (by assumption)
  | exact ne_fresh (by assumption) (by assumption)
  | exact (ne_fresh (by assumption) (by assumption)).symm
  | exact ne_kind (by assumption) (by assumption) (by intro z; cases z)
  | exact ne_fresh (by assumption) (by walk_at "m_H")
  | exact (ne_fresh (by assumption) (by walk_at "m_H")).symm)
set_option hygiene false in
local macro_rules | `(tactic| walk_at "m_none") => `(tactic| first | assumption | (refine upd_other (by walk_at "m_ne") ?_; walk_at "m_none") | walk_at "m_none1")
set_option hygiene false in
local macro_rules | `(tactic| walk_at "m_none1") => `(tactic| (apply none_up; first | assumption | (apply none_up; first | assumption | (apply none_up; first | assumption | (apply none_up; first | assumption | (apply none_up; first | assumption | (apply none_up; first | assumption | (apply none_up; first | assumption | (apply none_up; assumption)))))))))
set_option hygiene false in
local macro_rules | `(tactic| walk_at "m_sub") => `(tactic| first | exact Sub.refl _ | (refine Cov.sub ?_; walk_at "m_cov"))
set_option hygiene false in
local macro_rules | `(tactic| walk_at "m_mem") => `(tactic| first | exact List.Mem.head _ | (refine List.Mem.tail _ ?_; walk_at "m_mem"))
local macro_rules | `(tactic| walk_at "m_cov") => `(tactic| first
  | exact Cov.refl
  | exact Cov.of (by assumption)
  | ((with_reducible refine' Cov.n ?a ?b ?_); (case a => walk_at "m_H"); (case b => walk_at "m_le"); walk_at "m_cov")
  | ((with_reducible refine' Cov.hm ?a ?_); (case a => walk_at "m_mem"); walk_at "m_cov")
  | ((with_reducible refine' Cov.hn ?a ?_); (case a => walk_at "m_none"); walk_at "m_cov")
  | ((with_reducible refine' Cov.hs ?a ?b ?_); (case a => walk_at "m_H"); (case b => walk_at "m_le"); walk_at "m_cov"))
set_option hygiene false in
local macro_rules | `(tactic| walk_at "m_H") => `(tactic| first | assumption | exact upd_self _ _ _ | (refine upd_other (by walk_at "m_ne") ?_; walk_at "m_H"))
set_option hygiene false in
local macro_rules | `(tactic| walk_at "m_lk") => `(tactic| first | assumption | rfl)
local macro_rules | `(tactic| walk_at "eval Name") => `(tactic| (rename St _ _ _ _ => ymS; k_dflt first
  | (refine' nm_ref ymS ?H ?x ?_ ?L; (case L => first | exact loc_callEnv | exact rfl); (case H => walk_at "m_H"); (case x => rfl))
  | (refine' nm_int ymS ?H ?x ?_ ?L; (case L => first | exact loc_callEnv | exact rfl); (case H => walk_at "m_H"); (case x => rfl); intro ytk)
  | (refine' nm_none ymS ?H ?x ?_ ?L; (case L => first | exact loc_callEnv | exact rfl); (case H => walk_at "m_H"); (case x => rfl))
  | (refine' nm_bool ymS ?H ?x ?_ ?L; (case L => first | exact loc_callEnv | exact rfl); (case H => walk_at "m_H"); (case x => rfl))
  | (refine' nm_any ymS ?H ?x ?_ ?L; (case L => first | exact loc_callEnv | exact rfl); (case H => walk_at "m_H"); (case x => rfl); intro yv yhv)
  | (refine nm_global ymS (by k_is) ?_)
  | (refine nm_builtin ymS (by k_is) (by boot_by_name) (by decide) ?_)))
local macro_rules | `(tactic| walk_at "loadName") => `(tactic| (rename St _ _ _ _ => ymS; k_dflt (refine' nm ymS ?H ?x ?_ ?L; (case L => first | exact loc_callEnv | exact rfl); (case H => walk_at "m_H"); (case x => rfl); walk_at "m_er")))
set_option hygiene false in
local macro_rules | `(tactic| walk_at "eval Constant int") => `(tactic| (walk_at "q"; refine const_int ymS ?_; walk_at "k"))
set_option hygiene false in
local macro_rules | `(tactic| walk_at "binaryOp Add int int") => `(tactic| (walk_at "q"; refine s_add ymS ?_; walk_at "k"))
set_option hygiene false in
local macro_rules | `(tactic| walk_at "binaryOp Sub int int") => `(tactic| (walk_at "q"; refine s_sub ymS ?_; walk_at "k"))
set_option hygiene false in
local macro_rules | `(tactic| walk_at "inplaceOp Add int int") => `(tactic| (walk_at "q"; refine s_iadd ymS ?_; walk_at "k"))
set_option hygiene false in
local macro_rules | `(tactic| walk_at "inplaceOp Sub int int") => `(tactic| (walk_at "q"; refine s_isub ymS ?_; walk_at "k"))
set_option hygiene false in
local macro_rules | `(tactic| walk_at "m_val") => `(tactic| first | rfl | assumption)
local macro_rules | `(tactic| walk_at "storeName") => `(tactic| (rename St _ _ _ _ => ymS; k_dflt (refine' stv ymS ?H ?v ?_ ?L; (case L => first | exact loc_callEnv | exact rfl); (case H => walk_at "m_H"); (case v => walk_at "m_val"); intro ys' yS'; clear ymS; (try dsimp only [er] at yS'))))
set_option hygiene false in
local macro_rules | `(tactic| walk_at "subscriptTail") => `(tactic| (walk_at "q"; k_dflt first
  | (refine tup_item ymS (by walk_at "m_H") (by decide) (by decide) (by rfl) ?_ (by with_unfolding_all rfl); walk_at "m_er")
  | (refine list_item ymS (by walk_at "m_H") (by first | decide | omega) (by first | decide | omega) (by walk_at "m_lk") ?_ (by with_unfolding_all rfl); walk_at "m_er")))
set_option hygiene false in
local macro_rules | `(tactic| walk_at "m_er") => `(tactic| first
  | (refine of_int ?_; intro ytk)
  | refine of_ref ?_
  | refine of_none ?_
  | refine of_bool ?_
  | (intro yv yhv))
set_option hygiene false in
local macro_rules | `(tactic| walk_at "m_er2") => `(tactic| first
  | (refine of_int2 ?_; intro ytk ys' yS')
  | (refine of_ref2 ?_; intro ys' yS')
  | (refine of_none2 ?_; intro ys' yS')
  | (refine of_bool2 ?_; intro ys' yS')
  | (intro yv ys' yhv yS'))
set_option hygiene false in
local macro_rules | `(tactic| walk_at "getAttr ref") => `(tactic| (walk_at "q"; k_dflt (refine at_get ymS (by walk_at "m_H") (by walk_at "m_lk") (by k_is) (by k_is) (by k_is) (by k_is) (by rfl) ?_; walk_at "m_er2"; clear ymS)))
set_option hygiene false in
local macro_rules | `(tactic| walk_at "getMethod ref") => `(tactic| (walk_at "q"; k_dflt (refine meth ymS (by walk_at "m_H") (by walk_at "m_lk") (by k_is) (by k_is) (by k_is) ?_)))
set_option hygiene false in
local macro_rules | `(tactic| walk_at "setAttr ref") => `(tactic| (walk_at "q"; k_dflt (refine at_set ymS (by walk_at "m_H") (by walk_at "m_len") (by k_is) (by k_is) (by k_is) (by k_is) ?_; walk_at "i")))
set_option hygiene false in
local macro_rules | `(tactic| walk_at "m_len") => `(tactic| first | ((with_reducible refine setk_le ?_); (repeat (with_reducible refine setk_le ?_)); exact Nat.zero_le _) | omega | decide | (simp only [List.length_cons, List.length_nil, List.length_append, setk_length]; first | done | omega | (repeat' split) <;> omega))
set_option hygiene false in
local macro_rules | `(tactic| walk_at "callWith ref") => `(tactic| (walk_at "q"; k_dflt first
  | (refine callWith_K ymS.inK (by k_is) ?_)
  | (refine callWith_K0 ymS.inK (by k_is) ?_)
  | (refine callWith_KW ymS.inK (by k_is) (by exact rfl) ?_)
  | (refine callWith_KW0 ymS.inK (by k_is) (by exact rfl) ?_)))
set_option hygiene false in
local macro_rules | `(tactic| walk_at "And") => `(tactic| ((with_reducible show Frag.In _ _ ∧ _); walk_at "q"; refine ⟨ymS.inK, ?_⟩; (try dsimp only [List.nil_append, List.cons_append])))
set_option hygiene false in
local macro_rules | `(tactic| walk_at "call builtin:isinstance") => `(tactic| (walk_at "q"; k_dflt (refine isi_inst ymS (by walk_at "m_H") (by k_is) ?_)))
set_option hygiene false in
local macro_rules | `(tactic| walk_at "call builtin:len") => `(tactic| (walk_at "q"; k_dflt (refine len_list ymS (by walk_at "m_H") (by first | omega | (simp; omega)) ?_; walk_at "k")))
set_option hygiene false in
local macro_rules | `(tactic| walk_at "m_in") => `(tactic| (
  case k1 => k_is
  case k2 => k_is
  case k3 => first | exact (BindsTo.of_eq rfl) | exact binds_K (St.inK (by assumption)) rfl (by k_is) rfl rfl rfl
  case k4 => rfl
  case k6 => exact locs rfl
  case k7 => decide
  case k8 => rfl
  case k9 => rfl
  case k10 => rfl))
set_option hygiene false in
local macro_rules | `(tactic| walk_at "m_all") => `(tactic| first | exact List.forall_mem_nil _ | (refine List.forall_mem_cons.mpr ⟨?_, ?_⟩; (first | rfl | (show some _ = some _; congr 2; omega)); walk_at "m_all"))
set_option hygiene false in
local macro_rules | `(tactic| walk_at "m_le") => `(tactic| first | exact AO.le.rfl' _ | (refine ns_le ?_; walk_at "m_all"))
set_option hygiene false in
local macro_rules | `(tactic| walk_at "m_frs") => `(tactic| first
  | assumption
  | exact St.frs (by assumption)
  | exact Frs.re (by assumption)
  | exact Frs.re (St.frs (by assumption))
  | (refine Frs.join ?_; walk_at "m_frs")
  | (refine Frs.ns ?_ (by walk_at "m_H"); walk_at "m_frs")
  | (refine Frs.turn ?_ (by walk_at "m_H") (by rfl); walk_at "m_frs")
  | (refine Frs.fresh ?_ (by walk_at "m_none"); walk_at "m_frs"))
set_option hygiene false in
local macro_rules | `(tactic| walk_at "m_R") => `(tactic| first
  | exact Rm.mono (by assumption) (by first | decide | omega) (by first | decide | omega)
  | (refine Rm.deeper ?_; walk_at "m_R")
  | (refine Rm.in1 ?_; walk_at "m_R")
  | (refine Rm.mark ?_; walk_at "m_R"))
set_option hygiene false in
local macro_rules | `(tactic| walk_at "exec Assign") => `(tactic| (with_reducible refine plainObj_wpAny_Assign_Attribute ?_ ?_; rotate_left; with_unfolding_all rfl))
set_option hygiene false in
local macro_rules | `(tactic| walk_at "eval List") => `(tactic| (with_reducible refine list_disp ?_))
set_option hygiene false in
local macro_rules | `(tactic| walk_at "eval Tuple") => `(tactic| (with_reducible refine tup_disp ?_))
set_option hygiene false in
local macro_rules | `(tactic| walk_at "NewL") => `(tactic| (walk_at "q"; (refine newL ymS (by first | simp | decide) ?_); intro ya ys' yha yS'; clear ymS; (try dsimp only [List.map, er] at yS')))
set_option hygiene false in
local macro_rules | `(tactic| walk_at "NewT") => `(tactic| (walk_at "q"; (refine newT ymS (by first | simp | decide) ?_); intro ya ys' yha yS'; clear ymS; (try dsimp only [List.map, er] at yS')))
set_option hygiene false in
local macro_rules | `(tactic| walk_at "binaryOp FloorDiv int int") => `(tactic| (walk_at "q"; refine s_fdiv ymS (by first | decide | omega) (by first | decide | omega) ?_; walk_at "k"))
set_option hygiene false in
local macro_rules | `(tactic| walk_at "binaryOp Mod int int") => `(tactic| (walk_at "q"; refine s_mod ymS (by first | decide | omega) ?_; walk_at "k"))
set_option hygiene false in
local macro_rules | `(tactic| walk_at "binaryOp Mult int int") => `(tactic| (walk_at "q"; refine s_mul ymS (by first | decide | omega) ?_; walk_at "k"))
set_option hygiene false in
local macro_rules | `(tactic| walk_at "exec Raise") => `(tactic| (exfalso; first | contradiction | omega | (simp only [Int.emod_nonneg, decide_eq_true_eq, Bool.not_eq_true', decide_eq_false_iff_not] at *; omega)))
set_option hygiene false in
local macro_rules | `(tactic| walk_at "m_uh") => `(tactic| ((with_reducible refine unhide (by assumption) ?_); (try dsimp only)))
set_option hygiene false in
local macro_rules | `(tactic| walk_at "m_w1") => `(tactic| (first | walk1 | (dsimp only; walk1)))
set_option hygiene false in
local macro_rules | `(tactic| walk_at "m_nt") => `(tactic| ((fail_if_success (with_reducible show wpAny _ _ (exec (Stmt.Try _ _ _ _ _) _) _ _ _)); (fail_if_success (with_reducible show wpAny _ _ (exec (Stmt.While _ _ _ _) _) _ _ _)); (fail_if_success (with_reducible show wpAny _ _ (exec (Stmt.For _ _ _ _ _) _) _ _ _))))
set_option hygiene false in
local macro_rules | `(tactic| walk_at "m_st") => `(tactic| w_strict (repeat' (first | (walk_at "m_nt"; walk_at "m_w1") | walk_at "m_uh")))
set_option hygiene false in
local macro_rules | `(tactic| walk_at "m_ents") => `(tactic| first
  | assumption
  | (refine Ents.turn ?_ (by walk_at "m_H") (by intro xs z; cases z); walk_at "m_ents")
  | (refine Ents.fresh ?_ (by walk_at "m_none"); walk_at "m_ents"))
set_option hygiene false in
local macro_rules | `(tactic| walk_at "m_str") => `(tactic| first
  | assumption
  | (refine StreamAt.turn ?_ (by walk_at "m_H") (by rfl); walk_at "m_str")
  | (refine StreamAt.inst ?_ (by walk_at "m_H") (by rfl); walk_at "m_str")
  | (refine StreamAt.fresh ?_ (by walk_at "m_none"); walk_at "m_str"))
set_option hygiene false in
local macro_rules | `(tactic| walk_at "getMethod ref") => `(tactic| ((with_reducible show wpAny _ _ (getMethod (Value.ref _) (PySem.Str.ofString "append") _) _ _ _); walk_at "q"; k_dflt (refine list_meth ymS (by walk_at "m_H") PySem.slot_list_append PySem.type_list_append ?_)))
set_option hygiene false in
local macro_rules | `(tactic| walk_at "call builtin:list.append") => `(tactic| (walk_at "q"; k_dflt (refine list_append ymS (by walk_at "m_H") (by walk_at "m_lz") ?_); walk_at "i"))
set_option hygiene false in
local macro_rules | `(tactic| walk_at "m_lz") => `(tactic| first | omega | (simp only [List.length_map, List.length_append, List.length_cons, List.length_nil, List.length_replicate, List.length_range, List.length_set]; omega))
set_option hygiene false in
local macro_rules | `(tactic| walk_at "execs cons") => `(tactic| (refine execs_cons_h ?_; intro yQS yhQS))
theorem fill_frag : ∀ w : World, (MineTop.hd.heap_39 w.params) = (MineTop.hd.heap_39 w.params) ∧ PySem.Challenge.rw_bd0031_06 = PySem.Challenge.rw_bd0031_06 := by
  k_fill
  exact fun _ => ⟨rfl, rfl⟩
section
section
variable {w : World} {c : Cx PySem.Challenge.rw_bd0031_06.row.prog w (MineTop.hd.heap_39 w.params)} {envs : List Env} {H : AH} {A : Around} {E Q : Value → Shared → Prop} {s : Shared}
theorem lt_spec {x1 x2 : Nat} {i1 i2 : Int} {fs1 fs2 : List (Str × Value)}
    (S : St c envs H s) (R : Rm A 4 20) (hx1 : H x1 = some (.inst 246 fs1)) (hx2 : H x2 = some (.inst 246 fs2)) (hi1 : fs1.lookup ("stream_id" : Str) = some (Value.int i1 0)) (hi2 : fs2.lookup ("stream_id" : Str) = some (Value.int i2 0))
    (k : ∀ s', St c envs H s' → Q (.bool (decide (i1 < i2))) s') :
    wpAny (model PySem.Challenge.rw_bd0031_06.row.prog w) A (call (.ref 222) [.ref x1, .ref x2]) Q E s := by
  refine wpAny_call ?_
  k_dflt refine' code_fn (l := [("other", Value.ref x2), ("self", Value.ref x1)]) S R ?k1 ?k2 ?k3 ?k4 ?_ ?k6 ?k7 ?k8 ?k9 ?k10
  walk_at "m_in"
  intro L s1 hL S1
  have F0 := S.frs
  clear S
  refine hideQ ?_
  intro QF hQF
  refine hideE ?_
  intro EF hEF
  (try dsimp only)
  walk_at "m_st"
  all_goals ((try dsimp only); rename St _ _ _ _ => mS; exact k _ (mS.ret (by walk_at "m_sub") (by walk_at "m_frs")))
theorem ahead_spec {t1 t2 x1 x2 : Nat} {l1 l2 i1 i2 : Int} {fs1 fs2 : List (Str × Value)}
    (S : St c envs H s) (R : Rm A 5 30) (h1 : H t1 = some (.tup [Value.int l1 0, Value.ref x1])) (h2 : H t2 = some (.tup [Value.int l2 0, Value.ref x2]))
    (hx1 : H x1 = some (.inst 246 fs1)) (hx2 : H x2 = some (.inst 246 fs2)) (hi1 : fs1.lookup ("stream_id" : Str) = some (Value.int i1 0)) (hi2 : fs2.lookup ("stream_id" : Str) = some (Value.int i2 0))
    (k : ∀ b s', St c envs H s' → b = decide (l1 < l2 ∨ (l1 = l2 ∧ i1 < i2)) → Q (.bool b) s') :
    wpAny (model PySem.Challenge.rw_bd0031_06.row.prog w) A (call (.ref 21) [.ref t1, .ref t2]) Q E s := by
  refine wpAny_call ?_
  k_dflt refine' code_fn (l := [("other", Value.ref t2), ("one", Value.ref t1)]) S R ?k1 ?k2 ?k3 ?k4 ?_ ?k6 ?k7 ?k8 ?k9 ?k10
  walk_at "m_in"
  intro L s1 hL S1
  have F0 := S.frs
  clear S
  refine hideQ ?_
  intro QF hQF
  refine hideE ?_
  intro EF hEF
  (try dsimp only)
  walk_at "m_st"
  all_goals try (rename St _ _ _ _ => mS; refine cmp_ofLt ?_; k_dflt (refine cmp_inst mS (by walk_at "m_R") (by walk_at "m_H") (by walk_at "m_H") (by walk_at "m_H") (by k_is) (by k_is) (by k_is) ?_); k_dflt (refine lt_spec mS (by walk_at "m_R") (by walk_at "m_H") (by walk_at "m_H") (by walk_at "m_lk") (by walk_at "m_lk") ?_); intro s' S'; clear mS; (try dsimp only [PySem.W.CmpBack]); walk_at "m_st")
  all_goals ((try dsimp only); rename St _ _ _ _ => mS; exact k _ _ (mS.ret (by walk_at "m_sub") (by walk_at "m_frs")) (by first | rfl | omega | ((simp only [bne_iff_ne, ne_eq, beq_iff_eq, Bool.not_eq_true', decide_eq_decide, decide_eq_true_eq, decide_eq_false_iff_not, Bool.not_eq_true, bne_eq_false_iff_eq, beq_eq_false_iff_ne] at *); omega) | (simp_all; done) | (simp_all; omega)))
end
end
section
section
variable {w : World} {c : Cx PySem.Challenge.rw_bd0031_06.row.prog w (MineTop.hd.heap_39 w.params)} {envs : List Env} {H : AH} {A : Around} {E Q : Value → Shared → Prop} {s : Shared}
set_option hygiene false in
local macro_rules | `(tactic| walk_at "getMethod ref") => `(tactic| ((with_reducible show wpAny _ _ (getMethod (Value.ref _) (PySem.Str.ofString "insert") _) _ _ _); walk_at "q"; k_dflt (refine list_meth ymS (by walk_at "m_H") PySem.F.slot_list_insert PySem.F.type_list_insert ?_)))
set_option hygiene false in
local macro_rules | `(tactic| walk_at "call builtin:list.insert") => `(tactic| (walk_at "q"; k_dflt (refine list_insert ymS (by walk_at "m_H") (by omega) (by simp only [List.length_map]; omega) (by simp only [List.length_map]; omega) ?_); walk_at "j"))
theorem heappush_spec {P : Pl} {q t : Nat} {ts : List Nat} {es : List (Int × Int)} {e : Int × Int} (S : St c envs H s) (R : Rm A 8 60) (hq : H q = some (.list (ts.map .ref))) (hz : es.length ≤ 5000) (he : Ents P H ts es)
    (hs : ∀ x ∈ es, StreamAt 246 P H x.2) (ht : H t = some (.tup [.int e.1 0, .ref (P.D e.2)])) (hse : StreamAt 246 P H e.2)
    (k : ∀ s', St c envs (upd H q (.list ((put (place (klt e) es) t ts).map .ref))) s' → Q .none s') :
    wpAny (model PySem.Challenge.rw_bd0031_06.row.prog w) A (call (.ref 28) [.ref q, .ref t]) Q E s := by
  have hl := he.len
  have hlm : (ts.map Value.ref).length = es.length := by rw [List.length_map, hl]
  refine wpAny_call ?_
  k_dflt refine' code_fn (l := [("item", Value.ref t), ("queue", Value.ref q)]) S R ?k1 ?k2 ?k3 ?k4 ?_ ?k6 ?k7 ?k8 ?k9 ?k10
  walk_at "m_in"
  intro L s1 hL S1
  have F0 := S.frs
  clear S
  refine hideQ ?_
  intro QF hQF
  refine hideE ?_
  intro EF hEF
  (try dsimp only)
  (refine Mine.el_E (show ∃ e₀, St c (e₀ :: envs) _ s1 from ⟨_, S1⟩) fun e₀ S1 => ?_)
  have F1 := S1.frs
  walk_at "m_st"
  refine while_ (fun n s' => n ≤ es.length ∧ place (klt e) es = place (klt e) (es.take n) ∧
    St c (e₀ :: envs) (upd H L (.ns [("place", Value.int n 0), ("item", Value.ref t), ("queue", Value.ref q)])) s') ?_ (ts.map Value.ref).length ⟨by omega, by rw [hlm, List.take_length], ?_⟩
  case refine_2 =>
    rename St _ _ _ _ => mS
    exact mS.sub (by walk_at "m_sub") (by walk_at "m_frs")
  case refine_1 =>
    rintro n s' ⟨hn, hp, S'⟩
    (refine Mine.el_EA hse fun fs1 b1 c1 => ?_; (try clear hse))
    cases n with
    | zero =>
      have hpl : place (klt e) es = 0 := by rw [hp]; simp [place]
      rw [hpl] at k
      walk_at "m_st"
      all_goals ((try dsimp only); rename St _ _ _ _ => mS; exact k _ (mS.ret (by walk_at "m_sub") (by walk_at "m_frs")))
    | succ m =>
      have hm : m < es.length := by omega
      (refine Mine.el_EA (hs es[m] (List.getElem_mem hm)) fun fs2 b2 c2 => ?_)
      (refine Mine.el_EA (he.get m hm) fun t2 g2 a2 => ?_)
      have hget : (ts.map Value.ref)[(((m + 1 : Nat) : Int) - 1).toNat]? = some (.ref t2) := by
        rw [show (((m + 1 : Nat) : Int) - 1).toNat = m from by omega, List.getElem?_map, g2]; rfl
      have htk : es.take (m + 1) = es.take m ++ [es[m]] := List.take_succ_eq_append_getElem hm
      rw [htk, place_snoc] at hp
      generalize es[m] = e2 at hp a2 b2 c2
      walk_at "m_st"
      · rename St _ _ _ _ => mS
        k_dflt (refine ahead_spec mS (by walk_at "m_R") (by walk_at "m_H") (by walk_at "m_H") (by walk_at "m_H") (by walk_at "m_H") (by walk_at "m_lk") (by walk_at "m_lk") ?_)
        intro b s' S' hb
        clear mS
        subst hb
        walk_at "m_st"
        · rename St _ _ _ _ => mS
          have hk : klt e e2 = true := by unfold klt; exact decide_eq_true (by assumption)
          exact ⟨m, by omega, by omega, by rw [hp, if_pos hk], mS.sub (by walk_at "m_sub") (by walk_at "m_frs")⟩
        · have hk : ¬ klt e e2 = true := by unfold klt; simp only [decide_eq_true_eq]; assumption
          rw [hp, if_neg hk, List.length_take, Nat.min_eq_left (by omega)] at k
          try simp only [put, List.map_append, List.map_cons, List.map_take, List.map_drop] at k
          all_goals ((try dsimp only); rename St _ _ _ _ => mS; exact k _ (mS.ret (by walk_at "m_sub") (by walk_at "m_frs")))
      · omega
end
end
section
section
variable {w : World} {c : Cx PySem.Challenge.rw_bd0031_06.row.prog w (MineTop.hd.heap_39 w.params)} {envs : List Env} {H : AH} {A : Around} {E Q : Value → Shared → Prop} {s : Shared}
set_option hygiene false in
local macro_rules | `(tactic| walk_at "getMethod ref") => `(tactic| ((with_reducible show wpAny _ _ (getMethod (Value.ref _) (PySem.Str.ofString "pop") _) _ _ _); walk_at "q"; k_dflt (refine list_meth ymS (by walk_at "m_H") PySem.F.slot_list_pop PySem.F.type_list_pop ?_)))
theorem heappop_spec {q : Nat} {x : Value} {xs : List Value} (S : St c envs H s) (R : Rm A 4 20) (hq : H q = some (.list (x :: xs))) (hz : xs.length ≤ 5000)
    (k : ∀ v s', er v = x → St c envs (upd H q (.list xs)) s' → Q v s') :
    wpAny (model PySem.Challenge.rw_bd0031_06.row.prog w) A (call (.ref 35) [.ref q]) Q E s := by
  refine wpAny_call ?_
  k_dflt refine' code_fn (l := [("queue", Value.ref q)]) S R ?k1 ?k2 ?k3 ?k4 ?_ ?k6 ?k7 ?k8 ?k9 ?k10
  walk_at "m_in"
  intro L s1 hL S1
  have F0 := S.frs
  clear S
  refine hideQ ?_
  intro QF hQF
  refine hideE ?_
  intro EF hEF
  (try dsimp only)
  walk_at "m_st"
  rename St _ _ _ _ => mS
  refine list_pop0 mS (x := x) (xs := xs) (by walk_at "m_H") (by first | decide | omega) ?_
  intro v s' hv S'
  clear mS
  walk_at "m_st"
  exact k _ _ hv (S'.ret (by walk_at "m_sub") (by walk_at "m_frs"))
theorem heappop_empty {q : Nat} (S : St c envs H s) (R : Rm A 4 20) (hA : A.frames = some envs) (hh : A.handled = none) (hq : H q = some (.list []))
    (kE : ∀ e s', FlyT c envs H e (.type "IndexError") none s' → E (.ref e) s') :
    wpAny (model PySem.Challenge.rw_bd0031_06.row.prog w) A (call (.ref 35) [.ref q]) Q E s := by
  refine wpAny_call ?_
  k_dflt refine' code_fn (l := [("queue", Value.ref q)]) S R ?k1 ?k2 ?k3 ?k4 ?_ ?k6 ?k7 ?k8 ?k9 ?k10
  walk_at "m_in"
  intro L s1 hL S1
  have F0 := S.frs
  clear S
  refine hideQ ?_
  intro QF hQF
  refine hideE ?_
  intro EF hEF
  (try dsimp only)
  walk_at "m_st"
  rename St _ _ _ _ => mS
  refine list_pop0_empty mS ?_ (by walk_at "m_H") ?_
  · exact hh
  intro x s' F
  clear mS
  refine unhide hEF ?_
  refine fly_leave F (Around.frames_deeper hA) rfl fun s2 F2 => ?_
  exact kE _ _ (F2.sub (by walk_at "m_sub") F0)
end
end
section
section
variable {w : World} {c : Cx PySem.Challenge.rw_bd0031_06.row.prog w (MineTop.hd.heap_39 w.params)} {envs : List Env} {H : AH} {A : Around} {E Q : Value → Shared → Prop} {s : Shared}
theorem weight_get {a : Nat} {v : Int} {fs : List (Str × Value)} {R : Result → Shared → Prop} (S : St c envs H s) (Ro : Rm A 4 20) (ha : H a = some (.inst 246 fs)) (hw : fs.lookup ("_weight" : Str) = some (.int v 0))
    (k : ∀ tk s', St c envs H s' → R (.ok (.ret (.int v tk))) s') : codeAny (model PySem.Challenge.rw_bd0031_06.row.prog w) A (.call (.ref 155) ⟨[.ref a], []⟩) R s := by
  k_dflt refine' code_fn (l := [("self", Value.ref a)]) S Ro ?k1 ?k2 ?k3 ?k4 ?_ ?k6 ?k7 ?k8 ?k9 ?k10
  walk_at "m_in"
  intro L s1 hL S1
  have F0 := S.frs
  clear S
  refine hideQ ?_
  intro QF hQF
  refine hideE ?_
  intro EF hEF
  (try dsimp only)
  walk_at "m_st"
  all_goals ((try dsimp only); rename St _ _ _ _ => mS; exact k _ _ (mS.ret (by walk_at "m_sub") (by walk_at "m_frs")))
theorem weight_set {a : Nat} {v : Int} {tv : Tok} {fs : List (Str × Value)} {R : Result → Shared → Prop} (S : St c envs H s) (Ro : Rm A 4 20) (ha : H a = some (.inst 246 fs)) (hz : fs.length ≤ 1000) (h1 : 1 ≤ v) (h2 : v ≤ 256)
    (k : ∀ r s', St c envs (upd H a (.inst 246 (setk "_weight" (.int v 0) fs))) s' → R (.ok (.ret r)) s') : codeAny (model PySem.Challenge.rw_bd0031_06.row.prog w) A (.call (.ref 164) ⟨[.ref a, .int v tv], []⟩) R s := by
  k_dflt refine' code_fn (l := [("value", Value.int v 0), ("self", Value.ref a)]) S Ro ?k1 ?k2 ?k3 ?k4 ?_ ?k6 ?k7 ?k8 ?k9 ?k10
  walk_at "m_in"
  intro L s1 hL S1
  have F0 := S.frs
  clear S
  refine hideQ ?_
  intro QF hQF
  refine hideE ?_
  intro EF hEF
  (try dsimp only)
  walk_at "m_st"
  all_goals ((try dsimp only); rename St _ _ _ _ => mS; exact k _ _ (mS.ret (by walk_at "m_sub") (by walk_at "m_frs")))
end
end
section
section
variable {w : World} {c : Cx PySem.Challenge.rw_bd0031_06.row.prog w (MineTop.hd.heap_39 w.params)}
set_option hygiene false in
local macro_rules | `(tactic| walk_at "getAttr ref") => `(tactic| ((with_reducible show wpAny _ _ (getAttr (Value.ref _) (PySem.Str.ofString "weight") _) _ _ _); walk_at "q"; k_dflt (refine at_prop ymS (by walk_at "m_H") (by k_is) (by k_is) (by k_is) (by k_is) (by k_is) (by k_is) ?_); intro ys1 yS1; clear ymS; k_dflt (refine weight_get yS1 (by walk_at "m_R") (by walk_at "m_H") (by walk_at "m_lk") ?_); intro ytk ys2 yS2; clear yS1; (try dsimp only); refine wpAny_pure ?_))
inductive FinPre (P : Pl) (rk : Int → Nat) (i : Int) (e₀ : List Env) (L pl : Nat) (A' : Around) (Q' : Flow → Shared → Prop) (s' : Shared) : Prop
  | mk (F' G' : AH) (M' : Mo) (pp : List (Int × Int)) (tsp : List Nat) (nx : Value) (d : Nd) (h1 : Rm A' 14 120) (h2 : Hd A' F') (h3 : Frs e₀ F') (h4 : Dj F' G') (h5 : Tree 246 P M' G') (h6 : OkM rk M') (h7 : M' i = some d) (h8 : d.q.length + pp.length ≤ 1000) (h9 : ∀ e ∈ pp, (∃ m, M' e.2 = some m) ∧ rk e.2 < rk i)
    (h10 : F' pl = some (.list (tsp.map .ref))) (h11 : F' L = some (.ns [("next_stream", nx), ("popped_streams", .ref pl), ("self", .ref (P.D i))])) (h12 : Ents P G' tsp pp) (h13 : St c e₀ (join F' G') s')
    (h14 : ∀ G'' s'', Dj F' G'' → Tree 246 P (fin i pp M') G'' → Tups G' G'' → St c e₀ (join F' G'') s'' → Q' .next s'') : FinPre P rk i e₀ L pl A' Q' s'
inductive SchInv (c : Cx PySem.Challenge.rw_bd0031_06.row.prog w (MineTop.hd.heap_39 w.params)) (P : Pl) (rk : Int → Nat) (n : Nat) (i : Int) (q : List (Int × Int)) (M : Mo) (F G : AH) (ev : List Env) (L pl : Nat) (m : Nat) (s' : Shared) : Prop
  | mk (pp : List (Int × Int)) (Mc : Mo) (Gc : AH) (tsp : List Nat) (nx : Option Int) (dc : Nd) (h1 : m = dc.q.length) (h2 : Mc i = some dc)
    (h3 : (nx = none ∧ goL (sched n) i q M [] = goL (sched n) i dc.q Mc pp) ∨ ∃ x, nx = some x ∧ goL (sched n) i q M [] = (some x, Mc, pp))
    (h4 : Res rk i M Mc) (h5 : dc.q.length + pp.length = q.length) (h6 : ∀ e ∈ pp, e ∈ q) (h7 : ∀ e ∈ dc.q, e ∈ q)
    (h8 : Dj (upd (upd F pl (.list (tsp.map .ref))) L (.ns [("next_stream", nx.elim .none (.int · 0)), ("popped_streams", .ref pl), ("self", .ref (P.D i))])) Gc) (h9 : Tree 246 P Mc Gc) (h10 : Tups G Gc) (h11 : Ents P Gc tsp pp)
    (h12 : St c ev (join (upd (upd F pl (.list (tsp.map .ref))) L (.ns [("next_stream", nx.elim .none (.int · 0)), ("popped_streams", .ref pl), ("self", .ref (P.D i))])) Gc) s') : SchInv c P rk n i q M F G ev L pl m s'
theorem sched_spec (P : Pl) (rk : Int → Nat) : ∀ (n : Nat) {M : Mo} {F G : AH} {i : Int} {nd : Nd} {A : Around} {E Q : Value → Shared → Prop} {s : Shared} {envs : List Env} (S : St c envs (join F G) s) (R : Rm A (20 * n + 20) (200 * n + 200)) (hA : A.frames = some envs) (hh : A.handled = none)
    (fF : Frs envs F) (dj : Dj F G) (t : Tree 246 P M G) (ok : OkM rk M) (hi : M i = some nd) (hr : rk i < n) (ha : nd.act = false)
    (k : ∀ v x M' G' s', er v = .int x 0 → sched n M i = (some x, M') → Dj F G' → Tree 246 P M' G' → Tups G G' → St c envs (join F G') s' → Q v s')
    (kE : ∀ e M' G' s', sched n M i = (none, M') → Dj F G' → Tree 246 P M' G' → Tups G G' → FlyT c envs (join F G') e (.type "IndexError") none s' → E (.ref e) s'),
    wpAny (model PySem.Challenge.rw_bd0031_06.row.prog w) A (call (.ref 194) [.ref (P.D i)]) Q E s
  | 0, M, F, G, i, nd, A, E, Q, s, envs, S, R, hA, hh, fF, dj, t, ok, hi, hr, ha, k, kE => by omega
  | n + 1, M, F, G, i, nd, A, E, Q, s, envs, S, R, hA, hh, fF, dj, t, ok, hi, hr, ha, k, kE => by
    obtain ⟨wt, kids, par, q, act, lw, df⟩ := nd
    simp only at ha
    subst ha
    have hself := join_r dj (t.inst i _ hi)
    refine wpAny_call ?_
    k_dflt refine' code_fn (l := [("self", Value.ref (P.D i))]) S R ?k1 ?k2 ?k3 ?k4 ?_ ?k6 ?k7 ?k8 ?k9 ?k10
    walk_at "m_in"
    intro L s1 hL S1
    have F0 := S.frs
    clear S
    refine hideQ ?_
    intro QF hQF
    refine hideE ?_
    intro EF hEF
    (try dsimp only)
    walk_at "m_st"
    rename St _ _ _ _ => mS
    rename (upd _ _ _ _ = none) => hp
    rename Nat => pl
    have hpL : pl ≠ L := none_ne hp
    have hp := none_up (none_up hp)
    have mS' := mS.env
    clear mS
    (refine Mine.el_EA mS' fun ev hev mS => ?_; (try clear mS'))
    refine with_fin (FinPre (c := c) P rk i ev L pl) ?_ ?_
    case refine_1 =>
      clear hp hpL mS k kE hself hi t dj hL F0 fF
      rintro A' E' Q' s' ⟨F', G', M', pp, tsp, nx, d, R', hd, fF, dj, t, ok', hi, hz, hpp, hpl, hL, hE, S', k⟩
      have hLj := join_l (G := G') hL
      walk_at "m_st"
      refine wpAny_For ?_
      walk1
      rename St _ _ _ _ => S'
      refine for_list_h (tsp.map .ref) (fun j Hc => ∃ G1, Hc = join F' G1 ∧ Dj F' G1 ∧ Tree 246 P (fin i (pp.take j) M') G1 ∧ Tups G' G1) S' ⟨G', rfl, dj, t, Tups.refl G'⟩ ?_ ?_ ?_ ?_
      · rintro j _ ⟨G1, rfl, d1, t1, u1⟩; exact join_l hpl
      · rintro j _ ⟨G1, rfl, d1, t1, u1⟩
        exact hd.sub (fun a o q => ⟨o, join_l q, .inl rfl⟩)
      · rintro it j _ s1 v x ⟨G1, rfl, dj1, t1, u1⟩ hit hpl1 hx hv S1 QB EB hQB
        rw [List.getElem?_map] at hx
        (refine Mine.el_EA (Option.map_eq_some_iff.mp hx) fun tj htj zq0 => ?_; (first | subst zq0 | cases zq0))
        have hv := er_ref hv
        subst hv
        have hlt : j < pp.length := by
          have := (List.getElem?_eq_some_iff.mp htj).1
          rw [hE.len] at this; exact this
        (refine Mine.el_EA (hE.get j hlt) fun t0 ht0 hG => ?_)
        rw [htj] at ht0; (replace ht0 := Option.some.inj ht0; subst ht0)
        have hge : pp[j]? = some pp[j] := List.getElem?_eq_getElem hlt
        generalize pp[j] = e at hG hge
        have hpe := hpp e (List.mem_of_getElem? hge)
        have hGt := join_r dj1 (u1 _ _ hG)
        have hz1 : d.q.length + (pp.take j).length ≤ 1000 := by rw [List.length_take]; omega
        have hpp1 : ∀ e ∈ pp.take j, (∃ m, M' e.2 = some m) ∧ rk e.2 < rk i := fun x hx => hpp x (List.mem_of_mem_take hx)
        have RM := Res.fin (pp.take j) ok' hi hpp1 hz1
        (refine Mine.el_EA (fin_self (pp.take j) ok' hi hpp1 hz1) fun d1 hd1 hl1 => ?_)
        obtain ⟨n1, hn1⟩ : ∃ n1, fin i (pp.take j) M' e.2 = some n1 := by
          (refine Mine.el_E (hpe.1) fun m hm => ?_)
          (refine Mine.el_EA (RM.like.fw _ m hm) fun m' hm' _ => ?_)
          exact ⟨m', hm'⟩
        have hne : e.2 ≠ i := fun z => by have := hpe.2; rw [z] at this; omega
        have hnD : P.D e.2 ≠ P.D i := fun z => hne (t1.dd hn1 hd1 z)
        (refine Mine.el_EA (t1.ql i _ hd1) fun ts1 hq1 he1 => ?_)
        have b1 := RM.ok.ok _ _ hn1
        have b2 := RM.ok.ok _ _ hd1
        have hself := join_r dj1 (t1.inst i _ hd1)
        have hch := join_r dj1 (t1.inst e.2 _ hn1)
        have hql := join_r dj1 hq1
        have hLj := join_l (G := G1) hL
        have he1' : Ents P (join F' G1) ts1 d1.q := he1.mono fun a xs q => join_r dj1 q
        have hs1 : ∀ x ∈ d1.q, StreamAt 246 P (join F' G1) x.2 := fun x hx => by
          (refine Mine.el_E ((b2.2.2.2.2.2 x hx).1) fun m hm => ?_)
          exact ⟨_, join_r dj1 (t1.inst _ _ hm), rfl⟩
        have TS := fun t' h' => t1.fstep (t' := t') (ts := ts1) (e := e) hd1 hn1 hne h' hq1 he1
        rw [← fin_take hge] at TS
        have k1 : F' (P.D i) = none := dj1 _ _ (t1.inst i _ hd1)
        have k2 : F' (P.D e.2) = none := dj1 _ _ (t1.inst e.2 _ hn1)
        have k3 : F' (P.QL i) = none := dj1 _ _ hq1
        have ne1 : L ≠ P.D i := ne_kind hLj hself (by intro z; (exact Mine.tag_ne z rfl))
        have ne2 : L ≠ P.D e.2 := ne_kind hLj hch (by intro z; (exact Mine.tag_ne z rfl))
        have ne3 : L ≠ P.QL i := ne_kind hLj hql (by intro z; (exact Mine.tag_ne z rfl))
        have ne4 : P.D i ≠ P.QL i := ne_kind hself hql (by intro z; (exact Mine.tag_ne z rfl))
        have ne5 : P.D e.2 ≠ P.QL i := ne_kind hch hql (by intro z; (exact Mine.tag_ne z rfl))
        have ne6 : L ≠ it := ne_fresh hit hLj
        have ne7 : P.D i ≠ it := ne_fresh hit hself
        have ne8 : P.D e.2 ≠ it := ne_fresh hit hch
        have ne9 : P.QL i ≠ it := ne_fresh hit hql
        have ne10 : pl ≠ it := ne_fresh hit hpl1
        have ne11 : pl ≠ L := ne_kind hpl1 hLj (by intro z; (exact Mine.tag_ne z rfl))
        refine unpack2 S1 (upd_other (by walk_at "m_ne") hGt) ((hd.sub (fun a o q => ⟨o, join_l q, .inl rfl⟩)).fresh (by assumption)) ?_
        intro v1 v2 s2 h1 h2 S2
        clear S1
        (refine Mine.el_E (er_int h1) fun tk1 zq0 => ?_; (first | subst zq0 | cases zq0))
        have h2 := er_ref h2
        subst h2
        walk_at "m_st"
        rename St _ _ _ _ => mS
        have hse : StreamAt 246 P (join F' G1) e.2 := ⟨_, hch, rfl⟩
        rename (upd _ _ _ _ = none) => ht'
        rename Nat => t'
        refine heappush_spec (P := P) (ts := ts1) (es := d1.q) (e := (e.1 + (256 + n1.df) / n1.wt, e.2)) mS (by walk_at "m_R") (by walk_at "m_H") (by first | decide | omega) (by walk_at "m_ents") ?_ (by walk_at "m_H") (by walk_at "m_str") ?_
        · intro x hx
          have := hs1 x hx
          walk_at "m_str"
        intro s3 S3
        have ht1 : join F' G1 t' = none := by walk_at "m_none1"
        (refine Mine.el_A (join_none ht1) fun hf hg => ?_)
        walk_at "m_st"
        rename St _ _ _ _ => S3
        have d4 := (((dj1.r (o := .inst 246 (flds P i { d1 with lw := e.1 })) k1).r (o := .inst 246 (flds P e.2 { n1 with df := (256 + n1.df) % n1.wt })) k2).r (o := .tup [.int (e.1 + (256 + n1.df) / n1.wt) 0, .ref (P.D e.2)]) hf).r (o := .list ((put (place (klt (e.1 + (256 + n1.df) / n1.wt, e.2)) d1.q) t' ts1).map .ref)) k3
        have i1 := t1.inst i _ hd1
        have i2 := t1.inst e.2 _ hn1
        have q1 : t' ≠ P.D i := (ne_fresh hg i1).symm
        have q2 : t' ≠ P.D e.2 := (ne_fresh hg i2).symm
        have q3 : P.QL i ≠ t' := ne_fresh hg hq1
        have q4 : it ≠ P.D i := Ne.symm ne7
        have q5 : t' ≠ it := none_ne (H := join F' G1) (o := .iter pl (j + 1)) (by walk_at "m_none1")
        refine hQB _ ?_
        refine LoopAt.mk ⟨_, rfl, d4, TS t' hg, (((u1.upd i1 (by intro xs z; (exact Mine.tag_ne z rfl))).upd (upd_other hnD i2) (by intro xs z; (exact Mine.tag_ne z rfl))).fresh (upd_other q2 (upd_other q1 hg))).upd (upd_other q3 (upd_other (Ne.symm ne5) (upd_other (Ne.symm ne4) hq1))) (by intro xs z; (exact Mine.tag_ne z rfl))⟩ ?_ ?_
        · rw [← upd_join_r k3, ← upd_join_r hf, ← upd_join_r k2, ← upd_join_r k1]
          exact upd_other (Ne.symm ne9) (upd_other (Ne.symm q5) (upd_other (Ne.symm ne8) (upd_other q4 hit)))
        · rw [← upd_join_r k3, ← upd_join_r hf, ← upd_join_r k2, ← upd_join_r k1]
          exact S3.sub (by walk_at "m_sub") (by walk_at "m_frs")
      · rintro _ s1 ⟨G1, rfl, d1, t1, u1⟩ S1 QB EB hQB
        rw [List.length_map, hE.len, List.take_length] at t1
        walk_at "m_st"
        rename St _ _ _ _ => S1
        exact k _ _ d1 t1 u1 S1
    case refine_2 =>
      intro finl
      refine wpAny_Try_finally ?_
      (refine Mine.el_A (join_none hp) fun fp gp => ?_)
      (refine Mine.el_A (join_none hL) fun fl gl => ?_)
      have FF : ∀ X Y, Frs ev (upd (upd F pl (.list X)) L (.ns Y)) := fun X Y => by
        rw [hev]
        exact Frs.cons ((fF.fresh fp).fresh (upd_other (Ne.symm hpL) fl)) (upd_self ..) rfl (fun z => absurd z (show ScopeKind.function ≠ .module by decide))
      have S2 := mS.sub (envs' := ev) (H := upd (upd (join F G) pl (.list [])) L (.ns [("next_stream", .none), ("popped_streams", .ref pl), ("self", .ref (P.D i))])) (by walk_at "m_sub") (by rw [upd_join, upd_join]; exact (FF _ _).join)
      clear mS F0
      rw [upd_join, upd_join] at S2
      walk1
      refine while_h (SchInv c P rk n i q M F G ev L pl) ?_ q.length
        ⟨[], M, G, [], none, _, rfl, hi, .inl ⟨rfl, rfl⟩, Res.refl ok, by simp, (fun e he => by cases he), (fun e he => he), (dj.l gp).l gl, t, Tups.refl G, trivial, S2⟩
      rintro m s2 ⟨pp, Mc, Gc, tsp, nx, dc, rfl, hc, hrel, RM, hlen, hmem, hqm, djc, tc, uc, hE, S3⟩
      intro QB QE EE hQB hQE hEE
      (refine Mine.el_E (show ∃ FN, FN = upd (upd F pl (.list (tsp.map .ref))) L (.ns [("next_stream", nx.elim .none (.int · 0)), ("popped_streams", .ref pl), ("self", .ref (P.D i))]) from ⟨_, rfl⟩) fun FN hFN => ?_)
      rw [← hFN] at djc S3
      have hpF : FN pl = some (.list (tsp.map .ref)) := by rw [hFN]; exact upd_other hpL (upd_self ..)
      have hLF : FN L = some (.ns [("next_stream", nx.elim .none (.int · 0)), ("popped_streams", .ref pl), ("self", .ref (P.D i))]) := by rw [hFN]; exact upd_self ..
      have fFN : Frs ev FN := by rw [hFN]; exact FF _ _
      have hpn := join_l (G := Gc) hpF
      have hLn := join_l (G := Gc) hLF
      have gpl : Gc pl = none := djc.has hpF
      have gL : Gc L = none := djc.has hLF
      have hself' := join_r djc (tc.inst i _ hc)
      (refine Mine.el_EA (tc.ql i _ hc) fun ts hq1 hEq => ?_)
      have hql := join_r djc hq1
      have ne1 : L ≠ P.D i := ne_kind hLn hself' (by intro z; (exact Mine.tag_ne z rfl))
      have ne2 : L ≠ P.QL i := ne_kind hLn hql (by intro z; (exact Mine.tag_ne z rfl))
      have ne3 : P.D i ≠ P.QL i := ne_kind hself' hql (by intro z; (exact Mine.tag_ne z rfl))
      have ne4 : pl ≠ P.D i := ne_kind hpn hself' (by intro z; (exact Mine.tag_ne z rfl))
      have ne5 : pl ≠ P.QL i := fun z => by rw [z, hq1] at gpl; (exact Mine.no_sn gpl)
      have kQ : FN (P.QL i) = none := djc _ _ hq1
      have okc := RM.ok.ok i _ hc
      clear hself S2 hL hp
      have okq := ok.ok i _ hi
      have hppq : ∀ e ∈ pp, (∃ m, Mc e.2 = some m) ∧ rk e.2 < rk i := fun e he => by
        (refine Mine.el_A (okq.2.2.2.2.2 e (hmem e he)) fun zq0 hr' => ?_; refine Mine.el_E zq0 fun m hm => ?_; clear zq0)
        (refine Mine.el_EA (RM.like.fw _ m hm) fun m' hm' _ => ?_)
        exact ⟨⟨m', hm'⟩, hr'⟩
      have hq1000 : q.length ≤ 1000 := okq.2.2.2.2.1
      have htl := hE.len
      have hFFN : Sub F FN := by rw [hFN]; exact ((Sub.refl F).fresh fp).fresh fl
      cases nx with
      | some x =>
        simp only [Option.elim_some] at hLF hLn
        w_strict (repeat' (first | with_reducible refine finl _ _ _ _ ?_ | walk1 | (dsimp only; walk1) | ((with_reducible refine unhide (by assumption) ?_); (try dsimp only))))
        rename St _ _ _ _ => S4
        have hgo : goL (sched n) i q M [] = (some x, Mc, pp) := by
          rcases hrel with ⟨z, _⟩ | ⟨y, z, hy⟩
          · (exact Mine.no_sn z)
          · (replace z := Option.some.inj z; subst z); exact hy
        refine ⟨FN, Gc, Mc, pp, tsp, .int x 0, dc, by walk_at "m_R", .inl hh, fFN, djc, tc, RM.ok, hc, by have := okq.2.2.2.2.1; simp only at this; omega, hppq, hpF, hLF, hE, S4, fun G2 s6 d2 t2 u2 S6 => ?_⟩
        have hLn := join_l (G := G2) hLF
        walk_at "m_st"
        (try dsimp only)
        rename St _ _ _ _ => S6
        exact k _ x _ G2 _ rfl (sched_eq n hi hgo) (d2.sub hFFN) t2 (uc.trans u2) (S6.sub (sub_join d2 hFFN) fF.join)
      | none =>
        simp only [Option.elim_none] at hLF hLn
        walk_at "m_st"
        cases hcq : dc.q with
        | nil =>
          rw [hcq] at hEq
          cases ts with
          | cons _ _ => exact hEq.elim
          | nil =>
          rename St _ _ _ _ => S4
          refine heappop_empty S4 (by walk_at "m_R") (by rw [hev]; exact Around.frames_deeper hA) hh (by walk_at "m_H") ?_
          intro e s5 F5
          rw [hev] at F5
          refine unhide hEE ?_
          refine fly_noted (.inl F5) (Around.frames_deeper hA) rfl fun s6 F6 => ?_
          refine fly_came F6 fun s7 F7 => ?_
          refine fly_note (.inl F7) (Around.frames_deeper hA) rfl fun s8 F8 => ?_
          refine fin_raised (.inl F8) (Around.frames_deeper hA) rfl fun T s9 he hT hTe S9 => ?_
          refine finl _ _ _ _ ?_
          (refine Mine.el_A (join_none he) fun fe ge => ?_)
          (refine Mine.el_A (join_none hT) fun fT gT => ?_)
          rw [upd_join, upd_join, ← hev] at S9
          have hgo : goL (sched n) i q M [] = (none, Mc, pp) := by
            rcases hrel with ⟨_, z⟩ | ⟨y, z, hy⟩
            · rw [z, hcq]; rfl
            · (exact Mine.no_ns z)
          have fe2 : upd FN T .tb e = none := upd_other (Ne.symm hTe) fe
          have nL : L ≠ e := ne_fresh fe hLF
          have nL2 : L ≠ T := ne_fresh fT hLF
          have np : pl ≠ e := ne_fresh fe hpF
          have np2 : pl ≠ T := ne_fresh fT hpF
          refine ⟨_, Gc, Mc, pp, tsp, .none, dc, by walk_at "m_R", .inr ⟨e, _, _, _, rfl, upd_self .., .inl rfl⟩, (fFN.fresh fT).fresh fe2, (djc.l gT).l ge, tc, RM.ok, hc, by omega, hppq, upd_other np (upd_other np2 hpF), upd_other nL (upd_other nL2 hLF), hE, S9, fun G2 s6 d2 t2 u2 S6 => ?_⟩
          have d3 : Dj FN G2 := d2.sub (((Sub.refl FN).fresh fT).fresh fe)
          have g2e : G2 e = none := d2.has (upd_self ..)
          have g2T : G2 T = none := d2.has (upd_other hTe (upd_self ..))
          rw [← upd_join, ← upd_join] at S6
          have F6 : FlyT c ev (join FN G2) e _ none s6 := FlyT.close S6 ((join_n fe).trans g2e) ((join_n fT).trans g2T) hTe
          refine fly_passOn F6 fun s7 F7 => ?_
          rw [hev] at F7
          refine unhide hEF ?_
          refine fly_leave (.inl F7) (Around.frames_deeper hA) rfl fun s8 F8 => ?_
          exact kE e _ G2 _ (sched_eq n hi hgo) (d3.sub hFFN) t2 (uc.trans u2) (F8.sub (sub_join d3 hFFN) fF.join)
        | cons e r =>
          rw [hcq] at hEq
          cases ts with
          | nil => exact hEq.elim
          | cons t0 ts' =>
          rename St _ _ _ _ => S4
          refine heappop_spec S4 (by walk_at "m_R") (x := .ref t0) (xs := ts'.map .ref) (by walk_at "m_H") ?_ ?_
          · have := hEq.2.len
            rw [hcq] at okc
            simp only [List.length_cons] at okc
            rw [List.length_map, this]; omega
          intro v s5 hv S5
          have hv := er_ref hv
          subst hv
          clear S4
          have hT0 := join_r djc hEq.1
          (refine Mine.el_A (okc.2.2.2.2.2 e (by rw [hcq]; exact .head _)) fun zq0 hre => ?_; refine Mine.el_E zq0 fun n1 hn1 => ?_; clear zq0)
          obtain ⟨wt1, kids1, par1, q1, act1, lw1, df1⟩ := n1
          have hch := join_r djc (tc.inst e.2 _ hn1)
          have ne6 : L ≠ t0 := ne_kind hLn hT0 (by intro z; (exact Mine.tag_ne z rfl))
          have ne7 : pl ≠ t0 := ne_kind hpn hT0 (by intro z; (exact Mine.tag_ne z rfl))
          have ne8 : P.QL i ≠ t0 := ne_kind hql hT0 (by intro z; (exact Mine.tag_ne z rfl))
          have ne9 : L ≠ P.D e.2 := ne_kind hLn hch (by intro z; (exact Mine.tag_ne z rfl))
          have ne10 : pl ≠ P.D e.2 := ne_kind hpn hch (by intro z; (exact Mine.tag_ne z rfl))
          have ne11 : P.QL i ≠ P.D e.2 := ne_kind hql hch (by intro z; (exact Mine.tag_ne z rfl))
          walk_at "m_st"
          rename St _ _ _ _ => S6
          refine unpack2 S6 (x := .int e.1 0) (y := .ref (P.D e.2)) (by walk_at "m_H") (.inl hh) ?_
          intro v1 v2 s7 h1 h2 S7
          clear S6
          (refine Mine.el_E (er_int h1) fun tk1 zq0 => ?_; (first | subst zq0 | cases zq0))
          have h2 := er_ref h2
          subst h2
          have hg : goL (sched n) i q M [] = goL (sched n) i (e :: r) Mc pp := by
            rcases hrel with ⟨_, z⟩ | ⟨y, z, hy⟩
            · rw [z, hcq]
            · (exact Mine.no_ns z)
          have hlen2 : r.length + (pp ++ [e]).length = q.length := by rw [hcq] at hlen; simp only [List.length_cons, List.length_append, List.length_nil] at hlen ⊢; omega
          have hmem2 : ∀ x ∈ pp ++ [e], x ∈ q := fun x hx => by
            rcases List.mem_append.mp hx with hx | hx
            · exact hmem x hx
            · (have zq := ((List.mem_singleton.mp hx)).symm; subst zq)
              exact hqm e (by rw [hcq]; exact .head _)
          have RP := Res.pop RM.ok hc hcq
          have tp := tc.setq hc hEq.2
          have up := uc.upd (o' := .list (ts'.map .ref)) hq1 (by intro xs z; (exact Mine.tag_ne z rfl))
          have ep : Ents P (upd Gc (P.QL i) (.list (ts'.map .ref))) (tsp ++ [t0]) (pp ++ [e]) := (hE.append (ts' := [t0]) (q' := [e]) ⟨hEq.1, trivial⟩).turn hq1 (by intro xs z; (exact Mine.tag_ne z rfl))
          have gp2 : upd Gc (P.QL i) (.list (ts'.map .ref)) pl = none := upd_other ne5 gpl
          have gl2 : upd Gc (P.QL i) (.list (ts'.map .ref)) L = none := upd_other ne2 gL
          have e1 : ∀ X Y, upd (upd F pl X) L Y = upd (upd FN pl X) L Y := fun X Y => by rw [hFN, fn_re hpL]
          have dp : ∀ X Y, Dj (upd (upd F pl X) L Y) (upd Gc (P.QL i) (.list (ts'.map .ref))) := fun X Y => by rw [e1]; exact ((djc.r kQ).l gp2).l gl2
          cases act1 with
          | true =>
            walk_at "m_st"
            rename St _ _ _ _ => S8
            refine ⟨r.length, by first | simp | (rw [hcq]; exact Nat.lt_succ_self _), pp ++ [e], _, _, tsp ++ [t0], some e.2, { dc with q := r }, rfl, Mo.put_self .., .inr ⟨e.2, rfl, hg.trans (goL_act hc hn1 rfl)⟩, RM.trans RP, hlen2, hmem2, (fun x hx => hqm x (by rw [hcq]; exact .tail _ hx)), dp _ _, tp, up, ep, S8.sub ?_ (FF _ _).join⟩
            rw [e1, ← upd_join, ← upd_join, ← upd_join_r kQ]
            simp only [List.map_append, List.map_cons, List.map_nil]
            walk_at "m_sub"
          | false =>
            walk_at "m_st"
            refine wpAny_Try_except ?_
            walk_at "m_st"
            rename St _ _ _ _ => S8
            have S9 := S8.sub (H := join (upd (upd F pl (.list ((tsp ++ [t0]).map .ref))) L (.ns [("child", .ref (P.D e.2)), ("next_stream", .none), ("popped_streams", .ref pl), ("self", .ref (P.D i))])) (upd Gc (P.QL i) (.list (ts'.map .ref)))) (by
              rw [e1, ← upd_join, ← upd_join, ← upd_join_r kQ]
              simp only [List.map_append, List.map_cons, List.map_nil]
              walk_at "m_sub") (FF _ _).join
            clear S8
            have hne : e.2 ≠ i := fun z => by rw [z] at hre; omega
            have hn2 : (Mc.put i { dc with q := r }) e.2 = some _ := (Mo.put_ne hne).trans hn1
            have RS := Res.sched n RP.ok ⟨_, hn2⟩ (by first | decide | omega)
            have hfar := RS.far i hre
            have hii := hfar.trans (Mo.put_self ..)
            refine sched_spec P rk n S9 (by walk_at "m_R") (by rw [hev]; exact Around.frames_deeper hA) hh (FF _ _) (dp _ _) tp RP.ok hn2 (by first | decide | omega) rfl ?_ ?_
            · intro v x M2 G2 s10 hv hs d2 t2 u2 S10
              rw [hs] at RS hii
              (refine Mine.el_E (er_int hv) fun tk zq0 => ?_; (first | subst zq0 | cases zq0))
              have hLj := join_l (G := G2) (upd_self (upd F pl (.list ((tsp ++ [t0]).map .ref))) L (.ns [("child", .ref (P.D e.2)), ("next_stream", .none), ("popped_streams", .ref pl), ("self", .ref (P.D i))]))
              clear S9
              walk_at "m_st"
              rename St _ _ _ _ => S12
              have d3 : ∀ Y, Dj (upd (upd F pl (.list ((tsp ++ [t0]).map .ref))) L (.ns Y)) G2 := fun Y => by
                have := d2.l (o := .ns Y) (d2.has (upd_self ..))
                rwa [upd_upd] at this
              refine ⟨r.length, by first | simp | (rw [hcq]; exact Nat.lt_succ_self _), pp ++ [e], M2, G2, tsp ++ [t0], some x, { dc with q := r }, rfl, hii, .inr ⟨x, rfl, hg.trans (goL_some hc hn1 rfl hs)⟩, RM.trans (RP.trans (RS.up (Nat.le_of_lt hre))), hlen2, hmem2, (fun x hx => hqm x (by rw [hcq]; exact .tail _ hx)), d3 _, t2, up.trans u2, ep.mono u2, S12.sub ?_ (FF _ _).join⟩
              rw [← upd_upd (upd F pl (.list ((tsp ++ [t0]).map .ref))) L (.ns [("child", .ref (P.D e.2)), ("next_stream", .none), ("popped_streams", .ref pl), ("self", .ref (P.D i))]), ← upd_join]
              walk_at "m_sub"
            · intro e2 M2 G2 s10 hs d2 t2 u2 F10
              rw [hs] at RS hii
              rw [hev] at F10
              refine caught_B (T' := "IndexError") (.inl F10) (Around.frames_deeper hA) rfl idx_exc idx_nt idx_sub (by k_is) (by boot_by_name) (by decide) fun T s11 he hT hTe S11 => ?_
              walk_at "m_st"
              have hLj := join_l (G := G2) (upd_self (upd F pl (.list ((tsp ++ [t0]).map .ref))) L (.ns [("child", .ref (P.D e.2)), ("next_stream", .none), ("popped_streams", .ref pl), ("self", .ref (P.D i))]))
              have nL1 : L ≠ e2 := ne_fresh he hLj
              have nL2 : L ≠ T := ne_fresh hT hLj
              have d3 : ∀ Y, Dj (upd (upd F pl (.list ((tsp ++ [t0]).map .ref))) L (.ns Y)) G2 := fun Y => by
                have := d2.l (o := .ns Y) (d2.has (upd_self ..))
                rwa [upd_upd] at this
              refine ⟨r.length, by first | simp | (rw [hcq]; exact Nat.lt_succ_self _), pp ++ [e], M2, G2, tsp ++ [t0], none, { dc with q := r }, rfl, hii, .inl ⟨rfl, hg.trans (goL_none hc hn1 rfl hs)⟩, RM.trans (RP.trans (RS.up (Nat.le_of_lt hre))), hlen2, hmem2, (fun x hx => hqm x (by rw [hcq]; exact .tail _ hx)), d3 _, t2, up.trans u2, ep.mono u2, S11.sub ?_ (FF _ _).join⟩
              rw [← upd_upd (upd F pl (.list ((tsp ++ [t0]).map .ref))) L (.ns [("child", .ref (P.D e.2)), ("next_stream", .none), ("popped_streams", .ref pl), ("self", .ref (P.D i))]), ← upd_join]
              walk_at "m_sub"
end
end
section
section
variable {w : World} {c : Cx PySem.Challenge.rw_bd0031_06.row.prog w (MineTop.hd.heap_39 w.params)} {envs : List Env} {H F G : AH} {A : Around} {E Q : Value → Shared → Prop} {s : Shared}
theorem dunder_next {rk : Int → Nat} {N : Nat} {M : Mo} {ks : List Int} {pt : Nat} {nd : Nd} (S : St c envs (join F G) s) (R : Rm A (20 * N + 30) (200 * N + 260)) (hA : A.frames = some envs) (hh : A.handled = none)
    (fF : Frs envs F) (dj : Dj F G) (t : PTree 246 347 M ks pt G) (ok : OkM rk M) (hi : M 0 = some nd) (hr : rk 0 < N) (ha : nd.act = false)
    (k : ∀ v x M' G' s', er v = .int x 0 → sched N M 0 = (some x, M') → Dj F G' → PTree 246 347 M' ks pt G' → St c envs (join F G') s' → Q v s')
    (kE : ∀ e h T M' G' s', sched N M 0 = (none, M') → Dj F G' → PTree 246 347 M' ks pt G' → join F G' h = none → FlyT c envs (upd (join F G') h (.exc (.type "IndexError") (some T) none)) e (.ref 58) (some h) s' → E (.ref e) s') :
    wpAny (model PySem.Challenge.rw_bd0031_06.row.prog w) A (call (.ref 337) [.ref pt]) Q E s := by
  (refine Mine.el_EEEAAAAA (t.split dj) fun P dd Gt p f1 f2 d0 dj1 ej => ?_)
  rw [ej] at S
  (refine Mine.el_E (show ∃ FP, FP = upd (upd F pt (.inst 347 (pfl P dd))) dd (.imap (pdict P ks)) from ⟨_, rfl⟩) fun FP hFP => ?_)
  have fFP : Frs envs FP := by rw [hFP]; exact (fF.fresh f1).fresh (upd_other p.ne.symm f2)
  have hptF : FP pt = some (.inst 347 (pfl P dd)) := by rw [hFP]; exact upd_other p.ne (upd_self ..)
  rw [← hFP] at S dj1
  have hpt := join_l (G := Gt) hptF
  have hD0 := join_r dj1 (p.tree.inst 0 _ hi)
  refine wpAny_call ?_
  k_dflt refine' code_fn (l := [("self", Value.ref pt)]) S R ?k1 ?k2 ?k3 ?k4 ?_ ?k6 ?k7 ?k8 ?k9 ?k10
  walk_at "m_in"
  intro L s1 hL S1
  have F0 := S.frs
  clear S
  refine hideQ ?_
  intro QF hQF
  refine hideE ?_
  intro EF hEF
  (try dsimp only)
  walk_at "m_st"
  refine wpAny_Try_except ?_
  walk_at "m_st"
  (refine Mine.el_A (join_none hL) fun fl gl => ?_)
  rename St _ _ _ _ => S2
  rw [upd_join] at S2
  have fF2 : ∀ env : Env, env.frame = some L → env.scope.kind ≠ .module → Frs (env :: envs) (upd FP L (.ns [("self", .ref pt)])) := fun env h k => Frs.cons (fFP.fresh fl) (upd_self ..) h k
  have RS := Res.sched N ok ⟨_, hi⟩ hr
  have sF : Sub FP (upd FP L (.ns [("self", .ref pt)])) := (Sub.refl FP).fresh fl
  refine sched_spec P rk N S2 (by walk_at "m_R") (Around.frames_deeper hA) hh (fF2 _ rfl (fun z => absurd z (show ScopeKind.function ≠ .module by decide))) (dj1.l gl) p.tree ok hi hr ha ?_ ?_
  · intro v x M' G' s2 hv hs d2 t2 u2 S3
    rw [hs] at RS
    have d3 : Dj FP G' := d2.sub sF
    (refine Mine.el_AA (PTree.back p f1 f2 (hFP ▸ d3) t2 RS.like) fun b1 b2 b3 => ?_)
    walk_at "m_st"
    (try dsimp only)
    rename St _ _ _ _ => S4
    have S5 := S4.sub (sub_join d2 sF) fFP.join
    rw [hFP, b3] at S5
    exact k v x M' _ _ hv hs b2 b1 S5
  · intro e M' G' s2 hs d2 t2 u2 F3
    rw [hs] at RS
    have d3 : Dj FP G' := d2.sub sF
    (refine Mine.el_AA (PTree.back p f1 f2 (hFP ▸ d3) t2 RS.like) fun b1 b2 b3 => ?_)
    refine caught_B (.inl F3) (Around.frames_deeper hA) rfl idx_exc idx_nt idx_sub (by k_is) (by boot_by_name) (by decide) fun T s3 he hT hTe S4 => ?_
    refine wpAny_execs_cons ?_
    refine Raise_ S4 (.inr ⟨e, _, _, _, rfl, upd_self .., .inl rfl⟩) (by k_is) (by k_exc) PySem.F.excBase_Exception ?_
    intro x ctx s4 hx hctx S5
    obtain rfl : ctx = some e := by
      cases ctx with
      | none => (exact Mine.no_sn hctx)
      | some y => cases hctx; rfl
    refine fly_noted (.inr ⟨hx, S5⟩) (Around.frames_deeper hA) rfl fun s5 F5 => ?_
    refine fly_came F5 fun s6 F6 => ?_
    refine unhide hEF ?_
    refine fly_leave (.inl F6) (Around.frames_deeper hA) rfl fun s7 F7 => ?_
    have he2 : join FP G' e = none := by rw [← upd_join] at he; exact none_up he
    have hT2 : join FP G' T = none := by rw [← upd_join] at hT; exact none_up hT
    rw [hFP, b3] at he2
    have F8 := F7.sub (H := upd (join FP G') e (.exc (.type "IndexError") (some T) none)) (Sub.upd2 ((sub_join d2 sF).fresh hT2) (.inl rfl)) (fFP.join.fresh (by rw [hFP, b3]; exact he2))
    rw [hFP, b3] at F8
    exact kE x e T M' _ s7 hs b2 b1 he2 F8
theorem next_spec {rk : Int → Nat} {N : Nat} {M : Mo} {ks : List Int} {pt : Nat} {nd : Nd} (S : St c envs (join F G) s) (R : Rm A (20 * N + 40) (200 * N + 290)) (hA : A.frames = some envs) (hh : A.handled = none)
    (fF : Frs envs F) (dj : Dj F G) (t : PTree 246 347 M ks pt G) (ok : OkM rk M) (hi : M 0 = some nd) (hr : rk 0 < N) (ha : nd.act = false)
    (k : ∀ v x M' G' s', er v = .int x 0 → sched N M 0 = (some x, M') → Dj F G' → PTree 246 347 M' ks pt G' → St c envs (join F G') s' → Q v s')
    (kE : ∀ e h T M' G' s', sched N M 0 = (none, M') → Dj F G' → PTree 246 347 M' ks pt G' → join F G' h = none → FlyT c envs (upd (join F G') h (.exc (.type "IndexError") (some T) none)) e (.ref 58) (some h) s' → E (.ref e) s') :
    wpAny (model PySem.Challenge.rw_bd0031_06.row.prog w) A (call (.ref 344) [.ref pt]) Q E s := by
  (refine Mine.el_EEEAAAAA (t.split dj) fun P dd Gt p f1 f2 d0 dj1 ej => ?_)
  have hpt : join F G pt = some (.inst 347 (pfl P dd)) := by rw [ej]; exact join_l (upd_other p.ne (upd_self ..))
  refine wpAny_call ?_
  k_dflt refine' code_fn (l := [("self", Value.ref pt)]) S R ?k1 ?k2 ?k3 ?k4 ?_ ?k6 ?k7 ?k8 ?k9 ?k10
  walk_at "m_in"
  intro L s1 hL S1
  clear S
  refine hideQ ?_
  intro QF hQF
  refine hideE ?_
  intro EF hEF
  (try dsimp only)
  walk_at "m_st"
  (refine Mine.el_A (join_none hL) fun fl gl => ?_)
  rename St _ _ _ _ => S2
  rw [upd_join] at S2
  have fF2 : ∀ env : Env, env.frame = some L → env.scope.kind ≠ .module → Frs (env :: envs) (upd F L (.ns [("self", .ref pt)])) := fun env h k => Frs.cons (fF.fresh fl) (upd_self ..) h k
  have sF : Sub F (upd F L (.ns [("self", .ref pt)])) := (Sub.refl F).fresh fl
  refine dunder_next S2 (by walk_at "m_R") (Around.frames_deeper hA) hh (fF2 _ rfl (fun z => absurd z (show ScopeKind.function ≠ .module by decide))) (dj.l gl) t ok hi hr ha ?_ ?_
  · intro v x M' G' s2 hv hs d2 t2 S3
    walk_at "m_st"
    (try dsimp only)
    rename St _ _ _ _ => S4
    exact k v x M' _ _ hv hs (d2.sub sF) t2 (S4.sub (sub_join d2 sF) fF.join)
  · intro e h T M' G' s2 hs d2 t2 hhn F3
    refine unhide hEF ?_
    refine fly_leave (.inl F3) (Around.frames_deeper hA) rfl fun s7 F7 => ?_
    have he2 : join F G' h = none := by rw [← upd_join] at hhn; exact none_up hhn
    exact kE e h T M' _ s7 hs (d2.sub sF) t2 he2 (F7.sub (Sub.upd2 (sub_join d2 sF) (.inl rfl)) (fF.join.fresh he2))
end
end
set_option hygiene false in
local macro_rules | `(tactic| walk_at "setAttr ref") => `(tactic| ((with_reducible show wpAny _ _ (setAttr (Value.ref _) (PySem.Str.ofString "weight") _) _ _ _); walk_at "q"; k_dflt (refine at_pset ymS (by walk_at "m_H") (by k_is) (by k_is) (by k_is) (by k_is) (by k_is) ?_); intro ys1 yS1; clear ymS; k_dflt (refine weight_set yS1 (by walk_at "m_R") (by walk_at "m_H") (by walk_at "m_len") (by first | decide | omega) (by first | decide | omega) ?_); intro yr ys2 yS2; clear yS1; (try dsimp only)))
section
section
variable {w : World} {c : Cx PySem.Challenge.rw_bd0031_06.row.prog w (MineTop.hd.heap_39 w.params)} {envs : List Env} {H F G : AH} {A : Around} {E Q : Value → Shared → Prop} {s : Shared}
theorem stream_init {x : Nat} {i v : Int} {t1 t2 : Tok} {R : Result → Shared → Prop} (S : St c envs H s) (Ro : Rm A 8 60) (hx : H x = some (.inst 246 [])) (h1 : 1 ≤ v) (h2 : v ≤ 256)
    (k : ∀ (cl ql : Nat) s', H cl = none → H ql = none → cl ≠ ql → St c envs (upd (upd (upd H x (.inst 246 (nfl i v cl ql))) cl (.list [])) ql (.list [])) s' → R (.ok (.ret .none)) s') :
    codeAny (model PySem.Challenge.rw_bd0031_06.row.prog w) A (.call (.ref 148) ⟨[.ref x, .int i t1, .int v t2], []⟩) R s := by
  k_dflt refine' code_fn (l := [("weight", Value.int v 0), ("stream_id", Value.int i 0), ("self", Value.ref x)]) S Ro ?k1 ?k2 ?k3 ?k4 ?_ ?k6 ?k7 ?k8 ?k9 ?k10
  walk_at "m_in"
  intro L s1 hL S1
  have F0 := S.frs
  clear S
  refine hideQ ?_
  intro QF hQF
  refine hideE ?_
  intro EF hEF
  (try dsimp only)
  walk_at "m_st"
  rename St _ _ _ _ => mS
  rename (upd (upd (upd H _ _) _ _) _ _ _ = none) => hc
  have c0 := none_up (none_up (none_up hc))
  rename (upd (upd (upd (upd _ _ _) _ _) _ _) _ _ _ = none) => hq
  have q0 := none_up (none_up (none_up (none_up (none_up (none_up hq)))))
  have nqc := none_ne (none_up (none_up hq))
  have nq := none_ne hq
  have nc := none_ne hc
  have ncl := none_ne (none_up (none_up hc))
  have nql := none_ne (none_up (none_up (none_up (none_up (none_up hq)))))
  exact k _ _ _ c0 q0 (Ne.symm nqc) (mS.ret (by walk_at "m_sub") (by walk_at "m_frs"))
theorem stream_new {i v : Int} {t1 t2 : Tok} {R : Result → Shared → Prop} (S : St c envs H s) (Ro : Rm A 10 80) (h1 : 1 ≤ v) (h2 : v ≤ 256)
    (k : ∀ (x cl ql : Nat) s', H x = none → H cl = none → H ql = none → x ≠ cl → x ≠ ql → cl ≠ ql → St c envs (upd (upd (upd H x (.inst 246 (nfl i v cl ql))) cl (.list [])) ql (.list [])) s' → R (.ok (.ret (.ref x))) s') :
    codeAny (model PySem.Challenge.rw_bd0031_06.row.prog w) A (.call (.ref 246) ⟨[.int i t1, .int v t2], []⟩) R s := by
  k_dflt refine' make_ S ?a ?b ?c ?_
  case a => k_is
  case b => k_is
  case c => k_is
  intro x s1 hx S1
  refine stream_init S1 (Rm.under (by walk_at "m_R")) (upd_self ..) h1 h2 fun cl ql s2 hc hq n S2 => ?_
  rw [upd_upd] at S2
  exact ⟨rfl, k x cl ql s2 hx (none_up hc) (none_up hq) (Ne.symm (none_ne hc)) (Ne.symm (none_ne hq)) n S2⟩
theorem stream_init_kw {x : Nat} {i v : Int} {t1 t2 : Tok} {R : Result → Shared → Prop} (S : St c envs H s) (Ro : Rm A 8 60) (hx : H x = some (.inst 246 [])) (h1 : 1 ≤ v) (h2 : v ≤ 256)
    (k : ∀ (cl ql : Nat) s', H cl = none → H ql = none → cl ≠ ql → St c envs (upd (upd (upd H x (.inst 246 (nfl i v cl ql))) cl (.list [])) ql (.list [])) s' → R (.ok (.ret .none)) s') :
    codeAny (model PySem.Challenge.rw_bd0031_06.row.prog w) A (.call (.ref 148) ⟨[.ref x], [("stream_id", .int i t1), ("weight", .int v t2)]⟩) R s := by
  k_dflt refine' code_fn (l := [("weight", Value.int v 0), ("stream_id", Value.int i 0), ("self", Value.ref x)]) S Ro ?k1 ?k2 ?k3 ?k4 ?_ ?k6 ?k7 ?k8 ?k9 ?k10
  walk_at "m_in"
  intro L s1 hL S1
  have F0 := S.frs
  clear S
  refine hideQ ?_
  intro QF hQF
  refine hideE ?_
  intro EF hEF
  (try dsimp only)
  walk_at "m_st"
  rename St _ _ _ _ => mS
  rename (upd (upd (upd H _ _) _ _) _ _ _ = none) => hc
  have c0 := none_up (none_up (none_up hc))
  rename (upd (upd (upd (upd _ _ _) _ _) _ _) _ _ _ = none) => hq
  have q0 := none_up (none_up (none_up (none_up (none_up (none_up hq)))))
  have nqc := none_ne (none_up (none_up hq))
  have nq := none_ne hq
  have nc := none_ne hc
  exact k _ _ _ c0 q0 (Ne.symm nqc) (mS.ret (by walk_at "m_sub") (by walk_at "m_frs"))
theorem stream_new_kw {i v : Int} {t1 t2 : Tok} {R : Result → Shared → Prop} (S : St c envs H s) (Ro : Rm A 10 80) (h1 : 1 ≤ v) (h2 : v ≤ 256)
    (k : ∀ (x cl ql : Nat) s', H x = none → H cl = none → H ql = none → x ≠ cl → x ≠ ql → cl ≠ ql → St c envs (upd (upd (upd H x (.inst 246 (nfl i v cl ql))) cl (.list [])) ql (.list [])) s' → R (.ok (.ret (.ref x))) s') :
    codeAny (model PySem.Challenge.rw_bd0031_06.row.prog w) A (.call (.ref 246) ⟨[], [("stream_id", .int i t1), ("weight", .int v t2)]⟩) R s := by
  k_dflt refine' make_ S ?a ?b ?c ?_
  case a => k_is
  case b => k_is
  case c => k_is
  intro x s1 hx S1
  refine stream_init_kw S1 (Rm.under (by walk_at "m_R")) (upd_self ..) h1 h2 fun cl ql s2 hc hq n S2 => ?_
  rw [upd_upd] at S2
  exact ⟨rfl, k x cl ql s2 hx (none_up hc) (none_up hq) (Ne.symm (none_ne hc)) (Ne.symm (none_ne hq)) n S2⟩
end
end
section
section
variable {w : World} {c : Cx PySem.Challenge.rw_bd0031_06.row.prog w (MineTop.hd.heap_39 w.params)} {envs : List Env} {H F G : AH} {A : Around} {E Q : Value → Shared → Prop} {s : Shared}
theorem add_child_spec {P : Pl} {M : Mo} {i j : Int} {d n : Nd} (S : St c envs (join F G) s) (R : Rm A 12 120) (fF : Frs envs F) (dj : Dj F G) (t : Tree 246 P M G) (hi : M i = some d) (hj : M j = some n) (hne : j ≠ i)
    (hz : d.q.length ≤ 900) (hk : d.kids.length ≤ 900) (hex : ∀ e ∈ d.q, ∃ m, M e.2 = some m)
    (k : ∀ G' s', Dj F G' → Tree 246 P (adopt M i j) G' → St c envs (join F G') s' → Q .none s') :
    wpAny (model PySem.Challenge.rw_bd0031_06.row.prog w) A (call (.ref 172) [.ref (P.D i), .ref (P.D j)]) Q E s := by
  have hself := join_r dj (t.inst i _ hi)
  have hch := join_r dj (t.inst j _ hj)
  have hcl := join_r dj (t.cl i _ hi)
  (refine Mine.el_EA (t.ql i _ hi) fun ts hq1 hE => ?_)
  have hql := join_r dj hq1
  have hE' : Ents P (join F G) ts d.q := hE.mono fun a xs q => join_r dj q
  have hs1 : ∀ x ∈ d.q, StreamAt 246 P (join F G) x.2 := fun x hx => by
    (refine Mine.el_E (hex x hx) fun m hm => ?_)
    exact ⟨_, join_r dj (t.inst _ _ hm), rfl⟩
  have hse : StreamAt 246 P (join F G) j := ⟨_, hch, rfl⟩
  have hnD : P.D j ≠ P.D i := fun z => hne (t.dd hj hi z)
  have m2 : P.D j ≠ P.QL i := ne_kind hch hql (by intro z; (exact Mine.tag_ne z rfl))
  have m3 : P.D i ≠ P.CL i := ne_kind hself hcl (by intro z; (exact Mine.tag_ne z rfl))
  have m4 : P.D j ≠ P.CL i := ne_kind hch hcl (by intro z; (exact Mine.tag_ne z rfl))
  have m5 : P.CL i ≠ P.QL i := t.cq i i _ _ hi hi
  have TA := fun t' h' => t.adopt (t' := t') (ts := ts) hi hj hne h' hq1 hE
  have k1 : F (P.D j) = none := dj _ _ (t.inst j _ hj)
  have k2 : F (P.CL i) = none := dj _ _ (t.cl i _ hi)
  have k3 : F (P.QL i) = none := dj _ _ hq1
  have hln : (d.kids.map fun j => Value.ref (P.D j)).length = d.kids.length := List.length_map ..
  refine wpAny_call ?_
  k_dflt refine' code_fn (l := [("child", Value.ref (P.D j)), ("self", Value.ref (P.D i))]) S R ?k1 ?k2 ?k3 ?k4 ?_ ?k6 ?k7 ?k8 ?k9 ?k10
  walk_at "m_in"
  intro L s1 hL S1
  clear S
  refine hideQ ?_
  intro QF hQF
  refine hideE ?_
  intro EF hEF
  (try dsimp only)
  have n1 : P.D i ≠ L := ne_fresh hL hself
  have n2 : P.D j ≠ L := ne_fresh hL hch
  have n3 : P.CL i ≠ L := ne_fresh hL hcl
  have n4 : P.QL i ≠ L := ne_fresh hL hql
  walk_at "m_st"
  rename St _ _ _ _ => mS
  rename (upd _ _ _ _ = none) => ht'
  rename Nat => t'
  refine heappush_spec (P := P) (ts := ts) (es := d.q) (e := (d.lw, j)) mS (by walk_at "m_R") (by walk_at "m_H") (by first | decide | omega) (by walk_at "m_ents") ?_ (by walk_at "m_H") (by walk_at "m_str") ?_
  · intro x hx
    have := hs1 x hx
    walk_at "m_str"
  intro s3 S3
  have ht1 : join F G t' = none := by walk_at "m_none1"
  (refine Mine.el_A (join_none ht1) fun hf hg => ?_)
  walk_at "m_st"
  rename St _ _ _ _ => S3
  (try dsimp only)
  have d4 := (((dj.r (o := .inst 246 (flds P j { n with par := some i })) k1).r (o := .list ((d.kids ++ [j]).map fun j => .ref (P.D j))) k2).r (o := .tup [.int d.lw 0, .ref (P.D j)]) hf).r (o := .list ((put (place (klt (d.lw, j)) d.q) t' ts).map .ref)) k3
  have q2 : P.D j ≠ t' := ne_fresh ht1 hch
  have q3 : P.CL i ≠ t' := ne_fresh ht1 hcl
  have q4 : P.QL i ≠ t' := ne_fresh ht1 hql
  refine k _ _ d4 (TA t' hg) (S3.ret ?_ fF.join)
  rw [← upd_join_r k3, ← upd_join_r hf, ← upd_join_r k2, ← upd_join_r k1]
  simp only [List.map_append, List.map_cons, List.map_nil]
  walk_at "m_sub"
end
end
set_option hygiene false in
local macro_rules | `(tactic| walk_at "subscriptTail") => `(tactic| (walk_at "q"; k_dflt (refine d_item ymS (by walk_at "m_H") (by walk_at "m_lk") ?_ (by with_unfolding_all rfl)); walk_at "m_er2"; clear ymS))
set_option hygiene false in
local macro_rules | `(tactic| walk_at "compareOp In int ref") => `(tactic| (walk_at "q"; k_dflt (refine d_in ymS (by walk_at "m_H") ?_); walk_at "j"))
set_option hygiene false in
local macro_rules | `(tactic| walk_at "setItem ref int") => `(tactic| (walk_at "q"; k_dflt (refine d_set ymS (by walk_at "m_H") (by walk_at "m_lz") ?_); walk_at "i"))
set_option hygiene false in
local macro_rules | `(tactic| walk_at "exec Raise") => `(tactic| (exfalso; first | contradiction | omega | (rename (_ = true) => yhz; (simp only [*, Option.isSome_none, Option.isSome_some, Bool.false_eq_true] at yhz); done) | (rename (_ = false) => yhz; (simp only [*, Option.isSome_none, Option.isSome_some, Bool.true_eq_false] at yhz); done) | (simp_all; done)))
section
section
variable {w : World} {c : Cx PySem.Challenge.rw_bd0031_06.row.prog w (MineTop.hd.heap_39 w.params)} {envs : List Env} {H F G : AH} {A : Around} {E Q : Value → Shared → Prop} {s : Shared}
theorem block_specD {D : Int → Nat} {M : Mo} {ks : List Int} {pt : Nat} {i : Int} {tk : Tok} {n : Nd} (S : St c envs (join F G) s) (R : Rm A 6 40) (fF : Frs envs F) (dj : Dj F G) (t : PTreeD 246 347 D M ks pt G) (hi : M i = some n) (h0 : i ≠ 0)
    (k : ∀ G' s', Dj F G' → PTreeD 246 347 D (actv M i false) ks pt G' → St c envs (join F G') s' → Q .none s') :
    wpAny (model PySem.Challenge.rw_bd0031_06.row.prog w) A (call (.ref 316) [.ref pt, .int i tk]) Q E s := by
  (refine Mine.el_EEEAAAAAA (t.split dj) fun P dd Gt p f1 f2 d0 dj1 ej eD => ?_)
  rw [ej] at S
  have hpt := join_l (G := Gt) (upd_other p.ne (upd_self ..) : upd (upd F pt (.inst 347 (pfl P dd))) dd (.imap (pdict P ks)) pt = _)
  have hdd := join_l (G := Gt) (upd_self (upd F pt (.inst 347 (pfl P dd))) dd (.imap (pdict P ks)))
  have hDi := join_r dj1 (p.tree.inst i _ hi)
  have hlk : (pdict P ks).lookup i = some (.ref (P.D i)) := pdict_get ((p.ks i).mpr ⟨_, hi⟩)
  refine wpAny_call ?_
  k_dflt refine' code_fn (l := [("stream_id", Value.int i 0), ("self", Value.ref pt)]) S R ?k1 ?k2 ?k3 ?k4 ?_ ?k6 ?k7 ?k8 ?k9 ?k10
  walk_at "m_in"
  intro L s1 hL S1
  have F0 := S.frs
  clear S
  refine hideQ ?_
  intro QF hQF
  refine hideE ?_
  intro EF hEF
  (try dsimp only)
  walk_at "m_st"
  refine wpAny_Try_except ?_
  have n1 : L ≠ P.D i := Ne.symm (ne_fresh hL hDi)
  walk_at "m_st"
  rename St _ _ _ _ => S2
  have kD : upd (upd F pt (.inst 347 (pfl P dd))) dd (.imap (pdict P ks)) (P.D i) = none := dj1 _ _ (p.tree.inst i _ hi)
  have tn := p.tree.set (n' := { n with act := false }) hi rfl rfl
  have dn := dj1.r (o := .inst 246 (flds P i { n with act := false })) kD
  (refine Mine.el_AA (PTreeD.back p f1 f2 dn tn rfl (put_ks hi) eD) fun b1 b2 b3 => ?_)
  rw [actv_eq hi] at k
  refine k _ _ b2 b1 ?_
  rw [← b3, ← upd_join_r kD]
  refine S2.ret (by walk_at "m_sub") ?_
  rw [upd_join_r kD]
  exact ((fF.fresh f1).fresh (upd_other p.ne.symm f2)).join
theorem block_spec {M : Mo} {ks : List Int} {pt : Nat} {i : Int} {tk : Tok} {n : Nd} (S : St c envs (join F G) s) (R : Rm A 6 40) (fF : Frs envs F) (dj : Dj F G) (t : PTree 246 347 M ks pt G) (hi : M i = some n) (h0 : i ≠ 0)
    (k : ∀ G' s', Dj F G' → PTree 246 347 (actv M i false) ks pt G' → St c envs (join F G') s' → Q .none s') :
    wpAny (model PySem.Challenge.rw_bd0031_06.row.prog w) A (call (.ref 316) [.ref pt, .int i tk]) Q E s := by
  (refine Mine.el_E t.withD fun D t => ?_)
  exact block_specD S R fF dj t hi h0 fun G' s' d t' S' => k G' s' d t'.ptree S'
end
end
section
section
variable {w : World} {c : Cx PySem.Challenge.rw_bd0031_06.row.prog w (MineTop.hd.heap_39 w.params)} {envs : List Env} {H F G : AH} {A : Around} {E Q : Value → Shared → Prop} {s : Shared}
theorem unblock_spec {M : Mo} {ks : List Int} {pt : Nat} {i : Int} {tk : Tok} {n : Nd} (S : St c envs (join F G) s) (R : Rm A 6 40) (fF : Frs envs F) (dj : Dj F G) (t : PTree 246 347 M ks pt G) (hi : M i = some n) (h0 : i ≠ 0)
    (k : ∀ G' s', Dj F G' → PTree 246 347 (actv M i true) ks pt G' → St c envs (join F G') s' → Q .none s') :
    wpAny (model PySem.Challenge.rw_bd0031_06.row.prog w) A (call (.ref 323) [.ref pt, .int i tk]) Q E s := by
  (refine Mine.el_EEEAAAAA (t.split dj) fun P dd Gt p f1 f2 d0 dj1 ej => ?_)
  rw [ej] at S
  have hpt := join_l (G := Gt) (upd_other p.ne (upd_self ..) : upd (upd F pt (.inst 347 (pfl P dd))) dd (.imap (pdict P ks)) pt = _)
  have hdd := join_l (G := Gt) (upd_self (upd F pt (.inst 347 (pfl P dd))) dd (.imap (pdict P ks)))
  have hDi := join_r dj1 (p.tree.inst i _ hi)
  have hlk : (pdict P ks).lookup i = some (.ref (P.D i)) := pdict_get ((p.ks i).mpr ⟨_, hi⟩)
  refine wpAny_call ?_
  k_dflt refine' code_fn (l := [("stream_id", Value.int i 0), ("self", Value.ref pt)]) S R ?k1 ?k2 ?k3 ?k4 ?_ ?k6 ?k7 ?k8 ?k9 ?k10
  walk_at "m_in"
  intro L s1 hL S1
  clear S
  refine hideQ ?_
  intro QF hQF
  refine hideE ?_
  intro EF hEF
  (try dsimp only)
  walk_at "m_st"
  refine wpAny_Try_except ?_
  have n1 : L ≠ P.D i := Ne.symm (ne_fresh hL hDi)
  walk_at "m_st"
  rename St _ _ _ _ => S2
  have kD : upd (upd F pt (.inst 347 (pfl P dd))) dd (.imap (pdict P ks)) (P.D i) = none := dj1 _ _ (p.tree.inst i _ hi)
  have tn := p.tree.set (n' := { n with act := true }) hi rfl rfl
  have dn := dj1.r (o := .inst 246 (flds P i { n with act := true })) kD
  (refine Mine.el_AA (PTree.back2 p f1 f2 dn tn (put_ks hi)) fun b1 b2 b3 => ?_)
  rw [actv_eq hi] at k
  refine k _ _ b2 b1 ?_
  rw [← b3, ← upd_join_r kD]
  refine S2.ret (by walk_at "m_sub") ?_
  rw [upd_join_r kD]
  exact ((fF.fresh f1).fresh (upd_other p.ne.symm f2)).join
end
end
section
section
variable {w : World} {c : Cx PySem.Challenge.rw_bd0031_06.row.prog w (MineTop.hd.heap_39 w.params)} {envs : List Env} {H F G : AH} {A : Around} {E Q : Value → Shared → Prop} {s : Shared}
theorem gip_spec {pt dd x : Nat} {i : Int} {tk : Tok} {kvs : List (Int × Value)} {fs : List (Str × Value)} (S : St c envs H s) (R : Rm A 6 40) (hpt : H pt = some (.inst 347 fs)) (hfs : fs.lookup ("_streams" : Str) = some (.ref dd)) (hdd : H dd = some (.imap kvs)) (hlk : kvs.lookup i = some (.ref x))
    (k : ∀ s', St c envs H s' → Q (.ref x) s') :
    wpAny (model PySem.Challenge.rw_bd0031_06.row.prog w) A (call (.ref 279) [.ref pt, .int i tk]) Q E s := by
  refine wpAny_call ?_
  k_dflt refine' code_fn (l := [("parent_stream_id", Value.int i 0), ("self", Value.ref pt)]) S R ?k1 ?k2 ?k3 ?k4 ?_ ?k6 ?k7 ?k8 ?k9 ?k10
  walk_at "m_in"
  intro L s1 hL S1
  have F0 := S.frs
  clear S
  refine hideQ ?_
  intro QF hQF
  refine hideE ?_
  intro EF hEF
  (try dsimp only)
  walk_at "m_st"
  refine wpAny_Try_except ?_
  walk_at "m_st"
  all_goals ((try dsimp only); rename St _ _ _ _ => mS; exact k _ (mS.ret (by walk_at "m_sub") (by walk_at "m_frs")))
end
end
section
section
variable {w : World} {c : Cx PySem.Challenge.rw_bd0031_06.row.prog w (MineTop.hd.heap_39 w.params)} {envs : List Env} {H F G : AH} {A : Around} {E Q : Value → Shared → Prop} {s : Shared}
theorem add_child_at {P : Pl} {M : Mo} {i j : Int} {d n : Nd} {a b : Nat} (ea : a = P.D i) (eb : b = P.D j) (S : St c envs (join F G) s) (R : Rm A 12 120) (fF : Frs envs F) (dj : Dj F G) (t : Tree 246 P M G) (hi : M i = some d) (hj : M j = some n) (hne : j ≠ i)
    (hz : d.q.length ≤ 900) (hk : d.kids.length ≤ 900) (hex : ∀ e ∈ d.q, ∃ m, M e.2 = some m)
    (k : ∀ G' s', Dj F G' → Tree 246 P (adopt M i j) G' → St c envs (join F G') s' → Q .none s') :
    wpAny (model PySem.Challenge.rw_bd0031_06.row.prog w) A (call (.ref 172) [.ref a, .ref b]) Q E s := by
  subst ea eb
  exact add_child_spec S R fF dj t hi hj hne hz hk hex k
end
end
section
section
variable {w : World} {c : Cx PySem.Challenge.rw_bd0031_06.row.prog w (MineTop.hd.heap_39 w.params)} {envs : List Env} {H F G : AH} {A : Around} {E Q : Value → Shared → Prop} {s : Shared}
theorem tree_init {pt : Nat} {R : Result → Shared → Prop} (S : St c envs (upd F pt (.inst 347 [])) s) (Ro : Rm A 20 160) (hpt : F pt = none) (fF : Frs envs F)
    (k : ∀ G' s', Dj F G' → PTree 246 347 Mo.root [0] pt G' → St c envs (join F G') s' → R (.ok (.ret .none)) s') :
    codeAny (model PySem.Challenge.rw_bd0031_06.row.prog w) A (.call (.ref 272) ⟨[.ref pt], []⟩) R s := by
  k_dflt refine' code_fn (l := [("maximum_streams", Value.int 1000 0), ("self", Value.ref pt)]) S Ro ?k1 ?k2 ?k3 ?k4 ?_ ?k6 ?k7 ?k8 ?k9 ?k10
  walk_at "m_in"
  intro L s1 hL S1
  have F0 := S.frs
  clear S
  refine hideQ ?_
  intro QF hQF
  refine hideE ?_
  intro EF hEF
  (try dsimp only)
  have hp0 := upd_self F pt (.inst 347 [])
  walk_at "m_st"
  rename St _ _ _ _ => S2
  refine wpAny_call ?_
  show codeAny _ _ (.call (.ref 246) ⟨[], [("stream_id", .int 0 _), ("weight", .int 1 _)]⟩) _ _
  refine stream_new_kw S2 (by walk_at "m_R") (by decide) (by decide) ?_
  intro x cl ql s3 hx hc hq m1 m2 m3 S3
  clear S2
  have x1 := none_ne hx
  have x2 := none_ne hc
  have x3 := none_ne hq
  have x4 := none_ne (none_up hx)
  have x5 := none_ne (none_up hc)
  have x6 := none_ne (none_up hq)
  have n1 : L ≠ pt := none_ne hL
  (try dsimp only)
  walk_at "m_st"
  rename St _ _ _ _ => mS
  refine dict_one mS ?_
  intro d s0 hd S'
  clear mS
  walk_at "m_st"
  rename St _ _ _ _ => S4
  refine ⟨_, _, _, rfl, upd_self .., S4, ?_⟩
  intro s5 S5
  clear S4
  have d1 := none_ne hd
  have d2 := none_ne (none_up hd)
  have d3 := none_ne (none_up (none_up hd))
  have d4 := none_ne (none_up (none_up (none_up hd)))
  have d6 := none_ne (none_up (none_up (none_up (none_up (none_up hd)))))
  have fd := none_up (none_up (none_up (none_up (none_up (none_up (none_up hd))))))
  walk_at "m_st"
  (try dsimp only)
  rename St _ _ _ _ => S6
  have fx := none_up (none_up hx)
  have fc := none_up (none_up hc)
  have fq := none_up (none_up hq)
  refine k _ _ (((((Dj.nil.r fx).r fc).r fq).r hpt).r fd) (PTree.root m1 m2 m3 (Ne.symm x4) (Ne.symm x5) (Ne.symm x6) d1 d4 d3 (Ne.symm d2)) ?_
  rw [← upd_join_r fd, ← upd_join_r hpt, ← upd_join_r fq, ← upd_join_r fc, ← upd_join_r fx, join_nil]
  refine S6.ret ?_ ?_
  · walk_at "m_sub"
  · refine (((((fF.fresh fx).fresh ?_).fresh ?_).fresh ?_).fresh ?_)
    all_goals walk_at "m_none"
theorem tree_new {R : Result → Shared → Prop} (S : St c envs F s) (Ro : Rm A 22 180)
    (k : ∀ (pt : Nat) G' s', Dj F G' → PTree 246 347 Mo.root [0] pt G' → St c envs (join F G') s' → R (.ok (.ret (.ref pt))) s') :
    codeAny (model PySem.Challenge.rw_bd0031_06.row.prog w) A (.call (.ref 347) ⟨[], []⟩) R s := by
  k_dflt refine' make_ S ?a ?b ?c ?_
  case a => k_is
  case b => k_is
  case c => k_is
  intro x s1 hx S1
  exact tree_init S1 (Rm.under (by walk_at "m_R")) hx S.frs fun G' s2 dj t S2 => ⟨rfl, k x G' s2 dj t S2⟩
end
end
section
section
variable {w : World} {c : Cx PySem.Challenge.rw_bd0031_06.row.prog w (MineTop.hd.heap_39 w.params)} {envs : List Env} {H : AH} {A : Around} {E Q : Value → Shared → Prop} {s : Shared}
theorem eq_spec {x1 x2 : Nat} {i1 i2 : Int} {fs1 fs2 : List (Str × Value)}
    (S : St c envs H s) (R : Rm A 4 20) (hx1 : H x1 = some (.inst 246 fs1)) (hx2 : H x2 = some (.inst 246 fs2)) (hi1 : fs1.lookup ("stream_id" : Str) = some (Value.int i1 0)) (hi2 : fs2.lookup ("stream_id" : Str) = some (Value.int i2 0))
    (k : ∀ s', St c envs H s' → Q (.bool (decide (i1 = i2))) s') :
    wpAny (model PySem.Challenge.rw_bd0031_06.row.prog w) A (call (.ref 208) [.ref x1, .ref x2]) Q E s := by
  refine wpAny_call ?_
  k_dflt refine' code_fn (l := [("other", Value.ref x2), ("self", Value.ref x1)]) S R ?k1 ?k2 ?k3 ?k4 ?_ ?k6 ?k7 ?k8 ?k9 ?k10
  walk_at "m_in"
  intro L s1 hL S1
  have F0 := S.frs
  clear S
  refine hideQ ?_
  intro QF hQF
  refine hideE ?_
  intro EF hEF
  (try dsimp only)
  walk_at "m_st"
  all_goals ((try dsimp only); rename St _ _ _ _ => mS; exact k _ (mS.ret (by walk_at "m_sub") (by walk_at "m_frs")))
theorem cmp_eq {x1 x2 L : Nat} {i1 i2 : Int} {fs1 fs2 : List (Str × Value)} {l : List (Str × Value)}
    (S : St c envs H s) (R : Rm A 4 20) (hL : H L = some (.ns l)) (hx1 : H x1 = some (.inst 246 fs1)) (hx2 : H x2 = some (.inst 246 fs2)) (hi1 : fs1.lookup ("stream_id" : Str) = some (Value.int i1 0)) (hi2 : fs2.lookup ("stream_id" : Str) = some (Value.int i2 0))
    (k : ∀ s', St c envs H s' → Q (.bool (decide (i1 = i2))) s') :
    wpAny (model PySem.Challenge.rw_bd0031_06.row.prog w) A (richCompare .Eq (.ref x1) (.ref x2)) Q E s := by
  k_dflt (refine' cmp_inst S ?R ?L ?x ?y ?n ?s ?f ?_)
  case R => exact R.mono (by first | decide | omega) (by first | decide | omega)
  case L => exact hL
  case x => exact hx1
  case y => exact hx2
  case n => k_is
  case s => k_is
  case f => k_is
  exact eq_spec S R hx1 hx2 hi1 hi2 k
end
end
set_option hygiene false in
local macro_rules | `(tactic| walk_at "getMethod ref") => `(tactic| ((with_reducible show wpAny _ _ (getMethod (Value.ref _) (PySem.Str.ofString "remove") _) _ _ _); walk_at "q"; k_dflt (refine list_meth ymS (by walk_at "m_H") PySem.F.slot_list_remove PySem.F.type_list_remove ?_)))
set_option hygiene false in
local macro_rules | `(tactic| walk_at "truthy ref") => `(tactic| (walk_at "q"; k_dflt first
  | (refine truth_nil ymS (by walk_at "m_H") ?_; intro ys' yS')
  | (refine truth_cons ymS (by walk_at "m_H") (by walk_at "m_lz") ?_; intro ys' yS')
  | (refine truth_list ymS (by walk_at "m_H") (by walk_at "m_lz") ?_; intro ys' yS'); clear ymS))
set_option hygiene false in
local macro_rules | `(tactic| walk_at "compareOp Eq ref") => `(tactic| (walk_at "q"; refine cmp_ofEq ?_; k_dflt (refine cmp_eq ymS (by walk_at "m_R") (by walk_at "m_H") (by walk_at "m_H") (by walk_at "m_H") (by walk_at "m_lk") (by walk_at "m_lk") ?_); walk_at "j"))
set_option hygiene false in
local macro_rules | `(tactic| walk_at "getMethod ref") => `(tactic| ((with_reducible show wpAny _ _ (getMethod (Value.ref _) (PySem.Str.ofString "pop") _) _ _ _); walk_at "q"; k_dflt (refine d_meth ymS (by walk_at "m_H") PySem.F.slot_dict_pop PySem.F.type_dict_pop ?_)))
set_option hygiene false in
local macro_rules | `(tactic| walk_at "call builtin:dict.pop") => `(tactic| (walk_at "q"; k_dflt (refine d_pop ymS (by walk_at "m_H") (by walk_at "m_lk") (by walk_at "m_lz") ?_); walk_at "m_er2"; clear ymS))
local macro_rules | `(tactic| walk_at "eval Name") => `(tactic| (rename St _ _ _ _ => ymS; k_dflt first
  | (refine' nm_ref ymS ?H ?x ?_ ?L; (case L => exact rfl); (case H => walk_at "m_H"); (case x => assumption))
  | (refine' nm_int ymS ?H ?x ?_ ?L; (case L => exact rfl); (case H => walk_at "m_H"); (case x => assumption); intro ytk)))
section
section
variable {w : World} {c : Cx PySem.Challenge.rw_bd0031_06.row.prog w (MineTop.hd.heap_39 w.params)} {envs : List Env} {F G H : AH} {A : Around} {E Q : Value → Shared → Prop} {s : Shared}
theorem erase_at (j : Int) : ∀ l : List Int, j ∈ l → ∃ p, l[p]? = some j ∧ (∀ i a, i < p → l[i]? = some a → a ≠ j) ∧ l.eraseIdx p = l.erase j
  | x :: r, h => by
    by_cases q : x = j
    · subst q
      exact ⟨0, rfl, fun i a z => absurd z (Nat.not_lt_zero _), by rw [List.erase_cons_head]; rfl⟩
    · (refine Mine.el_EAA (erase_at j r (by rcases List.mem_cons.mp h with h | h <;> first | exact absurd h.symm q | exact h)) fun p h1 h2 h3 => ?_)
      refine ⟨p + 1, h1, fun i a hi ha => ?_, ?_⟩
      · cases i with
        | zero => (replace ha := Option.some.inj ha; subst ha); exact q
        | succ i => exact h2 i a (by first | decide | omega) ha
      · rw [List.eraseIdx_cons_succ, h3, List.erase_cons_tail (by simpa using q)]
inductive RemInv (c : Cx PySem.Challenge.rw_bd0031_06.row.prog w (MineTop.hd.heap_39 w.params)) (P : Pl) (M : Mo) (i j : Int) (d : Nd) (b : Bool) (F : AH) (ev : List Env) (L nq m : Nat) (s' : Shared) : Prop
  | mk (q1 q2 : List (Int × Int)) (ts2 : List Nat) (Gc : AH) (h1 : m = q1.length) (h2 : pushAll q2 (keepQ j q1) = pushAll [] (keepQ j d.q)) (h3 : ∀ e ∈ q1, e ∈ d.q) (h4 : ∀ e ∈ q2, e ∈ d.q) (h5 : q2.length + q1.length ≤ d.q.length)
    (h6 : Tree 246 P (M.put i { d with kids := d.kids.erase j, q := q1 }) Gc) (h7 : Ents P Gc ts2 q2)
    (h8 : Dj (upd (upd F nq (.list (ts2.map .ref))) L (.ns [("new_queue", .ref nq), ("strip_children", .bool b), ("child", .ref (P.D j)), ("self", .ref (P.D i))])) Gc)
    (h9 : St c ev (join (upd (upd F nq (.list (ts2.map .ref))) L (.ns [("new_queue", .ref nq), ("strip_children", .bool b), ("child", .ref (P.D j)), ("self", .ref (P.D i))])) Gc) s') : RemInv c P M i j d b F ev L nq m s'
theorem remove_child_spec {P : Pl} {M : Mo} {i j : Int} {d n : Nd} {b : Bool} {args : Args} (ha : (args = ⟨[.ref (P.D i), .ref (P.D j)], []⟩ ∧ b = true) ∨ (args = ⟨[.ref (P.D i), .ref (P.D j)], [("strip_children", .bool false)]⟩ ∧ b = false))
    (S : St c envs (join F G) s) (R : Rm A 20 240) (hh : A.handled = none) (fF : Frs envs F) (dj : Dj F G) (t : Tree 246 P M G) (hi : M i = some d) (hj : M j = some n) (hne : j ≠ i)
    (hz : d.q.length ≤ 100) (hk : d.kids.length ≤ 100) (hn : n.kids.length ≤ 100) (hex : ∀ e ∈ d.q, ∃ m, M e.2 = some m) (hkx : ∀ k ∈ d.kids, ∃ m, M k = some m) (hjk : j ∈ d.kids) (hnx : ∀ k ∈ n.kids, k ≠ i ∧ k ≠ j ∧ ∃ m, M k = some m)
    {R' : Result → Shared → Prop} (k : ∀ P' G' s', P'.D = P.D → Dj F G' → Tree 246 P' (rmc M i j b) G' → St c envs (join F G') s' → R' (.ok (.ret .none)) s') :
    codeAny (model PySem.Challenge.rw_bd0031_06.row.prog w) A (.call (.ref 187) args) R' s := by
  have hself := join_r dj (t.inst i _ hi)
  have hch := join_r dj (t.inst j _ hj)
  have hcl := join_r dj (t.cl i _ hi)
  (refine Mine.el_EA (t.ql i _ hi) fun ts hq1 hE => ?_)
  have hql := join_r dj hq1
  have hnD : P.D j ≠ P.D i := fun z => hne (t.dd hj hi z)
  k_dflt refine' code_fn (args := args) (binds := [("self", Value.ref (P.D i)), ("child", Value.ref (P.D j)), ("strip_children", Value.bool b)]) (l := [("strip_children", Value.bool b), ("child", Value.ref (P.D j)), ("self", Value.ref (P.D i))]) S R ?k1 ?k2 ?k3 ?k4 ?_ ?k6 ?k7 ?k8 ?k9 ?k10
  case k1 => k_is
  case k2 => k_is
  case k3 => rcases ha with ⟨rfl, rfl⟩ | ⟨rfl, rfl⟩ <;> first | exact (BindsTo.of_eq rfl) | exact binds_K (St.inK (by assumption)) rfl (by k_is) rfl rfl rfl
  case k4 => rfl
  case k6 => exact locs rfl
  case k7 => decide
  case k8 => rfl
  case k9 => rfl
  case k10 => rfl
  intro L s1 hL S1
  have F0 := S.frs
  clear S
  refine hideQ ?_
  intro QF hQF
  refine hideE ?_
  intro EF hEF
  (try dsimp only)
  have n1 : P.D i ≠ L := ne_fresh hL hself
  have n2 : P.D j ≠ L := ne_fresh hL hch
  have n3 : P.CL i ≠ L := ne_fresh hL hcl
  have n4 : P.QL i ≠ L := ne_fresh hL hql
  walk_at "m_st"
  rename St _ _ _ _ => S2
  (refine Mine.el_EAA (erase_at j d.kids hjk) fun p hp1 hp2 hp3 => ?_)
  refine remove_own (xs := d.kids.map P.D) (j := p) S2 ?_ (by rw [List.getElem?_map, hp1]; rfl) (by rw [List.length_map]; omega) ?_ ?_
  · rw [List.map_map]; walk_at "m_H"
  · intro a0 a hlt ha
    rw [List.getElem?_map] at ha
    (refine Mine.el_EA (Option.map_eq_some_iff.mp ha) fun k0 hk0 zq0 => ?_; (first | subst zq0 | cases zq0))
    have hkj := hp2 a0 k0 hlt hk0
    (refine Mine.el_E (hkx k0 (List.mem_of_getElem? hk0)) fun m hm => ?_)
    refine ⟨fun z => hkj (t.dd hm hj z), fun E' Q' s3 S3 k3 => ?_⟩
    have hk0' := join_r dj (t.inst k0 _ hm)
    have z1 : P.D k0 ≠ L := ne_fresh hL hk0'
    refine cmp_eq S3 (by walk_at "m_R") (upd_self _ L _) (x1 := P.D k0) (x2 := P.D j) (i1 := k0) (i2 := j) (upd_other z1 hk0') (by walk_at "m_H") rfl rfl fun s4 S4 => ?_
    rw [decide_eq_false hkj]
    exact k3 s4 S4
  intro s3 S3
  clear S2
  have t1 := t.setkids (ks := d.kids.erase j) hi
  have e1 : ((d.kids.map P.D).eraseIdx p).map Value.ref = (d.kids.erase j).map fun j => Value.ref (P.D j) := by
    rw [map_erase, List.map_map, ← hp3, map_erase]; rfl
  rw [e1] at S3
  have k2 : F (P.CL i) = none := dj _ _ (t.cl i _ hi)
  walk_at "m_st"
  rename St _ _ _ _ => mS
  rename (upd _ _ _ _ = none) => hp
  rename Nat => nq
  have ht1 : join F G nq = none := by walk_at "m_none1"
  have hpL : nq ≠ L := none_ne (H := join F G) (o := .ns [("strip_children", Value.bool b), ("child", .ref (P.D j)), ("self", .ref (P.D i))]) (by walk_at "m_none1")
  have q3 : P.CL i ≠ nq := ne_fresh ht1 hcl
  (refine Mine.el_A (join_none ht1) fun fp gp => ?_)
  (refine Mine.el_A (join_none hL) fun fl gl => ?_)
  have mS' := mS.env
  clear mS
  (refine Mine.el_EA mS' fun ev hev mS => ?_; (try clear mS'))
  have FF : ∀ X Y, Frs ev (upd (upd F nq (.list X)) L (.ns Y)) := fun X Y => by
    rw [hev]
    exact Frs.cons ((fF.fresh fp).fresh (upd_other (Ne.symm hpL) fl)) (upd_self ..) rfl (fun z => absurd z (show ScopeKind.function ≠ .module by decide))
  have gp1 : upd G (P.CL i) (.list ((d.kids.erase j).map fun j => .ref (P.D j))) nq = none := upd_other (Ne.symm q3) gp
  have gl1 : upd G (P.CL i) (.list ((d.kids.erase j).map fun j => .ref (P.D j))) L = none := upd_other (Ne.symm n3) gl
  have S4 := mS.sub (envs' := ev) (H := join (upd (upd F nq (.list [])) L (.ns [("new_queue", .ref nq), ("strip_children", .bool b), ("child", .ref (P.D j)), ("self", .ref (P.D i))])) (upd G (P.CL i) (.list ((d.kids.erase j).map fun j => .ref (P.D j))))) (by
    rw [← upd_join, ← upd_join, ← upd_join_r k2]
    walk_at "m_sub") (FF _ _).join
  clear mS F0 hp
  have FF3 : ∀ Y, Frs ev (upd F L (.ns Y)) := fun Y => by
    rw [hev]
    exact Frs.cons (fF.fresh fl) (upd_self ..) rfl (fun z => absurd z (show ScopeKind.function ≠ .module by decide))
  have FF2 : ∀ Y Z, Frs ev (join (upd F L (.ns Y)) Z) := fun Y Z => (FF3 Y).join
  have hFFN : ∀ X Y, Sub F (upd (upd F nq X) L Y) := fun X Y => ((Sub.refl F).fresh fp).fresh fl
  refine while_h (RemInv c P M i j d b F ev L nq) ?_ d.q.length ⟨d.q, [], [], _, rfl, rfl, fun e h => h, (fun e h => by cases h), Nat.le_of_eq (Nat.zero_add _), t1, trivial, ((dj.r k2).l gp1).l gl1, S4⟩
  rintro m s5 ⟨q1, q2, ts2, Gc, rfl, r2, r3, r4, r5, tc, uc, djc, S5⟩
  intro QB QE EE hQB hQE hEE
  clear S4
  (refine Mine.el_E (show ∃ FN, FN = upd (upd F nq (.list (ts2.map .ref))) L (.ns [("new_queue", .ref nq), ("strip_children", .bool b), ("child", .ref (P.D j)), ("self", .ref (P.D i))]) from ⟨_, rfl⟩) fun FN hFN => ?_)
  rw [← hFN] at djc S5
  have hpF : FN nq = some (.list (ts2.map .ref)) := by rw [hFN]; exact upd_other hpL (upd_self ..)
  have hLF : FN L = some (.ns [("new_queue", .ref nq), ("strip_children", .bool b), ("child", .ref (P.D j)), ("self", .ref (P.D i))]) := by rw [hFN]; exact upd_self ..
  have fFN : Frs ev FN := by rw [hFN]; exact FF _ _
  have hpn := join_l (G := Gc) hpF
  have hLn := join_l (G := Gc) hLF
  have hiC : (M.put i { d with kids := d.kids.erase j, q := q1 }) i = some { d with kids := d.kids.erase j, q := q1 } := Mo.put_self ..
  have hjC : (M.put i { d with kids := d.kids.erase j, q := q1 }) j = some n := (Mo.put_ne hne).trans hj
  have hself' := join_r djc (tc.inst i _ hiC)
  have hch' := join_r djc (tc.inst j _ hjC)
  (refine Mine.el_EA (tc.ql i _ hiC) fun ts1 hq1' hE1 => ?_)
  have hql' := join_r djc hq1'
  have hlen1 := hE1.len
  have hq1l : q1.length ≤ 100 := by omega
  clear hself hch hcl hql hE hq1
  simp only at hq1' hE1 hlen1
  have ne1 : L ≠ P.D i := ne_kind hLn hself' (by intro z; (exact Mine.tag_ne z rfl))
  have ne2 : L ≠ P.QL i := ne_kind hLn hql' (by intro z; (exact Mine.tag_ne z rfl))
  have ne4 : nq ≠ P.D i := ne_kind hpn hself' (by intro z; (exact Mine.tag_ne z rfl))
  have ne5 : nq ≠ P.QL i := fun z => by rw [← z] at hq1'; rw [djc.has hpF] at hq1'; (exact Mine.no_ns hq1')
  have ne6 : P.D j ≠ P.QL i := ne_kind hch' hql' (by intro z; (exact Mine.tag_ne z rfl))
  have kQ : FN (P.QL i) = none := djc _ _ hq1'
  have gpl : Gc nq = none := djc.has hpF
  have gL : Gc L = none := djc.has hLF
  have kD : F (P.D i) = none := by
    have := djc _ _ (tc.inst i _ hiC)
    rw [hFN] at this
    exact none_up (none_up this)
  cases q1 with
  | nil =>
    cases ts1 with
    | cons _ _ => exact hE1.elim
    | nil =>
    have cn : P.CL i ≠ nq := q3
    have hcl0 := tc.cl i _ hiC
    simp only at hcl0
    have tF := (tc.fresh (a := nq) (o := .list (ts2.map .ref)) gpl).swap (n' := { d with kids := d.kids.erase j, q := q2 }) (c' := P.CL i) (q' := nq) (ts := ts2) hiC (upd_other cn hcl0) (upd_self ..) (uc.fresh gpl) cn
      (fun l m hm hl => ⟨fun z => hl (tc.cc _ _ _ _ hm hiC z.symm), tc.cq _ _ _ _ hiC hm⟩) (fun l m hm hl => ⟨Ne.symm (ne_fresh gpl (tc.cl l m hm)), by (refine Mine.el_EA (tc.ql l m hm) fun t3 z _ => ?_); exact Ne.symm (ne_fresh gpl z)⟩)
    have eM : (M.put i { d with kids := d.kids.erase j, q := [] }).put i { d with kids := d.kids.erase j, q := q2 } = remv M i j := by
      rw [Mo.put_put, remv_eq hi, ← r2]; rfl
    rw [eM] at tF
    have dG := ((djc.sub (hFN ▸ hFFN _ _)).r (o := .list (ts2.map .ref)) fp).r (o := .inst 246 (fldsOf P i (P.CL i) nq { d with kids := d.kids.erase j, q := q2 })) kD
    have jL : join F Gc L = none := (join_n fl).trans gL
    cases b with
    | false =>
      walk_at "m_st"
      rename St _ _ _ _ => S6
      refine k (P.lists i (P.CL i) nq) _ _ rfl dG tF (S6.sub ?_ fF.join)
      rw [hFN, ← upd_join, ← upd_join, ← upd_join_r kD, ← upd_join_r fp]
      walk_at "m_sub"
    | true =>
      walk_at "m_st"
      refine wpAny_For ?_
      walk_at "m_st"
      rename St _ _ _ _ => S6
      have S7 := S6.sub (H := join (upd F L (.ns [("new_queue", .ref nq), ("strip_children", .bool true), ("child", .ref (P.D j)), ("self", .ref (P.D i))])) (upd (upd Gc nq (.list (ts2.map .ref))) (P.D i) (.inst 246 (fldsOf P i (P.CL i) nq { d with kids := d.kids.erase j, q := q2 })))) (by
        rw [hFN, ← upd_join, ← upd_join, ← upd_join, ← upd_join_r kD, ← upd_join_r fp]
        walk_at "m_sub") (FF2 _ _)
      clear S6
      (refine Mine.el_E (show ∃ P2, P2 = P.lists i (P.CL i) nq from ⟨_, rfl⟩) fun P2 hP2 => ?_)
      have eD : P2.D = P.D := by rw [hP2]; rfl
      have eC : P2.CL j = P.CL j := by rw [hP2]; exact if_neg hne
      rw [← hP2] at tF
      have g2L : upd (upd Gc nq (.list (ts2.map .ref))) (P.D i) (.inst 246 (fldsOf P i (P.CL i) nq { d with kids := d.kids.erase j, q := q2 })) L = none := upd_other n1.symm (upd_other hpL.symm gL)
      generalize upd (upd Gc nq (.list (ts2.map .ref))) (P.D i) (.inst 246 (fldsOf P i (P.CL i) nq { d with kids := d.kids.erase j, q := q2 })) = G2 at dG tF S7 g2L
      have hri : remv M i j i = some { d with kids := d.kids.erase j, q := q2 } := by rw [← eM]; exact Mo.put_self ..
      have hrj : remv M i j j = some n := by rw [remv_eq hi, Mo.put_ne hne]; exact hj
      have hrk : ∀ k ∈ n.kids, k ≠ i ∧ ∃ m, remv M i j k = some m := fun k hk => ⟨(hnx k hk).1, (Same.remv M i j k).mp (hnx k hk).2.2⟩
      have eK : (n.kids.map fun k => Value.ref (P2.D k)) = n.kids.map fun k => .ref (P.D k) := by rw [eD]
      have clj : ∀ k Gx, Tree 246 P2 (adopts (remv M i j) i (n.kids.take k)) Gx → Gx (P.CL j) = some (.list (n.kids.map fun k => .ref (P.D k))) := fun k Gx tx => by
        have := tx.cl j _ (adopts_other (n.kids.take k) hri hrj hne fun x hx => hrk x (List.mem_of_mem_take hx))
        rw [← eC, ← eK]; exact this
      have dG2 := dG.l (o := .ns [("new_queue", .ref nq), ("strip_children", .bool true), ("child", .ref (P.D j)), ("self", .ref (P.D i))]) g2L
      refine iter_list S7 (join_r dG2 (clj 0 G2 tF)) ?_
      intro it s8 hit S8
      clear S7
      refine for_tree (row_list (P.CL j) (n.kids.map fun k => .ref (P.D k))) (fun k l Gx => l.lookup ("self" : Str) = some (.ref (P.D i)) ∧ Tree 246 P2 (adopts (remv M i j) i (n.kids.take k)) Gx) S8 hit (upd_self ..) (FF3 _) dG2 ⟨rfl, tF⟩ ?_ hh ?_ ?_
      · rintro k l Gx ⟨-, tx⟩ dx
        exact join_r (dx.l (dx.has (upd_self ..))) (clj k Gx tx)
      · rintro k0 F2 l' G' s9 y ⟨q1, t'⟩ hx kp hL2 dj2 fr2 S9 QB EB hQB
        rw [List.getElem?_map] at hx
        (refine Mine.el_EA (Option.map_eq_some_iff.mp hx) fun c0 hc0 zq0 => ?_; (first | subst zq0 | cases zq0))
        have q1' : List.lookup ("self" : Str) (("new_child", Value.ref (P.D c0)) :: l') = some (.ref (P.D i)) := q1
        have hL2' := join_l (G := G') hL2
        have hks : ∀ x ∈ n.kids.take k0, x ≠ i ∧ ∃ m, remv M i j x = some m := fun x hx => hrk x (List.mem_of_mem_take hx)
        (refine Mine.el_EAAA (adopts_at (n.kids.take k0) hri hks) fun q' hq' hql zq0 hqm => ?_; clear zq0)
        have hck := hnx c0 (List.mem_of_getElem? hc0)
        (refine Mine.el_E (show ∃ m, adopts (remv M i j) i (n.kids.take k0) c0 = some m from ((Same.remv M i j).trans (Same.adopts _ _ _) c0).mp hck.2.2) fun mc hmc => ?_)
        have hself2 := join_r dj2 (t'.inst i _ hq')
        rw [eD] at hself2
        have hlt := (List.getElem?_eq_some_iff.mp hc0).1
        walk_at "m_st"
        rename St _ _ _ _ => S10
        have hne0 : c0 ≠ i := hck.1
        refine add_child_at (P := P2) (congrFun eD.symm i) (congrFun eD.symm c0) S10 (by walk_at "m_R") fr2 dj2 t' hq' hmc hne0 (by rw [hql, List.length_take]; have := pushAll_length (keepQ j d.q) []; have := keepQ_length j d.q; have e3 := congrArg List.length r2; simp only [pushAll, List.foldl_nil, keepQ, List.filter_nil] at e3; simp only [pushAll, keepQ, List.length_nil] at *; omega) (by simp only [List.length_append, List.length_take, List.length_erase]; split <;> omega) ?_ ?_
        · intro e he
          rcases hqm e he with he | ⟨-, he⟩
          · (refine Mine.el_E (hex e (r4 e he)) fun m hm => ?_)
            exact ((Same.remv M i j).trans (Same.adopts _ _ _) e.2).mp ⟨m, hm⟩
          · exact (Same.adopts _ _ _ e.2).mp (hks _ he).2
        intro G3 s11 d3 t3 S11
        walk_at "m_st"
        rename St _ _ _ _ => S12
        refine ⟨_, G3, ⟨q1', ?_⟩, d3, ?_⟩
        · rw [adopts_take hc0]; exact t3
        · rw [upd_id hL2]; exact S12
      · rintro l' G' s9 ⟨q1, t'⟩ d9 S9
        rw [List.length_map, List.take_length] at t'
        walk_at "m_st"
        have eR : adopts (remv M i j) i n.kids = rmc M i j true := by unfold rmc; rw [if_pos rfl, kidsOf_eq hj]
        rw [eR] at t'
        have d8 := d9.l (o := .ns l') (d9.has (upd_self ..))
        rw [upd_upd] at d8 S9
        have sF := (Sub.refl F).fresh (x := .ns l') fl
        exact k P2 G' _ eD (d8.sub sF) t' (S9.sub (sub_join d8 sF) fF.join)
  | cons e r =>
    cases ts1 with
    | nil => exact hE1.elim
    | cons t0 ts' =>
    simp only [List.length_cons] at hlen1 hq1l r5
    simp only [List.map_cons] at hq1' hql'
    walk_at "m_st"
    rename St _ _ _ _ => S6
    refine heappop_spec S6 (by walk_at "m_R") (x := .ref t0) (xs := ts'.map .ref) (by walk_at "m_H") (by rw [List.length_map]; omega) ?_
    intro v s7 hv S7
    have hv := er_ref hv
    subst hv
    clear S6
    have hT0 := join_r djc hE1.1
    have hex' := r3 e (.head _)
    (refine Mine.el_E (hex e hex') fun ne0 hne0 => ?_)
    (refine Mine.el_E (show ∃ x, (M.put i { d with kids := d.kids.erase j, q := e :: r }) e.2 = some x from put_ex ⟨_, hne0⟩) fun nE hnE => ?_)
    have hst := join_r djc (tc.inst e.2 _ hnE)
    have nt3 : P.QL i ≠ t0 := ne_kind hql' hT0 (by intro z; (exact Mine.tag_ne z rfl))
    have ns1 : L ≠ P.D e.2 := ne_kind hLn hst (by intro z; (exact Mine.tag_ne z rfl))
    have ns2 : nq ≠ P.D e.2 := ne_kind hpn hst (by intro z; (exact Mine.tag_ne z rfl))
    have ns3 : P.QL i ≠ P.D e.2 := ne_kind hql' hst (by intro z; (exact Mine.tag_ne z rfl))
    walk_at "m_st"
    rename St _ _ _ _ => S8
    refine unpack2 S8 (x := .int e.1 0) (y := .ref (P.D e.2)) (by walk_at "m_H") (.inl hh) ?_
    intro v1 v2 s9 h1 h2 S9
    clear S8
    (refine Mine.el_E (er_int h1) fun tk1 zq0 => ?_; (first | subst zq0 | cases zq0))
    have h2 := er_ref h2
    subst h2
    have tc' := tc.setq hiC hE1.2
    rw [Mo.put_put] at tc'
    have uc' : Ents P (upd Gc (P.QL i) (.list (ts'.map .ref))) ts2 q2 := uc.turn hq1' (by intro xs z; (exact Mine.tag_ne z rfl))
    have kc := keepQ_cons j e r
    have gp2 : upd Gc (P.QL i) (.list (ts'.map .ref)) nq = none := upd_other ne5 gpl
    have gl2 : upd Gc (P.QL i) (.list (ts'.map .ref)) L = none := upd_other ne2 gL
    walk_at "m_st"
    · rename St _ _ _ _ => S10
      rename (e.2 = j) => hej
      refine ⟨r.length, Nat.lt_succ_self _, r, q2, ts2, _, rfl, ?_, fun x hx => r3 x (.tail _ hx), r4, by omega, tc', uc', ?_, ?_⟩
      · rw [← r2, kc, if_pos hej]
      · rw [← hFN]; exact djc.r kQ
      · rw [← hFN]
        refine S10.sub ?_ fFN.join
        rw [← upd_join_r kQ]
        walk_at "m_sub"
    · rename (¬ e.2 = j) => hej
      rename St _ _ _ _ => S10
      rename (upd _ _ _ _ = none) => ht'
      rename Nat => t'
      have hs1 : ∀ x ∈ q2, StreamAt 246 P (join FN Gc) x.2 := fun x hx => by
        (refine Mine.el_E (hex x (r4 x hx)) fun m hm => ?_)
        (refine Mine.el_E (show ∃ y, (M.put i { d with kids := d.kids.erase j, q := e :: r }) x.2 = some y from put_ex ⟨_, hm⟩) fun m' hm' => ?_)
        exact ⟨_, join_r djc (tc.inst _ _ hm'), rfl⟩
      have hse : StreamAt 246 P (join FN Gc) e.2 := ⟨_, hst, rfl⟩
      have hEj : Ents P (join FN Gc) ts2 q2 := uc.mono fun a xs q => join_r djc q
      refine heappush_spec (P := P) (ts := ts2) (es := q2) (e := e) S10 (by walk_at "m_R") (by walk_at "m_H") (by first | decide | omega) (by walk_at "m_ents") ?_ (by walk_at "m_H") (by walk_at "m_str") ?_
      · intro x hx
        have := hs1 x hx
        walk_at "m_str"
      intro s11 S11
      have ht1 : join FN Gc t' = none := by walk_at "m_none1"
      (refine Mine.el_A (join_none ht1) fun hf hg => ?_)
      walk_at "m_st"
      rename St _ _ _ _ => S12
      have nn1 : nq ≠ t' := ne_fresh hf hpF
      have nn2 : L ≠ t' := ne_fresh hf hLF
      have nn3 : P.QL i ≠ t' := ne_fresh hg hq1'
      have hg' : upd Gc (P.QL i) (.list (ts'.map .ref)) t' = none := upd_other (Ne.symm nn3) hg
      have e1 : ∀ X Y, upd (upd F nq X) L Y = upd (upd FN nq X) L Y := fun X Y => by rw [hFN, fn_re hpL]
      refine ⟨r.length, Nat.lt_succ_self _, r, ins e q2, put (place (klt e) q2) t' ts2, upd (upd Gc (P.QL i) (.list (ts'.map .ref))) t' (.tup [.int e.1 0, .ref (P.D e.2)]), rfl, ?_, fun x hx => r3 x (.tail _ hx), ?_, by rw [ins_length]; omega, tc'.fresh hg', (uc'.fresh hg').put (upd_self ..), ?_, ?_⟩
      · rw [← r2, kc, if_neg hej]; rfl
      · intro x hx
        rcases mem_ins.mp hx with rfl | hx
        · exact r3 _ (.head _)
        · exact r4 x hx
      · rw [e1]; exact (((djc.r kQ).r hf).l (upd_other nn1 gp2)).l (upd_other nn2 gl2)
      · refine S12.sub ?_ (FF _ _).join
        rw [e1, ← upd_join, ← upd_join, ← upd_join_r hf, ← upd_join_r kQ]
        walk_at "m_sub"
end
end
section
section
variable {w : World} {c : Cx PySem.Challenge.rw_bd0031_06.row.prog w (MineTop.hd.heap_39 w.params)} {envs : List Env} {F G H : AH} {A : Around} {E Q : Value → Shared → Prop} {s : Shared}
theorem addx_spec {P : Pl} {M : Mo} {i j : Int} {d n : Nd} {a b : Nat} (ea : a = P.D i) (eb : b = P.D j) (S : St c envs (join F G) s) (R : Rm A 20 240) (hh : A.handled = none) (fF : Frs envs F) (dj : Dj F G) (t : Tree 246 P M G) (hi : M i = some d) (hj : M j = some n) (hne : j ≠ i)
    (hz : n.q.length ≤ 100) (hk : n.kids.length ≤ 100) (hd : d.kids.length ≤ 100) (hex : ∀ e ∈ n.q, ∃ m, M e.2 = some m) (hkx : ∀ k ∈ d.kids, k ≠ j ∧ ∃ m, M k = some m)
    (k : ∀ P' G' s', P'.D = P.D → Dj F G' → Tree 246 P' (adoptX M i j) G' → St c envs (join F G') s' → Q .none s') :
    wpAny (model PySem.Challenge.rw_bd0031_06.row.prog w) A (call (.ref 179) [.ref a, .ref b]) Q E s := by
  subst ea eb
  have hself := join_r dj (t.inst i _ hi)
  have hch := join_r dj (t.inst j _ hj)
  have hcl := join_r dj (t.cl i _ hi)
  have hnD : P.D j ≠ P.D i := fun z => hne (t.dd hj hi z)
  have m3 : P.D i ≠ P.CL i := ne_kind hself hcl (by intro z; (exact Mine.tag_ne z rfl))
  have m4 : P.D j ≠ P.CL i := ne_kind hch hcl (by intro z; (exact Mine.tag_ne z rfl))
  have k1 : F (P.D i) = none := dj _ _ (t.inst i _ hi)
  have k2 : F (P.CL i) = none := dj _ _ (t.cl i _ hi)
  refine wpAny_call ?_
  k_dflt refine' code_fn (l := [("child", Value.ref (P.D j)), ("self", Value.ref (P.D i))]) S R ?k1 ?k2 ?k3 ?k4 ?_ ?k6 ?k7 ?k8 ?k9 ?k10
  walk_at "m_in"
  intro L s1 hL S1
  clear S
  refine hideQ ?_
  intro QF hQF
  refine hideE ?_
  intro EF hEF
  (try dsimp only)
  have n1 : P.D i ≠ L := ne_fresh hL hself
  have n3 : P.CL i ≠ L := ne_fresh hL hcl
  walk_at "m_st"
  rename_i cl' x1 hc x2 x3 x4 x5 x6 x7 x8 x9
  have hq := yha
  (refine Mine.el_E (show ∃ x, x = ya from ⟨_, rfl⟩) fun ql' eql => ?_)
  subst eql
  rename St _ _ _ _ => mS
  have c0 : join F G cl' = none := none_up (none_up hc)
  have q0 : join F G ql' = none := none_up (none_up (none_up (none_up hq)))
  have cL : cl' ≠ L := none_ne hc
  have qL : ql' ≠ L := none_ne (none_up (none_up hq))
  have qc : ql' ≠ cl' := none_ne (none_up hq)
  (refine Mine.el_A (join_none c0) fun fc gc => ?_)
  (refine Mine.el_A (join_none q0) fun fq gq => ?_)
  (refine Mine.el_A (join_none hL) fun fl gl => ?_)
  have v1 : P.D i ≠ cl' := ne_fresh c0 hself
  have v2 : P.D i ≠ ql' := ne_fresh q0 hself
  have v5 : P.CL i ≠ cl' := ne_fresh c0 hcl
  have v6 : P.CL i ≠ ql' := ne_fresh q0 hcl
  have mS' := mS.env
  clear mS
  (refine Mine.el_EA mS' fun ev hev mS => ?_; (try clear mS'))
  have FF3 : ∀ X Y, Frs ev (upd (upd F (P.CL i) X) L (.ns Y)) := fun X Y => by
    rw [hev]
    exact Frs.cons ((fF.fresh k2).fresh (upd_other (Ne.symm n3) fl)) (upd_self ..) rfl (fun z => absurd z (show ScopeKind.function ≠ .module by decide))
  have t0 := (t.fresh (o := .list []) gc).fresh (a := ql') (o := .list []) (upd_other qc gq)
  have t1 := t0.swap (n' := { d with kids := [], q := [], lw := 0 }) (c' := cl') (q' := ql') (ts := []) hi (upd_other (Ne.symm qc) (upd_self ..)) (upd_self ..) trivial (Ne.symm qc)
    (fun l m hm hl => ⟨Ne.symm (ne_fresh gc (t.cl l m hm)), by (refine Mine.el_EA (t.ql l m hm) fun t3 z _ => ?_); exact Ne.symm (ne_fresh gc z)⟩)
    (fun l m hm hl => ⟨Ne.symm (ne_fresh gq (t.cl l m hm)), by (refine Mine.el_EA (t.ql l m hm) fun t3 z _ => ?_); exact Ne.symm (ne_fresh gq z)⟩)
  rw [← clr_eq hi] at t1
  have hcG : (upd (upd (upd G cl' (.list [])) ql' (.list [])) (P.D i) (.inst 246 (fldsOf P i cl' ql' { d with kids := [], q := [], lw := 0 }))) (P.CL i) = some (.list (d.kids.map fun k => .ref (P.D k))) := upd_other (Ne.symm m3) (upd_other v6 (upd_other v5 (t.cl i _ hi)))
  have t2 := t1.drop hcG (fun l m hm => by
    by_cases q : l = i
    · subst q
      have e1 : (P.lists l cl' ql').CL l = cl' := if_pos rfl
      have e2 : (P.lists l cl' ql').QL l = ql' := if_pos rfl
      rw [e1, e2]
      exact ⟨v5, v6⟩
    · have e1 : (P.lists i cl' ql').CL l = P.CL l := if_neg q
      have e2 : (P.lists i cl' ql').QL l = P.QL l := if_neg q
      have hm' : M l = some m := by rw [clr_eq hi, Mo.put_ne q] at hm; exact hm
      rw [e1, e2]
      exact ⟨fun z => q (t.cc _ _ _ _ hi hm' z).symm, t.cq _ _ _ _ hi hm'⟩)
  have dG : Dj F (upd (upd (upd G cl' (.list [])) ql' (.list [])) (P.D i) (.inst 246 (fldsOf P i cl' ql' { d with kids := [], q := [], lw := 0 }))) := ((dj.r fc).r fq).r k1
  have dG1 := Dj.del (a := P.CL i) (o := .list (d.kids.map fun k => .ref (P.D k))) dG
  have gL1 : (AH.del (upd (upd (upd G cl' (.list [])) ql' (.list [])) (P.D i) (.inst 246 (fldsOf P i cl' ql' { d with kids := [], q := [], lw := 0 }))) (P.CL i)) L = none := (if_neg (Ne.symm n3)).trans (upd_other (Ne.symm n1) (upd_other (Ne.symm qL) (upd_other (Ne.symm cL) gl)))
  have S2 := mS.sub (H := join (upd (upd F (P.CL i) (.list (d.kids.map fun k => .ref (P.D k)))) L (.ns [("old_children", .ref (P.CL i)), ("child", .ref (P.D j)), ("self", .ref (P.D i))])) (AH.del (upd (upd (upd G cl' (.list [])) ql' (.list [])) (P.D i) (.inst 246 (fldsOf P i cl' ql' { d with kids := [], q := [], lw := 0 }))) (P.CL i))) (by
    rw [← upd_join, ← join_del k2 hcG, ← upd_join_r k1, ← upd_join_r fq, ← upd_join_r fc]
    walk_at "m_sub") (FF3 _ _).join
  clear mS hc hq
  (refine Mine.el_E (show ∃ P2, P2 = P.lists i cl' ql' from ⟨_, rfl⟩) fun P2 hP2 => ?_)
  have eD : P2.D = P.D := by rw [hP2]; rfl
  rw [← hP2] at t2
  generalize AH.del (upd (upd (upd G cl' (.list [])) ql' (.list [])) (P.D i) (.inst 246 (fldsOf P i cl' ql' { d with kids := [], q := [], lw := 0 }))) (P.CL i) = G2 at t2 dG1 gL1 S2
  have hci : clr M i i = some { d with kids := [], q := [], lw := 0 } := by rw [clr_eq hi]; exact Mo.put_self ..
  have hcj : clr M i j = some n := by rw [clr_eq hi]; exact (Mo.put_ne hne).trans hj
  have dG2 := dG1.l (o := .ns [("old_children", .ref (P.CL i)), ("child", .ref (P.D j)), ("self", .ref (P.D i))]) gL1
  refine add_child_at (P := P2) (congrFun eD.symm i) (congrFun eD.symm j) S2 (by walk_at "m_R") (FF3 _ _) dG2 t2 hci hcj hne (Nat.zero_le _) (Nat.zero_le _) (fun e he => by cases he) ?_
  intro G3 s3 d3 t3 S3
  clear S2
  have hLF := upd_self (upd F (P.CL i) (.list (d.kids.map fun k => .ref (P.D k)))) L (.ns [("old_children", .ref (P.CL i)), ("child", .ref (P.D j)), ("self", .ref (P.D i))])
  have hLj := join_l (G := G3) hLF
  have hoF : upd (upd F (P.CL i) (.list (d.kids.map fun k => .ref (P.D k)))) L (.ns [("old_children", .ref (P.CL i)), ("child", .ref (P.D j)), ("self", .ref (P.D i))]) (P.CL i) = some (.list (d.kids.map fun k => .ref (P.D k))) := upd_other n3 (upd_self ..)
  walk_at "m_st"
  refine wpAny_For ?_
  walk_at "m_st"
  rename St _ _ _ _ => S4
  have haj : adopt (clr M i) i j j = some { n with par := some i } := adopt_child hci hcj hne
  have hak : ∀ k ∈ d.kids, k ≠ j ∧ ∃ m, adopt (clr M i) i j k = some m := fun k hk => ⟨(hkx k hk).1, ((Same.clr M i).trans (Same.adopt _ _ _) k).mp (hkx k hk).2⟩
  refine iter_list S4 (join_l hoF) ?_
  intro it s8 hit S8
  clear S4
  refine for_tree (row_list (P.CL i) (d.kids.map fun k => .ref (P.D k))) (fun k l Gx => l.lookup ("child" : Str) = some (.ref (P.D j)) ∧ Tree 246 P2 (adopts (adopt (clr M i) i j) j (d.kids.take k)) Gx) S8 hit hLF (FF3 _ _) d3 ⟨rfl, t3⟩ ?_ hh ?_ ?_
  · rintro k l Gx ⟨-, tx⟩ dx
    exact join_l (upd_other n3 hoF)
  · rintro k0 F2 l' G' s9 y ⟨q1, t'⟩ hx kp hL2 dj2 fr2 S9 QB EB hQB
    rw [List.getElem?_map] at hx
    (refine Mine.el_EA (Option.map_eq_some_iff.mp hx) fun c0 hc0 zq0 => ?_; (first | subst zq0 | cases zq0))
    have q1' : List.lookup ("child" : Str) (("old_child", Value.ref (P.D c0)) :: l') = some (.ref (P.D j)) := q1
    have hL2' := join_l (G := G') hL2
    have hks : ∀ x ∈ d.kids.take k0, x ≠ j ∧ ∃ m, adopt (clr M i) i j x = some m := fun x hx => hak x (List.mem_of_mem_take hx)
    (refine Mine.el_EAAA (adopts_at (d.kids.take k0) haj hks) fun q' hq' hql zq0 hqm => ?_; clear zq0)
    have hck := hkx c0 (List.mem_of_getElem? hc0)
    have sm : Same M (adopts (adopt (clr M i) i j) j (d.kids.take k0)) := ((Same.clr M i).trans (Same.adopt _ _ _)).trans (Same.adopts _ _ _)
    (refine Mine.el_E (show ∃ m, adopts (adopt (clr M i) i j) j (d.kids.take k0) c0 = some m from (sm c0).mp hck.2) fun mc hmc => ?_)
    have hself2 := join_r dj2 (t'.inst j _ hq')
    rw [eD] at hself2
    have hlt := (List.getElem?_eq_some_iff.mp hc0).1
    walk_at "m_st"
    rename St _ _ _ _ => S10
    have hne0 : c0 ≠ j := hck.1
    refine add_child_at (P := P2) (congrFun eD.symm j) (congrFun eD.symm c0) S10 (by walk_at "m_R") fr2 dj2 t' hq' hmc hne0 (by rw [hql, List.length_take]; simp only; omega) (by simp only [List.length_append, List.length_take]; omega) ?_ ?_
    · intro e he
      rcases hqm e he with he | ⟨-, he⟩
      · (refine Mine.el_E (hex e he) fun m hm => ?_)
        exact (sm e.2).mp ⟨m, hm⟩
      · exact (Same.adopts _ _ _ e.2).mp (hks _ he).2
    intro G5 s11 d5 t5 S11
    walk_at "m_st"
    rename St _ _ _ _ => S12
    refine ⟨_, G5, ⟨q1', ?_⟩, d5, ?_⟩
    · rw [adopts_take hc0]; exact t5
    · rw [upd_id hL2]; exact S12
  · rintro l' G' s9 ⟨q1, t'⟩ d9 S9
    rw [List.length_map, List.take_length] at t'
    walk_at "m_st"
    have eR : adopts (adopt (clr M i) i j) j d.kids = adoptX M i j := by unfold adoptX; rw [kidsOf_eq hi]
    rw [eR] at t'
    have d8 := d9.l (o := .ns l') (d9.has (upd_self ..))
    rw [upd_upd] at d8 S9
    have sF := ((Sub.refl F).fresh (x := .list (d.kids.map fun k => .ref (P.D k))) k2).fresh (a := L) (x := .ns l') fl
    exact k P2 G' _ eD (d8.sub sF) t' (S9.sub (sub_join d8 sF) fF.join)
end
end
set_option hygiene false in
local macro_rules | `(tactic| walk_at "m_sf") => `(tactic| w_strict (repeat' (first | ((fail_if_success (with_reducible show wpAny _ _ (exec (Stmt.If _ _ _ _) _) _ _ _)); walk_at "m_nt"; walk_at "m_w1") | walk_at "m_uh")))
set_option hygiene false in
local macro_rules | `(tactic| walk_at "eval Call Attribute cons cons") => `(tactic| (refine methodCall_KW ?_))
section
section
variable {w : World} {c : Cx PySem.Challenge.rw_bd0031_06.row.prog w (MineTop.hd.heap_39 w.params)} {envs : List Env} {F G H : AH} {A : Around} {E Q : Value → Shared → Prop} {s : Shared}
noncomputable def GipC (c : Cx PySem.Challenge.rw_bd0031_06.row.prog w (MineTop.hd.heap_39 w.params)) (g : Nat) (need : Bool) (pt : Nat) (dep : Int) (M M1 : Mo) (ks ks1 : List Int) : Prop :=
  ∀ {envs : List Env} {F G : AH} {A : Around} {E Q : Value → Shared → Prop} {s : Shared} {tk : Tok} {D : Int → Nat}, St c envs (join F G) s → Rm A g (10 * g) → A.frames = some envs → (need = true → A.handled = none) → Frs envs F → Dj F G → PTreeD 246 347 D M ks pt G →
    (∀ D' G' s', (∀ j ∈ ks, D' j = D j) → Dj F G' → PTreeD 246 347 D' M1 ks1 pt G' → St c envs (join F G') s' → Q (.ref (D' dep)) s') →
    wpAny (model PySem.Challenge.rw_bd0031_06.row.prog w) A (call (.ref 279) [.ref pt, .int dep tk]) Q E s
theorem put_or {M : Mo} {i j : Int} {m : Nd} : (∃ n, M.put i m j = some n) ↔ (j = i ∨ ∃ n, M j = some n) := by
  by_cases q : j = i
  · subst q; exact ⟨fun _ => .inl rfl, fun _ => ⟨m, Mo.put_self ..⟩⟩
  · rw [Mo.put_ne q]; exact ⟨.inr, fun h => h.resolve_left q⟩
theorem ins_mid {rk : Int → Nat} {D : Int → Nat} {M1 : Mo} {ks1 : List Int} {pt L x cl ql : Nat} {i dep v : Int} {l3 : List (Str × Value)} {F3 G1 : AH} {ev : List Env} (hF3 : F3 = upd (upd (upd (upd F L (.ns l3)) x (.inst 246 (nfl i v cl ql))) cl (.list [])) ql (.list []))
    (S : St c ev (join F3 G1) s) (d1 : Dj F3 G1) (tx : PTreeD 246 347 D M1 ks1 pt G1) (hdep : ∃ n, M1 dep = some n) (fr : Frs ev (upd F L (.ns l3))) (f1 : F pt = none) (fl : F L = none) (fx : F x = none) (fc : F cl = none) (fq : F ql = none) (n1 : L ≠ pt) (x1 : x ≠ L) (x2 : cl ≠ L) (x3 : ql ≠ L) (y1 : pt ≠ x) (y2 : pt ≠ cl) (y3 : pt ≠ ql)
    (m1 : x ≠ cl) (m2 : x ≠ ql) (m3 : cl ≠ ql) (hn1 : M1 i = none) (ok1 : OkM rk M1) (clo1 : Clo M1) :
    ∃ P1 dd1 Gt1 G4, PT 246 347 P1 M1 ks1 pt dd1 Gt1 ∧ P1.D dep = D dep ∧ (∀ j ∈ ks1, P1.D j = D j) ∧ F dd1 = none ∧ L ≠ dd1 ∧ x = (P1.at i x cl ql).D i ∧ (∀ j ∈ ks1, (P1.at i x cl ql).D j = P1.D j) ∧ Tree 246 (P1.at i x cl ql) (M1.put i (newNd v)) G4 ∧
      Dj (upd (upd (upd F L (.ns l3)) pt (.inst 347 (pfl P1 dd1))) dd1 (.imap (pdict P1 ks1))) G4 ∧
      St c ev (join (upd (upd (upd F L (.ns l3)) pt (.inst 347 (pfl P1 dd1))) dd1 (.imap (pdict P1 ks1))) G4) s ∧ Frs ev (upd (upd (upd F L (.ns l3)) pt (.inst 347 (pfl P1 dd1))) dd1 (.imap (pdict P1 ks1))) := by
  subst hF3
  (refine Mine.el_EEEAA tx fun P1 dd1 Gt1 p1 zq0 eDD => ?_; (first | subst zq0 | cases zq0); (try clear tx))
  have fdd := d1 _ _ (upd_self ..)
  have e3 := none_ne fdd
  have e2 := none_ne (none_up fdd)
  have e1 := none_ne (none_up (none_up fdd))
  have eL := none_ne (none_up (none_up (none_up fdd)))
  have f2 := none_up (none_up (none_up (none_up fdd)))
  have gq := none_up (none_up (d1.has (upd_self ..)))
  have gc := none_up (none_up (d1.has (upd_other m3 (upd_self ..))))
  have gx := none_up (none_up (d1.has (upd_other m2 (upd_other m1 (upd_self ..)))))
  have gL := none_up (none_up (d1.has (upd_other x3.symm (upd_other x2.symm (upd_other x1.symm (upd_self ..))))))
  have hik : i ∉ ks1 := fun z => by (refine Mine.el_E ((p1.ks i).mp z) fun m hm => ?_); rw [hn1] at hm; (exact Mine.no_ns hm)
  have d0 : Dj F Gt1 := fun a o q => none_up (none_up (none_up (none_up (d1 a o (upd_other (fun z => by rw [z, p1.dn] at q; (exact Mine.no_ns q)) (upd_other (fun z => by rw [z, p1.pn] at q; (exact Mine.no_ns q)) q))))))
  have pn := p1.ne
  refine ⟨P1, dd1, Gt1, _, p1, eDD dep ((p1.ks dep).mpr hdep), eDD, f2, eL.symm, (if_pos rfl).symm, fun j hj => if_neg fun (z : j = i) => hik (z ▸ hj), p1.tree.newNode clo1 ok1 (w := v) hn1 gx gc gq m1 m2 m3, ?_, S.sub ?_ ?_, ?_⟩
  · refine ((((((d0.r fx).r fc).r fq).l ?_).l ?_).l ?_)
    · exact upd_other x3.symm (upd_other x2.symm (upd_other x1.symm gL))
    · exact upd_other y3 (upd_other y2 (upd_other y1 p1.pn))
    · exact upd_other e3 (upd_other e2 (upd_other e1 p1.dn))
  · rw [← upd_join, ← upd_join, ← upd_join, ← upd_join_r fq, ← upd_join_r fc, ← upd_join_r fx, ← upd_join, ← upd_join, ← upd_join, ← upd_join, ← upd_join_r f2, ← upd_join_r f1]
    walk_at "m_sub"
  · exact ((fr.fresh (upd_other n1.symm f1)).fresh (upd_other pn.symm (upd_other eL f2))).join
  · exact (fr.fresh (upd_other n1.symm f1)).fresh (upd_other pn.symm (upd_other eL f2))
theorem ins_end {M1 M2 : Mo} {ks1 : List Int} {pt L dd1 : Nat} {i : Int} {l : List (Str × Value)} {P1 P2 : Pl} {Gt1 G5 : AH} {ev : List Env} (p1 : PT 246 347 P1 M1 ks1 pt dd1 Gt1) (f1 : F pt = none) (f2 : F dd1 = none) (fl : F L = none) (n1 : L ≠ pt) (n2 : L ≠ dd1)
    (d5 : Dj (upd (upd (upd F L (.ns l)) pt (.inst 347 (pfl P1 dd1))) dd1 (.imap (pdict P1 ks1))) G5) (t5 : Tree 246 P2 M2 G5) (hn1 : M1 i = none) (e : ∀ j ∈ ks1, P2.D j = P1.D j) (h0 : ∃ n, M1 0 = some n) (sm : ∀ j, (∃ n, M2 j = some n) ↔ (j = i ∨ ∃ n, M1 j = some n)) {H9 : AH}
    (S : St c ev H9 s) (hS : Sub (upd (join (upd (upd (upd F L (.ns l)) pt (.inst 347 (pfl P1 dd1))) dd1 (.imap (pdict P1 ks1))) G5) dd1 (.imap (kput i (.ref (P2.D i)) (pdict P1 ks1)))) H9) (fF : Frs envs F) :
    ∃ G', Dj F G' ∧ PTreeD 246 347 P2.D M2 (ks1 ++ [i]) pt G' ∧ St c envs (join F G') s := by
  have hik : i ∉ ks1 := fun z => by (refine Mine.el_E ((p1.ks i).mp z) fun m hm => ?_); rw [hn1] at hm; (exact Mine.no_ns hm)
  have sF : Sub (upd (upd F pt (.inst 347 (pfl P1 dd1))) dd1 (.imap (pdict P1 ks1))) (upd (upd (upd F L (.ns l)) pt (.inst 347 (pfl P1 dd1))) dd1 (.imap (pdict P1 ks1))) := (((Sub.refl F).fresh fl).upd2 (.inl rfl)).upd2 (.inl rfl)
  have d6 := d5.sub sF
  (refine Mine.el_AA (PT.more p1 f1 f2 d6 t5 hik e ((p1.ks 0).mpr h0) sm) fun b1 b2 b3 => ?_)
  refine ⟨_, b2, ⟨P2, dd1, G5, b1, rfl, fun _ _ => rfl⟩, ?_⟩
  rw [← b3]
  refine S.sub (Sub.trans (Sub.upd2 (sub_join d5 sF) (.inl rfl)) hS) ?_
  exact (((fF.fresh f1).fresh (upd_other p1.ne.symm f2)).join).turn (join_l (upd_self ..)) rfl
theorem xins_spec {P : Pl} {M : Mo} {i j : Int} {d n : Nd} {a b pt : Nat} (ea : a = P.D i) (eb : b = P.D j) (S : St c envs (join F G) s) (R : Rm A 24 280) (hh : A.handled = none) (fF : Frs envs F) (dj : Dj F G) (t : Tree 246 P M G) (hi : M i = some d) (hj : M j = some n) (hne : j ≠ i)
    (hz : n.q.length ≤ 100) (hk : n.kids.length ≤ 100) (hd : d.kids.length ≤ 100) (hex : ∀ e ∈ n.q, ∃ m, M e.2 = some m) (hkx : ∀ k ∈ d.kids, k ≠ j ∧ ∃ m, M k = some m)
    (k : ∀ P' G' s', P'.D = P.D → Dj F G' → Tree 246 P' (adoptX M i j) G' → St c envs (join F G') s' → Q .none s') :
    wpAny (model PySem.Challenge.rw_bd0031_06.row.prog w) A (call (.ref 286) [.ref pt, .ref a, .ref b]) Q E s := by
  subst ea eb
  have hself := join_r dj (t.inst i _ hi)
  have hch := join_r dj (t.inst j _ hj)
  refine wpAny_call ?_
  k_dflt refine' code_fn (l := [("inserted_stream", Value.ref (P.D j)), ("parent_stream", Value.ref (P.D i)), ("self", Value.ref pt)]) S R ?k1 ?k2 ?k3 ?k4 ?_ ?k6 ?k7 ?k8 ?k9 ?k10
  walk_at "m_in"
  intro L s1 hL S1
  have F0 := S.frs
  clear S
  refine hideQ ?_
  intro QF hQF
  refine hideE ?_
  intro EF hEF
  (try dsimp only)
  have n1 : P.D i ≠ L := ne_fresh hL hself
  have n2 : P.D j ≠ L := ne_fresh hL hch
  (refine Mine.el_A (join_none hL) fun fl gl => ?_)
  walk_at "m_st"
  rename St _ _ _ _ => S2
  rw [upd_join] at S2
  have sF := (Sub.refl F).fresh (x := .ns [(("inserted_stream" : Str), Value.ref (P.D j)), ("parent_stream", Value.ref (P.D i)), ("self", Value.ref pt)]) fl
  refine addx_spec rfl rfl S2 (by walk_at "m_R") hh (Frs.cons (fF.fresh fl) (upd_self ..) rfl (show ScopeKind.function ≠ .module by decide)) (dj.l gl) t hi hj hne hz hk hd hex hkx ?_
  intro P' G' s3 e3 d3 t3 S3
  walk_at "m_st"
  (try dsimp only)
  rename St _ _ _ _ => S4
  exact k P' G' _ e3 (d3.sub sF) t3 (S4.sub (sub_join d3 sF) fF.join)
theorem insert_spec {rk : Int → Nat} {D : Int → Nat} {g : Nat} {need ex : Bool} {M M1 : Mo} {ks ks1 : List Int} {pt : Nat} {i dep v : Int} {t1 t3 : Tok} {dvt : Value} {args : Args} {d n0 : Nd}
    (ha : (args = ⟨[.ref pt, .int i t1], []⟩ ∧ dvt = .none ∧ dep = 0 ∧ v = 16 ∧ t3 = 555 ∧ ex = false) ∨ ((∃ t2, dvt = .int dep t2) ∧ ((args = ⟨[.ref pt, .int i t1, dvt, .int v t3], []⟩ ∧ ex = false) ∨ args = ⟨[.ref pt, .int i t1, dvt, .int v t3, .bool ex], []⟩)))
    (S : St c envs (join F G) s) (R : Rm A (g + 40) (10 * g + 400)) (hA : A.frames = some envs) (hh : need = true ∨ ex = true → A.handled = none) (fF : Frs envs F) (dj : Dj F G) (t : PTreeD 246 347 D M ks pt G)
    (hg : GipC c g need pt dep M M1 ks ks1) (hn : M i = none) (hne : dep ≠ i) (hks : ks.length ≤ 900) (hks1 : ks1.length ≤ 900) (hsub : ∀ j ∈ ks, j ∈ ks1) (hn1 : M1 i = none) (ok1 : OkM rk M1) (clo1 : Clo M1) (hd1 : M1 dep = some d) (hr0 : M1 0 = some n0) (h1 : 1 ≤ v) (h2 : v ≤ 256) (hdq : d.q.length ≤ 100) (hdk : d.kids.length ≤ 100) (hkx : ∀ k ∈ d.kids, ∃ m, M1 k = some m) {R' : Result → Shared → Prop}
    (k : ∀ D' G' s', (∀ j ∈ ks, D' j = D j) → Dj F G' → PTreeD 246 347 D' (if ex then adoptX (M1.put i (newNd v)) dep i else adopt (M1.put i (newNd v)) dep i) (ks1 ++ [i]) pt G' → St c envs (join F G') s' → R' (.ok (.ret .none)) s') :
    codeAny (model PySem.Challenge.rw_bd0031_06.row.prog w) A (.call (.ref 294) args) R' s := by
  (refine Mine.el_EEEAAAAAA (t.split dj) fun P dd Gt p f1 f2 d0 dj1 ej eP => ?_)
  have hpt : join F G pt = some (.inst 347 (pfl P dd)) := by rw [ej]; exact join_l (upd_other p.ne (upd_self ..))
  have hdd : join F G dd = some (.imap (pdict P ks)) := by rw [ej]; exact join_l (upd_self ..)
  have hik : i ∉ ks := fun z => by (refine Mine.el_E ((p.ks i).mp z) fun m hm => ?_); rw [hn] at hm; (exact Mine.no_ns hm)
  have hln : (pdict P ks).lookup i = none := pdict_none hik
  have hll : (pdict P ks).length = ks.length := pdict_len
  k_dflt refine' code_fn (args := args) (binds := [("self", Value.ref pt), ("stream_id", Value.int i t1), ("depends_on", dvt), ("weight", Value.int v t3), ("exclusive", Value.bool ex)]) (l := [("exclusive", Value.bool ex), ("weight", Value.int v 0), ("depends_on", er dvt), ("stream_id", Value.int i 0), ("self", Value.ref pt)]) S R ?k1 ?k2 ?k3 ?k4 ?_ ?k6 ?k7 ?k8 ?k9 ?k10
  case k1 => k_is
  case k2 => k_is
  case k3 => rcases ha with ⟨rfl, rfl, rfl, rfl, rfl, rfl⟩ | ⟨⟨t2, rfl⟩, (⟨rfl, rfl⟩ | rfl)⟩ <;> first | exact (BindsTo.of_eq rfl) | exact binds_K (St.inK (by assumption)) rfl (by k_is) rfl rfl rfl
  case k4 => rfl
  case k6 => exact locs rfl
  case k7 => decide
  case k8 => rfl
  case k9 => rfl
  case k10 => rfl
  intro L s1 hL S1
  clear S
  refine hideQ ?_
  intro QF hQF
  refine hideE ?_
  intro EF hEF
  (try dsimp only)
  have n1 : L ≠ pt := Ne.symm (ne_fresh hL hpt)
  have n2 : L ≠ dd := Ne.symm (ne_fresh hL hdd)
  walk_at "m_st"
  rename St _ _ _ _ => mS
  refine d_len mS (by walk_at "m_H") (by omega) ?_
  intro tk s' S'
  clear mS
  walk_at "m_st"
  rename St _ _ _ _ => S2
  refine wpAny_call (stream_new S2 (by walk_at "m_R") h1 h2 ?_)
  intro x cl ql s3 hx hc hq m1 m2 m3 S3
  clear S2
  have hx0 : join F G x = none := none_up hx
  have hc0 : join F G cl = none := none_up hc
  have hq0 : join F G ql = none := none_up hq
  have x1 := none_ne hx
  have x2 := none_ne hc
  have x3 := none_ne hq
  have y1 : pt ≠ x := ne_fresh hx0 hpt
  have y2 : pt ≠ cl := ne_fresh hc0 hpt
  have y3 : pt ≠ ql := ne_fresh hq0 hpt
  (refine Mine.el_A (join_none hx0) fun fx gx => ?_)
  (refine Mine.el_A (join_none hc0) fun fc gc => ?_)
  (refine Mine.el_A (join_none hq0) fun fq gq => ?_)
  (refine Mine.el_A (join_none hL) fun fl gl => ?_)
  (try dsimp only)
  walk_at "m_sf"
  rename St _ _ _ _ => S4a
  (refine Mine.el_EA S4a.env fun ev hev S4 => ?_)
  clear S4a
  have hdv : (dvt = .none ∧ dep = 0) ∨ ∃ t2, dvt = .int dep t2 := by
    rcases ha with ⟨-, a, b, -⟩ | ⟨a, -⟩
    · exact .inl ⟨a, b⟩
    · exact .inr a
  clear ha
  (refine Mine.el_E (show ∃ l3 : List (Str × Value), l3 = [(("depends_on" : Str), Value.int dep 0), ("stream", .ref x), ("exclusive", .bool ex), ("weight", .int v 0), ("stream_id", .int i 0), ("self", .ref pt)] from ⟨_, rfl⟩) fun l3 hl3 => ?_)
  (refine Mine.el_E (show ∃ F3, F3 = upd (upd (upd (upd F L (.ns l3)) x (.inst 246 (nfl i v cl ql))) cl (.list [])) ql (.list []) from ⟨_, rfl⟩) fun F3 hF3 => ?_)
  have frF : ∀ l, Frs ev (upd (upd (upd (upd F L (.ns l)) x (.inst 246 (nfl i v cl ql))) cl (.list [])) ql (.list [])) := fun l => by
    rw [hev]
    refine (((Frs.cons (fF.fresh fl) (upd_self ..) rfl (fun z => absurd z (show ScopeKind.function ≠ .module by decide))).fresh ?_).fresh ?_).fresh ?_
    · exact upd_other x1 fx
    · exact upd_other (Ne.symm m1) (upd_other x2 fc)
    · exact upd_other (Ne.symm m3) (upd_other (Ne.symm m2) (upd_other x3 fq))
  refine wpAny_mono (Q := fun f s' => f = .next ∧ St c ev (join F3 G) s') ?_ (fun f s5 hq5 => ?_) (fun _ _ z => z)
  · rcases hdv with ⟨rfl, rfl⟩ | ⟨t2, rfl⟩
    all_goals (
      simp only [er] at S4
      walk_at "m_st")
    all_goals (
      rename St _ _ _ _ => S6
      refine S6.sub ?_ (hF3 ▸ (frF _).join)
      rw [hF3, ← upd_join, ← upd_join, ← upd_join, ← upd_join, hl3]
      walk_at "m_sub")
  (refine Mine.el_A hq5 fun zq0 S5 => ?_; (first | subst zq0 | cases zq0); (try clear hq5))
  have hLF : F3 L = some (.ns l3) := by rw [hF3]; exact upd_other (Ne.symm x3) (upd_other (Ne.symm x2) (upd_other (Ne.symm x1) (upd_self ..)))
  have hpt3 : join F3 G pt = some (.inst 347 (pfl P dd)) := by
    rw [hF3, ← upd_join, ← upd_join, ← upd_join, ← upd_join]
    exact upd_other y3 (upd_other y2 (upd_other y1 (upd_other n1.symm hpt)))
  have fF3 : Frs ev F3 := hF3 ▸ frF _
  have frL : Frs ev (upd F L (.ns l3)) := by
    rw [hev]
    exact Frs.cons (fF.fresh fl) (upd_self ..) rfl (fun z => absurd z (show ScopeKind.function ≠ .module by decide))
  have dj3 : Dj F3 G := by rw [hF3]; exact (((dj.l gl).l gx).l gc).l gq
  have hLj := join_l (G := G) hLF
  clear S4 hc hq hx
  subst hl3
  cases ex with
  | true =>
    walk_at "m_st"
    rename St _ _ _ _ => S5
    refine hg S5 (by walk_at "m_R") (by rw [hev]; exact Around.frames_deeper hA) (fun z => hh (.inl z)) fF3 dj3 t ?_
    intro D1 G1 s6 eD1 d1 t1x S6
    clear S5
    (refine Mine.el_EEEEAAAAAAAAAA (ins_mid hF3 S6 d1 t1x ⟨_, hd1⟩ frL f1 fl fx fc fq n1 x1 x2 x3 y1 y2 y3 m1 m2 m3 hn1 ok1 clo1) fun P1 dd1 Gt1 G4 p1 eDx eDk f2' nL' eX eD t4 d4 S7 fr4 => ?_)
    clear S6
    rw [← eDx]
    (refine Mine.el_E (show ∃ F4, F4 = upd (upd (upd F L (.ns [(("depends_on" : Str), Value.int dep 0), ("stream", .ref x), ("exclusive", .bool true), ("weight", .int v 0), ("stream_id", .int i 0), ("self", .ref pt)])) pt (.inst 347 (pfl P1 dd1))) dd1 (.imap (pdict P1 ks1)) from ⟨_, rfl⟩) fun F4 hF4 => ?_)
    rw [← hF4] at d4 S7 fr4
    have hL4 : F4 L = some (.ns [(("depends_on" : Str), Value.int dep 0), ("stream", .ref x), ("exclusive", .bool true), ("weight", .int v 0), ("stream_id", .int i 0), ("self", .ref pt)]) := by rw [hF4]; exact upd_other nL' (upd_other n1 (upd_self ..))
    have hpt4 : F4 pt = some (.inst 347 (pfl P1 dd1)) := by rw [hF4]; exact upd_other p1.ne (upd_self ..)
    have hdd4 : F4 dd1 = some (.imap (pdict P1 ks1)) := by rw [hF4]; exact upd_self ..
    have hll1 : (pdict P1 ks1).length = ks1.length := pdict_len
    have hLj := join_l (G := G4) hL4
    have hptj := join_l (G := G4) hpt4
    have gL4 := d4.has hL4
    have hd2 : (M1.put i (newNd v)) dep = some d := (Mo.put_ne hne).trans hd1
    have eDd : P1.D dep = (P1.at i x cl ql).D dep := (if_neg hne).symm
    have hdj := join_r d4 (t4.inst dep _ hd2)
    rw [← eDd] at hdj
    have hnL : L ≠ P1.D dep := ne_kind hLj hdj (by intro z; (exact Mine.tag_ne z rfl))
    have hkx2 : ∀ k ∈ d.kids, k ≠ i ∧ ∃ m, (M1.put i (newNd v)) k = some m := fun k hk => by
      (refine Mine.el_E (hkx k hk) fun m hm => ?_)
      exact ⟨(fun z => by rw [z, hn1] at hm; (exact Mine.no_ns hm)), put_ex ⟨m, hm⟩⟩
    walk_at "m_st"
    rename St _ _ _ _ => S8
    rw [upd_join] at S8
    refine xins_spec (P := P1.at i x cl ql) (i := dep) (j := i) eDd eX S8 (by walk_at "m_R") (hh (.inr rfl)) (fr4.ns hL4) (d4.l gL4) t4 hd2 (Mo.put_self ..) (Ne.symm hne) (Nat.zero_le _) (Nat.zero_le _) hdk (fun e he => by cases he) hkx2 ?_
    intro P2 G5 s9 e5 d5 t5 S9
    clear S8
    have hLj5 := join_l (G := G5) (upd_self F4 L (.ns (("parent_stream", .ref (P1.D dep)) :: [(("depends_on" : Str), Value.int dep 0), ("stream", .ref x), ("exclusive", .bool true), ("weight", .int v 0), ("stream_id", .int i 0), ("self", .ref pt)])))
    have hpt5 := join_l (G := G5) (upd_other n1.symm hpt4 : upd F4 L (.ns (("parent_stream", .ref (P1.D dep)) :: [(("depends_on" : Str), Value.int dep 0), ("stream", .ref x), ("exclusive", .bool true), ("weight", .int v 0), ("stream_id", .int i 0), ("self", .ref pt)])) pt = _)
    have hdd5 := join_l (G := G5) (upd_other nL'.symm hdd4 : upd F4 L (.ns (("parent_stream", .ref (P1.D dep)) :: [(("depends_on" : Str), Value.int dep 0), ("stream", .ref x), ("exclusive", .bool true), ("weight", .int v 0), ("stream_id", .int i 0), ("self", .ref pt)])) dd1 = _)
    walk_at "m_st"
    rename St _ _ _ _ => S10
    have eF : upd F4 L (.ns ((("parent_stream" : Str), .ref (P1.D dep)) :: [(("depends_on" : Str), Value.int dep 0), ("stream", .ref x), ("exclusive", .bool true), ("weight", .int v 0), ("stream_id", .int i 0), ("self", .ref pt)])) = upd (upd (upd F L (.ns ((("parent_stream" : Str), .ref (P1.D dep)) :: [(("depends_on" : Str), Value.int dep 0), ("stream", .ref x), ("exclusive", .bool true), ("weight", .int v 0), ("stream_id", .int i 0), ("self", .ref pt)]))) pt (.inst 347 (pfl P1 dd1))) dd1 (.imap (pdict P1 ks1)) := by
      rw [hF4, upd_comm (Ne.symm nL'), upd_comm (Ne.symm n1), upd_upd]
    rw [eF] at d5
    have eX5 : P2.D i = x := by rw [e5]; exact eX.symm
    obtain ⟨G', b1, b2, b3⟩ := ins_end p1 f1 f2' fl n1 nL' d5 t5 hn1 (fun j hj => by rw [e5]; exact eD j hj) ⟨_, hr0⟩ (fun j => (Same.adoptX _ _ _ j).symm.trans put_or) S10 (by
      rw [← eF, eX5]
      walk_at "m_sub") fF
    exact k P2.D G' _ (fun j hj => by rw [e5, eD j (hsub j hj), eDk j (hsub j hj)]; exact eD1 j hj) b1 b2 b3
  | false =>
    walk_at "m_st"
    rename St _ _ _ _ => S5
    refine hg S5 (by walk_at "m_R") (by rw [hev]; exact Around.frames_deeper hA) (fun z => hh (.inl z)) fF3 dj3 t ?_
    intro D1 G1 s6 eD1 d1 t1x S6
    clear S5
    (refine Mine.el_EEEEAAAAAAAAAA (ins_mid hF3 S6 d1 t1x ⟨_, hd1⟩ frL f1 fl fx fc fq n1 x1 x2 x3 y1 y2 y3 m1 m2 m3 hn1 ok1 clo1) fun P1 dd1 Gt1 G4 p1 eDx eDk f2' nL' eX eD t4 d4 S7 fr4 => ?_)
    clear S6
    rw [← eDx]
    (refine Mine.el_E (show ∃ F4, F4 = upd (upd (upd F L (.ns [(("depends_on" : Str), Value.int dep 0), ("stream", .ref x), ("exclusive", .bool false), ("weight", .int v 0), ("stream_id", .int i 0), ("self", .ref pt)])) pt (.inst 347 (pfl P1 dd1))) dd1 (.imap (pdict P1 ks1)) from ⟨_, rfl⟩) fun F4 hF4 => ?_)
    rw [← hF4] at d4 S7 fr4
    have hL4 : F4 L = some (.ns [(("depends_on" : Str), Value.int dep 0), ("stream", .ref x), ("exclusive", .bool false), ("weight", .int v 0), ("stream_id", .int i 0), ("self", .ref pt)]) := by rw [hF4]; exact upd_other nL' (upd_other n1 (upd_self ..))
    have hpt4 : F4 pt = some (.inst 347 (pfl P1 dd1)) := by rw [hF4]; exact upd_other p1.ne (upd_self ..)
    have hdd4 : F4 dd1 = some (.imap (pdict P1 ks1)) := by rw [hF4]; exact upd_self ..
    have hll1 : (pdict P1 ks1).length = ks1.length := pdict_len
    have hLj := join_l (G := G4) hL4
    have hptj := join_l (G := G4) hpt4
    have gL4 := d4.has hL4
    have hd2 : (M1.put i (newNd v)) dep = some d := (Mo.put_ne hne).trans hd1
    have eDd : P1.D dep = (P1.at i x cl ql).D dep := (if_neg hne).symm
    have hdj := join_r d4 (t4.inst dep _ hd2)
    rw [← eDd] at hdj
    have hnL : L ≠ P1.D dep := ne_kind hLj hdj (by intro z; (exact Mine.tag_ne z rfl))
    have hkx2 : ∀ k ∈ d.kids, k ≠ i ∧ ∃ m, (M1.put i (newNd v)) k = some m := fun k hk => by
      (refine Mine.el_E (hkx k hk) fun m hm => ?_)
      exact ⟨(fun z => by rw [z, hn1] at hm; (exact Mine.no_ns hm)), put_ex ⟨m, hm⟩⟩
    walk_at "m_st"
    rename St _ _ _ _ => S8
    rw [upd_join] at S8
    refine add_child_at (P := P1.at i x cl ql) (i := dep) (j := i) eDd eX S8 (by walk_at "m_R") (fr4.ns hL4) (d4.l gL4) t4 hd2 (Mo.put_self ..) (Ne.symm hne) (by first | decide | omega) (by first | decide | omega) (fun e he => put_ex ((ok1.ok dep d hd1).2.2.2.2.2 e he).1) ?_
    intro G5 s9 d5 t5 S9
    clear S8
    have hLj5 := join_l (G := G5) (upd_self F4 L (.ns (("parent", .ref (P1.D dep)) :: [(("depends_on" : Str), Value.int dep 0), ("stream", .ref x), ("exclusive", .bool false), ("weight", .int v 0), ("stream_id", .int i 0), ("self", .ref pt)])))
    have hpt5 := join_l (G := G5) (upd_other n1.symm hpt4 : upd F4 L (.ns (("parent", .ref (P1.D dep)) :: [(("depends_on" : Str), Value.int dep 0), ("stream", .ref x), ("exclusive", .bool false), ("weight", .int v 0), ("stream_id", .int i 0), ("self", .ref pt)])) pt = _)
    have hdd5 := join_l (G := G5) (upd_other nL'.symm hdd4 : upd F4 L (.ns (("parent", .ref (P1.D dep)) :: [(("depends_on" : Str), Value.int dep 0), ("stream", .ref x), ("exclusive", .bool false), ("weight", .int v 0), ("stream_id", .int i 0), ("self", .ref pt)])) dd1 = _)
    (refine Mine.el_E (show ∃ P2, P2 = P1.at i x cl ql from ⟨_, rfl⟩) fun P2 hP2 => ?_)
    have e5 : P2.D = (P1.at i x cl ql).D := by rw [hP2]
    rw [← hP2] at t5
    walk_at "m_st"
    rename St _ _ _ _ => S10
    have eF : upd F4 L (.ns ((("parent" : Str), .ref (P1.D dep)) :: [(("depends_on" : Str), Value.int dep 0), ("stream", .ref x), ("exclusive", .bool false), ("weight", .int v 0), ("stream_id", .int i 0), ("self", .ref pt)])) = upd (upd (upd F L (.ns ((("parent" : Str), .ref (P1.D dep)) :: [(("depends_on" : Str), Value.int dep 0), ("stream", .ref x), ("exclusive", .bool false), ("weight", .int v 0), ("stream_id", .int i 0), ("self", .ref pt)]))) pt (.inst 347 (pfl P1 dd1))) dd1 (.imap (pdict P1 ks1)) := by
      rw [hF4, upd_comm (Ne.symm nL'), upd_comm (Ne.symm n1), upd_upd]
    rw [eF] at d5
    have eX5 : P2.D i = x := by rw [e5]; exact eX.symm
    obtain ⟨G', b1, b2, b3⟩ := ins_end p1 f1 f2' fl n1 nL' d5 t5 hn1 (fun j hj => by rw [e5]; exact eD j hj) ⟨_, hr0⟩ (fun j => (Same.adopt _ _ _ j).symm.trans put_or) S10 (by
      rw [← eF, eX5]
      walk_at "m_sub") fF
    exact k P2.D G' _ (fun j hj => by rw [e5, eD j (hsub j hj), eDk j (hsub j hj)]; exact eD1 j hj) b1 b2 b3
end
end
section
section
variable {w : World} {c : Cx PySem.Challenge.rw_bd0031_06.row.prog w (MineTop.hd.heap_39 w.params)} {envs : List Env} {F G H : AH} {A : Around} {E Q : Value → Shared → Prop} {s : Shared}
theorem gip_here {pt : Nat} {dep : Int} {M : Mo} {ks : List Int} (hd : ∃ d, M dep = some d) : GipC c 10 false pt dep M M ks ks := by
  intro envs F G A E Q s tk D S R hA hh fF dj t k
  have t0 := t
  (refine Mine.el_EEEAAAAAA (t.split dj) fun P dd Gt p f1 f2 d0 dj1 ej eD => ?_)
  have hpt : join F G pt = some (.inst 347 (pfl P dd)) := by rw [ej]; exact join_l (upd_other p.ne (upd_self ..))
  have hdd : join F G dd = some (.imap (pdict P ks)) := by rw [ej]; exact join_l (upd_self ..)
  have hdk := (p.ks dep).mpr hd
  refine gip_spec S (R.mono (by first | decide | omega) (by first | decide | omega)) hpt rfl hdd (pdict_get hdk) fun s' S' => ?_
  rw [eD dep hdk]
  exact k D _ _ (fun _ _ => rfl) dj t0 S'
theorem gip_new {rk : Int → Nat} {pt : Nat} {dep : Int} {M : Mo} {ks : List Int} {n0 : Nd} (hn : M dep = none) (h0 : dep ≠ 0) (hks : ks.length ≤ 800) (ok : OkM rk M) (clo : Clo M) (hr0 : M 0 = some n0) (hq : n0.q.length ≤ 100) (hk : n0.kids.length ≤ 100) : GipC c 60 true pt dep M (made M dep) ks (ks ++ [dep]) := by
  intro envs F G A E Q s tk D S R hA hh fF dj t k
  have hh := hh rfl
  (refine Mine.el_EEEAAAAAA (t.split dj) fun P dd Gt p f1 f2 d0 dj1 ej eD => ?_)
  have hpt : join F G pt = some (.inst 347 (pfl P dd)) := by rw [ej]; exact join_l (upd_other p.ne (upd_self ..))
  have hdd : join F G dd = some (.imap (pdict P ks)) := by rw [ej]; exact join_l (upd_self ..)
  have hik : dep ∉ ks := fun z => by (refine Mine.el_E ((p.ks dep).mp z) fun m hm => ?_); rw [hn] at hm; (exact Mine.no_ns hm)
  refine wpAny_call ?_
  k_dflt refine' code_fn (l := [("parent_stream_id", Value.int dep 0), ("self", Value.ref pt)]) S R ?k1 ?k2 ?k3 ?k4 ?_ ?k6 ?k7 ?k8 ?k9 ?k10
  walk_at "m_in"
  intro L s1 hL S1
  clear S
  refine hideQ ?_
  intro QF hQF
  refine hideE ?_
  intro EF hEF
  (try dsimp only)
  have n1 : L ≠ pt := Ne.symm (ne_fresh hL hpt)
  have n2 : L ≠ dd := Ne.symm (ne_fresh hL hdd)
  (refine Mine.el_A (join_none hL) fun fl gl => ?_)
  walk_at "m_st"
  refine wpAny_Try_except ?_
  walk_at "m_st"
  rename St _ _ _ _ => S2
  refine d_miss S2 hh (by walk_at "m_H") (pdict_none hik) (fun e s3 F3 => ?_) (by with_unfolding_all rfl)
  refine caught_B F3 (Around.frames_deeper hA) rfl key_exc key_nt key_sub (by k_is) (by boot_by_name) (by decide) fun T s4 he hT hTe S4 => ?_
  clear S2 F3
  have eL := none_ne he
  have tL := none_ne hT
  have he0 := none_up he
  have hT0 := none_up hT
  (refine Mine.el_A (join_none he0) fun fe ge => ?_)
  (refine Mine.el_A (join_none hT0) fun fT gT => ?_)
  rw [upd_join, upd_join, upd_join] at S4
  (refine Mine.el_E (show ∃ F2, F2 = upd (upd (upd F L (.ns [(("parent_stream_id" : Str), Value.int dep 0), ("self", Value.ref pt)])) T .tb) e (.exc (.type "KeyError") (some T) none) from ⟨_, rfl⟩) fun F2 hF2 => ?_)
  rw [← hF2] at S4
  (refine Mine.el_EA S4.env fun ev hev S4 => ?_)
  have hLF : F2 L = some (.ns [("parent_stream_id", Value.int dep 0), ("self", Value.ref pt)]) := by rw [hF2]; exact upd_other eL.symm (upd_other tL.symm (upd_self ..))
  have fF2 : Frs ev F2 := by
    rw [hF2, hev]
    refine ((Frs.cons (fF.fresh fl) (upd_self ..) rfl (show ScopeKind.function ≠ .module by decide)).fresh ?_).fresh ?_
    · exact upd_other tL fT
    · exact upd_other hTe.symm (upd_other eL fe)
  have dj2 : Dj F2 G := by rw [hF2]; exact ((dj.l gl).l gT).l ge
  have hLj := join_l (G := G) hLF
  have hptj : join F2 G pt = some (.inst 347 (pfl P dd)) := by
    rw [hF2, ← upd_join, ← upd_join, ← upd_join]
    exact upd_other (ne_fresh he0 hpt) (upd_other (ne_fresh hT0 hpt) (upd_other n1.symm hpt))
  have sF : Sub F F2 := by
    rw [hF2]
    exact (((Sub.refl F).fresh fl).fresh fT).fresh fe
  walk_at "m_st"
  rename St _ _ _ _ => S5
  refine wpAny_call ?_
  refine insert_spec (g := 10) (ex := false) (need := false) (M1 := M) (i := dep) (dep := 0) (.inl ⟨rfl, rfl, rfl, rfl, rfl, rfl⟩) S5 (by walk_at "m_R") (by rw [hev]; exact Around.frames_deeper hA) (fun z => by rcases z with z | z <;> (exact Mine.no_ft z)) fF2 dj2 t (gip_here ⟨_, hr0⟩) hn (Ne.symm h0) (by first | decide | omega) (by first | decide | omega) (fun _ z => z) hn ok clo hr0 hr0 (by decide) (by decide) hq hk (fun k hk => clo.kids 0 _ hr0 k hk) ?_
  intro D3 G3 s6 e3 d3 t3 S6
  clear S5 S4
  rw [if_neg (by decide)] at t3
  (refine Mine.el_EEEAAAAAA (t3.split d3) fun P3 dd3 Gt3 p3 f13 f23 zq0 zq1 ej3 zq2 => ?_; clear zq0; clear zq1; clear zq2)
  have hpt3 : join F2 G3 pt = some (.inst 347 (pfl P3 dd3)) := by rw [ej3]; exact join_l (upd_other p3.ne (upd_self ..))
  have hLj3 := join_l (G := G3) hLF
  have hnd : (adopt (M.put dep (newNd 16)) 0 dep) dep = some { newNd 16 with par := some 0 } := adopt_child ((Mo.put_ne (Ne.symm h0)).trans hr0) (Mo.put_self ..) h0
  walk_at "m_st"
  rename St _ _ _ _ => S7
  refine block_specD S7 (by walk_at "m_R") fF2 d3 t3 hnd h0 ?_
  intro G4 s8 d4 t4 S8
  clear S7
  have t40 := t4
  (refine Mine.el_EEEAA t4 fun P4 dd4 Gt4 p4 zq0 e4 => ?_; (first | subst zq0 | cases zq0); (try clear t4))
  have hpt4 := join_r d4 (upd_other p4.ne (upd_self ..))
  have hdd4 := join_r d4 (upd_self ..)
  have hLj4 := join_l (G := upd (upd Gt4 pt (.inst 347 (pfl P4 dd4))) dd4 (.imap (pdict P4 (ks ++ [dep])))) hLF
  have hl4 : (pdict P4 (ks ++ [dep])).lookup dep = some (.ref (P4.D dep)) := pdict_get (by simp)
  walk_at "m_st"
  rename St _ _ _ _ => S9
  rw [e4 dep (by simp)]
  exact k D3 _ _ e3 (d4.sub sF) t40 (S9.sub (sub_join d4 sF) fF.join)
end
end
section
section
variable {w : World} {c : Cx PySem.Challenge.rw_bd0031_06.row.prog w (MineTop.hd.heap_39 w.params)} {envs : List Env} {F G H : AH} {A : Around} {E Q : Value → Shared → Prop} {s : Shared}
theorem cycle_spec {P : Pl} {M : Mo} {x y : Int} {a b : Nat} {ny : Nd} (ea : a = P.D y) (eb : b = P.D x) (S : St c envs (join F G) s) (R : Rm A 6 60) (hh : A.handled = none) (fF : Frs envs F) (dj : Dj F G) (t : Tree 246 P M G) (hx : ∃ n, M x = some n) (hy : M y = some ny) (hy0 : y ≠ 0)
    (hp : ∀ i n, M i = some n → i ≠ 0 → ∃ p d, n.par = some p ∧ M p = some d) (dp : Int → Nat) (hdp : ∀ i n p, M i = some n → i ≠ 0 → n.par = some p → dp p < dp i) (hlt : dp y ≤ 90)
    (k : ∀ s', St c envs (join F G) s' → Q (.bool (cyc M x 100 y)) s') :
    wpAny (model PySem.Challenge.rw_bd0031_06.row.prog w) A (call (.ref 257) [.ref a, .ref b]) Q E s := by
  subst ea eb
  (refine Mine.el_E hx fun nx hx => ?_)
  have hyj := join_r dj (t.inst y _ hy)
  have hxj := join_r dj (t.inst x _ hx)
  refine wpAny_call ?_
  k_dflt refine' code_fn (l := [("current", Value.ref (P.D x)), ("new_parent", Value.ref (P.D y))]) S R ?k1 ?k2 ?k3 ?k4 ?_ ?k6 ?k7 ?k8 ?k9 ?k10
  walk_at "m_in"
  intro L s1 hL S1
  have F0 := S.frs
  clear S
  refine hideQ ?_
  intro QF hQF
  refine hideE ?_
  intro EF hEF
  (try dsimp only)
  have n2 : P.D x ≠ L := ne_fresh hL hxj
  (refine Mine.el_A (join_none hL) fun fl gl => ?_)
  walk_at "m_st"
  refine wpAny_For ?_
  walk_at "m_st"
  rename St _ _ _ _ => mS
  refine mk_range1 mS ?_
  intro r0 t0 u0 v0 s' hr0 S'
  clear mS
  walk_at "m_st"
  rename St _ _ _ _ => S1a
  (refine Mine.el_EA S1a.env fun ev hev S1 => ?_)
  clear S1a
  rename (upd (upd (join F G) _ _) _ _ _ = none) => hr
  rw [upd_upd, upd_join] at S1 hr
  (refine Mine.el_E (show ∃ l0 : List (Str × Value), l0 = [(("parent" : Str), Value.ref (P.D y)), ("current", .ref (P.D x)), ("new_parent", .ref (P.D y))] from ⟨_, rfl⟩) fun l0 hl0 => ?_)
  rw [← hl0] at S1 hr
  refine iter_range1 S1 hr 100 (by decide) (by decide) (by decide) ?_
  intro it s2 hit S2
  clear S1
  have fF2 : Frs ev (upd F L (.ns l0)) := by
    rw [hev]
    exact Frs.cons (fF.fresh fl) (upd_self ..) rfl (fun z => absurd z (show ScopeKind.function ≠ .module by decide))
  have dj2 := dj.l (o := .ns l0) gl
  refine for_tree (row_range 0 1 100) (fun i l Gx => Gx = G ∧ l.lookup ("current" : Str) = some (.ref (P.D x)) ∧ ∃ v nv, l.lookup ("parent" : Str) = some (.ref (P.D v)) ∧ M v = some nv ∧ v ≠ 0 ∧ cyc M x (100 - i) v = cyc M x 100 y ∧ dp v + i ≤ dp y) S2 hit (upd_self ..) fF2 dj2
    ⟨rfl, by rw [hl0]; rfl, y, ny, by rw [hl0]; rfl, hy, hy0, rfl, Nat.le_refl _⟩ (fun _ _ _ _ _ => trivial) hh ?_ ?_
  · rintro i F2 l' G' s3 y0 ⟨rfl, q1, v, nv, q2, hv, hv0, hcy, hle⟩ hx0 kp hL2 dj3 fr2 S3 QB EB hQB
    have hi := (rRow_get hx0).1
    have q1' : List.lookup ("current" : Str) (("_", y0) :: l') = some (.ref (P.D x)) := q1
    have q2' : List.lookup ("parent" : Str) (("_", y0) :: l') = some (.ref (P.D v)) := q2
    have hL2' := join_l (G := G') hL2
    (refine Mine.el_EEA (hp v nv hv hv0) fun p dpar hpp hdpar => ?_)
    have hvj := join_r dj3 (t.inst v _ hv)
    have hpj := join_r dj3 (t.inst p _ hdpar)
    have hxj := join_r dj3 (t.inst x _ hx)
    rw [show flds P v nv = flds P v { nv with par := some p } by rw [← hpp]] at hvj
    have hc1 : cyc M x (100 - i) v = if p = x then true else if p = 0 then false else cyc M x (100 - (i + 1)) p := by
      rw [show 100 - i = (100 - (i + 1)) + 1 by omega]
      show (match parOf M v with | some p => _ | none => _) = _
      rw [parOf_eq hv, hpp]
    have sF2 : Sub F F2 := fun a o h => ⟨o, kp a o (fun z => by rw [z, fl] at h; (exact Mine.no_ns h)) (upd_other (fun z => by rw [z, fl] at h; (exact Mine.no_ns h)) h), .inl rfl⟩
    walk_at "m_st"
    · rename St _ _ _ _ => S4
      rename (p = x) => h1
      have := k _ (S4.sub ((sub_join dj3 sF2).fresh hL) fF.join)
      rw [← hcy, hc1, if_pos h1] at this
      exact this
    · rename St _ _ _ _ => S4
      rename (¬ p = x) => h1
      rename (p = 0) => h2
      have := k _ (S4.sub ((sub_join dj3 sF2).fresh hL) fF.join)
      rw [← hcy, hc1, if_neg h1, if_pos h2] at this
      exact this
    · rename St _ _ _ _ => S4
      rename (¬ p = x) => h1
      rename (¬ p = 0) => h2
      rw [hc1, if_neg h1, if_neg h2] at hcy
      have hd2 := hdp v nv p hv hv0 hpp
      refine ⟨("parent", .ref (P.D p)) :: ("_", y0) :: l', G', ⟨rfl, q1', p, dpar, rfl, hdpar, h2, hcy, by omega⟩, dj3, ?_⟩
      rw [← upd_join]; exact S4
  · rintro l' G' s3 ⟨rfl, q1, v, nv, q2, hv, hv0, hcy, hle⟩ d3 S3
    rw [rRow_len] at hle
    omega
end
end
section
section
variable {w : World} {c : Cx PySem.Challenge.rw_bd0031_06.row.prog w (MineTop.hd.heap_39 w.params)} {envs : List Env} {F G H : AH} {A : Around} {E Q : Value → Shared → Prop} {s : Shared}
inductive RpMid (c : Cx PySem.Challenge.rw_bd0031_06.row.prog w (MineTop.hd.heap_39 w.params)) (F : AH) (ev : List Env) (L pt : Nat) (D : Int → Nat) (M1 : Mo) (ks ks1 : List Int) (x y v : Int) (ex cy : Bool) : Flow → Shared → Prop
  | mk (D' : Int → Nat) (G1 : AH) (s' : Shared) (h1 : ∀ j ∈ ks, D' j = D j) (h2 : Dj F G1) (h20 : G1 L = none) (h3 : PTreeD 246 347 D' M1 ks1 pt G1)
    (h4 : St c ev (join (upd F L (.ns [("cycle", .bool cy), ("new_parent", .ref (D' y)), ("current_stream", .ref (D' x)), ("exclusive", .bool ex), ("weight", .int v 0), ("depends_on", .int y 0), ("stream_id", .int x 0), ("self", .ref pt)])) G1) s') : RpMid c F ev L pt D M1 ks ks1 x y v ex cy .next s'
inductive RpMid2 (c : Cx PySem.Challenge.rw_bd0031_06.row.prog w (MineTop.hd.heap_39 w.params)) (F : AH) (ev : List Env) (P : Pl) (M4 : Mo) : Flow → Shared → Prop
  | mk (P4 : Pl) (G4 : AH) (s' : Shared) (h1 : P4.D = P.D) (h2 : Dj F G4) (h3 : Tree 246 P4 M4 G4) (h4 : St c ev (join F G4) s') : RpMid2 c F ev P M4 .next s'
theorem repri_spec {g : Nat} {need ex cy : Bool} {D : Int → Nat} {M M1 : Mo} {ks ks1 : List Int} {pt : Nat} {x y v px : Int} {t1 t2 t3 : Tok} {args : Args} {nx ny : Nd}
    (ha : (args = ⟨[.ref pt, .int x t1, .int y t2, .int v t3], []⟩ ∧ ex = false) ∨ args = ⟨[.ref pt, .int x t1, .int y t2, .int v t3, .bool ex], []⟩)
    (S : St c envs (join F G) s) (R : Rm A (g + 40) (10 * g + 400)) (hA : A.frames = some envs) (hh : A.handled = none) (fF : Frs envs F) (dj : Dj F G) (t : PTreeD 246 347 D M ks pt G)
    (hx0 : x ≠ 0) (hyx : y ≠ x) (hg : (y = 0 ∧ M1 = M ∧ ks1 = ks) ∨ (y ≠ 0 ∧ GipC c g need pt y M M1 ks ks1)) (hsub : ∀ j ∈ ks, j ∈ ks1) (hMx : ∃ n, M x = some n) (hM0 : ∃ n, M 0 = some n) (h1 : 1 ≤ v) (h2 : v ≤ 256)
    (bd : Bd 50 M1) (hx : M1 x = some nx) (hpx : nx.par = some px) (hpd : ∃ d, M1 px = some d) (hxk : x ∈ kidsOf M1 px) (hxp : px ≠ x) (hkk : ∀ k ∈ nx.kids, k ≠ px ∧ k ≠ x) (hy : M1 y = some ny)
    (hp : ∀ i n, M1 i = some n → i ≠ 0 → ∃ p d, n.par = some p ∧ M1 p = some d) (dp : Int → Nat) (hdp : ∀ i n p, M1 i = some n → i ≠ 0 → n.par = some p → dp p < dp i) (hlt : dp y ≤ 90)
    (hcy : cy = (decide (y ≠ 0) && cyc M1 x 100 y)) (hcc : cy = true → ∃ py d, ny.par = some py ∧ M1 py = some d ∧ py ≠ y ∧ y ≠ px ∧ y ∈ kidsOf M1 py ∧ ny.kids = []) (hx5 : x ∉ kidsOf (repri1 M1 x y v cy) y) {R' : Result → Shared → Prop}
    (k : ∀ D' G' s', (∀ j ∈ ks, D' j = D j) → Dj F G' → PTreeD 246 347 D' (repri M1 x y v ex cy) ks1 pt G' → St c envs (join F G') s' → R' (.ok (.ret .none)) s') :
    codeAny (model PySem.Challenge.rw_bd0031_06.row.prog w) A (.call (.ref 302) args) R' s := by
  have t00 := t
  (refine Mine.el_EEEAAAAAA (t.split dj) fun P dd Gt p f1 f2 d0 dj1 ej eD => ?_)
  have hpt : join F G pt = some (.inst 347 (pfl P dd)) := by rw [ej]; exact join_l (upd_other p.ne (upd_self ..))
  have hdd : join F G dd = some (.imap (pdict P ks)) := by rw [ej]; exact join_l (upd_self ..)
  have hlx : (pdict P ks).lookup x = some (.ref (P.D x)) := pdict_get ((p.ks x).mpr hMx)
  have hl0 : (pdict P ks).lookup 0 = some (.ref (P.D 0)) := pdict_get ((p.ks 0).mpr hM0)
  k_dflt refine' code_fn (args := args) (binds := [("self", Value.ref pt), ("stream_id", Value.int x t1), ("depends_on", Value.int y t2), ("weight", Value.int v t3), ("exclusive", Value.bool ex)]) (l := [("exclusive", Value.bool ex), ("weight", Value.int v 0), ("depends_on", Value.int y 0), ("stream_id", Value.int x 0), ("self", Value.ref pt)]) S R ?k1 ?k2 ?k3 ?k4 ?_ ?k6 ?k7 ?k8 ?k9 ?k10
  case k1 => k_is
  case k2 => k_is
  case k3 => rcases ha with ⟨rfl, rfl⟩ | rfl <;> first | exact (BindsTo.of_eq rfl) | exact binds_K (St.inK (by assumption)) rfl (by k_is) rfl rfl rfl
  case k4 => rfl
  case k6 => exact locs rfl
  case k7 => decide
  case k8 => rfl
  case k9 => rfl
  case k10 => rfl
  intro L s1 hL S1
  clear S ha
  refine hideQ ?_
  intro QF hQF
  refine hideE ?_
  intro EF hEF
  (try dsimp only)
  have n1 : L ≠ pt := Ne.symm (ne_fresh hL hpt)
  have n2 : L ≠ dd := Ne.symm (ne_fresh hL hdd)
  (refine Mine.el_A (join_none hL) fun fl gl => ?_)
  walk_at "m_st"
  refine wpAny_Try_except ?_
  walk_at "m_sf"
  rename St _ _ _ _ => S2a
  (refine Mine.el_EA S2a.env fun ev hev S2 => ?_)
  clear S2a
  have frL : ∀ l, Frs ev (upd F L (.ns l)) := fun l => by
    rw [hev]
    exact Frs.cons (fF.fresh fl) (upd_self ..) rfl (fun z => absurd z (show ScopeKind.function ≠ .module by decide))
  rw [upd_upd] at S2
  refine wpAny_mono (Q := RpMid c F ev L pt D M1 ks ks1 x y v ex cy) ?_ (fun f s5 hq5 => ?_) (fun _ _ z => z)
  · have xk := (p.ks x).mpr hMx
    have eDx := eD x xk
    have eD0 := eD 0 ((p.ks 0).mpr hM0)
    walk_at "m_st"
    · rename St _ _ _ _ => S3
      have hy0 : y ≠ 0 := by assumption
      (refine Mine.el_A (hg.resolve_left fun z => hy0 z.1) fun zq0 hg => ?_; clear zq0)
      have S4 := S3.sub (H := join (upd F L (.ns [("current_stream", .ref (P.D x)), ("exclusive", .bool ex), ("weight", .int v 0), ("depends_on", .int y 0), ("stream_id", .int x 0), ("self", .ref pt)])) G) (by
        rw [← upd_join]
        walk_at "m_sub") (frL _).join
      clear S3
      have dj3 := dj.l (o := .ns [(("current_stream" : Str), Value.ref (P.D x)), ("exclusive", .bool ex), ("weight", .int v 0), ("depends_on", .int y 0), ("stream_id", .int x 0), ("self", .ref pt)]) gl
      refine hg S4 (by walk_at "m_R") (by rw [hev]; exact Around.frames_deeper hA) (fun _ => hh) (frL _) dj3 t00 ?_
      intro D' G1 s6 e1 d1 t1 S6
      clear S4
      have hLj := join_l (G := G1) (upd_self F L (.ns [(("current_stream" : Str), Value.ref (P.D x)), ("exclusive", .bool ex), ("weight", .int v 0), ("depends_on", .int y 0), ("stream_id", .int x 0), ("self", .ref pt)]))
      walk_at "m_st"
      rename St _ _ _ _ => S7
      rw [upd_join, upd_upd] at S7
      have d3 : Dj F G1 := d1.sub ((Sub.refl F).fresh fl)
      have g1L := d1.has (upd_self ..)
      have t10 := t1
      (refine Mine.el_EEEAAAAAA (t1.split (d3.l (o := .ns [(("new_parent" : Str), Value.ref (D' y)), ("current_stream", Value.ref (P.D x)), ("exclusive", .bool ex), ("weight", .int v 0), ("depends_on", .int y 0), ("stream_id", .int x 0), ("self", .ref pt)]) g1L)) fun P1 dd1 Gt1 p1 f11 f21 zq0 dj2 ej1 eD1 => ?_; clear zq0)
      have ex1 : P.D x = D' x := eDx.trans (e1 x xk).symm
      rw [ej1] at S7
      refine cycle_spec (P := P1) (x := x) (y := y) (eD1 y ((p1.ks y).mpr ⟨_, hy⟩)).symm (by rw [ex1]; exact (eD1 x ((p1.ks x).mpr ⟨_, hx⟩)).symm) S7 (by walk_at "m_R") hh (((frL _).fresh f11).fresh (upd_other p1.ne.symm f21)) dj2 p1.tree ⟨_, hx⟩ hy hy0 hp dp hdp hlt ?_
      intro s8 S8
      clear S7
      rw [← ej1] at S8
      have hLj := join_l (G := G1) (upd_self F L (.ns [(("new_parent" : Str), Value.ref (D' y)), ("current_stream", Value.ref (P.D x)), ("exclusive", .bool ex), ("weight", .int v 0), ("depends_on", .int y 0), ("stream_id", .int x 0), ("self", .ref pt)]))
      walk_at "m_st"
      rename St _ _ _ _ => S9
      rw [upd_join, upd_upd] at S9
      have ec : cyc M1 x 100 y = cy := by rw [hcy, decide_eq_true hy0]; rfl
      rw [ec, ex1] at S9
      exact .mk D' G1 _ e1 d3 g1L t10 S9
    · rename St _ _ _ _ => S3
      have hy0 : y = 0 := by first | assumption | omega
      (refine Mine.el_AA (hg.resolve_right fun z => z.1 hy0) fun zq0 zq1 zq2 => ?_; clear zq0; (first | subst zq1 | cases zq1); (first | subst zq2 | cases zq2))
      have ec : cy = false := by rw [hcy, decide_eq_false (fun z => z hy0)]; rfl
      refine .mk D G _ (fun _ _ => rfl) dj gl t00 (S3.sub ?_ (frL _).join)
      rw [ec, ← eDx, show D y = P.D 0 by rw [hy0, eD0], ← upd_join]
      walk_at "m_sub"
  cases hq5
  rename_i D1 G1 e1 d1 g1L tD1 S5
  clear S2
  (refine Mine.el_EEEAAAAAA (tD1.split (d1.l (o := .ns [(("cycle" : Str), Value.bool cy), ("new_parent", .ref (D1 y)), ("current_stream", .ref (D1 x)), ("exclusive", .bool ex), ("weight", .int v 0), ("depends_on", .int y 0), ("stream_id", .int x 0), ("self", .ref pt)]) g1L)) fun P1 dd1 Gt1 p1 f11 f21 zq0 dj2 ej1 eD1 => ?_; clear zq0)
  have xk1 := (p1.ks x).mpr ⟨_, hx⟩
  have yk1 := (p1.ks y).mpr ⟨_, hy⟩
  rw [ej1] at S5
  clear ej1
  rw [← eD1 y yk1, ← eD1 x xk1] at S5 dj2
  have f1L := none_ne f21
  have p1L := none_ne f11
  (refine Mine.el_E (show ∃ NS : List (Str × Value), NS = [(("cycle" : Str), Value.bool cy), ("new_parent", .ref (P1.D y)), ("current_stream", .ref (P1.D x)), ("exclusive", .bool ex), ("weight", .int v 0), ("depends_on", .int y 0), ("stream_id", .int x 0), ("self", .ref pt)] from ⟨_, rfl⟩) fun NS hNS => ?_)
  rw [← hNS] at S5 dj2
  (refine Mine.el_E (show ∃ FP, FP = upd (upd (upd F L (.ns NS)) pt (.inst 347 (pfl P1 dd1))) dd1 (.imap (pdict P1 ks1)) from ⟨_, rfl⟩) fun FP hFP => ?_)
  rw [← hFP] at S5 dj2
  have hLF : FP L = some (.ns NS) := by rw [hFP]; exact upd_other f1L.symm (upd_other p1L.symm (upd_self ..))
  have frP : Frs ev FP := by
    rw [hFP]
    exact ((frL _).fresh (upd_other p1L (none_up f11))).fresh (upd_other p1.ne.symm (upd_other f1L (none_up f21)))
  rw [hNS] at hLF
  clear hNS
  have hLj := join_l (G := Gt1) hLF
  have hxj := join_r dj2 (p1.tree.inst x _ hx)
  have kx : FP (P1.D x) = none := dj2 _ _ (p1.tree.inst x _ hx)
  walk_at "m_sf"
  rename St _ _ _ _ => S6
  have t2 := p1.tree.set (n' := { nx with wt := v }) hx rfl rfl
  have d2 := dj2.r (o := .inst 246 (flds P1 x { nx with wt := v })) kx
  have S7 := S6.sub (H := join FP (upd Gt1 (P1.D x) (.inst 246 (flds P1 x { nx with wt := v })))) (by
    rw [← upd_join_r kx]
    walk_at "m_sub") frP.join
  clear S6
  rw [← setw_eq hx] at t2
  generalize upd Gt1 (P1.D x) (.inst 246 (flds P1 x { nx with wt := v })) = G2 at t2 d2 S7
  (refine Mine.el_E (show ∃ M2, M2 = setw M1 x v from ⟨_, rfl⟩) fun M2 hM2 => ?_)
  rw [← hM2] at t2
  have bd2 : Bd 50 M2 := by
    rw [hM2, setw_eq hx]
    exact bd.put (m := { nx with wt := v }) (Nat.le_refl _) (bd.kl x nx hx) (bd.ql x nx hx) (bd.kx x nx hx) (bd.qx x nx hx)
  have hM2x : M2 x = some { nx with wt := v } := by rw [hM2, setw_eq hx]; exact Mo.put_self ..
  have hM2y : M2 y = some ny := by rw [hM2, setw_eq hx]; exact (Mo.put_ne hyx).trans hy
  have kd2 : ∀ k, kidsOf M2 k = kidsOf M1 k := fun k => by rw [hM2, setw_eq hx]; exact kidsOf_put (m := { nx with wt := v }) hx rfl k
  have pr2 : ∀ k, parOf M2 k = parOf M1 k := fun k => by rw [hM2, setw_eq hx]; exact parOf_put (m := { nx with wt := v }) hx rfl k
  have sm2 : Same M1 M2 := by rw [hM2]; exact Same.setw _ _ _
  have hpx2 : parOf M2 x = some px := by rw [pr2, parOf_eq hx]; exact hpx
  (refine Mine.el_E hpd fun dpx hdpx => ?_; (try clear hpd))
  (refine Mine.el_E ((sm2 px).mp ⟨_, hdpx⟩) fun dpx2 hdpx2 => ?_)
  (refine Mine.el_E (show ∃ M4, M4 = if cy then lift M2 x y else M2 from ⟨_, rfl⟩) fun M4 hM4 => ?_)
  have f4 : Bd 51 M4 ∧ Same M2 M4 ∧ parOf M4 x = some px ∧ x ∈ kidsOf M4 px ∧ ∀ k ∈ kidsOf M4 x, k ∈ nx.kids := by
    rw [hM4]
    cases cy with
    | false => exact ⟨bd2.mono (by decide), Same.refl _, hpx2, by rw [if_neg (by decide), kd2]; exact hxk, fun k hk => by rw [if_neg (by decide), kidsOf_eq hM2x] at hk; exact hk⟩
    | true =>
      (refine Mine.el_EEAAAAA (hcc rfl) fun py dpy hpy hdpy hpyy hypx hyk hyn => ?_)
      have e1 : lift M2 x y = adopt (remv M2 py y) px y := by
        unfold lift
        rw [hpx2, pr2, parOf_eq hy, hpy]
        unfold rmc
        rw [if_pos rfl, kidsOf_eq hM2y, hyn]
        rfl
      rw [if_pos rfl, e1]
      (refine Mine.el_E ((Same.remv M2 py y px).mp ⟨_, hdpx2⟩) fun px3 hpx3 => ?_)
      (refine Mine.el_E ((Same.remv M2 py y y).mp ⟨_, hM2y⟩) fun y3 hy3 => ?_)
      refine ⟨bd2.remv.adopt, (Same.remv _ _ _).trans (Same.adopt _ _ _), ?_, ?_, fun k hk => ?_⟩
      · rw [parOf_adopt (Ne.symm hyx), parOf_remv]; exact hpx2
      · rw [kidsOf_adopt hpx3 hy3, if_pos rfl, kidsOf_remv]
        refine List.mem_append_left _ ?_
        split
        · exact (List.mem_erase_of_ne (Ne.symm hyx)).mpr (by rw [kd2]; exact hxk)
        · rw [kd2]; exact hxk
      · rw [kidsOf_adopt hpx3 hy3, if_neg (Ne.symm hxp), kidsOf_remv] at hk
        rw [← kidsOf_eq hx, ← kd2]
        split at hk
        · exact List.mem_of_mem_erase hk
        · exact hk
  refine wpAny_mono (Q := RpMid2 c FP ev P1 (if cy then lift M2 x y else M2)) ?_ (fun f s8 hq8 => ?_) (fun _ _ z => z)
  · have hLj := join_l (G := G2) hLF
    cases cy with
    | false =>
      walk_at "m_st"
      rename St _ _ _ _ => S8
      exact .mk P1 G2 _ rfl d2 t2 S8
    | true =>
      (refine Mine.el_EEAAAAA (hcc rfl) fun py dpy hpy hdpy hpyy hypx hyk hyn => ?_)
      (refine Mine.el_E ((sm2 py).mp ⟨_, hdpy⟩) fun dp2 hdp2 => ?_)
      have hyj := join_r d2 (t2.inst y _ hM2y)
      have hpj := join_r d2 (t2.inst py _ hdp2)
      rw [show flds P1 y ny = flds P1 y { ny with par := some py } by rw [← hpy]] at hyj
      walk_at "m_st"
      rename St _ _ _ _ => S8
      have ky2 : y ∈ dp2.kids := by rw [← kidsOf_eq hdp2, kd2]; exact hyk
      have w1 := bd2.ql py _ hdp2
      have w2 := bd2.kl py _ hdp2
      have w3 := bd2.kl y _ hM2y
      refine wpAny_call ?_
      refine remove_child_spec (b := true) (.inl ⟨rfl, rfl⟩) S8 (by walk_at "m_R") (by exact hh) frP d2 t2 hdp2 hM2y (Ne.symm hpyy) (by first | decide | omega) (by first | decide | omega) (by first | decide | omega) (bd2.qx py _ hdp2) (bd2.kx py _ hdp2) ky2 (fun k hk => by rw [hyn] at hk; cases hk) ?_
      intro P3 G3 s9 e3 d3 t3 S9
      clear S8
      have eR : rmc M2 py y true = remv M2 py y := by
        unfold rmc
        rw [if_pos rfl, kidsOf_eq hM2y, hyn]
        rfl
      have eL : lift M2 x y = adopt (remv M2 py y) px y := by
        unfold lift
        rw [hpx2, pr2, parOf_eq hy, hpy]
        show adopt (rmc M2 py y true) px y = _
        rw [eR]
      rw [eR] at t3
      have bd3 : Bd 50 (remv M2 py y) := bd2.remv
      (refine Mine.el_E ((Same.remv M2 py y px).mp ⟨_, hdpx2⟩) fun px3 hpx3 => ?_)
      (refine Mine.el_E ((Same.remv M2 py y y).mp ⟨_, hM2y⟩) fun y3 hy3 => ?_)
      (refine Mine.el_E ((Same.remv M2 py y x).mp ⟨_, hM2x⟩) fun x3 hx3 => ?_)
      have hpx3' : x3.par = some px := by rw [← parOf_eq hx3, parOf_remv]; exact hpx2
      have hLj3 := join_l (G := G3) hLF
      have hxj3 := join_r d3 (t3.inst x _ hx3)
      have hpj3 := join_r d3 (t3.inst px _ hpx3)
      rw [show flds P3 x x3 = flds P3 x { x3 with par := some px } by rw [← hpx3'], e3] at hxj3
      walk_at "m_st"
      rename St _ _ _ _ => S10
      have w4 := bd3.ql px _ hpx3
      have w5 := bd3.kl px _ hpx3
      refine add_child_at (P := P3) rfl (congrFun e3.symm y) S10 (by walk_at "m_R") frP d3 t3 hpx3 hy3 hypx (by first | decide | omega) (by first | decide | omega) (bd3.qx px _ hpx3) ?_
      intro G4 s11 d4 t4 S11
      clear S10
      walk_at "m_st"
      rename St _ _ _ _ => S12
      rw [if_pos rfl, eL]
      exact .mk P3 G4 _ e3 d4 t4 S12
  rw [← hM4] at hq8
  cases hq8
  rename_i P4 G4 e4 d4 t4 S8
  clear S7
  (refine Mine.el_AAAA f4 fun bd4 sm4 hpx4 hxk4 hkx4 => ?_; (try clear f4))
  (refine Mine.el_E ((sm4 x).mp ⟨_, hM2x⟩) fun x4 hx4 => ?_)
  (refine Mine.el_E ((sm4 px).mp ⟨_, hdpx2⟩) fun px4 hdx4 => ?_)
  have hpx4' : x4.par = some px := by rw [← parOf_eq hx4]; exact hpx4
  have hLj4 := join_l (G := G4) hLF
  have hxj4 := join_r d4 (t4.inst x _ hx4)
  have hpj4 := join_r d4 (t4.inst px _ hdx4)
  rw [show flds P4 x x4 = flds P4 x { x4 with par := some px } by rw [← hpx4'], e4] at hxj4
  walk_at "m_st"
  rename St _ _ _ _ => S9
  have w1 := bd4.ql px _ hdx4
  have w2 := bd4.kl px _ hdx4
  have w3 := bd4.kl x _ hx4
  rw [kidsOf_eq hdx4] at hxk4
  rw [kidsOf_eq hx4] at hkx4
  refine wpAny_call ?_
  refine remove_child_spec (P := P4) (i := px) (j := x) (b := false) (.inr ⟨by rw [e4]; rfl, rfl⟩) S9 (by walk_at "m_R") (by exact hh) frP d4 t4 hdx4 hx4 (Ne.symm hxp) (by first | decide | omega) (by first | decide | omega) (by first | decide | omega) (bd4.qx px _ hdx4) (bd4.kx px _ hdx4) hxk4 (fun k hk => ⟨(hkk k (hkx4 k hk)).1, (hkk k (hkx4 k hk)).2, bd4.kx x _ hx4 k hk⟩) ?_
  intro P5 G5 s10 e5 d5 t5 S10
  clear S9
  have eM5 : rmc M4 px x false = repri1 M1 x y v cy := by
    unfold repri1
    rw [parOf_eq hx, hpx, ← hM2, hM4]
    rfl
  have bd5 : Bd 51 (rmc M4 px x false) := bd4.remv
  rw [eM5] at t5 bd5
  have sm5 : Same M1 (repri1 M1 x y v cy) := by rw [← eM5]; exact (sm2.trans sm4).trans (Same.rmc _ _ _ _)
  (refine Mine.el_E ((sm5 y).mp ⟨_, hy⟩) fun y5 hy5 => ?_)
  (refine Mine.el_E ((sm5 x).mp ⟨_, hx⟩) fun x5 hx5' => ?_)
  rw [kidsOf_eq hy5] at hx5
  have e51 : P5.D = P1.D := e5.trans e4
  have hLj5 := join_l (G := G5) hLF
  have hxj5 := join_r d5 (t5.inst x _ hx5')
  have hyj5 := join_r d5 (t5.inst y _ hy5)
  rw [e51] at hxj5 hyj5
  have v1 := bd5.ql y _ hy5
  have v2 := bd5.kl y _ hy5
  have v3 := bd5.ql x _ hx5'
  have v4 := bd5.kl x _ hx5'
  have sF : Sub (upd (upd F pt (.inst 347 (pfl P1 dd1))) dd1 (.imap (pdict P1 ks1))) FP := by
    rw [hFP]
    exact (((Sub.refl F).fresh fl).upd2 (.inl rfl)).upd2 (.inl rfl)
  cases ex with
  | true =>
    walk_at "m_st"
    rename St _ _ _ _ => S11
    refine addx_spec (P := P5) (congrFun e51.symm y) (congrFun e51.symm x) S11 (by walk_at "m_R") (by exact hh) frP d5 t5 hy5 hx5' (Ne.symm hyx) (by first | decide | omega) (by first | decide | omega) (by first | decide | omega) (bd5.qx x _ hx5') (fun k hk => ⟨fun z => hx5 (z ▸ hk), bd5.kx y _ hy5 k hk⟩) ?_
    intro P6 G6 s12 e6 d6 t6 S12
    clear S11
    walk_at "m_st"
    rename St _ _ _ _ => S13
    (refine Mine.el_AA (PTreeD.back p1 (none_up f11) (none_up f21) (d6.sub sF) t6 (e6.trans e51) (sm5.trans (Same.adoptX _ _ _)) eD1) fun b1 b2 b3 => ?_)
    refine k D1 _ _ e1 b2 b1 (S13.sub ?_ fF.join)
    rw [← b3]
    exact sub_join d6 sF
  | false =>
    walk_at "m_st"
    rename St _ _ _ _ => S11
    refine add_child_at (P := P5) (congrFun e51.symm y) (congrFun e51.symm x) S11 (by walk_at "m_R") frP d5 t5 hy5 hx5' (Ne.symm hyx) (by first | decide | omega) (by first | decide | omega) (bd5.qx y _ hy5) ?_
    intro G6 s12 d6 t6 S12
    clear S11
    walk_at "m_st"
    rename St _ _ _ _ => S13
    (refine Mine.el_AA (PTreeD.back p1 (none_up f11) (none_up f21) (d6.sub sF) t6 e51 (sm5.trans (Same.adopt _ _ _)) eD1) fun b1 b2 b3 => ?_)
    refine k D1 _ _ e1 b2 b1 (S13.sub ?_ fF.join)
    rw [← b3]
    exact sub_join d6 sF
end
end
section
section
variable {w : World} {c : Cx PySem.Challenge.rw_bd0031_06.row.prog w (MineTop.hd.heap_39 w.params)} {envs : List Env} {F G H : AH} {A : Around} {E Q : Value → Shared → Prop} {s : Shared}
theorem remove_spec {D : Int → Nat} {M : Mo} {ks : List Int} {pt : Nat} {x px : Int} {tk : Tok} {nx : Nd} (S : St c envs (join F G) s) (R : Rm A 30 300) (hh : A.handled = none) (fF : Frs envs F) (dj : Dj F G) (t : PTreeD 246 347 D M ks pt G)
    (hx0 : x ≠ 0) (hks : ks.length ≤ 900) (bd : Bd 50 M) (hx : M x = some nx) (hpx : nx.par = some px) (hpd : ∃ d, M px = some d) (hxk : x ∈ kidsOf M px) (hxp : px ≠ x) (hkk : ∀ k ∈ nx.kids, k ≠ px ∧ k ≠ x)
    (k : ∀ G' s', Dj F G' → PTreeD 246 347 D ((rmc M px x true).del x) (without1 x ks) pt G' → St c envs (join F G') s' → Q .none s') :
    wpAny (model PySem.Challenge.rw_bd0031_06.row.prog w) A (call (.ref 309) [.ref pt, .int x tk]) Q E s := by
  (refine Mine.el_EEEAAAAAA (t.split dj) fun P dd Gt p f1 f2 d0 dj1 ej eD => ?_)
  rw [ej] at S
  (refine Mine.el_E hpd fun dpx hdpx => ?_; (try clear hpd))
  have hpt := join_l (G := Gt) (upd_other p.ne (upd_self ..) : upd (upd F pt (.inst 347 (pfl P dd))) dd (.imap (pdict P ks)) pt = _)
  have hdd := join_l (G := Gt) (upd_self (upd F pt (.inst 347 (pfl P dd))) dd (.imap (pdict P ks)))
  have hlx : (pdict P ks).lookup x = some (.ref (P.D x)) := pdict_get ((p.ks x).mpr ⟨_, hx⟩)
  have hll : (pdict P ks).length = ks.length := pdict_len
  have hxj := join_r dj1 (p.tree.inst x _ hx)
  have hpj := join_r dj1 (p.tree.inst px _ hdpx)
  rw [show flds P x nx = flds P x { nx with par := some px } by rw [← hpx]] at hxj
  have ndx : dd ≠ P.D x := ne_kind hdd hxj (by intro z; (exact Mine.tag_ne z rfl))
  have ndp : dd ≠ P.D px := ne_kind hdd hpj (by intro z; (exact Mine.tag_ne z rfl))
  refine wpAny_call ?_
  k_dflt refine' code_fn (l := [("stream_id", Value.int x 0), ("self", Value.ref pt)]) S R ?k1 ?k2 ?k3 ?k4 ?_ ?k6 ?k7 ?k8 ?k9 ?k10
  walk_at "m_in"
  intro L s1 hL S1
  clear S
  refine hideQ ?_
  intro QF hQF
  refine hideE ?_
  intro EF hEF
  (try dsimp only)
  have n1 : L ≠ pt := Ne.symm (ne_fresh hL hpt)
  have n2 : L ≠ dd := Ne.symm (ne_fresh hL hdd)
  have n3 : L ≠ P.D x := Ne.symm (ne_fresh hL hxj)
  have n4 : L ≠ P.D px := Ne.symm (ne_fresh hL hpj)
  walk_at "m_st"
  refine wpAny_Try_except ?_
  walk_at "m_st"
  rename St _ _ _ _ => S2a
  (refine Mine.el_EA S2a.env fun ev hev S2 => ?_)
  clear S2a
  rw [kdel_pdict] at S2
  have hL0 : join F Gt L = none := by
    rw [← upd_join, ← upd_join] at hL
    exact none_up (none_up hL)
  (refine Mine.el_A (join_none hL0) fun fl gl => ?_)
  (refine Mine.el_E (show ∃ FQ, FQ = upd (upd (upd F pt (.inst 347 (pfl P dd))) dd (.imap (pdict P (without1 x ks)))) L (.ns [(("parent" : Str), Value.ref (P.D px)), ("child", .ref (P.D x)), ("stream_id", .int x 0), ("self", .ref pt)]) from ⟨_, rfl⟩) fun FQ hFQ => ?_)
  have frQ : Frs ev FQ := by
    rw [hFQ, hev]
    exact Frs.cons (((fF.fresh f1).fresh (upd_other p.ne.symm f2)).fresh (upd_other n2 (upd_other n1 fl))) (upd_self ..) rfl (fun z => absurd z (show ScopeKind.function ≠ .module by decide))
  have S3 := S2.sub (H := join FQ Gt) (by
    rw [hFQ, ← upd_join, ← upd_join, ← upd_join, ← upd_join, ← upd_join]
    walk_at "m_sub") frQ.join
  clear S2
  have dQ : Dj FQ Gt := by
    rw [hFQ]
    exact ((d0.l p.pn).l p.dn).l gl
  have w1 := bd.ql px _ hdpx
  have w2 := bd.kl px _ hdpx
  have w3 := bd.kl x _ hx
  rw [kidsOf_eq hdpx] at hxk
  refine wpAny_call ?_
  refine remove_child_spec (P := P) (i := px) (j := x) (b := true) (.inl ⟨rfl, rfl⟩) S3 (by walk_at "m_R") (by exact hh) frQ dQ p.tree hdpx hx (Ne.symm hxp) (by first | decide | omega) (by first | decide | omega) (by first | decide | omega) (bd.qx px _ hdpx) (bd.kx px _ hdpx) hxk (fun k hk => ⟨(hkk k hk).1, (hkk k hk).2, bd.kx x _ hx k hk⟩) ?_
  intro P5 G5 s5 e5 d5 t5 S5
  clear S3
  have hLQ : FQ L = some (.ns [(("parent" : Str), Value.ref (P.D px)), ("child", .ref (P.D x)), ("stream_id", .int x 0), ("self", .ref pt)]) := by rw [hFQ]; exact upd_self ..
  walk_at "m_st"
  (try dsimp only)
  rename St _ _ _ _ => S6
  have sF : Sub (upd (upd F pt (.inst 347 (pfl P dd))) dd (.imap (pdict P (without1 x ks)))) FQ := by
    rw [hFQ]
    exact (Sub.refl _).fresh (upd_other n2 (upd_other n1 fl))
  (refine Mine.el_AA (PTreeD.gone p f1 f2 (d5.sub sF) t5 e5 (Same.rmc _ _ _ _) eD) fun b1 b2 b3 => ?_)
  refine k _ _ b2 b1 (S6.sub ?_ fF.join)
  rw [← b3]
  exact sub_join d5 sF
end
end
set_option hygiene false in
local macro_rules | `(tactic| walk_at "eval Name") => `(tactic| (walk_at "q"; k_dflt first
  | (refine nmc ymS (by exact rfl) (by walk_at "m_H") ?_; walk_at "m_er")
  | (refine nmf ymS (by exact rfl) (by walk_at "m_H") ?_; walk_at "m_er")))
set_option hygiene false in
local macro_rules | `(tactic| walk_at "storeName") => `(tactic| (walk_at "q"; k_dflt (refine stc ymS (by exact rfl) (by walk_at "m_H") (by walk_at "m_val") ?_; walk_at "i")))
set_option hygiene false in
local macro_rules | `(tactic| walk_at "eval ListComp") => `(tactic| (k_dflt (refine comp_eval (by with_unfolding_all rfl) (by rfl) (by decide) ?_)))
set_option hygiene false in
local macro_rules | `(tactic| walk_at "call type:range") => `(tactic| (walk_at "q"; first
  | (refine mk_range1 ymS ?_; intro yr yt yu yv ys' yhr yS'; clear ymS)
  | (refine mk_range2 ymS ?_; intro yr yt yu yv ys' yhr yS'; clear ymS)
  | (refine mk_range3 ymS (by first | decide | omega) (by first | decide | omega) ?_; intro yr yt yu yv ys' yhr yS'; clear ymS)))
set_option hygiene false in
local macro_rules | `(tactic| walk_at "compareOp NotEq ref ref") => `(tactic| (walk_at "q"; k_dflt (refine ne_nil ymS (by walk_at "m_H") (by walk_at "m_H") (by exact Rm.line (by assumption)) ?_)))
set_option hygiene false in
local macro_rules | `(tactic| walk_at "m_sc") => `(tactic| w_strict (repeat' (first | ((fail_if_success (with_reducible show wpAny _ _ (call (.ref _) _) _ _ _)); walk_at "m_nt"; walk_at "m_w1") | walk_at "m_uh")))
section
section
variable {w : World} {c : Cx PySem.Challenge.rw_bd0031_06.row.prog w (MineTop.hd.heap_39 w.params)} {envs : List Env} {F G H : AH} {A : Around} {E Q : Value → Shared → Prop} {s : Shared} {M : Mo} {D : Int → Prop} {P : Int → Option Int} {C : Int → Bool} {ks nums : List Int} {pt : Nat}
end
end
section
section
variable {w : World} {c : Cx PySem.Challenge.rw_bd0031_06.row.prog w (MineTop.hd.heap_39 w.params)} {envs : List Env} {F G H : AH} {A : Around} {E Q : Value → Shared → Prop} {s : Shared}
theorem anc_pre {P : Int → Option Int} {v u z : Int} (h : P v = some u) (hz : Anc P u z) : Anc P v z := by
  induction hz with
  | one e => exact .more (.one h) e
  | more _ e ih => exact .more ih e
theorem stands_spec {M : Mo} {C : Int → Bool} {ab : Nat} {Ta : Tb} {x y u0 : Int} {tx ty : Tok} (S : St c envs (join F G) s) (R : Rm A 20 200) (hA : A.frames = some envs) (hh : A.handled = none) (fF : Frs envs F) (dj : Dj F G)
    (hab : F ab = some (.imap (iV Ta))) (T : T6 M Ta C) (hy : Ta.lookup y = some u0) (hx0 : x ≠ 0)
    (k : ∀ b s', (b = true ↔ Anc (fun j => Ta.lookup j) y x) → St c envs (join F G) s' → Q (.bool b) s') :
    wpAny (model PySem.Challenge.rw_bd0031_06.row.prog w) A (call (.ref 358) [.ref ab, .int x tx, .int y ty]) Q E s := by
  (refine Mine.el_AEAA T.small fun zq0 rk Rk ok hb => ?_; clear zq0)
  refine wpAny_call ?_
  k_dflt refine' code_fn (l := [("y", Value.int y 0), ("x", .int x 0), ("above", .ref ab)]) S R ?k1 ?k2 ?k3 ?k4 ?_ ?k6 ?k7 ?k8 ?k9 ?k10
  walk_at "m_in"
  intro L s1 hL S1
  clear S
  refine hideQ ?_
  intro QF hQF
  refine hideE ?_
  intro EF hEF
  (try dsimp only)
  (refine Mine.el_A (join_none hL) fun fl gl => ?_)
  have na : ab ≠ L := ne_fresh fl hab
  have e1 : (iV Ta).lookup y = some (.int u0 0) := by rw [lookup_iV, hy]; rfl
  have ga := join_l (G := G) hab
  walk_at "m_st"
  rename St _ _ _ _ => S2a
  (refine Mine.el_EA S2a.env fun ev hev S2 => ?_)
  clear S2a
  rw [upd_join, upd_join, upd_upd] at S2
  have frV : ∀ l, Frs ev (upd F L (.ns l)) := fun l => by
    rw [hev]
    exact Frs.cons (fF.fresh fl) (upd_self ..) rfl (fun z => absurd z (show ScopeKind.function ≠ .module by decide))
  have par : ∀ {v u : Int}, Ta.lookup v = some u → (u = 0 ∨ (Ta.lookup u).isSome = true) ∧ rk u > rk v := fun {v u} hv => by
    have h0 := T.x0 (x := v) (by rw [hv]; rfl)
    (refine Mine.el_EEAAA (T.sh.fam.pp h0 h0 ((T.sh.par v h0 h0).trans hv)) fun n d a1 a2 a3 a4 => ?_)
    exact ⟨(T.sh.dom u).mp ⟨d, a3⟩, Rk u d a3 v a4⟩
  refine while_h (fun n s' => ∃ v, n = 10 - rk v ∧ (v = 0 ∨ (Ta.lookup v).isSome = true) ∧ ((v = x ∨ Anc (fun j => Ta.lookup j) v x) ↔ Anc (fun j => Ta.lookup j) y x) ∧ St c ev (join (upd F L (.ns [("v", .int v 0), ("y", .int y 0), ("x", .int x 0), ("above", .ref ab)])) G) s') ?_ _ ⟨u0, rfl, (par hy).1, ⟨fun h => ?_, fun h => ?_⟩, S2⟩
  rotate_left
  · rcases h with h | h
    · rw [← h]; exact .one hy
    · exact anc_pre hy h
  · rcases h.step hy with h | h
    · exact .inl h.symm
    · exact .inr h
  clear S2
  rintro n s4 ⟨v, rfl, hvk, hv, S4⟩ QB QE EE hQB hQE hEE
  have gL := join_l (G := G) (upd_self F L (.ns [(("v" : Str), Value.int v 0), ("y", .int y 0), ("x", .int x 0), ("above", .ref ab)]))
  have ga := join_l (G := G) (upd_other na hab : upd F L (.ns [(("v" : Str), Value.int v 0), ("y", .int y 0), ("x", .int x 0), ("above", .ref ab)]) ab = _)
  have fin : ∀ (b : Bool) s', (b = true ↔ v = x) → (v = 0 ∨ v = x) → St c ev (join (upd F L (.ns [("v", .int v 0), ("y", .int y 0), ("x", .int x 0), ("above", .ref ab)])) G) s' → Q (.bool b) s' := fun b s' hb h01 S5 => by
    refine k b s' ?_ (S5.sub (sub_join (dj.l gl) ((Sub.refl F).fresh fl)) fF.join)
    rw [hb, ← hv]
    refine ⟨.inl, fun h => ?_⟩
    rcases h with h | h
    · exact h
    · rcases h01 with z | z
      · rw [z] at h; exact absurd h (T.no0 x)
      · exact z
  by_cases hv0 : v = 0
  · walk_at "m_st"
    all_goals first | (exfalso; contradiction) | skip
    all_goals
      rename St _ _ _ _ => S5
      exact fin _ _ (by simp) (.inl hv0) S5
  · (refine Mine.el_E (Option.isSome_iff_exists.mp (hvk.resolve_left hv0)) fun u hu => ?_)
    have e4 : (iV Ta).lookup v = some (.int u 0) := by rw [lookup_iV, hu]; rfl
    by_cases hvx : v = x
    · walk_at "m_st"
      all_goals first | (exfalso; contradiction) | skip
      all_goals
        rename St _ _ _ _ => S5
        exact fin _ _ (by simp) (.inr hvx) S5
    · walk_at "m_st"
      all_goals first | (exfalso; contradiction) | skip
      all_goals
        rename St _ _ _ _ => S5
        (refine Mine.el_A (par hu) fun p1 p2 => ?_)
        have r1 := hb u
        refine ⟨10 - rk u, by omega, u, rfl, p1, ?_, S5.sub ?_ (frV _).join⟩
        · rw [← hv]
          constructor
          · intro h
            refine .inr ?_
            rcases h with h | h
            · rw [← h]; exact .one hu
            · exact anc_pre hu h
          · intro h
            rcases (h.resolve_left hvx).step hu with h | h
            · exact .inl h.symm
            · exact .inr h
        · rw [← upd_upd F L (.ns [("v", .int v 0), ("y", .int y 0), ("x", .int x 0), ("above", .ref ab)]), ← upd_join]
          walk_at "m_sub"
end
end
section
inductive R6 (ks : List Int) (pt : Nat) (A : Tb) (act : Int → Bool) (P : List (Str × Value) → Prop) (l : List (Str × Value)) (G : AH) : Prop
  | mk (M : Mo) (t : PTree 246 347 M ks pt G) (T : T6 M A act) (hl : P l) : R6 ks pt A act P l G
structure N6 (pt qc : Nat) (l : List (Str × Value)) : Prop where
  ht : l.lookup ("tree" : Str) = some (.ref pt)
  hc : l.lookup ("streams" : Str) = some (.ref qc)
structure N6t (pt qc r : Nat) (l : List (Str × Value)) : Prop where
  hn : N6 pt qc l
  hr : l.lookup ("told" : Str) = some (.ref r)
inductive R6t (ks : List Int) (pt r : Nat) (A : Tb) (act : Int → Bool) (Ma : Mo) (P : List (Str × Value) → Prop) (i : Nat) (l : List (Str × Value)) (G : AH) : Prop
  | mk (M : Mo) (Gt : AH) (ts : List Int) (e : G = upd Gt r (.list (intsV ts))) (hr : Gt r = none) (t : PTree 246 347 M ks pt Gt) (T : T6 M A act) (tk : Tk Ma ts M) (hi : ts.length = i) (hl : P l) : R6t ks pt r A act Ma P i l G
theorem ints_at {l : List Int} {i : Nat} {y : Value} (h : (intsV l)[i]? = some y) : ∃ x, l[i]? = some x ∧ y = .int x 0 := by
  unfold intsV at h
  rw [List.getElem?_map] at h
  (refine Mine.el_EA (Option.map_eq_some_iff.mp h) fun x h1 h2 => ?_)
  exact ⟨x, h1, h2.symm⟩
theorem take_act {l : List Int} {i : Nat} {x j : Int} (h : l[i]? = some x) : (if j = x then true else decide (j ∈ l.take i)) = decide (j ∈ l.take (i + 1)) := by
  (refine Mine.el_E (List.getElem?_eq_some_iff.mp h) fun hi zq0 => ?_; (first | subst zq0 | cases zq0))
  rw [List.take_succ_eq_append_getElem hi]
  by_cases q : j = l[i]
  · rw [if_pos q, decide_eq_true (List.mem_append_right _ (by rw [q]; exact .head _))]
  · rw [if_neg q, decide_eq_decide, List.mem_append, List.mem_singleton]
    exact ⟨.inl, fun h => h.resolve_right q⟩
theorem drop_act {l : List Int} {i : Nat} {x j : Int} (nd : l.Nodup) (h : l[i]? = some x) : (if j = x then false else decide (j ∈ l.drop i)) = decide (j ∈ l.drop (i + 1)) := by
  (refine Mine.el_E (List.getElem?_eq_some_iff.mp h) fun hi zq0 => ?_; (first | subst zq0 | cases zq0))
  have e := List.drop_eq_getElem_cons hi
  have n2 := nd.sublist (List.drop_sublist i l)
  rw [e, List.nodup_cons] at n2
  by_cases q : j = l[i]
  · rw [if_pos q, q, decide_eq_false n2.1]
  · rw [if_neg q, e, decide_eq_decide, List.mem_cons]
    exact ⟨fun h => h.resolve_left q, .inr⟩
theorem intsV_app {l : List Int} {x : Int} : intsV l ++ [.int x 0] = intsV (l ++ [x]) := by
  unfold intsV
  rw [List.map_append]; rfl
theorem Dj.swap {F G : AH} {r : Nat} {o o' : AO} (d : Dj F (upd G r o)) (h : G r = none) : Dj (upd F r o') G := fun a x e => by
  have n : a ≠ r := fun z => by rw [z, h] at e; (exact Mine.no_ns e)
  exact (upd_ne n).trans (d a x ((upd_ne n).trans e))
theorem join_r_l {F G : AH} {r : Nat} {o : AO} (f : F r = none) : join F (upd G r o) = join (upd F r o) G := by rw [← upd_join_r f, upd_join]
section
variable {w : World} {c : Cx PySem.Challenge.rw_bd0031_06.row.prog w (MineTop.hd.heap_39 w.params)} {envs : List Env} {F G H : AH} {A : Around} {E Q : Value → Shared → Prop} {s : Shared}
theorem T6.node {M : Mo} {Ta : Tb} {C : Int → Bool} {x : Int} (T : T6 M Ta C) (h : (Ta.lookup x).isSome = true) : x ≠ 0 ∧ ∃ n, M x = some n := ⟨T.x0 h, (T.sh.dom x).mpr (.inr h)⟩
theorem turns_spec {M : Mo} {ks S0 : List Int} {pt qc : Nat} {Ta : Tb} (S : St c envs (join F G) s) (R : Rm A 300 2800) (hA : A.frames = some envs) (hh : A.handled = none) (fF : Frs envs F) (dj : Dj F G) (t : PTree 246 347 M ks pt G)
    (hq : F qc = some (.list (intsV S0))) (hlen : S0.length ≤ 5) (hne : S0 ≠ []) (nd : S0.Nodup) (hS : ∀ z ∈ S0, (Ta.lookup z).isSome = true) (T : T6 M Ta fun _ => false)
    (k : ∀ ts Ma M3 M' G' r s', T6 Ma Ta (fun j => decide (j ∈ S0)) → Tk Ma ts M3 → ts.length = 3 → T6 M' Ta (fun _ => false) → F r = none → Dj (upd F r (.list (intsV ts))) G' → PTree 246 347 M' ks pt G' → St c envs (join (upd F r (.list (intsV ts))) G') s' → Q (.ref r) s') :
    wpAny (model PySem.Challenge.rw_bd0031_06.row.prog w) A (call (.ref 365) [.ref pt, .ref qc]) Q E s := by
  refine wpAny_call ?_
  k_dflt refine' code_fn (l := [("streams", Value.ref qc), ("tree", Value.ref pt)]) S R ?k1 ?k2 ?k3 ?k4 ?_ ?k6 ?k7 ?k8 ?k9 ?k10
  walk_at "m_in"
  intro L s1 hL S1
  clear S
  refine hideQ ?_
  intro QF hQF
  refine hideE ?_
  intro EF hEF
  (try dsimp only)
  (refine Mine.el_A (join_none hL) fun fl gl => ?_)
  have nq : qc ≠ L := ne_fresh fl hq
  walk_at "m_st"
  refine wpAny_For ?_
  walk_at "m_st"
  rename St _ _ _ _ => S2a
  (refine Mine.el_EA S2a.env fun ev hev S2 => ?_)
  clear S2a
  rw [upd_join] at S2
  (refine Mine.el_E (show ∃ F1, F1 = upd F L (.ns [(("streams" : Str), Value.ref qc), ("tree", .ref pt)]) from ⟨_, rfl⟩) fun F1 hF1 => ?_)
  have fr1 : Frs ev F1 := by
    rw [hF1, hev]
    exact Frs.cons (fF.fresh fl) (upd_self ..) rfl (fun z => absurd z (show ScopeKind.function ≠ .module by decide))
  rw [← hF1] at S2
  have dj1 : Dj F1 G := by rw [hF1]; exact dj.l gl
  have hL1 : F1 L = some (.ns [(("streams" : Str), Value.ref qc), ("tree", .ref pt)]) := by rw [hF1]; exact upd_self ..
  have hq1 : F1 qc = some (.list (intsV S0)) := by rw [hF1]; exact upd_other nq hq
  refine iter_list S2 (join_l hq1) ?_
  intro it s3 hit S3
  clear S2
  refine for_tree (row_list qc (intsV S0)) (fun i l G => R6 ks pt Ta (fun j => decide (j ∈ S0.take i)) (N6 pt qc) l G) S3 hit hL1 fr1 dj1 ⟨M, t, T, ⟨rfl, rfl⟩⟩ (fun i l G _ d => join_l (upd_other nq hq1)) hh ?_ ?_
  · rintro i F2 l' G' s4 y ⟨M', t', T', hl⟩ hx kp hL2 dj2 fr2 S4 QB EB hQB
    (refine Mine.el_EA (ints_at hx) fun x hxi zq0 => ?_; (first | subst zq0 | cases zq0))
    (refine Mine.el_AE (T'.node (hS x (List.mem_of_getElem? hxi))) fun hx0 nx hnx => ?_)
    (refine Mine.el_EEEAAAAA (t'.split dj2) fun P dd Gt p f1 f2 zq0 zq1 ej => ?_; clear zq0; clear zq1)
    have hpt : join F2 G' pt = some (.inst 347 (pfl P dd)) := by rw [ej]; exact join_l (upd_other p.ne (upd_self ..))
    have gL := join_l (G := G') hL2
    have p1 : List.lookup ("tree" : Str) (("x", Value.int x 0) :: l') = some (.ref pt) := hl.ht
    walk_at "m_sc"
    rename St _ _ _ _ => S5
    refine unblock_spec S5 (by walk_at "m_R") fr2 dj2 t' hnx hx0 ?_
    intro G3 s6 dj3 t3 S6
    walk_at "m_st"
    rename St _ _ _ _ => S7
    exact ⟨("x", .int x 0) :: l', G3, ⟨_, t3, (T'.actv (b := true) hx0).congr (fun j _ => take_act hxi) (take_act hxi), ⟨hl.ht, hl.hc⟩⟩, dj3, by rw [upd_id hL2]; exact S7⟩
  · rintro l2 G2 s4 ⟨Ma, t2, T2, hl2⟩ dj2 S4
    clear S3
    have eT : S0.take (intsV S0).length = S0 := by rw [intsV_len, List.take_length]
    rw [eT] at T2
    have hL2 : upd F1 L (.ns l2) L = some (.ns l2) := upd_self ..
    have fr2 := fr1.ns hL1 (l' := l2)
    have gL := join_l (G := G2) hL2
    walk_at "m_st"
    rename St _ _ _ _ => S5
    rename (join _ _ _ = none) => hr
    rename Nat => r
    (refine Mine.el_A (join_none hr) fun fr0 gr0 => ?_)
    rw [upd_join_r fr0] at S5
    have eL : ∀ l, upd (join (upd F1 L (.ns l2)) (upd G2 r (.list []))) L (.ns l) = join (upd F1 L (.ns l)) (upd G2 r (.list [])) := fun l => by rw [upd_join, upd_upd]
    replace S5 := (eL _ ▸ S5 : St c ev (join (upd F1 L (.ns (("told", .ref r) :: l2))) (upd G2 r (.list []))) _)
    have hL3 : upd F1 L (.ns (("told", .ref r) :: l2)) L = some (.ns (("told", .ref r) :: l2)) := upd_self ..
    have hq3 : upd F1 L (.ns (("told", .ref r) :: l2)) qc = some (.list (intsV S0)) := upd_other nq hq1
    have fr3 := fr1.ns hL1 (l' := ("told", .ref r) :: l2)
    have rL : L ≠ r := ne_fresh fr0 hL2
    have f3r : upd F1 L (.ns (("told", .ref r) :: l2)) r = none := by rw [upd_ne (Ne.symm rL)] at fr0 ⊢; exact fr0
    have dj3 : Dj (upd F1 L (.ns (("told", .ref r) :: l2))) (upd G2 r (.list [])) := (dj2.l (dj2.has hL1)).r f3r
    refine wpAny_For ?_
    walk_at "m_st"
    rename St _ _ _ _ => S6
    rename (join _ _ _ = none) => hr2
    refine iter_range1 S6 hr2 3 (by decide) (by decide) (by decide) ?_
    intro it3 s9 hit3 S9
    clear S6
    (refine Mine.el_E (show ∃ F3, F3 = upd F1 L (.ns (("told", .ref r) :: l2)) from ⟨_, rfl⟩) fun F3 hF3 => ?_)
    rw [← hF3] at S9 hit3 hL3 fr3 f3r dj3 hq3
    refine for_tree (row_range 0 1 3) (fun i l G => R6t ks pt r Ta (fun j => decide (j ∈ S0)) Ma (N6t pt qc r) i l G) S9 hit3 hL3 fr3 dj3 ⟨Ma, G2, [], rfl, gr0, t2, T2, .nil, rfl, ⟨⟨hl2.ht, hl2.hc⟩, rfl⟩⟩ (fun _ _ _ _ _ => trivial) hh ?_ ?_
    · rintro i F4 l4 _ s10 y4 ⟨M4, Gt, ts, rfl, hr4, t4, T4, tk4, hi4, hl4⟩ hx4 kp4 hL4 dj4 fr4 S10 QB4 EB4 hQB4
      clear S9
      (refine Mine.el_A (rRow_get hx4) fun hi zq0 => ?_; (first | subst zq0 | cases zq0))
      have f4r : F4 r = none := dj4 r _ (upd_self ..)
      rw [join_r_l f4r] at S10
      (refine Mine.el_EAAAA T4.turn fun rk Rk ok hb tn1 tn2 => ?_)
      (refine Mine.el_EA T4.sh.fam.root fun rr hr0 hra => ?_)
      have dj5 : Dj (upd F4 r (.list (intsV ts))) Gt := dj4.swap hr4
      have fr5 := fr4.fresh f4r (x := .list (intsV ts))
      (refine Mine.el_EEEAAAAA (t4.split dj5) fun P dd Gs p f1 f2 zq0 zq1 ej => ?_; clear zq0; clear zq1)
      have hpt : join (upd F4 r (.list (intsV ts))) Gt pt = some (.inst 347 (pfl P dd)) := by rw [ej]; exact join_l (upd_other p.ne (upd_self ..))
      have hL5 : upd F4 r (.list (intsV ts)) L = _ := upd_other rL hL4
      have gL := join_l (G := Gt) hL5
      have gr := join_l (G := Gt) (upd_self F4 r (.list (intsV ts)))
      have p1 : List.lookup ("tree" : Str) (("k", Value.int (0 + (i : Int) * 1) 0) :: l4) = some (.ref pt) := hl4.hn.ht
      have p2 : List.lookup ("told" : Str) (("k", Value.int (0 + (i : Int) * 1) 0) :: l4) = some (.ref r) := hl4.hr
      walk_at "m_st"
      refine wpAny_Try_except ?_
      walk_at "m_sc"
      rename St _ _ _ _ => S11
      refine next_spec (N := 10) (rk := rk) S11 (by walk_at "m_R") (by rw [hev]; exact Around.frames_deeper hA) (by exact hh) fr5 dj5 t4 ok hr0 (Nat.lt_succ_of_le (hb 0)) hra ?_ ?_
      · intro v x' M5 G5 s12 hv hs dj6 t5 S12
        (refine Mine.el_E (er_int hv) fun tk zq0 => ?_; (first | subst zq0 | cases zq0))
        (refine Mine.el_AAA (tn1 x' M5 hs) fun T5 hx5 zq0 zq1 => ?_; clear zq0; clear zq1)
        clear S11
        have gr5 := join_l (G := G5) (upd_self F4 r (.list (intsV ts)))
        have lz : (intsV ts).length ≤ 3 := by rw [intsV_len]; omega
        walk_at "m_st"
        rename St _ _ _ _ => S13
        rw [intsV_app, upd_join, upd_upd, ← join_r_l f4r] at S13
        have g5r : G5 r = none := dj6.has (upd_self ..)
        exact ⟨("k", .int (0 + (i : Int) * 1) 0) :: l4, upd G5 r (.list (intsV (ts ++ [x']))), ⟨M5, G5, _, rfl, g5r, t5, T5, tk4.snoc hs, by rw [List.length_append, hi4]; rfl, ⟨⟨hl4.hn.ht, hl4.hn.hc⟩, hl4.hr⟩⟩, fun a o h => by
          by_cases q : a = r
          · rw [q]; exact f4r
          · rw [upd_ne q] at h; have := dj6 a o h; rw [upd_ne q] at this; exact this, by rw [upd_id hL4]; exact S13⟩
      · intro e h T0 M5 G5 s12 hs dj6 t5 hn F5
        exfalso
        (refine Mine.el_A (tn2 M5 hs) fun zq0 hz => ?_; clear zq0)
        cases S0 with
        | nil => exact hne rfl
        | cons z S0 =>
          have := hz z (hS z (.head _))
          simp at this
    · rintro l4 _ s10 ⟨M4, Gt, ts, rfl, hr4, t4, T4, tk4, hi4, hl4⟩ dj4 S10
      clear S9
      have f4r : upd F3 L (.ns l4) r = none := (upd_ne (Ne.symm rL)).trans f3r
      rw [join_r_l f4r] at S10
      have dj5 : Dj (upd (upd F3 L (.ns l4)) r (.list (intsV ts))) Gt := Dj.swap (dj4.l (dj4.has hL3)) hr4
      have fr5 := (fr3.ns hL3 (l' := l4)).fresh f4r (x := .list (intsV ts))
      have hL5 : upd (upd F3 L (.ns l4)) r (.list (intsV ts)) L = some (.ns l4) := upd_other rL (upd_self ..)
      have hq5 : upd (upd F3 L (.ns l4)) r (.list (intsV ts)) qc = some (.list (intsV S0)) := upd_other (ne_fresh f3r hq3) (upd_other nq hq3)
      have gL := join_l (G := Gt) hL5
      have p1 := hl4.hn.hc
      walk_at "m_st"
      refine wpAny_For ?_
      walk_at "m_st"
      rename St _ _ _ _ => S11
      refine iter_list S11 (join_l hq5) ?_
      intro it2 s6 hit2 S6
      clear S11
      (refine Mine.el_E (show ∃ F5, F5 = upd (upd F3 L (.ns l4)) r (.list (intsV ts)) from ⟨_, rfl⟩) fun F5 hF5 => ?_)
      rw [← hF5] at S6 hit2 hL5 fr5 dj5 hq5
      refine for_tree (row_list qc (intsV S0)) (fun i l G => R6 ks pt Ta (fun j => decide (j ∈ S0.drop i)) (N6t pt qc r) l G) S6 hit2 hL5 fr5 dj5 ⟨M4, t4, T4, hl4⟩ (fun i l G _ d => join_l (upd_other nq hq5)) hh ?_ ?_
      · rintro i F6 l6 G6 s7 y ⟨M6, t6, T6', hl6⟩ hx kp hL6 dj6 fr6 S7 QB EB hQB
        (refine Mine.el_EA (ints_at hx) fun x hxi zq0 => ?_; (first | subst zq0 | cases zq0))
        (refine Mine.el_AE (T6'.node (hS x (List.mem_of_getElem? hxi))) fun hx0 nx hnx => ?_)
        (refine Mine.el_EEEAAAAA (t6.split dj6) fun P dd Gs p f1 f2 zq0 zq1 ej => ?_; clear zq0; clear zq1)
        have hpt : join F6 G6 pt = some (.inst 347 (pfl P dd)) := by rw [ej]; exact join_l (upd_other p.ne (upd_self ..))
        have gL := join_l (G := G6) hL6
        have p1 : List.lookup ("tree" : Str) (("x", Value.int x 0) :: l6) = some (.ref pt) := hl6.hn.ht
        walk_at "m_sc"
        rename St _ _ _ _ => S8
        refine block_spec S8 (by walk_at "m_R") fr6 dj6 t6 hnx hx0 ?_
        intro G7 s12 dj7 t7 S12
        walk_at "m_st"
        rename St _ _ _ _ => S13
        exact ⟨("x", .int x 0) :: l6, G7, ⟨_, t7, (T6'.actv (b := false) hx0).congr (fun j _ => drop_act nd hxi) (drop_act nd hxi), ⟨⟨hl6.hn.ht, hl6.hn.hc⟩, hl6.hr⟩⟩, dj7, by rw [upd_id hL6]; exact S13⟩
      · rintro l6 G6 s7 ⟨M6, t6, T6', hl6⟩ dj6 S7
        clear S6
        have hL6 : upd F5 L (.ns l6) L = some (.ns l6) := upd_self ..
        have gL := join_l (G := G6) hL6
        have p1 := hl6.hr
        walk_at "m_st"
        rename St _ _ _ _ => S8
        have e1 : S0.drop (intsV S0).length = [] := by rw [intsV_len, List.drop_length]
        rw [e1] at T6'
        have fF_r : F r = none := by
          rw [hF3, upd_ne (Ne.symm rL), hF1, upd_ne (Ne.symm rL)] at f3r
          exact f3r
        have sF : Sub (upd F r (.list (intsV ts))) (upd F5 L (.ns l6)) := by
          rw [hF5, upd_comm (Ne.symm rL), upd_upd, hF3, upd_upd, hF1, upd_upd, upd_comm rL]
          exact (Sub.refl _).fresh ((upd_ne rL).trans fl)
        refine k ts Ma M4 M6 G6 r _ T2 tk4 hi4 (T6'.congr (fun _ _ => by simp) (by simp)) fF_r ((dj6.l (dj6.has hL5)).sub sF) t6 (S8.sub (sub_join (dj6.l (dj6.has hL5)) sF) (fF.fresh fF_r).join)
end
end
set_option hygiene false in
local macro_rules | `(tactic| walk_at "getMethod ref") => `(tactic| ((with_reducible show wpAny _ _ (getMethod (Value.ref _) (PySem.Str.ofString "count") _) _ _ _); walk_at "q"; k_dflt (refine list_meth ymS (by walk_at "m_H") PySem.F.slot_list_count PySem.F.type_list_count ?_)))
set_option hygiene false in
local macro_rules | `(tactic| walk_at "call builtin:list.count") => `(tactic| (walk_at "q"; k_dflt (refine cnt_ints ymS (by walk_at "m_H") ?_); walk_at "k"))
section
structure N7 (pt ab sd : Nat) (l : List (Str × Value)) : Prop where
  ht : l.lookup ("tree" : Str) = some (.ref pt)
  ha : l.lookup ("above" : Str) = some (.ref ab)
  hs : l.lookup ("streams" : Str) = some (.ref sd)
structure N8 (pt ab sd : Nat) (x i : Int) (l : List (Str × Value)) : Prop where
  hn : N7 pt ab sd l
  hx : l.lookup ("x" : Str) = some (.int x 0)
  hi : l.lookup ("i" : Str) = some (.int i 0)
theorem nodup_at : ∀ {l : List Int} {i j : Nat} {x : Int}, l.Nodup → l[i]? = some x → l[j]? = some x → i = j
  | a :: l, 0, 0, _, _, _, _ => rfl
  | a :: l, 0, j + 1, x, h, h1, h2 => by
    have e : a = x := Option.some.inj h1
    exact absurd (List.mem_of_getElem? (l := l) h2) (e ▸ (List.nodup_cons.mp h).1)
  | a :: l, i + 1, 0, x, h, h1, h2 => by
    have e : a = x := Option.some.inj h2
    exact absurd (List.mem_of_getElem? (l := l) h1) (e ▸ (List.nodup_cons.mp h).1)
  | a :: l, i + 1, j + 1, x, h, h1, h2 => by
    have := nodup_at (List.nodup_cons.mp h).2 (i := i) (j := j) (x := x) h1 h2
    omega
section
variable {w : World} {c : Cx PySem.Challenge.rw_bd0031_06.row.prog w (MineTop.hd.heap_39 w.params)} {envs : List Env} {F G H : AH} {A : Around} {E Q : Value → Shared → Prop} {s : Shared}
theorem shown_spec {M : Mo} {ks : List Int} {pt ab : Nat} {Ta : Tb} (S : St c envs (join F G) s) (R : Rm A 330 3100) (hA : A.frames = some envs) (hh : A.handled = none) (fF : Frs envs F) (dj : Dj F G) (t : PTree 246 347 M ks pt G)
    (hab : F ab = some (.imap (iV Ta))) (T : T6 M Ta fun _ => false)
    (k : ∀ M' G' s', T6 M' Ta (fun _ => false) → Dj F G' → PTree 246 347 M' ks pt G' → St c envs (join F G') s' → Q (.bool true) s') :
    wpAny (model PySem.Challenge.rw_bd0031_06.row.prog w) A (call (.ref 370) [.ref pt, .ref ab]) Q E s := by
  have nlen : Ta.length ≤ 8 := by rw [← List.length_map (f := (·.1))]; exact nodup_len (ks := eight) T.an fun z hz => T.mem z (.inr (mem_keys.mp hz))
  refine wpAny_call ?_
  k_dflt refine' code_fn (l := [("above", Value.ref ab), ("tree", Value.ref pt)]) S R ?k1 ?k2 ?k3 ?k4 ?_ ?k6 ?k7 ?k8 ?k9 ?k10
  walk_at "m_in"
  intro L s1 hL S1
  clear S
  refine hideQ ?_
  intro QF hQF
  refine hideE ?_
  intro EF hEF
  (try dsimp only)
  (refine Mine.el_A (join_none hL) fun fl gl => ?_)
  have na : ab ≠ L := ne_fresh fl hab
  have ga := join_l (G := G) hab
  walk_at "m_st"
  rename St _ _ _ _ => S2a
  (refine Mine.el_EA S2a.env fun ev hev S2 => ?_)
  clear S2a
  rw [upd_join] at S2
  (refine Mine.el_E (show ∃ l0 : List (Str × Value), l0 = [(("above" : Str), Value.ref ab), ("tree", .ref pt)] from ⟨_, rfl⟩) fun l0 hl0 => ?_)
  have fr1 : Frs ev (upd F L (.ns l0)) := by
    rw [hev]
    exact Frs.cons (fF.fresh fl) (upd_self ..) rfl (fun z => absurd z (show ScopeKind.function ≠ .module by decide))
  rw [← hl0] at S2
  have ga := join_l (G := G) (upd_other (o := .ns l0) na hab)
  refine iter_dict S2 ga ?_
  intro es ep it s9 ka hb hit S9
  clear S2
  rw [keys_iV] at S9
  have hrow : DR (upd (join (upd F L (.ns l0)) G) ab (.raw (dictOf es ep))) ab ep (Ta.map (·.1)) := ⟨es, iV Ta, upd_self .., ka, keys_iV⟩
  refine comp_pure (row_keys ab ep (Ta.map (·.1))) (fun v => some v) S9 hit hrow (.inl hh) (by rw [intsV_len, List.length_map]; omega) (by decide) rfl rfl ?_ ?_ ?_
  · intro C2 i2 v2 y2 s10 Hc l2 E2 hy2 hv2 keep2 hC2 S10
    exact wpAny_tests_nil ⟨rfl, S10⟩
  · intro C2 i2 v2 y2 z2 s10 Hc l2 E2 hy2 hv2 hz2 keep2 hC2 S10
    unfold intsV at hy2
    rw [List.getElem?_map] at hy2
    (refine Mine.el_EA (Option.map_eq_some_iff.mp hy2) fun k0 hk0 zq0 => ?_; (first | subst zq0 | cases zq0))
    (replace hz2 := Option.some.inj hz2; subst hz2)
    walk_at "m_st"
    all_goals first | assumption | rfl
  · intro D C2 s10 l2 hD hC2 S10
    have eF : (intsV (Ta.map (·.1))).filterMap (fun v => some v) = intsV (Ta.map (·.1)) := by simp
    rw [eF] at S10 hC2
    refine comp_none S10 hC2 ((fr1.join.turn ga rfl).fresh hD) ?_
    intro s11 S11
    clear S10
    have nDw : ab ≠ D := (none_ne hD).symm
    have hD0 := none_up hD
    rw [upd_comm nDw] at S11
    have S12 := dr_close S11 ka hb
    clear S11
    have S13 := S12.sub (H := upd (join (upd F L (.ns l0)) G) D (.list (intsV (Ta.map (·.1))))) (by walk_at "m_sub") (fr1.join.fresh hD0)
    clear S12 S9
    walk_at "m_st"
    rename St _ _ _ _ => S14
    refine sort_ints S14 (upd_self ..) (by rw [List.length_map]; omega) ?_
    intro sd ys s15 hsd pys S15
    clear S14
    rw [hl0] at S15 hsd
    have gL := join_l (G := G) (upd_self F L (.ns [(("above" : Str), Value.ref ab), ("tree", .ref pt)]))
    rw [hl0] at hD0
    walk_at "m_st"
    rename St _ _ _ _ => S16
    (refine Mine.el_A (join_none (none_up hsd)) fun fsd gsd => ?_)
    rw [hl0] at fr1
    have gL0 : L ≠ D := fun z => by rw [← z, gL] at hD0; (exact Mine.no_sn hD0)
    have gLs : L ≠ sd := fun z => by have := none_up hsd; rw [← z, gL] at this; (exact Mine.no_sn this)
    rw [upd_comm (a := sd) (b := L) (Ne.symm gLs), upd_comm (a := D) (b := L) (Ne.symm gL0), upd_join, upd_upd] at S16
    (refine Mine.el_E (show ∃ l1 : List (Str × Value), l1 = [(("streams" : Str), Value.ref sd), ("above", .ref ab), ("tree", .ref pt)] from ⟨_, rfl⟩) fun l1 hl1 => ?_)
    rw [← hl1] at S16
    have fr2 : Frs ev (upd F L (.ns l1)) := by have := fr1.ns (upd_self F L _) (l' := l1); rwa [upd_upd] at this
    have hDX : join (upd F L (.ns l1)) G D = none := by
      (refine Mine.el_A (join_none hD0) fun a1 a2 => ?_)
      rw [join_n ((upd_ne (Ne.symm gL0)).trans ((upd_ne (Ne.symm gL0)).symm.trans a1))]
      exact a2
    have S17 := S16.sub (H := upd (join (upd F L (.ns l1)) G) sd (.list (intsV ys))) (((Sub.refl _).fresh hDX).upd2 (.inl rfl)) (by
      rw [upd_join]
      exact (fr2.fresh ((upd_ne (Ne.symm gLs)).trans ((upd_ne (Ne.symm gLs)).symm.trans fsd))).join)
    rw [upd_join] at S17
    have fsd0 : F sd = none := (upd_ne (Ne.symm gLs)).symm.trans fsd
    have nas : ab ≠ sd := ne_fresh fsd0 hab
    (refine Mine.el_E (show ∃ F1, F1 = upd (upd F L (.ns l1)) sd (.list (intsV ys)) from ⟨_, rfl⟩) fun F1 hF1 => ?_)
    have fL : F1 L = some (.ns l1) := by rw [hF1]; exact upd_other gLs (upd_self ..)
    have fs : F1 sd = some (.list (intsV ys)) := by rw [hF1]; exact upd_self ..
    have fa : F1 ab = some (.imap (iV Ta)) := by rw [hF1]; exact upd_other nas (upd_other na hab)
    have fr3 : Frs ev F1 := by rw [hF1]; exact fr2.fresh ((upd_ne (Ne.symm gLs)).trans fsd0)
    have dj1 : Dj F1 G := by rw [hF1]; exact (dj.l gl).l gsd
    have sF1 : ∀ l, Sub F (upd F1 L (.ns l)) := fun l => by
      rw [hF1, upd_comm (Ne.symm gLs), upd_upd]
      exact ((Sub.refl _).fresh fl).fresh fsd0
    rw [← hF1] at S17
    have hn1 : N7 pt ab sd l1 := by rw [hl1]; exact ⟨rfl, rfl, rfl⟩
    have p5 : l1.lookup ("streams" : Str) = some (.ref sd) := hn1.hs
    have nys : ys.Nodup := pys.symm.nodup T.an
    have hys : ∀ z ∈ ys, (Ta.lookup z).isSome = true := fun z hz => mem_keys.mp (pys.mem_iff.mp hz)
    have lys : ys.length ≤ 8 := by rw [pys.length_eq, List.length_map]; exact nlen
    clear S16 fr1 fr2 hD hC2 hDX hrow hit hD0 hsd ga gL hF1
    have gL := join_l (G := G) fL
    have gs := join_l (G := G) fs
    have lz : (intsV ys).length ≤ 8 := by rw [intsV_len]; exact lys
    refine wpAny_For ?_
    walk_at "m_st"
    rename St _ _ _ _ => S18
    rename (join _ _ _ = none) => hr
    rw [intsV_len] at S18
    refine iter_range1 S18 hr ys.length (by first | decide | omega) (by decide) (by first | decide | omega) ?_
    intro it2 s18 hit2 S19
    clear S18
    refine for_tree (row_range 0 1 ys.length) (fun _ l G => R6 ks pt Ta (fun _ => false) (N7 pt ab sd) l G) S19 hit2 fL fr3 dj1 ⟨M, t, T, hn1⟩ (fun _ _ _ _ _ => trivial) hh ?_ ?_
    · rintro i F2 l2 G2 s20 y0 ⟨M2, t2, T2, hn2⟩ hx kp hL2 dj2 fr4 S20 QB EB hQB
      clear S19
      (refine Mine.el_A (rRow_get hx) fun hi zq0 => ?_; (first | subst zq0 | cases zq0))
      rw [show (0 : Int) + (i : Int) * 1 = (i : Int) by omega] at hL2
      have fs2 := kp sd _ (Ne.symm gLs) fs
      have fa2 := kp ab _ na fa
      (refine Mine.el_E (show ∃ x, ys[i]? = some x from ⟨_, List.getElem?_eq_getElem hi⟩) fun x hxi => ?_)
      have hx1 : (intsV ys)[((i : Nat) : Int).toNat]? = some (.int x 0) := by
        rw [Int.toNat_natCast]; unfold intsV; rw [List.getElem?_map, hxi]; rfl
      have xT := hys x (List.mem_of_getElem? hxi)
      have gL := join_l (G := G2) hL2
      have gs := join_l (G := G2) fs2
      have p5 : List.lookup ("streams" : Str) (("i", Value.int (i : Int) 0) :: l2) = some (.ref sd) := hn2.hs
      have p1 : List.lookup ("tree" : Str) (("x", Value.int x 0) :: ("i", Value.int (i : Int) 0) :: l2) = some (.ref pt) := hn2.ht
      walk_at "m_sc"
      rename St _ _ _ _ => S21
      rename (upd (join _ _) _ _ _ = none) => hd
      rename Nat => d
      rw [upd_join] at hd S21
      (refine Mine.el_E (show ∃ l3 : List (Str × Value), l3 = (("x" : Str), Value.int x 0) :: (("i" : Str), Value.int (i : Int) 0) :: l2 from ⟨_, rfl⟩) fun l3 hl3 => ?_)
      change St c _ (upd (join (upd F2 L (.ns ((("x" : Str), Value.int x 0) :: (("i" : Str), Value.int (i : Int) 0) :: l2))) G2) d (.list (intsV [x]))) _ at S21
      change join (upd F2 L (.ns ((("x" : Str), Value.int x 0) :: (("i" : Str), Value.int (i : Int) 0) :: l2))) G2 d = none at hd
      rw [← hl3] at S21 hd
      have hn3 : N8 pt ab sd x i l3 := by rw [hl3]; exact ⟨⟨hn2.ht, hn2.ha, hn2.hs⟩, rfl, rfl⟩
      have hL3 : upd F2 L (.ns l3) L = some (.ns l3) := upd_self ..
      have fs3 : upd F2 L (.ns l3) sd = _ := upd_other (Ne.symm gLs) fs2
      have fa3 : upd F2 L (.ns l3) ab = _ := upd_other na fa2
      have fr5 := fr4.ns hL2 (l' := l3)
      have dj3 : Dj (upd F2 L (.ns l3)) G2 := dj2.l (dj2.has hL2)
      clear gL gs p5
      have back : ∀ l, Sub (upd F2 L (.ns l)) (upd (upd F2 L (.ns l3)) L (.ns l)) := fun l => by rw [upd_upd]; exact Sub.refl _
      generalize hF3 : upd F2 L (.ns l3) = F3 at S21 hL3 fs3 fa3 fr5 dj3 back hd
      (refine Mine.el_A (join_none hd) fun fd gd => ?_)
      rw [upd_join] at S21
      refine turns_spec (S0 := [x]) S21 (by walk_at "m_R") (by rw [hev]; exact Around.frames_deeper hA) (by exact hh) (fr5.fresh fd) (dj3.l gd) t2 (upd_self ..) (by show 1 ≤ 5; decide) (by simp) (by simp) (fun z hz => by rw [List.mem_singleton.mp hz]; exact xT) T2 ?_
      intro ts Ma M3 M4 G4 r s22 Ta4 tk4 hl4 T4 fr0 dj4 t4 S22
      clear S21
      have e3 : ts = [x, x, x] := by
        (refine Mine.el_EEE (three_of hl4) fun a1 a2 a3 zq0 => ?_; (first | subst zq0 | cases zq0))
        have := tk_one tk4 Ta4
        rw [this a1 (by simp), this a2 (by simp), this a3 (by simp)]
      rw [e3] at S22 dj4
      have nLd : L ≠ d := ne_fresh fd hL3
      have nLr : L ≠ r := ne_fresh fr0 (upd_other nLd hL3)
      have gL := join_l (G := G4) (upd_other nLr (upd_other nLd hL3) : upd (upd F3 d (.list (intsV [x]))) r (.list (intsV [x, x, x])) L = _)
      have gr := join_l (G := G4) (upd_self (upd F3 d (.list (intsV [x]))) r (.list (intsV [x, x, x])))
      have p2 := hn3.hx
      walk_at "m_sc"
      rename St _ _ _ _ => mS
      k_dflt (refine ne_same mS (by walk_at "m_H") (by walk_at "m_H") (by exact Rm.line (d := 0) (u := 0) (by walk_at "m_R")) ?_)
      walk_at "m_sc"
      rename St _ _ _ _ => S23
      rename (join (upd (upd F3 _ _) _ _) _ _ = none) => hd2
      have fr0' := none_up fr0
      (refine Mine.el_A (join_none hd2) fun hd2a hd2b => ?_)
      have fd2 := none_up (none_up hd2a)
      have sF3 : Sub F3 (upd (upd F3 d (.list (intsV [x]))) r (.list (intsV [x, x, x]))) := ((Sub.refl F3).fresh fd).fresh fr0'
      have S24 := S23.sub (H := join F3 G4) ((sub_join dj4 sF3).fresh (by rw [join_n fd2]; exact hd2b)) fr5.join
      have dj5 : Dj F3 G4 := dj4.sub sF3
      clear S23 dj4 gr gL hd2 hd2a hd2b tk4 Ta4
      have gL := join_l (G := G4) hL3
      have gs := join_l (G := G4) fs3
      have p5 := hn3.hn.hs
      have p6 := hn3.hi
      refine wpAny_For ?_
      walk_at "m_sc"
      rename St _ _ _ _ => S25
      refine slice_upto S25 gs (by first | decide | omega) (by rw [intsV_len]; omega) ?_
      intro e3d s26 he3 S26
      clear S25
      rw [Int.toNat_natCast, show (intsV ys).take i = intsV (ys.take i) by unfold intsV; rw [List.map_take]] at S26
      (refine Mine.el_A (join_none he3) fun fe ge => ?_)
      rw [upd_join] at S26
      have nLe : L ≠ e3d := ne_fresh fe hL3
      have hL6 : upd F3 e3d (.list (intsV (ys.take i))) L = some (.ns l3) := upd_other nLe hL3
      have fa6 : upd F3 e3d (.list (intsV (ys.take i))) ab = _ := upd_other (ne_fresh fe fa3) fa3
      have fe6 : upd F3 e3d (.list (intsV (ys.take i))) e3d = _ := upd_self ..
      have fr6 := fr5.fresh fe (x := .list (intsV (ys.take i)))
      have dj6 : Dj (upd F3 e3d (.list (intsV (ys.take i)))) G4 := dj5.l ge
      have sF6 : ∀ l, Sub (upd F3 L (.ns l)) (upd (upd F3 e3d (.list (intsV (ys.take i)))) L (.ns l)) := fun l => by
        rw [upd_comm (Ne.symm nLe)]
        exact (Sub.refl _).fresh ((upd_ne (Ne.symm nLe)).trans fe)
      generalize upd F3 e3d (.list (intsV (ys.take i))) = F6 at S26 hL6 fa6 fe6 fr6 dj6 sF6
      refine iter_list S26 (join_l fe6) ?_
      intro it4 s27 hit4 S27
      clear S26 gL gs p5 p6 p1 p2
      refine for_tree (row_list e3d (intsV (ys.take i))) (fun _ l G => R6 ks pt Ta (fun _ => false) (N8 pt ab sd x i) l G) S27 hit4 hL6 fr6 dj6 ⟨M4, t4, T4, hn3⟩ (fun i l G _ d => join_l (upd_other (Ne.symm nLe) fe6)) hh ?_ ?_
      · rintro j F7 l7 G7 s28 y1 ⟨M7, t7, T7, hn7⟩ hx7 kp7 hL7 dj7 fr7 S28 QB7 EB7 hQB7
        clear S27
        (refine Mine.el_EA (ints_at hx7) fun y hyj zq0 => ?_; (first | subst zq0 | cases zq0))
        have hji : j < i := by
          have := (List.getElem?_eq_some_iff.mp hyj).1
          rw [List.length_take] at this; omega
        have hyj2 : ys[j]? = some y := by rw [← hyj, List.getElem?_take_of_lt hji]
        have yT := hys y (List.mem_of_getElem? hyj2)
        have nxy : x ≠ y := fun z => by
          subst z
          have := nodup_at nys hxi hyj2
          omega
        have fa7 := kp7 ab _ na fa6
        have gL := join_l (G := G7) hL7
        have p1 : List.lookup ("tree" : Str) (("y", Value.int y 0) :: l7) = some (.ref pt) := hn7.hn.ht
        have p2 : List.lookup ("x" : Str) (("y", Value.int y 0) :: l7) = some (.int x 0) := hn7.hx
        walk_at "m_sc"
        rename St _ _ _ _ => S29
        rename (join _ _ _ = none) => hd
        rename Nat => d1
        change St c _ (upd (join F7 G7) d1 (.list (intsV [x, y]))) _ at S29
        (refine Mine.el_A (join_none hd) fun fd1 gd1 => ?_)
        rw [upd_join] at S29
        refine turns_spec (S0 := [x, y]) S29 (by walk_at "m_R") (by rw [hev]; exact Around.frames_deeper hA) (by exact hh) (fr7.fresh fd1) (dj7.l gd1) t7 (upd_self ..) (by show 2 ≤ 5; decide) (by simp) (by simp [nxy]) (fun z hz => by
          rcases List.mem_cons.mp hz with rfl | hz
          · exact xT
          · rw [List.mem_singleton.mp hz]; exact yT) T7 ?_
        intro ts Ma M3 M8 G8 r8 s30 Ta8 tk8 hl8 T8 fr08 dj8 t8 S30
        clear S29
        (refine Mine.el_AA (tk_two tk8 hl8 Ta8 xT yT nxy) fun c1 c2 c3 => ?_)
        have nLd1 : L ≠ d1 := ne_fresh fd1 hL7
        have nLr8 : L ≠ r8 := ne_fresh fr08 (upd_other nLd1 hL7)
        have hL8 : upd (upd F7 d1 (.list (intsV [x, y]))) r8 (.list (intsV ts)) L = _ := upd_other nLr8 (upd_other nLd1 hL7)
        have fa8 : upd (upd F7 d1 (.list (intsV [x, y]))) r8 (.list (intsV ts)) ab = _ := upd_other (ne_fresh fr08 (upd_other (ne_fresh fd1 fa7) fa7)) (upd_other (ne_fresh fd1 fa7) fa7)
        have fr8 := (fr7.fresh fd1 (x := .list (intsV [x, y]))).fresh fr08 (x := .list (intsV ts))
        have ft8 : upd (upd F7 d1 (.list (intsV [x, y]))) r8 (.list (intsV ts)) r8 = _ := upd_self ..
        have fr08' := none_up fr08
        have sF8 : ∀ l, Sub (upd F7 L (.ns l)) (upd (upd (upd F7 d1 (.list (intsV [x, y]))) r8 (.list (intsV ts))) L (.ns l)) := fun l => by
          rw [upd_comm (Ne.symm nLr8), upd_comm (Ne.symm nLd1)]
          exact ((Sub.refl _).fresh ((upd_ne (Ne.symm nLd1)).trans fd1)).fresh ((upd_ne (Ne.symm nLr8)).trans fr08')
        generalize upd (upd F7 d1 (.list (intsV [x, y]))) r8 (.list (intsV ts)) = F8 at S30 dj8 hL8 fa8 fr8 ft8 sF8
        have gL := join_l (G := G8) hL8
        have gr := join_l (G := G8) ft8
        have p3 : List.lookup ("above" : Str) (("told", Value.ref r8) :: ("y", Value.int y 0) :: l7) = some (.ref ab) := hn7.hn.ha
        have p2 : List.lookup ("x" : Str) (("told", Value.ref r8) :: ("y", Value.int y 0) :: l7) = some (.int x 0) := hn7.hx
        have p4 : List.lookup ("y" : Str) (("told", Value.ref r8) :: ("y", Value.int y 0) :: l7) = some (.int y 0) := rfl
        have fin : ∀ s', St c ev (upd (join F8 G8) L (.ns (("told", Value.ref r8) :: ("y", Value.int y 0) :: l7))) s' → TurnAt c ev L F7 (fun _ l G => R6 ks pt Ta (fun _ => false) (N8 pt ab sd x i) l G) (j + 1) s' := fun s' S' => by
          rw [upd_join] at S'
          have dF7 : Dj F7 G8 := fun a o h => by
            have q := dj8 a o h
            by_cases z : a = L
            · rw [z, hL8] at q; (exact Mine.no_sn q)
            · cases w : F7 a with
              | none => rfl
              | some y =>
                (refine Mine.el_EA (sF8 [] a y ((upd_ne z).trans w)) fun o' e' zq0 => ?_; clear zq0)
                rw [upd_ne z, q] at e'; (exact Mine.no_ns e')
          have hd8 := dj8.l (o := .ns (("told", Value.ref r8) :: ("y", Value.int y 0) :: l7)) (dj8.has hL8)
          exact ⟨("told", Value.ref r8) :: ("y", Value.int y 0) :: l7, G8, ⟨M8, t8, T8, ⟨⟨hn7.hn.ht, hn7.hn.ha, hn7.hn.hs⟩, hn7.hx, hn7.hi⟩⟩, dF7, S'.sub (sub_join hd8 (sF8 _)) (fr7.ns hL7).join⟩
        (refine Mine.el_E (Option.isSome_iff_exists.mp xT) fun u1 hu1 => ?_)
        (refine Mine.el_E (Option.isSome_iff_exists.mp yT) fun u2 hu2 => ?_)
        walk_at "m_sc"
        · exfalso; omega
        rename St _ _ _ _ => S31
        rw [upd_join] at S31
        have hL9 : upd F8 L (.ns (("told", Value.ref r8) :: ("y", Value.int y 0) :: l7)) L = _ := upd_self ..
        have fa9 : upd F8 L (.ns (("told", Value.ref r8) :: ("y", Value.int y 0) :: l7)) ab = _ := upd_other na fa8
        have ft9 : upd F8 L (.ns (("told", Value.ref r8) :: ("y", Value.int y 0) :: l7)) r8 = _ := upd_other (Ne.symm nLr8) ft8
        have fr9 := fr8.ns hL8 (l' := ("told", Value.ref r8) :: ("y", Value.int y 0) :: l7)
        have dj9 : Dj (upd F8 L (.ns (("told", Value.ref r8) :: ("y", Value.int y 0) :: l7))) G8 := dj8.l (dj8.has hL8)
        rw [upd_join] at fin
        generalize upd F8 L (.ns (("told", Value.ref r8) :: ("y", Value.int y 0) :: l7)) = F9 at S31 hL9 fa9 ft9 fr9 dj9 fin
        refine stands_spec S31 (by walk_at "m_R") (by rw [hev]; exact Around.frames_deeper hA) (by exact hh) fr9 dj9 fa9 T8 hu1 (T8.x0 yT) ?_
        intro b1 s32 hb1 S32
        clear S31
        obtain rfl : b1 = decide ((ts.count x : Int) = 0) := by rw [Bool.eq_iff_iff, hb1, ← c2, decide_eq_true_iff]; omega
        have gL := join_l (G := G8) hL9
        have gr := join_l (G := G8) ft9
        walk_at "m_sc"
        · exfalso
          rename ((_ != _) = true) => h9
          simp only [bne_iff_ne, ne_eq] at h9
          exact h9 (by rw [Bool.eq_iff_iff]; simp)
        rename St _ _ _ _ => S33
        refine stands_spec S33 (by walk_at "m_R") (by rw [hev]; exact Around.frames_deeper hA) (by exact hh) fr9 dj9 fa9 T8 hu2 (T8.x0 xT) ?_
        intro b1 s34 hb2 S34
        clear S33
        obtain rfl : b1 = decide ((ts.count y : Int) = 0) := by rw [Bool.eq_iff_iff, hb2, ← c3, decide_eq_true_iff]; omega
        walk_at "m_st"
        · exfalso
          rename ((_ != _) = true) => h9
          simp only [bne_iff_ne, ne_eq] at h9
          exact h9 (by rw [Bool.eq_iff_iff]; simp)
        rename St _ _ _ _ => S35
        exact fin _ S35
      · rintro l7 G7 s28 ⟨M7, t7, T7, hn7⟩ dj7 S28
        clear S27
        walk_at "m_st"
        rename St _ _ _ _ => S29
        have hd7 := dj7.l (o := .ns l7) (dj7.has hL6)
        have dF2 : Dj F2 G7 := fun a o h => by
          have q := hd7 a o h
          by_cases z : a = L
          · rw [z, upd_self] at q; (exact Mine.no_sn q)
          · cases w : F2 a with
            | none => rfl
            | some y =>
              (refine Mine.el_EA (((back l7).trans (sF6 l7)) a y ((upd_ne z).trans w)) fun o' e' zq0 => ?_; clear zq0)
              rw [q] at e'; (exact Mine.no_ns e')
        exact ⟨l7, G7, ⟨M7, t7, T7, hn7.hn⟩, dF2, S29.sub (sub_join hd7 ((back l7).trans (sF6 l7))) (fr4.ns hL2).join⟩
    · rintro l2 G2 s20 ⟨M2, t2, T2, hn2⟩ dj2 S20
      clear S19
      walk_at "m_st"
      rename St _ _ _ _ => S21
      exact k M2 G2 _ T2 ((dj2.l (dj2.has fL)).sub (sF1 l2)) t2 (S21.sub (sub_join (dj2.l (dj2.has fL)) (sF1 l2)) fF.join)
end
end
set_option hygiene false in
local macro_rules | `(tactic| walk_at "compareOp NotIn int ref") => `(tactic| (walk_at "q"; k_dflt first
  | (refine d_notin_no ymS (by walk_at "m_H") (by assumption) ?_; intro ys' yS')
  | (refine d_notin_yes ymS (by walk_at "m_H") (by assumption) ?_; intro ys' yS')
  | (refine d_notin ymS (by walk_at "m_H") ?_; intro ys' yS'); clear ymS))
set_option hygiene false in
local macro_rules | `(tactic| walk_at "compareOp In int ref") => `(tactic| (walk_at "q"; k_dflt first
  | (refine d_in_yes ymS (by walk_at "m_H") (by assumption) ?_; intro ys' yS')
  | (refine d_in_no ymS (by walk_at "m_H") (by assumption) ?_; intro ys' yS')
  | (refine d_in ymS (by walk_at "m_H") ?_; intro ys' yS'); clear ymS))
set_option hygiene false in
local macro_rules | `(tactic| walk_at "subscriptTail") => `(tactic| (walk_at "q"; k_dflt (refine dr_item ymS (by walk_at "m_H") (by assumption) (by walk_at "m_lk") ?_ (by with_unfolding_all rfl)); walk_at "m_er2"; clear ymS))
set_option hygiene false in
local macro_rules | `(tactic| walk_at "setItem ref int") => `(tactic| (walk_at "q"; k_dflt (refine dr_set ymS (by walk_at "m_H") (by assumption) (by assumption) ?_); intro yes' ys' yka' yS'; clear ymS; (try dsimp only [er] at yS' yka')))
section
noncomputable abbrev laidEnv (nm : Str) (L a : Nat) (cd : Value) : Env := envAt PySem.Challenge.rw_bd0031_06.row.prog 20 nm L a cd [("y", L + 2), ("above", L + 1)]
noncomputable abbrev laidSt (i : Nat) : Stmt := nthSt PySem.Challenge.rw_bd0031_06.row.prog 20 i
noncomputable abbrev laidL (ex : Bool) (x : Int) (pt : Nat) : List (Str × Value) := [("alone", .bool ex), ("x", .int x 0), ("tree", .ref pt)]
section
variable {w : World} {c : Cx PySem.Challenge.rw_bd0031_06.row.prog w (MineTop.hd.heap_39 w.params)} {envs : List Env} {F G H : AH} {A : Around} {Q : Flow → Shared → Prop} {E : Value → Shared → Prop} {s : Shared} {nm : Str} {L a ab pt : Nat} {cd : Value} {ex : Bool} {x y : Int} {Ta : Tb} {M : Mo}
theorem le0 (T : T6 M Ta fun _ => false) (hx0 : x ≠ 0) (S : St c (laidEnv nm L a cd :: envs) (join F G) s) (R : Rm A 30 300) (hA : A.frames = some (laidEnv nm L a cd :: envs)) (hh : A.handled = none) (lf : LF6 F L ab (laidL ex x pt) y Ta) (fr : Frs (laidEnv nm L a cd :: envs) F) (dj : Dj F G)
    (k : ∀ b s', (b = true ↔ Anc (fun j => Ta.lookup j) y x) → St c (laidEnv nm L a cd :: envs) (join (upd F L (.ns (("beneath", .bool b) :: laidL ex x pt))) G) s' → Q .next s') : wpAny (model PySem.Challenge.rw_bd0031_06.row.prog w) A (exec (laidSt 0) (laidEnv nm L a cd)) Q E s := by
  show wpAny _ _ (exec (Stmt.Assign _ _ _) _) _ _ _
  have gL := join_l (G := G) lf.hL
  have g1 := join_l (G := G) lf.h1
  have g2 := join_l (G := G) lf.h2
  have ga := join_l (G := G) lf.ha
  have anY : ∀ z, Ta.lookup y = none → ¬ Anc (fun j => Ta.lookup j) y z := fun z h hz => by
    induction hz with
    | one e => rw [h] at e; (exact Mine.no_ns e)
    | more _ _ ih => exact ih
  have anX : Ta.lookup x = none → ¬ Anc (fun j => Ta.lookup j) y x := fun h hz => by
    rcases T.anc_some hz with z | z
    · exact hx0 z
    · rw [h] at z; (exact Mine.no_ft z)
  cases hY : Ta.lookup y with
  | none =>
    have e1 : (iV Ta).lookup y = none := by rw [lookup_iV, hY]; rfl
    walk_at "m_st"
    all_goals
      rename St _ _ _ _ => S1
      rw [upd_join] at S1
      exact k _ _ ⟨fun z => Bool.noConfusion z, fun z => absurd z (anY _ hY)⟩ S1
  | some u0 =>
    have e1 : (iV Ta).lookup y = some (.int u0 0) := by rw [lookup_iV, hY]; rfl
    cases hX : Ta.lookup x with
    | none =>
      have e2 : (iV Ta).lookup x = none := by rw [lookup_iV, hX]; rfl
      walk_at "m_st"
      all_goals
        rename St _ _ _ _ => S1
        rw [upd_join] at S1
        exact k _ _ ⟨fun z => Bool.noConfusion z, fun z => absurd z (anX hX)⟩ S1
    | some u1 =>
      have e2 : (iV Ta).lookup x = some (.int u1 0) := by rw [lookup_iV, hX]; rfl
      walk_at "m_sc"
      · rename St _ _ _ _ => S1
        refine stands_spec S1 (by walk_at "m_R") hA (by exact hh) fr dj lf.ha T hY hx0 ?_
        intro b s2 hb S2
        clear S1
        walk_at "m_st"
        rename St _ _ _ _ => S3
        rw [upd_join] at S3
        exact k _ _ hb S3
      all_goals
        rename St _ _ _ _ => S1
        rw [upd_join] at S1
        have hyx : y = x := by first | assumption | omega
        exact k _ _ ⟨fun z => absurd hyx (by simpa using z), fun z => absurd z (by rw [hyx]; exact T.acyc)⟩ S1
noncomputable def fltK (A : Tb) (y : Int) : Value → Option Value
  | .int k _ => if A.lookup k = some y then some (.int k 0) else none
  | _ => none
theorem fltK_nil (h : ((intsV (Ta.map (·.1))).filterMap (fltK Ta y)).isEmpty = true) : ∀ z, Ta.lookup z ≠ some y := fun z hz => by
  have hm : Value.int z 0 ∈ (intsV (Ta.map (·.1))).filterMap (fltK Ta y) := by
    refine List.mem_filterMap.mpr ⟨.int z 0, List.mem_map.mpr ⟨z, mem_keys.mpr (by rw [hz]; rfl), rfl⟩, ?_⟩
    show (if Ta.lookup z = some y then some (Value.int z 0) else none) = _
    rw [if_pos hz]
  rw [List.isEmpty_iff.mp h] at hm
  cases hm
theorem le1 {b : Bool} (T : T6 M Ta fun _ => false) (hx : 1 ≤ x) (hv : b = true ↔ Anc (fun j => Ta.lookup j) y x) (R : Rm A 60 600) (hh : A.handled = none) (S : St c (laidEnv nm L a cd :: envs) (join (upd F L (.ns (("beneath", .bool b) :: laidL ex x pt))) G) s) (lf : LF6 F L ab (laidL ex x pt) y Ta) (fr : Frs (laidEnv nm L a cd :: envs) F)
    (k : ∀ y' b' s', y' ≠ x → (y' = 0 ∨ y' = y) → (b' = true ↔ Anc (fun j => Ta.lookup j) y' x) → (b' = true → ∀ z, Ta.lookup z ≠ some y') →
      St c (laidEnv nm L a cd :: envs) (join (upd (upd F (L + 2) (.cell (some (.int y' 0)))) L (.ns (("beneath", .bool b') :: laidL ex x pt))) G) s' → Q .next s') :
    wpAny (model PySem.Challenge.rw_bd0031_06.row.prog w) A (exec (laidSt 1) (laidEnv nm L a cd)) Q E s := by
  show wpAny _ _ (exec (Stmt.If _ _ _ _) _) _ _ _
  have lv := lf.ns (("beneath", .bool b) :: laidL ex x pt)
  have gL := join_l (G := G) lv.hL
  have g1 := join_l (G := G) lv.h1
  have g2 := join_l (G := G) lv.h2
  have ga := join_l (G := G) lv.ha
  have lk2 : ∀ y', LF6 (upd F (L + 2) (.cell (some (.int y' 0)))) L ab (laidL ex x pt) y' Ta := fun y' => lf.sy y'
  have frk : ∀ y' l', Frs (laidEnv nm L a cd :: envs) (upd (upd F (L + 2) (.cell (some (.int y' 0)))) L (.ns l')) := fun y' l' => (fr.turn lf.h2 rfl).ns (lk2 y').hL
  have nL2 : L ≠ L + 2 := by omega
  have same : upd F L (.ns (("beneath", .bool b) :: laidL ex x pt)) = upd (upd F (L + 2) (.cell (some (.int y 0)))) L (.ns (("beneath", .bool b) :: laidL ex x pt)) := by rw [upd_id lf.h2]
  have nTa : Ta.length ≤ 8 := T.len
  have q0 : false = true ↔ Anc (fun j => Ta.lookup j) 0 x := ⟨fun z => Bool.noConfusion z, fun z => absurd z (T.no0 x)⟩
  walk_at "m_st"
  · rename St _ _ _ _ => S1
    rename (join _ _ _ = none) => ht
    refine unpack2 S1 (upd_self ..) (.inl hh) ?_
    intro v1 v2 s2 h1 h2 S2
    clear S1
    (refine Mine.el_E (er_int h1) fun t1 zq0 => ?_; (first | subst zq0 | cases zq0))
    obtain rfl := er_bool h2
    walk_at "m_st"
    rename St _ _ _ _ => S3
    refine k 0 false _ (by first | decide | omega) (.inl rfl) q0 (fun z => Bool.noConfusion z) (S3.sub ?_ (frk _ _).join)
    rw [← upd_join, ← upd_join, ← upd_join]
    rw [← upd_join] at ht
    have ht0 := none_up ht
    have g20 := join_l (G := G) lf.h2
    change Sub _ (upd (upd (upd (upd (join F G) L _) _ _) (L + 2) _) L _)
    walk_at "m_sub"
  · rename St _ _ _ _ => S1
    rename (¬ y = x) => hyx
    refine iter_dict S1 ga ?_
    intro es ep it s9 ka hb hit S9
    clear S1
    rw [keys_iV] at S9
    have hrow : DR (upd (join (upd F L (.ns (("beneath", .bool b) :: laidL ex x pt))) G) ab (.raw (dictOf es ep))) ab ep (Ta.map (·.1)) := ⟨es, iV Ta, upd_self .., ka, keys_iV⟩
    have nA1 : L + 1 ≠ ab := ne_kind lv.h1 lv.ha (by intro z; (exact Mine.tag_ne z rfl))
    have nA2 : L + 2 ≠ ab := ne_kind lv.h2 lv.ha (by intro z; (exact Mine.tag_ne z rfl))
    refine comp_pure (row_keys ab ep (Ta.map (·.1))) (fltK Ta y) S9 hit hrow (.inl hh) (by rw [intsV_len, List.length_map]; omega) (by decide) rfl rfl ?_ ?_ ?_
    · intro C2 i2 v2 y2 s10 Hc l2 E2 hy2 hv2 keep2 hC2 S10
      unfold intsV at hy2
      rw [List.getElem?_map] at hy2
      (refine Mine.el_EA (Option.map_eq_some_iff.mp hy2) fun k0 hk0 zq0 => ?_; (first | subst zq0 | cases zq0))
      (refine Mine.el_E (Option.isSome_iff_exists.mp (mem_keys.mp (List.mem_of_getElem? hk0))) fun b0 hb0 => ?_)
      have e3 : (iV Ta).lookup k0 = some (.int b0 0) := by rw [lookup_iV, hb0]; rfl
      have f0 := keep2 ab _ (upd_self ..)
      have f1 := keep2 (L + 1) _ (upd_other nA1 g1)
      have f2 := keep2 (L + 2) _ (upd_other nA2 g2)
      have hf : (fltK Ta y (.int k0 0)).isSome = decide (b0 = y) := by
        show (if Ta.lookup k0 = some y then some (Value.int k0 0) else none).isSome = _
        rw [hb0]
        by_cases q : b0 = y
        · rw [q, if_pos rfl]; simp
        · rw [if_neg (fun z => q (Option.some.inj z)), decide_eq_false q]; rfl
      rw [hf]
      refine wpAny_tests_one ?_
      walk_at "m_st"
      all_goals first | assumption | rfl
    · intro C2 i2 v2 y2 z2 s10 Hc l2 E2 hy2 hv2 hz2 keep2 hC2 S10
      unfold intsV at hy2
      rw [List.getElem?_map] at hy2
      (refine Mine.el_EA (Option.map_eq_some_iff.mp hy2) fun k0 hk0 zq0 => ?_; (first | subst zq0 | cases zq0))
      have hz3 : z2 = .int k0 0 := by
        have : (if Ta.lookup k0 = some y then some (Value.int k0 0) else none) = some z2 := hz2
        split at this
        · (replace this := Option.some.inj this; subst this); rfl
        · (exact Mine.no_ns this)
      subst hz3
      walk_at "m_st"
      all_goals first | assumption | rfl
    · intro D C2 s10 l2 hD hC2 S10
      have frJ : Frs (laidEnv nm L a cd :: envs) (join (upd F L (.ns (("beneath", .bool b) :: laidL ex x pt))) G) := (fr.ns lf.hL).join
      refine comp_none S10 hC2 ((frJ.turn ga rfl).fresh hD) ?_
      intro s11 S11
      clear S10
      have nDa : ab ≠ D := (none_ne hD).symm
      have hD0 := none_up hD
      rw [upd_comm nDa] at S11
      have S12 := dr_close S11 ka hb
      clear S11
      have S13 := S12.sub (H := upd (join (upd F L (.ns (("beneath", .bool b) :: laidL ex x pt))) G) D (.list ((intsV (Ta.map (·.1))).filterMap (fltK Ta y)))) (by walk_at "m_sub") (frJ.fresh hD0)
      clear S12 S9
      have g20 := join_l (G := G) lf.h2
      rw [← upd_join] at hD0
      have hD1 := none_up hD0
      have hD2 := none_ne hD0
      walk_at "m_st"
      · rename St _ _ _ _ => S14
        rename (List.isEmpty _ = true) => hE
        rename (upd (join _ _) _ _ _ = none) => hN
        rw [← upd_join] at hN
        have hN0 := none_up hN
        refine k y b _ hyx (.inr rfl) hv (fun _ => fltK_nil hE) (S14.sub ?_ (frk _ _).join)
        rw [← same, ← upd_join]
        walk_at "m_sub"
      · rename St _ _ _ _ => S14
        refine unpack2 S14 (upd_self ..) (.inl hh) ?_
        intro v1 v2 s2 h1 h2 S2
        clear S14
        (refine Mine.el_E (er_int h1) fun t1 zq0 => ?_; (first | subst zq0 | cases zq0))
        obtain rfl := er_bool h2
        rename (upd (upd _ _ _) _ _ _ = none) => hT
        rename (upd (join _ _) _ _ _ = none) => hN
        walk_at "m_st"
        rename St _ _ _ _ => S3
        refine k 0 false _ (by first | decide | omega) (.inl rfl) q0 (fun z => Bool.noConfusion z) (S3.sub ?_ (frk _ _).join)
        rw [← upd_join, ← upd_join, ← upd_join]
        rw [← upd_join] at hT hN
        have hT0 := none_up (none_up (none_up hT))
        have hN0 := none_up (none_up hN)
        change Sub _ (upd (upd (upd (upd (upd (upd (join F G) L _) D _) _ _) _ _) (L + 2) _) L _)
        walk_at "m_sub"
  · rename St _ _ _ _ => S1
    rename (¬ y = x) => hyx
    rename (b = false) => hb
    rw [same] at S1
    exact k y b _ hyx (.inr rfl) hv (fun z => by rw [hb] at z; (exact Mine.no_ft z)) S1
end
end
section
section
variable {w : World} {c : Cx PySem.Challenge.rw_bd0031_06.row.prog w (MineTop.hd.heap_39 w.params)} {envs : List Env} {F G H : AH} {A : Around} {Q : Flow → Shared → Prop} {E : Value → Shared → Prop} {s : Shared} {nm : Str} {L a ab pt : Nat} {cd : Value} {ex b : Bool} {x y : Int} {Ta : Tb} {M : Mo}
theorem gip_weak {pt : Nat} {dep : Int} {M M1 : Mo} {ks ks1 : List Int} (h : GipC c 10 false pt dep M M1 ks ks1) : GipC c 60 true pt dep M M1 ks ks1 := by
  intro envs F G A E Q s tk D S R hA hh fF dj t k
  exact h S (R.mono (by first | decide | omega) (by first | decide | omega)) hA (fun z => by (exact Mine.no_ft z)) fF dj t k
theorem ks_len {M : Mo} {ks : List Int} (t : PTree 246 347 M ks pt G) (T : T6 M Ta fun _ => false) : ks.length ≤ 8 := by
  (refine Mine.el_EEEA t fun P dd Gt p _ => ?_; (try clear t))
  exact nodup_len (ks := eight) p.nd fun z hz => T.mem z ((T.sh.dom z).mp ((p.ks z).mp hz))
theorem le2 {M1 : Mo} {ks ks1 : List Int} {Ta1 : Tb} {cy : Bool} (T : T6 M Ta fun _ => false) (T1 : T6 M1 Ta1 fun _ => false) (hg : GipC c 60 true pt y M M1 ks ks1) (hg0 : y = 0 → M1 = M ∧ ks1 = ks) (hsub : ∀ j ∈ ks, j ∈ ks1) (hx1 : 1 ≤ x) (hx7 : x ≤ 7) (hyx : y ≠ x)
    (hy : y = 0 ∨ (Ta1.lookup y).isSome = true) (hax : Ta1.lookup x = Ta.lookup x) (hcy : cy = true ↔ Anc (fun j => Ta1.lookup j) y x) (leaf : cy = true → ∀ z, Ta1.lookup z ≠ some y) (hnx : Ta.lookup x = none → cy = false)
    (S : St c (laidEnv nm L a cd :: envs) (join F G) s) (R : Rm A 200 2000) (hA : A.frames = some (laidEnv nm L a cd :: envs)) (hh : A.handled = none) (lf : LF6 F L ab (("beneath", .bool b) :: laidL ex x pt) y Ta) (fr : Frs (laidEnv nm L a cd :: envs) F) (dj : Dj F G) (t : PTree 246 347 M ks pt G) (hks1 : ks1.length ≤ 100)
    (k : ∀ M' ks' G' px s', (Ta.lookup x).getD 0 = px → T6 M' (laidT Ta1 x y px cy ex) (fun _ => false) → Dj F G' → PTree 246 347 M' ks' pt G' → St c (laidEnv nm L a cd :: envs) (join F G') s' → Q .next s') :
    wpAny (model PySem.Challenge.rw_bd0031_06.row.prog w) A (exec (laidSt 2) (laidEnv nm L a cd)) Q E s := by
  show wpAny _ _ (exec (Stmt.If _ _ _ _) _) _ _ _
  have hkl := ks_len t T
  (refine Mine.el_E t.withD fun D tD => ?_)
  (refine Mine.el_EEEAAAAA (t.split dj) fun P dd Gt p f1 f2 zq0 zq1 ej => ?_; clear zq0; clear zq1)
  have hpt : join F G pt = some (.inst 347 (pfl P dd)) := by rw [ej]; exact join_l (upd_other p.ne (upd_self ..))
  have gL := join_l (G := G) lf.hL
  have g1 := join_l (G := G) lf.h1
  have g2 := join_l (G := G) lf.h2
  have ga := join_l (G := G) lf.ha
  (refine Mine.el_AEAA T1.small fun bd1 rk Rk ok1 hb => ?_)
  (refine Mine.el_EA T1.sh.fam.root fun r0 hr0 zq0 => ?_; clear zq0)
  have hDy : y = 0 ∨ (Ta1.lookup y).isSome = true := hy
  have hx0 : x ≠ 0 := by omega
  cases hA0 : Ta.lookup x with
  | some px =>
    have e1 : (iV Ta).lookup x = some (.int px 0) := by rw [lookup_iV, hA0]; rfl
    have hDx : x = 0 ∨ (Ta1.lookup x).isSome = true := .inr (by rw [hax, hA0]; rfl)
    (refine Mine.el_EEEAAAAAAAAAAA (repri_sh (ex := ex) (cy := cy) (w := 16) T1.sh Rk hb hx0 hDx hDy hyx (by rw [abv_anc T1.sh T1.z0, hcy]; exact ⟨.inr, fun h => h.resolve_left hyx⟩) (fun h z _ => leaf h z) (by decide) (by decide)) fun px' nx ny q1 q2 q3 q4 q5 q6 q7 q8 q9 q10 q11 q12 => ?_)
    have hpp : px' = px := by
      rw [hax, hA0] at q11
      exact (Option.some.inj q11).symm
    subst hpp
    rw [hA0] at k
    simp only [Option.getD_some] at k
    walk_at "m_st"
    rename St _ _ _ _ => S1
    refine wpAny_call ?_
    refine repri_spec (g := 60) (need := true) (ex := ex) (cy := cy) (D := D) (M := M) (M1 := M1) (ks := ks) (ks1 := ks1) (px := px') (nx := nx) (ny := ny) (.inr rfl) S1 (by walk_at "m_R") hA (by exact hh) fr dj tD hx0 hyx ?_ hsub ((T.sh.dom x).mpr (.inr (by rw [hA0]; rfl))) ((T.sh.dom 0).mpr (.inl rfl)) (by decide) (by decide) (bd1.mono (by decide)) q1 q2 q3 q4 q5 q6 q7 ?_ (fun i => 9 - rk i) ?_ ?_ q10 q8 q9 ?_
    · by_cases hy0 : y = 0
      · exact .inl ⟨hy0, hg0 hy0⟩
      · exact .inr ⟨hy0, hg⟩
    · intro i n hi h0
      (refine Mine.el_EEAA (T1.sh.fam.up i n hi h0 h0) fun p d g1 g2 _ => ?_)
      exact ⟨p, d, g1, g2⟩
    · intro i n p hi h0 hp
      (refine Mine.el_EEAA (T1.sh.fam.up i n hi h0 h0) fun p' d g1 g2 g3 => ?_)
      rw [hp] at g1
      (replace g1 := Option.some.inj g1; subst g1)
      have r1 := Rk p d g2 i g3
      have r2 := hb p
      show 9 - rk p < 9 - rk i
      omega
    · show 9 - rk y ≤ 90
      omega
    intro D' G' s2 eD d2 t2 S2
    clear S1
    walk_at "m_st"
    rename St _ _ _ _ => S3
    exact k _ ks1 G' _ _ rfl (T1.relaid (by rw [hax, hA0]; rfl) hy (fun hc => by
      have h1 := hcy.mp hc
      have go : ∀ u, Anc (fun j => Ta1.lookup j) y u → (Ta1.lookup y).isSome = true := fun u hu => by
        induction hu with
        | one e => rw [e]; rfl
        | more _ _ ih => exact ih
      exact go _ h1) q11 T1.ql.repri q12) d2 t2.ptree S3
  | none =>
    have e1 : (iV Ta).lookup x = none := by rw [lookup_iV, hA0]; rfl
    rw [hA0] at k
    have hcf := hnx hA0
    subst hcf
    have hn : M x = none := by
      cases z : M x with
      | none => rfl
      | some m => rcases (T.sh.dom x).mp ⟨m, z⟩ with h | h
                  · exact absurd h hx0
                  · rw [hA0] at h; (exact Mine.no_ft h)
    have hnD : ¬ (x = 0 ∨ (Ta1.lookup x).isSome = true) := fun z => by
      rcases z with h | h
      · exact hx0 h
      · rw [hax, hA0] at h; (exact Mine.no_ft h)
    have hn1 : M1 x = none := by
      cases z : M1 x with
      | none => rfl
      | some m => exact absurd ((T1.sh.dom x).mp ⟨m, z⟩) hnD
    (refine Mine.el_E ((T1.sh.dom y).mpr hy) fun dy hdy => ?_)
    have clo1 : Clo M1 := ⟨bd1.kx, fun i n p hi hp => by
      by_cases h0 : i = 0
      · have z := T1.sh.r0
        rw [← h0, parOf_eq hi, hp] at z; (exact Mine.no_sn z)
      · (refine Mine.el_EEAA (T1.sh.fam.up i n hi h0 h0) fun p' d g1 g2 _ => ?_)
        rw [hp] at g1; (replace g1 := Option.some.inj g1; subst g1)
        exact ⟨d, g2⟩⟩
    have w1 := bd1.ql y dy hdy
    have w2 := bd1.kl y dy hdy
    walk_at "m_st"
    rename St _ _ _ _ => S1
    refine wpAny_call ?_
    refine insert_spec (g := 60) (need := true) (ex := ex) (D := D) (M := M) (M1 := M1) (ks := ks) (ks1 := ks1) (rk := rk) (.inr ⟨⟨_, rfl⟩, .inr rfl⟩) S1 (by walk_at "m_R") hA (fun _ => by exact hh) fr dj tD hg hn hyx (by first | decide | omega) (by first | decide | omega) hsub hn1 ok1 clo1 hdy hr0 (by decide) (by decide) (by first | decide | omega) (by first | decide | omega) (bd1.kx y dy hdy) ?_
    intro D' G' s2 eD d2 t2 S2
    clear S1
    have ins := inserted_sh (ex := ex) (w := 16) T1.sh hx0 hnD hy (by decide) (by decide)
    (refine Mine.el_E ((ins.dom x).mpr (.inl rfl)) fun nx hnx' => ?_)
    (refine Mine.el_EEEAAAAAA (t2.split d2) fun P2 dd2 Gt2 p2 f12 f22 zq0 zq1 ej2 zq2 => ?_; clear zq0; clear zq1; clear zq2)
    have hpt2 : join F G' pt = some (.inst 347 (pfl P2 dd2)) := by rw [ej2]; exact join_l (upd_other p2.ne (upd_self ..))
    have gL := join_l (G := G') lf.hL
    walk_at "m_st"
    rename St _ _ _ _ => S3
    refine block_specD S3 (by walk_at "m_R") fr d2 t2 hnx' hx0 ?_
    intro G3 s4 d3 t3 S4
    clear S3
    walk_at "m_st"
    rename St _ _ _ _ => S5
    have Q3 : Ql (actv (if ex then adoptX (M1.put x (newNd 16)) y x else adopt (M1.put x (newNd 16)) y x) x false) := by
      cases ex with
      | true => exact (T1.ql.new.adoptX).actv
      | false => exact (T1.ql.new.adopt).actv
    exact k _ _ G3 0 _ rfl (T1.insd (by rw [hax]; exact hA0) hx1 hx7 hy Q3 ((ins.actv (b := false) hx0).congr (fun _ => Iff.rfl) (fun _ _ _ => rfl) fun j _ => by
      by_cases q : j = x
      · rw [if_pos q, if_pos q]
      · rw [if_neg q, if_neg q, if_neg q])) d3 t3.ptree S5
theorem le3 (hTa : Ta.length ≤ 20) (S : St c (laidEnv nm L a cd :: envs) (join F G) s) (lf : LF6 F L ab (("beneath", .bool b) :: laidL ex x pt) y Ta) (fr : Frs (laidEnv nm L a cd :: envs) F) (dj : Dj F G)
    (k : ∀ Ta' s', (if y ≠ 0 ∧ Ta.lookup y = none then Ta' = tput y 0 Ta else Ta' = Ta) → St c (laidEnv nm L a cd :: envs) (join (upd F ab (.imap (iV Ta'))) G) s' → Q .next s') :
    wpAny (model PySem.Challenge.rw_bd0031_06.row.prog w) A (exec (laidSt 3) (laidEnv nm L a cd)) Q E s := by
  show wpAny _ _ (exec (Stmt.If _ _ _ _) _) _ _ _
  have gL := join_l (G := G) lf.hL
  have g1 := join_l (G := G) lf.h1
  have g2 := join_l (G := G) lf.h2
  have ga := join_l (G := G) lf.ha
  have same : upd F ab (.imap (iV Ta)) = F := upd_id lf.ha
  have l1 : (iV Ta).length ≤ 20 := by rw [len_iV]; exact hTa
  cases hA : Ta.lookup y with
  | some b0 =>
    have e1 : (iV Ta).lookup y = some (.int b0 0) := by rw [lookup_iV, hA]; rfl
    walk_at "m_st"
    all_goals
      rename St _ _ _ _ => S1
      exact k Ta _ (by rw [if_neg (by rw [hA]; intro z; (exact Mine.no_sn (z.2)))]) (by rw [same]; exact S1)
  | none =>
    have e1 : (iV Ta).lookup y = none := by rw [lookup_iV, hA]; rfl
    walk_at "m_st"
    · rename St _ _ _ _ => S1
      have hy0 : y ≠ 0 := by assumption
      rw [kput_iV, upd_join] at S1
      exact k (tput y 0 Ta) _ (by rw [if_pos ⟨hy0, hA⟩]) S1
    · rename St _ _ _ _ => S1
      have hy0 : y = 0 := by first | assumption | omega
      exact k Ta _ (by rw [if_neg (fun z => z.1 hy0)]) (by rw [same]; exact S1)
theorem le4 (hTa : Ta.length ≤ 20) {px : Int} (hv : b = true → Ta.lookup x = some px) (S : St c (laidEnv nm L a cd :: envs) (join F G) s) (lf : LF6 F L ab (("beneath", .bool b) :: laidL ex x pt) y Ta) (fr : Frs (laidEnv nm L a cd :: envs) F) (dj : Dj F G)
    (k : ∀ s', St c (laidEnv nm L a cd :: envs) (join (upd F ab (.imap (iV (if b = true then tput y px Ta else Ta)))) G) s' → Q .next s') :
    wpAny (model PySem.Challenge.rw_bd0031_06.row.prog w) A (exec (laidSt 4) (laidEnv nm L a cd)) Q E s := by
  show wpAny _ _ (exec (Stmt.If _ _ _ _) _) _ _ _
  have gL := join_l (G := G) lf.hL
  have g1 := join_l (G := G) lf.h1
  have g2 := join_l (G := G) lf.h2
  have ga := join_l (G := G) lf.ha
  have l1 : (iV Ta).length ≤ 20 := by rw [len_iV]; exact hTa
  cases b with
  | true =>
    have e1 : (iV Ta).lookup x = some (.int px 0) := by rw [lookup_iV, hv rfl]; rfl
    rw [if_pos rfl] at k
    walk_at "m_st"
    rename St _ _ _ _ => S1
    rw [kput_iV, upd_join] at S1
    exact k _ S1
  | false =>
    rw [if_neg (by decide), upd_id lf.ha] at k
    walk_at "m_st"
    rename St _ _ _ _ => S1
    exact k _ S1
theorem le6 (hTa : Ta.length ≤ 20) (S : St c (laidEnv nm L a cd :: envs) (join F G) s) (lf : LF6 F L ab (("beneath", .bool b) :: laidL ex x pt) y Ta) (fr : Frs (laidEnv nm L a cd :: envs) F) (dj : Dj F G)
    (k : ∀ s', St c (laidEnv nm L a cd :: envs) (join (upd F ab (.imap (iV (tput x y Ta)))) G) s' → Q .next s') :
    wpAny (model PySem.Challenge.rw_bd0031_06.row.prog w) A (exec (laidSt 6) (laidEnv nm L a cd)) Q E s := by
  show wpAny _ _ (exec (Stmt.Assign _ _ _) _) _ _ _
  have gL := join_l (G := G) lf.hL
  have g1 := join_l (G := G) lf.h1
  have g2 := join_l (G := G) lf.h2
  have ga := join_l (G := G) lf.ha
  have l1 : (iV Ta).length ≤ 20 := by rw [len_iV]; exact hTa
  walk_at "m_st"
  rename St _ _ _ _ => S1
  rw [kput_iV, upd_join] at S1
  exact k _ S1
end
end
section
section
variable {w : World} {c : Cx PySem.Challenge.rw_bd0031_06.row.prog w (MineTop.hd.heap_39 w.params)} {envs : List Env} {F G H : AH} {A : Around} {Q : Flow → Shared → Prop} {E : Value → Shared → Prop} {s : Shared} {nm : Str} {L a ab pt : Nat} {cd : Value} {ex b : Bool} {x y : Int} {Ta : Tb} {M : Mo}
noncomputable abbrev aloneF (x y : Int) : Int → Int → Int := fun z b => if z ≠ x ∧ b = y then x else b
inductive IAl (G : AH) (ab ep : Nat) (Ta : Tb) (x y : Int) (b0 : List (Str × Value)) (i : Nat) (l : List (Str × Value)) (Gx : AH) : Prop
  | mk (es : List DictEntry) (h1 : KeysAre es (iV (turned (aloneF x y) Ta i))) (h2 : Gx = upd G ab (.raw (dictOf es ep))) (h3 : l = b0 ∨ ∃ z, l = (("z" : Str), z) :: b0) : IAl G ab ep Ta x y b0 i l Gx
theorem le5 (hh : A.handled = none) (hn : (Ta.map (·.1)).Nodup) (S : St c (laidEnv nm L a cd :: envs) (join F G) s) (lf : LF6 F L ab (("beneath", .bool b) :: laidL ex x pt) y Ta) (fr : Frs (laidEnv nm L a cd :: envs) F) (dj : Dj F G)
    (k : ∀ s', St c (laidEnv nm L a cd :: envs) (join (upd F ab (.imap (iV (if ex then tmap (aloneF x y) Ta else Ta)))) G) s' → Q .next s') :
    wpAny (model PySem.Challenge.rw_bd0031_06.row.prog w) A (exec (laidSt 5) (laidEnv nm L a cd)) Q E s := by
  show wpAny _ _ (exec (Stmt.If _ _ _ _) _) _ _ _
  have gL := join_l (G := G) lf.hL
  have g1 := join_l (G := G) lf.h1
  have g2 := join_l (G := G) lf.h2
  have ga := join_l (G := G) lf.ha
  cases ex with
  | false =>
    rw [if_neg (by decide), upd_id lf.ha] at k
    walk_at "m_st"
    rename St _ _ _ _ => S1
    exact k _ S1
  | true =>
    rw [if_pos rfl] at k
    have nLa : L ≠ ab := ne_kind lf.hL lf.ha (by intro z; (exact Mine.tag_ne z rfl))
    have n1a : L + 1 ≠ ab := ne_kind lf.h1 lf.ha (by intro z; (exact Mine.tag_ne z rfl))
    have n2a : L + 2 ≠ ab := ne_kind lf.h2 lf.ha (by intro z; (exact Mine.tag_ne z rfl))
    walk_at "m_st"
    refine wpAny_For ?_
    walk_at "m_st"
    rename St _ _ _ _ => S1
    refine iter_dict S1 ga ?_
    intro es ep it s2 ka hb hit S2
    clear S1
    rw [keys_iV, upd_join, join_move lf.ha] at S2
    rw [upd_join, join_move lf.ha] at hit
    have frD : Frs (laidEnv nm L a cd :: envs) (F.del ab) := fr.del lf.ha rfl
    have djD : Dj (F.del ab) (upd G ab (.raw (dictOf es ep))) := dj.del_r
    have hLD : F.del ab L = some (.ns (("beneath", .bool b) :: laidL true x pt)) := (if_neg nLa).trans lf.hL
    refine for_tree (row_keys ab ep (Ta.map (·.1))) (IAl G ab ep Ta x y (("beneath", .bool b) :: laidL true x pt)) S2 hit hLD frD djD ⟨es, ka, rfl, .inl rfl⟩ ?_ hh ?_ ?_
    · rintro i l Gx ⟨es', h1, rfl, h3⟩ dx
      exact ⟨es', _, join_r (dx.l (dx.has hLD)) (upd_self ..), h1, by rw [keys_iV, turned_keys]⟩
    · rintro i F2 l' G' s3 y0 ⟨es', h1, rfl, h3⟩ hx kp hL2 dj2 fr2 S3 QB EB hQB
      unfold intsV at hx
      rw [List.getElem?_map, List.getElem?_map] at hx
      (refine Mine.el_EA (Option.map_eq_some_iff.mp hx) fun z hz zq0 => ?_; (first | subst zq0 | cases zq0))
      (refine Mine.el_EA (Option.map_eq_some_iff.mp hz) fun p0 hp0 zq0 => ?_; (first | subst zq0 | cases zq0))
      (refine Mine.el_E (List.getElem?_eq_some_iff.mp hp0) fun hi hpi => ?_)
      have f1 := join_l (G := upd G ab (.raw (dictOf es' ep))) (kp _ _ (Nat.succ_ne_self L) ((if_neg n1a).trans lf.h1 : F.del ab (L + 1) = _))
      have f2 := join_l (G := upd G ab (.raw (dictOf es' ep))) (kp _ _ (by first | decide | omega) ((if_neg n2a).trans lf.h2 : F.del ab (L + 2) = _))
      have fL := join_l (G := upd G ab (.raw (dictOf es' ep))) hL2
      have fa := join_r dj2 (upd_self G ab (.raw (dictOf es' ep)))
      have e1 : (iV (turned (aloneF x y) Ta i)).lookup p0.1 = some (.int p0.2 0) := by
        rw [lookup_iV]
        have := turned_lookup (f := aloneF x y) hn hi
        rw [hpi] at this
        rw [this]; rfl
      have e2 : ((iV (turned (aloneF x y) Ta i)).lookup p0.1).isSome = true := by rw [e1]; rfl
      have h3' : List.lookup ("x" : Str) (("z", Value.int p0.1 0) :: l') = some (.int x 0) := by
        rcases h3 with rfl | ⟨z, rfl⟩ <;> rfl
      have kF2 : F2 ab = none := dj2 _ _ (upd_self ..)
      have hsub : ∀ (es2 : List DictEntry) s', St c (laidEnv nm L a cd :: envs) (join F2 (upd G ab (.raw (dictOf es2 ep)))) s' → St c (laidEnv nm L a cd :: envs) (join (upd F2 L (.ns (("z", .int p0.1 0) :: ("beneath", .bool b) :: laidL true x pt))) (upd G ab (.raw (dictOf es2 ep)))) s' := fun es2 s' S' => by
        refine S'.sub ?_ (fr2.ns hL2).join
        have fL3 := join_l (G := upd G ab (.raw (dictOf es2 ep))) hL2
        rw [← upd_join]
        rcases h3 with rfl | ⟨z, rfl⟩ <;> walk_at "m_sub"
      have dj3 : ∀ es2, Dj F2 (upd G ab (.raw (dictOf es2 ep))) := fun es2 => by
        have := dj2.r (o := .raw (dictOf es2 ep)) kF2
        rwa [upd_upd] at this
      walk_at "m_st"
      · rename St _ _ _ _ => S4
        rename (KeysAre _ (kput _ _ _)) => hk
        rename (p0.1 ≠ x) => hc1
        rename (p0.2 = y) => hc2
        rw [upd_join_r kF2, upd_upd] at S4
        refine ⟨("z", .int p0.1 0) :: ("beneath", .bool b) :: laidL true x pt, _, ⟨_, ?_, rfl, .inr ⟨_, rfl⟩⟩, dj3 _, hsub _ _ S4⟩
        rw [kput_iV] at hk
        have e3 := turned_put (f := aloneF x y) hn hi
        rw [hpi, show aloneF x y p0.1 p0.2 = x from if_pos ⟨hc1, hc2⟩] at e3
        rw [← e3]; exact hk
      · rename St _ _ _ _ => S4
        rename (¬ p0.2 = y) => hc2
        refine ⟨("z", .int p0.1 0) :: ("beneath", .bool b) :: laidL true x pt, _, ⟨es', ?_, rfl, .inr ⟨_, rfl⟩⟩, dj3 _, hsub _ _ S4⟩
        rw [turned_same hi (by rw [hpi]; exact if_neg fun z => hc2 z.2)]; exact h1
      · rename St _ _ _ _ => S4
        have hc1 : p0.1 = x := by first | assumption | omega
        refine ⟨("z", .int p0.1 0) :: ("beneath", .bool b) :: laidL true x pt, _, ⟨es', ?_, rfl, .inr ⟨_, rfl⟩⟩, dj3 _, hsub _ _ S4⟩
        rw [turned_same hi (by rw [hpi]; exact if_neg fun z => z.1 hc1)]; exact h1
    · rintro l' G' s3 ⟨es', h1, rfl, h3⟩ d9 S3
      walk_at "m_st"
      have kD : upd (F.del ab) L (.ns l') ab = none := upd_other (Ne.symm nLa) (if_pos rfl)
      rw [← upd_join_r kD] at S3
      have S4 := dr_close S3 h1 hb
      rw [intsV_len, List.length_map, turned_end] at S4
      refine k _ (S4.sub ?_ (fr.turn lf.ha rfl).join)
      intro b o hbo
      by_cases q : b = ab
      · subst q
        rw [join_l (upd_self ..)] at hbo
        (replace hbo := Option.some.inj hbo; subst hbo)
        exact ⟨_, upd_self .., .inl rfl⟩
      · rw [upd_ne q]
        by_cases q2 : b = L
        · subst q2
          rw [join_l ((upd_ne q).trans lf.hL)] at hbo
          (replace hbo := Option.some.inj hbo; subst hbo)
          refine ⟨_, join_l (upd_self ..), ?_⟩
          rcases h3 with rfl | ⟨z, rfl⟩ <;> walk_at "m_le"
        · refine ⟨o, ?_, .inl rfl⟩
          have e3 : upd (F.del ab) L (.ns l') b = F b := (upd_ne q2).trans (if_neg q)
          cases z : F b with
          | some o2 =>
            rw [join_l ((upd_ne q).trans z)] at hbo
            (replace hbo := (Option.some.inj hbo).symm; subst hbo)
            exact join_l (e3.trans z)
          | none =>
            rw [join_n ((upd_ne q).trans z)] at hbo
            rw [join_n (e3.trans z)]
            exact hbo
end
end
section
section
variable {w : World} {c : Cx PySem.Challenge.rw_bd0031_06.row.prog w (MineTop.hd.heap_39 w.params)} {envs : List Env} {F G H : AH} {A : Around} {E Q : Value → Shared → Prop} {s : Shared} {pt ab : Nat} {ex b : Bool} {x y px : Int} {Ta Ta1 : Tb} {M : Mo}
theorem T6.clo (T : T6 M Ta fun _ => false) : Clo M := by
  (refine Mine.el_A T.small fun bd zq0 => ?_; clear zq0)
  refine ⟨bd.kx, fun i n p hi hp => ?_⟩
  by_cases h0 : i = 0
  · have z := T.sh.r0
    rw [← h0, parOf_eq hi, hp] at z; (exact Mine.no_sn z)
  · (refine Mine.el_EEAA (T.sh.fam.up i n hi h0 h0) fun p' d g1 g2 _ => ?_)
    rw [hp] at g1; (replace g1 := Option.some.inj g1; subst g1)
    exact ⟨d, g2⟩
inductive Par6 (c : Cx PySem.Challenge.rw_bd0031_06.row.prog w (MineTop.hd.heap_39 w.params)) (pt : Nat) (y : Int) (Ta : Tb) (M : Mo) (ks : List Int) : Prop
  | mk (M1 : Mo) (ks1 : List Int) (Ta1 : Tb) (T1 : T6 M1 Ta1 fun _ => false) (hg : GipC c 60 true pt y M M1 ks ks1) (hg0 : y = 0 → M1 = M ∧ ks1 = ks) (hsub : ∀ j ∈ ks, j ∈ ks1) (hyd : y = 0 ∨ (Ta1.lookup y).isSome = true) (hk : ks1.length ≤ 100)
    (hif : if y ≠ 0 ∧ Ta.lookup y = none then Ta1 = tput y 0 Ta else Ta1 = Ta) : Par6 c pt y Ta M ks
theorem par_pack (T : T6 M Ta fun _ => false) {ks : List Int} (hk0 : ks.length ≤ 8) (hy0 : 0 ≤ y) (hy7 : y ≤ 7) : Par6 c pt y Ta M ks := by
  by_cases h : y ≠ 0 ∧ Ta.lookup y = none
  · (refine Mine.el_AEAA T.small fun bd rk Rk ok hb => ?_)
    (refine Mine.el_EA T.sh.fam.root fun r hr zq0 => ?_; clear zq0)
    have w1 := bd.ql 0 r hr
    have w2 := bd.kl 0 r hr
    refine ⟨made M y, ks ++ [y], _, T.made (by have := h.1; omega) hy7 h.2, gip_new (rk := rk) ?_ h.1 (by first | decide | omega) ok T.clo hr (by first | decide | omega) (by first | decide | omega), fun z => absurd z h.1, fun j hj => List.mem_append_left _ hj, .inr (by rw [lookup_tput, if_pos rfl]; rfl), by rw [List.length_append]; simp; omega, by rw [if_pos h]⟩
    cases z : M y with
    | none => rfl
    | some m =>
      rcases (T.sh.dom y).mp ⟨m, z⟩ with q | q
      · exact absurd q h.1
      · rw [h.2] at q; (exact Mine.no_ft q)
  · have hy : y = 0 ∨ (Ta.lookup y).isSome = true := by
      by_cases q : y = 0
      · exact .inl q
      · refine .inr ?_
        cases z : Ta.lookup y with
        | none => exact absurd ⟨q, z⟩ h
        | some b => rfl
    exact ⟨M, ks, Ta, T, gip_weak (gip_here ((T.sh.dom y).mpr hy)), fun _ => ⟨rfl, rfl⟩, fun j hj => hj, hy, by omega, by rw [if_neg h]⟩
theorem anc_n {u : Int} (h : Ta.lookup u = none) : ∀ z, ¬ Anc (fun j => Ta.lookup j) u z := fun z hu => by
  induction hu with
  | one e => rw [h] at e; (exact Mine.no_ns e)
  | more _ _ ih => exact ih
structure Pl6 (b : Bool) (x y : Int) (Ta Ta1 : Tb) : Prop where
  ax : Ta1.lookup x = Ta.lookup x
  cy : b = true ↔ Anc (fun j => Ta1.lookup j) y x
  lf : b = true → ∀ z, Ta1.lookup z ≠ some y
  nx : Ta.lookup x = none → b = false
  px : b = true → Ta1.lookup x = some ((Ta.lookup x).getD 0)
theorem laid_pl {M1 : Mo} (T : T6 M Ta fun _ => false) (T1 : T6 M1 Ta1 fun _ => false) (hx1 : 1 ≤ x) (hyx : y ≠ x) (hv : b = true ↔ Anc (fun j => Ta.lookup j) y x) (leaf : b = true → ∀ z, Ta.lookup z ≠ some y)
    (h : if y ≠ 0 ∧ Ta.lookup y = none then Ta1 = tput y 0 Ta else Ta1 = Ta) : Pl6 b x y Ta Ta1 := by
  have e1 : Ta1.lookup x = Ta.lookup x := by
    split at h
    · rw [h, lookup_tput, if_neg (Ne.symm hyx)]
    · rw [h]
  have e2 : Ta.lookup x = none → b ≠ true := fun z q => by
    rcases T.anc_some (hv.mp q) with r | r
    · omega
    · rw [z] at r; (exact Mine.no_ft r)
  refine ⟨e1, ?_, ?_, fun z => by simpa using e2 z, fun q => ?_⟩
  · rw [hv]
    split at h
    · rename_i hc
      refine ⟨fun a => absurd a (anc_n hc.2 x), fun a => ?_⟩
      have e3 : (fun j => Ta1.lookup j) y = some 0 := by
        show Ta1.lookup y = _
        rw [h, lookup_tput, if_pos rfl]
      rcases a.step e3 with r | r
      · omega
      · exact absurd r (T1.no0 x)
    · rw [h]
  · intro q
    split at h
    · rename_i hc
      exact absurd (hv.mp q) (anc_n hc.2 x)
    · rw [h]; exact leaf q
  · rw [e1]
    cases z : Ta.lookup x with
    | none => exact absurd q (e2 z)
    | some b => rfl
theorem tput_len {k v : Int} : (tput k v Ta).length ≤ Ta.length + 1 := by
  rw [← List.length_map (f := (·.1)), ← List.length_map (as := Ta) (f := (·.1)), keys_tput]
  split
  · omega
  · simp
theorem laidT_eq : tput x y (if ex = true then tmap (aloneF x y) (if b = true then tput y px Ta else Ta) else if b = true then tput y px Ta else Ta) = laidT Ta x y px b ex := by
  unfold laidT
  cases b <;> rfl
theorem laid_body : fnBody (PySem.Challenge.rw_bd0031_06.row.prog.main.body.getD 20 default) = [laidSt 0, laidSt 1, laidSt 2, laidSt 3, laidSt 4, laidSt 5, laidSt 6] := rfl
theorem laid_spec {ks : List Int} {tx ty : Tok} (S : St c envs (join F G) s) (R : Rm A 260 2400) (hA : A.frames = some envs) (hh : A.handled = none) (fF : Frs envs F) (dj : Dj F G) (t : PTree 246 347 M ks pt G) (hab : F ab = some (.imap (iV Ta)))
    (T : T6 M Ta fun _ => false) (hx1 : 1 ≤ x) (hx7 : x ≤ 7) (hy0 : 0 ≤ y) (hy7 : y ≤ 7)
    (k : ∀ M' ks' Ta' G' s', T6 M' Ta' (fun _ => false) → (Ta'.lookup x).isSome = true → Dj (upd F ab (.imap (iV Ta'))) G' → PTree 246 347 M' ks' pt G' → St c envs (join (upd F ab (.imap (iV Ta'))) G') s' → Q .none s') :
    wpAny (model PySem.Challenge.rw_bd0031_06.row.prog w) A (call (.ref 375) [.ref pt, .ref ab, .int x tx, .int y ty, .bool ex]) Q E s := by
  refine wpAny_call ?_
  k_dflt refine' code_fn2 (binds := [("tree", Value.ref pt), ("above", Value.ref ab), ("x", .int x tx), ("y", .int y ty), ("alone", .bool ex)]) (l := laidL ex x pt) (x := "above") (y := "y") (v := .ref ab) (u := .int y 0) S R ?k1 ?k2 ?k3 ?k4 ?kxy ?k5 ?k6 ?k7 ?k7b ?_ ?k8 ?k9 ?k10 ?k11
  case k1 => k_is
  case k2 => k_is
  case k3 => rfl
  case k4 => exact fun _ => rfl
  case kxy => decide
  case k5 =>
    intro y hy
    simp only [List.mem_cons, List.not_mem_nil, or_false] at hy
    rcases hy with rfl | rfl | rfl | rfl | rfl <;> first | exact .inl rfl | exact .inr ⟨rfl, .inl rfl⟩ | exact .inr ⟨rfl, .inr rfl⟩
  case k6 => exact fun _ => rfl
  case k7 => exact fun _ => rfl
  case k7b => exact fun _ => rfl
  case k8 => rfl
  case k9 => rfl
  case k10 => rfl
  case k11 => rfl
  intro L s1 hL hC hD S1
  clear S
  refine hideQ ?_
  intro QF hQF
  refine hideE ?_
  intro EF hEF
  change St c (laidEnv _ L 375 _ :: envs) _ _ at S1
  change wpAny _ _ (execs (fnBody (PySem.Challenge.rw_bd0031_06.row.prog.main.body.getD 20 default)) (laidEnv _ L 375 _)) _ _ _
  rw [laid_body]
  (refine Mine.el_A (join_none hL) fun fL gL => ?_)
  (refine Mine.el_A (join_none hC) fun fC gC => ?_)
  (refine Mine.el_A (join_none hD) fun fD gD => ?_)
  rw [upd_join, upd_join, upd_join] at S1
  (refine Mine.el_E (show ∃ F1, F1 = upd (upd (upd F L (.ns (laidL ex x pt))) (L + 1) (.cell (some (.ref ab)))) (L + 2) (.cell (some (.int y 0))) from ⟨_, rfl⟩) fun F1 hF1 => ?_)
  rw [← hF1] at S1
  suffices key : ∀ nm cd s1, St c (laidEnv nm L 375 cd :: envs) (join F1 G) s1 → wpAny (model PySem.Challenge.rw_bd0031_06.row.prog w) (A.deeper (laidEnv nm L 375 cd)) (execs [laidSt 0, laidSt 1, laidSt 2, laidSt 3, laidSt 4, laidSt 5, laidSt 6] (laidEnv nm L 375 cd)) QF EF s1 from key _ _ _ S1
  clear S1
  intro nm cd s1 S1
  have fF0 := fF
  have lf1 : LF6 F1 L ab (laidL ex x pt) y Ta := by
    rw [hF1]
    exact ⟨upd_other (by first | decide | omega) (upd_other (by first | decide | omega) (upd_self ..)), upd_other (by first | decide | omega) (upd_self ..), upd_self .., upd_other (ne_fresh fD hab) (upd_other (ne_fresh fC hab) (upd_other (ne_fresh fL hab) hab))⟩
  have kp1 : Kp6 L ab F F1 := by rw [hF1]; exact (((Kp6.refl F).upd (.inl rfl) _).upd (.inr (.inl rfl)) _).upd (.inr (.inr (.inl rfl))) _
  have dj1 : Dj F1 G := by rw [hF1]; exact ((dj.l gL).l gC).l gD
  have fr1 := Frs.cons (env := laidEnv nm L 375 cd) (by rw [hF1]; exact ((fF.fresh fL).fresh ((upd_ne (by first | decide | omega)).trans fC)).fresh ((upd_ne (by first | decide | omega)).trans ((upd_ne (by first | decide | omega)).trans fD))) lf1.hL rfl (by intro z; cases z)
  have hkl := ks_len t T
  refine execs_cons_h ?_
  intro Q0 hQ0
  refine le0 T (by first | decide | omega) S1 (by walk_at "m_R") (Around.frames_deeper hA) (by exact hh) lf1 fr1 dj1 ?_
  intro b0 s2 hb0 S2
  refine unhide hQ0 ?_
  dsimp only
  clear S1 hQ0 Q0
  refine execs_cons_h ?_
  intro Q2 hQ2
  refine le1 T hx1 hb0 (by walk_at "m_R") (by exact hh) S2 lf1 fr1 ?_
  intro y' b s4 hyx hyy hv leaf S4
  refine unhide hQ2 ?_
  dsimp only
  clear S2 hQ2 Q2 hb0
  have z0 : 0 ≤ y' := by omega
  have z7 : y' ≤ 7 := by omega
  clear hyy hy0 hy7
  have lf2 := (lf1.sy y').ns (("beneath", .bool b) :: laidL ex x pt)
  have kp2 := (kp1.upd (.inr (.inr (.inl rfl))) (.cell (some (.int y' 0)))).upd (.inl rfl) (.ns (("beneath", .bool b) :: laidL ex x pt))
  have fr2 := (fr1.turn lf1.h2 rfl (x := .cell (some (.int y' 0)))).ns (lf1.sy y').hL (l' := ("beneath", .bool b) :: laidL ex x pt)
  have dj2 : Dj (upd (upd F1 (L + 2) (.cell (some (.int y' 0)))) L (.ns (("beneath", .bool b) :: laidL ex x pt))) G := (dj1.l gD).l gL
  generalize upd (upd F1 (L + 2) (.cell (some (.int y' 0)))) L (.ns (("beneath", .bool b) :: laidL ex x pt)) = F2 at S4 lf2 kp2 fr2 dj2
  clear hF1 kp1 fr1 dj1 lf1 fF
  clear F1
  obtain ⟨M1, ks1, Ta1, T1, hg, hg0, hsub, hyd, hk1, hif⟩ := par_pack (c := c) (pt := pt) T (ks := ks) hkl z0 z7
  have pl := laid_pl T T1 hx1 hyx hv leaf hif
  refine execs_cons_h ?_
  intro Q3 hQ3
  refine le2 T T1 hg hg0 hsub hx1 hx7 hyx hyd pl.ax pl.cy pl.lf pl.nx S4 (by walk_at "m_R") (Around.frames_deeper hA) (by exact hh) lf2 fr2 dj2 t hk1 ?_
  intro M' ks' G' px s5 epx T' dj3 t' S5
  refine unhide hQ3 ?_
  dsimp only
  clear S4 hQ3 Q3 t hg hg0 hsub dj2
  have tl1 := T.len
  refine execs_cons_h ?_
  intro Q4 hQ4
  refine le3 (by first | decide | omega) S5 lf2 fr2 dj3 ?_
  intro Ta4 s6 hif4 S6
  have eA : Ta4 = Ta1 := by
    split at hif
    · rename_i hc; rw [if_pos hc] at hif4; rw [hif, hif4]
    · rename_i hc; rw [if_neg hc] at hif4; rw [hif, hif4]
  subst eA
  refine unhide hQ4 ?_
  dsimp only
  clear S5 hQ4 Q4
  have lf4 := lf2.sa Ta4
  have kp4 := kp2.upd (.inr (.inr (.inr rfl))) (.imap (iV Ta4))
  have fr4 := fr2.turn lf2.ha rfl (x := .imap (iV Ta4))
  have dj4 : Dj (upd F2 ab (.imap (iV Ta4))) G' := dj3.l (dj3.has lf2.ha)
  have tl4 := T1.len
  generalize upd F2 ab (.imap (iV Ta4)) = F4 at S6 lf4 kp4 fr4 dj4
  clear lf2 kp2 fr2 dj3
  clear F2
  refine execs_cons_h ?_
  intro Q5 hQ5
  refine le4 (px := px) (by first | decide | omega) (fun q => by rw [pl.px q, epx]) S6 lf4 fr4 dj4 ?_
  intro s7 S7
  refine unhide hQ5 ?_
  dsimp only
  clear S6 hQ5 Q5
  (refine Mine.el_E (show ∃ Tb5, Tb5 = (if b = true then tput y' px Ta4 else Ta4) from ⟨_, rfl⟩) fun Tb5 hT5 => ?_)
  rw [← hT5] at S7
  have n5 : (Tb5.map (·.1)).Nodup := by rw [hT5]; split; exact nd_tput T1.an; exact T1.an
  have l5 : Tb5.length ≤ 10 := by rw [hT5]; split; exact Nat.le_trans tput_len (by first | decide | omega); omega
  have lf5 := lf4.sa Tb5
  have kp5 := kp4.upd (.inr (.inr (.inr rfl))) (.imap (iV Tb5))
  have fr5 := fr4.turn lf4.ha rfl (x := .imap (iV Tb5))
  have dj5 : Dj (upd F4 ab (.imap (iV Tb5))) G' := dj4.l (dj4.has lf4.ha)
  generalize upd F4 ab (.imap (iV Tb5)) = F5 at S7 lf5 kp5 fr5 dj5
  clear lf4 kp4 fr4 dj4
  clear F4
  refine execs_cons_h ?_
  intro Q6 hQ6
  refine le5 (by exact hh) n5 S7 lf5 fr5 dj5 ?_
  intro s8 S8
  refine unhide hQ6 ?_
  dsimp only
  clear S7 hQ6 Q6
  (refine Mine.el_E (show ∃ Tb6, Tb6 = (if ex = true then tmap (aloneF x y') Tb5 else Tb5) from ⟨_, rfl⟩) fun Tb6 hT6 => ?_)
  rw [← hT6] at S8
  have l6 : Tb6.length ≤ 10 := by rw [hT6]; split; unfold tmap; rw [List.length_map]; exact l5; exact l5
  have lf6 := lf5.sa Tb6
  have kp6 := kp5.upd (.inr (.inr (.inr rfl))) (.imap (iV Tb6))
  have fr6 := fr5.turn lf5.ha rfl (x := .imap (iV Tb6))
  have dj6 : Dj (upd F5 ab (.imap (iV Tb6))) G' := dj5.l (dj5.has lf5.ha)
  generalize upd F5 ab (.imap (iV Tb6)) = F6 at S8 lf6 kp6 fr6 dj6
  clear lf5 kp5 fr5 dj5
  clear F5
  refine execs_cons_h ?_
  intro Q7 hQ7
  refine le6 (by first | decide | omega) S8 lf6 fr6 dj6 ?_
  intro s9 S9
  refine unhide hQ7 ?_
  dsimp only
  clear S8 hQ7 Q7
  have lf7 := lf6.sa (tput x y' Tb6)
  have kp7 := kp6.upd (.inr (.inr (.inr rfl))) (.imap (iV (tput x y' Tb6)))
  have dj7 : Dj (upd F6 ab (.imap (iV (tput x y' Tb6)))) G' := dj6.l (dj6.has lf6.ha)
  rw [hT6, hT5, laidT_eq] at lf7 kp7 dj7 S9
  have hs := lf_sub6 lf7 kp7 fL fC fD
  refine wpAny_execs_nil ?_
  refine unhide hQF ?_
  dsimp only
  have hyl : b = true → (Ta4.lookup y').isSome = true := fun z => by
    rcases hyd with h | h
    · have := pl.cy.mp z
      rw [h] at this; exact absurd this (T1.no0 x)
    · exact h
  exact k _ _ _ _ _ T' ((laidT_some hyl).mpr (.inl rfl)) (dj7.sub hs) t' (S9.sub (sub_join dj7 hs) (fF0.turn hab rfl).join)
end
end
section
noncomputable def lawSt (i : Nat) : Stmt := nthSt PySem.Challenge.rw_bd0031_06.row.prog 21 i
noncomputable abbrev lawEnv (nm : Str) (L a : Nat) (cd : Value) : Env := envAt PySem.Challenge.rw_bd0031_06.row.prog 21 nm L a cd []
section
variable {w : World} {c : Cx PySem.Challenge.rw_bd0031_06.row.prog w (MineTop.hd.heap_39 w.params)} {envs : List Env} {F G H : AH} {A : Around} {Q : Flow → Shared → Prop} {E : Value → Shared → Prop} {s : Shared} {nm : Str} {L a sa : Nat} {cd : Value} {ns : List Int} {l : List (Str × Value)}
theorem law_st0 (S : St c envs F s) (hL : F L = some (.ns l)) (R : Rm A 40 400) (hh : A.handled = none)
    (k : ∀ (pt ab : Nat) G s', Dj F G → F ab = none → G ab = none → PTree 246 347 Mo.root [0] pt G → St c envs (join (upd (upd F ab (.imap [])) L (.ns (("tree", .ref pt) :: ("above", .ref ab) :: l))) G) s' → Q .next s') :
    wpAny (model PySem.Challenge.rw_bd0031_06.row.prog w) A (exec (lawSt 0) (lawEnv nm L a cd)) Q E s := by
  show wpAny _ _ (exec (Stmt.Assign _ _ _) _) _ _ _
  have fr := S.frs
  walk_at "m_st"
  rename St _ _ _ _ => S1
  refine wpAny_call ?_
  refine tree_new S1 (by walk_at "m_R") ?_
  intro pt G s2 dj t S2
  have hL2 := join_l (G := G) hL
  (try dsimp only)
  walk_at "m_st"
  rename St _ _ _ _ => mS
  refine dict_nil mS ?_
  intro d0 s' hd S'
  clear mS
  walk_at "m_st"
  rename St _ _ _ _ => S3
  rename (join _ _ _ = none) => hd1
  rename (upd (join _ _) _ _ _ = none) => ht
  refine unpackItems_ S3 (upd_self ..) (.inl hh) (fun vs s4 hvs S4 => ?_) rfl
  clear S3
  (refine Mine.el_EEAA (map_two hvs) fun v1 v2 zq0 g1 g2 => ?_; (first | subst zq0 | cases zq0))
  obtain rfl := er_ref g1
  obtain rfl := er_ref g2
  walk_at "m_st"
  rename St _ _ _ _ => S5
  have ht0 := none_up ht
  have ht1 := none_ne ht
  have nLa := ne_fresh ht0 hL2
  have nLd := ne_fresh hd1 hL2
  (refine Mine.el_A (join_none hd1) fun fd gd => ?_)
  have eL : (lawEnv nm L a cd).locals = L := rfl
  rw [eL, upd_upd, upd_comm (Ne.symm nLa)] at S5
  have S6 := S5.sub ((Sub.refl _).fresh ((upd_ne (Ne.symm nLa)).trans ((upd_ne ht1).trans ht0))) (by
    rw [upd_join, upd_join]
    exact ((fr.fresh fd).ns (upd_other nLd hL)).join)
  rw [upd_join, upd_join] at S6
  exact k _ _ _ _ dj fd gd t S6
end
end
section
noncomputable def AO.isIt : AO → Bool
  | .raw _ => true
  | _ => false
structure LW6 (F : AH) (L ab : Nat) (qi : List (Nat × AO)) (l : List (Str × Value)) (Ta : Tb) : Prop where
  hL : F L = some (.ns l)
  ha : F ab = some (.imap (iV Ta))
  hi : ∀ p ∈ qi, F p.1 = some p.2 ∧ p.2.isIt = true
structure PN6 (pt ab sa : Nat) (l : List (Str × Value)) : Prop where
  ht : l.lookup ("tree" : Str) = some (.ref pt)
  ha : l.lookup ("above" : Str) = some (.ref ab)
  hs : l.lookup ("script" : Str) = some (.ref sa)
structure DP6 (F : AH) (q : Nat) (qs : List (Nat × Int × Int × Bool)) : Prop where
  h1 : F q = some (.list (qs.map fun e => .ref e.1))
  h3 : ∀ e ∈ qs, F e.1 = some (.tup [.int e.2.1 0, .int e.2.2.1 0, .bool e.2.2.2])
noncomputable def AO.isSeq : AO → Bool
  | .list _ => true
  | .tup _ => true
  | _ => false
inductive DealH6 (envs : List Env) (L ab : Nat) (qi : List (Nat × AO)) (pt : Nat) (X : AH → Prop) (P : List (Str × Value) → Prop) (H : AH) : Prop
  | mk (l : List (Str × Value)) (F G : AH) (M : Mo) (ks : List Int) (Ta : Tb) (e : H = join F G) (lw : LW6 F L ab qi l Ta) (fr : Frs envs F) (dj : Dj F G) (t : PTree 246 347 M ks pt G) (T : T6 M Ta fun _ => false) (x : X F) (hl : P l) : DealH6 envs L ab qi pt X P H
inductive Deal6 {w : World} (c : Cx PySem.Challenge.rw_bd0031_06.row.prog w (MineTop.hd.heap_39 w.params)) (envs : List Env) (L ab : Nat) (qi : List (Nat × AO)) (pt : Nat) (P : List (Str × Value) → Prop) (s : Shared) : Prop
  | mk (l : List (Str × Value)) (F G : AH) (M : Mo) (ks : List Int) (Ta : Tb) (S : St c envs (join F G) s) (lw : LW6 F L ab qi l Ta) (fr : Frs envs F) (dj : Dj F G) (t : PTree 246 347 M ks pt G) (T : T6 M Ta fun _ => false) (hl : P l) : Deal6 c envs L ab qi pt P s
section
variable {F F' G : AH} {L ab q b it : Nat} {qs : List (Nat × Int × Int × Bool)} {l l' : List (Str × Value)} {Ta Ta' : Tb} {o : AO} {qi : List (Nat × AO)}
theorem DP6.kp (h : DP6 F q qs) (k : ∀ (a : Nat) o, F a = some o → o.isSeq = true → F' a = some o) : DP6 F' q qs :=
  ⟨k _ _ h.h1 rfl, fun e he => k _ _ (h.h3 e he) rfl⟩
theorem DP6.upd (h : DP6 F q qs) (e : F b = some o) (n : o.isSeq = false) (o' : AO) : DP6 (upd F b o') q qs :=
  h.kp fun a x hx hk => (upd_ne (fun z => by
    rw [z, e] at hx
    (replace hx := Option.some.inj hx; subst hx)
    rw [n] at hk; (exact Mine.no_ft hk))).trans hx
theorem LW6.ns (h : LW6 F L ab qi l Ta) : LW6 (Mine.upd F L (.ns l')) L ab qi l' Ta := ⟨upd_self .., upd_other (ne_kind h.ha h.hL (by intro z; (exact Mine.tag_ne z rfl))) h.ha, fun p hp => ⟨upd_other (ne_kind (h.hi p hp).1 h.hL (fun z => by have := (h.hi p hp).2; rw [z] at this; (exact Mine.no_ft this))) (h.hi p hp).1, (h.hi p hp).2⟩⟩
theorem LW6.sa (h : LW6 F L ab qi l Ta) : LW6 (Mine.upd F ab (.imap (iV Ta'))) L ab qi l Ta' := ⟨upd_other (ne_kind h.hL h.ha (by intro z; (exact Mine.tag_ne z rfl))) h.hL, upd_self .., fun p hp => ⟨upd_other (ne_kind (h.hi p hp).1 h.ha (fun z => by have := (h.hi p hp).2; rw [z] at this; (exact Mine.no_ft this))) (h.hi p hp).1, (h.hi p hp).2⟩⟩
theorem LW6.fresh (h : LW6 F L ab qi l Ta) (e : F it = none) (o : AO) : LW6 (Mine.upd F it o) L ab qi l Ta := ⟨upd_other (ne_fresh e h.hL) h.hL, upd_other (ne_fresh e h.ha) h.ha, fun p hp => ⟨upd_other (ne_fresh e (h.hi p hp).1) (h.hi p hp).1, (h.hi p hp).2⟩⟩
theorem LW6.give (h : LW6 F L ab [] l Ta) (e : F it = none) (ho : o.isIt = true) : LW6 (Mine.upd F it o) L ab [(it, o)] l Ta := by
  obtain ⟨a1, a2, -⟩ := h.fresh e o
  refine ⟨a1, a2, fun p hp => ?_⟩
  rw [List.mem_singleton.mp hp]
  exact ⟨upd_self .., ho⟩
theorem LW6.take (h : LW6 F L ab [(it, o)] l Ta) : LW6 (F.del it) L ab [] l Ta := by
  (refine Mine.el_A (h.hi _ (.head _)) fun hi h0 => ?_)
  have n : ∀ {d : Nat} {x : AO}, F d = some x → x.isIt = false → F.del it d = some x := fun {d x} hd hx => (if_neg fun z => by rw [z, hi] at hd; (replace hd := Option.some.inj hd; subst hd); rw [hx] at h0; (exact Mine.no_ft h0)).trans hd
  exact ⟨n h.hL rfl, n h.ha rfl, fun p hp => by cases hp⟩
theorem upd_del6 (h : F it = some o) : Mine.upd (F.del it) it o = F := by
  funext b
  by_cases q : b = it
  · subst q; rw [upd_self, h]
  · rw [upd_ne q]; exact if_neg q
end
theorem dp_pack {F : AH} {q a b c d f : Nat} (h : DP6 F q [(a, 1, 0, false), (b, 2, 1, false), (c, 1, 2, false), (d, 3, 2, false), (f, 4, 2, true)]) : ∃ qs, (∀ e ∈ qs, 1 ≤ (e : Nat × Int × Int × Bool).2.1 ∧ e.2.1 ≤ 7 ∧ 0 ≤ e.2.2.1 ∧ e.2.2.1 ≤ 7) ∧ DP6 F q qs := by
  refine ⟨_, fun e he => ?_, h⟩
  simp only [List.mem_cons, List.not_mem_nil, or_false] at he
  rcases he with rfl | rfl | rfl | rfl | rfl <;> (dsimp only; decide)
section
variable {w : World} {c : Cx PySem.Challenge.rw_bd0031_06.row.prog w (MineTop.hd.heap_39 w.params)} {envs : List Env} {F G H : AH} {A : Around} {Q : Flow → Shared → Prop} {E : Value → Shared → Prop} {s : Shared} {nm : Str} {L a0 sa ab pt qa : Nat} {cd : Value} {ns : List Int} {l : List (Str × Value)} {M : Mo} {ks : List Int}
theorem updL_s2 {F : AH} {l : List (Nat × AO)} {t : Nat} {o : AO} (S : St c envs (upd (updL F l) t o) s) (h : FreshL F l) (h8 : updL F l t = none) :
    ∃ G', Dj F G' ∧ (∀ e ∈ l, G' e.1 = some e.2) ∧ G' t = some o ∧ St c envs (join F G') s := by
  (refine Mine.el_EAA (updL_new h) fun G1 a1 a2 a3 => ?_)
  rw [a1] at S h8
  (refine Mine.el_A (join_none h8) fun f g => ?_)
  rw [upd_join_r f] at S
  exact ⟨upd G1 t o, a2.r f, fun e he => upd_other (ne_fresh g (a3 e he)) (a3 e he), upd_self .., S⟩
theorem law_st1 (S : St c (lawEnv nm L a0 cd :: envs) (join F G) s) (lw : LW6 F L ab [] l []) (fr : Frs (lawEnv nm L a0 cd :: envs) F) (dj : Dj F G) (t : PTree 246 347 M ks pt G) (T : T6 M [] fun _ => false) (hl : PN6 pt ab sa l)
    (R : Rm A 400 4000) (hh : A.handled = none) (hA : A.frames = some (lawEnv nm L a0 cd :: envs))
    (k : ∀ s', Deal6 c (lawEnv nm L a0 cd :: envs) L ab [] pt (PN6 pt ab sa) s' → Q .next s') :
    wpAny (model PySem.Challenge.rw_bd0031_06.row.prog w) A (exec (lawSt 1) (lawEnv nm L a0 cd)) Q E s := by
  have gL := join_l (G := G) lw.hL
  show wpAny _ _ (exec (Stmt.For _ _ _ _ _) _) _ _ _
  refine wpAny_For ?_
  walk_at "m_st"
  rename St _ _ _ _ => S1
  rename Nat => qd
  rename (join F G _ = none) => e1
  rename (upd (join F G) _ _ _ = none) => e2
  rename (upd (upd (join F G) _ _) _ _ _ = none) => e3
  rename (upd (upd (upd (join F G) _ _) _ _) _ _ _ = none) => e4
  rename (upd (upd (upd (upd (join F G) _ _) _ _) _ _) _ _ _ = none) => e5
  rename (upd (upd (upd (upd (upd (join F G) _ _) _ _) _ _) _ _) _ _ _ = none) => e6
  (refine Mine.el_EAAA (updL_s2 (l := [(_, _), (_, _), (_, _), (_, _), (_, _)]) S1 ⟨e1, e2, e3, e4, e5, trivial⟩ e6) fun G1 d1 hm hq S2 => ?_)
  clear S1 e1 e2 e3 e4 e5 e6
  (refine Mine.el_AA (join_swap dj d1) fun ej d2 d3 => ?_)
  rw [ej] at S2
  have dp0 : DP6 (join F G1) _ [(_, 1, 0, false), (_, 2, 1, false), (_, 1, 2, false), (_, 3, 2, false), (_, 4, 2, true)] := ⟨join_r d2 hq, fun e he => by
    simp only [List.mem_cons, List.not_mem_nil, or_false] at he
    rcases he with rfl | rfl | rfl | rfl | rfl <;> exact join_r d2 (hm (_, _) (by repeat (first | exact List.Mem.head _ | refine List.Mem.tail _ ?_)))⟩
  (refine Mine.el_EA (dp_pack dp0) fun qs hds dp1 => ?_)
  clear dp0
  (refine Mine.el_E (show ∃ F0, F0 = join F G1 from ⟨_, rfl⟩) fun F0 hF0 => ?_)
  have lw0 : LW6 F0 L ab [] l [] := by rw [hF0]; exact ⟨join_l lw.hL, join_l lw.ha, fun p hp => by cases hp⟩
  have fr0 : Frs (lawEnv nm L a0 cd :: envs) F0 := by rw [hF0]; exact fr.join
  rw [← hF0] at S2 d3 dp1
  clear hF0 hm hq d1 d2 ej gL
  refine for_list_h (qs.map fun e => .ref e.1) (fun _ Hc => DealH6 (lawEnv nm L a0 cd :: envs) L ab [] pt (fun F => DP6 F qd qs) (PN6 pt ab sa) Hc) S2 ⟨l, F0, G, M, ks, [], rfl, lw0, fr0, d3, t, T, dp1, hl⟩ ?_ (fun _ _ _ => .inl hh) ?_ ?_
  · rintro i _ ⟨l', F', G', M', ks', Ta', rfl, lw', fr', dj', t', T', x', hl'⟩
    exact join_l x'.h1
  · rintro it i _ s2 v x0 ⟨l', F', G', M', ks', Ta', rfl, lw', fr', dj', t', T', dp', hl'⟩ hit hq hx hv S3 QB EB hQB
    clear S2 lw0 fr0 d3 dp1
    rw [List.getElem?_map] at hx
    (refine Mine.el_EA (Option.map_eq_some_iff.mp hx) fun zq0 he zq1 => ?_; obtain ⟨ta, dx, dy, db⟩ := zq0; (first | subst zq1 | cases zq1))
    obtain rfl := er_ref hv
    have hin := List.mem_of_getElem? he
    (refine Mine.el_AAA (hds _ hin) fun b1 b2 b3 b4 => ?_)
    (refine Mine.el_A (join_none hit) fun fi gi => ?_)
    rw [upd_join] at S3
    (refine Mine.el_E (show ∃ o : AO, o = .iter qd (i + 1) from ⟨_, rfl⟩) fun o ho => ?_)
    rw [← ho] at S3
    have lw2 := lw'.fresh fi o
    have fr2 := fr'.fresh fi (x := o)
    have dj2 : Dj (upd F' it o) G' := dj'.l gi
    have nL : L ≠ it := ne_fresh fi lw'.hL
    have na : ab ≠ it := ne_fresh fi lw'.ha
    refine unpack3 S3 (join_l (upd_other (ne_fresh fi (dp'.h3 _ hin)) (dp'.h3 _ hin))) (.inl hh) ?_
    intro v1 v2 v3 s3 g1 g2 g3 S4
    clear S3
    refine wpAny_assign_Name (stv S4 (join_l lw2.hL) g1 (fun s4 S4 => ?_) rfl rfl rfl)
    refine wpAny_assign_Name (stv S4 (upd_self ..) g2 (fun s5 S5 => ?_) rfl rfl rfl)
    refine wpAny_assign_Name (stv S5 (upd_self ..) g3 (fun s6 S6 => ?_) rfl rfl rfl)
    rw [upd_upd, upd_upd, upd_join] at S6
    have lw3 := lw2.ns (l' := ((("alone" : Str), Value.bool db) :: (("y" : Str), Value.int dy 0) :: (("x" : Str), Value.int dx 0) :: l'))
    have fr3 := fr2.ns lw2.hL (l' := ((("alone" : Str), Value.bool db) :: (("y" : Str), Value.int dy 0) :: (("x" : Str), Value.int dx 0) :: l'))
    have dj3 : Dj (upd (upd F' it o) L (.ns ((("alone" : Str), Value.bool db) :: (("y" : Str), Value.int dy 0) :: (("x" : Str), Value.int dx 0) :: l'))) G' := dj2.l (dj2.has lw2.hL)
    have p1 : List.lookup ("tree" : Str) ((("alone" : Str), Value.bool db) :: (("y" : Str), Value.int dy 0) :: (("x" : Str), Value.int dx 0) :: l') = some (.ref pt) := hl'.ht
    have p2 : List.lookup ("above" : Str) ((("alone" : Str), Value.bool db) :: (("y" : Str), Value.int dy 0) :: (("x" : Str), Value.int dx 0) :: l') = some (.ref ab) := hl'.ha
    have gL := join_l (G := G') lw3.hL
    walk_at "m_sc"
    rename St _ _ _ _ => S7
    refine laid_spec S7 (by walk_at "m_R") hA (by exact hh) fr3 dj3 t' lw3.ha T' b1 b2 b3 b4 ?_
    intro M8 ks8 Ta8 G8 s8 T8 hx8 dj8 t8 S8
    clear S7
    walk_at "m_st"
    rename St _ _ _ _ => S9
    have e9 : upd (upd (upd F' it o) L (.ns ((("alone" : Str), Value.bool db) :: (("y" : Str), Value.int dy 0) :: (("x" : Str), Value.int dx 0) :: l'))) ab (.imap (iV Ta8)) = upd (upd (upd F' L (.ns ((("alone" : Str), Value.bool db) :: (("y" : Str), Value.int dy 0) :: (("x" : Str), Value.int dx 0) :: l'))) ab (.imap (iV Ta8))) it o := by
      rw [upd_comm (a := it) (b := L) (Ne.symm nL), upd_comm (a := it) (b := ab) (Ne.symm na)]
    rw [e9] at dj8
    rw [e9, ← upd_join, ho] at S9
    have n9 : upd (upd F' L (.ns ((("alone" : Str), Value.bool db) :: (("y" : Str), Value.int dy 0) :: (("x" : Str), Value.int dx 0) :: l'))) ab (.imap (iV Ta8)) it = none := upd_other (Ne.symm na) (upd_other (Ne.symm nL) fi)
    refine hQB _ (LoopAt.mk ⟨((("alone" : Str), Value.bool db) :: (("y" : Str), Value.int dy 0) :: (("x" : Str), Value.int dx 0) :: l'), upd (upd F' L (.ns ((("alone" : Str), Value.bool db) :: (("y" : Str), Value.int dy 0) :: (("x" : Str), Value.int dx 0) :: l'))) ab (.imap (iV Ta8)), G8, M8, ks8, Ta8, rfl, lw'.ns.sa, (fr'.ns lw'.hL).turn lw'.ns.ha rfl, fun a o h => none_up (dj8 a o h), t8, T8, (dp'.upd lw'.hL rfl _).upd lw'.ns.ha rfl _, ⟨hl'.ht, hl'.ha, hl'.hs⟩⟩ ?_ S9)
    rw [join_n n9]
    exact dj8.has (upd_self ..)
  · rintro _ s2 ⟨l', F', G', M', ks', Ta', rfl, lw', fr', dj', t', T', x', hl'⟩ S3 QB EB hQB
    walk_at "m_st"
    exact k _ ⟨l', F', G', M', ks', Ta', S3, lw', fr', dj', t', T', hl'⟩
end
end
section
noncomputable def b6 (i : Nat) : Stmt := (forBd (lawSt 3)).getD i default
noncomputable def yes6 (i : Nat) : Stmt := (ifYes (b6 2)).getD i default
noncomputable def if6 : Stmt := (ifNo (b6 2)).getD 0 default
noncomputable def try6 : Stmt := (ifYes if6).getD 0 default
noncomputable def else6 : Stmt := (ifNo if6).getD 0 default
structure PA6 (pt ab sa : Nat) (a b x : Int) (l : List (Str × Value)) : Prop where
  hn : PN6 pt ab sa l
  ha : l.lookup ("a" : Str) = some (.int a 0)
  hb : l.lookup ("b" : Str) = some (.int b 0)
  hx : l.lookup ("x" : Str) = some (.int x 0)
section
variable {w : World} {c : Cx PySem.Challenge.rw_bd0031_06.row.prog w (MineTop.hd.heap_39 w.params)} {envs : List Env} {F G H : AH} {A : Around} {Q : Flow → Shared → Prop} {E : Value → Shared → Prop} {s : Shared} {nm : Str} {L a0 sa ab pt : Nat} {qi : List (Nat × AO)} {cd : Value} {ns : List Int} {l : List (Str × Value)} {M : Mo} {ks : List Int} {a b x : Int}
theorem law_st2 (D : Deal6 c (lawEnv nm L a0 cd :: envs) L ab qi pt (PN6 pt ab sa) s) (R : Rm A 400 4000) (hh : A.handled = none) (hA : A.frames = some (lawEnv nm L a0 cd :: envs))
    (k : ∀ s', Deal6 c (lawEnv nm L a0 cd :: envs) L ab qi pt (PN6 pt ab sa) s' → Q .next s') :
    wpAny (model PySem.Challenge.rw_bd0031_06.row.prog w) A (exec (lawSt 2) (lawEnv nm L a0 cd)) Q E s := by
  obtain ⟨l, F, G, M, ks, Ta, S, lw, fr, dj, t, T, hl⟩ := D
  have gL := join_l (G := G) lw.hL
  have p1 := hl.ht
  have p2 := hl.ha
  show wpAny _ _ (exec (Stmt.If _ _ _ _) _) _ _ _
  walk_at "m_sc"
  rename St _ _ _ _ => S1
  refine shown_spec S1 (by walk_at "m_R") hA (by exact hh) fr dj t lw.ha T ?_
  intro M2 G2 s2 T2 dj2 t2 S2
  clear S1
  walk_at "m_st"
  rename St _ _ _ _ => S3
  exact k _ ⟨l, F, G2, M2, ks, Ta, S3, lw, fr, dj2, t2, T2, hl⟩
theorem law_st4 (D : Deal6 c (lawEnv nm L a0 cd :: envs) L ab qi pt (PN6 pt ab sa) s) (R : Rm A 400 4000) (hh : A.handled = none) (hA : A.frames = some (lawEnv nm L a0 cd :: envs))
    (k : ∀ Hc s', St c (lawEnv nm L a0 cd :: envs) Hc s' → Q (.ret (.bool true)) s') :
    wpAny (model PySem.Challenge.rw_bd0031_06.row.prog w) A (exec (lawSt 4) (lawEnv nm L a0 cd)) Q E s := by
  obtain ⟨l, F, G, M, ks, Ta, S, lw, fr, dj, t, T, hl⟩ := D
  have gL := join_l (G := G) lw.hL
  have p1 := hl.ht
  have p2 := hl.ha
  show wpAny _ _ (exec (Stmt.Return _ _) _) _ _ _
  walk_at "m_sc"
  rename St _ _ _ _ => S1
  refine shown_spec S1 (by walk_at "m_R") hA (by exact hh) fr dj t lw.ha T ?_
  intro M2 G2 s2 T2 dj2 t2 S2
  clear S1
  walk_at "m_st"
  rename St _ _ _ _ => S3
  exact k _ _ S3
theorem tr6 (D : Deal6 c (lawEnv nm L a0 cd :: envs) L ab qi pt (PA6 pt ab sa a b x) s) (R : Rm A 400 4000) (hh : A.handled = none) (hA : A.frames = some (lawEnv nm L a0 cd :: envs))
    (k : ∀ s', Deal6 c (lawEnv nm L a0 cd :: envs) L ab qi pt (PN6 pt ab sa) s' → Q .next s') :
    wpAny (model PySem.Challenge.rw_bd0031_06.row.prog w) A (exec try6 (lawEnv nm L a0 cd)) Q E s := by
  obtain ⟨l, F, G, M, ks, Ta, S, lw, fr, dj, t, T, hl⟩ := D
  (refine Mine.el_EAAAA T.turn fun rk Rk ok hb0 tn1 tn2 => ?_)
  (refine Mine.el_EA T.sh.fam.root fun r hr0 hra => ?_)
  have gL := join_l (G := G) lw.hL
  (refine Mine.el_EEEAAAAA (t.split dj) fun P dd Gt p f1 f2 zq0 zq1 ej => ?_; clear zq0; clear zq1)
  have hpt : join F G pt = some (.inst 347 (pfl P dd)) := by rw [ej]; exact join_l (upd_other p.ne (upd_self ..))
  have p1 := hl.hn.ht
  show wpAny _ _ (exec (Stmt.Try _ _ _ _ _) _) _ _ _
  refine wpAny_Try_except ?_
  walk_at "m_sc"
  rename St _ _ _ _ => S1
  refine next_spec (N := 10) (rk := rk) S1 (by walk_at "m_R") hA (by exact hh) fr dj t ok hr0 (Nat.lt_succ_of_le (hb0 0)) hra ?_ ?_
  · intro v x' M5 G5 s12 hv hs dj5 t5 S12
    (refine Mine.el_AAA (tn1 x' M5 hs) fun zq0 zq1 hc zq2 => ?_; clear zq0; clear zq1; clear zq2)
    (exact Mine.no_ft hc)
  · intro e h T1 M5 G5 s12 hs dj5 t5 hn F3
    (refine Mine.el_A (tn2 M5 hs) fun T5 zq0 => ?_; clear zq0)
    refine caught_R (newId := "Exception.__new__") (.inl F3) hA rfl (by k_is) (by k_exc) PySem.F.excBase_Exception.hasBase fun T2 s7 he hT hTe S6 => ?_
    have S9 := S6.sub (H := join F G5) ((((Sub.refl _).fresh hn).fresh (none_up hT)).fresh (none_up he)) fr.join
    clear S6
    walk_at "m_st"
    exact k _ ⟨l, F, G5, M5, ks, Ta, S9, lw, fr, dj5, t5, T5, hl.hn⟩
theorem el6 (D : Deal6 c (lawEnv nm L a0 cd :: envs) L ab qi pt (PA6 pt ab sa a b x) s) (hx1 : 1 ≤ x) (hx7 : x ≤ 7) (R : Rm A 400 4000) (hh : A.handled = none) (hA : A.frames = some (lawEnv nm L a0 cd :: envs))
    (k : ∀ s', Deal6 c (lawEnv nm L a0 cd :: envs) L ab qi pt (PN6 pt ab sa) s' → Q .next s') :
    wpAny (model PySem.Challenge.rw_bd0031_06.row.prog w) A (exec else6 (lawEnv nm L a0 cd)) Q E s := by
  obtain ⟨l, F, G, M, ks, Ta, S, lw, fr, dj, t, T, hl⟩ := D
  have gL := join_l (G := G) lw.hL
  have p1 := hl.hn.ht
  have p2 := hl.hn.ha
  have p3 := hl.hx
  have p4 := hl.hb
  have b0 := Int.emod_nonneg b (show (6 : Int) ≠ 0 by decide)
  show wpAny _ _ (exec (Stmt.Expr _ _) _) _ _ _
  walk_at "m_sc"
  rename St _ _ _ _ => S1
  refine laid_spec S1 (by walk_at "m_R") hA (by exact hh) fr dj t lw.ha T hx1 hx7 b0 (by first | decide | omega) ?_
  intro M8 ks8 Ta8 G8 s8 T8 hx8 dj8 t8 S8
  clear S1
  walk_at "m_st"
  rename St _ _ _ _ => S3
  exact k _ ⟨l, _, G8, M8, ks8, Ta8, S3, lw.sa, fr.turn lw.ha rfl, dj8, t8, T8, hl.hn⟩
end
end
section
section
variable {w : World} {c : Cx PySem.Challenge.rw_bd0031_06.row.prog w (MineTop.hd.heap_39 w.params)} {envs : List Env} {F G H : AH} {A : Around} {Q : Flow → Shared → Prop} {E : Value → Shared → Prop} {s : Shared} {nm : Str} {L a0 sa ab pt : Nat} {qi : List (Nat × AO)} {cd : Value} {a b x p : Int} {Ta : Tb} {l : List (Str × Value)}
noncomputable abbrev goneF (x p : Int) : Int → Int → Int := fun _ b => if b = x then p else b
inductive IGo (G : AH) (ab ep : Nat) (Ta : Tb) (x p : Int) (P : List (Str × Value) → Prop) (i : Nat) (l : List (Str × Value)) (Gx : AH) : Prop
  | mk (es : List DictEntry) (h1 : KeysAre es (iV (turned (goneF x p) Ta i))) (h2 : Gx = upd G ab (.raw (dictOf es ep))) (h3 : P l) : IGo G ab ep Ta x p P i l Gx
theorem turned_x {i : Nat} (hx : Ta.lookup x = some p) (hp : p ≠ x) : (turned (goneF x p) Ta i).lookup x = some p := by
  have e : Ta = Ta.take i ++ Ta.drop i := (List.take_append_drop ..).symm
  rw [e, lookup_append] at hx
  unfold turned
  rw [lookup_append, lookup_tmap]
  cases h : (Ta.take i).lookup x with
  | none => rw [h] at hx; exact hx
  | some b =>
    rw [h] at hx
    (replace hx := (Option.some.inj hx).symm; subst hx)
    show some (if p = x then p else p) = _
    rw [ite_self]
theorem gn1 (hh : A.handled = none) (hn : (Ta.map (·.1)).Nodup) (S : St c (lawEnv nm L a0 cd :: envs) (join F G) s) (lw : LW6 F L ab qi l Ta) (fr : Frs (lawEnv nm L a0 cd :: envs) F) (dj : Dj F G) (hl : PA6 pt ab sa a b x l) (hx : Ta.lookup x = some p) (hp : p ≠ x)
    (k : ∀ l' s', PA6 pt ab sa a b x l' → St c (lawEnv nm L a0 cd :: envs) (join (upd (upd F L (.ns l')) ab (.imap (iV (tmap (goneF x p) Ta)))) G) s' → Q .next s') :
    wpAny (model PySem.Challenge.rw_bd0031_06.row.prog w) A (exec (yes6 1) (lawEnv nm L a0 cd)) Q E s := by
  show wpAny _ _ (exec (Stmt.For _ _ _ _ _) _) _ _ _
  have gL := join_l (G := G) lw.hL
  have ga := join_l (G := G) lw.ha
  have p2 := hl.hn.ha
  have nLa : L ≠ ab := ne_kind lw.hL lw.ha (by intro z; (exact Mine.tag_ne z rfl))
  refine wpAny_For ?_
  walk_at "m_st"
  rename St _ _ _ _ => S1
  refine iter_dict S1 ga ?_
  intro es ep it s2 ka hb hit S2
  clear S1
  rw [keys_iV, upd_join, join_move lw.ha] at S2
  rw [upd_join, join_move lw.ha] at hit
  have frD : Frs (lawEnv nm L a0 cd :: envs) (F.del ab) := fr.del lw.ha rfl
  have djD : Dj (F.del ab) (upd G ab (.raw (dictOf es ep))) := dj.del_r
  have hLD : F.del ab L = some (.ns l) := (if_neg nLa).trans lw.hL
  refine for_tree (row_keys ab ep (Ta.map (·.1))) (IGo G ab ep Ta x p (PA6 pt ab sa a b x)) S2 hit hLD frD djD ⟨es, ka, rfl, hl⟩ ?_ hh ?_ ?_
  · rintro i l Gx ⟨es', h1, rfl, h3⟩ dx
    exact ⟨es', _, join_r (dx.l (dx.has hLD)) (upd_self ..), h1, by rw [keys_iV, turned_keys]⟩
  · rintro i F2 l' G' s3 y0 ⟨es', h1, rfl, h3⟩ hx0 kp hL2 dj2 fr2 S3 QB EB hQB
    unfold intsV at hx0
    rw [List.getElem?_map, List.getElem?_map] at hx0
    (refine Mine.el_EA (Option.map_eq_some_iff.mp hx0) fun z hz zq0 => ?_; (first | subst zq0 | cases zq0))
    (refine Mine.el_EA (Option.map_eq_some_iff.mp hz) fun p0 hp0 zq0 => ?_; (first | subst zq0 | cases zq0))
    (refine Mine.el_E (List.getElem?_eq_some_iff.mp hp0) fun hi hpi => ?_)
    have fL := join_l (G := upd G ab (.raw (dictOf es' ep))) hL2
    have fa := join_r dj2 (upd_self G ab (.raw (dictOf es' ep)))
    have e1 : (iV (turned (goneF x p) Ta i)).lookup p0.1 = some (.int p0.2 0) := by
      rw [lookup_iV]
      have := turned_lookup (f := goneF x p) hn hi
      rw [hpi] at this
      rw [this]; rfl
    have e2 : ((iV (turned (goneF x p) Ta i)).lookup p0.1).isSome = true := by rw [e1]; rfl
    have e4 : (iV (turned (goneF x p) Ta i)).lookup x = some (.int p 0) := by rw [lookup_iV, turned_x hx hp]; rfl
    have h3' : PA6 pt ab sa a b x (("z", Value.int p0.1 0) :: l') := ⟨⟨h3.hn.ht, h3.hn.ha, h3.hn.hs⟩, h3.ha, h3.hb, h3.hx⟩
    have p1 := h3'.hn.ha
    have p3 := h3'.hx
    have kF2 : F2 ab = none := dj2 _ _ (upd_self ..)
    have dj3 : ∀ es2, Dj F2 (upd G ab (.raw (dictOf es2 ep))) := fun es2 => by
      have := dj2.r (o := .raw (dictOf es2 ep)) kF2
      rwa [upd_upd] at this
    walk_at "m_st"
    · rename St _ _ _ _ => S4
      rename (KeysAre _ (kput _ _ _)) => hk
      rename (p0.2 = x) => hc2
      rw [upd_join_r kF2, upd_upd] at S4
      refine ⟨("z", .int p0.1 0) :: l', _, ⟨_, ?_, rfl, h3'⟩, dj3 _, by rw [upd_id hL2]; exact S4⟩
      rw [kput_iV] at hk
      have e3 := turned_put (f := goneF x p) hn hi
      rw [hpi, show goneF x p p0.1 p0.2 = p from if_pos hc2] at e3
      rw [← e3]; exact hk
    · rename St _ _ _ _ => S4
      have hc2 : ¬ p0.2 = x := by assumption
      refine ⟨("z", .int p0.1 0) :: l', _, ⟨es', ?_, rfl, h3'⟩, dj3 _, by rw [upd_id hL2]; exact S4⟩
      rw [turned_same hi (by rw [hpi]; exact if_neg hc2)]; exact h1
  · rintro l' G' s3 ⟨es', h1, rfl, h3⟩ d9 S3
    walk_at "m_st"
    have kD : upd (F.del ab) L (.ns l') ab = none := upd_other (Ne.symm nLa) (if_pos rfl)
    rw [← upd_join_r kD] at S3
    have S4 := dr_close S3 h1 hb
    rw [intsV_len, List.length_map, turned_end] at S4
    rw [upd_join_r kD, ← del_upd nLa, ← join_move ((upd_other (Ne.symm nLa) lw.ha) : upd F L (.ns l') ab = _)] at S4
    exact k l' _ h3 S4
theorem gn_do {M : Mo} {ks : List Int} (S : St c (lawEnv nm L a0 cd :: envs) (join F G) s) (lw : LW6 F L ab qi l Ta) (fr : Frs (lawEnv nm L a0 cd :: envs) F) (dj : Dj F G) (t : PTree 246 347 M ks pt G) (T : T6 M Ta fun _ => false) (hl : PA6 pt ab sa a b x l) (hx : (Ta.lookup x).isSome = true) (R : Rm A 280 2600) (hh : A.handled = none)
    (k : ∀ s', Deal6 c (lawEnv nm L a0 cd :: envs) L ab qi pt (PN6 pt ab sa) s' → Q .next s') :
    wpAny (model PySem.Challenge.rw_bd0031_06.row.prog w) A (execs [yes6 0, yes6 1, yes6 2] (lawEnv nm L a0 cd)) Q E s := by
  (refine Mine.el_EEEAAAAA (T.par hx) fun p nx d hp e1 e2 e3 e4 hpD => ?_)
  (refine Mine.el_AEAA T.small fun bd rk Rk ok hb9 => ?_)
  (refine Mine.el_E t.withD fun D tD => ?_)
  (refine Mine.el_EEEAAAAA (t.split dj) fun P dd Gt pp f1 f2 zq0 zq1 ej => ?_; clear zq0; clear zq1)
  have hpt : join F G pt = some (.inst 347 (pfl P dd)) := by rw [ej]; exact join_l (upd_other pp.ne (upd_self ..))
  have gL := join_l (G := G) lw.hL
  have p1 := hl.hn.ht
  have p3 := hl.hx
  have hkl := ks_len t T
  have r1 := Rk p d e3 x e4
  have hxp : p ≠ x := fun z => by rw [z] at r1; exact Nat.lt_irrefl _ r1
  have hkk : ∀ k ∈ nx.kids, k ≠ p ∧ k ≠ x := fun k hk => by
    have r2 := Rk x nx e1 k hk
    exact ⟨fun z => by rw [z] at r2; omega, fun z => by rw [z] at r2; exact Nat.lt_irrefl _ r2⟩
  refine execs_cons_h ?_
  intro Q1 hQ1
  show wpAny _ _ (exec (Stmt.Expr _ _) _) _ _ _
  walk_at "m_st"
  rename St _ _ _ _ => S1
  refine remove_spec S1 (by walk_at "m_R") (by exact hh) fr dj tD (T.x0 hx) (by first | decide | omega) (bd.mono (by decide)) e1 e2 ⟨_, e3⟩ (by rw [kidsOf_eq e3]; exact e4) hxp hkk ?_
  intro G2 s2 dj2 t2 S2
  clear S1
  walk_at "m_st"
  rename St _ _ _ _ => S3
  show wpAny _ _ (exec (yes6 1) _) _ _ _
  refine gn1 (by exact hh) T.an S3 lw fr dj2 hl hp hxp ?_
  intro l' s4 hl' S4
  clear S3
  have lw2 := (lw.ns (l' := l')).sa (Ta' := tmap (goneF x p) Ta)
  have gL := join_l (G := G2) lw2.hL
  have ga := join_l (G := G2) lw2.ha
  have p2 := hl'.hn.ha
  have p3 := hl'.hx
  have e7 : (iV (tmap (goneF x p) Ta)).lookup x = some (.int p 0) := by rw [lookup_iV, lookup_tmap, hp]; show some (Value.int (if p = x then p else p) 0) = _; rw [ite_self]
  have nTa := T.len
  have nla : (iV (tmap (goneF x p) Ta)).length ≤ 8 := by rw [len_iV]; unfold tmap; rw [List.length_map]; exact nTa
  walk_at "m_st"
  show wpAny _ _ (exec (Stmt.Expr _ _) _) _ _ _
  walk_at "m_st"
  rename St _ _ _ _ => S5
  rw [kdel_iV, upd_join, upd_upd] at S5
  have lw3 := (lw.ns (l' := l')).sa (Ta' := tdel x (tmap (goneF x p) Ta))
  have fr3 := (fr.ns lw.hL (l' := l')).turn (lw.ns (l' := l')).ha rfl (x := .imap (iV (tdel x (tmap (goneF x p) Ta))))
  have dj4 : Dj (upd (upd F L (.ns l')) ab (.imap (iV (tdel x (tmap (goneF x p) Ta))))) G2 := (dj2.l (dj2.has lw.hL)).l (dj2.has lw.ha)
  exact k _ ⟨l', _, G2, _, _, _, S5, lw3, fr3, dj4, t2.ptree, T.gone hp, hl'.hn⟩
inductive Cut6 (z : Bool) (p X : Prop) : Prop
  | mk (h : z = true → p) (x : X) : Cut6 z p X
theorem b6_2 (D : Deal6 c (lawEnv nm L a0 cd :: envs) L ab qi pt (PA6 pt ab sa a b x) s) (hx1 : 1 ≤ x) (hx7 : x ≤ 7) (R : Rm A 420 4200) (hh : A.handled = none) (hA : A.frames = some (lawEnv nm L a0 cd :: envs))
    (k : ∀ s', Deal6 c (lawEnv nm L a0 cd :: envs) L ab qi pt (PN6 pt ab sa) s' → Q .next s') :
    wpAny (model PySem.Challenge.rw_bd0031_06.row.prog w) A (exec (b6 2) (lawEnv nm L a0 cd)) Q E s := by
  have R1 : Rm A 280 2600 := R.mono (by decide) (by decide)
  have R2 : Rm A 400 4000 := R.mono (by decide) (by decide)
  show wpAny _ _ (exec (Stmt.If _ _ _ _) _) _ _ _
  obtain ⟨l, F, G, M, ks, Ta, S, lw, fr, dj, t, T, hl⟩ := D
  refine if_cut (fun z s' => Cut6 z ((Ta.lookup x).isSome = true) (St c (lawEnv nm L a0 cd :: envs) (join F G) s')) ?_ ?_ ?_
  · have gL := join_l (G := G) lw.hL
    have ga := join_l (G := G) lw.ha
    have p1 := hl.ha
    have p2 := hl.hn.ha
    have p3 := hl.hx
    cases hx : Ta.lookup x with
    | none =>
      have e1 : (iV Ta).lookup x = none := by rw [lookup_iV, hx]; rfl
      walk_at "m_st"
      all_goals
        rename St _ _ _ _ => S1
        exact ⟨fun z => Bool.noConfusion z, S1⟩
    | some px =>
      have e1 : (iV Ta).lookup x = some (.int px 0) := by rw [lookup_iV, hx]; rfl
      walk_at "m_st"
      all_goals
        rename St _ _ _ _ => S1
        exact ⟨fun _ => rfl, S1⟩
  · rintro s1 ⟨hx, S1⟩
    show wpAny _ _ (execs [yes6 0, yes6 1, yes6 2] _) _ _ _
    exact gn_do S1 lw fr dj t T hl (hx rfl) R1 hh k
  · rintro s1 ⟨-, S1⟩
    show wpAny _ _ (execs [if6] _) _ _ _
    refine execs_cons_h ?_
    intro Q1 hQ1
    have kQ : ∀ s', Deal6 c (lawEnv nm L a0 cd :: envs) L ab qi pt (PN6 pt ab sa) s' → Q1 .next s' := fun s' D' => hQ1 _ _ (by
      dsimp only
      walk_at "m_st"
      exact k _ D')
    clear hQ1 k
    show wpAny _ _ (exec (Stmt.If _ _ _ _) _) _ _ _
    refine if_cut (fun _ s' => St c (lawEnv nm L a0 cd :: envs) (join F G) s') ?_ ?_ ?_
    · have gL := join_l (G := G) lw.hL
      have p1 := hl.ha
      walk_at "m_st"
      rename St _ _ _ _ => S2
      exact S2
    · intro s2 S2
      show wpAny _ _ (execs [try6] _) _ _ _
      refine execs_cons_h ?_
      intro Q2 hQ2
      refine tr6 ⟨l, F, G, M, ks, Ta, S2, lw, fr, dj, t, T, hl⟩ R2 hh hA ?_
      intro s3 D3
      refine unhide hQ2 ?_
      dsimp only
      walk_at "m_st"
      exact kQ _ D3
    · intro s2 S2
      show wpAny _ _ (execs [else6] _) _ _ _
      refine execs_cons_h ?_
      intro Q2 hQ2
      refine el6 ⟨l, F, G, M, ks, Ta, S2, lw, fr, dj, t, T, hl⟩ hx1 hx7 R2 hh hA ?_
      intro s3 D3
      refine unhide hQ2 ?_
      dsimp only
      walk_at "m_st"
      exact kQ _ D3
end
end
section
section
variable {w : World} {c : Cx PySem.Challenge.rw_bd0031_06.row.prog w (MineTop.hd.heap_39 w.params)} {envs : List Env} {F G H : AH} {A : Around} {Q : Flow → Shared → Prop} {E : Value → Shared → Prop} {s : Shared} {nm : Str} {L a0 sa ab pt : Nat} {cd : Value} {ns : List Int} {l : List (Str × Value)} {M : Mo} {ks : List Int} {a b x : Int}
theorem law_st3 (D : Deal6 c (lawEnv nm L a0 cd :: envs) L ab [] pt (PN6 pt ab sa) s) (sc : Scr c sa ns) (R : Rm A 440 4300) (hh : A.handled = none) (hA : A.frames = some (lawEnv nm L a0 cd :: envs))
    (k : ∀ s', Deal6 c (lawEnv nm L a0 cd :: envs) L ab [] pt (PN6 pt ab sa) s' → Q .next s') :
    wpAny (model PySem.Challenge.rw_bd0031_06.row.prog w) A (exec (lawSt 3) (lawEnv nm L a0 cd)) Q E s := by
  obtain ⟨l, F, G, M, ks, Ta, S, lw, fr, dj, t, T, hl⟩ := D
  show wpAny _ _ (exec (Stmt.For _ _ _ _ _) _) _ _ _
  refine wpAny_For ?_
  have gL := join_l (G := G) lw.hL
  have p9 := hl.hs
  walk_at "m_st"
  rename St _ _ _ _ => mS
  refine scr_len sc mS ?_
  intro tk s' S'
  clear mS
  walk_at "m_st"
  rename St _ _ _ _ => S1
  refine min_two5 S1 hh gL fun tm s2 S2 => ?_
  clear S1
  have em : (if (ns.length : Int) / 2 < 10 then (ns.length : Int) / 2 else 10) = ((min 10 (ns.length / 2) : Nat) : Int) := by split <;> omega
  rw [em]
  walk_at "m_st"
  rename St _ _ _ _ => S1
  rename (join _ _ _ = none) => hr
  (refine Mine.el_E (show ∃ n, n = min 10 (ns.length / 2) from ⟨_, rfl⟩) fun n hn => ?_)
  rw [← hn] at S1
  have nl : 2 * n ≤ ns.length := by omega
  refine iter_range1 S1 hr n (by first | decide | omega) (by decide) (by first | decide | omega) ?_
  intro it s2 hit S2
  clear S1
  refine for_row_h (row_range 0 1 n) (fun _ H => DealH6 (lawEnv nm L a0 cd :: envs) L ab [] pt (fun _ => True) (PN6 pt ab sa) H) S2 hit ⟨l, F, G, M, ks, Ta, rfl, lw, fr, dj, t, T, trivial, hl⟩ (fun _ _ _ => trivial) (fun _ _ _ => .inl hh) ?_ ?_
  · rintro i _ s3 v z ⟨l', F', G', M', ks', Ta', rfl, lw', fr', dj', t', T', -, hl'⟩ hit' hx hv S3 QB EB hQB
    clear S2 gL p9
    (refine Mine.el_A (rRow_get hx) fun hi zq0 => ?_; (first | subst zq0 | cases zq0))
    (refine Mine.el_E (er_int hv) fun tk zq0 => ?_; (first | subst zq0 | cases zq0))
    rw [show (0 : Int) + (i : Int) * 1 = (i : Int) by omega]
    (refine Mine.el_A (join_none hit') fun fi gi => ?_)
    rw [upd_join] at S3
    (refine Mine.el_E (show ∃ o : AO, o = AO.raw (rIt (0 + ((i + 1 : Nat) : Int) * 1) ((n : Int) - ((i + 1 : Nat) : Int)) 1) from ⟨_, rfl⟩) fun o ho => ?_)
    change St c _ (join (upd F' it (AO.raw (rIt (0 + ((i + 1 : Nat) : Int) * 1) ((n : Int) - ((i + 1 : Nat) : Int)) 1))) G') s3 at S3
    rw [← ho] at S3
    have lw2 := lw'.give (o := o) fi (by rw [ho]; rfl)
    have fr2 := fr'.fresh fi (x := o)
    have dj2 : Dj (upd F' it o) G' := dj'.l gi
    refine wpAny_assign_Name (stv S3 (join_l lw2.hL) rfl (fun s4 S4 => ?_) rfl rfl rfl)
    rw [upd_join] at S4
    change St c _ (join (upd (upd F' it o) L (.ns (("k", .int (i : Int) 0) :: l'))) G') _ at S4
    have lw3 := lw2.ns (l' := ("k", .int (i : Int) 0) :: l')
    have fr3 := fr2.ns lw2.hL (l' := ("k", .int (i : Int) 0) :: l')
    have dj3 : Dj (upd (upd F' it o) L (.ns (("k", .int (i : Int) 0) :: l'))) G' := dj2.l (dj2.has lw2.hL)
    generalize upd (upd F' it o) L (.ns (("k", .int (i : Int) 0) :: l')) = F3 at S4 lw3 fr3 dj3
    have it3 : ∀ k : Nat, k < 2 → ns[(2 * (i : Int) + k).toNat]? = some (ns.getD (2 * i + k) 0) := fun k hk => by
      rw [show (2 * (i : Int) + k).toNat = 2 * i + k by omega, List.getD_eq_getElem?_getD, List.getElem?_eq_getElem (by first | decide | omega)]; rfl
    have i0 := it3 0 (by decide)
    have i1 := it3 1 (by decide)
    rw [show 2 * (i : Int) + ((0 : Nat) : Int) = 2 * (i : Int) by omega] at i0
    have gL := join_l (G := G') lw3.hL
    have p2 : List.lookup ("script" : Str) (("k", Value.int (i : Int) 0) :: l') = some (.ref sa) := hl'.hs
    show wpAny _ _ (execs [b6 0, b6 1, b6 2] _) _ _ _
    refine execs_cons_h ?_
    intro Q0 hQ0
    show wpAny _ _ (exec (Stmt.Assign _ _ _) _) _ _ _
    walk_at "m_st"
    rename St _ _ _ _ => S5
    refine scr_item sc S5 (by first | decide | omega) i0 (fun t0 => ?_) (by with_unfolding_all rfl)
    walk_at "m_st"
    rename St _ _ _ _ => S6
    refine scr_item sc S6 (by first | decide | omega) i1 (fun t1 => ?_) (by with_unfolding_all rfl)
    walk_at "m_st"
    rename St _ _ _ _ => S7
    rename (join _ _ _ = none) => ht
    refine unpackItems_ S7 (upd_self ..) (.inl hh) (fun vs s8 hvs S8 => ?_) rfl
    clear S7
    (refine Mine.el_EEAA (map_two hvs) fun v1 v2 zq0 h1 h2 => ?_; (first | subst zq0 | cases zq0))
    (refine Mine.el_E (er_int h1) fun t1' zq0 => ?_; (first | subst zq0 | cases zq0))
    (refine Mine.el_E (er_int h2) fun t2' zq0 => ?_; (first | subst zq0 | cases zq0))
    walk_at "m_st"
    rename St _ _ _ _ => S9
    have eL : (lawEnv nm L a0 cd).locals = L := rfl
    have S10 := S9.sub (H := upd (join F3 G') L (.ns (("a", Value.int (ns.getD (2 * i + 0) 0) 0) :: ("b", Value.int (ns.getD (2 * i + 1) 0) 0) :: ("k", .int (i : Int) 0) :: l'))) (by
      rw [eL, upd_upd]
      exact Sub.upd2 ((Sub.refl _).fresh ht) (.inl rfl)) (by rw [upd_join]; exact (fr3.ns lw3.hL).join)
    clear S9 ht h1 h2 hvs
    rw [upd_join] at S10
    have gL := join_l (G := G') (lw3.ns (l' := ("a", Value.int (ns.getD (2 * i + 0) 0) 0) :: ("b", Value.int (ns.getD (2 * i + 1) 0) 0) :: ("k", .int (i : Int) 0) :: l')).hL
    show wpAny _ _ (exec (Stmt.Assign _ _ _) _) _ _ _
    walk_at "m_st"
    rename St _ _ _ _ => S11
    rw [eL, upd_join, upd_upd] at S11
    have b0 := Int.emod_nonneg (ns.getD (2 * i + 0) 0 / 4) (show (5 : Int) ≠ 0 by decide)
    refine b6_2 (a := ns.getD (2 * i + 0) 0) (b := ns.getD (2 * i + 1) 0) (x := 1 + ns.getD (2 * i + 0) 0 / 4 % 5) (qi := [(it, o)]) ⟨_, _, G', M', ks', Ta', S11, lw3.ns, fr3.ns lw3.hL, dj3.l (dj3.has lw3.hL), t', T', ⟨⟨hl'.ht, hl'.ha, hl'.hs⟩, rfl, rfl, rfl⟩⟩ (by first | decide | omega) (by first | decide | omega) (R.mono (by decide) (by decide)) hh hA ?_
    rintro s8 ⟨l8, F8, G8, M8, ks8, Ta8, S8, lw8, fr8, dj8, t8, T8, hl8⟩
    have h9 := (lw8.hi _ (.head _)).1
    walk_at "m_st"
    refine hQB _ (RowAt.mk ⟨l8, F8.del it, G8, M8, ks8, Ta8, rfl, lw8.take, fr8.del h9 (by rw [ho]; rfl), fun a o h => ?_, t8, T8, trivial, hl8⟩ ?_ ?_)
    · show (if a = it then none else F8 a) = none
      rw [dj8 a o h, ite_self]
    · rw [join_n (show F8.del it it = none from if_pos rfl)]
      exact dj8.has h9
    · show St _ _ (upd _ it (AO.raw (rIt (0 + ((i + 1 : Nat) : Int) * 1) ((n : Int) - ((i + 1 : Nat) : Int)) 1))) _
      rw [← ho, upd_join, upd_del6 h9]
      exact S8
  · rintro _ s3 ⟨l', F', G', M', ks', Ta', rfl, lw', fr', dj', t', T', -, hl'⟩ S3 QB EB hQB
    walk_at "m_st"
    exact k _ ⟨l', F', G', M', ks', Ta', S3, lw', fr', dj', t', T', hl'⟩
end
end
section
section
variable {w : World} {c : Cx PySem.Challenge.rw_bd0031_06.row.prog w (MineTop.hd.heap_39 w.params)} {envs : List Env} {F G H : AH} {A : Around} {Q : Flow → Shared → Prop} {E : Value → Shared → Prop} {s : Shared} {nm : Str} {L a sa : Nat} {cd : Value} {ns : List Int} {l : List (Str × Value)}
theorem law_body : fnBody (PySem.Challenge.rw_bd0031_06.row.prog.main.body.getD 21 default) = [lawSt 0, lawSt 1, lawSt 2, lawSt 3, lawSt 4] := rfl
theorem law_walk (S : St c (lawEnv nm L a cd :: envs) H s) (sc : Scr c sa ns) (hL : H L = some (.ns [("script", .ref sa)]))
    (R : Rm A 460 4400) (hh : A.handled = none) (hA : A.frames = some (lawEnv nm L a cd :: envs))
    (k : ∀ Hc s', St c (lawEnv nm L a cd :: envs) Hc s' → Q (.ret (.bool true)) s') :
    wpAny (model PySem.Challenge.rw_bd0031_06.row.prog w) A (execs (fnBody (PySem.Challenge.rw_bd0031_06.row.prog.main.body.getD 21 default)) (lawEnv nm L a cd)) Q E s := by
  rw [law_body]
  have fr := S.frs
  refine execs_cons_h ?_
  intro Q0 hQ0
  with_reducible refine law_st0 S hL (R.mono (by decide) (by decide)) hh ?_
  intro pt ab G s0 dj fa ga t S0
  refine unhide hQ0 ?_
  dsimp only
  have nLa : L ≠ ab := fun z => by rw [z, fa] at hL; (exact Mine.no_ns hL)
  have hL1 : upd H ab (.imap []) L = some (.ns [("script", .ref sa)]) := (upd_ne nLa).trans hL
  obtain ⟨l0, hl0⟩ : ∃ l0 : List (Str × Value), l0 = (("tree" : Str), .ref pt) :: ("above", .ref ab) :: [("script", .ref sa)] := ⟨_, rfl⟩
  rw [← hl0] at S0
  have pn0 : PN6 pt ab sa l0 := by rw [hl0]; exact ⟨rfl, rfl, rfl⟩
  clear hl0
  have dj1 : Dj (upd (upd H ab (.imap [])) L (.ns l0)) G := (dj.l ga).l (dj.has hL)
  have fr1 := (fr.fresh fa (x := .imap [])).ns hL1 (l' := l0)
  have lw : LW6 (upd (upd H ab (.imap [])) L (.ns l0)) L ab [] l0 [] :=
    ⟨upd_self .., by rw [upd_ne (Ne.symm nLa), upd_self]; rfl, fun p hp => by cases hp⟩
  refine execs_cons_h ?_
  intro Q1 hQ1
  with_reducible refine law_st1 (sa := sa) S0 lw fr1 dj1 t T6.start pn0 (R.mono (by decide) (by decide)) hh hA ?_
  intro s1 D1
  refine unhide hQ1 ?_
  dsimp only
  refine execs_cons_h ?_
  intro Q2 hQ2
  with_reducible refine law_st2 D1 (R.mono (by decide) (by decide)) hh hA ?_
  intro s2 D2
  refine unhide hQ2 ?_
  dsimp only
  refine execs_cons_h ?_
  intro Q3 hQ3
  with_reducible refine law_st3 D2 sc (R.mono (by decide) (by decide)) hh hA ?_
  intro s3 D3
  refine unhide hQ3 ?_
  dsimp only
  refine execs_cons_h ?_
  intro Q4 hQ4
  with_reducible refine law_st4 D3 (R.mono (by decide) (by decide)) hh hA ?_
  intro Hc s4 S4
  refine unhide hQ4 ?_
  dsimp only
  exact k _ _ S4
end
end
end Mine
end
section
open PySem PySem.W PyProof.Rows PySem.Calls
set_option linter.unusedVariables false
set_option linter.unusedSimpArgs false
set_option Elab.async false
set_option maxRecDepth 100000
set_option maxHeartbeats 8000000
set_option compiler.extract_closed false
namespace Mine
theorem law_start {w : World} {p : Program} {loose : List Str} {mean : ExcName → Option Value} {mg mb : Str → Option Value} {s₁ : Shared} {h₁ : Heap} {tk : Nat} {m : Str → Option Value} {L a sa : Nat} {nm : Str} {cd : Value} {vs : List Value} {ns : List Int} {st : List Stmt} {env : Env} {Q : Flow → Shared → Prop} {E : Value → Shared → Prop}
    (KX : Frag.In (MineTop.hd.heap_39 w.params) s₁.heap) (TT : Top p loose mean mg mb s₁.heap) (LL : s₁.heap.IsList sa vs.toArray) (II : IntsAre vs ns) (h63 : ¬ (63 : Int) < ns.length) (FF : Fr s₁.heap L h₁ m)
    (hm : m ("script" : Str) = some (.ref sa)) (hst : st = fnBody (PySem.Challenge.rw_bd0031_06.row.prog.main.body.getD 21 default)) (henv : env = lawEnv nm L a cd)
    (k : ∀ s', (∀ b o, s₁.heap.get? b = some o → s'.heap.get? b = some o) → s'.os = s₁.os → s'.gens = s₁.gens → Q (.ret (.bool true)) s') :
    wpAny (model PySem.Challenge.rw_bd0031_06.row.prog w) (callerA.deeper env) (execs st env) Q E { s₁ with heap := h₁, toks := tk } := by
  subst hst henv
  have S0 := St.startL (prog := PySem.Challenge.rw_bd0031_06.row.prog) (w := w) (tk := tk) (env := lawEnv nm L a cd) (l := [("script", .ref sa)]) KX TT FF (fun x v h => by
    rw [List.lookup_cons] at h
    split at h
    · rename (_ == _) = true => hx
      rw [beq_iff_eq] at hx
      subst hx
      cases h
      rw [hm]; rfl
    · cases h) rfl (show ScopeKind.function ≠ .module by decide)
  have sc : Scr (prog := PySem.Challenge.rw_bd0031_06.row.prog) (w := w) (K := (MineTop.hd.heap_39 w.params)) (⟨p, loose, mg, mb, s₁.heap, s₁.gens, s₁.drawn, s₁.os, KX, topRead_of TT⟩) sa ns := ⟨vs, LL, II, by omega⟩
  have hL : upd (fun _ => none) L (.ns [(("script" : Str), Value.ref sa)]) L = some (.ns [(("script" : Str), Value.ref sa)]) := upd_self ..
  have R : Rm (callerA.deeper (lawEnv nm L a cd)) 460 4400 := by
    refine ⟨?_, ?_⟩
    · rw [depth_deeper]; show 1 + claimMargin + 1 + 460 ≤ 900; decide
    · rw [units_deeper]; show 4 + 3 + 4400 ≤ 9000; decide
  have hA : (callerA.deeper (lawEnv nm L a cd)).frames = some (lawEnv nm L a cd :: []) := Around.frames_deeper rfl
  have hh : (callerA.deeper (lawEnv nm L a cd)).handled = none := rfl
  with_reducible refine law_walk S0 sc hL R hh hA ?_
  intro Hc s' S'
  exact k s' S'.base S'.os S'.gens
end Mine
theorem PySem.Challenge.cw_bd0031_06_holds : PySem.Challenge.rw_bd0031_06.Holds :=
  MineTop.hd (by
  w_on
  w_strict (
    k_go0
    rename Fr _ _ _ _ => FF
    rename Top _ _ _ _ _ _ => TT
    rename IntsAre _ _ => II
    rename Heap.IsList _ _ _ => LL
    rename Frag.In _ _ => KX
    with_reducible refine' Mine.law_start KX TT LL II ?h63 FF ?hm ?hst ?henv ?_
    case h63 => assumption
    case hm => rfl
    case hst => rfl
    case henv => rfl
    intro s' e1 e2 e3
    rename (_ = #[]) => hg
    exact ⟨.inl ⟨.bool true, .bool true, [], rfl, fun _ => rfl, .bool true, by first | (with_unfolding_all rfl) | kernel_rfl, fun _ => ⟨List.nodup_nil, fun a h => by cases h⟩⟩, e1, e2, e3.trans hg⟩))
end

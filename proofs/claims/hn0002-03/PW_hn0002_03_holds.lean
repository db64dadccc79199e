import PyProof.Rows.All
import Wide.All
import OpenK.AllK
import Wide.FinOn
import PySem.Challenge.RW_hn0002_03
set_option Elab.async false
set_option linter.unusedVariables false
set_option bootstrap.genMatcherCode false
set_option genSizeOf false

namespace Mine
theorem xA {p0 : Prop} {p1 : Prop} {C : Prop} (h : (p0) ∧ p1) (K : p0 → p1 → C) : C := by
  obtain ⟨h0, h1⟩ := h
  exact K h0 h1
theorem xE {t0 : Sort u_0} {p1 : t0 → Prop} {C : Prop} (h : ∃ a0 : t0, p1 a0) (K : ∀ a0 : t0, p1 a0 → C) : C := by
  obtain ⟨h0, h1⟩ := h
  exact K h0 h1
theorem xAA {p0 : Prop} {p1 : Prop} {p2 : Prop} {C : Prop} (h : (p0) ∧ (p1) ∧ p2) (K : p0 → p1 → p2 → C) : C := by
  obtain ⟨h0, h1, h2⟩ := h
  exact K h0 h1 h2
theorem xAE {t1 : Sort u_1} {p0 : Prop} {p2 : t1 → Prop} {C : Prop} (h : (p0) ∧ ∃ a1 : t1, p2 a1) (K : p0 → ∀ a1 : t1, p2 a1 → C) : C := by
  obtain ⟨h0, h1, h2⟩ := h
  exact K h0 h1 h2
theorem xEA {t0 : Sort u_0} {p1 : t0 → Prop} {p2 : t0 → Prop} {C : Prop} (h : ∃ a0 : t0, (p1 a0) ∧ p2 a0) (K : ∀ a0 : t0, p1 a0 → p2 a0 → C) : C := by
  obtain ⟨h0, h1, h2⟩ := h
  exact K h0 h1 h2
theorem xEE {t0 : Sort u_0} {t1 : Sort u_1} {p2 : t0 → t1 → Prop} {C : Prop} (h : ∃ a0 : t0, ∃ a1 : t1, p2 a0 a1) (K : ∀ a0 : t0, ∀ a1 : t1, p2 a0 a1 → C) : C := by
  obtain ⟨h0, h1, h2⟩ := h
  exact K h0 h1 h2
theorem xAAA {p0 : Prop} {p1 : Prop} {p2 : Prop} {p3 : Prop} {C : Prop} (h : (p0) ∧ (p1) ∧ (p2) ∧ p3) (K : p0 → p1 → p2 → p3 → C) : C := by
  obtain ⟨h0, h1, h2, h3⟩ := h
  exact K h0 h1 h2 h3
theorem xEAA {t0 : Sort u_0} {p1 : t0 → Prop} {p2 : t0 → Prop} {p3 : t0 → Prop} {C : Prop} (h : ∃ a0 : t0, (p1 a0) ∧ (p2 a0) ∧ p3 a0) (K : ∀ a0 : t0, p1 a0 → p2 a0 → p3 a0 → C) : C := by
  obtain ⟨h0, h1, h2, h3⟩ := h
  exact K h0 h1 h2 h3
theorem xEEA {t0 : Sort u_0} {t1 : Sort u_1} {p2 : t0 → t1 → Prop} {p3 : t0 → t1 → Prop} {C : Prop} (h : ∃ a0 : t0, ∃ a1 : t1, (p2 a0 a1) ∧ p3 a0 a1) (K : ∀ a0 : t0, ∀ a1 : t1, p2 a0 a1 → p3 a0 a1 → C) : C := by
  obtain ⟨h0, h1, h2, h3⟩ := h
  exact K h0 h1 h2 h3
theorem xEEE {t0 : Sort u_0} {t1 : Sort u_1} {t2 : Sort u_2} {p3 : t0 → t1 → t2 → Prop} {C : Prop} (h : ∃ a0 : t0, ∃ a1 : t1, ∃ a2 : t2, p3 a0 a1 a2) (K : ∀ a0 : t0, ∀ a1 : t1, ∀ a2 : t2, p3 a0 a1 a2 → C) : C := by
  obtain ⟨h0, h1, h2, h3⟩ := h
  exact K h0 h1 h2 h3
theorem xAAAA {p0 : Prop} {p1 : Prop} {p2 : Prop} {p3 : Prop} {p4 : Prop} {C : Prop} (h : (p0) ∧ (p1) ∧ (p2) ∧ (p3) ∧ p4) (K : p0 → p1 → p2 → p3 → p4 → C) : C := by
  obtain ⟨h0, h1, h2, h3, h4⟩ := h
  exact K h0 h1 h2 h3 h4
theorem xAAEE {t2 : Sort u_2} {t3 : Sort u_3} {p0 : Prop} {p1 : Prop} {p4 : t2 → t3 → Prop} {C : Prop} (h : (p0) ∧ (p1) ∧ ∃ a2 : t2, ∃ a3 : t3, p4 a2 a3) (K : p0 → p1 → ∀ a2 : t2, ∀ a3 : t3, p4 a2 a3 → C) : C := by
  obtain ⟨h0, h1, h2, h3, h4⟩ := h
  exact K h0 h1 h2 h3 h4
theorem xAEAA {t1 : Sort u_1} {p0 : Prop} {p2 : t1 → Prop} {p3 : t1 → Prop} {p4 : t1 → Prop} {C : Prop} (h : (p0) ∧ ∃ a1 : t1, (p2 a1) ∧ (p3 a1) ∧ p4 a1) (K : p0 → ∀ a1 : t1, p2 a1 → p3 a1 → p4 a1 → C) : C := by
  obtain ⟨h0, h1, h2, h3, h4⟩ := h
  exact K h0 h1 h2 h3 h4
theorem xEAAA {t0 : Sort u_0} {p1 : t0 → Prop} {p2 : t0 → Prop} {p3 : t0 → Prop} {p4 : t0 → Prop} {C : Prop} (h : ∃ a0 : t0, (p1 a0) ∧ (p2 a0) ∧ (p3 a0) ∧ p4 a0) (K : ∀ a0 : t0, p1 a0 → p2 a0 → p3 a0 → p4 a0 → C) : C := by
  obtain ⟨h0, h1, h2, h3, h4⟩ := h
  exact K h0 h1 h2 h3 h4
theorem xEAEA {t0 : Sort u_0} {t2 : Sort u_2} {p1 : t0 → Prop} {p3 : t0 → t2 → Prop} {p4 : t0 → t2 → Prop} {C : Prop} (h : ∃ a0 : t0, (p1 a0) ∧ ∃ a2 : t2, (p3 a0 a2) ∧ p4 a0 a2) (K : ∀ a0 : t0, p1 a0 → ∀ a2 : t2, p3 a0 a2 → p4 a0 a2 → C) : C := by
  obtain ⟨h0, h1, h2, h3, h4⟩ := h
  exact K h0 h1 h2 h3 h4
theorem xEEAA {t0 : Sort u_0} {t1 : Sort u_1} {p2 : t0 → t1 → Prop} {p3 : t0 → t1 → Prop} {p4 : t0 → t1 → Prop} {C : Prop} (h : ∃ a0 : t0, ∃ a1 : t1, (p2 a0 a1) ∧ (p3 a0 a1) ∧ p4 a0 a1) (K : ∀ a0 : t0, ∀ a1 : t1, p2 a0 a1 → p3 a0 a1 → p4 a0 a1 → C) : C := by
  obtain ⟨h0, h1, h2, h3, h4⟩ := h
  exact K h0 h1 h2 h3 h4
theorem xEEEA {t0 : Sort u_0} {t1 : Sort u_1} {t2 : Sort u_2} {p3 : t0 → t1 → t2 → Prop} {p4 : t0 → t1 → t2 → Prop} {C : Prop} (h : ∃ a0 : t0, ∃ a1 : t1, ∃ a2 : t2, (p3 a0 a1 a2) ∧ p4 a0 a1 a2) (K : ∀ a0 : t0, ∀ a1 : t1, ∀ a2 : t2, p3 a0 a1 a2 → p4 a0 a1 a2 → C) : C := by
  obtain ⟨h0, h1, h2, h3, h4⟩ := h
  exact K h0 h1 h2 h3 h4
theorem xAAAAA {p0 : Prop} {p1 : Prop} {p2 : Prop} {p3 : Prop} {p4 : Prop} {p5 : Prop} {C : Prop} (h : (p0) ∧ (p1) ∧ (p2) ∧ (p3) ∧ (p4) ∧ p5) (K : p0 → p1 → p2 → p3 → p4 → p5 → C) : C := by
  obtain ⟨h0, h1, h2, h3, h4, h5⟩ := h
  exact K h0 h1 h2 h3 h4 h5
theorem xAEAEA {t1 : Sort u_1} {t3 : Sort u_3} {p0 : Prop} {p2 : t1 → Prop} {p4 : t1 → t3 → Prop} {p5 : t1 → t3 → Prop} {C : Prop} (h : (p0) ∧ ∃ a1 : t1, (p2 a1) ∧ ∃ a3 : t3, (p4 a1 a3) ∧ p5 a1 a3) (K : p0 → ∀ a1 : t1, p2 a1 → ∀ a3 : t3, p4 a1 a3 → p5 a1 a3 → C) : C := by
  obtain ⟨h0, h1, h2, h3, h4, h5⟩ := h
  exact K h0 h1 h2 h3 h4 h5
theorem xAEEAA {t1 : Sort u_1} {t2 : Sort u_2} {p0 : Prop} {p3 : t1 → t2 → Prop} {p4 : t1 → t2 → Prop} {p5 : t1 → t2 → Prop} {C : Prop} (h : (p0) ∧ ∃ a1 : t1, ∃ a2 : t2, (p3 a1 a2) ∧ (p4 a1 a2) ∧ p5 a1 a2) (K : p0 → ∀ a1 : t1, ∀ a2 : t2, p3 a1 a2 → p4 a1 a2 → p5 a1 a2 → C) : C := by
  obtain ⟨h0, h1, h2, h3, h4, h5⟩ := h
  exact K h0 h1 h2 h3 h4 h5
theorem xEAAAA {t0 : Sort u_0} {p1 : t0 → Prop} {p2 : t0 → Prop} {p3 : t0 → Prop} {p4 : t0 → Prop} {p5 : t0 → Prop} {C : Prop} (h : ∃ a0 : t0, (p1 a0) ∧ (p2 a0) ∧ (p3 a0) ∧ (p4 a0) ∧ p5 a0) (K : ∀ a0 : t0, p1 a0 → p2 a0 → p3 a0 → p4 a0 → p5 a0 → C) : C := by
  obtain ⟨h0, h1, h2, h3, h4, h5⟩ := h
  exact K h0 h1 h2 h3 h4 h5
theorem xEEAAA {t0 : Sort u_0} {t1 : Sort u_1} {p2 : t0 → t1 → Prop} {p3 : t0 → t1 → Prop} {p4 : t0 → t1 → Prop} {p5 : t0 → t1 → Prop} {C : Prop} (h : ∃ a0 : t0, ∃ a1 : t1, (p2 a0 a1) ∧ (p3 a0 a1) ∧ (p4 a0 a1) ∧ p5 a0 a1) (K : ∀ a0 : t0, ∀ a1 : t1, p2 a0 a1 → p3 a0 a1 → p4 a0 a1 → p5 a0 a1 → C) : C := by
  obtain ⟨h0, h1, h2, h3, h4, h5⟩ := h
  exact K h0 h1 h2 h3 h4 h5
theorem xEEAEA {t0 : Sort u_0} {t1 : Sort u_1} {t3 : Sort u_3} {p2 : t0 → t1 → Prop} {p4 : t0 → t1 → t3 → Prop} {p5 : t0 → t1 → t3 → Prop} {C : Prop} (h : ∃ a0 : t0, ∃ a1 : t1, (p2 a0 a1) ∧ ∃ a3 : t3, (p4 a0 a1 a3) ∧ p5 a0 a1 a3) (K : ∀ a0 : t0, ∀ a1 : t1, p2 a0 a1 → ∀ a3 : t3, p4 a0 a1 a3 → p5 a0 a1 a3 → C) : C := by
  obtain ⟨h0, h1, h2, h3, h4, h5⟩ := h
  exact K h0 h1 h2 h3 h4 h5
theorem xEEEAA {t0 : Sort u_0} {t1 : Sort u_1} {t2 : Sort u_2} {p3 : t0 → t1 → t2 → Prop} {p4 : t0 → t1 → t2 → Prop} {p5 : t0 → t1 → t2 → Prop} {C : Prop} (h : ∃ a0 : t0, ∃ a1 : t1, ∃ a2 : t2, (p3 a0 a1 a2) ∧ (p4 a0 a1 a2) ∧ p5 a0 a1 a2) (K : ∀ a0 : t0, ∀ a1 : t1, ∀ a2 : t2, p3 a0 a1 a2 → p4 a0 a1 a2 → p5 a0 a1 a2 → C) : C := by
  obtain ⟨h0, h1, h2, h3, h4, h5⟩ := h
  exact K h0 h1 h2 h3 h4 h5
theorem xEEAAAA {t0 : Sort u_0} {t1 : Sort u_1} {p2 : t0 → t1 → Prop} {p3 : t0 → t1 → Prop} {p4 : t0 → t1 → Prop} {p5 : t0 → t1 → Prop} {p6 : t0 → t1 → Prop} {C : Prop} (h : ∃ a0 : t0, ∃ a1 : t1, (p2 a0 a1) ∧ (p3 a0 a1) ∧ (p4 a0 a1) ∧ (p5 a0 a1) ∧ p6 a0 a1) (K : ∀ a0 : t0, ∀ a1 : t1, p2 a0 a1 → p3 a0 a1 → p4 a0 a1 → p5 a0 a1 → p6 a0 a1 → C) : C := by
  obtain ⟨h0, h1, h2, h3, h4, h5, h6⟩ := h
  exact K h0 h1 h2 h3 h4 h5 h6
theorem xEEEAAA {t0 : Sort u_0} {t1 : Sort u_1} {t2 : Sort u_2} {p3 : t0 → t1 → t2 → Prop} {p4 : t0 → t1 → t2 → Prop} {p5 : t0 → t1 → t2 → Prop} {p6 : t0 → t1 → t2 → Prop} {C : Prop} (h : ∃ a0 : t0, ∃ a1 : t1, ∃ a2 : t2, (p3 a0 a1 a2) ∧ (p4 a0 a1 a2) ∧ (p5 a0 a1 a2) ∧ p6 a0 a1 a2) (K : ∀ a0 : t0, ∀ a1 : t1, ∀ a2 : t2, p3 a0 a1 a2 → p4 a0 a1 a2 → p5 a0 a1 a2 → p6 a0 a1 a2 → C) : C := by
  obtain ⟨h0, h1, h2, h3, h4, h5, h6⟩ := h
  exact K h0 h1 h2 h3 h4 h5 h6
theorem xEEEEAA {t0 : Sort u_0} {t1 : Sort u_1} {t2 : Sort u_2} {t3 : Sort u_3} {p4 : t0 → t1 → t2 → t3 → Prop} {p5 : t0 → t1 → t2 → t3 → Prop} {p6 : t0 → t1 → t2 → t3 → Prop} {C : Prop} (h : ∃ a0 : t0, ∃ a1 : t1, ∃ a2 : t2, ∃ a3 : t3, (p4 a0 a1 a2 a3) ∧ (p5 a0 a1 a2 a3) ∧ p6 a0 a1 a2 a3) (K : ∀ a0 : t0, ∀ a1 : t1, ∀ a2 : t2, ∀ a3 : t3, p4 a0 a1 a2 a3 → p5 a0 a1 a2 a3 → p6 a0 a1 a2 a3 → C) : C := by
  obtain ⟨h0, h1, h2, h3, h4, h5, h6⟩ := h
  exact K h0 h1 h2 h3 h4 h5 h6
theorem xAEEAAAA {t1 : Sort u_1} {t2 : Sort u_2} {p0 : Prop} {p3 : t1 → t2 → Prop} {p4 : t1 → t2 → Prop} {p5 : t1 → t2 → Prop} {p6 : t1 → t2 → Prop} {p7 : t1 → t2 → Prop} {C : Prop} (h : (p0) ∧ ∃ a1 : t1, ∃ a2 : t2, (p3 a1 a2) ∧ (p4 a1 a2) ∧ (p5 a1 a2) ∧ (p6 a1 a2) ∧ p7 a1 a2) (K : p0 → ∀ a1 : t1, ∀ a2 : t2, p3 a1 a2 → p4 a1 a2 → p5 a1 a2 → p6 a1 a2 → p7 a1 a2 → C) : C := by
  obtain ⟨h0, h1, h2, h3, h4, h5, h6, h7⟩ := h
  exact K h0 h1 h2 h3 h4 h5 h6 h7
theorem xEEAAAAA {t0 : Sort u_0} {t1 : Sort u_1} {p2 : t0 → t1 → Prop} {p3 : t0 → t1 → Prop} {p4 : t0 → t1 → Prop} {p5 : t0 → t1 → Prop} {p6 : t0 → t1 → Prop} {p7 : t0 → t1 → Prop} {C : Prop} (h : ∃ a0 : t0, ∃ a1 : t1, (p2 a0 a1) ∧ (p3 a0 a1) ∧ (p4 a0 a1) ∧ (p5 a0 a1) ∧ (p6 a0 a1) ∧ p7 a0 a1) (K : ∀ a0 : t0, ∀ a1 : t1, p2 a0 a1 → p3 a0 a1 → p4 a0 a1 → p5 a0 a1 → p6 a0 a1 → p7 a0 a1 → C) : C := by
  obtain ⟨h0, h1, h2, h3, h4, h5, h6, h7⟩ := h
  exact K h0 h1 h2 h3 h4 h5 h6 h7
theorem xEEEEAAA {t0 : Sort u_0} {t1 : Sort u_1} {t2 : Sort u_2} {t3 : Sort u_3} {p4 : t0 → t1 → t2 → t3 → Prop} {p5 : t0 → t1 → t2 → t3 → Prop} {p6 : t0 → t1 → t2 → t3 → Prop} {p7 : t0 → t1 → t2 → t3 → Prop} {C : Prop} (h : ∃ a0 : t0, ∃ a1 : t1, ∃ a2 : t2, ∃ a3 : t3, (p4 a0 a1 a2 a3) ∧ (p5 a0 a1 a2 a3) ∧ (p6 a0 a1 a2 a3) ∧ p7 a0 a1 a2 a3) (K : ∀ a0 : t0, ∀ a1 : t1, ∀ a2 : t2, ∀ a3 : t3, p4 a0 a1 a2 a3 → p5 a0 a1 a2 a3 → p6 a0 a1 a2 a3 → p7 a0 a1 a2 a3 → C) : C := by
  obtain ⟨h0, h1, h2, h3, h4, h5, h6, h7⟩ := h
  exact K h0 h1 h2 h3 h4 h5 h6 h7
theorem xEEEAAAAA {t0 : Sort u_0} {t1 : Sort u_1} {t2 : Sort u_2} {p3 : t0 → t1 → t2 → Prop} {p4 : t0 → t1 → t2 → Prop} {p5 : t0 → t1 → t2 → Prop} {p6 : t0 → t1 → t2 → Prop} {p7 : t0 → t1 → t2 → Prop} {p8 : t0 → t1 → t2 → Prop} {C : Prop} (h : ∃ a0 : t0, ∃ a1 : t1, ∃ a2 : t2, (p3 a0 a1 a2) ∧ (p4 a0 a1 a2) ∧ (p5 a0 a1 a2) ∧ (p6 a0 a1 a2) ∧ (p7 a0 a1 a2) ∧ p8 a0 a1 a2) (K : ∀ a0 : t0, ∀ a1 : t1, ∀ a2 : t2, p3 a0 a1 a2 → p4 a0 a1 a2 → p5 a0 a1 a2 → p6 a0 a1 a2 → p7 a0 a1 a2 → p8 a0 a1 a2 → C) : C := by
  obtain ⟨h0, h1, h2, h3, h4, h5, h6, h7, h8⟩ := h
  exact K h0 h1 h2 h3 h4 h5 h6 h7 h8
theorem xEEEEEAAA {t0 : Sort u_0} {t1 : Sort u_1} {t2 : Sort u_2} {t3 : Sort u_3} {t4 : Sort u_4} {p5 : t0 → t1 → t2 → t3 → t4 → Prop} {p6 : t0 → t1 → t2 → t3 → t4 → Prop} {p7 : t0 → t1 → t2 → t3 → t4 → Prop} {p8 : t0 → t1 → t2 → t3 → t4 → Prop} {C : Prop} (h : ∃ a0 : t0, ∃ a1 : t1, ∃ a2 : t2, ∃ a3 : t3, ∃ a4 : t4, (p5 a0 a1 a2 a3 a4) ∧ (p6 a0 a1 a2 a3 a4) ∧ (p7 a0 a1 a2 a3 a4) ∧ p8 a0 a1 a2 a3 a4) (K : ∀ a0 : t0, ∀ a1 : t1, ∀ a2 : t2, ∀ a3 : t3, ∀ a4 : t4, p5 a0 a1 a2 a3 a4 → p6 a0 a1 a2 a3 a4 → p7 a0 a1 a2 a3 a4 → p8 a0 a1 a2 a3 a4 → C) : C := by
  obtain ⟨h0, h1, h2, h3, h4, h5, h6, h7, h8⟩ := h
  exact K h0 h1 h2 h3 h4 h5 h6 h7 h8
theorem xAEEEEEAAAAA {t1 : Sort u_1} {t2 : Sort u_2} {t3 : Sort u_3} {t4 : Sort u_4} {t5 : Sort u_5} {p0 : Prop} {p6 : t1 → t2 → t3 → t4 → t5 → Prop} {p7 : t1 → t2 → t3 → t4 → t5 → Prop} {p8 : t1 → t2 → t3 → t4 → t5 → Prop} {p9 : t1 → t2 → t3 → t4 → t5 → Prop} {p10 : t1 → t2 → t3 → t4 → t5 → Prop} {p11 : t1 → t2 → t3 → t4 → t5 → Prop} {C : Prop} (h : (p0) ∧ ∃ a1 : t1, ∃ a2 : t2, ∃ a3 : t3, ∃ a4 : t4, ∃ a5 : t5, (p6 a1 a2 a3 a4 a5) ∧ (p7 a1 a2 a3 a4 a5) ∧ (p8 a1 a2 a3 a4 a5) ∧ (p9 a1 a2 a3 a4 a5) ∧ (p10 a1 a2 a3 a4 a5) ∧ p11 a1 a2 a3 a4 a5) (K : p0 → ∀ a1 : t1, ∀ a2 : t2, ∀ a3 : t3, ∀ a4 : t4, ∀ a5 : t5, p6 a1 a2 a3 a4 a5 → p7 a1 a2 a3 a4 a5 → p8 a1 a2 a3 a4 a5 → p9 a1 a2 a3 a4 a5 → p10 a1 a2 a3 a4 a5 → p11 a1 a2 a3 a4 a5 → C) : C := by
  obtain ⟨h0, h1, h2, h3, h4, h5, h6, h7, h8, h9, h10, h11⟩ := h
  exact K h0 h1 h2 h3 h4 h5 h6 h7 h8 h9 h10 h11
theorem xEEEEEEEEEAAA {t0 : Sort u_0} {t1 : Sort u_1} {t2 : Sort u_2} {t3 : Sort u_3} {t4 : Sort u_4} {t5 : Sort u_5} {t6 : Sort u_6} {t7 : Sort u_7} {t8 : Sort u_8} {p9 : t0 → t1 → t2 → t3 → t4 → t5 → t6 → t7 → t8 → Prop} {p10 : t0 → t1 → t2 → t3 → t4 → t5 → t6 → t7 → t8 → Prop} {p11 : t0 → t1 → t2 → t3 → t4 → t5 → t6 → t7 → t8 → Prop} {p12 : t0 → t1 → t2 → t3 → t4 → t5 → t6 → t7 → t8 → Prop} {C : Prop} (h : ∃ a0 : t0, ∃ a1 : t1, ∃ a2 : t2, ∃ a3 : t3, ∃ a4 : t4, ∃ a5 : t5, ∃ a6 : t6, ∃ a7 : t7, ∃ a8 : t8, (p9 a0 a1 a2 a3 a4 a5 a6 a7 a8) ∧ (p10 a0 a1 a2 a3 a4 a5 a6 a7 a8) ∧ (p11 a0 a1 a2 a3 a4 a5 a6 a7 a8) ∧ p12 a0 a1 a2 a3 a4 a5 a6 a7 a8) (K : ∀ a0 : t0, ∀ a1 : t1, ∀ a2 : t2, ∀ a3 : t3, ∀ a4 : t4, ∀ a5 : t5, ∀ a6 : t6, ∀ a7 : t7, ∀ a8 : t8, p9 a0 a1 a2 a3 a4 a5 a6 a7 a8 → p10 a0 a1 a2 a3 a4 a5 a6 a7 a8 → p11 a0 a1 a2 a3 a4 a5 a6 a7 a8 → p12 a0 a1 a2 a3 a4 a5 a6 a7 a8 → C) : C := by
  obtain ⟨h0, h1, h2, h3, h4, h5, h6, h7, h8, h9, h10, h11, h12⟩ := h
  exact K h0 h1 h2 h3 h4 h5 h6 h7 h8 h9 h10 h11 h12
end Mine

open PySem PySem.W PyProof.Rows
namespace Mine

/-- keys that may be hashed -/
inductive HK where
  | int (i : Int)
  | str (s : Str)
  | t2 (a b : HK)
  | t3 (a b c : HK)
  deriving DecidableEq

noncomputable def HK.py : HK → PyData
  | .int i => .int i
  | .str s => .str s
  | .t2 a b => .tuple [a.py, b.py]
  | .t3 a b c => .tuple [a.py, b.py, c.py]

noncomputable def HK.hash (w : World) : HK → Int
  | .int i => hashInt i
  | .str s => hashStr w s
  | .t2 a b => reduceHash (Builtin.Tuple.tupleHashOf [a.hash w, b.hash w])
  | .t3 a b c => reduceHash (Builtin.Tuple.tupleHashOf [a.hash w, b.hash w, c.hash w])

noncomputable abbrev LObj (vs : Array Value) (n : Nat) : Obj := { cls := .type "list", dict := none, data := .seq vs n, slots := #[] }
noncomputable abbrev TObj (vs : Array Value) (n : Nat) : Obj := { cls := .type "tuple", dict := none, data := .seq vs n, slots := #[] }
noncomputable abbrev DObj (es : Array DictEntry) (n : Nat) : Obj := { cls := .type "dict", dict := none, data := .dict es n, slots := #[] }

inductive KIs (R : Addr → Prop) (h : Heap) : HK → Value → Prop
  | int (i t) : KIs R h (.int i) (.int i t)
  | str (x t) : KIs R h (.str x) (.str x t)
  | t2 {a b va vb p n} : R p → h.get? p = some (TObj #[va, vb] n) → KIs R h a va → KIs R h b vb → KIs R h (.t2 a b) (.ref p)
  | t3 {a b c va vb vc p n} : R p → h.get? p = some (TObj #[va, vb, vc] n) → KIs R h a va → KIs R h b vb → KIs R h c vc → KIs R h (.t3 a b c) (.ref p)

inductive Ents (w : World) (R : Addr → Prop) (h : Heap) : List HK → List DictEntry → Prop
  | nil : Ents w R h [] []
  | cons {k v x ks es} : KIs R h k v → Ents w R h ks es → Ents w R h (k :: ks) (⟨k.hash w, v, x⟩ :: es)

mutual
inductive Rp (w : World) (R : Addr → Prop) (h : Heap) : Value → PyData → Prop
  | none : Rp w R h .none .none
  | bool (b) : Rp w R h (.bool b) (.bool b)
  | int (i t) : Rp w R h (.int i t) (.int i)
  | str (x t) : Rp w R h (.str x t) (.str x)
  | list {a vs n xs} : R a → h.get? a = some (LObj vs n) → RpAll w R h vs.toList xs → Rp w R h (.ref a) (.list xs)
  | tuple {a vs n xs} : R a → h.get? a = some (TObj vs n) → RpAll w R h vs.toList xs → Rp w R h (.ref a) (.tuple xs)
  | dict {a es n ks xs} : R a → h.get? a = some (DObj es n) → Ents w R h ks es.toList → (ks.Nodup ∧ a ≠ sysModules) →
      RpAll w R h (es.toList.map (·.val)) xs → Rp w R h (.ref a) (.dict ((ks.map HK.py).zip xs))
inductive RpAll (w : World) (R : Addr → Prop) (h : Heap) : List Value → List PyData → Prop
  | nil : RpAll w R h [] []
  | cons {v vs d ds} : Rp w R h v d → RpAll w R h vs ds → RpAll w R h (v :: vs) (d :: ds)
end

section
variable {w : World} {R : Addr → Prop} {h : Heap}
@[elab_as_elim] theorem Rp.elimInt {i : Int} {motive : (v : Value) → Rp w R h v (.int i) → Prop} (int : ∀ t, motive (.int i t) (.int i t)) {v : Value} (p : Rp w R h v (.int i)) : motive v p := by cases p; exact int _
@[elab_as_elim] theorem Rp.elimBool {b : Bool} {motive : (v : Value) → Rp w R h v (.bool b) → Prop} (bool : motive (.bool b) (.bool b)) {v : Value} (p : Rp w R h v (.bool b)) : motive v p := by cases p; exact bool
@[elab_as_elim] theorem Rp.elimStr {x : Str} {motive : (v : Value) → Rp w R h v (.str x) → Prop} (str : ∀ t, motive (.str x t) (.str x t)) {v : Value} (p : Rp w R h v (.str x)) : motive v p := by cases p; exact str _
@[elab_as_elim] theorem Rp.elimList {xs : List PyData} {motive : (v : Value) → Rp w R h v (.list xs) → Prop} (list : ∀ {a vs n} (ha : R a) (hg : h.get? a = some (LObj vs n)) (hv : RpAll w R h vs.toList xs), motive (.ref a) (.list ha hg hv)) {v : Value} (p : Rp w R h v (.list xs)) : motive v p := by
  cases p with
  | list a b c => exact list a b c
@[elab_as_elim] theorem Rp.elimTuple {xs : List PyData} {motive : (v : Value) → Rp w R h v (.tuple xs) → Prop} (tuple : ∀ {a vs n} (ha : R a) (hg : h.get? a = some (TObj vs n)) (hv : RpAll w R h vs.toList xs), motive (.ref a) (.tuple ha hg hv)) {v : Value} (p : Rp w R h v (.tuple xs)) : motive v p := by
  cases p with
  | tuple a b c => exact tuple a b c
@[elab_as_elim] theorem RpAll.elimCons {d : PyData} {ds : List PyData} {motive : (vs : List Value) → RpAll w R h vs (d :: ds) → Prop} (cons : ∀ {v vs} (hv : Rp w R h v d) (hs : RpAll w R h vs ds), motive (v :: vs) (.cons hv hs)) {vs : List Value} (p : RpAll w R h vs (d :: ds)) : motive vs p := by
  cases p with
  | cons a b => exact cons a b
@[elab_as_elim] theorem RpAll.elimNil {motive : (vs : List Value) → RpAll w R h vs [] → Prop} (nil : motive [] .nil) {vs : List Value} (p : RpAll w R h vs []) : motive vs p := by cases p; exact nil
end

/-- all but the addresses in W stay -/
noncomputable def Kp (W : Addr → Prop) (h h' : Heap) : Prop := ∀ b o, ¬ W b → h.get? b = some o → h'.get? b = some o
theorem Kp.refl (W h) : Kp W h h := fun _ _ _ e => e
theorem Kp.trans {W h h' h''} (x : Kp W h h') (y : Kp W h' h'') : Kp W h h'' := fun b o n e => y b o n (x b o n e)
theorem Kp.mono {W W' : Addr → Prop} {h h'} (x : Kp W h h') (m : ∀ a, W a → W' a) : Kp W' h h' := fun b o n e => x b o (fun q => n (m _ q)) e
theorem Kp.of_keep {W h h'} (k : ∀ b o, h.get? b = some o → h'.get? b = some o) : Kp W h h' := fun b o _ e => k b o e

/-- from region R at h to region R' at h' : what R holds at h is held by R' and stands at h' -/
noncomputable def Mv (R R' : Addr → Prop) (h h' : Heap) : Prop := ∀ a o, R a → h.get? a = some o → R' a ∧ h'.get? a = some o

theorem Mv.kp {R W : Addr → Prop} {h h' : Heap} (hk : Kp W h h') (hW : ∀ a, R a → ¬ W a) : Mv R R h h' := fun a o r e => ⟨r, hk a o (hW a r) e⟩
theorem Mv.keep {R : Addr → Prop} {h h' : Heap} (hk : ∀ b o, h.get? b = some o → h'.get? b = some o) : Mv R R h h' := fun a o r e => ⟨r, hk a o e⟩
theorem Mv.trans {R R' R'' : Addr → Prop} {h h' h'' : Heap} (x : Mv R R' h h') (y : Mv R' R'' h' h'') : Mv R R'' h h'' := fun a o r e => let ⟨r', e'⟩ := x a o r e; y a o r' e'
theorem Mv.sub {R R' : Addr → Prop} {h : Heap} (m : ∀ a, R a → R' a) : Mv R R' h h := fun a _ r e => ⟨m a r, e⟩

theorem KIs.mv {R R' : Addr → Prop} {h h' : Heap} (m : Mv R R' h h') {k v} (x : KIs R h k v) : KIs R' h' k v := by
  induction x with
  | int i t => exact .int i t
  | str x t => exact .str x t
  | t2 r e _ _ ih1 ih2 => exact .t2 (m _ _ r e).1 (m _ _ r e).2 ih1 ih2
  | t3 r e _ _ _ ih1 ih2 ih3 => exact .t3 (m _ _ r e).1 (m _ _ r e).2 ih1 ih2 ih3

theorem Ents.mv {w : World} {R R' : Addr → Prop} {h h' : Heap} (m : Mv R R' h h') {ks es} (x : Ents w R h ks es) : Ents w R' h' ks es := by
  induction x with
  | nil => exact .nil
  | cons a _ ih => exact .cons (a.mv m) ih

mutual
theorem Rp.mv {w : World} {R R' : Addr → Prop} {h h' : Heap} (m : Mv R R' h h') : ∀ {v : Value} {d : PyData}, Rp w R h v d → Rp w R' h' v d
  | _, _, .none => .none
  | _, _, .bool b => .bool b
  | _, _, .int i t => .int i t
  | _, _, .str x t => .str x t
  | _, _, .list r e l => .list (m _ _ r e).1 (m _ _ r e).2 (RpAll.mv m l)
  | _, _, .tuple r e l => .tuple (m _ _ r e).1 (m _ _ r e).2 (RpAll.mv m l)
  | _, _, .dict r e k n l => .dict (m _ _ r e).1 (m _ _ r e).2 (k.mv m) n (RpAll.mv m l)
theorem RpAll.mv {w : World} {R R' : Addr → Prop} {h h' : Heap} (m : Mv R R' h h') : ∀ {vs : List Value} {ds : List PyData}, RpAll w R h vs ds → RpAll w R' h' vs ds
  | _, _, .nil => .nil
  | _, _, .cons a b => .cons (Rp.mv m a) (RpAll.mv m b)
end

theorem KIs.rp {w : World} {R : Addr → Prop} {h : Heap} {k v} (x : KIs R h k v) : Rp w R h v k.py := by
  induction x with
  | int i t => exact .int i t
  | str x t => exact .str x t
  | t2 r e _ _ ih1 ih2 => exact .tuple r e (.cons ih1 (.cons ih2 .nil))
  | t3 r e _ _ _ ih1 ih2 ih3 => exact .tuple r e (.cons ih1 (.cons ih2 (.cons ih3 .nil)))

theorem Rp.kis {w : World} {R : Addr → Prop} {h : Heap} : ∀ (k : HK) {v : Value}, Rp w R h v k.py → KIs R h k v
  | .int i, v, r => by unfold HK.py at r; cases r; exact .int _ _
  | .str i, v, r => by unfold HK.py at r; cases r; exact .str _ _
  | .t2 a b, v, r => by
    unfold HK.py at r
    cases r with
    | @tuple p vs n xs hR e l =>
      obtain ⟨vl⟩ := vs
      cases l with
      | cons l1 l2 => cases l2 with
        | cons l2 l3 => cases l3; exact .t2 hR e (Rp.kis a l1) (Rp.kis b l2)
  | .t3 a b c, v, r => by
    unfold HK.py at r
    cases r with
    | @tuple p vs n xs hR e l =>
      obtain ⟨vl⟩ := vs
      cases l with
      | cons l1 l2 => cases l2 with
        | cons l2 l3 => cases l3 with
          | cons l3 l4 => cases l4; exact .t3 hR e (Rp.kis a l1) (Rp.kis b l2) (Rp.kis c l3)

/-- the library's reading -/
theorem KIs.reads {R : Addr → Prop} {h : Heap} {k v} (x : KIs R h k v) : ∃ as, Reads h v k.py as := by
  induction x with
  | int i t => exact ⟨_, .int i t⟩
  | str x t => exact ⟨_, .str x t⟩
  | t2 r e _ _ ih1 ih2 => obtain ⟨a1, r1⟩ := ih1; obtain ⟨a2, r2⟩ := ih2; exact ⟨_, .tuple e rfl rfl (.cons r1 (.cons r2 .nil))⟩
  | t3 r e _ _ _ ih1 ih2 ih3 => obtain ⟨a1, r1⟩ := ih1; obtain ⟨a2, r2⟩ := ih2; obtain ⟨a3, r3⟩ := ih3; exact ⟨_, .tuple e rfl rfl (.cons r1 (.cons r2 (.cons r3 .nil)))⟩

theorem Ents.readsKeys {w : World} {R : Addr → Prop} {h : Heap} {ks es} (x : Ents w R h ks es) : ∃ as, ReadsAll h (es.map (·.key)) (ks.map HK.py) as := by
  induction x with
  | nil => exact ⟨_, .nil⟩
  | cons a _ ih => obtain ⟨a1, r1⟩ := a.reads; obtain ⟨a2, r2⟩ := ih; exact ⟨_, .cons r1 r2⟩
theorem Ents.length {w : World} {R : Addr → Prop} {h : Heap} {ks es} (x : Ents w R h ks es) : ks.length = es.length := by
  induction x with
  | nil => rfl
  | cons _ _ ih => simp [ih]
theorem RpAll.length {w : World} {R : Addr → Prop} {h : Heap} : ∀ {vs : List Value} {ds : List PyData}, RpAll w R h vs ds → vs.length = ds.length
  | _, _, .nil => rfl
  | _, _, .cons _ b => by simp [RpAll.length b]

mutual
theorem Rp.reads {w : World} {R : Addr → Prop} {h : Heap} : ∀ {v : Value} {d : PyData}, Rp w R h v d → ∃ as, Reads h v d as
  | _, _, .none => ⟨_, .none⟩
  | _, _, .bool b => ⟨_, .bool b⟩
  | _, _, .int i t => ⟨_, .int i t⟩
  | _, _, .str x t => ⟨_, .str x t⟩
  | _, _, .list r e l => let ⟨_, q⟩ := RpAll.reads l; ⟨_, .list e rfl rfl q⟩
  | _, _, .tuple r e l => let ⟨_, q⟩ := RpAll.reads l; ⟨_, .tuple e rfl rfl q⟩
  | _, _, .dict (ks := ks) (xs := xs) (es := es) r e k n l => by
    refine xE (RpAll.reads l) fun as q => ?_
    refine xE (k.readsKeys) fun bs q' => ?_
    have h1 : (ks.map HK.py).length = xs.length := by
      have := k.length; have := RpAll.length l; simp at *; omega
    refine ⟨_, .dict e rfl rfl (as := bs) (bs := as) ?_ ?_⟩
    · rw [List.map_fst_zip (by omega)]; exact q'
    · rw [List.map_snd_zip (by omega)]; exact q
theorem RpAll.reads {w : World} {R : Addr → Prop} {h : Heap} : ∀ {vs : List Value} {ds : List PyData}, RpAll w R h vs ds → ∃ as, ReadsAll h vs ds as
  | _, _, .nil => ⟨_, .nil⟩
  | _, _, .cons a b => let ⟨_, p⟩ := Rp.reads a; let ⟨_, q⟩ := RpAll.reads b; ⟨_, .cons p q⟩
end

theorem RpAll.get {w : World} {R : Addr → Prop} {h : Heap} : ∀ {vs : List Value} {ds : List PyData} {i : Nat} {d : PyData}, RpAll w R h vs ds → ds[i]? = some d → ∃ v, vs[i]? = some v ∧ Rp w R h v d
  | _, _, 0, _, .cons a _, e => by simp at e; subst e; exact ⟨_, rfl, a⟩
  | _, _, i + 1, _, .cons _ b, e => by simp at e; obtain ⟨v, h1, h2⟩ := RpAll.get b e; exact ⟨v, by simpa using h1, h2⟩
  | _, _, _, _, .nil, e => by simp at e
theorem RpAll.append {w : World} {R : Addr → Prop} {h : Heap} : ∀ {vs : List Value} {ds : List PyData} {us : List Value} {cs : List PyData}, RpAll w R h vs ds → RpAll w R h us cs → RpAll w R h (vs ++ us) (ds ++ cs)
  | _, _, _, _, .nil, y => y
  | _, _, _, _, .cons a b, y => .cons a (RpAll.append b y)
theorem RpAll.take {w : World} {R : Addr → Prop} {h : Heap} : ∀ {vs : List Value} {ds : List PyData} (n : Nat), RpAll w R h vs ds → RpAll w R h (vs.take n) (ds.take n)
  | _, _, 0, x => by simpa using RpAll.nil
  | _, _, n + 1, .cons a b => by simpa using RpAll.cons a (RpAll.take n b)
  | _, _, n + 1, .nil => by simpa using RpAll.nil

/-- shorter region: what stands -/
theorem Rp.live {w : World} {R : Addr → Prop} {h : Heap} {v : Value} {d : PyData} (x : Rp w R h v d) : Rp w (fun a => R a ∧ (h.get? a).isSome = true) h v d :=
  x.mv fun _ _ r e => ⟨⟨r, by rw [e]; rfl⟩, e⟩
theorem RpAll.live {w : World} {R : Addr → Prop} {h : Heap} {v : List Value} {d : List PyData} (x : RpAll w R h v d) : RpAll w (fun a => R a ∧ (h.get? a).isSome = true) h v d :=
  x.mv fun _ _ r e => ⟨⟨r, by rw [e]; rfl⟩, e⟩

/-- the region R and all that is made from state s on -/
noncomputable def Nw (R : Addr → Prop) (s : Shared) : Addr → Prop := fun a => R a ∨ s.heap.get? a = none

/-- nothing old turned; new things may have been made -/
structure Ex (s s' : Shared) : Prop where
  same : ∃ h' tk, s' = { s with heap := h', toks := tk }
  keep : ∀ b o, s.heap.get? b = some o → s'.heap.get? b = some o
theorem Ex.refl (s : Shared) : Ex s s := ⟨⟨s.heap, s.toks, rfl⟩, fun _ _ e => e⟩
theorem Ex.trans {s s' s'' : Shared} (x : Ex s s') (y : Ex s' s'') : Ex s s'' := by
  obtain ⟨⟨h1, t1, rfl⟩, k1⟩ := x
  obtain ⟨⟨h2, t2, rfl⟩, k2⟩ := y
  exact ⟨⟨h2, t2, rfl⟩, fun b o e => k2 b o (k1 b o e)⟩
theorem Ex.tok {s : Shared} (t : Nat) : Ex s { s with toks := t } := ⟨⟨s.heap, t, rfl⟩, fun _ _ e => e⟩
theorem Ex.push {s : Shared} (o : Obj) (t : Nat) : Ex s { s with heap := s.heap.push o, toks := t } := ⟨⟨_, t, rfl⟩, fun _ _ e => Heap.get?_push_of_some _ e⟩
theorem Ex.of {s : Shared} {h' : Heap} {t : Nat} (k : ∀ b o, s.heap.get? b = some o → h'.get? b = some o) : Ex s { s with heap := h', toks := t } := ⟨⟨_, t, rfl⟩, k⟩
theorem fresh_back {h h' : Heap} (k : ∀ b o, h.get? b = some o → h'.get? b = some o) {a : Addr} (e : h'.get? a = none) : h.get? a = none := by
  cases q : h.get? a with
  | none => rfl
  | some o => rw [k a o q] at e; cases e
theorem fresh_size (h : Heap) : h.get? h.objs.size = none := by
  cases q : h.get? h.objs.size with
  | none => rfl
  | some o => exact absurd (Heap.lt_size q) (Nat.lt_irrefl _)
theorem Nw.back {R : Addr → Prop} {s s' : Shared} (k : Ex s s') {a : Addr} (x : Nw R s' a) : Nw R s a := x.imp id (fresh_back k.keep)
theorem Nw.mv {R : Addr → Prop} {s s' : Shared} (k : Ex s s') (h : Heap) : Mv (Nw R s') (Nw R s) h h := .sub fun _ => Nw.back k
theorem Nw.mv0 {R : Addr → Prop} {s : Shared} (h : Heap) : Mv R (Nw R s) h h := .sub fun _ => .inl
theorem Rp.nw {w : World} {R : Addr → Prop} {s : Shared} {h : Heap} {v d} (x : Rp w R h v d) : Rp w (Nw R s) h v d := x.mv (Nw.mv0 h)
theorem Rp.keeps {w : World} {R : Addr → Prop} {s s' : Shared} (k : Ex s s') {v d} (x : Rp w R s.heap v d) : Rp w R s'.heap v d := x.mv (.keep k.keep)
theorem RpAll.keeps {w : World} {R : Addr → Prop} {s s' : Shared} (k : Ex s s') {v d} (x : RpAll w R s.heap v d) : RpAll w R s'.heap v d := x.mv (.keep k.keep)
theorem Rp.back {w : World} {R : Addr → Prop} {s s' : Shared} {h : Heap} (k : Ex s s') {v d} (x : Rp w (Nw R s') h v d) : Rp w (Nw R s) h v d := x.mv (Nw.mv k h)

end Mine

open PySem PySem.W PyProof.Rows
namespace Mine

structure GEnv where
  names : List (Str × Value)
  fns : List (Addr × FuncData)

noncomputable def GlobalIs (h : Heap) (x : Str) (v : Value) : Prop :=
  ∃ mg, h.Ns mainGlobals mg ∧ (mg x = some v ∨ (mg x = none ∧ ∃ mb, h.Ns builtinsNs mb ∧ mb x = some v))

structure GEnv.In (Γ : GEnv) (h : Heap) : Prop where
  nolimit : h.NoLimit
  names : ∀ x v, Γ.names.lookup x = some v → GlobalIs h x v
  fns : ∀ p ∈ Γ.fns, (∃ o, h.get? p.1 = some o ∧ o.data = .func p.2) ∧ h.CodeRec p.2.code p.2.qualname

theorem GlobalIs.keep {h h' : Heap} {x v} (k : ∀ b o, h.get? b = some o → h'.get? b = some o) (g : GlobalIs h x v) : GlobalIs h' x v :=
  let ⟨mg, a, b⟩ := g
  ⟨mg, a.keeps k, b.imp id fun ⟨e, mb, c, d⟩ => ⟨e, mb, c.keeps k, d⟩⟩
theorem GEnv.In.keep {Γ : GEnv} {h h' : Heap} (k : ∀ b o, h.get? b = some o → h'.get? b = some o) (g : Γ.In h) : Γ.In h' :=
  ⟨g.nolimit.keeps k, fun x v e => (g.names x v e).keep k, fun p hp => ⟨let ⟨o, a, b⟩ := (g.fns p hp).1; ⟨o, k _ _ a, b⟩, (g.fns p hp).2.keeps k⟩⟩

structure EnvOk (sc : Scope) (env : Env) : Prop where
  kind : env.scope.kind = .function
  loc : ∀ x, sc.names.lookup x = some .local → env.kindOf x = some .local
  cell : ∀ x, sc.names.lookup x = some .cell → env.kindOf x = some .cell
  free : ∀ x, sc.names.lookup x = some .free → env.kindOf x = some .free ∨ env.kindOf x = some .cell
  glob : ∀ x, sc.names.lookup x = some .globalImplicit → env.kindOf x = some .globalImplicit
  gl : env.globals = mainGlobals
  bl : env.builtins = builtinsNs
  has : ∀ x, sc.names.lookup x = some .cell ∨ sc.names.lookup x = some .free → ∃ c, env.cells.lookup x = some c
  inj : ∀ x y c, env.cells.lookup x = some c → env.cells.lookup y = some c → x = y

/-- what a name of the frame holds -/
inductive Bd (h : Heap) (env : Env) (x : Str) (v : Value) : Prop
  | loc : env.kindOf x = some .local → (∃ m, h.Ns env.locals m ∧ m x = some v) → Bd h env x v
  | cell : (env.kindOf x = some .cell ∨ env.kindOf x = some .free) → (∃ c, env.cells.lookup x = some c ∧ h.IsCell c (some v)) → Bd h env x v
theorem Bd.keep {h h' : Heap} {env x v} (k : ∀ b o, h.get? b = some o → h'.get? b = some o) (b : Bd h env x v) : Bd h' env x v := by
  cases b with
  | loc a c => obtain ⟨m, c, d⟩ := c; exact .loc a ⟨m, c.keeps k, d⟩
  | cell a c => obtain ⟨m, c, d⟩ := c; exact .cell a ⟨m, c, d.keeps k⟩

noncomputable abbrev Sg := List (Str × PyData)

noncomputable def SG (w : World) (R : Addr → Prop) (h : Heap) (env : Env) (σ : Sg) : Prop := ∀ x d, σ.lookup x = some d → ∃ v, Bd h env x v ∧ Rp w R h v d
structure SR (w : World) (R : Addr → Prop) (h : Heap) (env : Env) (σ : Sg) : Prop where
  cells : ∀ x c, env.cells.lookup x = some c → ∃ o, h.get? c = some o
  get : SG w R h env σ

theorem SR.keep {w R} {h h' : Heap} {env σ} (k : ∀ b o, h.get? b = some o → h'.get? b = some o) (b : SR w R h env σ) : SR w R h' env σ := ⟨fun x c e => let ⟨o, q⟩ := b.cells x c e; ⟨o, k _ _ q⟩, fun x d e =>
  let ⟨v, p, q⟩ := b.get x d e; ⟨v, p.keep k, q.mv (.keep k)⟩⟩
theorem SR.live {w} {R : Addr → Prop} {h : Heap} {env σ} (b : SR w R h env σ) : SR w (fun a => R a ∧ (h.get? a).isSome = true) h env σ := ⟨b.cells, fun x d e =>
  let ⟨v, p, q⟩ := b.get x d e; ⟨v, p, q.live⟩⟩

structure Room (k : Nat) (A : Around) : Prop where
  hh : A.handled = none
  depth : A.depth + k < recursionLimit
  units : A.units + 10 * k + 200 < cLine
theorem Room.mono {j k A} (r : Room k A) (h : j ≤ k) : Room j A := ⟨r.hh, by have := r.depth; omega, by have := r.units; omega⟩
theorem Room.u {k A} (r : Room k A) : A.units + 200 < cLine := by have := r.units; omega
theorem Room.d {k A} (r : Room k A) : A.depth < recursionLimit := by have := r.depth; omega

noncomputable def Out (w : World) (R : Addr → Prop) (s : Shared) (d : PyData) : Value → Shared → Prop := fun v s' => Ex s s' ∧ Rp w (Nw R s) s'.heap v d
noncomputable def Outs (w : World) (R : Addr → Prop) (s : Shared) (ds : List PyData) : List Value → Shared → Prop := fun vs s' => Ex s s' ∧ RpAll w (Nw R s) s'.heap vs ds
theorem Out.same {w R s d v} (r : Rp w R s.heap v d) : Out w R s d v s := ⟨.refl s, r.nw⟩
theorem Out.int {w R s i t} {s' : Shared} (e : Ex s s') : Out w R s (.int i) (.int i t) s' := ⟨e, .int i t⟩
section
variable (prog : Program) (w : World) (Γ : GEnv)

noncomputable def Ev (sc : Scope) (k : Nat) (σ : Sg) (e : Expr) (d : PyData) : Prop :=
  ∀ (A : Around) (E : Value → Shared → Prop) (env : Env) (R : Addr → Prop) (s : Shared), Room k A → EnvOk sc env → Γ.In s.heap → SR w R s.heap env σ →
    wpAny (model prog w) A (eval e env) (Out w R s d) E s
noncomputable def Evs (sc : Scope) (k : Nat) (σ : Sg) (es : List Expr) (ds : List PyData) : Prop :=
  ∀ (A : Around) (E : Value → Shared → Prop) (env : Env) (R : Addr → Prop) (s : Shared) (pos : Pos), Room k A → EnvOk sc env → Γ.In s.heap → SR w R s.heap env σ →
    wpAny (model prog w) A (spliced (backTo pos (starEach es env))) (Outs w R s ds) E s
noncomputable def Tr (sc : Scope) (k : Nat) (σ : Sg) (e : Expr) (b : Bool) : Prop :=
  ∀ (A : Around) (E : Value → Shared → Prop) (env : Env) (R : Addr → Prop) (s : Shared), Room k A → EnvOk sc env → Γ.In s.heap → SR w R s.heap env σ →
    wpAny (model prog w) A (isTrue e env (eval e env)) (fun c s' => c = b ∧ Ex s s') E s

noncomputable def BinOk (k : Nat) (op : Operator) (d1 d2 d : PyData) : Prop := ∀ (A : Around) (E : Value → Shared → Prop) (R : Addr → Prop) (s : Shared) v1 v2, Room k A → Rp w R s.heap v1 d1 → Rp w R s.heap v2 d2 →
  wpAny (model prog w) A (binaryOp op v1 v2) (Out w R s d) E s
noncomputable def CmpOk (k : Nat) (op : CmpOp) (d1 d2 : PyData) (b : Bool) : Prop := ∀ (A : Around) (E : Value → Shared → Prop) (R : Addr → Prop) (s : Shared) v1 v2, Room k A → Rp w R s.heap v1 d1 → Rp w R s.heap v2 d2 →
  wpAny (model prog w) A (compareOp op v1 v2) (fun v s' => v = .bool b ∧ Ex s s') E s
/-- a call of a value -/
noncomputable def CallOk (k : Nat) (f : Value) (ds : List PyData) (d : PyData) : Prop := ∀ (A : Around) (E : Value → Shared → Prop) (R : Addr → Prop) (s : Shared) vs, Room k A → Γ.In s.heap → RpAll w R s.heap vs ds →
  wpAny (model prog w) A (call f vs) (Out w R s d) E s
noncomputable def TruthyOk (k : Nat) (d : PyData) (b : Bool) : Prop := ∀ (A : Around) (E : Value → Shared → Prop) (R : Addr → Prop) (s : Shared) v, Room k A → Rp w R s.heap v d →
  wpAny (model prog w) A (truthy v) (fun c s' => c = b ∧ Ex s s') E s
end

section
variable {prog : Program} {w : World} {Γ : GEnv} {sc : Scope} {k : Nat} {σ : Sg}

theorem Ev.int {i n pos} : Ev prog w Γ sc k σ (.Constant (.int i) n pos) (.int i) := fun A E env R s _ _ _ _ => wpAny_Constant_int (Out.int (.tok _))
theorem Ev.str {x n pos} : Ev prog w Γ sc k σ (.Constant (.str x) n pos) (.str x) := fun A E env R s _ _ _ _ => Calls.Constant_str ⟨.tok _, .str _ _⟩
theorem Ev.bool {b n pos} : Ev prog w Γ sc k σ (.Constant (.bool b) n pos) (.bool b) := fun A E env R s _ _ _ _ => by
  rw [eval_Constant]; exact wpAny_pure ⟨.refl _, .bool _⟩

theorem Ev.name {x pos d} (h : σ.lookup x = some d) (hd : (x == ("__debug__" : Str)) = false := by decide) (hn : (x == ("__classdict__" : Str)) = false := by decide) :
    Ev prog w Γ sc k σ (.Name x pos) d := fun A E env R s hr he hg hs => by
  refine xEA (hs.get x d h) fun v hb hp => ?_
  refine wpAny_Name ?_ hd
  cases hb with
  | loc hk hm => obtain ⟨m, hm, hv⟩ := hm; exact wpAny_loadName_local he.kind hk hm hv (Out.same hp)
  | cell hk hc =>
    obtain ⟨c, hc, hv⟩ := hc
    rcases hk with hk | hk
    · exact wpAny_loadName_cell he.kind hk hc hv (Out.same hp)
    · exact wpAny_loadName_free he.kind hk hc hv (Out.same hp) hn

/-- a global name in the place of a callee -/
theorem loadG {x pos v} {A : Around} {E : Value → Shared → Prop} {env : Env} {s : Shared} {Q : Value → Shared → Prop} (he : EnvOk sc env) (hg : Γ.In s.heap) (hx : sc.names.lookup x = some .globalImplicit)
    (hv : Γ.names.lookup x = some v) (h : Q v s) (hd : (x == ("__debug__" : Str)) = false := by decide) :
    wpAny (model prog w) A (eval (.Name x pos) env) Q E s := by
  refine Calls.Name_function_global he.kind (he.glob _ hx) ?_ hd
  refine xEA (hg.names _ _ hv) fun mg hm hc => ?_
  rw [← he.gl] at hm
  rcases hc with hc | ⟨hc, mb, hb, hv'⟩
  · exact Calls.loadGlobal_global hm hc h
  · rw [← he.bl] at hb; exact Calls.loadGlobal_builtin hm hc hb hv' h

theorem Ev.bin {l op r pos d1 d2 d} (h1 : Ev prog w Γ sc k σ l d1) (h2 : Ev prog w Γ sc k σ r d2) (h : BinOk prog w k op d1 d2 d) :
    Ev prog w Γ sc k σ (.BinOp l op r pos) d := fun A E env R s hr he hg hs => by
  refine wpAny_BinOp (wpAny_mono (h1 A E env R s hr he hg hs) (fun v1 s1 ⟨x1, p1⟩ => ?_) fun _ _ e => e)
  refine wpAny_mono (h2 A E env R s1 hr he (hg.keep x1.keep) (hs.keep x1.keep)) (fun v2 s2 ⟨x2, p2⟩ => ?_) fun _ _ e => e
  exact wpAny_mono (h A E (Nw R s) s2 v1 v2 hr (p1.keeps x2) (p2.back x1)) (fun v s' ⟨x3, p3⟩ => ⟨x1.trans (x2.trans x3), p3.mv (.sub fun a q => q.elim id fun q => .inr (fresh_back (x1.trans x2).keep q))⟩) fun _ _ e => e

theorem Ev.cmp {l op r pos d1 d2 b} (h1 : Ev prog w Γ sc k σ l d1) (h2 : Ev prog w Γ sc k σ r d2) (h : CmpOk prog w k op d1 d2 b) (hm : behindInMarks op r = false := by rfl) :
    Ev prog w Γ sc k σ (.Compare l [op] [r] pos) (.bool b) := fun A E env R s hr he hg hs => by
  refine wpAny_Compare1 (wpAny_mono (h1 A E env R s hr he hg hs) (fun v1 s1 ⟨x1, p1⟩ => ?_) fun _ _ e => e) hm
  refine wpAny_mono (h2 A E env R s1 hr he (hg.keep x1.keep) (hs.keep x1.keep)) (fun v2 s2 ⟨x2, p2⟩ => ?_) fun _ _ e => e
  exact wpAny_mono (h A E (Nw R s) s2 v1 v2 hr (p1.keeps x2) (p2.back x1)) (fun v s' ⟨e3, x3⟩ => ⟨x1.trans (x2.trans x3), e3 ▸ .bool b⟩) fun _ _ e => e

theorem Tr.cmp {l op r pos d1 d2 b} (h1 : Ev prog w Γ sc k σ l d1) (h2 : Ev prog w Γ sc k σ r d2) (h : CmpOk prog w k op d1 d2 b) (hm : behindInMarks op r = false := by rfl) :
    Tr prog w Γ sc k σ (.Compare l [op] [r] pos) b := fun A E env R s hr he hg hs => by
  refine wpAny_isTrue_Compare1 (wpAny_mono (h1 A E env R s hr he hg hs) (fun v1 s1 ⟨x1, p1⟩ => ?_) fun _ _ e => e) hm
  refine wpAny_mono (h2 A E env R s1 hr he (hg.keep x1.keep) (hs.keep x1.keep)) (fun v2 s2 ⟨x2, p2⟩ => ?_) fun _ _ e => e
  exact wpAny_mono (h A E (Nw R s) s2 v1 v2 hr (p1.keeps x2) (p2.back x1)) (fun v s' ⟨e3, x3⟩ => by
    subst e3; exact wpAny_truthy_bool ⟨rfl, x1.trans (x2.trans x3)⟩) fun _ _ e => e

/-- a test that is no comparison, no and, or, not: by its value's truth -/
theorem Tr.plain {e d b} (h : Ev prog w Γ sc k σ e d) (ht : TruthyOk prog w k d b) (he' : ∀ env whole, isTrue e env whole = (do let v ← whole; standAt e.pos; holding [v] (truthy v)) := by intro _ _; rfl) :
    Tr prog w Γ sc k σ e b := fun A E env R s hr he hg hs => by
  refine isTrue_plain (wpAny_mono (h A E env R s hr he hg hs) (fun v s1 ⟨x1, p1⟩ => ?_) fun _ _ e => e) (he' _ _)
  exact wpAny_mono (ht A E _ s1 v hr p1) (fun c s' ⟨e, x⟩ => ⟨e, x1.trans x⟩) fun _ _ e => e

theorem truthy_bool {b} : TruthyOk prog w k (.bool b) b := fun A E R s v hr hp => by cases hp; exact wpAny_truthy_bool ⟨rfl, .refl _⟩

theorem Tr.not {e pos b} (h : Tr prog w Γ sc k σ e b) : Tr prog w Γ sc k σ (.UnaryOp .Not e pos) (!b) := fun A E env R s hr he hg hs =>
  isTrue_not (wpAny_mono (h A E env R s hr he hg hs) (fun c s' ⟨e, x⟩ => ⟨by rw [e], x⟩) fun _ _ e => e)

theorem Tr.and_nil {pos} : Tr prog w Γ sc k σ (.BoolOp .And [] pos) true := fun A E env R s hr he hg hs => isTrue_and_nil ⟨rfl, .refl _⟩
theorem Tr.or_nil {pos} : Tr prog w Γ sc k σ (.BoolOp .Or [] pos) false := fun A E env R s hr he hg hs => isTrue_or_nil ⟨rfl, .refl _⟩
theorem Tr.and_tt {x rest pos b} (h : Tr prog w Γ sc k σ x true) (h2 : Tr prog w Γ sc k σ (.BoolOp .And rest pos) b) : Tr prog w Γ sc k σ (.BoolOp .And (x :: rest) pos) b := fun A E env R s hr he hg hs =>
  isTrue_and (wpAny_mono (h A E env R s hr he hg hs) (fun c s1 ⟨e, x1⟩ => by
    subst e
    exact wpAny_mono (h2 A E env R s1 hr he (hg.keep x1.keep) (hs.keep x1.keep)) (fun c s' ⟨e, x⟩ => ⟨e, x1.trans x⟩) fun _ _ e => e) fun _ _ e => e)
theorem Tr.and_ff {x rest pos} (h : Tr prog w Γ sc k σ x false) : Tr prog w Γ sc k σ (.BoolOp .And (x :: rest) pos) false := fun A E env R s hr he hg hs =>
  isTrue_and (wpAny_mono (h A E env R s hr he hg hs) (fun c s1 ⟨e, x1⟩ => by subst e; exact ⟨rfl, x1⟩) fun _ _ e => e)
theorem Tr.or_ff {x rest pos b} (h : Tr prog w Γ sc k σ x false) (h2 : Tr prog w Γ sc k σ (.BoolOp .Or rest pos) b) : Tr prog w Γ sc k σ (.BoolOp .Or (x :: rest) pos) b := fun A E env R s hr he hg hs =>
  isTrue_or (wpAny_mono (h A E env R s hr he hg hs) (fun c s1 ⟨e, x1⟩ => by
    subst e
    exact wpAny_mono (h2 A E env R s1 hr he (hg.keep x1.keep) (hs.keep x1.keep)) (fun c s' ⟨e, x⟩ => ⟨e, x1.trans x⟩) fun _ _ e => e) fun _ _ e => e)
/-- both, the second asked where the first is true alone -/
theorem Tr.and {x rest pos a b} (h : Tr prog w Γ sc k σ x a) (h2 : a = true → Tr prog w Γ sc k σ (.BoolOp .And rest pos) b) : Tr prog w Γ sc k σ (.BoolOp .And (x :: rest) pos) (a && b) := by
  cases a with
  | false => exact .and_ff h
  | true => exact .and_tt h (h2 rfl)
/-- and, or of bools, as values -/
theorem Ev.and {e₁ e₂ rest pos a b} (h1 : Ev prog w Γ sc k σ e₁ (.bool a)) (h2 : a = true → Ev prog w Γ sc k σ (.BoolOp .And (e₂ :: rest) pos) (.bool b)) :
    Ev prog w Γ sc k σ (.BoolOp .And (e₁ :: e₂ :: rest) pos) (.bool (a && b)) := fun A E env R s hr he hg hs => by
  refine BoolOp_and (wpAny_mono (h1 A E env R s hr he hg hs) (fun v s1 ⟨x1, p1⟩ => ?_) fun _ _ e => e)
  induction p1 using Rp.elimBool
  refine wpAny_truthy_bool ?_
  cases a with
  | false => exact ⟨x1, .bool _⟩
  | true => exact wpAny_mono (h2 rfl A E env R s1 hr he (hg.keep x1.keep) (hs.keep x1.keep)) (fun v s' ⟨x, p⟩ => ⟨x1.trans x, p.back x1⟩) fun _ _ e => e
theorem Ev.bool1 {op e pos d} (h : Ev prog w Γ sc k σ e d) : Ev prog w Γ sc k σ (.BoolOp op [e] pos) d := fun A E env R s hr he hg hs => BoolOp_one (h A E env R s hr he hg hs)

theorem Evs.nil : Evs prog w Γ sc k σ [] [] := fun A E env R s pos hr he hg hs => args_nil ⟨.refl _, .nil⟩
theorem Evs.cons {e rest d ds} (h1 : Ev prog w Γ sc k σ e d) (h2 : Evs prog w Γ sc k σ rest ds) (hst : ∀ env, starEach (e :: rest) env = (false, eval e env) :: starEach rest env := by intro _; rfl) :
    Evs prog w Γ sc k σ (e :: rest) (d :: ds) := fun A E env R s pos hr he hg hs => by
  refine args_cons (wpAny_mono (h1 A E env R s hr he hg hs) (fun v1 s1 ⟨x1, p1⟩ => ?_) fun _ _ e => e) (hst env)
  refine wpAny_mono (h2 A E env R s1 pos hr he (hg.keep x1.keep) (hs.keep x1.keep)) (fun vs s2 ⟨x2, p2⟩ => ?_) fun _ _ e => e
  exact ⟨x1.trans x2, .cons (p1.keeps x2) (p2.mv (Nw.mv x1 _))⟩

theorem new_rp_list {R : Addr → Prop} {s s' : Shared} {vs : List Value} {ds : List PyData} (x : Ex s s') (p : RpAll w (Nw R s) s'.heap vs ds) :
    Out w R s (.list ds) (.ref s'.heap.objs.size) { s' with heap := s'.heap.push (LObj vs.toArray 0) } :=
  ⟨x.trans (Ex.push _ _), .list (.inr (fresh_back x.keep (fresh_size _))) (Heap.get?_push_size _ rfl) (by simpa using p.mv (.keep fun b o e => Heap.get?_push_of_some _ e))⟩
theorem new_rp_tuple {R : Addr → Prop} {s s' : Shared} {vs : List Value} {ds : List PyData} (x : Ex s s') (p : RpAll w (Nw R s) s'.heap vs ds) :
    Out w R s (.tuple ds) (.ref s'.heap.objs.size) { s' with heap := s'.heap.push (TObj vs.toArray 0) } :=
  ⟨x.trans (Ex.push _ _), .tuple (.inr (fresh_back x.keep (fresh_size _))) (Heap.get?_push_size _ rfl) (by simpa using p.mv (.keep fun b o e => Heap.get?_push_of_some _ e))⟩

theorem Ev.list {elts pos ds} (h : Evs prog w Γ sc k σ elts ds) (hl : ds.length ≤ sizeLine := by decide) : Ev prog w Γ sc k σ (.List elts pos) (.list ds) := fun A E env R s hr he hg hs =>
  wpAny_List_spliced (wpAny_mono (h A E env R s pos hr he hg hs) (fun vs s' ⟨x, p⟩ => ⟨by rw [p.length]; exact hl, new_rp_list x p⟩) fun _ _ e => e)
theorem Ev.tuple {elts n pos ds} (h : Evs prog w Γ sc k σ elts ds) (hl : ds.length ≤ sizeLine := by decide) : Ev prog w Γ sc k σ (.Tuple elts n pos) (.tuple ds) := fun A E env R s hr he hg hs =>
  wpAny_Tuple_spliced (wpAny_mono (h A E env R s pos hr he hg hs) (fun vs s' ⟨x, p⟩ => ⟨by rw [p.length]; exact hl, new_rp_tuple x p⟩) fun _ _ e => e)
end
end Mine

open PySem PySem.W PyProof.Rows
namespace Mine

noncomputable def Same (s s' : Shared) : Prop := ∃ h' tk, s' = { s with heap := h', toks := tk }
theorem Same.refl (s : Shared) : Same s s := ⟨s.heap, s.toks, rfl⟩
theorem Same.trans {s s' s'' : Shared} (x : Same s s') (y : Same s' s'') : Same s s'' := by
  refine xEE (x) fun h1 t1 zE1 => ?_
  try clear x
  subst zE1
  refine xEE (y) fun h2 t2 zE2 => ?_
  try clear y
  subst zE2
  exact ⟨h2, t2, rfl⟩
theorem Same.mk {s : Shared} (h : Heap) (t : Nat) : Same s { s with heap := h, toks := t } := ⟨_, _, rfl⟩
theorem Ex.sm {s s' : Shared} (x : Ex s s') : Same s s' := x.same
theorem Ex.kp {s s' : Shared} {W} (x : Ex s s') : Kp W s.heap s'.heap := .of_keep x.keep

/-- the frame's own storage: its names' table, its own cells -/
noncomputable def Own (env : Env) (sc : Scope) (a : Addr) : Prop := a = env.locals ∨ ∃ x, sc.names.lookup x = some .cell ∧ env.cells.lookup x = some a

structure FrOk (h : Heap) (env : Env) (sc : Scope) : Prop where
  ns : ∃ m, h.Ns env.locals m
  cells : ∀ x, sc.names.lookup x = some .cell → ∃ c v, env.cells.lookup x = some c ∧ h.IsCell c v

theorem FrOk.alive {h env sc a} (f : FrOk h env sc) (o : Own env sc a) : ∃ ob, h.get? a = some ob := by
  rcases o with rfl | ⟨x, h1, h2⟩
  · obtain ⟨m, o, _, _, e, _⟩ := f.ns; exact ⟨_, e⟩
  · refine xEEAEA (f.cells x h1) fun c v e1 o e2 _ => ?_
    rw [h2] at e1; cases e1; exact ⟨_, e2⟩
theorem FrOk.kp {h h' env sc W} (f : FrOk h env sc) (k : Kp W h h') (hW : ∀ a, Own env sc a → ¬ W a) : FrOk h' env sc where
  ns := let ⟨m, o, es, ep, e, r⟩ := f.ns; ⟨m, o, es, ep, k _ _ (hW _ (.inl rfl)) e, r⟩
  cells := fun x hx => let ⟨c, v, e1, o, e2, e3⟩ := f.cells x hx; ⟨c, v, e1, o, k _ _ (hW _ (.inr ⟨x, hx, e1⟩)) e2, e3⟩
theorem FrOk.keep {h h' env sc} (f : FrOk h env sc) (k : ∀ b o, h.get? b = some o → h'.get? b = some o) : FrOk h' env sc := f.kp (W := fun _ => False) (.of_keep k) fun _ _ => id

theorem Heap.Ns.notCell {h : Heap} {a m v} (n : h.Ns a m) (c : h.IsCell a v) : False := by
  refine xEEEAA (n) fun o es ep e hd _ => ?_
  try clear n
  refine xEA (c) fun o' e' hd' => ?_
  try clear c
  rw [e] at e'; cases e'; rw [hd] at hd'; cases hd'

section
variable {prog : Program} {w : World} {Γ : GEnv} {sc : Scope} {k : Nat} {σ : Sg} {A : Around} {E : Value → Shared → Prop} {env : Env} {s : Shared}

/-- a name of the frame is stored -/
theorem store {x : Str} {v : Value} {Q : Unit → Shared → Prop} (he : EnvOk sc env) (hf : FrOk s.heap env sc) (hx : sc.names.lookup x = some .local ∨ sc.names.lookup x = some .cell)
    (h : ∀ h' tk, Kp (Own env sc) s.heap h' → FrOk h' env sc → Bd h' env x v → (∀ y u, y ≠ x → Bd s.heap env y u → Bd h' env y u) → Q () { s with heap := h', toks := tk }) :
    wpAny (model prog w) A (storeName env x v) Q E s := by
  refine xE (hf.ns) fun m hn => ?_
  rcases hx with hx | hx
  · refine wpAny_storeName_local (he.loc x hx) hn (fun h' hn' hs' => ?_) (by rw [he.kind]; rfl)
    refine h h' _ (fun b o hb e => (hs'.2 b (fun q => hb (.inl q))).trans e) ⟨⟨_, hn'⟩, fun y hy => ?_⟩ (.loc (he.loc x hx) ⟨_, hn', by simp⟩) fun y u hy b => ?_
    · refine xEEA (hf.cells y hy) fun c v0 e1 e2 => ?_
      exact ⟨c, v0, e1, e2.sameBut hs' (fun q => Heap.Ns.notCell hn (q ▸ e2))⟩
    · cases b with
      | loc a b =>
        refine xEA (b) fun m2 hm2 hu => ?_
        try clear b
        refine .loc a ⟨_, hn', ?_⟩
        refine xEEEAAA (hn) fun o es ep e hd _ hf1 => ?_
        try clear hn
        refine xEEEAAA (hm2) fun o' es' ep' e' hd' _ hf2 => ?_
        try clear hm2
        rw [e] at e'; cases e'; rw [hd] at hd'; cases hd'
        simp only [if_neg hy]
        rw [← hu, ← hf1, ← hf2]
      | cell a b =>
        refine xEA (b) fun c e1 e2 => ?_
        try clear b
        exact .cell a ⟨c, e1, e2.sameBut hs' (fun q => Heap.Ns.notCell hn (q ▸ e2))⟩
  · refine xEEA (hf.cells x hx) fun c v0 hc hv0 => ?_
    refine wpAny_storeName_cell he.kind (he.cell x hx) hc hv0 fun h' hc' hs' => ?_
    have hL : env.locals ≠ c := fun q => Heap.Ns.notCell hn (q ▸ hv0)
    refine h h' _ (fun b o hb e => (hs'.2 b (fun q => hb (.inr ⟨x, hx, q ▸ hc⟩))).trans e) ⟨⟨m, hn.sameBut hs' hL⟩, fun y hy => ?_⟩ (.cell (.inl (he.cell x hx)) ⟨c, hc, hc'⟩) fun y u hy b => ?_
    · refine xEEA (hf.cells y hy) fun c2 v2 e1 e2 => ?_
      by_cases q : c2 = c
      · subst q; exact ⟨c2, _, e1, hc'⟩
      · exact ⟨c2, v2, e1, e2.sameBut hs' q⟩
    · cases b with
      | loc a b => obtain ⟨m2, hm2, hu⟩ := b; exact .loc a ⟨m2, hm2.sameBut hs' hL, hu⟩
      | cell a b =>
        refine xEA (b) fun c2 e1 e2 => ?_
        try clear b
        exact .cell a ⟨c2, e1, e2.sameBut hs' (fun q => hy (he.inj y x c (q ▸ e1) hc))⟩

variable (prog w)
noncomputable def Tgt (sc : Scope) (target : Expr) (d : PyData) (τ : Sg) : Prop :=
  ∀ (A : Around) (E : Value → Shared → Prop) (env : Env) (R : Addr → Prop) (s : Shared) (v : Value), A.handled = none → EnvOk sc env → FrOk s.heap env sc → Rp w R s.heap v d → (∀ a, R a → ¬ Own env sc a) →
    wpAny (model prog w) A (assign target env v) (fun _ s' => Same s s' ∧ Kp (Own env sc) s.heap s'.heap ∧ FrOk s'.heap env sc ∧ SG w R s'.heap env τ ∧ ∀ y u, τ.lookup y = none → Bd s.heap env y u → Bd s'.heap env y u) E s
variable {prog w}

theorem lookup_cons_self {x : Str} {d : PyData} {r : Sg} : List.lookup x ((x, d) :: r) = some d := by simp [List.lookup_cons]
theorem lookup_cons_ne {x y : Str} {d : PyData} {r : Sg} (h : y ≠ x) : List.lookup y ((x, d) :: r) = List.lookup y r := by
  rw [List.lookup_cons]; have : (y == x) = false := beq_eq_false_iff_ne.mpr h; rw [this]

theorem Tgt.name {x pos d} (hx : sc.names.lookup x = some .local ∨ sc.names.lookup x = some .cell) : Tgt prog w sc (.Name x pos) d [(x, d)] := fun A E env R s v hh he hf hp hR => by
  refine wpAny_assign_Name (store he hf hx fun h' tk k f b r => ?_)
  refine ⟨.mk _ _, k, f, fun y e hy => ?_, fun y u hy b => ?_⟩
  · by_cases q : y = x
    · subst q; rw [lookup_cons_self] at hy; cases hy; exact ⟨v, b, hp.mv (.kp k hR)⟩
    · rw [lookup_cons_ne q] at hy; cases hy
  · by_cases q : y = x
    · subst q; rw [lookup_cons_self] at hy; cases hy
    · exact r y u q b

theorem assignEach_names2 {x y : Str} {px py : Pos} : assignEach [.Name x px, .Name y py] env = [(false, assign (.Name x px) env), (false, assign (.Name y py) env)] := rfl

theorem Tgt.pair {x y px py n pos d1 d2} (hx : sc.names.lookup x = some .local ∨ sc.names.lookup x = some .cell) (hy : sc.names.lookup y = some .local ∨ sc.names.lookup y = some .cell) (hxy : y ≠ x := by decide) :
    Tgt prog w sc (.Tuple [.Name x px, .Name y py] n pos) (.tuple [d1, d2]) [(y, d2), (x, d1)] := fun A E env R s v hh he hf hp hR => by
  cases hp with
  | @tuple p vs n' xs hRp e l =>
    obtain ⟨vl⟩ := vs
    cases l with
    | @cons v1 _ _ _ l1 l2 => cases l2 with
      | @cons v2 _ _ _ l2 l3 =>
        induction l3 using RpAll.elimNil
        refine wpAny_assign_Tuple hh (items := ⟨[v1, v2]⟩) ⟨_, e, rfl, _, rfl⟩ rfl rfl fun h₁ hx₁ => ?_
        have k₁ : ∀ b o, s.heap.get? b = some o → h₁.get? b = some o := fun b o e => hx₁ b o (Nat.ne_of_lt (Heap.lt_size e)) e
        rw [assignEach_names2]
        refine assignInOrder_cons (wpAny_assign_Name (store he (hf.keep k₁) hx fun h₂ tk k₂ f₂ b₂ r₂ => ?_))
        refine assignInOrder_cons (wpAny_assign_Name (store he f₂ hy fun h₃ tk₃ k₃ f₃ b₃ r₃ => ?_))
        refine assignInOrder_nil ⟨.mk _ _, fun b o hb e => k₃ b o hb (k₂ b o hb (k₁ b o e)), f₃, fun z e hz => ?_, fun z u hz b => ?_⟩
        · by_cases q : z = y
          · subst q; rw [lookup_cons_self] at hz; cases hz; exact ⟨v2, b₃, ((l2.mv (.keep k₁)).mv (.kp k₂ hR)).mv (.kp k₃ hR)⟩
          · rw [lookup_cons_ne q] at hz
            by_cases q2 : z = x
            · subst q2; rw [lookup_cons_self] at hz; cases hz; exact ⟨v1, r₃ _ _ q b₂, ((l1.mv (.keep k₁)).mv (.kp k₂ hR)).mv (.kp k₃ hR)⟩
            · rw [lookup_cons_ne q2] at hz; cases hz
        · by_cases q : z = y
          · subst q; rw [lookup_cons_self] at hz; cases hz
          · rw [lookup_cons_ne q] at hz
            by_cases q2 : z = x
            · subst q2; rw [lookup_cons_self] at hz; cases hz
            · exact r₃ z u q (r₂ z u q2 (b.keep k₁))
end
end Mine

open PySem PySem.W PyProof.Rows
namespace Mine

/-- an iterator that has the data ds to hand out -/
structure Wk (prog : Program) (w : World) (A : Around) (I : Addr) (T : Expr → Prop) (fp wr Rd : Addr → Prop) (ds : List PyData) (St : Nat → Heap → Prop) : Prop where
  frame : ∀ i h h', St i h → (∀ b o, fp b → h.get? b = some o → h'.get? b = some o) → St i h'
  alive : ∀ i h, St i h → ∀ a, wr a → ∃ o fs, h.get? a = some o ∧ o.data = .fields fs
  item : ∀ i d (s : Shared) (Q : Option Value → Shared → Prop) (E : Value → Shared → Prop), ds[i]? = some d → St i s.heap →
    (∀ v h' tk, (∀ target (Q' : Unit → Shared → Prop) (E' : Value → Shared → Prop), T target →
        (∀ h'', Kp wr s.heap h'' → Rp w (fun a => Rd a ∨ s.heap.get? a = none) h'' v d → St (i + 1) h'' → Q' () { s with heap := h'', toks := tk }) →
        wpAny (model prog w) A (letOwnedTupleGo target (.ref I) v) Q' E' { s with heap := h', toks := tk }) → Q (some v) { s with heap := h', toks := tk }) →
    wpAny (model prog w) A (pyNext (.ref I)) Q E s
  done : ∀ (s : Shared) (Q : Option Value → Shared → Prop) (E : Value → Shared → Prop), St ds.length s.heap →
    (∀ h' tk, Kp wr s.heap h' → Q none { s with heap := h', toks := tk }) → wpAny (model prog w) A (pyNext (.ref I)) Q E s
  self : ∀ i (s : Shared) (Q : Value → Shared → Prop) (E : Value → Shared → Prop), St i s.heap → Q (.ref I) s → wpAny (model prog w) A (pyIter (.ref I)) Q E s

section
variable (prog : Program) (w : World) (Γ : GEnv)

/-- after the source is told and asked for its iterator -/
noncomputable def ItOut (A : Around) (R : Addr → Prop) (s : Shared) (T : Expr → Prop) (ds : List PyData) : Value → Shared → Prop := fun itv s2 =>
  Ex s s2 ∧ ∃ I fp wr Rd St, itv = .ref I ∧ Wk prog w A I T fp wr Rd ds St ∧ St 0 s2.heap ∧ (∀ a, wr a → s.heap.get? a = none ∧ (s2.heap.get? a).isSome = true) ∧
    (∀ a, fp a → Nw R s a ∧ (s2.heap.get? a).isSome = true) ∧ ∀ a, Rd a → Nw R s a ∧ (s2.heap.get? a).isSome = true ∧ ¬ wr a

noncomputable def It (sc : Scope) (k : Nat) (σ : Sg) (e : Expr) (T : Expr → Prop) (ds : List PyData) : Prop :=
  ∀ (A : Around) (E : Value → Shared → Prop) (env : Env) (R : Addr → Prop) (s : Shared), Room k A → EnvOk sc env → Γ.In s.heap → SR w R s.heap env σ →
    wpAny (model prog w) A (eval e env) (fun xv s1 => wpAny (model prog w) A (pyIter xv) (ItOut prog w A R s T ds) E s1) E s

noncomputable def Tests (sc : Scope) (k : Nat) (σ : Sg) (ifs : List Expr) (b : Bool) : Prop :=
  ∀ (A : Around) (E : Value → Shared → Prop) (env : Env) (R : Addr → Prop) (s : Shared), Room k A → EnvOk sc env → Γ.In s.heap → SR w R s.heap env σ →
    wpAny (model prog w) A (forIn ifs true fun c r => if r = true then do let ok ← isTrue c env (eval c env); pure (ForInStep.yield ok) else pure (ForInStep.yield r)) (fun c s' => c = b ∧ Ex s s') E s
end

section
variable {prog : Program} {w : World} {Γ : GEnv} {sc : Scope} {k : Nat} {σ : Sg}
theorem Tests.nil : Tests prog w Γ sc k σ [] true := fun A E env R s hr he hg hs => wpAny_tests_nil ⟨rfl, .refl _⟩
theorem Tests.one {c b} (h : Tr prog w Γ sc k σ c b) : Tests prog w Γ sc k σ [c] b := fun A E env R s hr he hg hs => wpAny_tests_one (h A E env R s hr he hg hs)
end

theorem compTurn_last (elt : Expr) (gens : List Comprehension) (sc : Scope) (pos : Pos) (depth : Nat) (it acc : Value) (env : Env) (target iter : Expr) (ifs : List Expr) (hg : gens[depth]? = some ⟨target, iter, ifs, 0⟩)
    (hn : gens[depth + 1]? = none) :
    compTurn (.ListComp elt gens sc pos) depth it acc env = (do
      standAt iter.pos
      match ← pyNext it with
      | none => pure (.done .next)
      | some v =>
        letOwnedTupleGo target it v
        assign target env v
        let mut ok := true
        for c in ifs do
          if ok then ok ← isTrue c env (eval c env)
        if ok then
          (do let _ ← call (.builtin "list.append") [acc, ← eval elt env])
        again (.compLoop (.ListComp elt gens sc pos) depth it acc env)) := by
  unfold compTurn
  simp only [hg, hn]
  rfl

theorem compTurn_next (elt : Expr) (gens : List Comprehension) (sc : Scope) (pos : Pos) (depth : Nat) (it acc : Value) (env : Env) (target iter target' iter' : Expr) (ifs ifs' : List Expr) (hg : gens[depth]? = some ⟨target, iter, ifs, 0⟩)
    (hn : gens[depth + 1]? = some ⟨target', iter', ifs', 0⟩) :
    compTurn (.ListComp elt gens sc pos) depth it acc env = (do
      standAt iter.pos
      match ← pyNext it with
      | none => pure (.done .next)
      | some v =>
        letOwnedTupleGo target it v
        assign target env v
        let mut ok := true
        for c in ifs do
          if ok then ok ← isTrue c env (eval c env)
        if ok then
          let x ← eval iter' env
          standAt iter'.pos
          let x ← foldedSetIterable iter' env x
          let it' ← holding [x] (pyIter x)
          let _ ← runOwn (.compStart (.ListComp elt gens sc pos) (depth + 1) it' acc env) env
        again (.compLoop (.ListComp elt gens sc pos) depth it acc env)) := by
  unfold compTurn
  simp only [hg, hn]
  rfl

section
variable {prog : Program} {w : World} {A : Around} {E : Value → Shared → Prop} {R : Result → Shared → Prop} {s : Shared}

/-- what a turn does behind its tests, as a wish -/
noncomputable def InnerW (prog : Program) (w : World) (A : Around) (elt : Expr) (gens : List Comprehension) (sc : Scope) (pos : Pos) (depth : Nat) (acc : Value) (env : Env) (Q : Shared → Prop) (E : Value → Shared → Prop) (s : Shared) : Prop :=
  match gens[depth]? with
  | none => wpAny (model prog w) A (eval elt env) (fun x s₁ => wpAny (model prog w) A (call (.builtin "list.append") [acc, x]) (fun _ s₂ => Q s₂) E s₁) E s
  | some ⟨_, iter, _, _⟩ => wpAny (model prog w) A (eval iter env) (fun x s₁ => wpAny (model prog w) A (pyIter x) (fun it s₂ =>
      codeAny (model prog w) A (.compStart (.ListComp elt gens sc pos) depth it acc env) (fun r s' => match r with | .ok _ => Q s' | .error e => cameBackBy (model prog w) A env E e s') s₂) E s₁) E s

theorem mark_none (A : Around) : A.mark none = A := by
  obtain ⟨h, d, f, g, u⟩ := A
  cases h <;> rfl

theorem codeAny_compLoop_gen {elt : Expr} {gens : List Comprehension} {sc : Scope} {pos : Pos} {depth : Nat} {it acc : Value} {env : Env} {target iter : Expr} {ifs : List Expr} (hg : gens[depth]? = some ⟨target, iter, ifs, 0⟩)
    (hall : ∀ g ∈ gens, g.is_async = 0) (hs : ∀ g ∈ gens, ∀ x, foldedSetIterable g.iter env x = pure x) (I : Nat → Shared → Prop)
    (turn : ∀ n s, I n s → ∀ E', wpAny (model prog w) A (pyNext it) (fun r s₁ => match r with
      | none => R (.ok .next) s₁
      | some v => wpAny (model prog w) A (letOwnedTupleGo target it v) (fun _ s₁' => wpAny (model prog w) A (assign target env v) (fun _ s₂ =>
          wpAny (model prog w) A (forIn ifs true fun c r => if r = true then do let ok ← isTrue c env (eval c env); pure (ForInStep.yield ok) else pure (ForInStep.yield r)) (fun ok s₃ =>
            if ok = true then InnerW prog w A elt gens sc pos (depth + 1) acc env (fun s₅ => ∃ m, m < n ∧ I m s₅) E' s₃
            else ∃ m, m < n ∧ I m s₃) E' s₂) E' s₁') E' s₁) E' s)
    (n : Nat) (h : I n s) :
    codeAny (model prog w) A (.compLoop (.ListComp elt gens sc pos) depth it acc env) R s := by
  refine codeAny_loop rfl I (fun n s hI => ?_) n h
  show wpAny _ A ((compTurn (.ListComp elt gens sc pos) depth it acc env).onRaise (fun x => do noteFrame x env; theTreesLotGoes x)) _ _ s
  refine wpAny_noted ?_
  have ht := turn n s hI (notedBy (model prog w) A env fun e s' => R (.error e) s')
  cases hn : gens[depth + 1]? with
  | none =>
    rw [compTurn_last _ _ _ _ _ _ _ _ _ _ _ hg hn]
    refine wpAny_bind (wpAny_standAt (wpAny_bind (wpAny_mono ht (fun r s₁ h₁ => ?_) fun _ _ h' => h')))
    cases r with
    | none => exact wpAny_pure h₁
    | some v =>
      refine wpAny_bind (wpAny_mono h₁ (fun _ s₁' h₁' => ?_) fun _ _ h' => h')
      refine wpAny_bind (wpAny_mono h₁' (fun _ s₂ h₂ => wpAny_bind (wpAny_mono h₂ (fun ok s₃ h₃ => ?_) fun _ _ h' => h')) fun _ _ h' => h')
      cases ok with
      | false => exact wpAny_pure ⟨rfl, h₃⟩
      | true =>
        simp only [if_true, InnerW, hn] at h₃
        exact wpAny_bind (wpAny_bind (wpAny_mono h₃ (fun x s₄ h₄ => wpAny_bind (wpAny_mono h₄ (fun _ s₅ h₅ => wpAny_pure (wpAny_pure ⟨rfl, h₅⟩)) fun _ _ h' => h')) fun _ _ h' => h'))
  | some g' =>
    obtain ⟨target', iter', ifs', a'⟩ := g'
    have hm : (⟨target', iter', ifs', a'⟩ : Comprehension) ∈ gens := List.mem_of_getElem? hn
    have ha : a' = 0 := hall _ hm
    subst ha
    rw [compTurn_next _ _ _ _ _ _ _ _ _ _ _ _ _ _ hg hn]
    refine wpAny_bind (wpAny_standAt (wpAny_bind (wpAny_mono ht (fun r s₁ h₁ => ?_) fun _ _ h' => h')))
    cases r with
    | none => exact wpAny_pure h₁
    | some v =>
      refine wpAny_bind (wpAny_mono h₁ (fun _ s₁' h₁' => ?_) fun _ _ h' => h')
      refine wpAny_bind (wpAny_mono h₁' (fun _ s₂ h₂ => wpAny_bind (wpAny_mono h₂ (fun ok s₃ h₃ => ?_) fun _ _ h' => h')) fun _ _ h' => h')
      cases ok with
      | false => exact wpAny_pure ⟨rfl, h₃⟩
      | true =>
        simp only [if_true, InnerW, hn] at h₃
        refine wpAny_bind (wpAny_mono h₃ (fun x s₄ h₄ => wpAny_bind (wpAny_standAt (wpAny_bind (wpAny_of_eq (hs _ hm x) (wpAny_bind (wpAny_holding (wpAny_mono h₄ (fun it' s₅ h₅ => ?_) fun _ _ h' => h'))))))) fun _ _ h' => h')
        refine wpAny_bind (wpAny_runOwn ?_)
        rw [mark_none]
        refine codeAny_mono h₅ fun r s' hr => ?_
        cases r with
        | ok f => exact wpAny_pure ⟨rfl, hr⟩
        | error e => exact hr

theorem codeAny_compStart_gen {elt : Expr} {gens : List Comprehension} {sc : Scope} {pos : Pos} {depth : Nat} {it acc : Value} {env : Env} {target iter : Expr} {ifs : List Expr} (hg : gens[depth]? = some ⟨target, iter, ifs, 0⟩)
    (h0 : codeAny (model prog w) A (.compLoop (.ListComp elt gens sc pos) depth it acc env) R s)
    (h : ∀ E', wpAny (model prog w) A (pyIter it) (fun it' s' => codeAny (model prog w) A (.compLoop (.ListComp elt gens sc pos) depth it' acc env) R s') E' s) :
    codeAny (model prog w) A (.compStart (.ListComp elt gens sc pos) depth it acc env) R s := by
  refine codeAny_of_tree ?_
  show wpAny _ _ ((compStart (.ListComp elt gens sc pos) depth it acc env).onRaise (fun x => do noteFrame x env; standAt theWindowsPlace)) _ _ s
  refine wpAny_notedAt ?_
  unfold compStart
  have e1 : ((clausesOf (.ListComp elt gens sc pos))[depth]?) = some ⟨target, iter, ifs, 0⟩ := hg
  rw [e1]
  show wpAny _ _ (ask >>= _) _ _ s
  refine wpAny_bind (wpAny_askSetting (wpAny_ite ?_))
  split
  · first
      | exact wpAny_bind (wpAny_pure (wpAny_pure (And.intro rfl h0)))
      | exact wpAny_pure (And.intro rfl h0)
  · exact wpAny_bind (wpAny_rule (wpAny_bind (wpAny_standAt (wpAny_bind (wpAny_mono (h _) (fun it' s' h' => wpAny_pure (And.intro rfl h')) fun _ _ x => x)))))
end
end Mine

open PySem PySem.W PyProof.Rows
namespace Mine

/-- no table of names and no cell -/
noncomputable def NoBd (h : Heap) (W : Addr → Prop) : Prop := ∀ a o, W a → h.get? a = some o → (∀ es n, o.data ≠ .dict es n) ∧ ∀ c, o.data ≠ .cell c
theorem Bd.kp {h h' : Heap} {env x v W} (b : Bd h env x v) (k : Kp W h h') (hW : NoBd h W) : Bd h' env x v := by
  cases b with
  | loc a c => obtain ⟨m, ⟨o, es, ep, e, hd, r⟩, d⟩ := c; exact .loc a ⟨m, ⟨o, es, ep, k _ _ (fun q => (hW _ _ q e).1 _ _ hd) e, hd, r⟩, d⟩
  | cell a c => obtain ⟨c, e, o, e2, r⟩ := c; exact .cell a ⟨c, e, o, k _ _ (fun q => (hW _ _ q e2).2 _ r) e2, r⟩
theorem NoBd.list {h : Heap} {D vs n} (e : h.get? D = some (LObj vs n)) : NoBd h fun a => a = D := by
  rintro a o rfl e'
  rw [e] at e'; cases e'
  exact ⟨nofun, nofun⟩

theorem lookup_append {τ σ : Sg} {x : Str} : (τ ++ σ).lookup x = (τ.lookup x).or (σ.lookup x) := List.lookup_append

section
variable (prog : Program) (w : World) (Γ : GEnv)

/-- what a depth of a comprehension hands to the list, behind the tests of the depth above -/
noncomputable def CIn (elt : Expr) (gens : List Comprehension) (sc : Scope) (pos : Pos) (depth : Nat) (k : Nat) (σ : Sg) (ys : List PyData) : Prop :=
  ∀ (A : Around) (Q : Shared → Prop) (E : Value → Shared → Prop) (env : Env) (R : Addr → Prop) (base : Heap) (s : Shared) (D : Addr) (vs : Array Value) (n : Nat), Room k A → EnvOk sc env → Γ.In base →
    (∀ b o, base.get? b = some o → s.heap.get? b = some o) → (∀ a, Own env sc a ∨ a = D → base.get? a = none) → FrOk s.heap env sc → SR w R s.heap env σ → (∀ a, R a → ¬ (Own env sc a ∨ a = D)) → ¬ Own env sc D →
    s.heap.get? D = some (LObj vs n) → vs.size + ys.length ≤ sizeLine →
    (∀ s', Same s s' → Kp (fun a => Own env sc a ∨ a = D) s.heap s'.heap → FrOk s'.heap env sc → (∀ y u d, σ.lookup y = some d → Bd s.heap env y u → Bd s'.heap env y u) →
      (∃ us n', s'.heap.get? D = some (LObj (vs ++ us) n') ∧ RpAll w (Nw R s) s'.heap us.toList ys) → Q s') →
    InnerW prog w A elt gens sc pos depth (.ref D) env Q E s

noncomputable def TurnOk (elt : Expr) (gens : List Comprehension) (sc : Scope) (pos : Pos) (depth : Nat) (k : Nat) (σ : Sg) (target : Expr) (ifs : List Expr) (d : PyData) (ys : List PyData) : Prop :=
  ∃ τ b, Tgt prog w sc target d τ ∧ (∀ x d, σ.lookup x = some d → τ.lookup x = none) ∧ Tests prog w Γ sc k (τ ++ σ) ifs b ∧ (b = false → ys = []) ∧ (b = true → CIn prog w Γ elt gens sc pos (depth + 1) k (τ ++ σ) ys)
end

section
variable {prog : Program} {w : World} {Γ : GEnv} {sc : Scope} {k : Nat} {σ : Sg}

theorem append_L {A : Around} {E : Value → Shared → Prop} {s : Shared} {D : Addr} {vs : Array Value} {n : Nat} {x : Value} {Q : Value → Shared → Prop} (hD : s.heap.get? D = some (LObj vs n)) (hsz : vs.size ≤ sizeLine)
    (hQ : ∀ h' n', h'.get? D = some (LObj (vs.push x) n') → Kp (fun a => a = D) s.heap h' → Q .none { s with heap := h' }) : wpAny (model prog w) A (call (.builtin "list.append") [.ref D, x]) Q E s := by
  have hl : s.heap.PlainList D vs := ⟨n, hD⟩
  refine wpAny_list_append_plain (hsz := hsz) hl fun h' hl' hs' => ?_
  refine xE (hl') fun n' e => ?_
  try clear hl'
  exact hQ h' n' e fun b o hb e => (hs'.2 b hb).trans e

theorem CIn.last {elt : Expr} {gens : List Comprehension} {pos : Pos} {depth : Nat} {d : PyData} (hn : gens[depth]? = none) (h : Ev prog w Γ sc k σ elt d) : CIn prog w Γ elt gens sc pos depth k σ [d] :=
  fun A Q E env R base s D vs n hr he hg hb hf0 hf hs hR hD hl hsz hQ => by
    unfold InnerW
    rw [hn]
    refine wpAny_mono (h A E env R s hr he (hg.keep hb) hs) (fun v s₁ ⟨x₁, p₁⟩ => ?_) fun _ _ e => e
    refine append_L (x₁.keep _ _ hl) (by simp at hsz; omega) fun h' n' e k' => ?_
    refine hQ _ (x₁.sm.trans (.mk _ _)) (fun b o hb e => k' b o (fun q => hb (.inr q)) (x₁.keep b o e)) ((hf.keep x₁.keep).kp k' fun a ha q => hD (q ▸ ha)) (fun y u d hy b => (b.keep x₁.keep).kp k' (NoBd.list (x₁.keep _ _ hl)))
      ⟨#[v], n', by simpa using e, ?_⟩
    refine .cons (p₁.mv (.kp k' ?_)) .nil
    rintro a ha rfl
    rcases ha with ha | ha
    · exact hR _ ha (.inr rfl)
    · rw [hl] at ha; cases ha

/-- the loop of a depth -/
theorem comp_loop {elt : Expr} {gens : List Comprehension} {pos : Pos} {depth : Nat} {target iter : Expr} {ifs : List Expr} (hg : gens[depth]? = some ⟨target, iter, ifs, 0⟩)
    (hall : ∀ g ∈ gens, g.is_async = 0) (hset : ∀ g ∈ gens, ∀ env x, foldedSetIterable g.iter env x = pure x)
    {A : Around} {env : Env} {R : Addr → Prop} {base : Heap} {s : Shared} {D I : Addr} {vs : Array Value} {n : Nat} {T : Expr → Prop} {fp wr Rd : Addr → Prop} {ds : List PyData} {yss : List (List PyData)} {St : Nat → Heap → Prop}
    {Rr : Result → Shared → Prop} (hr : Room k A) (he : EnvOk sc env) (hG : Γ.In base) (hb : ∀ b o, base.get? b = some o → s.heap.get? b = some o) (hf0 : ∀ a, Own env sc a ∨ a = D ∨ wr a → base.get? a = none) (hf : FrOk s.heap env sc)
    (hs : SR w R s.heap env σ) (hR : ∀ a, R a ∨ Rd a → ¬ (Own env sc a ∨ a = D ∨ wr a)) (hfp : ∀ a, fp a → ¬ (Own env sc a ∨ a = D)) (hw : ∀ a, wr a → ¬ (Own env sc a ∨ a = D)) (hD : ¬ Own env sc D) (hl : s.heap.get? D = some (LObj vs n))
    (hT : T target) (hlen : yss.length = ds.length) (hsz : vs.size + yss.flatten.length ≤ sizeLine) (W : Wk prog w A I T fp wr Rd ds St) (hst : St 0 s.heap)
    (hturn : ∀ (i : Nat) (d : PyData) (ys : List PyData), ds[i]? = some d → yss[i]? = some ys → TurnOk prog w Γ elt gens sc pos depth k σ target ifs d ys)
    (hQ : ∀ s', Same s s' → Kp (fun a => Own env sc a ∨ a = D ∨ wr a) s.heap s'.heap → FrOk s'.heap env sc → (∀ y u d, σ.lookup y = some d → Bd s.heap env y u → Bd s'.heap env y u) →
      (∃ us n', s'.heap.get? D = some (LObj (vs ++ us) n') ∧ RpAll w (fun a => R a ∨ Rd a ∨ s.heap.get? a = none) s'.heap us.toList yss.flatten) → Rr (.ok .next) s') :
    codeAny (model prog w) A (.compLoop (.ListComp elt gens sc pos) depth (.ref I) (.ref D) env) Rr s := by
  refine codeAny_compLoop_gen hg hall (fun g hg x => hset g hg env x)
    (fun kk s' => ∃ i us n', Same s s' ∧ i ≤ ds.length ∧ kk = ds.length + 1 - i ∧ St i s'.heap ∧ Kp (fun a => Own env sc a ∨ a = D ∨ wr a) s.heap s'.heap ∧ FrOk s'.heap env sc ∧
      (∀ y u d, σ.lookup y = some d → Bd s.heap env y u → Bd s'.heap env y u) ∧ s'.heap.get? D = some (LObj (vs ++ us) n') ∧ RpAll w (fun a => R a ∨ Rd a ∨ s.heap.get? a = none) s'.heap us.toList (yss.take i).flatten) ?_ (ds.length + 1)
    ⟨0, #[], n, .refl s, Nat.zero_le _, rfl, hst, .refl _ _, hf, fun _ _ _ _ b => b, by simpa using hl, by simpa using RpAll.nil⟩
  rintro kk s₁ ⟨i, us, n', sm, hi, rfl, hst₁, kp₁, hf₁, bd₁, hl₁, hus⟩ E'
  -- what lives at the start of a turn lives on
  have live₁ : ∀ a, s₁.heap.get? a = none → s.heap.get? a = none := fun a e => by
    cases q : s.heap.get? a with
    | none => rfl
    | some o =>
      by_cases hW : Own env sc a ∨ a = D ∨ wr a
      · rcases hW with h | rfl | h
        · obtain ⟨o', e'⟩ := hf₁.alive h; rw [e] at e'; cases e'
        · rw [hl₁] at e; cases e
        · obtain ⟨o', _, e', _⟩ := W.alive _ _ hst₁ a h; rw [e] at e'; cases e'
      · rw [kp₁ a o hW q] at e; cases e
  have base₁ : ∀ b o, base.get? b = some o → s₁.heap.get? b = some o := fun b o e => kp₁ b o (fun q => by rw [hf0 b q] at e; cases e) (hb b o e)
  by_cases hlt : i < ds.length
  · obtain ⟨d, hd⟩ : ∃ d, ds[i]? = some d := ⟨_, List.getElem?_eq_getElem hlt⟩
    obtain ⟨ys, hys⟩ : ∃ ys, yss[i]? = some ys := ⟨_, List.getElem?_eq_getElem (hlen ▸ hlt)⟩
    refine xEEAAAA (hturn i d ys hd hys) fun τ b htg hdis htest hbf hbt => ?_
    refine W.item i d _ _ _ hd hst₁ fun v h' tk hgo => ?_
    refine hgo target _ _ hT fun h₂ kp₂ hv hst₂ => ?_
    -- h₂ : behind the next
    have wr_ok : ∀ a, wr a → ∀ o, s₁.heap.get? a = some o → (∀ es n, o.data ≠ .dict es n) ∧ ∀ c, o.data ≠ .cell c := fun a ha o e => by
      refine xEEA (W.alive _ _ hst₁ a ha) fun o' fs e' hd' => ?_
      rw [e] at e'; cases e'; rw [hd']; exact ⟨nofun, nofun⟩
    have hf₂ : FrOk h₂ env sc := hf₁.kp kp₂ fun a ha q => hw a q (.inl ha)
    have live₂ : ∀ a, h₂.get? a = none → s₁.heap.get? a = none := fun a e => by
      cases q : s₁.heap.get? a with
      | none => rfl
      | some o =>
        by_cases hW : wr a
        · obtain ⟨o', _, e', _⟩ := W.alive _ _ hst₂ a hW; rw [e] at e'; cases e'
        · rw [kp₂ a o hW q] at e; cases e
    let R₁ : Addr → Prop := fun a => (R a ∨ Rd a ∨ s₁.heap.get? a = none) ∧ ∃ o, h₂.get? a = some o
    have hR₁ : ∀ a, R₁ a → ¬ (Own env sc a ∨ a = D) := fun a ⟨h1, o, e⟩ q => by
      rcases h1 with h1 | h1 | h1
      · exact hR a (.inl h1) (q.imp id .inl)
      · exact hR a (.inr h1) (q.imp id .inl)
      · rcases q with q | rfl
        · obtain ⟨o', e'⟩ := hf₁.alive q; rw [h1] at e'; cases e'
        · rw [hl₁] at h1; cases h1
    have hv₁ : Rp w R₁ h₂ v d := hv.mv fun a o r e => ⟨⟨r.elim (fun x => .inr (.inl x)) (fun x => .inr (.inr x)), o, e⟩, e⟩
    refine wpAny_mono (htg A E' env R₁ { s₁ with heap := h₂, toks := tk } v hr.hh he hf₂ hv₁ fun a ra q => hR₁ a ra (.inl q)) (fun _ s₃ ⟨sm₃, kp₃, hf₃, srτ, bd₃⟩ => ?_) fun _ _ e => e
    have live₃ : ∀ a, s₃.heap.get? a = none → h₂.get? a = none := fun a e => by
      cases q : h₂.get? a with
      | none => rfl
      | some o =>
        by_cases hW : Own env sc a
        · obtain ⟨o', e'⟩ := hf₃.alive hW; rw [e] at e'; cases e'
        · have := kp₃ a o hW q; rw [e] at this; cases this
    have base₂ : ∀ b o, base.get? b = some o → h₂.get? b = some o := fun b o e => kp₂ b o (fun q => by rw [hf0 b (.inr (.inr q))] at e; cases e) (base₁ b o e)
    have base₃ : ∀ b o, base.get? b = some o → s₃.heap.get? b = some o := fun b o e => kp₃ b o (fun q => by rw [hf0 b (.inl q)] at e; cases e) (base₂ b o e)
    have hl₂ : h₂.get? D = some (LObj (vs ++ us) n') := kp₂ _ _ (fun q => hw D q (.inr rfl)) hl₁
    have hl₃ : s₃.heap.get? D = some (LObj (vs ++ us) n') := kp₃ _ _ hD hl₂
    have bd13 : ∀ y u, τ.lookup y = none → Bd s₁.heap env y u → Bd s₃.heap env y u := fun y u hy b => bd₃ y u hy (b.kp kp₂ fun a o ha e => wr_ok a ha o e)
    have hs₃ : SR w R₁ s₃.heap env (τ ++ σ) := ⟨fun x c hx => ?_, fun x dx hx => ?_⟩
    rotate_left
    · refine xE (hs.cells x c hx) fun o e => ?_
      cases q : s₃.heap.get? c with
      | some o' => exact ⟨o', rfl⟩
      | none => rw [live₁ _ (live₂ _ (live₃ _ q))] at e; cases e
    · 
      rw [lookup_append] at hx
      cases hτ : τ.lookup x with
      | some d' =>
        rw [hτ] at hx; cases hx
        exact srτ x _ hτ
      | none =>
        rw [hτ] at hx
        refine xEA (hs.get x dx hx) fun vx bx px => ?_
        refine ⟨vx, bd13 x vx hτ (bd₁ x vx dx hx bx), ?_⟩
        have m1 : Mv R R s.heap s₁.heap := .kp kp₁ fun a ha => hR a (.inl ha)
        have m2 : Mv R R₁ s₁.heap h₂ := fun a o ra e => by
          have e2 := kp₂ a o (fun q => hR a (.inl ra) (.inr (.inr q))) e
          exact ⟨⟨.inl ra, o, e2⟩, e2⟩
        have m3 : Mv R₁ R₁ h₂ s₃.heap := .kp kp₃ fun a ra q => hR₁ a ra (.inl q)
        exact px.mv (m1.trans (m2.trans m3))
    have hus₃ : RpAll w (fun a => R a ∨ Rd a ∨ s.heap.get? a = none) s₃.heap us.toList (yss.take i).flatten := by
      have nW : ∀ a, (R a ∨ Rd a ∨ s.heap.get? a = none) → ¬ (Own env sc a ∨ a = D ∨ wr a) := fun a ha q => by
        rcases ha with ha | ha | ha
        · exact hR a (.inl ha) q
        · exact hR a (.inr ha) q
        · rcases q with q | rfl | q
          · obtain ⟨o', e'⟩ := hf.alive q; rw [ha] at e'; cases e'
          · rw [hl] at ha; cases ha
          · obtain ⟨o', _, e', _⟩ := W.alive _ _ hst a q; rw [ha] at e'; cases e'
      exact (hus.mv (.kp kp₂ fun a ha q => nW a ha (.inr (.inr q)))).mv (.kp kp₃ fun a ha q => nW a ha (.inl q))
    have sm13 : Same s s₃ := sm.trans (Same.trans (.mk _ _) sm₃)
    have st₃ : St (i + 1) s₃.heap := W.frame _ _ _ hst₂ fun b o hb e => kp₃ b o (fun q => hfp b hb (.inl q)) e
    have kp13 : Kp (fun a => Own env sc a ∨ a = D ∨ wr a) s.heap s₃.heap := (kp₁.trans (kp₂.mono fun a q => .inr (.inr q))).trans (kp₃.mono fun a q => .inl q)
    refine wpAny_mono (htest A E' env R₁ s₃ hr he (hG.keep base₃) hs₃) (fun ok s₄ ⟨hok, x₄⟩ => ?_) fun _ _ e => e
    subst hok
    have hnW : ∀ a, (R a ∨ Rd a ∨ s.heap.get? a = none) → ¬ (Own env sc a ∨ a = D) := fun a ha q => by
      rcases ha with ha | ha | ha
      · exact hR a (.inl ha) (q.imp id .inl)
      · exact hR a (.inr ha) (q.imp id .inl)
      · rcases q with q | rfl
        · obtain ⟨o', e'⟩ := hf.alive q; rw [ha] at e'; cases e'
        · rw [hl] at ha; cases ha
    have take_succ : (yss.take (i + 1)).flatten = (yss.take i).flatten ++ ys := by
      rw [List.take_add_one, hys]; simp
    have hf₄ := hf₃.keep x₄.keep
    have bd14 : ∀ y u d, σ.lookup y = some d → Bd s.heap env y u → Bd s₄.heap env y u := fun y u d hy b => (bd13 y u (hdis y d hy) (bd₁ y u d hy b)).keep x₄.keep
    cases ok with
    | false =>
      simp only [Bool.false_eq_true, if_false]
      refine ⟨ds.length + 1 - (i + 1), by omega, i + 1, us, n', sm13.trans x₄.sm, hlt, rfl, W.frame _ _ _ st₃ fun b o _ e => x₄.keep b o e, kp13.trans x₄.kp, hf₄, bd14, x₄.keep _ _ hl₃, ?_⟩
      rw [take_succ, hbf rfl, List.append_nil]
      exact hus₃.mv (.keep x₄.keep)
    | true =>
      simp only [if_true]
      have hlen2 : (vs ++ us).size + ys.length ≤ sizeLine := by
        have e1 := hus.length
        have e2 : ((yss.take i).flatten).length + ys.length ≤ yss.flatten.length := by
          have : yss.flatten = (yss.take (i + 1)).flatten ++ (yss.drop (i + 1)).flatten := by
            rw [← List.flatten_append, List.take_append_drop]
          rw [this, take_succ]; simp only [List.length_append]; omega
        have e3 : us.size = us.toList.length := by simp
        simp only [Array.size_append]; omega
      refine hbt rfl A _ E' env R₁ base s₄ D (vs ++ us) n' hr he hG (fun b o e => x₄.keep _ _ (base₃ b o e)) (fun a q => hf0 a (q.imp id .inl)) hf₄ (hs₃.keep x₄.keep) hR₁ hD (x₄.keep _ _ hl₃) hlen2
        fun s₅ sm₅ kp₅ hf₅ bd₅ ⟨us', n'', hl₅, hus'⟩ => ?_
      refine ⟨ds.length + 1 - (i + 1), by omega, i + 1, us ++ us', n'', (sm13.trans x₄.sm).trans sm₅, hlt, rfl, W.frame _ _ _ st₃ fun b o hb e => kp₅ b o (fun q => hfp b hb q) (x₄.keep b o e), (kp13.trans x₄.kp).trans (kp₅.mono fun a q => q.imp id .inl), hf₅,
        fun y u d hy b => bd₅ y u d (by rw [lookup_append, hdis y d hy]; exact hy) (bd14 y u d hy b), by rw [hl₅]; simp, ?_⟩
      rw [take_succ, Array.toList_append]
      refine (hus₃.mv ((Mv.keep x₄.keep).trans (.kp kp₅ hnW))).append (hus'.mv (.sub fun a ha => ?_))
      rcases ha with ⟨h1, _⟩ | h1
      · rcases h1 with h1 | h1 | h1
        · exact .inl h1
        · exact .inr (.inl h1)
        · exact .inr (.inr (live₁ a h1))
      · exact .inr (.inr (live₁ a (live₂ a (live₃ a (fresh_back x₄.keep h1)))))
  · obtain rfl : i = ds.length := by omega
    refine W.done _ _ _ hst₁ fun h₂ tk kp₂ => ?_
    have wr_ok : ∀ a, wr a → ∀ o, s₁.heap.get? a = some o → (∀ es n, o.data ≠ .dict es n) ∧ ∀ c, o.data ≠ .cell c := fun a ha o e => by
      refine xEEA (W.alive _ _ hst₁ a ha) fun o' fs e' hd' => ?_
      rw [e] at e'; cases e'; rw [hd']; exact ⟨nofun, nofun⟩
    have nW : ∀ a, (R a ∨ Rd a ∨ s.heap.get? a = none) → ¬ wr a := fun a ha q => by
      rcases ha with ha | ha | ha
      · exact hR a (.inl ha) (.inr (.inr q))
      · exact hR a (.inr ha) (.inr (.inr q))
      · obtain ⟨o', _, e', _⟩ := W.alive _ _ hst a q; rw [ha] at e'; cases e'
    refine hQ _ (sm.trans (.mk _ _)) (kp₁.trans (kp₂.mono fun a q => .inr (.inr q))) (hf₁.kp kp₂ fun a ha q => hw a q (.inl ha)) (fun y u d hy b => (bd₁ y u d hy b).kp kp₂ fun a o ha e => wr_ok a ha o e)
      ⟨us, n', kp₂ _ _ (fun q => hw D q (.inr rfl)) hl₁, ?_⟩
    rw [← hlen, List.take_length] at hus
    exact hus.mv (.kp kp₂ nW)
end
end Mine

open PySem PySem.W PyProof.Rows
namespace Mine

section
variable {prog : Program} {w : World} {Γ : GEnv} {sc : Scope} {k : Nat} {σ : Sg}

theorem CIn.next {elt : Expr} {gens : List Comprehension} {pos : Pos} {depth : Nat} {target iter : Expr} {ifs : List Expr} {T : Expr → Prop} {ds : List PyData} {yss : List (List PyData)}
    (hg : gens[depth]? = some ⟨target, iter, ifs, 0⟩) (hall : ∀ g ∈ gens, g.is_async = 0) (hset : ∀ g ∈ gens, ∀ env x, foldedSetIterable g.iter env x = pure x)
    (hit : It prog w Γ sc k σ iter T ds) (hT : T target) (hlen : yss.length = ds.length)
    (hturn : ∀ (i : Nat) (d : PyData) (ys : List PyData), ds[i]? = some d → yss[i]? = some ys → TurnOk prog w Γ elt gens sc pos depth k σ target ifs d ys) :
    CIn prog w Γ elt gens sc pos depth k σ yss.flatten :=
  fun A Q E env R base s D vs n hr he hG hb hf0 hf hs hR hD hl hsz hQ => by
    unfold InnerW
    rw [hg]
    let R' : Addr → Prop := fun a => R a ∧ (s.heap.get? a).isSome = true
    have hs' : SR w R' s.heap env σ := hs.live
    refine wpAny_mono (hit A E env R' s hr he (hG.keep hb) hs') (fun xv s₁ h₁ => wpAny_mono h₁ (fun itv s₂ h₂ => ?_) fun _ _ e => e) fun _ _ e => e
    refine xAEEEEEAAAAA (h₂) fun x₂ I fp wr Rd St zE1 W hst hwr hfp hRd => ?_
    try clear h₂
    subst zE1
    have fr : ∀ a, (Own env sc a ∨ a = D) → s.heap.get? a ≠ none := fun a q e => by
      rcases q with q | rfl
      · obtain ⟨o, e'⟩ := hf.alive q; rw [e] at e'; cases e'
      · rw [hl] at e; cases e
    have nwOk : ∀ a, Nw R' s a → ¬ (Own env sc a ∨ a = D) := fun a ha q => by
      rcases ha with ha | ha
      · exact hR a ha.1 q
      · exact fr a q ha
    have key : codeAny (model prog w) A (.compLoop (.ListComp elt gens sc pos) depth (.ref I) (.ref D) env)
        (fun r s' => match r with | .ok _ => Q s' | .error e => cameBackBy (model prog w) A env E e s') s₂ := by
      refine comp_loop (R := R') (T := T) (Rd := Rd) (fp := fp) (wr := wr) hg hall hset hr he hG (fun b o e => x₂.keep _ _ (hb b o e)) (fun a q => ?_) (hf.keep x₂.keep) (hs'.keep x₂.keep) (fun a ha q => ?_) (fun a ha => nwOk a (hfp a ha).1)
        (fun a ha q => fr a q (hwr a ha).1) hD (x₂.keep _ _ hl) hT hlen hsz W hst hturn fun s₃ sm₃ kp₃ hf₃ bd₃ ⟨us, n', hl₃, hus⟩ => ?_
      · rcases q with q | q | q
        · exact hf0 a (.inl q)
        · exact hf0 a (.inr q)
        · exact fresh_back hb (hwr a q).1
      · rcases ha with ha | ha
        · rcases q with q | q | q
          · exact hR a ha.1 (.inl q)
          · exact hR a ha.1 (.inr q)
          · have h2 := ha.2; rw [(hwr a q).1] at h2; cases h2
        · rcases q with q | q | q
          · exact nwOk a (hRd a ha).1 (.inl q)
          · exact nwOk a (hRd a ha).1 (.inr q)
          · exact (hRd a ha).2.2 q
      · refine hQ s₃ (x₂.sm.trans sm₃) (fun b o hbn e => kp₃ b o (fun q => ?_) (x₂.keep _ _ e)) hf₃ (fun y u d hy b => bd₃ y u d hy (b.keep x₂.keep)) ⟨us, n', hl₃, hus.mv (.sub fun a ha => ?_)⟩
        · rcases q with q | q | q
          · exact hbn (.inl q)
          · exact hbn (.inr q)
          · rw [(hwr b q).1] at e; cases e
        · rcases ha with ha | ha | ha
          · exact .inl ha.1
          · exact (hRd a ha).1.imp (·.1) id
          · exact .inr (fresh_back x₂.keep ha)
    exact codeAny_compStart_gen hg key fun E' => W.self 0 _ _ _ hst key

/-- the cells that a block takes along -/
theorem closure_ok {env : Env} : ∀ (names : List (Str × NameKind)) (acc : List (Str × Addr)), (∀ x, (x, NameKind.free) ∈ names → ∃ c, env.cells.lookup x = some c) → (∀ y c, acc.lookup y = some c → env.cells.lookup y = some c) →
    ∃ cl, (forIn (m := Sem) names acc fun x cs => if x.2 == NameKind.free then do let a ← cellOf env x.1; pure (ForInStep.yield ((x.1, a) :: cs)) else pure (ForInStep.yield cs)) = pure cl ∧
      (∀ y c, cl.lookup y = some c → env.cells.lookup y = some c) ∧ (∀ y, (y, NameKind.free) ∈ names ∨ (∃ c, acc.lookup y = some c) → ∃ c, cl.lookup y = some c)
  | [], acc, _, h2 => ⟨acc, by rw [List.forIn_nil], h2, fun y h => h.elim (fun q => nomatch q) id⟩
  | (x, kd) :: r, acc, h1, h2 => by
    rw [List.forIn_cons]
    by_cases hk : (kd == NameKind.free) = true
    · obtain rfl : kd = .free := eq_of_beq hk
      refine xE (h1 x (.head _)) fun c hc => ?_
      have hco : cellOf env x = pure c := by unfold cellOf; rw [hc]
      refine xEAA (closure_ok r ((x, c) :: acc) (fun y hy => h1 y (.tail _ hy)) (fun y c' hy => by
        rw [List.lookup_cons] at hy
        cases hb : y == x with
        | true => rw [hb] at hy; cases hy; rw [eq_of_beq hb]; exact hc
        | false => rw [hb] at hy; exact h2 y c' hy)) fun cl e a1 a2 => ?_
      refine ⟨cl, ?_, a1, fun y hy => ?_⟩
      · simp only [hk, if_true, hco, pure_bind]; exact e
      · rcases hy with hy | ⟨c', hy⟩
        · rcases List.mem_cons.mp hy with q | q
          · cases q
            exact a2 _ (.inr ⟨c, by simp⟩)
          · exact a2 y (.inl q)
        · by_cases q : y = x
          · subst q; exact a2 _ (.inr ⟨c, by simp⟩)
          · exact a2 y (.inr ⟨c', by rw [List.lookup_cons, beq_eq_false_iff_ne.mpr q]; exact hy⟩)
    · refine xEAA (closure_ok r acc (fun y hy => h1 y (.tail _ hy)) h2) fun cl e a1 a2 => ?_
      refine ⟨cl, ?_, a1, fun y hy => a2 y ?_⟩
      · rw [if_neg hk, pure_bind]; exact e
      · rcases hy with hy | hy
        · rcases List.mem_cons.mp hy with q | q
          · cases q
            simp at hk
          · exact .inl q
        · exact .inr hy

theorem closureFor_ok {env : Env} {sc' : Scope} (h : ∀ x, (x, NameKind.free) ∈ sc'.names → ∃ c, env.cells.lookup x = some c) :
    ∃ cl, closureFor sc' env = pure cl ∧ (∀ y c, cl.lookup y = some c → env.cells.lookup y = some c) ∧ (∀ y, (y, NameKind.free) ∈ sc'.names → ∃ c, cl.lookup y = some c) := by
  refine xEAA (closure_ok (env := env) sc'.names [] h (fun y c hy => by simp at hy)) fun cl e a1 a2 => ?_
  refine ⟨cl, ?_, a1, fun y hy => a2 y (.inl hy)⟩
  unfold closureFor
  refine Eq.trans (b := (pure cl >>= fun cs => (pure cs : Sem (List (Str × Addr))))) ?_ rfl
  rw [← e]

/-- the cells laid for a block -/
theorem cellsFrom_cell : ∀ (names : List (Str × NameKind)) (n : Nat) (acc : List (Str × Addr)) (x : Str), (x, NameKind.cell) ∈ names → ∃ c, (cellsFrom n names acc).lookup x = some c ∧ n ≤ c
  | [], _, _, _, h => nomatch h
  | (y, kd) :: r, n, acc, x, h => by
    unfold cellsFrom
    have keepLook : ∀ (names : List (Str × NameKind)) (n' : Nat) (acc' : List (Str × Addr)), n ≤ n' → (∃ c, acc'.lookup x = some c ∧ n ≤ c) → ∃ c, (cellsFrom n' names acc').lookup x = some c ∧ n ≤ c := by
      intro names
      induction names with
      | nil => intro n' acc' _ h; exact h
      | cons z r ih =>
        obtain ⟨z, kz⟩ := z
        intro n' acc' hn h
        unfold cellsFrom
        split
        · refine ih _ _ (by omega) ?_
          by_cases q : x = z
          · subst q; exact ⟨n', by simp, hn⟩
          · obtain ⟨c, h1, h2⟩ := h; exact ⟨c, by rw [List.lookup_cons, beq_eq_false_iff_ne.mpr q]; exact h1, h2⟩
        · exact ih _ _ hn h
    rcases List.mem_cons.mp h with q | q
    · cases q
      simp only [beq_self_eq_true, if_true]
      exact keepLook r (n + 1) _ (by omega) ⟨n, by simp, Nat.le_refl _⟩
    · split
      · obtain ⟨c, h1, h2⟩ := cellsFrom_cell r (n + 1) _ x q; exact ⟨c, h1, Nat.le_of_succ_le h2⟩
      · exact cellsFrom_cell r n acc x q

theorem cellsFrom_other : ∀ (names : List (Str × NameKind)) (n : Nat) (acc : List (Str × Addr)) (x : Str), (x, NameKind.cell) ∉ names → (cellsFrom n names acc).lookup x = acc.lookup x
  | [], _, _, _, _ => rfl
  | (y, kd) :: r, n, acc, x, h => by
    unfold cellsFrom
    have hr : (x, NameKind.cell) ∉ r := fun q => h (.tail _ q)
    split
    · rename_i hk
      obtain rfl : kd = .cell := eq_of_beq hk
      rw [cellsFrom_other r _ _ x hr, List.lookup_cons, beq_eq_false_iff_ne.mpr (fun q : x = y => h (q ▸ .head _))]
    · exact cellsFrom_other r _ _ x hr

theorem cellsFrom_from : ∀ (names : List (Str × NameKind)) (n : Nat) (acc : List (Str × Addr)) (x : Str) (c : Addr), (cellsFrom n names acc).lookup x = some c → acc.lookup x = some c ∨ n ≤ c
  | [], _, _, _, _, h => .inl h
  | (y, kd) :: r, n, acc, x, c, h => by
    unfold cellsFrom at h
    split at h
    · rcases cellsFrom_from r _ _ x c h with q | q
      · rw [List.lookup_cons] at q
        cases hb : x == y with
        | true => rw [hb] at q; cases q; exact .inr (Nat.le_refl _)
        | false => rw [hb] at q; exact .inl q
      · exact .inr (Nat.le_of_succ_le q)
    · exact cellsFrom_from r _ _ x c h

theorem cellsFrom_inj : ∀ (names : List (Str × NameKind)) (n : Nat) (acc : List (Str × Addr)), (∀ x c, acc.lookup x = some c → c < n) → (∀ x y c, acc.lookup x = some c → acc.lookup y = some c → x = y) →
    ∀ x y c, (cellsFrom n names acc).lookup x = some c → (cellsFrom n names acc).lookup y = some c → x = y
  | [], _, _, _, h => h
  | (z, kd) :: r, n, acc, h1, h2 => by
    unfold cellsFrom
    split
    · refine cellsFrom_inj r _ _ (fun x c hx => ?_) (fun x y c hx hy => ?_)
      · rw [List.lookup_cons] at hx
        cases hb : x == z with
        | true => rw [hb] at hx; cases hx; exact Nat.lt_succ_self _
        | false => rw [hb] at hx; exact Nat.lt_succ_of_lt (h1 x c hx)
      · rw [List.lookup_cons] at hx hy
        cases hb : x == z with
        | true =>
          rw [hb] at hx; cases hx
          cases hb' : y == z with
          | true => rw [eq_of_beq hb, eq_of_beq hb']
          | false => rw [hb'] at hy; exact absurd (h1 y _ hy) (Nat.lt_irrefl _)
        | false =>
          rw [hb] at hx
          cases hb' : y == z with
          | true => rw [hb'] at hy; cases hy; exact absurd (h1 x _ hx) (Nat.lt_irrefl _)
          | false => rw [hb'] at hy; exact h2 x y c hx hy
    · exact cellsFrom_inj r _ _ h1 h2

/-- new cells stand, empty -/
theorem pushCells_cell : ∀ (names : List (Str × NameKind)) (h : Heap) (acc : List (Str × Addr)) (x : Str) (c : Addr), (cellsFrom h.objs.size names acc).lookup x = some c → acc.lookup x = some c ∨ (pushCells h names).IsCell c none
  | [], _, _, _, _, h => .inl h
  | (y, kd) :: r, h, acc, x, c, e => by
    unfold cellsFrom at e
    unfold pushCells
    split at e
    · rename_i hk
      rw [if_pos hk]
      have e' : (cellsFrom (h.push { cls := .type "cell", data := .cell none }).objs.size r ((y, h.objs.size) :: acc)).lookup x = some c := by rw [Heap.size_push]; exact e
      rcases pushCells_cell r _ _ x c e' with q | q
      · rw [List.lookup_cons] at q
        cases hb : x == y with
        | true =>
          rw [hb] at q; cases q
          exact .inr ⟨_, pushCells_keeps r _ _ _ (Heap.get?_push_size h (o := { cls := .type "cell", data := .cell none }) rfl), rfl⟩
        | false => rw [hb] at q; exact .inl q
      · exact .inr q
    · rename_i hk
      rw [if_neg hk]
      exact pushCells_cell r h acc x c e

theorem newEnv_around {A : Around} {E : Value → Shared → Prop} {s : Shared} {scope : Scope} {cl : List (Str × Addr)} {env : Env} {Q : Env → Shared → Prop}
    (h : Q { scope := scope, locals := s.heap.objs.size, globals := env.globals, cells := cellsFrom (s.heap.objs.size + 1) scope.names cl, qual := env.qual, func := none, code := env.code, frame := env.frame, builtins := env.builtins }
      { s with heap := pushCells (s.heap.push { cls := .type "dict", data := .dict #[] }) scope.names }) :
    wpAny (model prog w) A (newFunctionEnv scope env.globals cl [] env.qual none .none (some env)) Q E s := by
  simp only [newFunctionEnv, Option.isSome_some, if_true]
  refine wpAny_bind (wpAny_alloc ?_)
  refine wpAny_bind (wpAny_layCells _ (fun name kind cells => by cases hkc : kind == NameKind.cell <;> simp [hkc]) _ _ _ _ ?_)
  rw [show ({ s with heap := s.heap.push { cls := .type "dict", data := .dict #[] } } : Shared).heap.objs.size = s.heap.objs.size + 1 from Heap.size_push ..]
  refine wpAny_bind ?_
  rw [List.forIn_nil]
  exact wpAny_pure (wpAny_pure h)
end
end Mine

open PySem PySem.W PyProof.Rows
namespace Mine

noncomputable def nodupKeys : List (Str × NameKind) → Bool
  | [] => true
  | p :: r => r.all (fun q => !(q.1 == p.1)) && nodupKeys r

/-- a block within a block: its own names once each, what it takes along is a cell there -/
noncomputable def scOk (sc sc' : Scope) : Bool := sc'.kind == .function && nodupKeys sc'.names && sc'.names.all fun p => p.2 != .free || (sc.names.lookup p.1 == some .cell || sc.names.lookup p.1 == some .free)

noncomputable def capt (sc sc' : Scope) (σ : Sg) : Sg := σ.filter fun p => sc'.names.lookup p.1 == some .free && (sc.names.lookup p.1 == some .cell || sc.names.lookup p.1 == some .free)

theorem nodup_lookup : ∀ {l : List (Str × NameKind)} {x : Str} {kd : NameKind}, nodupKeys l = true → (x, kd) ∈ l → l.lookup x = some kd
  | (y, ky) :: r, x, kd, h, hm => by
    simp only [nodupKeys, Bool.and_eq_true] at h
    rcases List.mem_cons.mp hm with q | q
    · cases q
      simp
    · have h1 := List.all_eq_true.mp h.1 _ q
      have : (x == y) = false := by simpa using h1
      rw [List.lookup_cons, this]
      exact nodup_lookup h.2 q
theorem mem_of_lookupN : ∀ {l : List (Str × NameKind)} {x : Str} {kd : NameKind}, l.lookup x = some kd → (x, kd) ∈ l := fun h => mem_of_lookup h

theorem capt_lookup {sc sc' : Scope} : ∀ {σ : Sg} {x : Str} {d : PyData}, (capt sc sc' σ).lookup x = some d → σ.lookup x = some d ∧ sc'.names.lookup x = some .free ∧ (sc.names.lookup x = some .cell ∨ sc.names.lookup x = some .free)
  | [], _, _, h => by simp [capt] at h
  | (y, e) :: r, x, d, h => by
    unfold capt at h
    rw [List.filter_cons] at h
    split at h
    · rename_i hc
      rw [List.lookup_cons] at h
      cases hb : x == y with
      | true =>
        rw [hb] at h; cases h
        simp only [Bool.and_eq_true, Bool.or_eq_true, beq_iff_eq] at hc
        have := eq_of_beq hb; subst this
        exact ⟨by simp, hc⟩
      | false =>
        rw [hb] at h
        have ih := capt_lookup (sc := sc) (sc' := sc') (σ := r) h
        exact ⟨by rw [List.lookup_cons, hb]; exact ih.1, ih.2⟩
    · rename_i hc
      have ih := capt_lookup (sc := sc) (sc' := sc') (σ := r) h
      refine ⟨?_, ih.2⟩
      rw [List.lookup_cons]
      cases hb : x == y with
      | true =>
        have := eq_of_beq hb; subst this
        exact absurd (by simp only [Bool.and_eq_true, Bool.or_eq_true, beq_iff_eq]; exact ih.2) hc
      | false => exact ih.1

theorem relabel_lookup {sc' : Scope} {env : Env} (x : Str) : (relabel sc' env).names.lookup x =
    (sc'.names.lookup x).map fun kd => if (kd == NameKind.free && env.scope.kind == .function && env.kindOf x == some .cell) = true then NameKind.cell else kd := by
  unfold relabel
  simp only
  induction sc'.names with
  | nil => rfl
  | cons p r ih =>
    obtain ⟨y, ky⟩ := p
    rw [List.map_cons, List.lookup_cons]
    by_cases hc : (ky == NameKind.free && env.scope.kind == .function && env.kindOf y == some .cell) = true
    · simp only [hc, if_true, List.lookup_cons]
      cases hb : x == y with
      | true => have := eq_of_beq hb; subst this; exact congrArg some (if_pos hc).symm
      | false => exact ih
    · have hc' : (if (ky == NameKind.free && env.scope.kind == .function && env.kindOf y == some .cell) = true then (y, NameKind.cell) else (y, ky)) = (y, ky) := if_neg hc
      simp only [hc', List.lookup_cons]
      cases hb : x == y with
      | true => have := eq_of_beq hb; subst this; exact congrArg some (if_neg hc).symm
      | false => exact ih

section
variable {prog : Program} {w : World} {Γ : GEnv} {sc : Scope} {k : Nat} {σ : Sg}

theorem comp_core {elt : Expr} {rest : List Comprehension} {sc' : Scope} {pos p : Pos} {target iter : Expr} {ifs : List Expr} {T : Expr → Prop} {ds : List PyData} {yss : List (List PyData)}
    (hsc : scOk sc sc' = true) (hall : ∀ g ∈ (⟨target, iter, ifs, 0⟩ :: rest : List Comprehension), g.is_async = 0) (hset : ∀ g ∈ (⟨target, iter, ifs, 0⟩ :: rest : List Comprehension), ∀ env x, foldedSetIterable g.iter env x = pure x)
    (hit : It prog w Γ sc k σ iter T ds) (hT : T target) (hlen : yss.length = ds.length) (hsz : yss.flatten.length ≤ sizeLine)
    (hturn : ∀ (i : Nat) (d : PyData) (ys : List PyData), ds[i]? = some d → yss[i]? = some ys → TurnOk prog w Γ elt (⟨target, iter, ifs, 0⟩ :: rest) sc' pos 0 k (capt sc sc' σ) target ifs d ys)
    {A : Around} {E : Value → Shared → Prop} {env : Env} {R : Addr → Prop} {s : Shared} (hr : Room k A) (he : EnvOk sc env) (hg : Γ.In s.heap) (hs : SR w R s.heap env σ) {use : Option (Value → Sem Unit)} {Q : Value → Shared → Prop}
    (hfin : ∀ s' D C us n', Ex s s' → s.heap.get? C = none → s.heap.get? D = none → D ≠ C → (∃ m, s'.heap.Ns C m) → s'.heap.get? D = some (LObj us n') →
      RpAll w (fun a => Nw R s a ∧ a ≠ C ∧ a ≠ D) s'.heap us.toList yss.flatten → compPost (model prog w) A E use Q (.ref D) C (.ok .next) s') :
    wpAny (model prog w) A (comprehension (.ListComp elt (⟨target, iter, ifs, 0⟩ :: rest) sc' pos) sc' env p (newList []) false (eval iter env) use) Q E s := by
  have hsc1 : sc'.kind = .function := by
    unfold scOk at hsc; simp only [Bool.and_eq_true] at hsc; exact eq_of_beq hsc.1.1
  have hnod : nodupKeys sc'.names = true := by
    unfold scOk at hsc; simp only [Bool.and_eq_true] at hsc; exact hsc.1.2
  have hcap : ∀ x, (x, NameKind.free) ∈ sc'.names → sc.names.lookup x = some .cell ∨ sc.names.lookup x = some .free := fun x hx => by
    unfold scOk at hsc; simp only [Bool.and_eq_true] at hsc
    have h2 := List.all_eq_true.mp hsc.2 _ hx
    simpa using h2
  refine xEAA (closureFor_ok (env := env) (sc' := sc') fun x hx => he.has x (hcap x hx)) fun cl hcl hcl1 hcl2 => ?_
  let R' : Addr → Prop := fun a => R a ∧ (s.heap.get? a).isSome = true
  have hs' : SR w R' s.heap env σ := hs.live
  refine wpAny_comprehension_free rfl (fun x => hset _ (.head _) env x) hcl hsc1 (fun x hx hl => nodup_lookup hnod (by rw [← hl]; exact hx)) ?_
  refine wpAny_mono (hit A E env R' s hr he hg hs') (fun xv s₁ h₁ => wpAny_mono h₁ (fun itv s₂ h₂ => ?_) fun _ _ e => e) fun _ _ e => e
  refine xAEEEEEAAAAA (h₂) fun x₂ I fp wr Rd St zE1 W hst hwr hfp hRd => ?_
  try clear h₂
  subst zE1
  refine wpAny_newObj_type (newEnv_around ?_) (by size_fits)
  -- the states
  generalize hH : s₂.heap.push { cls := .type "list", dict := none, data := .seq ([] : List Value).toArray } = H
  dsimp only
  generalize hD : s₂.heap.objs.size = D
  generalize hC : H.objs.size = C
  generalize hh₄ : pushCells (H.push { cls := .type "dict", data := .dict #[] }) sc'.names = h₄
  generalize hcs : cellsFrom (C + 1) sc'.names cl = cs
  have hCsz : C = D + 1 := by rw [← hC, ← hH, Heap.size_push, hD]
  have hDn : s₂.heap.get? D = none := hD ▸ fresh_size _
  have k4 : ∀ b o, H.get? b = some o → h₄.get? b = some o := fun b o e => hh₄ ▸ pushCells_keeps _ _ b o (Heap.get?_push_of_some _ e)
  have k2 : ∀ b o, s₂.heap.get? b = some o → h₄.get? b = some o := fun b o e => k4 b o (hH ▸ Heap.get?_push_of_some _ e)
  have hl₄ : h₄.get? D = some (LObj #[] 0) := k4 _ _ (hH ▸ hD ▸ Heap.get?_push_size _ rfl)
  have hns₄ : h₄.Ns C fun _ => none := hh₄ ▸ hC ▸ (Heap.Ns.new H (.type "dict")).keeps (pushCells_keeps _ _)
  have hHs : (H.push { cls := .type "dict", data := .dict #[] }).objs.size = C + 1 := by rw [Heap.size_push, hC]
  have cellLt : ∀ x c, cl.lookup x = some c → c < s.heap.objs.size ∨ True := fun _ _ _ => .inr trivial
  have lt2 : ∀ a, D ≤ a → s₂.heap.get? a = none := fun a ha => Heap.get?_none_of_le (hD ▸ ha)
  have ownNew : ∀ cenv : Env, cenv.locals = C → cenv.cells = cs → ∀ a, Own cenv sc' a → C ≤ a := fun cenv e1 e2 a ha => by
    rcases ha with rfl | ⟨x, hx, hc⟩
    · exact Nat.le_of_eq e1.symm
    · refine xEA (cellsFrom_cell sc'.names (C + 1) cl x (mem_of_lookupN hx)) fun c h1 h2 => ?_
      rw [e2, ← hcs, h1] at hc; cases hc
      exact Nat.le_of_succ_le h2
  -- the parent's cells stand at s
  generalize hce : ({ scope := relabel sc' env, locals := C, globals := env.globals, cells := cs, qual := env.qual, func := none, code := env.code, frame := env.frame, builtins := env.builtins } : Env) = cenv
  have cscope : cenv.scope = relabel sc' env := by rw [← hce]
  have clocals : cenv.locals = C := by rw [← hce]
  have ccells : cenv.cells = cs := by rw [← hce]
  have ckind : ∀ x, cenv.kindOf x = (sc'.names.lookup x).map fun kd => if (kd == NameKind.free && env.scope.kind == .function && env.kindOf x == some .cell) = true then NameKind.cell else kd := fun x => by
    unfold Env.kindOf; rw [cscope]; exact relabel_lookup x
  have freeLook : ∀ x, sc'.names.lookup x = some .free → cs.lookup x = cl.lookup x := fun x hx => by
    rw [← hcs]
    refine cellsFrom_other _ _ _ _ fun q => ?_
    rw [nodup_lookup hnod q] at hx; cases hx
  have cellsC : ∀ x c, cs.lookup x = some c → cl.lookup x = some c ∨ h₄.IsCell c none := fun x c hx => by
    have := pushCells_cell sc'.names (H.push { cls := .type "dict", data := .dict #[] }) cl x c (by rw [hHs, hcs]; exact hx)
    rw [hh₄] at this; exact this
  have clAlive : ∀ x c, cl.lookup x = some c → ∃ o, s.heap.get? c = some o := fun x c hx => hs.cells x c (hcl1 x c hx)
  have clLt : ∀ x c, cl.lookup x = some c → c < C + 1 := fun x c hx => by
    refine xE (clAlive x c hx) fun o e => ?_
    have := Heap.lt_size (x₂.keep _ _ e)
    rw [hD] at this; rw [hCsz]; exact Nat.lt_succ_of_lt (Nat.lt_succ_of_lt this)
  have heC : EnvOk sc' cenv := {
    kind := by rw [cscope]; exact hsc1
    loc := fun x hx => by rw [ckind, hx]; rfl
    cell := fun x hx => by rw [ckind, hx]; rfl
    free := fun x hx => by
      rw [ckind, hx]
      simp only [Option.map_some]
      split
      · exact .inr rfl
      · exact .inl rfl
    glob := fun x hx => by rw [ckind, hx]; rfl
    gl := by rw [← hce]; exact he.gl
    bl := by rw [← hce]; exact he.bl
    has := fun x hx => by
      rw [ccells]
      rcases hx with hx | hx
      · refine xEA (cellsFrom_cell sc'.names (C + 1) cl x (mem_of_lookupN hx)) fun c h1 _ => ?_
        exact ⟨c, hcs ▸ h1⟩
      · refine xE (hcl2 x (mem_of_lookupN hx)) fun c h1 => ?_
        exact ⟨c, by rw [freeLook x hx]; exact h1⟩
    inj := by
      rw [ccells, ← hcs]
      exact cellsFrom_inj _ _ _ clLt fun x y c hx hy => he.inj x y c (hcl1 x c hx) (hcl1 y c hy) }
  have k4s : ∀ b o, s.heap.get? b = some o → h₄.get? b = some o := fun b o e => k2 b o (x₂.keep b o e)
  have hsC : SR w R' h₄ cenv (capt sc sc' σ) := ⟨fun x c hx => by
      rw [ccells] at hx
      rcases cellsC x c hx with q | q
      · obtain ⟨o, e⟩ := clAlive x c q; exact ⟨o, k4s _ _ e⟩
      · obtain ⟨o, e, _⟩ := q; exact ⟨o, e⟩, fun x d hx => by
      refine xAA (capt_lookup hx) fun h1 h2 h3 => ?_
      refine xEA (hs'.get x d h1) fun v b p => ?_
      refine ⟨v, ?_, p.mv (.keep k4s)⟩
      have hk : env.kindOf x = some .cell ∨ env.kindOf x = some .free := by
        rcases h3 with h3 | h3
        · exact .inl (he.cell x h3)
        · exact (he.free x h3).symm
      cases b with
      | loc a _ => rcases hk with q | q <;> rw [q] at a <;> cases a
      | cell _ b =>
        refine xEA (b) fun c hc hv => ?_
        try clear b
        refine xE (hcl2 x (mem_of_lookupN h2)) fun c' hc' => ?_
        obtain rfl : c' = c := by have := hcl1 x c' hc'; rw [hc] at this; exact (Option.some.inj this).symm
        exact .cell ((heC.free x h2).symm) ⟨c', by rw [ccells, freeLook x h2]; exact hc', hv.keeps k4s⟩⟩
  have hfC : FrOk h₄ cenv sc' := ⟨⟨_, clocals ▸ hns₄⟩, fun x hx => by
    refine xEA (cellsFrom_cell sc'.names (C + 1) cl x (mem_of_lookupN hx)) fun c h1 h2 => ?_
    rw [hcs] at h1
    refine ⟨c, none, by rw [ccells]; exact h1, ?_⟩
    rcases cellsC x c h1 with q | q
    · exact absurd (clLt x c q) (Nat.not_lt.mpr h2)
    · exact q⟩
  have ownC := ownNew cenv clocals ccells
  have old : ∀ a, (s₂.heap.get? a).isSome = true → ¬ (Own cenv sc' a ∨ a = D) := fun a ha q => by
    have hle : D ≤ a := by
      rcases q with q | q
      · have h := ownC a q; rw [hCsz] at h; exact Nat.le_of_succ_le h
      · exact Nat.le_of_eq q.symm
    rw [lt2 a hle] at ha; cases ha
  have oldS : ∀ a, (s.heap.get? a).isSome = true → (s₂.heap.get? a).isSome = true := fun a ha => by
    refine xE (Option.isSome_iff_exists.mp ha) fun o e => ?_
    rw [x₂.keep _ _ e]; rfl
  have s0new : ∀ a, Own cenv sc' a ∨ a = D → s.heap.get? a = none := fun a q => by
    cases e : s.heap.get? a with
    | none => rfl
    | some o => exact absurd q (old a (oldS a (by rw [e]; rfl)))
  have key : codeAny (model prog w) A (.compLoop (.ListComp elt (⟨target, iter, ifs, 0⟩ :: rest) sc' pos) 0 (.ref I) (.ref D) cenv)
      (compPost (model prog w) A E use Q (.ref D) cenv.locals) { s₂ with heap := h₄ } := by
    refine comp_loop (R := R') (T := T) (Rd := Rd) (fp := fp) (wr := wr) (base := s.heap) rfl hall hset hr heC hg k4s (fun a q => ?_) hfC hsC (fun a ha q => ?_) (fun a ha => old a (hfp a ha).2)
      (fun a ha => old a (hwr a ha).2) (fun q => ?_) hl₄ hT hlen (by simpa using hsz) W (W.frame _ _ _ hst fun b o _ e => k2 b o e) hturn fun s₃ sm₃ kp₃ hf₃ bd₃ ⟨us, n', hl₃, hus⟩ => ?_
    · rcases q with q | q | q
      · exact s0new a (.inl q)
      · exact s0new a (.inr q)
      · exact (hwr a q).1
    · rcases ha with ha | ha
      · rcases q with q | q | q
        · exact old a (oldS a ha.2) (.inl q)
        · exact old a (oldS a ha.2) (.inr q)
        · have h2 := ha.2; rw [(hwr a q).1] at h2; cases h2
      · rcases q with q | q | q
        · exact old a (hRd a ha).2.1 (.inl q)
        · exact old a (hRd a ha).2.1 (.inr q)
        · exact (hRd a ha).2.2 q
    · exact absurd (ownC D q) (by rw [hCsz]; exact Nat.not_succ_le_self D)
    · have ex : Ex s s₃ := ⟨x₂.sm.trans ((Same.mk _ _).trans sm₃), fun b o e => kp₃ b o (fun q => by
        rcases q with q | q | q
        · rw [s0new b (.inl q)] at e; cases e
        · rw [s0new b (.inr q)] at e; cases e
        · rw [(hwr b q).1] at e; cases e) (k4s b o e)⟩
      rw [clocals]
      refine hfin s₃ D C us n' ex (s0new C (.inl (.inl clocals.symm))) (s0new D (.inr rfl)) (by rw [hCsz]; exact Nat.ne_of_lt (Nat.lt_succ_self D)) (clocals ▸ hf₃.ns) (by simpa using hl₃) (hus.mv (.sub fun a ha => ?_))
      have nCD : (Nw R s a ∧ (s₂.heap.get? a).isSome = true) ∨ h₄.get? a = none → Nw R s a ∧ a ≠ C ∧ a ≠ D := fun q => by
        rcases q with ⟨q1, q2⟩ | q
        · exact ⟨q1, fun e => old a q2 (.inl (.inl (e.trans clocals.symm))), fun e => old a q2 (.inr e)⟩
        · refine ⟨.inr (fresh_back k4s q), fun e => ?_, fun e => ?_⟩
          · obtain ⟨o, _, _, e', _⟩ := hns₄; rw [← e, q] at e'; cases e'
          · rw [← e, q] at hl₄; cases hl₄
      rcases ha with ha | ha | ha
      · exact nCD (.inl ⟨.inl ha.1, oldS a ha.2⟩)
      · exact nCD (.inl ⟨(hRd a ha).1.imp (·.1) id, (hRd a ha).2.1⟩)
      · exact nCD (.inr ha)
  have key' : codeAny (model prog w) A (.compStart (.ListComp elt (⟨target, iter, ifs, 0⟩ :: rest) sc' pos) 0 (.ref I) (.ref D) cenv)
      (compPost (model prog w) A E use Q (.ref D) cenv.locals) { s₂ with heap := h₄ } :=
    codeAny_compStart_gen rfl key fun E' => W.self 0 _ _ _ (W.frame _ _ _ hst fun b o _ e => k2 b o e) key
  rw [clocals] at key'
  exact key'
end
end Mine

open PySem PySem.W PyProof.Rows
namespace Mine

section
variable (prog : Program) (w : World) (Γ : GEnv)
noncomputable def RpRoot (R : Addr → Prop) (h : Heap) (a : Addr) (d : PyData) : Prop :=
  (∃ vs n xs, d = .list xs ∧ h.get? a = some (LObj vs n) ∧ RpAll w R h vs.toList xs) ∨
  (∃ es n ks xs, d = .dict ((ks.map HK.py).zip xs) ∧ h.get? a = some (DObj es n) ∧ Ents w R h ks es.toList ∧ (ks.Nodup ∧ a ≠ sysModules) ∧ RpAll w R h (es.toList.map (·.val)) xs)

/-- the value is made anew -/
noncomputable def OutF (R : Addr → Prop) (s : Shared) (d : PyData) : Value → Shared → Prop := fun v s' => Ex s s' ∧ ∃ a, v = .ref a ∧ s.heap.get? a = none ∧ RpRoot w (fun b => Nw R s b ∧ b ≠ a) s'.heap a d
noncomputable def EvF (sc : Scope) (k : Nat) (σ : Sg) (e : Expr) (d : PyData) : Prop :=
  ∀ (A : Around) (E : Value → Shared → Prop) (env : Env) (R : Addr → Prop) (s : Shared), Room k A → EnvOk sc env → Γ.In s.heap → SR w R s.heap env σ →
    wpAny (model prog w) A (eval e env) (OutF w R s d) E s
end

section
variable {prog : Program} {w : World} {Γ : GEnv} {sc : Scope} {k : Nat} {σ : Sg}

theorem RpRoot.rp {R R' : Addr → Prop} {h : Heap} {a : Addr} {d : PyData} (m : ∀ b, R b → R' b) (ha : R' a) (x : RpRoot w R h a d) : Rp w R' h (.ref a) d := by
  rcases x with ⟨vs, n, xs, rfl, e, l⟩ | ⟨es, n, ks, xs, rfl, e, k, nd, l⟩
  · exact .list ha e (l.mv (.sub m))
  · exact .dict ha e (k.mv (.sub m)) nd (l.mv (.sub m))
theorem RpRoot.mv {R R' : Addr → Prop} {h h' : Heap} {a : Addr} {d : PyData} (m : Mv R R' h h') (ha : ∀ o, h.get? a = some o → h'.get? a = some o) (x : RpRoot w R h a d) : RpRoot w R' h' a d := by
  rcases x with ⟨vs, n, xs, e0, e, l⟩ | ⟨es, n, ks, xs, e0, e, k, nd, l⟩
  · exact .inl ⟨vs, n, xs, e0, ha _ e, l.mv m⟩
  · exact .inr ⟨es, n, ks, xs, e0, ha _ e, k.mv m, nd, l.mv m⟩
theorem RpRoot.alive {R : Addr → Prop} {h : Heap} {a : Addr} {d : PyData} (x : RpRoot w R h a d) : ∃ o, h.get? a = some o := by
  rcases x with ⟨vs, n, xs, e0, e, l⟩ | ⟨es, n, ks, xs, e0, e, k, nd, l⟩
  · exact ⟨_, e⟩
  · exact ⟨_, e⟩

theorem OutF.out {R s d v s'} (h : OutF w R s d v s') : Out w R s d v s' := by
  refine xAEAA (h) fun x a zE1 ha r => ?_
  try clear h
  subst zE1
  exact ⟨x, r.rp (fun b h => h.1) (.inr ha)⟩
theorem EvF.ev {e d} (h : EvF prog w Γ sc k σ e d) : Ev prog w Γ sc k σ e d := fun A E env R s hr he hg hs => wpAny_mono (h A E env R s hr he hg hs) (fun _ _ q => q.out) fun _ _ e => e

theorem EvF.comp {elt : Expr} {rest : List Comprehension} {sc' : Scope} {pos : Pos} {target iter : Expr} {ifs : List Expr} {T : Expr → Prop} {ds : List PyData} {yss : List (List PyData)}
    (hsc : scOk sc sc' = true) (hall : ∀ g ∈ (⟨target, iter, ifs, 0⟩ :: rest : List Comprehension), g.is_async = 0) (hset : ∀ g ∈ (⟨target, iter, ifs, 0⟩ :: rest : List Comprehension), ∀ env x, foldedSetIterable g.iter env x = pure x)
    (hit : It prog w Γ sc k σ iter T ds) (hT : T target) (hlen : yss.length = ds.length) (hsz : yss.flatten.length ≤ sizeLine)
    (hturn : ∀ (i : Nat) (d : PyData) (ys : List PyData), ds[i]? = some d → yss[i]? = some ys → TurnOk prog w Γ elt (⟨target, iter, ifs, 0⟩ :: rest) sc' pos 0 k (capt sc sc' σ) target ifs d ys) :
    EvF prog w Γ sc k σ (.ListComp elt (⟨target, iter, ifs, 0⟩ :: rest) sc' pos) (.list yss.flatten) := fun A E env R s hr he hg hs => by
  rw [eval_ListComp]
  refine comp_core (use := none) hsc hall hset hit hT hlen hsz hturn hr he hg hs fun s' D C us n' ex hC hD hDC hns hl hus => ?_
  refine xE (hns) fun m hm => ?_
  try clear hns
  refine ⟨m, hm, fun h' hs' => ?_⟩
  have k' : ∀ b o, b ≠ C → s'.heap.get? b = some o → h'.get? b = some o := fun b o hb e => (hs'.2 b hb).trans e
  exact ⟨⟨ex.sm.trans (.mk _ _), fun b o e => k' b o (fun q => by rw [q, hC] at e; cases e) (ex.keep b o e)⟩, D, rfl, hD, .inl ⟨us, n', _, rfl, k' _ _ hDC hl, hus.mv fun a o ha e => ⟨⟨ha.1, ha.2.2⟩, k' a o ha.2.1 e⟩⟩⟩

theorem posComp (a : Expr) (g : List Comprehension) (s : Scope) (p : Pos) : (Expr.ListComp a g s p).pos = p := rfl
theorem posName (x : Str) (p : Pos) : (Expr.Name x p).pos = p := rfl
theorem letGo_plain {A : Around} {E : Value → Shared → Prop} {s : Shared} {I : Addr} {o : Obj} {n : String} {target : Expr} {v : Value} {Q : Unit → Shared → Prop} (ho : s.heap.get? I = some o) (hc : o.cls = .type n)
    (hn : (["enumerate", "zip", "dict_itemiterator", "dict_reverseitemiterator", "odict_iterator", "itertools.zip_longest", "itertools.pairwise"] : List String).contains n = false) (h : Q () s) :
    wpAny (model prog w) A (letOwnedTupleGo target (.ref I) v) Q E s := by
  have key : ∀ (es : List Expr) (p q : Pos), wpAny (model prog w) A (letOwnedTupleGo (.List es p) (.ref I) v) Q E s := fun es p _ => by
    cases v with
    | ref a =>
      refine wpAny_bind (wpAny_load ho ?_)
      obtain ⟨cls, dict, data, _⟩ := o
      cases hc
      cases data with
      | fields vs =>
        show wpAny _ _ (if (_ && _) then _ else _) _ _ _
        rw [hn, Bool.false_and]
        exact wpAny_pure h
      | _ => exact wpAny_pure h
    | _ => exact wpAny_pure h
  cases target with
  | Tuple es n p => exact key es p p
  | List es p => exact key es p p
  | _ => exact wpAny_pure h

theorem not_live_ne {h : Heap} {a b : Addr} {P : Prop} (ha : h.get? a = none) (hb : (h.get? b).isSome = true) : b ≠ a := fun e => by rw [e, ha] at hb; cases hb

theorem Wk.list {A : Around} (hh : A.handled = none) {I l : Addr} {vs : Array Value} {n : Nat} {ds : List PyData} {Rd : Addr → Prop} (hl : l ≠ I) (hRd : ¬ Rd I) :
    Wk prog w A I (fun _ => True) (fun b => b = I ∨ b = l ∨ Rd b) (fun b => b = I) Rd ds (fun i h => h.IsListIter I l i ∧ h.get? l = some (LObj vs n) ∧ RpAll w Rd h vs.toList ds) where
  frame := fun i h h' st k => by
    refine xAA (st) fun zE2 e2 p => ?_
    try clear st
    refine xEA (zE2) fun o e r => ?_
    try clear zE2
    exact ⟨⟨o, k _ _ (.inl rfl) e, r⟩, k _ _ (.inr (.inl rfl)) e2, p.mv fun a o ha e => ⟨ha, k a o (.inr (.inr ha)) e⟩⟩
  alive := fun i h st a ha => by
    refine xA (st) fun zE3 _ => ?_
    try clear st
    refine xEAA (zE3) fun o e _ hd => ?_
    try clear zE3
    subst ha
    exact ⟨o, _, e, hd⟩
  item := fun i d s Q E hd st hQ => by
    refine xAA (st) fun hit e p => ?_
    try clear st
    refine xEA (p.get hd) fun v hv pv => ?_
    refine wpAny_pyNext_list_item hit ⟨_, e, rfl, _, rfl⟩ (x := v) (by simpa using hv) fun h' hit' hs' => ?_
    refine hQ v h' s.toks fun target Q' E' _ hQ' => ?_
    have kp : Kp (fun b => b = I) s.heap h' := fun b o hb e => (hs'.2 b hb).trans e
    refine xEAA (id hit') fun o e' hc hd' => ?_
    have mv : Mv Rd Rd s.heap h' := .kp kp fun a ha q => hRd (q ▸ ha)
    exact letGo_plain e' hc (by decide) (hQ' h' kp ((pv.mv mv).mv (.sub fun a => .inl)) ⟨hit', kp _ _ hl e, p.mv mv⟩)
  done := fun s Q E st hQ => by
    refine xAA (st) fun hit e p => ?_
    try clear st
    refine wpAny_pyNext_list_end hh hit ⟨_, e, rfl, _, rfl⟩ (by rw [← p.length]; simp) fun h' he' => hQ h' s.toks fun b o hb e => he' b o hb e
  self := fun i s Q E st hQ => wpAny_pyIter_listiter st.1 hQ

theorem Wk.range {A : Around} (hh : A.handled = none) {I : Addr} (a : Int) (n : Nat) :
    Wk prog w A I (fun _ => True) (fun b => b = I) (fun b => b = I) (fun _ => False) ((List.range n).map fun i => .int (a + (i : Nat))) (fun i h => IsRangeIter h I (a + (i : Nat)) ((n : Int) - (i : Nat)) 1) where
  frame := fun i h h' st k => k _ _ rfl st
  alive := fun i h st a ha => ⟨_, _, ha ▸ st, rfl⟩
  item := fun i d s Q E hd st hQ => by
    have hi : i < n := by
      rcases Nat.lt_or_ge i n with h | h
      · exact h
      · rw [List.getElem?_eq_none (by simpa using h)] at hd; cases hd
    have hd' : d = .int (a + (i : Nat)) := by simpa [hi] using hd.symm
    subst hd'
    refine wpAny_pyNext_range_item st (by omega) fun h' hit' hs' => ?_
    refine hQ _ h' _ fun target Q' E' _ hQ' => ?_
    have kp : Kp (fun b => b = I) s.heap h' := fun b o hb e => (hs'.2 b hb).trans e
    refine letGo_plain hit' rfl (by decide) (hQ' h' kp (.int _ _) ?_)
    have e1 : a + ((i + 1 : Nat) : Int) = a + (i : Int) + 1 := by push_cast; omega
    have e2 : (n : Int) - ((i + 1 : Nat) : Int) = (n : Int) - (i : Int) - 1 := by push_cast; omega
    rw [e1, e2]; exact hit'
  done := fun s Q E st hQ => by
    simp only [List.length_map, List.length_range] at st
    exact wpAny_pyNext_range_end hh st (by omega) fun h' he' => hQ h' s.toks fun b o hb e => he' b o hb e
  self := fun i s Q E st hQ => wpAny_pyIter_rangeiter st hQ

theorem It.list {e ds} (h : Ev prog w Γ sc k σ e (.list ds)) : It prog w Γ sc k σ e (fun _ => True) ds := fun A E env R s hr he hg hs => by
  refine wpAny_mono (h A E env R s hr he hg hs) (fun v s₁ ⟨x₁, p⟩ => ?_) fun _ _ e => e
  cases p.live with
  | @list a vs n _ hR e l =>
    refine wpAny_pyIter_list ⟨_, e, rfl, _, rfl⟩ ?_
    have fz := fresh_size s₁.heap
    have kk : ∀ b o, s₁.heap.get? b = some o → (s₁.heap.push { cls := .type "list_iterator", data := .fields #[.ref a, .int 0 0] }).get? b = some o := fun b o e => Heap.get?_push_of_some _ e
    refine ⟨x₁.trans (.push _ _), s₁.heap.objs.size, _, _, _, _, rfl, Wk.list hr.hh (l := a) (vs := vs) (n := n) (Rd := fun b => Nw R s b ∧ (s₁.heap.get? b).isSome = true) (not_live_ne (P := True) fz hR.2) (fun q => by rw [fz] at q; cases q.2),
      ⟨⟨_, Heap.get?_push_size _ rfl, rfl, rfl⟩, kk _ _ e, l.mv (.keep kk)⟩, ?_, ?_, ?_⟩
    · rintro b rfl
      exact ⟨fresh_back x₁.keep fz, by rw [show (s₁.heap.push _).get? s₁.heap.objs.size = _ from Heap.get?_push_size _ rfl]; rfl⟩
    · intro b hb
      rcases hb with rfl | rfl | hb
      · exact ⟨.inr (fresh_back x₁.keep fz), by rw [show (s₁.heap.push _).get? s₁.heap.objs.size = _ from Heap.get?_push_size _ rfl]; rfl⟩
      · exact ⟨hR.1, by rw [kk _ _ e]; rfl⟩
      · refine xE (Option.isSome_iff_exists.mp hb.2) fun o eo => ?_
        exact ⟨hb.1, by rw [kk _ _ eo]; rfl⟩
    · intro b hb
      refine xE (Option.isSome_iff_exists.mp hb.2) fun o eo => ?_
      exact ⟨hb.1, by rw [kk _ _ eo]; rfl, fun q => by rw [q, fz] at eo; cases eo⟩

/-- how a callee is called -/
inductive Callee (Γ : GEnv) : Value → Prop
  | type (T : String) : Callee Γ (.type T)
  | builtin (id : String) : Callee Γ (.builtin id)
  | fn {f fd} : (f, fd) ∈ Γ.fns → Callee Γ (.ref f)

theorem noStar : ∀ (es : List Expr) (env : Env) (pos : Pos), (∀ e ∈ es, isStarred e = false) → (backTo pos (starEach es env)).any (·.1) = false
  | [], _, _, _ => rfl
  | e :: r, env, pos, h => by
    have h1 := h e (.head _)
    have ih := noStar r env pos fun e he => h e (.tail _ he)
    cases e <;> first | (simp [isStarred] at h1; done) | (show (false || _) = false; rw [Bool.false_or]; exact ih)

theorem callG {x px e rest pos v ds} {A : Around} {E : Value → Shared → Prop} {env : Env} {R : Addr → Prop} {s : Shared} {Q : Value → Shared → Prop} (hr : Room k A) (he : EnvOk sc env) (hg : Γ.In s.heap) (hs : SR w R s.heap env σ)
    (hx : sc.names.lookup x = some .globalImplicit) (hv : Γ.names.lookup x = some v) (hd : (x == ("__debug__" : Str)) = false) (hc : Callee Γ v) (ha : Evs prog w Γ sc k σ (e :: rest) ds) (hst : ∀ a ∈ e :: rest, isStarred a = false)
    (h : ∀ vs s₁, Ex s s₁ → RpAll w (Nw R s) s₁.heap vs ds → wpAny (model prog w) A (call v vs) Q E s₁) :
    wpAny (model prog w) A (eval (.Call (.Name x px) (e :: rest) [] pos) env) Q E s := by
  refine Call_ (loadG he hg hx hv ?_ hd)
  have hse : starEach (e :: rest) env = (false, eval e env) :: starEach rest env := by
    have h1 := hst e (.head _)
    cases e <;> first | rfl | (simp [isStarred] at h1; done)
  have hpl := noStar (e :: rest) env pos hst
  have ha' := fun E => ha A E env R s pos hr he hg hs
  rw [hse] at ha' hpl ⊢
  have ev := fun (Q : Args → Shared → Prop) E (hq : ∀ vs s₁, Ex s s₁ → RpAll w (Nw R s) s₁.heap vs ds → Q ⟨vs, []⟩ s₁) =>
    Calls.evalArgs_plain (M := model prog w) (A := A) (E := E) (s := s) (f := v) (Q := Q) (wpAny_mono (ha' E) (fun vs s₁ q => hq vs s₁ q.1 q.2) fun _ _ e => e)
  cases hc with
  | type T => exact PyProof.Rows.callWith_type hpl (ev _ E fun vs s₁ x p => by simpa using h vs s₁ x p)
  | builtin id => exact Calls.callWith_builtin hpl (ev _ E fun vs s₁ x p => by simpa using h vs s₁ x p)
  | @fn f fd hf =>
    refine xA (hg.fns _ hf) fun zE6 _ => ?_
    refine xEA (zE6) fun o e1 e2 => ?_
    try clear zE6
    exact Calls.callWith_function (o := o) (fd := fd) (ev _ E fun vs s₁ x p => ⟨⟨x.keep _ _ e1, e2⟩, by simpa using h vs s₁ x p⟩)

theorem Ev.call {x px e rest pos v ds d} (hx : sc.names.lookup x = some .globalImplicit) (hv : Γ.names.lookup x = some v) (hc : Callee Γ v) (ha : Evs prog w Γ sc k σ (e :: rest) ds) (h : CallOk prog w Γ k v ds d)
    (hst : ∀ a ∈ e :: rest, isStarred a = false := by simp [isStarred]) (hd : (x == ("__debug__" : Str)) = false := by decide) :
    Ev prog w Γ sc k σ (.Call (.Name x px) (e :: rest) [] pos) d := fun A E env R s hr he hg hs =>
  callG hr he hg hs hx hv hd hc ha hst fun vs s₁ x₁ p => wpAny_mono (h A E (Nw R s) s₁ vs hr (hg.keep x₁.keep) p) (fun v s' ⟨x, p⟩ => ⟨x₁.trans x, p.mv (.sub fun a q => q.elim id fun q => .inr (fresh_back x₁.keep q))⟩) fun _ _ e => e

end
end Mine

open PySem PySem.W PyProof.Rows
namespace Mine
open PySem.Spec

section
variable {prog : Program} {w : World} {Γ : GEnv} {sc : Scope} {k : Nat} {σ : Sg}

theorem pylong_small {x y : Int} (h : y.natAbs < 1073741824) : Builtin.divisionGoesByPylong x y = false := PyProof.noPylong_small h

-- ints
theorem BinOk.add {a b : Int} : BinOk prog w k .Add (.int a) (.int b) (.int (a + b)) := fun A E R s v1 v2 hr p1 p2 => by
  induction p1 using Rp.elimInt
  induction p2 using Rp.elimInt
  exact PySem.P.add_int (Out.int (.tok _))
theorem BinOk.sub {a b : Int} : BinOk prog w k .Sub (.int a) (.int b) (.int (a - b)) := fun A E R s v1 v2 hr p1 p2 => by
  induction p1 using Rp.elimInt
  induction p2 using Rp.elimInt
  exact PySem.P.sub_int (Out.int (.tok _))
theorem BinOk.mul {a b : Int} (h : IntMulOk a b) : BinOk prog w k .Mult (.int a) (.int b) (.int (a * b)) := fun A E R s v1 v2 hr p1 p2 => by
  induction p1 using Rp.elimInt
  induction p2 using Rp.elimInt
  exact PySem.P.mul_int (hm := h) (Out.int (.tok _))
theorem BinOk.mod {a b : Int} (h : b ≠ 0) : BinOk prog w k .Mod (.int a) (.int b) (.int (a.fmod b)) := fun A E R s v1 v2 hr p1 p2 => by
  induction p1 using Rp.elimInt
  induction p2 using Rp.elimInt
  exact PyProof.Rows.mod_int h (Out.int (.tok _))
theorem BinOk.fdiv {a b : Int} (h : b ≠ 0) (hb : b.natAbs < 1073741824) : BinOk prog w k .FloorDiv (.int a) (.int b) (.int (a.fdiv b)) := fun A E R s v1 v2 hr p1 p2 => by
  induction p1 using Rp.elimInt
  induction p2 using Rp.elimInt
  exact PySem.AutoIntOps.floordiv_1 (by simpa using h) (by rw [pylong_small hb]; decide) (Out.int (.tok _))
theorem BinOk.pow2 {n : Nat} (h : n < 1000) : BinOk prog w k .Pow (.int 2) (.int (n : Int)) (.int (2 ^ n)) := fun A E R s v1 v2 hr p1 p2 => by
  induction p1 using Rp.elimInt
  induction p2 using Rp.elimInt
  by_cases h0 : n = 0
  · subst h0
    exact PySem.AutoIntOps.pow_0 (by decide) (by decide) (Out.int (.tok _))
  · refine PySem.AutoIntOps.pow_4 (by omega) (by simp; omega) (by decide) (by decide) ?_ (Out.int (.tok _))
    have hb : Builtin.Int.intBits 2 = 2 := by decide +kernel
    rw [hb]
    unfold Builtin.Int.intTooBig
    simp only [decide_eq_true_eq]
    first | omega | (unfold bitsLine; omega)

-- lists
theorem Mv.nwPush {R : Addr → Prop} {s : Shared} {o : Obj} : Mv R (Nw R s) s.heap (s.heap.push o) := fun a ob ha e => ⟨.inl ha, Heap.get?_push_of_some _ e⟩
theorem BinOk.cat {xs ys : List PyData} (h : xs.length + ys.length ≤ sizeLine) : BinOk prog w k .Add (.list xs) (.list ys) (.list (xs ++ ys)) := fun A E R s v1 v2 hr p1 p2 => by
  cases p1 with
  | @list a vs n _ h1 e1 l1 => cases p2 with
    | @list b us m _ h2 e2 l2 =>
      refine PySem.P.add_list e1 e2 ?_ (by have := l1.length; have := l2.length; simp at *; omega)
      refine ⟨.push _ _, .list (.inr (fresh_size _)) (Heap.get?_push_size _ rfl) ?_⟩
      rw [Array.toList_append]
      exact (l1.append l2).mv Mv.nwPush

theorem foldl_replicate : ∀ (n : Nat) (xs : Array Value) (acc : Array Value), (List.foldl (fun x1 x2 => x1 ++ x2) acc (List.replicate n xs)).toList = acc.toList ++ (List.replicate n xs.toList).flatten
  | 0, xs, acc => by simp
  | n + 1, xs, acc => by
    rw [List.replicate_succ, List.foldl_cons, foldl_replicate n xs (acc ++ xs)]
    simp [List.replicate_succ]

theorem mul_L {A : Around} {E : Value → Shared → Prop} {s : Shared} {l : Addr} {items : Array Value} {k : Nat} {x : Int} {u : Tok} {Q : Value → Shared → Prop}
    (hl : s.heap.get? l = some (LObj items k)) (hlo : -(2 ^ 63 : Int) ≤ x) (hhi : x < 2 ^ 63) (hsz : items.size * x.toNat ≤ 2 ^ 24)
    (h : Q (.ref s.heap.objs.size) { s with heap := s.heap.push (LObj (List.foldl (fun x1 x2 => x1 ++ x2) #[] (List.replicate (if items.isEmpty = true then 0 else x.toNat) items)) 0) }) :
    wpAny (model prog w) A (binaryOp .Mult (.ref l) (.int x u)) Q E s :=
  wpAny_binaryOp_repeat_ref (T := "list") (U := "int") (by decide) ⟨_, hl, rfl⟩ (fun s' => typeIs_int s' x u) noFill_list_mul F.fills_int_mul F.slot_int_rmul repeat_list F.slot_int_index.lookup
    (call_meets F.slot_int_rmul (typeIs_int s x u) F.entry_int_rmul (F.args_int_rmul_2 _ _) (int___rmul___int_list x u l items k)
      ⟨hl, rfl, ⟨_, hl, rfl⟩, call_meets F.slot_list_mul ⟨_, hl, rfl⟩ F.entry_list_mul (F.args_list_mul_2 _ _)
        (AutoListH.list___mul___list_int_3 l items k x u (by simp [Builtin.List.listFitsIndex]; omega) (by omega) (by simp [Builtin.List.listTooLong, sizeLine]; omega))
        ⟨hl, h⟩⟩)

theorem BinOk.rep1 {x : PyData} {n : Nat} (h : n ≤ sizeLine) : BinOk prog w k .Mult (.list [x]) (.int (n : Int)) (.list (List.replicate n x)) := fun A E R s v1 v2 hr p1 p2 => by
  have hz : n ≤ 2 ^ 24 := by rw [sizeLine_eq] at h; omega
  cases p1 with
  | @list a vs m _ h1 e1 l1 =>
    induction p2 using Rp.elimInt
    obtain ⟨vl⟩ := vs
    cases l1 with
    | @cons v _ _ _ l1 l2 =>
      induction l2 using RpAll.elimNil
      refine mul_L e1 (by omega) (by omega) (by simp; omega) ?_
      refine ⟨.push _ _, .list (.inr (fresh_size _)) (Heap.get?_push_size _ rfl) ?_⟩
      rw [foldl_replicate]
      simp only [List.isEmpty_cons, List.isEmpty_toArray, Bool.false_eq_true, if_false, Int.toNat_natCast, Array.toList_empty, List.nil_append]
      have : ∀ n : Nat, RpAll w R s.heap (List.replicate n [v]).flatten (List.replicate n x) := fun n => by
        induction n with
        | zero => exact .nil
        | succ n ih => rw [List.replicate_succ, List.flatten_cons, List.replicate_succ]; exact .cons l1 ih
      exact (this n).mv Mv.nwPush

-- comparisons
theorem CmpOk.eq {a b : PyData} (ha : PySem.SeqAt.shaped a = true) (hb : PySem.SeqAt.shaped b = true) : CmpOk prog w k .Eq a b (PyData.eqv a b) := fun A E R s v1 v2 hr p1 p2 =>
  let ⟨_, r1⟩ := p1.reads; let ⟨_, r2⟩ := p2.reads; eq_dataH r1 r2 ha hb (by have := hr.u; omega) ⟨rfl, .refl _⟩
theorem CmpOk.ne {a b : PyData} (ha : PySem.SeqAt.shaped a = true) (hb : PySem.SeqAt.shaped b = true) : CmpOk prog w k .NotEq a b (!PyData.eqv a b) := fun A E R s v1 v2 hr p1 p2 =>
  let ⟨_, r1⟩ := p1.reads; let ⟨_, r2⟩ := p2.reads; ne_dataH r1 r2 ha hb (by have := hr.u; omega) ⟨rfl, .refl _⟩
theorem CmpOk.eqI {a b : Int} : CmpOk prog w k .Eq (.int a) (.int b) (a == b) := fun A E R s v1 v2 hr p1 p2 => by cases p1; cases p2; exact PySem.P.eq_int ⟨rfl, .refl _⟩
theorem CmpOk.neI {a b : Int} : CmpOk prog w k .NotEq (.int a) (.int b) (a != b) := fun A E R s v1 v2 hr p1 p2 => by cases p1; cases p2; exact PySem.P.ne_int ⟨rfl, .refl _⟩
theorem CmpOk.ltI {a b : Int} : CmpOk prog w k .Lt (.int a) (.int b) (decide (a < b)) := fun A E R s v1 v2 hr p1 p2 => by cases p1; cases p2; exact PySem.P.lt_int ⟨rfl, .refl _⟩
theorem CmpOk.gtI {a b : Int} : CmpOk prog w k .Gt (.int a) (.int b) (decide (a > b)) := fun A E R s v1 v2 hr p1 p2 => by cases p1; cases p2; exact PySem.P.gt_int ⟨rfl, .refl _⟩
theorem CmpOk.inL {x : PyData} {ys : List PyData} (hy : PyData.canLayAll0 ys = true) (hx : x.canLay0 = true) (hd : x.depth ≤ 64) : CmpOk prog w k .In x (.list ys) (ys.any fun y => PyData.eqv y x) := fun A E R s v1 v2 hr p1 p2 =>
  let ⟨_, r1⟩ := p1.reads; let ⟨_, r2⟩ := p2.reads; PySem.SeqAt.in_list_reads r2 r1 hy hx (by have := hr.u; have := Nat.min_le_right (PyData.depthAll ys) x.depth; omega) ⟨rfl, .refl _⟩
theorem CmpOk.notInL {x : PyData} {ys : List PyData} (hy : PyData.canLayAll0 ys = true) (hx : x.canLay0 = true) (hd : x.depth ≤ 64) : CmpOk prog w k .NotIn x (.list ys) (!ys.any fun y => PyData.eqv y x) := fun A E R s v1 v2 hr p1 p2 =>
  let ⟨_, r1⟩ := p1.reads; let ⟨_, r2⟩ := p2.reads; PySem.SeqAt.notIn_list_reads r2 r1 hy hx (by have := hr.u; have := Nat.min_le_right (PyData.depthAll ys) x.depth; omega) ⟨rfl, .refl _⟩
theorem truthy_list {xs : List PyData} (h : xs.length ≤ sizeLine) : TruthyOk prog w k (.list xs) (!xs.isEmpty) := fun A E R s v hr p => by
  cases p with
  | @list a vs n _ h1 e1 l1 =>
    have hl := l1.length
    refine wpAny_truthy_list ⟨_, e1, rfl, _, rfl⟩ (by rw [sizeLine_eq] at h; simp at hl; omega) ⟨?_, .tok _⟩
    cases xs with
    | nil => simp at hl; simp [hl]
    | cons => cases vs; rename_i l; cases l <;> simp_all

-- items
variable (prog w)
noncomputable def SubOk (k : Nat) (d i r : PyData) : Prop := ∀ (A : Around) (E : Value → Shared → Prop) (R : Addr → Prop) (s : Shared) o iv, Room k A → Rp w R s.heap o d → Rp w R s.heap iv i →
  (∃ T id, s.TypeIs o T ∧ typeLookup (.type T) "__getitem__" = pure (some (.builtin id))) ∧ wpAny (model prog w) A (getItem o iv) (Out w R s r) E s
variable {prog w}

theorem Out.up {R : Addr → Prop} {s s₂ : Shared} {d v s'} (x : Ex s s₂) (h : Out w (Nw R s) s₂ d v s') : Out w R s d v s' :=
  ⟨x.trans h.1, h.2.mv (.sub fun a q => q.elim id fun q => .inr (fresh_back x.keep q))⟩

theorem Ev.sub {value slice pos d i r} (h1 : Ev prog w Γ sc k σ value d) (h2 : Ev prog w Γ sc k σ slice i) (h : SubOk prog w k d i r)
    (hs : ∀ o iv, subscripted slice false o iv = operate [o, iv] (getItem o iv) := by intro _ _; with_unfolding_all rfl) :
    Ev prog w Γ sc k σ (.Subscript value slice pos) r := fun A E env R s hr he hg hsr => by
  refine Subscript_ (wpAny_mono (h1 A E env R s hr he hg hsr) (fun v1 s1 ⟨x1, p1⟩ => ?_) fun _ _ e => e)
  refine wpAny_mono (h2 A E env R s1 hr he (hg.keep x1.keep) (hsr.keep x1.keep)) (fun v2 s2 ⟨x2, p2⟩ => ?_) fun _ _ e => e
  refine xA (h A E (Nw R s) s2 v1 v2 hr (p1.keeps x2) (p2.back x1)) fun zE1 hw => ?_
  refine xEEA (zE1) fun T id hT hl => ?_
  try clear zE1
  exact tail_any hT hl (wpAny_mono hw (fun v s' q => Out.up (x1.trans x2) q) fun _ _ e => e) (hs _ _)

theorem SubOk.list {xs : List PyData} {i : Int} {d : PyData} (h0 : 0 ≤ i) (hi : i < 2 ^ 63) (h : xs[i.toNat]? = some d) : SubOk prog w k (.list xs) (.int i) d := fun A E R s o iv hr p1 p2 => by
  cases p1 with
  | @list a vs n _ h1 e1 l1 =>
    induction p2 using Rp.elimInt
    refine xEA (l1.get h) fun v hv pv => ?_
    exact ⟨⟨"list", "list.__getitem__", ⟨_, e1, rfl⟩, slot_list_getitem.lookup⟩, wpAny_getItem_list ⟨_, e1, rfl, _, rfl⟩ h0 hi (by simpa using hv) (Out.same pv)⟩
end
end Mine

open PySem PySem.W PyProof.Rows
namespace Mine

theorem Heap.Ns.fn {h : Heap} {a m m'} (x : h.Ns a m) (y : h.Ns a m') : m = m' := by
  refine xEEEAAA (x) fun o es ep e hd _ h1 => ?_
  try clear x
  refine xEEEAAA (y) fun o' es' ep' e' hd' _ h2 => ?_
  try clear y
  rw [e] at e'; cases e'; rw [hd] at hd'; cases hd'
  funext z; rw [← h1, ← h2]

theorem Bd.fn {h : Heap} {env x v v'} (a : Bd h env x v) (b : Bd h env x v') : v = v' := by
  cases a with
  | loc k1 p =>
    refine xEA (p) fun m hm hv => ?_
    try clear p
    cases b with
    | loc k2 q => obtain ⟨m', hm', hv'⟩ := q; rw [Heap.Ns.fn hm hm', hv'] at hv; exact (Option.some.inj hv).symm
    | cell k2 q => rcases k2 with k2 | k2 <;> rw [k1] at k2 <;> cases k2
  | cell k1 p =>
    refine xEAEA (p) fun c e1 o e2 e3 => ?_
    try clear p
    cases b with
    | loc k2 q => rcases k1 with k1 | k1 <;> rw [k2] at k1 <;> cases k1
    | cell k2 q =>
      refine xEAEA (q) fun c' f1 o' f2 f3 => ?_
      try clear q
      rw [e1] at f1; cases f1; rw [e2] at f2; cases f2; rw [e3] at f3; cases f3; rfl

/-- a change at lists and dicts that are no tables of names -/
theorem Bd.kpR {h h' : Heap} {env x v W} (b : Bd h env x v) (k : Kp W h h') (hL : ¬ W env.locals) (hW : ∀ a o c, W a → h.get? a = some o → o.data ≠ .cell c) : Bd h' env x v := by
  cases b with
  | loc a c => obtain ⟨m, ⟨o, es, ep, e, r⟩, d⟩ := c; exact .loc a ⟨m, ⟨o, es, ep, k _ _ hL e, r⟩, d⟩
  | cell a c => obtain ⟨c, e, o, e2, r⟩ := c; exact .cell a ⟨c, e, o, k _ _ (fun q => hW _ _ _ q e2 r) e2, r⟩

noncomputable def del (x : Str) (l : Sg) : Sg := l.filter fun p => !(p.1 == x)
theorem del_ne {x y : Str} {l : Sg} (h : y ≠ x) : (del x l).lookup y = l.lookup y := by
  induction l with
  | nil => rfl
  | cons p r ih =>
    obtain ⟨z, d⟩ := p
    unfold del at ih ⊢
    rw [List.filter_cons]
    by_cases hz : (z == x) = true
    · have : z = x := eq_of_beq hz
      subst this
      simp only [beq_self_eq_true, Bool.not_true, Bool.false_eq_true, if_false]
      rw [ih, List.lookup_cons, beq_eq_false_iff_ne.mpr h]
    · simp only [Bool.not_eq_true] at hz
      simp only [hz, Bool.not_false, if_true, List.lookup_cons]
      rw [ih]
theorem del_self {x : Str} {l : Sg} : (del x l).lookup x = none := by
  induction l with
  | nil => rfl
  | cons p r ih =>
    obtain ⟨z, d⟩ := p
    unfold del at ih ⊢
    rw [List.filter_cons]
    by_cases hz : (z == x) = true
    · simp only [hz, Bool.not_true, Bool.false_eq_true, if_false]; exact ih
    · simp only [Bool.not_eq_true] at hz
      simp only [hz, Bool.not_false, if_true, List.lookup_cons]
      have : (x == z) = false := by
        cases q : x == z with
        | false => rfl
        | true => rw [eq_of_beq q] at hz; simp at hz
      rw [this]; exact ih

noncomputable def Has (l : Sg) (x : Str) : Prop := ∃ d, l.lookup x = some d
theorem Has.del {x y : Str} {l : Sg} (h : Has (del x l) y) : y ≠ x ∧ Has l y := by
  obtain ⟨d, h⟩ := h
  have : y ≠ x := fun q => by rw [q, del_self] at h; cases h
  exact ⟨this, d, by rw [← del_ne this]; exact h⟩

/-- the lists and dicts that the frame may turn -/
noncomputable def Roots (env : Env) (ω : Sg) (h : Heap) (a : Addr) : Prop := ∃ x, Has ω x ∧ Bd h env x (.ref a)

structure STR (w : World) (base : Shared) (R0 : Addr → Prop) (env : Env) (sc : Scope) (R : Addr → Prop) (σ ω : Sg) (s : Shared) : Prop where
  same : Same base s
  keep : ∀ b o, base.heap.get? b = some o → s.heap.get? b = some o
  fr : FrOk s.heap env sc
  own0 : ∀ a, Own env sc a → base.heap.get? a = none
  reg : ∀ a, R a → (R0 a ∨ base.heap.get? a = none) ∧ ¬ Own env sc a
  sr : SR w R s.heap env σ
  ow : ∀ x d, ω.lookup x = some d → ∃ a, Bd s.heap env x (.ref a) ∧ ¬ R a ∧ ¬ Own env sc a ∧ base.heap.get? a = none ∧ RpRoot w R s.heap a d
  inj : ∀ x y a, Has ω x → Has ω y → Bd s.heap env x (.ref a) → Bd s.heap env y (.ref a) → x = y

noncomputable def ST (w : World) (base : Shared) (R0 : Addr → Prop) (env : Env) (sc : Scope) (σ ω : Sg) (s : Shared) : Prop := ∃ R, STR w base R0 env sc R σ ω s

/-- what lives lives on -/
noncomputable def Live (h h' : Heap) : Prop := ∀ a o, h.get? a = some o → ∃ o', h'.get? a = some o'
theorem Live.refl (h : Heap) : Live h h := fun a o e => ⟨o, e⟩
theorem Live.trans {h h' h'' : Heap} (x : Live h h') (y : Live h' h'') : Live h h'' := fun a o e => let ⟨o', e'⟩ := x a o e; y a o' e'
theorem Live.fresh {h h' : Heap} (x : Live h h') {a : Addr} (e : h'.get? a = none) : h.get? a = none := by
  cases q : h.get? a with
  | none => rfl
  | some o => obtain ⟨o', e'⟩ := x a o q; rw [e] at e'; cases e'
theorem Ex.live {s s' : Shared} (x : Ex s s') : Live s.heap s'.heap := fun a o e => ⟨o, x.keep _ _ e⟩

inductive Res where
  | next (σ ω : Sg)
  | ret (d : PyData)

noncomputable def Post (K : List Str) (w : World) (base : Shared) (R0 : Addr → Prop) (env : Env) (sc : Scope) (ω₀ : Sg) (s : Shared) : Res → Flow → Shared → Prop
  | .next σ ω, f, s' => f = .next ∧ ST w base R0 env sc σ ω s' ∧ Kp (fun a => Own env sc a ∨ Roots env ω₀ s.heap a) s.heap s'.heap ∧ Live s.heap s'.heap ∧ (∀ a, Roots env ω s'.heap a → Roots env ω₀ s.heap a ∨ s.heap.get? a = none) ∧ ∀ y ∈ K, ∀ u, Bd s.heap env y u → Bd s'.heap env y u
  | .ret d, f, s' => ∃ v, f = .ret v ∧ Ex base s' ∧ Rp w (Nw R0 base) s'.heap v d

section
variable (prog : Program) (w : World) (Γ : GEnv) (K : List Str)
noncomputable def Sx (sc : Scope) (k : Nat) (σ ω : Sg) (st : Stmt) (r : Res) : Prop :=
  ∀ (A : Around) (E : Value → Shared → Prop) (env : Env) (base : Shared) (R0 : Addr → Prop) (s : Shared), Room k A → EnvOk sc env → Γ.In base.heap → ST w base R0 env sc σ ω s →
    wpAny (model prog w) A (exec st env) (Post K w base R0 env sc ω s r) E s
noncomputable def Ss (sc : Scope) (k : Nat) (σ ω : Sg) (sts : List Stmt) (r : Res) : Prop :=
  ∀ (A : Around) (E : Value → Shared → Prop) (env : Env) (base : Shared) (R0 : Addr → Prop) (s : Shared), Room k A → EnvOk sc env → Γ.In base.heap → ST w base R0 env sc σ ω s →
    wpAny (model prog w) A (execs sts env) (Post K w base R0 env sc ω s r) E s
end

section
variable {prog : Program} {w : World} {Γ : GEnv} {K : List Str} {sc : Scope} {k : Nat} {σ ω : Sg} {base : Shared} {R0 R : Addr → Prop} {env : Env} {s : Shared}

theorem RpRoot.noCell {R h a d o c} (x : RpRoot w R h a d) (e : h.get? a = some o) : o.data ≠ .cell c := by
  rcases x with ⟨vs, n, xs, e0, e', l⟩ | ⟨es, n, ks, xs, e0, e', k, nd, l⟩
  · rw [e] at e'; cases e'; nofun
  · rw [e] at e'; cases e'; nofun

namespace STR
theorem rootAlive (t : STR w base R0 env sc R σ ω s) {a} (h : Roots env ω s.heap a) : (∃ o, s.heap.get? a = some o) ∧ ¬ R a ∧ ¬ Own env sc a ∧ base.heap.get? a = none ∧ ∀ o c, s.heap.get? a = some o → o.data ≠ .cell c := by
  refine xEA (h) fun x zE1 b => ?_
  try clear h
  refine xE (zE1) fun d hd => ?_
  try clear zE1
  refine xEAAAA (t.ow x d hd) fun a' b' h1 h2 h3 h4 => ?_
  have := b.fn b'; cases this
  exact ⟨h4.alive, h1, h2, h3, fun o c e => h4.noCell e⟩
theorem baseIn (t : STR w base R0 env sc R σ ω s) (g : Γ.In base.heap) : Γ.In s.heap := g.keep t.keep

/-- nothing of the frame's turned -/
theorem ex {s' : Shared} (t : STR w base R0 env sc R σ ω s) (x : Ex s s') : STR w base R0 env sc R σ ω s' where
  same := t.same.trans x.sm
  keep := fun b o e => x.keep _ _ (t.keep b o e)
  fr := t.fr.keep x.keep
  own0 := t.own0
  reg := t.reg
  sr := t.sr.keep x.keep
  ow := fun y d hy => let ⟨a, b, h1, h2, h3, h4⟩ := t.ow y d hy; ⟨a, b.keep x.keep, h1, h2, h3, h4.mv (.keep x.keep) fun o e => x.keep _ _ e⟩
  inj := fun y z a hy hz b1 b2 => by
    refine xE (hy) fun dy hy' => ?_
    try clear hy
    refine xE (hz) fun dz hz' => ?_
    try clear hz
    refine xEA (t.ow y dy hy') fun a1 c1 _ => ?_
    refine xEA (t.ow z dz hz') fun a2 c2 _ => ?_
    have e1 := b1.fn (c1.keep x.keep); cases e1
    have e2 := b2.fn (c2.keep x.keep); cases e2
    exact t.inj y z _ ⟨dy, hy'⟩ ⟨dz, hz'⟩ c1 c2

theorem roots_back {s' : Shared} (t : STR w base R0 env sc R σ ω s) (keepB : ∀ y u, Has ω y → Bd s.heap env y u → Bd s'.heap env y u) {a} (h : Roots env ω s'.heap a) : Roots env ω s.heap a := by
  refine xEA (h) fun x zE2 b => ?_
  try clear h
  refine xE (zE2) fun d hd => ?_
  try clear zE2
  refine xEA (t.ow x d hd) fun a' b' _ => ?_
  have := b.fn (keepB x _ ⟨d, hd⟩ b'); cases this
  exact ⟨x, ⟨d, hd⟩, b'⟩

theorem view (t : STR w base R0 env sc R σ ω s) : SR w (fun a => R a ∨ Roots env ω s.heap a) s.heap env (σ ++ ω) :=
  ⟨t.sr.cells, fun x d hx => by
    rw [lookup_append] at hx
    cases hσ : σ.lookup x with
    | some d' => rw [hσ] at hx; cases hx; obtain ⟨v, b, p⟩ := t.sr.get x _ hσ; exact ⟨v, b, p.mv (.sub fun a => .inl)⟩
    | none =>
      rw [hσ] at hx
      refine xEAAAA (t.ow x d hx) fun a b h1 h2 h3 h4 => ?_
      exact ⟨_, b, h4.rp (fun b => .inl) (.inr ⟨x, ⟨d, hx⟩, b⟩)⟩⟩
end STR

/-- a name is stored: what it holds is data, within N -/
theorem store_plainN {A : Around} {E : Value → Shared → Prop} {s₁ : Shared} {x : Str} {v : Value} {d : PyData} {Q : Unit → Shared → Prop} (N : Addr → Prop) (he : EnvOk sc env) (t : STR w base R0 env sc R σ ω s) (x₁ : Ex s s₁)
    (hN : ∀ a, N a → Nw R s a) (p : Rp w N s₁.heap v d) (hx : sc.names.lookup x = some .local ∨ sc.names.lookup x = some .cell)
    (h : ∀ s', STR w base R0 env sc (fun a => ((R a ∧ (s.heap.get? a).isSome = true) ∨ N a) ∧ ¬ Roots env ω s.heap a) ((x, d) :: σ) (del x ω) s' → Kp (Own env sc) s₁.heap s'.heap → Kp (fun a => Own env sc a ∨ Roots env ω s.heap a) s.heap s'.heap → Live s.heap s'.heap →
      (∀ a, Roots env (del x ω) s'.heap a → Roots env ω s.heap a) → (∀ y u, y ≠ x → Bd s.heap env y u → Bd s'.heap env y u) → Q () s') :
    wpAny (model prog w) A (storeName env x v) Q E s₁ := by
  have t₁ := t.ex x₁
  refine store he t₁.fr hx fun h' tk kp fr b r => ?_
  have lv : Live s₁.heap h' := fun a o e => by
    by_cases q : Own env sc a
    · exact fr.alive q
    · exact ⟨o, kp a o q e⟩
  have nR : ∀ a, Nw R s a → ¬ Own env sc a := fun a ha q => by
    rcases ha with ha | ha
    · exact (t.reg a ha).2 q
    · obtain ⟨o, e⟩ := t.fr.alive q; rw [ha] at e; cases e
  refine h _ ⟨t₁.same.trans (.mk _ _), fun a o e => kp a o (fun q => by rw [t.own0 a q] at e; cases e) (t₁.keep a o e), fr, t.own0, fun a ha => ⟨?_, ?_⟩,
    ⟨fun y c hy => ?_, fun y d' hy => ?_⟩, fun y d' hy => ?_, fun y z a hy hz b1 b2 => ?_⟩ kp (x₁.kp.trans (kp.mono fun a => .inl)) (x₁.live.trans lv) (fun a ha => ?_) fun y u hy b => r y u hy (b.keep x₁.keep)
  · rcases ha.1 with ha | ha
    · exact (t.reg a ha.1).1
    · rcases hN a ha with ha | ha
      · exact (t.reg a ha).1
      · exact .inr (fresh_back t.keep ha)
  · rcases ha.1 with ha | ha
    · exact (t.reg a ha.1).2
    · exact nR a (hN a ha)
  · refine xE (t₁.sr.cells y c hy) fun o e => ?_
    by_cases q : Own env sc c
    · exact fr.alive q
    · exact ⟨o, kp _ _ q e⟩
  · by_cases q : y = x
    · subst q
      rw [lookup_cons_self] at hy; cases hy
      refine ⟨v, b, p.mv fun a o ha e => ⟨⟨.inr ha, fun q => ?_⟩, kp a o (nR a (hN a ha)) e⟩⟩
      refine xAA (t.rootAlive q) fun zE3 hn _ => ?_
      refine xE (zE3) fun o' e' => ?_
      try clear zE3
      rcases hN a ha with ha | ha
      · exact hn ha
      · rw [ha] at e'; cases e'
    · rw [lookup_cons_ne q] at hy
      refine xEA (t.sr.get y d' hy) fun u bu pu => ?_
      exact ⟨u, r y u q (bu.keep x₁.keep), pu.mv fun a o ha e => ⟨⟨.inl ⟨ha, by rw [e]; rfl⟩, fun q => (t.rootAlive q).2.1 ha⟩, kp a o (t.reg a ha).2 (x₁.keep _ _ e)⟩⟩
  · have hne : y ≠ x := fun q => by rw [q, del_self] at hy; cases hy
    rw [del_ne hne] at hy
    refine xEAAAA (t.ow y d' hy) fun a ba h1 h2 h3 h4 => ?_
    refine ⟨a, r y _ hne (ba.keep x₁.keep), fun q => q.2 ⟨y, ⟨_, hy⟩, ba⟩, h2, h3, ?_⟩
    exact h4.mv (fun c o hc e => ⟨⟨.inl ⟨hc, by rw [e]; rfl⟩, fun q => (t.rootAlive q).2.1 hc⟩, kp c o (t.reg c hc).2 (x₁.keep _ _ e)⟩) fun o e => kp a o h2 (x₁.keep _ _ e)
  · refine xAE (hy.del) fun n1 dy hy' => ?_
    refine xAE (hz.del) fun n2 dz hz' => ?_
    refine xEA (t₁.ow y dy hy') fun a1 c1 _ => ?_
    refine xEA (t₁.ow z dz hz') fun a2 c2 _ => ?_
    have e1 := b1.fn (r y _ n1 c1); cases e1
    have e2 := b2.fn (r z _ n2 c2); cases e2
    exact t₁.inj y z _ ⟨dy, hy'⟩ ⟨dz, hz'⟩ c1 c2
  · refine xEA (ha) fun y hy by' => ?_
    try clear ha
    refine xAE (hy.del) fun n1 dy hy' => ?_
    refine xEA (t.ow y dy hy') fun a1 c1 _ => ?_
    have e1 := by'.fn (r y _ n1 (c1.keep x₁.keep)); cases e1
    exact ⟨y, ⟨dy, hy'⟩, c1⟩

theorem store_plain {A : Around} {E : Value → Shared → Prop} {s₁ : Shared} {x : Str} {v : Value} {d : PyData} {Q : Unit → Shared → Prop} (he : EnvOk sc env) (t : STR w base R0 env sc R σ ω s) (x₁ : Ex s s₁) (p : Rp w (Nw R s) s₁.heap v d)
    (hx : sc.names.lookup x = some .local ∨ sc.names.lookup x = some .cell)
    (h : ∀ s', ST w base R0 env sc ((x, d) :: σ) (del x ω) s' → Kp (fun a => Own env sc a ∨ Roots env ω s.heap a) s.heap s'.heap → Live s.heap s'.heap → (∀ a, Roots env (del x ω) s'.heap a → Roots env ω s.heap a ∨ s.heap.get? a = none) → (∀ y u, y ≠ x → Bd s.heap env y u → Bd s'.heap env y u) → Q () s') :
    wpAny (model prog w) A (storeName env x v) Q E s₁ :=
  store_plainN (Nw R s) he t x₁ (fun _ => id) p hx fun s' t' _ k l r b => h s' ⟨_, t'⟩ k l (fun a ha => .inl (r a ha)) b

/-- a name is stored: what it holds was made anew, and may be turned -/
theorem store_ownN {A : Around} {E : Value → Shared → Prop} {s₁ : Shared} {x : Str} {f : Addr} {d : PyData} {Q : Unit → Shared → Prop} (N : Addr → Prop) (he : EnvOk sc env) (t : STR w base R0 env sc R σ ω s) (x₁ : Ex s s₁)
    (hN : ∀ a, N a → Nw R s a ∧ a ≠ f) (hf1 : ¬ Roots env ω s.heap f) (fOwn : ¬ Own env sc f) (fr0 : base.heap.get? f = none) (hf4 : ¬ (R f ∧ (s.heap.get? f).isSome = true)) (pr : RpRoot w N s₁.heap f d)
    (hx : sc.names.lookup x = some .local ∨ sc.names.lookup x = some .cell)
    (h : ∀ s', STR w base R0 env sc (fun a => ((R a ∧ (s.heap.get? a).isSome = true) ∨ N a) ∧ ¬ Roots env ω s.heap a ∧ a ≠ f) (del x σ) ((x, d) :: del x ω) s' → Kp (Own env sc) s₁.heap s'.heap → Kp (fun a => Own env sc a ∨ Roots env ω s.heap a) s.heap s'.heap → Live s.heap s'.heap →
      (∀ a, Roots env ((x, d) :: del x ω) s'.heap a → Roots env ω s.heap a ∨ a = f) → (∀ y u, y ≠ x → Bd s.heap env y u → Bd s'.heap env y u) → Q () s') :
    wpAny (model prog w) A (storeName env x (.ref f)) Q E s₁ := by
  have t₁ := t.ex x₁
  refine store he t₁.fr hx fun h' tk kp fr b r => ?_
  have lv : Live s₁.heap h' := fun a o e => by
    by_cases q : Own env sc a
    · exact fr.alive q
    · exact ⟨o, kp a o q e⟩
  have nR : ∀ a, Nw R s a → ¬ Own env sc a := fun a ha q => by
    rcases ha with ha | ha
    · exact (t.reg a ha).2 q
    · obtain ⟨o, e⟩ := t.fr.alive q; rw [ha] at e; cases e
  have nf : ∀ a, Roots env ω s.heap a → a ≠ f := fun a q e => hf1 (e ▸ q)
  have aliveNe : ∀ a, R a → (s.heap.get? a).isSome = true → a ≠ f := fun a hr ha e => hf4 (e ▸ ⟨hr, ha⟩)
  have cons_has : ∀ y, Has ((x, d) :: del x ω) y → y = x ∨ (y ≠ x ∧ Has ω y) := fun y hy => by
    by_cases q : y = x
    · exact .inl q
    · obtain ⟨d', hy⟩ := hy
      rw [lookup_cons_ne q] at hy
      exact .inr ⟨q, (Has.del ⟨d', hy⟩).2⟩
  refine h _ ⟨t₁.same.trans (.mk _ _), fun a o e => kp a o (fun q => by rw [t.own0 a q] at e; cases e) (t₁.keep a o e), fr, t.own0, fun a ha => ⟨?_, ?_⟩,
    ⟨fun y c hy => ?_, fun y d' hy => ?_⟩, fun y d' hy => ?_, fun y z a hy hz b1 b2 => ?_⟩ kp (x₁.kp.trans (kp.mono fun a => .inl)) (x₁.live.trans lv) (fun a ha => ?_) fun y u hy b => r y u hy (b.keep x₁.keep)
  · rcases ha.1 with ha | ha
    · exact (t.reg a ha.1).1
    · rcases (hN a ha).1 with ha | ha
      · exact (t.reg a ha).1
      · exact .inr (fresh_back t.keep ha)
  · rcases ha.1 with ha | ha
    · exact (t.reg a ha.1).2
    · exact nR a (hN a ha).1
  · refine xE (t₁.sr.cells y c hy) fun o e => ?_
    by_cases q : Own env sc c
    · exact fr.alive q
    · exact ⟨o, kp _ _ q e⟩
  · have hne : y ≠ x := fun q => by rw [q, del_self] at hy; cases hy
    rw [del_ne hne] at hy
    refine xEA (t.sr.get y d' hy) fun u bu pu => ?_
    exact ⟨u, r y u hne (bu.keep x₁.keep), pu.mv fun a o ha e => ⟨⟨.inl ⟨ha, by rw [e]; rfl⟩, fun q => (t.rootAlive q).2.1 ha, aliveNe a ha (by rw [e]; rfl)⟩, kp a o (t.reg a ha).2 (x₁.keep _ _ e)⟩⟩
  · by_cases q : y = x
    · subst q
      rw [lookup_cons_self] at hy; cases hy
      refine ⟨f, b, fun q => q.2.2 rfl, fOwn, fr0, pr.mv (fun a o ha e => ⟨⟨.inr ha, fun q => ?_, (hN a ha).2⟩, kp a o (nR a (hN a ha).1) e⟩) fun o e => kp f o fOwn e⟩
      refine xAA (t.rootAlive q) fun zE4 hn _ => ?_
      refine xE (zE4) fun o' e' => ?_
      try clear zE4
      rcases (hN a ha).1 with ha | ha
      · exact hn ha
      · rw [ha] at e'; cases e'
    · rw [lookup_cons_ne q, del_ne q] at hy
      refine xEAAAA (t.ow y d' hy) fun a ba h1 h2 h3 h4 => ?_
      refine ⟨a, r y _ q (ba.keep x₁.keep), fun q => q.2.1 ⟨y, ⟨_, hy⟩, ba⟩, h2, h3, ?_⟩
      exact h4.mv (fun c o hc e => ⟨⟨.inl ⟨hc, by rw [e]; rfl⟩, fun q => (t.rootAlive q).2.1 hc, aliveNe c hc (by rw [e]; rfl)⟩, kp c o (t.reg c hc).2 (x₁.keep _ _ e)⟩) fun o e => kp a o h2 (x₁.keep _ _ e)
  · have one : ∀ y, Has ((x, d) :: del x ω) y → Bd h' env y (.ref a) → (y = x ∧ a = f) ∨ (y ≠ x ∧ Has ω y ∧ Bd s.heap env y (.ref a) ∧ a ≠ f) := fun y hy by' => by
      rcases cons_has y hy with q | ⟨q, dy, hy'⟩
      · subst q; have := by'.fn b; cases this; exact .inl ⟨rfl, rfl⟩
      · refine xEA (t.ow y dy hy') fun a1 c1 _ => ?_
        have e1 := by'.fn (r y _ q (c1.keep x₁.keep)); cases e1
        exact .inr ⟨q, ⟨dy, hy'⟩, c1, nf _ ⟨y, ⟨dy, hy'⟩, c1⟩⟩
    rcases one y hy b1 with ⟨q1, q2⟩ | ⟨q1, q2, q3, q4⟩ <;> rcases one z hz b2 with ⟨p1, p2⟩ | ⟨p1, p2, p3, p4⟩
    · rw [q1, p1]
    · exact absurd q2 p4
    · exact absurd p2 q4
    · exact t.inj y z a q2 p2 q3 p3
  · refine xEA (ha) fun y hy by' => ?_
    try clear ha
    rcases cons_has y hy with q | ⟨q, dy, hy'⟩
    · subst q; have := by'.fn b; cases this; exact .inr rfl
    · refine xEA (t.ow y dy hy') fun a1 c1 _ => ?_
      have e1 := by'.fn (r y _ q (c1.keep x₁.keep)); cases e1
      exact .inl ⟨y, ⟨dy, hy'⟩, c1⟩

theorem store_own {A : Around} {E : Value → Shared → Prop} {s₁ : Shared} {x : Str} {v : Value} {d : PyData} {Q : Unit → Shared → Prop} (he : EnvOk sc env) (t : STR w base R0 env sc R σ ω s) (p : OutF w R s d v s₁)
    (hx : sc.names.lookup x = some .local ∨ sc.names.lookup x = some .cell)
    (h : ∀ s', ST w base R0 env sc (del x σ) ((x, d) :: del x ω) s' → Kp (fun a => Own env sc a ∨ Roots env ω s.heap a) s.heap s'.heap → Live s.heap s'.heap → (∀ a, Roots env ((x, d) :: del x ω) s'.heap a → Roots env ω s.heap a ∨ s.heap.get? a = none) → (∀ y u, y ≠ x → Bd s.heap env y u → Bd s'.heap env y u) → Q () s') :
    wpAny (model prog w) A (storeName env x v) Q E s₁ := by
  refine xAEAA (p) fun x₁ f zE5 hf pr => ?_
  try clear p
  subst zE5
  have ha : ¬ Own env sc f := fun q => by obtain ⟨o, e⟩ := t.fr.alive q; rw [hf] at e; cases e
  exact store_ownN _ he t x₁ (fun _ => id) (fun q => by obtain ⟨⟨o, e⟩, _⟩ := t.rootAlive q; rw [hf] at e; cases e) ha (fresh_back t.keep hf) (fun q => by rw [hf] at q; cases q.2) pr hx fun s' t' _ k l r b => h s' ⟨_, t'⟩ k l (fun a ha => (r a ha).elim .inl fun e => .inr (by rw [e]; exact hf)) b

/-- an object that nothing asks for is turned -/
theorem STR.out {C : Addr} {h' : Heap} {tk : Nat} (t : STR w base R0 env sc R σ ω s) (k' : Kp (fun a => a = C) s.heap h') (hR : ¬ R C) (hO : ¬ Own env sc C) (hb : base.heap.get? C = none) (hr : ¬ Roots env ω s.heap C)
    (hc : ∀ o c, s.heap.get? C = some o → o.data ≠ .cell c) (hcell : ∀ y, env.cells.lookup y ≠ some C) : STR w base R0 env sc R σ ω { s with heap := h', toks := tk } := by
  have kb : ∀ y u, Bd s.heap env y u → Bd h' env y u := fun y u b => b.kpR k' (fun q => hO (.inl q.symm)) fun a o c q e => by cases q; exact hc o c e
  refine ⟨t.same.trans (.mk _ _), fun a o e => k' a o (fun q => by rw [q, hb] at e; cases e) (t.keep a o e), t.fr.kp k' fun a ha q => hO (q ▸ ha), t.own0, t.reg, ⟨fun y c hy => ?_, fun y d hy => ?_⟩, fun y d hy => ?_, fun y z a hy hz b1 b2 => ?_⟩
  · refine xE (t.sr.cells y c hy) fun o e => ?_
    exact ⟨o, k' _ _ (fun q => hcell y (q ▸ hy)) e⟩
  · refine xEA (t.sr.get y d hy) fun v b p => ?_
    exact ⟨v, kb _ _ b, p.mv (.kp k' fun a ha q => hR (q ▸ ha))⟩
  · refine xEAAAA (t.ow y d hy) fun a b h1 h2 h3 h4 => ?_
    exact ⟨a, kb _ _ b, h1, h2, h3, h4.mv (.kp k' fun a ha q => hR (q ▸ ha)) fun o e => k' _ _ (fun q => hr (q ▸ ⟨y, ⟨d, hy⟩, b⟩)) e⟩
  · refine xE (hy) fun dy hy' => ?_
    try clear hy
    refine xE (hz) fun dz hz' => ?_
    try clear hz
    refine xEA (t.ow y dy hy') fun a1 c1 _ => ?_
    refine xEA (t.ow z dz hz') fun a2 c2 _ => ?_
    have e1 := b1.fn (kb _ _ c1); cases e1
    have e2 := b2.fn (kb _ _ c2); cases e2
    exact t.inj y z _ ⟨dy, hy'⟩ ⟨dz, hz'⟩ c1 c2
end
end Mine

open PySem PySem.W PyProof.Rows
namespace Mine

section
variable {prog : Program} {w : World} {Γ : GEnv} {K : List Str} {sc : Scope} {k : Nat} {σ ω : Sg}

theorem Post.trans {base : Shared} {R0 : Addr → Prop} {env : Env} {ω₁ : Sg} {s s₁ : Shared} {r : Res} {f : Flow} {s' : Shared} (kp : Kp (fun a => Own env sc a ∨ Roots env ω s.heap a) s.heap s₁.heap)
    (lv : Live s.heap s₁.heap) (rg : ∀ a, Roots env ω₁ s₁.heap a → Roots env ω s.heap a ∨ s.heap.get? a = none) (kb : ∀ y ∈ K, ∀ u, Bd s.heap env y u → Bd s₁.heap env y u) (h : Post K w base R0 env sc ω₁ s₁ r f s') : Post K w base R0 env sc ω s r f s' := by
  cases r with
  | ret d => exact h
  | next σ' ω' =>
    refine xAAAAA (h) fun h1 h2 h3 h4 h5 h6 => ?_
    try clear h
    refine ⟨h1, h2, fun b o hb e => h3 b o (fun q => ?_) (kp b o hb e), lv.trans h4, fun a ha => ?_, fun y hy u b => h6 y hy u (kb y hy u b)⟩
    · rcases q with q | q
      · exact hb (.inl q)
      · rcases rg b q with q | q
        · exact hb (.inr q)
        · rw [q] at e; cases e
    · rcases h5 a ha with q | q
      · exact rg a q
      · exact .inr (lv.fresh q)

theorem Ss.nil : Ss prog w Γ K sc k σ ω [] (.next σ ω) := fun A E env base R0 s hr he hg hs => wpAny_execs_nil ⟨rfl, hs, .refl _ _, .refl _, fun a => .inl, fun _ _ _ b => b⟩

theorem Ss.cons {st rest σ₁ ω₁ r} (h1 : Sx prog w Γ K sc k σ ω st (.next σ₁ ω₁)) (h2 : Ss prog w Γ K sc k σ₁ ω₁ rest r) : Ss prog w Γ K sc k σ ω (st :: rest) r := fun A E env base R0 s hr he hg hs => by
  refine wpAny_execs_cons (wpAny_mono (h1 A E env base R0 s hr he hg hs) (fun f s₁ hp => ?_) fun _ _ e => e)
  refine xAAAAA (hp) fun zE1 t₁ kp lv rg kb => ?_
  try clear hp
  subst zE1
  exact wpAny_mono (h2 A E env base R0 s₁ hr he hg t₁) (fun f s' q => q.trans kp lv rg kb) fun _ _ e => e

theorem Ss.stop {st rest d} (h1 : Sx prog w Γ K sc k σ ω st (.ret d)) : Ss prog w Γ K sc k σ ω (st :: rest) (.ret d) := fun A E env base R0 s hr he hg hs => by
  refine wpAny_execs_cons (wpAny_mono (h1 A E env base R0 s hr he hg hs) (fun f s₁ hp => ?_) fun _ _ e => e)
  refine xEAA (hp) fun v zE2 x p => ?_
  try clear hp
  subst zE2
  exact ⟨v, rfl, x, p⟩

/-- it is enough to know less -/
theorem Sub.st {base : Shared} {R0 : Addr → Prop} {env : Env} {s : Shared} {σ' ω' : Sg} (h1 : ∀ x d, σ'.lookup x = some d → σ.lookup x = some d) (h2 : ∀ x d, ω'.lookup x = some d → ω.lookup x = some d)
    (t : ST w base R0 env sc σ ω s) : ST w base R0 env sc σ' ω' s := by
  obtain ⟨R, t⟩ := t
  exact ⟨R, t.same, t.keep, t.fr, t.own0, t.reg, ⟨t.sr.cells, fun x d hx => t.sr.get x d (h1 x d hx)⟩, fun x d hx => t.ow x d (h2 x d hx), fun x y a ⟨d, hx⟩ ⟨d', hy⟩ => t.inj x y a ⟨d, h2 x d hx⟩ ⟨d', h2 y d' hy⟩⟩

theorem Post.weaken {base : Shared} {R0 : Addr → Prop} {env : Env} {ω₀ : Sg} {s : Shared} {σ' ω' : Sg} {f : Flow} {s' : Shared} (h1 : ∀ x d, σ'.lookup x = some d → σ.lookup x = some d) (h2 : ∀ x d, ω'.lookup x = some d → ω.lookup x = some d)
    (h : Post K w base R0 env sc ω₀ s (.next σ ω) f s') : Post K w base R0 env sc ω₀ s (.next σ' ω') f s' :=
  ⟨h.1, Sub.st h1 h2 h.2.1, h.2.2.1, h.2.2.2.1, fun a ⟨x, ⟨d, hx⟩, b⟩ => h.2.2.2.2.1 a ⟨x, ⟨d, h2 x d hx⟩, b⟩, h.2.2.2.2.2⟩
theorem Ss.weaken {sts σ₁ ω₁ σ₂ ω₂} (h : Ss prog w Γ K sc k σ ω sts (.next σ₁ ω₁)) (h1 : ∀ x d, σ₂.lookup x = some d → σ₁.lookup x = some d) (h2 : ∀ x d, ω₂.lookup x = some d → ω₁.lookup x = some d) :
    Ss prog w Γ K sc k σ ω sts (.next σ₂ ω₂) := fun A E env base R0 s hr he hg hs => wpAny_mono (h A E env base R0 s hr he hg hs) (fun f s' q => q.weaken h1 h2) fun _ _ e => e
theorem Ss.pre {sts σ₀ ω₀ r} (h : Ss prog w Γ K sc k σ₀ ω₀ sts r) (h1 : ∀ x d, σ₀.lookup x = some d → σ.lookup x = some d) (h2 : ∀ x d, ω₀.lookup x = some d → ω.lookup x = some d) :
    Ss prog w Γ K sc k σ ω sts r := fun A E env base R0 s hr he hg hs => wpAny_mono (h A E env base R0 s hr he hg (Sub.st h1 h2 hs)) (fun f s' q => by
      cases r with
      | ret d => exact q
      | next σ' ω' =>
        have up : ∀ a, Roots env ω₀ s.heap a → Roots env ω s.heap a := fun a ⟨x, ⟨d, hx⟩, b⟩ => ⟨x, ⟨d, h2 x d hx⟩, b⟩
        exact ⟨q.1, q.2.1, q.2.2.1.mono fun a => Or.imp id (up a), q.2.2.2.1, fun a ha => (q.2.2.2.2.1 a ha).imp (up a) id, q.2.2.2.2.2⟩) fun _ _ e => e

/-- what is seen of a frame: its data and what it may turn -/
theorem ST.see {base : Shared} {R0 : Addr → Prop} {env : Env} {s : Shared} {e d} {A : Around} {E : Value → Shared → Prop} (hr : Room k A) (he : EnvOk sc env) (hg : Γ.In base.heap) (t : ST w base R0 env sc σ ω s)
    (h : Ev prog w Γ sc k (σ ++ ω) e d) : ∃ R, STR w base R0 env sc R σ ω s ∧ wpAny (model prog w) A (eval e env) (Out w (fun a => R a ∨ Roots env ω s.heap a) s d) E s := by
  obtain ⟨R, t⟩ := t
  exact ⟨R, t, h A E env _ s hr he (t.baseIn hg) t.view⟩

-- return
theorem Sx.ret {e pos d} (h : Ev prog w Γ sc k (σ ++ ω) e d) : Sx prog w Γ K sc k σ ω (.Return (some e) pos) (.ret d) := fun A E env base R0 s hr he hg hs => by
  refine xEA (hs.see (E := E) hr he hg h) fun R t hw => ?_
  refine wpAny_Return_some (wpAny_mono hw (fun v s₁ ⟨x₁, p⟩ => ?_) fun _ _ e => e)
  refine ⟨v, rfl, ⟨t.same.trans x₁.sm, fun b o e => x₁.keep _ _ (t.keep b o e)⟩, p.mv (.sub fun a ha => ?_)⟩
  rcases ha with (ha | ha) | ha
  · exact (t.reg a ha).1
  · exact .inr (t.rootAlive ha).2.2.2.1
  · exact .inr (fresh_back t.keep ha)

-- if
theorem Sx.ite {test body orelse pos b r} (h : Tr prog w Γ sc k (σ ++ ω) test b) (h1 : b = true → Ss prog w Γ K sc k σ ω body r) (h2 : b = false → Ss prog w Γ K sc k σ ω orelse r) :
    Sx prog w Γ K sc k σ ω (.If test body orelse pos) r := fun A E env base R0 s hr he hg hs => by
  refine xE (hs) fun R t => ?_
  try clear hs
  refine wpAny_If (wpAny_mono (h A E env _ s hr he (t.baseIn hg) t.view) (fun c s₁ ⟨e, x₁⟩ => ?_) fun _ _ e => e)
  subst e
  have t₁ := t.ex x₁
  have go : ∀ (f : Flow) s', Post K w base R0 env sc ω s₁ r f s' → Post K w base R0 env sc ω s r f s' := fun f s' q =>
    q.trans x₁.kp x₁.live (fun a ha => .inl (t.roots_back (fun y u _ b => b.keep x₁.keep) ha)) fun y _ u b => b.keep x₁.keep
  cases c with
  | true => exact wpAny_mono (h1 rfl A E env base R0 s₁ hr he hg ⟨R, t₁⟩) go fun _ _ e => e
  | false => exact wpAny_mono (h2 rfl A E env base R0 s₁ hr he hg ⟨R, t₁⟩) go fun _ _ e => e

-- a name is given data
noncomputable def Scalar : PyData → Bool
  | .none | .bool _ | .int _ | .str _ => true
  | _ => false
theorem Rp.scalar {R R' : Addr → Prop} {h h' : Heap} {v : Value} {d : PyData} (p : Rp w R h v d) (hd : Scalar d = true) : Rp w R' h' v d := by
  cases p with
  | none => exact .none
  | bool b => exact .bool b
  | int i t => exact .int i t
  | str x t => exact .str x t
  | list => simp [Scalar] at hd
  | tuple => simp [Scalar] at hd
  | dict => simp [Scalar] at hd
theorem RpAll.scalar {R R' : Addr → Prop} {h h' : Heap} : ∀ {vs : List Value} {ds : List PyData}, RpAll w R h vs ds → ds.all Scalar = true → RpAll w R' h' vs ds
  | _, _, .nil, _ => .nil
  | _, _, .cons a b, hd => by
    simp only [List.all_cons, Bool.and_eq_true] at hd
    exact .cons (Rp.scalar a hd.1) (RpAll.scalar b hd.2)

/-- how an assignment to one name stores: by the plain road -/
noncomputable def NoSwap (sc : Scope) (e : Expr) (x : Str) (px pos : Pos) : Prop := ∀ env : Env, EnvOk sc env → swapsWith e (some (.Name x px)) pos.line env = pure false

theorem NoSwap.of {sc e x px pos} (h : ∀ env : Env, swapsWith e (some (.Name x px)) pos.line env = pure false) : NoSwap sc e x px pos := fun env _ => h env
theorem NoSwap.cell {sc elt gens sc' cp x px pos} (h : sc.names.lookup x = some .cell) : NoSwap sc (.ListComp elt gens sc' cp) x px pos := fun env he => by
  unfold swapsWith
  simp only [he.cell x h]
  simp [show (NameKind.cell == NameKind.local) = false from rfl]

theorem Sx.assign {x e px pos d} (hx : sc.names.lookup x = some .local ∨ sc.names.lookup x = some .cell) (hsw : NoSwap sc e x px pos) (h : Ev prog w Γ sc k σ e d) (hK : x ∉ K := by decide) :
    Sx prog w Γ K sc k σ ω (.Assign [.Name x px] e pos) (.next ((x, d) :: σ) (del x ω)) := fun A E env base R0 s hr he hg hs => by
  refine xE (hs) fun R t => ?_
  try clear hs
  refine wpAny_Assign_Name (wpAny_mono (h A E env R s hr he (t.baseIn hg) t.sr) (fun v s₁ ⟨x₁, p⟩ => ?_) fun _ _ e => e) (hsw env he)
  exact store_plain he t x₁ p hx fun s' t' kp lv rg kb => ⟨rfl, t', kp, lv, rg, fun y hy u b => kb y u (fun e => hK (e ▸ hy)) b⟩
/-- a name is given what is made anew, to be turned -/
theorem Sx.own {x e px pos d} (hx : sc.names.lookup x = some .local ∨ sc.names.lookup x = some .cell) (hsw : NoSwap sc e x px pos) (h : EvF prog w Γ sc k σ e d) (hK : x ∉ K := by decide) :
    Sx prog w Γ K sc k σ ω (.Assign [.Name x px] e pos) (.next (del x σ) ((x, d) :: del x ω)) := fun A E env base R0 s hr he hg hs => by
  refine xE (hs) fun R t => ?_
  try clear hs
  refine wpAny_Assign_Name (wpAny_mono (h A E env R s hr he (t.baseIn hg) t.sr) (fun v s₁ p => ?_) fun _ _ e => e) (hsw env he)
  exact store_own he t p hx fun s' t' kp lv rg kb => ⟨rfl, t', kp, lv, rg, fun y hy u b => kb y u (fun e => hK (e ▸ hy)) b⟩

theorem OutF.flat {R R' : Addr → Prop} {s : Shared} {xs : List PyData} {v s'} (hd : xs.all Scalar = true) (h : OutF w R' s (.list xs) v s') : OutF w R s (.list xs) v s' := by
  refine xAEAA (h) fun x a zE3 ha r => ?_
  try clear h
  subst zE3
  refine ⟨x, a, rfl, ha, ?_⟩
  rcases r with ⟨vs, n, ys, e0, e, l⟩ | ⟨es, n, ks, ys, e0, _⟩
  · have zC := PySem.PyData.list.inj e0
    clear e0
    subst zC
    exact .inl ⟨vs, n, _, rfl, e, l.scalar hd⟩
  · cases e0
end
end Mine

open PySem PySem.W PyProof.Rows
namespace Mine

/-- how a value is told: as data alone, or made anew (to be turned) -/
inductive Kd where
  | plain
  | own

noncomputable def isList : PyData → Bool
  | .list _ => true
  | _ => false
mutual
noncomputable def noList : PyData → Bool
  | .list _ => false
  | .tuple ds => noListAll ds
  | .dict kvs => noListTab kvs
  | .none | .bool _ | .int _ | .str _ => true
noncomputable def noListAll : List PyData → Bool
  | [] => true
  | d :: r => noList d && noListAll r
noncomputable def noListTab : List (PyData × PyData) → Bool
  | [] => true
  | (a, b) :: r => noList a && noList b && noListTab r
end
theorem noListTab_zip : ∀ (as bs : List PyData), as.length = bs.length → noListTab (as.zip bs) = true → noListAll as = true ∧ noListAll bs = true
  | [], [], _, _ => ⟨rfl, rfl⟩
  | a :: as, b :: bs, hl, h => by
    simp only [List.zip_cons_cons, noListTab, Bool.and_eq_true] at h
    refine xA (noListTab_zip as bs (by simpa using hl) h.2) fun h1 h2 => ?_
    simp only [noListAll, Bool.and_eq_true]
    exact ⟨⟨h.1.1, h1⟩, h.1.2, h2⟩
  | [], _ :: _, hl, _ => by simp at hl
  | _ :: _, [], hl, _ => by simp at hl

/-- no list stands there -/
noncomputable def NoL (h : Heap) (a : Addr) : Prop := ∃ o, h.get? a = some o ∧ o.cls ≠ .type "list"
theorem ty_ne {a b : String} (h : a ≠ b) : Value.type a ≠ .type b := fun q => h (by injection q)
theorem NoL.of {h : Heap} {a : Addr} {o : Obj} (e : h.get? a = some o) (hc : o.cls ≠ .type "list") : NoL h a := ⟨o, e, hc⟩
theorem KIs.noL {R : Addr → Prop} {h : Heap} {k v} (x : KIs R h k v) : KIs (fun a => R a ∧ NoL h a) h k v := by
  induction x with
  | int i t => exact .int i t
  | str x t => exact .str x t
  | t2 r e _ _ ih1 ih2 => exact .t2 ⟨r, .of e (ty_ne (by decide))⟩ e ih1 ih2
  | t3 r e _ _ _ ih1 ih2 ih3 => exact .t3 ⟨r, .of e (ty_ne (by decide))⟩ e ih1 ih2 ih3
theorem Ents.noL {w : World} {R : Addr → Prop} {h : Heap} {ks es} (x : Ents w R h ks es) : Ents w (fun a => R a ∧ NoL h a) h ks es := by
  induction x with
  | nil => exact .nil
  | cons a _ ih => exact .cons a.noL ih
mutual
theorem Rp.noL {w : World} {R : Addr → Prop} {h : Heap} : ∀ {v : Value} {d : PyData}, Rp w R h v d → noList d = true → Rp w (fun a => R a ∧ NoL h a) h v d
  | _, _, .none, _ => .none
  | _, _, .bool b, _ => .bool b
  | _, _, .int i t, _ => .int i t
  | _, _, .str x t, _ => .str x t
  | _, _, .list r e l, hn => by simp [noList] at hn
  | _, _, .tuple r e l, hn => .tuple ⟨r, .of e (ty_ne (by decide))⟩ e (RpAll.noL l (by rw [noList] at hn; exact hn))
  | _, _, .dict (ks := ks) (xs := xs) r e k n l, hn => by
    have h1 : (ks.map HK.py).length = xs.length := by
      have := k.length; have := RpAll.length l; simp at *; omega
    rw [noList] at hn
    exact .dict ⟨r, .of e (ty_ne (by decide))⟩ e k.noL n (RpAll.noL l (noListTab_zip _ _ h1 hn).2)
theorem RpAll.noL {w : World} {R : Addr → Prop} {h : Heap} : ∀ {vs : List Value} {ds : List PyData}, RpAll w R h vs ds → noListAll ds = true → RpAll w (fun a => R a ∧ NoL h a) h vs ds
  | _, _, .nil, _ => .nil
  | _, _, .cons a b, hn => by
    simp only [noListAll, Bool.and_eq_true] at hn
    exact .cons (Rp.noL a hn.1) (RpAll.noL b hn.2)
end

section
variable (prog : Program) (w : World) (Γ : GEnv)
inductive EvK (sc : Scope) (k : Nat) (σ ω : Sg) (e : Expr) : Kd → PyData → Prop
  | plain {d} : Ev prog w Γ sc k σ e d → EvK sc k σ ω e .plain d
  | scalar {d} : Ev prog w Γ sc k (σ ++ ω) e d → Scalar d = true → EvK sc k σ ω e .plain d
  | nolist {d} : Ev prog w Γ sc k (σ ++ ω) e d → noList d = true → (ω.all fun p => isList p.2) = true → EvK sc k σ ω e .plain d
  | own {d} : EvF prog w Γ sc k σ e d → EvK sc k σ ω e .own d
  | flat {xs} : EvF prog w Γ sc k (σ ++ ω) e (.list xs) → xs.all Scalar = true → EvK sc k σ ω e .own (.list xs)
  | flatP {xs} : EvF prog w Γ sc k (σ ++ ω) e (.list xs) → xs.all Scalar = true → EvK sc k σ ω e .plain (.list xs)
noncomputable def OutK (w : World) (kd : Kd) (R : Addr → Prop) (s : Shared) (d : PyData) : Value → Shared → Prop :=
  match kd with
  | .plain => Out w R s d
  | .own => OutF w R s d
noncomputable def updσ (kd : Kd) (x : Str) (d : PyData) (σ : Sg) : Sg := match kd with | .plain => (x, d) :: σ | .own => del x σ
noncomputable def updω (kd : Kd) (x : Str) (d : PyData) (ω : Sg) : Sg := match kd with | .plain => del x ω | .own => (x, d) :: del x ω
end

section
variable {prog : Program} {w : World} {Γ : GEnv} {K : List Str} {sc : Scope} {k : Nat} {σ ω : Sg} {base : Shared} {R0 R : Addr → Prop} {env : Env} {s : Shared}

theorem List.mem_of_lookup {x : Str} {d : PyData} : ∀ {l : Sg}, l.lookup x = some d → (x, d) ∈ l
  | [], h => by cases h
  | (y, e) :: r, h => by
    rw [List.lookup_cons] at h
    by_cases q : (x == y) = true
    · rw [q] at h; cases h; rw [eq_of_beq q]; exact .head _
    · simp only [Bool.not_eq_true] at q
      rw [q] at h; exact .tail _ (List.mem_of_lookup h)

theorem EvK.ownPlain {e d} (h : EvK prog w Γ sc k σ ω e .own d) : ∀ {A : Around} {E : Value → Shared → Prop}, Room k A → EnvOk sc env → Γ.In base.heap → STR w base R0 env sc R σ ω s → wpAny (model prog w) A (eval e env) (OutF w (fun a => R a ∧ (s.heap.get? a).isSome = true) s d) E s := by
  intro A E hr he hg t
  cases h with
  | own h => exact h A E env _ s hr he (t.baseIn hg) t.sr.live
  | flat h hd => exact wpAny_mono (h A E env _ s hr he (t.baseIn hg) t.view) (fun v s' q => OutF.flat hd q) fun _ _ e => e

theorem EvK.run {e kd d} (h : EvK prog w Γ sc k σ ω e kd d) {A : Around} {E : Value → Shared → Prop} (hr : Room k A) (he : EnvOk sc env) (hg : Γ.In base.heap) (t : STR w base R0 env sc R σ ω s) :
    wpAny (model prog w) A (eval e env) (OutK w kd (fun a => R a ∧ (s.heap.get? a).isSome = true) s d) E s := by
  cases h with
  | plain h => exact h A E env _ s hr he (t.baseIn hg) t.sr.live
  | scalar h hd => exact wpAny_mono (h A E env _ s hr he (t.baseIn hg) t.view) (fun v s' q => ⟨q.1, q.2.scalar hd⟩) fun _ _ e => e
  | nolist h hd hω =>
    refine wpAny_mono (h A E env _ s hr he (t.baseIn hg) t.view) (fun v s' q => ⟨q.1, (q.2.noL hd).mv fun a o ha e => ⟨?_, e⟩⟩) fun _ _ e => e
    obtain ⟨ha, o', e', hc⟩ := ha
    rcases ha with (ha | ⟨x, ⟨dx, hx⟩, b⟩) | ha
    · cases hs : s.heap.get? a with
      | none => exact .inr hs
      | some _ => exact .inl ⟨ha, by rw [hs]; rfl⟩
    · refine xEAAAA (t.ow x dx hx) fun a' b' _ _ _ hr' => ?_
      have := b.fn b'; cases this
      have hdx : isList dx = true := List.all_eq_true.mp hω (x, dx) (List.mem_of_lookup hx)
      rcases hr' with ⟨vs, n, ys, e0, e1, l⟩ | ⟨es, n, ks, ys, e0, _⟩
      · have := q.1.keep _ _ e1
        rw [this] at e'; cases e'; exact absurd rfl hc
      · rw [e0] at hdx; simp [isList] at hdx
    · exact .inr ha
  | own h => exact EvK.ownPlain (.own h) hr he hg t
  | flat h hd => exact EvK.ownPlain (.flat h hd) hr he hg t
  | flatP h hd => exact wpAny_mono (h A E env _ s hr he (t.baseIn hg) t.view) (fun v s' q => (OutF.flat hd q).out) fun _ _ e => e

/-- a value within N, roots-to-be within F -/
noncomputable def ValOk (w : World) (kd : Kd) (N F : Addr → Prop) (h : Heap) (d : PyData) (v : Value) : Prop :=
  match kd with
  | .plain => Rp w N h v d
  | .own => ∃ f, v = .ref f ∧ F f ∧ RpRoot w N h f d

/-- a name is stored, while others wait -/
theorem storeK {A : Around} {E : Value → Shared → Prop} {s₁ : Shared} {x : Str} {kd : Kd} {v : Value} {d : PyData} {Q : Unit → Shared → Prop} (N F : Addr → Prop) (he : EnvOk sc env) (t : STR w base R0 env sc R σ ω s) (x₁ : Ex s s₁)
    (hN : ∀ a, N a → Nw R s a) (hF : ∀ a, F a → ¬ N a ∧ ¬ Roots env ω s.heap a ∧ ¬ Own env sc a ∧ base.heap.get? a = none ∧ ¬ (R a ∧ (s.heap.get? a).isSome = true)) (p : ValOk w kd N F s₁.heap d v)
    (hx : sc.names.lookup x = some .local ∨ sc.names.lookup x = some .cell)
    (h : ∀ s' R', STR w base R0 env sc R' (updσ kd x d σ) (updω kd x d ω) s' → (∀ a, R' a → ¬ F a ∧ ((R a ∧ (s.heap.get? a).isSome = true) ∨ N a)) → (∀ a, N a → R' a) → Kp (Own env sc) s₁.heap s'.heap →
      Kp (fun a => Own env sc a ∨ Roots env ω s.heap a) s.heap s'.heap → Live s.heap s'.heap → (∀ a, Roots env (updω kd x d ω) s'.heap a → Roots env ω s.heap a ∨ v = .ref a ∧ kd = .own) → (∀ y u, y ≠ x → Bd s.heap env y u → Bd s'.heap env y u) → Q () s') :
    wpAny (model prog w) A (storeName env x v) Q E s₁ := by
  have nRoot : ∀ a, N a → ¬ Roots env ω s.heap a := fun a ha q => by
    refine xAA (t.rootAlive q) fun zE1 hn _ => ?_
    refine xE (zE1) fun o' e' => ?_
    try clear zE1
    rcases hN a ha with ha | ha
    · exact hn ha
    · rw [ha] at e'; cases e'
  cases kd with
  | plain =>
    refine store_plainN N he t x₁ hN p hx fun s' t' k1 k2 l r b => h s' _ t' (fun a ha => ⟨fun q => ?_, ha.1⟩) (fun a ha => ⟨.inr ha, nRoot a ha⟩) k1 k2 l (fun a ha => .inl (r a ha)) b
    rcases ha.1 with h1 | h1
    · exact (hF a q).2.2.2.2 h1
    · exact (hF a q).1 h1
  | own =>
    refine xEAA (p) fun f zE2 hf pr => ?_
    try clear p
    subst zE2
    refine xAAAA (hF f hf) fun f1 f2 f3 f4 f5 => ?_
    refine store_ownN N he t x₁ (fun a ha => ⟨hN a ha, fun q => f1 (q ▸ ha)⟩) f2 f3 f4 f5 pr hx fun s' t' k1 k2 l r b => h s' _ t' (fun a ha => ⟨fun q => ?_, ha.1⟩) (fun a ha => ⟨.inr ha, nRoot a ha, fun q => f1 (q ▸ ha)⟩) k1 k2 l (fun a ha => (r a ha).imp id fun q => ⟨by rw [q], rfl⟩) b
    rcases ha.1 with h1 | h1
    · exact (hF a q).2.2.2.2 h1
    · exact (hF a q).1 h1

theorem Sx.asg {x e px pos kd d} (hx : sc.names.lookup x = some .local ∨ sc.names.lookup x = some .cell) (hsw : NoSwap sc e x px pos) (h : EvK prog w Γ sc k σ ω e kd d) (hK : x ∉ K := by decide) :
    Sx prog w Γ K sc k σ ω (.Assign [.Name x px] e pos) (.next (updσ kd x d σ) (updω kd x d ω)) := fun A E env base R0 s hr he hg hs => by
  refine xE (hs) fun R t => ?_
  try clear hs
  refine wpAny_Assign_Name (wpAny_mono (h.run hr he hg t) (fun v s₁ p => ?_) fun _ _ e => e) (hsw env he)
  cases kd with
  | plain => exact store_plain he t p.1 (p.2.mv (.sub fun a q => q.elim (fun q => .inl q.1) .inr)) hx fun s' t' kp lv rg kb => ⟨rfl, t', kp, lv, rg, fun y hy u b => kb y u (fun e => hK (e ▸ hy)) b⟩
  | own =>
    refine xAEAA (p) fun x₁ f zE3 hf pr => ?_
    try clear p
    subst zE3
    refine store_own he t ⟨x₁, f, rfl, hf, pr.mv (.sub fun a q => ⟨q.1.elim (fun q => .inl q.1) .inr, q.2⟩) fun _ e => e⟩ hx fun s' t' kp lv rg kb => ⟨rfl, t', kp, lv, rg, fun y hy u b => kb y u (fun e => hK (e ▸ hy)) b⟩

/-- a comprehension that is stored behind its own loop -/
noncomputable def Swap (sc : Scope) (e : Expr) (x : Str) (px pos : Pos) : Prop := ∀ env : Env, EnvOk sc env → swapsWith e (some (.Name x px)) pos.line env = pure true

theorem Swap.of {elt gens sc' cp x px pos} (h : sc.names.lookup x = some .local) (hl : px.line = cp.line) (hn : (sc'.names.any fun p => p.1 == x && (p.2 == .local || p.2 == .cell)) = false) :
    Swap sc (.ListComp elt gens sc' cp) x px pos := fun env he => by
  unfold swapsWith
  have hb : env.blockKind = .function := by unfold Env.blockKind; rw [he.kind]; rfl
  simp only [he.loc x h, hb, posComp, hl, hn]
  simp

set_option maxHeartbeats 1000000 in
theorem Sx.asgC {x px pos kd} {elt : Expr} {rest : List Comprehension} {sc' : Scope} {cp : Pos} {target iter : Expr} {ifs : List Expr} {T : Expr → Prop} {ds : List PyData} {yss : List (List PyData)}
    (hx : sc.names.lookup x = some .local) (hsw : Swap sc (.ListComp elt (⟨target, iter, ifs, 0⟩ :: rest) sc' cp) x px pos)
    (hsc : scOk sc sc' = true) (hall : ∀ g ∈ (⟨target, iter, ifs, 0⟩ :: rest : List Comprehension), g.is_async = 0) (hset : ∀ g ∈ (⟨target, iter, ifs, 0⟩ :: rest : List Comprehension), ∀ env x, foldedSetIterable g.iter env x = pure x)
    {σ₁ : Sg} (hσ : σ₁ = σ ∨ (σ₁ = σ ++ ω ∧ yss.flatten.all Scalar = true))
    (hit : It prog w Γ sc k σ₁ iter T ds) (hT : T target) (hlen : yss.length = ds.length) (hsz : yss.flatten.length ≤ sizeLine)
    (hturn : ∀ (i : Nat) (d : PyData) (ys : List PyData), ds[i]? = some d → yss[i]? = some ys → TurnOk prog w Γ elt (⟨target, iter, ifs, 0⟩ :: rest) sc' cp 0 k (capt sc sc' σ₁) target ifs d ys) (hK : x ∉ K := by decide) :
    Sx prog w Γ K sc k σ ω (.Assign [.Name x px] (.ListComp elt (⟨target, iter, ifs, 0⟩ :: rest) sc' cp) pos) (.next (updσ kd x (.list yss.flatten) σ) (updω kd x (.list yss.flatten) ω)) := fun A E env base R0 s hr he hg hs => by
  refine xE (hs) fun R t => ?_
  try clear hs
  rw [exec_Assign_Name_used _ _ _ _ (hsw env he)]
  refine wpAny_bind (wpAny_standAt (wpAny_bind ?_))
  show wpAny _ A (do let _ ← comprehension (.ListComp elt (⟨target, iter, ifs, 0⟩ :: rest) sc' cp) sc' env _ (newList []) false (eval iter env) (some (PySem.assign (.Name x px) env))) _ _ s
  obtain ⟨R₁, hs₁, hR₁⟩ : ∃ R₁ : Addr → Prop, SR w R₁ s.heap env σ₁ ∧ ((∀ a, R₁ a → R a) ∨ yss.flatten.all Scalar = true) := by
    rcases hσ with rfl | ⟨rfl, q⟩
    · exact ⟨R, t.sr, .inl fun _ => id⟩
    · exact ⟨_, t.view, .inr q⟩
  refine wpAny_bind (wpAny_mono (comp_core (use := some (PySem.assign (.Name x px) env)) (Q := fun _ s' => Post K w base R0 env sc ω s (.next (updσ kd x (.list yss.flatten) σ) (updω kd x (.list yss.flatten) ω)) .next s') hsc hall hset hit hT hlen hsz hturn hr he (t.baseIn hg) hs₁
    fun s' D C us n' ex hC hD hDC hns hl hus => ?_) (fun _ s' hq => wpAny_pure (wpAny_pure hq)) fun _ _ e => e)
  show wpAny _ A (PySem.assign (.Name x px) env (.ref D)) _ _ _
  have hus' : RpAll w (fun a => Nw R s a ∧ a ≠ C ∧ a ≠ D) s'.heap us.toList yss.flatten := by
    rcases hR₁ with q | q
    · exact hus.mv (.sub fun a ha => ⟨ha.1.imp (q a) id, ha.2⟩)
    · exact hus.scalar q
  have hOwn : ∀ a, s.heap.get? a = none → ¬ Own env sc a := fun a ha q => by obtain ⟨o, e⟩ := t.fr.alive q; rw [ha] at e; cases e
  have hRoot : ∀ a, s.heap.get? a = none → ¬ Roots env ω s.heap a := fun a ha q => by obtain ⟨⟨o, e⟩, _⟩ := t.rootAlive q; rw [ha] at e; cases e
  -- a region that C is not of
  let N : Addr → Prop := fun a => (Nw R s a ∧ a ≠ C) ∧ (kd = .own → a ≠ D)
  refine wpAny_assign_Name (storeK (kd := kd) (d := .list yss.flatten) (N := N) (F := fun a => kd = .own ∧ a = D) he t ex (fun a ha => ha.1.1) (fun a ⟨q1, q2⟩ => ?_) ?_ (.inl hx) fun s'' R' t'' hR' hN' k1 k2 l r kb0 => ?_)
  · subst q2
    exact ⟨fun q => q.2 q1 rfl, hRoot a hD, hOwn a hD, fresh_back t.keep hD, fun q => by rw [hD] at q; cases q.2⟩
  · cases kd with
    | plain => exact .list ⟨⟨.inr hD, hDC⟩, nofun⟩ hl (hus'.mv (.sub fun a ha => ⟨⟨ha.1, ha.2.1⟩, nofun⟩))
    | own => exact ⟨D, rfl, ⟨rfl, rfl⟩, .inl ⟨us, n', _, rfl, hl, hus'.mv (.sub fun a ha => ⟨⟨ha.1, ha.2.1⟩, fun _ => ha.2.2⟩)⟩⟩
  · refine xE (hns) fun m hm => ?_
    try clear hns
    have hns'' : s''.heap.Ns C m := let ⟨o, es, ep, e, rr⟩ := hm; ⟨o, es, ep, k1 _ _ (hOwn C hC) e, rr⟩
    refine ⟨m, hns'', fun h' hs' => ?_⟩
    have k' : Kp (fun a => a = C) s''.heap h' := fun b o hb e => (hs'.2 b hb).trans e
    have hR'C : ¬ R' C := fun q => by
      rcases (hR' C q).2 with q | q
      · rw [hC] at q; cases q.2
      · exact q.1.2 rfl
    have hrC : ¬ Roots env (updω kd x (.list yss.flatten) ω) s''.heap C := fun q => by
      rcases r C q with q | ⟨q, _⟩
      · exact hRoot C hC q
      · have zC := PySem.Value.ref.inj q
        clear q
        subst zC
        exact hDC rfl
    have hcellC : ∀ y, env.cells.lookup y ≠ some C := fun y q => by obtain ⟨o, e⟩ := t.sr.cells y C q; rw [hC] at e; cases e
    have hcC : ∀ o c, s''.heap.get? C = some o → o.data ≠ .cell c := fun o c e q => by
      refine xEEEAA (hns'') fun o' es ep e' hd _ => ?_
      try clear hns''
      rw [e] at e'; cases e'; rw [q] at hd; cases hd
    have tf := t''.out (h' := h') (tk := s''.toks) k' hR'C (hOwn C hC) (fresh_back t.keep hC) hrC hcC hcellC
    refine ⟨rfl, ⟨R', tf⟩, fun b o hb e => k' b o (fun q => by rw [q, hC] at e; cases e) (k2 b o hb e), fun a o e => ?_, fun a ha => ?_, fun y hy u b => ?_⟩
    · refine xE (l a o e) fun o' e' => ?_
      exact ⟨o', k' a o' (fun q => by rw [q, hC] at e; cases e) e'⟩
    rotate_left
    · exact (kb0 y u (fun e => hK (e ▸ hy)) b).kpR k' (fun q => hOwn C hC (.inl q.symm)) fun a o c q e => by cases q; exact hcC o c e
    · have kb : ∀ y u, Has (updω kd x (.list yss.flatten) ω) y → Bd s''.heap env y u → Bd h' env y u := fun y u _ b => b.kpR k' (fun q => hOwn C hC (.inl q.symm)) fun a o c q e => by cases q; exact hcC o c e
      rcases r a (t''.roots_back (s' := { s'' with heap := h' }) kb ha) with q | ⟨q, _⟩
      · exact .inl q
      · have zC := PySem.Value.ref.inj q
        clear q
        subst zC
        exact .inr hD
end
end Mine

open PySem PySem.W PyProof.Rows
namespace Mine

section
variable {prog : Program} {w : World} {Γ : GEnv} {K : List Str} {sc : Scope} {k : Nat} {σ ω : Sg} {base : Shared} {R0 R : Addr → Prop} {env : Env} {s : Shared}

theorem STR.live (t : STR w base R0 env sc R σ ω s) : STR w base R0 env sc (fun a => R a ∧ (s.heap.get? a).isSome = true) σ ω s where
  same := t.same
  keep := t.keep
  fr := t.fr
  own0 := t.own0
  reg := fun a ha => t.reg a ha.1
  sr := t.sr.live
  ow := fun x d hx => let ⟨a, b, h1, h2, h3, h4⟩ := t.ow x d hx; ⟨a, b, fun q => h1 q.1, h2, h3, h4.mv (fun c o hc e => ⟨⟨hc, by rw [e]; rfl⟩, e⟩) fun _ e => e⟩
  inj := t.inj

theorem ValOk.mv {kd : Kd} {N F : Addr → Prop} {h h' : Heap} {d v} (p : ValOk w kd N F h d v) (m : Mv N N h h') (mf : ∀ a o, F a → h.get? a = some o → h'.get? a = some o) : ValOk w kd N F h' d v := by
  cases kd with
  | plain => exact Rp.mv m p
  | own => obtain ⟨f, e, hf, r⟩ := p; exact ⟨f, e, hf, r.mv m fun o e => mf f o hf e⟩

/-- two names, one behind the other -/
theorem two_stores {A : Around} {E : Value → Shared → Prop} {s₁ : Shared} {x y : Str} {k1 k2 : Kd} {v1 v2 : Value} {d1 d2 : PyData} {Q : Unit → Shared → Prop} (N F1 F2 : Addr → Prop) (he : EnvOk sc env) (t : STR w base R0 env sc R σ ω s) (x₁ : Ex s s₁)
    (hN : ∀ a, N a → Nw R s a) (hF : ∀ a, F1 a ∨ F2 a → ¬ N a ∧ ¬ Roots env ω s.heap a ∧ ¬ Own env sc a ∧ base.heap.get? a = none ∧ ¬ (R a ∧ (s.heap.get? a).isSome = true) ∧ s.heap.get? a = none) (h12 : ∀ a, F1 a → ¬ F2 a)
    (h1 : ∀ a, v1 = .ref a → k1 = .own → F1 a)
    (hv2 : ∀ a, v2 = .ref a → k2 = .own → F2 a)
    (p1 : ValOk w k1 N F1 s₁.heap d1 v1) (p2 : ValOk w k2 N F2 s₁.heap d2 v2)
    (hx : sc.names.lookup x = some .local ∨ sc.names.lookup x = some .cell) (hy : sc.names.lookup y = some .local ∨ sc.names.lookup y = some .cell)
    (h : ∀ s', Post K w base R0 env sc ω s (.next (updσ k2 y d2 (updσ k1 x d1 σ)) (updω k2 y d2 (updω k1 x d1 ω))) .next s' → Q () s') (hKx : x ∉ K) (hKy : y ∉ K) :
    wpAny (model prog w) A (storeName env x v1) (fun _ s' => wpAny (model prog w) A (storeName env y v2) Q E s') E s₁ := by
  refine storeK (kd := k1) (d := d1) N (fun a => F1 a ∨ F2 a) he t x₁ hN (fun a ha => let ⟨a1, a2, a3, a4, a5, _⟩ := hF a ha; ⟨a1, a2, a3, a4, a5⟩) ?_ hx fun s5 R5 t5 hR5 hN5 kp5 kpa5 lv5 r5 b5 => ?_
  · cases k1 with
    | plain => exact p1
    | own => obtain ⟨f, e, hf, r⟩ := p1; exact ⟨f, e, .inl hf, r⟩
  have g5 : ∀ a, Roots env (updω k1 x d1 ω) s5.heap a → Roots env ω s.heap a ∨ s.heap.get? a = none := fun a ha => (r5 a ha).imp id fun ⟨q1, q2⟩ => (hF a (.inl (h1 a q1 q2))).2.2.2.2.2
  refine storeK (kd := k2) (d := d2) N F2 he t5 (.refl s5) (fun a ha => .inl (hN5 a ha)) (fun a ha => ?_) ?_ hy fun s6 R6 t6 hR6 hN6 kp6 kpa6 lv6 r6 b6 => ?_
  · refine xAAAAA (hF a (.inr ha)) fun a1 a2 a3 a4 a5 a6 => ?_
    refine ⟨a1, fun q => ?_, a3, a4, fun q => (hR5 a q.1).1 (.inr ha)⟩
    rcases r5 a q with q | ⟨q1, q2⟩
    · exact a2 q
    · exact h12 a (h1 a q1 q2) ha
  · refine p2.mv (.kp kp5 fun a ha q => ?_) fun a o ha e => kp5 a o (fun q => (hF a (.inr ha)).2.2.1 q) e
    rcases hN a ha with ha | ha
    · exact (t.reg a ha).2 q
    · obtain ⟨o, e⟩ := t.fr.alive q; rw [ha] at e; cases e
  · refine h s6 ⟨rfl, ⟨R6, t6⟩, fun b o hb e => kpa6 b o (fun q => ?_) (kpa5 b o hb e), lv5.trans lv6, fun a ha => ?_, fun z hz u b => b6 z u (fun e => hKy (e ▸ hz)) (b5 z u (fun e => hKx (e ▸ hz)) b)⟩
    · rcases q with q | q
      · exact hb (.inl q)
      · rcases g5 b q with q | q
        · exact hb (.inr q)
        · rw [q] at e; cases e
    · rcases r6 a ha with q | ⟨q1, q2⟩
      · exact g5 a q
      · exact .inr (hF a (.inr (hv2 a q1 q2))).2.2.2.2.2

/-- both are told, then both are stored -/
theorem two_vals {A : Around} {E : Value → Shared → Prop} {s₁ s₂ : Shared} {x y : Str} {k1 k2 : Kd} {v1 v2 : Value} {d1 d2 : PyData} (he : EnvOk sc env) (t : STR w base R0 env sc R σ ω s) (hRl : ∀ a, R a → (s.heap.get? a).isSome = true)
    (x₁ : Ex s s₁) (x₂ : Ex s₁ s₂) (o1 : OutK w k1 R s d1 v1 s₁) (o2 : OutK w k2 R s₁ d2 v2 s₂) {h₃ : Heap} {tk : Nat} (hKx : x ∉ K) (hKy : y ∉ K) (x₃ : ∀ b o, s₂.heap.get? b = some o → h₃.get? b = some o)
    (hx : sc.names.lookup x = some .local ∨ sc.names.lookup x = some .cell) (hy : sc.names.lookup y = some .local ∨ sc.names.lookup y = some .cell) :
    (∀ (Q : Unit → Shared → Prop), (∀ s', Post K w base R0 env sc ω s (.next (updσ k2 y d2 (updσ k1 x d1 σ)) (updω k2 y d2 (updω k1 x d1 ω))) .next s' → Q () s') →
      wpAny (model prog w) A (storeName env x v1) (fun _ s' => wpAny (model prog w) A (storeName env y v2) Q E s') E { s₂ with heap := h₃, toks := tk }) ∧
    (∀ (Q : Unit → Shared → Prop), (∀ s', Post K w base R0 env sc ω s (.next (updσ k1 x d1 (updσ k2 y d2 σ)) (updω k1 x d1 (updω k2 y d2 ω))) .next s' → Q () s') →
      wpAny (model prog w) A (storeName env y v2) (fun _ s' => wpAny (model prog w) A (storeName env x v1) Q E s') E { s₂ with heap := h₃, toks := tk }) := by
  let F1 : Addr → Prop := fun a => k1 = .own ∧ v1 = .ref a
  let F2 : Addr → Prop := fun a => k2 = .own ∧ v2 = .ref a
  let N : Addr → Prop := fun a => (Nw R s a ∧ (s₂.heap.get? a).isSome = true) ∧ ¬ F1 a ∧ ¬ F2 a
  have ex : Ex s { s₂ with heap := h₃, toks := tk } := (x₁.trans x₂).trans (.of x₃)
  have hOwn : ∀ a, s.heap.get? a = none → ¬ Own env sc a := fun a ha q => by obtain ⟨o, e⟩ := t.fr.alive q; rw [ha] at e; cases e
  have hRoot : ∀ a, s.heap.get? a = none → ¬ Roots env ω s.heap a := fun a ha q => by obtain ⟨⟨o, e⟩, _⟩ := t.rootAlive q; rw [ha] at e; cases e
  have f1 : ∀ a, F1 a → s.heap.get? a = none ∧ ∃ o, s₁.heap.get? a = some o := fun a ⟨q1, q2⟩ => by
    subst q1; obtain ⟨_, f, e, hf, r⟩ := o1
    rw [q2] at e; cases e; exact ⟨hf, r.alive⟩
  have f2 : ∀ a, F2 a → s₁.heap.get? a = none ∧ ∃ o, s₂.heap.get? a = some o := fun a ⟨q1, q2⟩ => by
    subst q1; obtain ⟨_, f, e, hf, r⟩ := o2
    rw [q2] at e; cases e; exact ⟨hf, r.alive⟩
  have fN : ∀ a, F1 a ∨ F2 a → s.heap.get? a = none := fun a ha => ha.elim (fun q => (f1 a q).1) fun q => fresh_back x₁.keep (f2 a q).1
  have hF : ∀ a, F1 a ∨ F2 a → ¬ N a ∧ ¬ Roots env ω s.heap a ∧ ¬ Own env sc a ∧ base.heap.get? a = none ∧ ¬ (R a ∧ (s.heap.get? a).isSome = true) ∧ s.heap.get? a = none := fun a ha => by
    have q := fN a ha
    exact ⟨fun n => ha.elim n.2.1 n.2.2, hRoot a q, hOwn a q, fresh_back t.keep q, fun n => by (have n2 := n.2; rw [q] at n2; cases n2), q⟩
  have h12 : ∀ a, F1 a → ¬ F2 a := fun a q1 q2 => by obtain ⟨_, o, e⟩ := f1 a q1; rw [(f2 a q2).1] at e; cases e
  have m1 : ∀ a o, (R a ∨ s.heap.get? a = none) → s₁.heap.get? a = some o → ¬ F1 a → N a ∧ h₃.get? a = some o := fun a o ha e nf =>
    ⟨⟨⟨ha, by rw [x₂.keep _ _ e]; rfl⟩, nf, fun q => by rw [(f2 a q).1] at e; cases e⟩, x₃ _ _ (x₂.keep _ _ e)⟩
  have m2 : ∀ a o, (R a ∨ s₁.heap.get? a = none) → s₂.heap.get? a = some o → ¬ F2 a → N a ∧ h₃.get? a = some o := fun a o ha e nf =>
    ⟨⟨⟨ha.imp id (fresh_back x₁.keep), by rw [e]; rfl⟩, (fun q => by
      refine xAE (f1 a q) fun q1 o' q2 => ?_
      rcases ha with ha | ha
      · have := hRl a ha; rw [q1] at this; cases this
      · rw [ha] at q2; cases q2), nf⟩, x₃ _ _ e⟩
  have p1 : ValOk w k1 N F1 h₃ d1 v1 := by
    cases k1 with
    | plain => exact Rp.mv (fun a o ha e => m1 a o ha e nofun) o1.2
    | own =>
      refine xAEAA (o1) fun _ f e hf r => ?_
      try clear o1
      exact ⟨f, e, ⟨rfl, e⟩, r.mv (fun a o ha e' => m1 a o ha.1 e' fun q => by have := q.2; rw [e] at this; cases this; exact ha.2 rfl) fun o e' => x₃ _ _ (x₂.keep _ _ e')⟩
  have p2 : ValOk w k2 N F2 h₃ d2 v2 := by
    cases k2 with
    | plain => exact Rp.mv (fun a o ha e => m2 a o ha e nofun) o2.2
    | own =>
      refine xAEAA (o2) fun _ f e hf r => ?_
      try clear o2
      exact ⟨f, e, ⟨rfl, e⟩, r.mv (fun a o ha e' => m2 a o ha.1 e' fun q => by have := q.2; rw [e] at this; cases this; exact ha.2 rfl) fun o e' => x₃ _ _ e'⟩
  exact ⟨fun Q hQ => two_stores N F1 F2 he t ex (fun a ha => ha.1.1) hF h12 (fun a q1 q2 => ⟨q2, q1⟩) (fun a q1 q2 => ⟨q2, q1⟩) p1 p2 hx hy hQ hKx hKy,
    fun Q hQ => two_stores N F2 F1 he t ex (fun a ha => ha.1.1) (fun a ha => hF a ha.symm) (fun a q1 q2 => h12 a q2 q1) (fun a q1 q2 => ⟨q2, q1⟩) (fun a q1 q2 => ⟨q2, q1⟩) p2 p1 hy hx hQ hKy hKx⟩

noncomputable def Swaps (sc : Scope) (targets : List Expr) (value : Expr) (r : Option (List Str)) : Prop := ∀ env : Env, EnvOk sc env → swappedStores targets value env = pure r

theorem two_told {A : Around} {E : Value → Shared → Prop} {e1 e2 : Expr} {k1 k2 : Kd} {d1 d2 : PyData} {m : Nat} {vpos : Pos} {Q : Value → Shared → Prop} (hr : Room k A) (he : EnvOk sc env) (hg : Γ.In base.heap) (t : STR w base R0 env sc R σ ω s) (hRl : ∀ a, R a → (s.heap.get? a).isSome = true)
    (h1 : EvK prog w Γ sc k σ ω e1 k1 d1) (h2 : EvK prog w Γ sc k σ ω e2 k2 d2) (hs1 : isStarred e1 = false) (hs2 : isStarred e2 = false)
    (h : ∀ v1 v2 s₁ s₂ T, Ex s s₁ → Ex s₁ s₂ → OutK w k1 R s d1 v1 s₁ → OutK w k2 R s₁ d2 v2 s₂ → T = s₂.heap.objs.size → Q (.ref T) { s₂ with heap := s₂.heap.push (TObj #[v1, v2] 0) }) :
    wpAny (model prog w) A (eval (.Tuple [e1, e2] m vpos) env) Q E s := by
  have exOf : ∀ {kd : Kd} {R : Addr → Prop} {s : Shared} {d v s'}, OutK w kd R s d v s' → Ex s s' := fun {kd R s d v s'} o => by
    cases kd with
    | plain => exact o.1
    | own => exact o.1
  refine wpAny_Tuple_spliced (args_cons (wpAny_mono (h1.run hr he hg t) (fun v1 s₁ o1 => ?_) fun _ _ e => e) (by cases e1 <;> first | rfl | (simp [isStarred] at hs1; done)))
  have x₁ := exOf o1
  refine args_cons (wpAny_mono (h2.run hr he hg (t.ex x₁)) (fun v2 s₂ o2 => args_nil ⟨(by show 2 ≤ sizeLine; decide), ?_⟩) fun _ _ e => e) (by cases e2 <;> first | rfl | (simp [isStarred] at hs2; done))
  have x₂ := exOf o2
  have sub1 : OutK w k1 R s d1 v1 s₁ := by
    cases k1 with
    | plain => exact ⟨o1.1, o1.2.mv (.sub fun a q => q.imp (·.1) id)⟩
    | own => obtain ⟨a, f, e, hf, r⟩ := o1; exact ⟨a, f, e, hf, r.mv (.sub fun a q => ⟨q.1.imp (·.1) id, q.2⟩) fun _ e => e⟩
  have sub2 : OutK w k2 R s₁ d2 v2 s₂ := by
    cases k2 with
    | plain => exact ⟨o2.1, o2.2.mv (.sub fun a q => q.imp (·.1) id)⟩
    | own => obtain ⟨a, f, e, hf, r⟩ := o2; exact ⟨a, f, e, hf, r.mv (.sub fun a q => ⟨q.1.imp (·.1) id, q.2⟩) fun _ e => e⟩
  exact h v1 v2 s₁ s₂ _ x₁ x₂ sub1 sub2 rfl

theorem Sx.asg2s {x y px py n tpos e1 e2 m vpos pos k1 k2 d1 d2} (hx : sc.names.lookup x = some .local ∨ sc.names.lookup x = some .cell) (hy : sc.names.lookup y = some .local ∨ sc.names.lookup y = some .cell)
    (hw : Swaps sc [.Tuple [.Name x px, .Name y py] n tpos] (.Tuple [e1, e2] m vpos) (some [x, y])) (h1 : EvK prog w Γ sc k σ ω e1 k1 d1) (h2 : EvK prog w Γ sc k σ ω e2 k2 d2) (hs1 : isStarred e1 = false := by rfl) (hs2 : isStarred e2 = false := by rfl) (hKx : x ∉ K := by decide) (hKy : y ∉ K := by decide) :
    Sx prog w Γ K sc k σ ω (.Assign [.Tuple [.Name x px, .Name y py] n tpos] (.Tuple [e1, e2] m vpos) pos) (.next (updσ k1 x d1 (updσ k2 y d2 σ)) (updω k1 x d1 (updω k2 y d2 ω))) := fun A E env base R0 s hr he hg hs => by
  refine xE (hs) fun R' t' => ?_
  try clear hs
  have t := t'.live
  refine Assign_Tuple_swapped (two_told hr he hg t (fun a ha => ha.2) h1 h2 hs1 hs2 fun v1 v2 s₁ s₂ T x₁ x₂ o1 o2 hT => ?_) rfl (hw env he)
  subst hT
  refine wpAny_unpackItems_tuple hr.hh (items := #[v1, v2]) ⟨_, Heap.get?_push_size _ rfl, rfl, _, rfl⟩ fun h₃ hx₃ => ?_
  have x₃ : ∀ b o, s₂.heap.get? b = some o → h₃.get? b = some o := fun b o e => hx₃ b o (by rw [Heap.size_push]; exact Nat.ne_of_lt (Nat.lt_succ_of_lt (Heap.lt_size e))) (Heap.get?_push_of_some _ e)
  show wpAny _ A (assignInOrder [fun v => bindName env y v, fun v => bindName env x v] [v2, v1]) _ _ _
  refine assignInOrder_cons (bindName_ ?_)
  refine wpAny_mono ((two_vals he t (fun a ha => ha.2) x₁ x₂ o1 o2 (tk := s₂.toks) hKx hKy x₃ hx hy).2 _ fun s' hp => hp) (fun _ s' h' => assignInOrder_cons (bindName_ (wpAny_mono h' (fun _ s'' hp => assignInOrder_nil hp) fun _ _ e => e))) fun _ _ e => e
end
end Mine

open PySem PySem.W PyProof.Rows
namespace Mine

/-- a list, a tuple or a dict stands there -/
noncomputable def SeqAt (h : Heap) (a : Addr) : Prop := ∃ o, h.get? a = some o ∧ ∀ fs, o.data ≠ .fields fs
theorem SeqAt.of {h : Heap} {a : Addr} {o : Obj} (e : h.get? a = some o) (hn : ∀ fs, o.data ≠ .fields fs) : SeqAt h a := ⟨o, e, hn⟩

theorem KIs.seq {R : Addr → Prop} {h : Heap} {k v} (x : KIs R h k v) : KIs (fun a => R a ∧ SeqAt h a) h k v := by
  induction x with
  | int i t => exact .int i t
  | str x t => exact .str x t
  | t2 r e _ _ ih1 ih2 => exact .t2 ⟨r, .of e nofun⟩ e ih1 ih2
  | t3 r e _ _ _ ih1 ih2 ih3 => exact .t3 ⟨r, .of e nofun⟩ e ih1 ih2 ih3
theorem Ents.seq {w : World} {R : Addr → Prop} {h : Heap} {ks es} (x : Ents w R h ks es) : Ents w (fun a => R a ∧ SeqAt h a) h ks es := by
  induction x with
  | nil => exact .nil
  | cons a _ ih => exact .cons a.seq ih
mutual
theorem Rp.seq {w : World} {R : Addr → Prop} {h : Heap} : ∀ {v : Value} {d : PyData}, Rp w R h v d → Rp w (fun a => R a ∧ SeqAt h a) h v d
  | _, _, .none => .none
  | _, _, .bool b => .bool b
  | _, _, .int i t => .int i t
  | _, _, .str x t => .str x t
  | _, _, .list r e l => .list ⟨r, .of e nofun⟩ e (RpAll.seq l)
  | _, _, .tuple r e l => .tuple ⟨r, .of e nofun⟩ e (RpAll.seq l)
  | _, _, .dict r e k n l => .dict ⟨r, .of e nofun⟩ e k.seq n (RpAll.seq l)
theorem RpAll.seq {w : World} {R : Addr → Prop} {h : Heap} : ∀ {vs : List Value} {ds : List PyData}, RpAll w R h vs ds → RpAll w (fun a => R a ∧ SeqAt h a) h vs ds
  | _, _, .nil => .nil
  | _, _, .cons a b => .cons (Rp.seq a) (RpAll.seq b)
end
theorem RpRoot.seq {w : World} {R h a d} (x : RpRoot w R h a d) : RpRoot w (fun a => R a ∧ SeqAt h a) h a d := by
  rcases x with ⟨vs, n, xs, e0, e, l⟩ | ⟨es, n, ks, xs, e0, e, k, nd, l⟩
  · exact .inl ⟨vs, n, xs, e0, e, l.seq⟩
  · exact .inr ⟨es, n, ks, xs, e0, e, k.seq, nd, l.seq⟩
theorem RpRoot.at {w : World} {R h a d} (x : RpRoot w R h a d) : SeqAt h a := by
  rcases x with ⟨vs, n, xs, e0, e, l⟩ | ⟨es, n, ks, xs, e0, e, k, nd, l⟩
  · exact .of e nofun
  · exact .of e nofun

section
variable {prog : Program} {w : World} {Γ : GEnv} {K : List Str} {sc : Scope} {k : Nat} {σ ω : Sg} {base : Shared} {R0 R : Addr → Prop} {env : Env} {s : Shared}

theorem FrOk.seqAt {h : Heap} (f : FrOk h env sc) {a} (o : Own env sc a) : SeqAt h a := by
  rcases o with rfl | ⟨x, h1, h2⟩
  · obtain ⟨m, o, es, ep, e, hd, _⟩ := f.ns; exact .of e (by rw [hd]; nofun)
  · refine xEEAEA (f.cells x h1) fun c v e1 o e2 hd => ?_
    rw [h2] at e1; cases e1; exact .of e2 (by rw [hd]; nofun)
namespace STR
theorem seq (t : STR w base R0 env sc R σ ω s) : STR w base R0 env sc (fun a => R a ∧ SeqAt s.heap a) σ ω s where
  same := t.same
  keep := t.keep
  fr := t.fr
  own0 := t.own0
  reg := fun a ha => t.reg a ha.1
  sr := ⟨t.sr.cells, fun x d hx => let ⟨v, b, p⟩ := t.sr.get x d hx; ⟨v, b, p.seq⟩⟩
  ow := fun x d hx => let ⟨a, b, h1, h2, h3, h4⟩ := t.ow x d hx; ⟨a, b, fun q => h1 q.1, h2, h3, h4.seq⟩
  inj := t.inj

/-- the region may be larger -/
theorem grow {R' : Addr → Prop} (t : STR w base R0 env sc R σ ω s) (h : ∀ a, R' a → (R0 a ∨ base.heap.get? a = none) ∧ ¬ Own env sc a ∧ ¬ Roots env ω s.heap a) : STR w base R0 env sc (fun a => R a ∨ R' a) σ ω s where
  same := t.same
  keep := t.keep
  fr := t.fr
  own0 := t.own0
  reg := fun a ha => ha.elim (t.reg a) fun q => ⟨(h a q).1, (h a q).2.1⟩
  sr := ⟨t.sr.cells, fun x d hx => let ⟨v, b, p⟩ := t.sr.get x d hx; ⟨v, b, p.mv (.sub fun _ => .inl)⟩⟩
  ow := fun x d hx => let ⟨a, b, h1, h2, h3, h4⟩ := t.ow x d hx; ⟨a, b, fun q => q.elim h1 fun q => (h a q).2.2 ⟨x, ⟨d, hx⟩, b⟩, h2, h3, h4.mv (.sub fun _ => .inl) fun _ e => e⟩
  inj := t.inj

/-- iterators are turned -/
theorem iter {W : Addr → Prop} {h' : Heap} {tk : Nat} (t : STR w base R0 env sc R σ ω s) (kp : Kp W s.heap h') (hW : ∀ a, W a → ∃ o fs, s.heap.get? a = some o ∧ o.data = .fields fs) (hb : ∀ a, W a → base.heap.get? a = none) (hcell : ∀ y c, env.cells.lookup y = some c → ¬ W c) :
    STR w base R0 env sc (fun a => R a ∧ SeqAt s.heap a) σ ω { s with heap := h', toks := tk } ∧ (∀ y u, Bd s.heap env y u → Bd h' env y u) := by
  have nW : ∀ a, SeqAt s.heap a → ¬ W a := fun a ⟨o, e, hn⟩ q => by obtain ⟨o', fs, e', hd⟩ := hW a q; rw [e] at e'; cases e'; exact hn _ hd
  have kb : ∀ y u, Bd s.heap env y u → Bd h' env y u := fun y u b => b.kp kp fun a o q e => by
    refine xEEA (hW a q) fun o' fs e' hd => ?_
    rw [e] at e'; cases e'; rw [hd]; exact ⟨nofun, nofun⟩
  have t' := t.seq
  refine ⟨⟨t.same.trans (.mk _ _), fun b o e => kp b o (fun q => by rw [hb b q] at e; cases e) (t.keep b o e), t.fr.kp kp fun a ha => nW a (t.fr.seqAt ha), t.own0, fun a ha => t.reg a ha.1, ⟨fun y c hy => ?_, fun x d hx => ?_⟩, fun x d hx => ?_, fun y z a hy hz b1 b2 => ?_⟩, kb⟩
  · refine xE (t.sr.cells y c hy) fun o e => ?_
    exact ⟨o, kp _ _ (hcell y c hy) e⟩
  · refine xEA (t'.sr.get x d hx) fun v b p => ?_
    exact ⟨v, kb _ _ b, p.mv (.kp kp fun a ha => nW a ha.2)⟩
  · refine xEAAAA (t'.ow x d hx) fun a b h1 h2 h3 h4 => ?_
    exact ⟨a, kb _ _ b, h1, h2, h3, h4.mv (.kp kp fun a ha => nW a ha.2) fun o e => kp a o (nW a h4.at) e⟩
  · refine xE (hy) fun dy hy' => ?_
    try clear hy
    refine xE (hz) fun dz hz' => ?_
    try clear hz
    refine xEA (t.ow y dy hy') fun a1 c1 _ => ?_
    refine xEA (t.ow z dz hz') fun a2 c2 _ => ?_
    have e1 := b1.fn (kb _ _ c1); cases e1
    have e2 := b2.fn (kb _ _ c2); cases e2
    exact t.inj y z _ ⟨dy, hy'⟩ ⟨dz, hz'⟩ c1 c2

/-- a target was given an item -/
theorem tgt {s' : Shared} {τ : Sg} (t : STR w base R0 env sc R σ ω s) (sm : Same s s') (kp : Kp (Own env sc) s.heap s'.heap) (fr : FrOk s'.heap env sc) (sg : SG w R s'.heap env τ) (kb : ∀ y u, τ.lookup y = none → Bd s.heap env y u → Bd s'.heap env y u)
    (hτ : ∀ x d, ω.lookup x = some d → τ.lookup x = none) : STR w base R0 env sc R (τ ++ σ) ω s' := by
  have lv : Live s.heap s'.heap := fun a o e => by
    by_cases q : Own env sc a
    · exact fr.alive q
    · exact ⟨o, kp a o q e⟩
  refine ⟨t.same.trans sm, fun b o e => kp b o (fun q => by rw [t.own0 b q] at e; cases e) (t.keep b o e), fr, t.own0, t.reg, ⟨fun y c hy => ?_, fun x d hx => ?_⟩, fun x d hx => ?_, fun y z a hy hz b1 b2 => ?_⟩
  · obtain ⟨o, e⟩ := t.sr.cells y c hy; exact lv _ _ e
  · rw [lookup_append] at hx
    cases hh : τ.lookup x with
    | some d' => rw [hh] at hx; cases hx; exact sg x _ hh
    | none =>
      rw [hh] at hx
      refine xEA (t.sr.get x d hx) fun v b p => ?_
      exact ⟨v, kb _ _ hh b, p.mv (.kp kp fun a ha => (t.reg a ha).2)⟩
  · refine xEAAAA (t.ow x d hx) fun a b h1 h2 h3 h4 => ?_
    exact ⟨a, kb _ _ (hτ x d hx) b, h1, h2, h3, h4.mv (.kp kp fun a ha => (t.reg a ha).2) fun o e => kp a o h2 e⟩
  · refine xE (hy) fun dy hy' => ?_
    try clear hy
    refine xE (hz) fun dz hz' => ?_
    try clear hz
    refine xEA (t.ow y dy hy') fun a1 c1 _ => ?_
    refine xEA (t.ow z dz hz') fun a2 c2 _ => ?_
    have e1 := b1.fn (kb _ _ (hτ y dy hy') c1); cases e1
    have e2 := b2.fn (kb _ _ (hτ z dz hz') c2); cases e2
    exact t.inj y z _ ⟨dy, hy'⟩ ⟨dz, hz'⟩ c1 c2
end STR

theorem codeAny_forLoop_gen {A : Around} {R : Result → Shared → Prop} {s : Shared} {target : Expr} {it : Value} {body orelse : List Stmt} {env : Env} (I : Nat → Shared → Prop)
    (turn : ∀ n s, I n s → ∀ E', wpAny (model prog w) A (pyNext it) (fun r s₁ => match r with
      | none => wpAny (model prog w) A (execs orelse env) (fun f s₃ => R (.ok f) s₃) E' s₁
      | some v => wpAny (model prog w) A (letOwnedTupleGo target it v) (fun _ s₁' => wpAny (model prog w) A (assign target env v) (fun _ s₂ => wpAny (model prog w) A (execs body env) (fun f s₃ => match f with
          | .next | .cont => ∃ m, m < n ∧ I m s₃
          | .brk => R (.ok .next) s₃
          | .ret v => R (.ok (.ret v)) s₃) E' s₂) E' s₁') E' s₁) E' s)
    (n : Nat) (h : I n s) : codeAny (model prog w) A (.forLoop target it body orelse env) R s := by
  refine codeAny_loop' rfl I (fun n s hI => ?_) n h
  show wpAny _ _ ((forTurn target it body orelse env).onRaise (fun x => do noteFrame x env; theTreesLotGoes x)) _ _ s
  refine wpAny_noted ?_
  simp only [forTurn]
  refine wpAny_bind (wpAny_standAt (wpAny_bind (wpAny_onRaise (wpAny_mono (turn n s hI _) (fun r s₁ h₁ => ?_) fun _ _ h' => wpAny_standAt h'))))
  cases r with
  | none => exact wpAny_pure (.inr ⟨rfl, codeAny_block h₁⟩)
  | some v =>
    refine wpAny_bind (wpAny_mono h₁ (fun _ s₁' h₁' => ?_) fun _ _ h' => h')
    refine wpAny_bind (wpAny_mono h₁' (fun _ s₂ h₂ => wpAny_bind (wpAny_mono h₂ (fun f s₃ h₃ => ?_) fun _ _ h' => h')) fun _ _ h' => h')
    cases f with
    | next => exact wpAny_pure (.inl ⟨rfl, h₃⟩)
    | cont => exact wpAny_pure (.inl ⟨rfl, h₃⟩)
    | brk => exact wpAny_pure h₃
    | ret v => exact wpAny_pure h₃

theorem Sx.forLoop {target iter : Expr} {body : List Stmt} {pos : Pos} {T : Expr → Prop} {ds : List PyData} (S : Nat → Sg × Sg) (hit : It prog w Γ sc k σ iter T ds) (hset : ∀ env x, foldedSetIterable iter env x = pure x) (hT : T target)
    (h0σ : ∀ x d, (S 0).1.lookup x = some d → σ.lookup x = some d) (h0ω : (S 0).2 = ω)
    (hturn : ∀ (i : Nat) (d : PyData), ds[i]? = some d → ∃ τ, Tgt prog w sc target d τ ∧ (∀ y ∈ K, τ.lookup y = none) ∧ (∀ x d, (S i).2.lookup x = some d → τ.lookup x = none) ∧ Ss prog w Γ K sc k (τ ++ (S i).1) (S i).2 body (.next (S (i + 1)).1 (S (i + 1)).2)) :
    Sx prog w Γ K sc k σ ω (.For target iter body [] pos) (.next (S ds.length).1 (S ds.length).2) := fun A E env base R0 s hr he hg hs => by
  refine xE (hs) fun R t0 => ?_
  try clear hs
  have t := t0.live
  refine wpAny_For (wpAny_mono (hit A E env _ s hr he (t.baseIn hg) t.sr) (fun xv s₁ h₁ => wpAny_mono h₁ (fun itv s₂ h₂ => ?_) fun _ _ e => e) fun _ _ e => e) (hset env)
  refine xAEEEEEAAAAA (h₂) fun x₂ I fp wr Rd St zE1 W hst hwr hfp hRd => ?_
  try clear h₂
  subst zE1
  have wrB : ∀ a, wr a → base.heap.get? a = none := fun a ha => fresh_back t.keep (hwr a ha).1
  have wrC : ∀ y c, env.cells.lookup y = some c → ¬ wr c := fun y c hy q => by obtain ⟨o, e⟩ := t.sr.cells y c hy; rw [(hwr c q).1] at e; cases e
  -- nothing of the iterator's is the frame's
  have nOwn : ∀ a, Nw (fun a => R a ∧ (s.heap.get? a).isSome = true) s a → ¬ Own env sc a := fun a ha q => by
    rcases ha with ha | ha
    · exact (t.reg a ha).2 q
    · obtain ⟨o, e⟩ := t.fr.alive q; rw [ha] at e; cases e
  have nRoot : ∀ a, Nw (fun a => R a ∧ (s.heap.get? a).isSome = true) s a → ¬ Roots env ω s.heap a := fun a ha q => by
    refine xAA (t.rootAlive q) fun zE2 hn _ => ?_
    refine xE (zE2) fun o e => ?_
    try clear zE2
    rcases ha with ha | ha
    · exact hn ha
    · rw [ha] at e; cases e
  have roots2 : ∀ a, Roots env ω s₂.heap a → Roots env ω s.heap a := fun a q => t.roots_back (fun y u _ b => b.keep x₂.keep) q
  refine codeAny_forLoop_gen (fun kk s' => ∃ i, i ≤ ds.length ∧ kk = ds.length + 1 - i ∧ Same s₂ s' ∧ St i s'.heap ∧ ST w base R0 env sc (S i).1 (S i).2 s' ∧ Kp (fun a => Own env sc a ∨ Roots env ω s.heap a ∨ wr a) s₂.heap s'.heap ∧ Live s₂.heap s'.heap ∧
      (∀ a, Roots env (S i).2 s'.heap a → Roots env ω s.heap a ∨ s₂.heap.get? a = none) ∧ ∀ y ∈ K, ∀ u, Bd s.heap env y u → Bd s'.heap env y u) ?_ (ds.length + 1)
    ⟨0, Nat.zero_le _, rfl, .refl _, hst, Sub.st h0σ (fun x d hx => by rw [← h0ω]; exact hx) ⟨_, t.ex x₂⟩, .refl _ _, .refl _, fun a ha => .inl (roots2 a (h0ω ▸ ha)), fun y _ u b => b.keep x₂.keep⟩
  rintro kk s₃ ⟨i, hi, rfl, sm₃, hst₃, ⟨Ri, ti⟩, kp₃, lv₃, rg₃, kbd₃⟩ E'
  have wrAt : ∀ a, wr a → ∃ o fs, s₃.heap.get? a = some o ∧ o.data = .fields fs := fun a ha => W.alive _ _ hst₃ a ha
  by_cases hlt : i < ds.length
  · obtain ⟨d, hd⟩ : ∃ d, ds[i]? = some d := ⟨_, List.getElem?_eq_getElem hlt⟩
    refine xEAAA (hturn i d hd) fun τ htg hτK hτ hbody => ?_
    refine W.item i d _ _ _ hd hst₃ fun v h' tk hgo => ?_
    refine hgo target _ _ hT fun h₄ kp₄ hv hst₄ => ?_
    refine xA (ti.iter (tk := tk) kp₄ wrAt wrB wrC) fun t₄ kb₄ => ?_
    have rb₄ : ∀ a, Roots env (S i).2 h₄ a → Roots env (S i).2 s₃.heap a := fun a q => ti.roots_back (s' := { s₃ with heap := h₄ }) (fun y u _ b => kb₄ y u b) q
    have lv₄ : Live s₃.heap h₄ := fun a o e => by
      by_cases q : wr a
      · obtain ⟨o', _, e', _⟩ := W.alive _ _ hst₄ a q; exact ⟨o', e'⟩
      · exact ⟨o, kp₄ a o q e⟩
    let Rn : Addr → Prop := fun a => (Rd a ∨ s₃.heap.get? a = none) ∧ (h₄.get? a).isSome = true
    have t₅ := t₄.grow (R' := Rn) fun a ⟨ha, _⟩ => by
      rcases ha with ha | ha
      · refine xAA (hRd a ha) fun h1 h2 h3 => ?_
        refine ⟨?_, nOwn a h1, fun q => ?_⟩
        · rcases h1 with h1 | h1
          · exact (t.reg a h1).1
          · exact .inr (fresh_back t.keep h1)
        · rcases rg₃ a (rb₄ a q) with q | q
          · exact nRoot a h1 q
          · rw [q] at h2; cases h2
      · refine ⟨.inr (fresh_back ti.keep ha), fun q => ?_, fun q => ?_⟩
        · obtain ⟨o, e⟩ := ti.fr.alive q; rw [ha] at e; cases e
        · obtain ⟨⟨o, e⟩, _⟩ := ti.rootAlive (rb₄ a q); rw [ha] at e; cases e
    have hv' : Rp w (fun a => (Ri a ∧ SeqAt s₃.heap a) ∨ Rn a) h₄ v d := hv.mv fun a o ha e => ⟨.inr ⟨ha, by rw [e]; rfl⟩, e⟩
    refine wpAny_mono (htg A E' env _ { s₃ with heap := h₄, toks := tk } v hr.hh he t₄.fr hv' fun a ha => (t₅.reg a ha).2) (fun _ s₆ ⟨sm₆, kp₆, fr₆, sg₆, kb₆⟩ => ?_) fun _ _ e => e
    have t₆ := t₅.tgt sm₆ kp₆ fr₆ sg₆ kb₆ hτ
    have rb₆ : ∀ a, Roots env (S i).2 s₆.heap a → Roots env (S i).2 h₄ a := fun a q => t₅.roots_back (fun y u hy b => let ⟨d, hy⟩ := hy; kb₆ y u (hτ y d hy) b) q
    have lv₆ : Live h₄ s₆.heap := fun a o e => by
      by_cases q : Own env sc a
      · exact fr₆.alive q
      · exact ⟨o, kp₆ a o q e⟩
    refine wpAny_mono (hbody A E' env base R0 s₆ hr he hg ⟨_, t₆⟩) (fun f s₇ hp => ?_) fun _ _ e => e
    refine xAAAAA (hp) fun zE3 t₇ kp₇ lv₇ rg₇ kbd₇ => ?_
    try clear hp
    subst zE3
    have lv26 : Live s₂.heap s₆.heap := lv₃.trans (lv₄.trans lv₆)
    have r62 : ∀ a, Roots env (S i).2 s₆.heap a → Roots env ω s.heap a ∨ s₂.heap.get? a = none := fun a q => rg₃ a (rb₄ a (rb₆ a q))
    refine ⟨ds.length + 1 - (i + 1), by omega, i + 1, hlt, rfl, sm₃.trans ((Same.mk _ _).trans (sm₆.trans ?_)), W.frame _ _ _ hst₄ fun b o hb e => kp₇ b o (fun q => ?_) (kp₆ b o (nOwn b (hfp b hb).1) e), t₇, fun b o hb e => ?_, lv26.trans lv₇, fun a ha => ?_, fun y hy u b => kbd₇ y hy u (kb₆ y u (hτK y hy) (kb₄ y u (kbd₃ y hy u b)))⟩
    · refine xE (t₇) fun R7 t7 => ?_
      try clear t₇
      refine xEE (t₆.same) fun h6 k6 e6 => ?_
      refine xEE (t7.same) fun h7 k7 e7 => ?_
      exact ⟨h7, k7, by rw [e7, e6]⟩
    · rcases q with q | q
      · exact nOwn b (hfp b hb).1 q
      · rcases r62 b q with q | q
        · exact nRoot b (hfp b hb).1 q
        · have := (hfp b hb).2; rw [q] at this; cases this
    · have e3 := kp₃ b o hb e
      have e4 := kp₄ b o (fun q => hb (.inr (.inr q))) e3
      have e6 := kp₆ b o (fun q => hb (.inl q)) e4
      refine kp₇ b o (fun q => ?_) e6
      rcases q with q | q
      · exact hb (.inl q)
      · rcases r62 b q with q | q
        · exact hb (.inr (.inl q))
        · rw [q] at e; cases e
    · rcases rg₇ a ha with q | q
      · exact r62 a q
      · exact .inr (lv26.fresh q)
  · obtain rfl : i = ds.length := by omega
    refine W.done _ _ _ hst₃ fun h₄ tk kp₄ => wpAny_execs_nil ?_
    refine xA (ti.iter (tk := tk) kp₄ wrAt wrB wrC) fun t₄ kb₄ => ?_
    refine ⟨rfl, ⟨_, t₄⟩, fun b o hb e => ?_, fun a o e => ?_, fun a ha => ?_, fun y hy u b => kb₄ y u (kbd₃ y hy u b)⟩
    · have e2 := x₂.keep _ _ e
      have nw : ¬ wr b := fun q => by rw [(hwr b q).1] at e; cases e
      exact kp₄ b o nw (kp₃ b o (fun q => q.elim (fun q => hb (.inl q)) fun q => q.elim (fun q => hb (.inr q)) nw) e2)
    · refine xE (lv₃ a o (x₂.keep _ _ e)) fun o' e' => ?_
      exact ⟨o', kp₄ a o' (fun q => by rw [(hwr a q).1] at e; cases e) e'⟩
    · rcases rg₃ a (ti.roots_back (s' := { s₃ with heap := h₄ }) (fun y u _ b => kb₄ y u b) ha) with q | q
      · exact .inl q
      · exact .inr (fresh_back x₂.keep q)
end
end Mine

open PySem PySem.W PyProof.Rows
namespace Mine

section
variable {prog : Program} {w : World} {Γ : GEnv} {K : List Str} {sc : Scope} {k : Nat} {σ ω : Sg} {base : Shared} {R0 R : Addr → Prop} {env : Env} {s : Shared}

theorem loadBd {A : Around} {E : Value → Shared → Prop} {x : Str} {px : Pos} {v : Value} {Q : Value → Shared → Prop} (he : EnvOk sc env) (hb : Bd s.heap env x v) (h : Q v s) (hd : (x == ("__debug__" : Str)) = false) (hn : (x == ("__classdict__" : Str)) = false) :
    wpAny (model prog w) A (eval (.Name x px) env) Q E s := by
  refine wpAny_Name ?_ hd
  cases hb with
  | loc hk hm => obtain ⟨m, hm, hv⟩ := hm; exact wpAny_loadName_local he.kind hk hm hv h
  | cell hk hc =>
    obtain ⟨c, hc, hv⟩ := hc
    rcases hk with hk | hk
    · exact wpAny_loadName_cell he.kind hk hc hv h
    · exact wpAny_loadName_free he.kind hk hc hv h hn

theorem interactive_no (he : EnvOk sc env) : interactive env = false := by unfold interactive; rw [he.kind]; rfl

/-- a root is turned -/
theorem STR.root {x : Str} {a : Addr} {d d' : PyData} {h' : Heap} {tk : Nat} {N : Addr → Prop} (t : STR w base R0 env sc R σ ω s) (hx : ω.lookup x = some d) (hb : Bd s.heap env x (.ref a)) (kp : Kp (fun b => b = a) s.heap h')
    (hN : ∀ b, N b → (R0 b ∨ base.heap.get? b = none) ∧ ¬ Own env sc b ∧ ¬ Roots env ω s.heap b) (hr : RpRoot w (fun b => R b ∨ N b) h' a d') (hσ : σ.lookup x = none) :
    ST w base R0 env sc σ ((x, d') :: del x ω) { s with heap := h', toks := tk } ∧ Kp (fun b => Own env sc b ∨ Roots env ω s.heap b) s.heap h' ∧ Live s.heap h' ∧ (∀ b, Roots env ((x, d') :: del x ω) h' b → Roots env ω s.heap b) ∧ ∀ y u, Bd s.heap env y u → Bd h' env y u := by
  refine xAAAA (t.rootAlive ⟨x, ⟨d, hx⟩, hb⟩) fun zE1 nR nO nB nC => ?_
  refine xE (zE1) fun oa ea => ?_
  try clear zE1
  have kb : ∀ y u, Bd s.heap env y u → Bd h' env y u := fun y u b => b.kpR kp (fun q => nO (.inl q.symm)) fun c o cv q e => by cases q; exact nC o cv e
  have lv : Live s.heap h' := fun b o e => by
    by_cases q : b = a
    · subst q; exact hr.alive
    · exact ⟨o, kp b o q e⟩
  have cons_has : ∀ y, Has ((x, d') :: del x ω) y → Has ω y := fun y hy => by
    by_cases q : y = x
    · subst q; exact ⟨d, hx⟩
    · obtain ⟨dd, hy⟩ := hy
      rw [lookup_cons_ne q] at hy
      exact (Has.del ⟨dd, hy⟩).2
  have back : ∀ y b, Has ω y → Bd h' env y (.ref b) → Bd s.heap env y (.ref b) := fun y b ⟨dy, hy⟩ hb' => by
    refine xEA (t.ow y dy hy) fun a1 c1 _ => ?_
    have := hb'.fn (kb _ _ c1); cases this; exact c1
  refine ⟨⟨fun b => R b ∨ N b, t.same.trans (.mk _ _), fun b o e => kp b o (fun q => by rw [q, nB] at e; cases e) (t.keep b o e), t.fr.kp kp fun b hb q => nO (q ▸ hb), t.own0, fun b hb => hb.elim (t.reg b) fun q => ⟨(hN b q).1, (hN b q).2.1⟩,
    ⟨fun y c hy => ?_, fun y dy hy => ?_⟩, fun y dy hy => ?_, fun y z b hy hz b1 b2 => t.inj y z b (cons_has y hy) (cons_has z hz) (back y b (cons_has y hy) b1) (back z b (cons_has z hz) b2)⟩, kp.mono fun b q => .inr (q ▸ ⟨x, ⟨d, hx⟩, hb⟩), lv,
    fun b ⟨y, hy, hb'⟩ => ⟨y, cons_has y hy, back y b (cons_has y hy) hb'⟩, kb⟩
  · obtain ⟨o, e⟩ := t.sr.cells y c hy; exact lv _ _ e
  · refine xEA (t.sr.get y dy hy) fun v b p => ?_
    exact ⟨v, kb _ _ b, p.mv fun b o hb e => ⟨.inl hb, kp b o (fun q => nR (q ▸ hb)) e⟩⟩
  · by_cases q : y = x
    · subst q
      rw [lookup_cons_self] at hy; cases hy
      exact ⟨a, kb _ _ hb, fun q => q.elim nR fun q => (hN a q).2.2 ⟨y, ⟨d, hx⟩, hb⟩, nO, nB, hr⟩
    · rw [lookup_cons_ne q, del_ne q] at hy
      refine xEAAAA (t.ow y dy hy) fun a' b' h1 h2 h3 h4 => ?_
      have hne : a' ≠ a := fun e => q (t.inj y x a ⟨dy, hy⟩ ⟨d, hx⟩ (e ▸ b') hb)
      exact ⟨a', kb _ _ b', fun q => q.elim h1 fun q => (hN a' q).2.2 ⟨y, ⟨dy, hy⟩, b'⟩, h2, h3, h4.mv (fun b o hb e => ⟨.inl hb, kp b o (fun q => nR (q ▸ hb)) e⟩) fun o e => kp a' o hne e⟩
end
end Mine

open PySem PySem.W PyProof.Rows
namespace Mine

section
variable {prog : Program} {w : World} {Γ : GEnv} {K : List Str} {sc : Scope} {k : Nat} {σ ω : Sg} {base : Shared} {R0 R : Addr → Prop} {env : Env} {s s₁ : Shared}

theorem STR.turned {x : Str} {a : Addr} {d d' : PyData} {h' : Heap} {tk : Nat} (t : STR w base R0 env sc R σ ω s) (x₁ : Ex s s₁) (hx : ω.lookup x = some d) (hσ : σ.lookup x = none) (hb : Bd s.heap env x (.ref a)) (kp : Kp (fun b => b = a) s₁.heap h')
    (hr : RpRoot w (Nw R s) h' a d') : Post K w base R0 env sc ω s (.next σ ((x, d') :: del x ω)) .next { s₁ with heap := h', toks := tk } := by
  have t₁ := t.ex x₁
  obtain ⟨q1, q2, q3, q4, q5⟩ := t₁.root (N := fun b => s.heap.get? b = none) (tk := tk) hx (hb.keep x₁.keep) kp (fun b hb => ⟨.inr (fresh_back t.keep hb), (fun q => by obtain ⟨o, e⟩ := t.fr.alive q; rw [hb] at e; cases e), (fun q => by
    refine xA (t.rootAlive (t.roots_back (fun y u _ b => b.keep x₁.keep) q)) fun zE1 _ => ?_
    refine xE (zE1) fun o e => ?_
    try clear zE1
    rw [hb] at e; cases e)⟩) hr hσ
  exact Post.trans x₁.kp x₁.live (fun a ha => .inl (t.roots_back (fun y u _ b => b.keep x₁.keep) ha)) (fun y _ u b => b.keep x₁.keep) ⟨rfl, q1, q2, q3, fun a ha => .inl (q4 a ha), fun y _ u b => q5 y u b⟩

theorem STR.rootList {x : Str} {xs : List PyData} (t : STR w base R0 env sc R σ ω s) (hx : ω.lookup x = some (.list xs)) : ∃ a vs n, Bd s.heap env x (.ref a) ∧ ¬ R a ∧ s.heap.get? a = some (LObj vs n) ∧ RpAll w R s.heap vs.toList xs := by
  refine xEAAAA (t.ow x _ hx) fun a b h1 h2 h3 h4 => ?_
  rcases h4 with ⟨vs, n, ys, e0, e, l⟩ | ⟨es, n, ks, ys, e0, _⟩
  · have zC := PySem.PyData.list.inj e0
    clear e0
    subst zC
    exact ⟨a, vs, n, b, h1, e, l⟩
  · cases e0

/-- a plain value told: by the frame's data, or a scalar by all of it -/
theorem EvK.told {e d} (h : EvK prog w Γ sc k σ ω e .plain d) {A : Around} {E : Value → Shared → Prop} (hr : Room k A) (he : EnvOk sc env) (hg : Γ.In base.heap) (t : STR w base R0 env sc R σ ω s) :
    wpAny (model prog w) A (eval e env) (Out w R s d) E s :=
  wpAny_mono (h.run hr he hg t) (fun v s' q => ⟨q.1, q.2.mv (.sub fun a q => q.imp (·.1) id)⟩) fun _ _ e => e

theorem starOne {e : Expr} (hs : isStarred e = false) : starEach [e] env = [(false, eval e env)] := by cases e <;> first | rfl | (simp [isStarred] at hs; done)

theorem RpAll.kpNot {w : World} {R : Addr → Prop} {h h' : Heap} {a : Addr} {vs ds} (p : RpAll w R h vs ds) (kp : Kp (fun b => b = a) h h') (hR : ¬ R a) : RpAll w R h' vs ds := p.mv (.kp kp fun b hb q => hR (q ▸ hb))

theorem Sx.append {x px apos e pos pos' xs d} (hx : ω.lookup x = some (.list xs)) (hσ : σ.lookup x = none) (he' : EvK prog w Γ sc k σ ω e .plain d) (hsz : xs.length ≤ sizeLine)
    (hs : isStarred e = false := by rfl) (hline : (apos.endLine == pos.line) = true := by rfl) (hd : (x == ("__debug__" : Str)) = false := by decide) (hn : (x == ("__classdict__" : Str)) = false := by decide) :
    Sx prog w Γ K sc k σ ω (.Expr (.Call (.Attribute (.Name x px) "append" apos) [e] [] pos) pos') (.next σ ((x, .list (xs ++ [d])) :: del x ω)) := fun A E env base R0 s hr he hg hs' => by
  refine xE (hs') fun R t => ?_
  try clear hs'
  refine xEEEAAA (t.rootList hx) fun a vs n hb hRa ho hl => ?_
  refine wpAny_Expr_any ?_ (interactive_no he) (by rfl)
  refine Call_method1 rfl (starOne hs) hline (loadBd he hb ?_ hd hn)
  refine ⟨"list", "list.append", F.plainAttrs_list, F.slot_list_append, F.type_list_append, ⟨_, ho, rfl⟩, fun b e => by cases e; exact ⟨_, ho, rfl⟩, PySem.P.append_list (wpAny_mono (he'.told hr he hg t) (fun v s₁ ⟨x₁, p⟩ => ?_) fun _ _ e => e)⟩
  have hl' := hl.length
  have aO := x₁.keep _ _ ho
  simp only [Array.length_toList] at hl'
  refine ⟨vs, n, by omega, aO, ?_⟩
  have kp : Kp (fun b => b = a) s₁.heap (s₁.heap.update a (Obj.mapSeq fun xs => xs.push v)) := fun b o hb e => Heap.get?_update_of_ne _ (fun q => hb q.symm) e
  have nA : ¬ Nw R s a := fun q => q.elim hRa fun q => by rw [ho] at q; cases q
  have hl2 := ((hl.keeps x₁).mv (Nw.mv0 (s := s) _)).kpNot kp nA
  exact t.turned (tk := s₁.toks) x₁ hx hσ hb kp (.inl ⟨_, _, _, rfl, PySem.IsL.update aO _, by simpa using hl2.append (.cons (p.mv (.kp kp fun b hb q => nA (q ▸ hb))) .nil)⟩)

theorem listTooLong_not {n : Nat} (h : n ≤ sizeLine) (b : Bool) : ¬(b && Builtin.List.listTooLong n) = true := by
  unfold Builtin.List.listTooLong
  simp; intro _; omega

/-- a list of what is told, within data or of scalars -/
noncomputable def EvL (prog : Program) (w : World) (Γ : GEnv) (sc : Scope) (k : Nat) (σ ω : Sg) (e : Expr) (ys : List PyData) : Prop :=
  Ev prog w Γ sc k σ e (.list ys) ∨ (Ev prog w Γ sc k (σ ++ ω) e (.list ys) ∧ ys.all Scalar = true)

theorem Sx.extend {x px apos e pos pos' xs ys} (hx : ω.lookup x = some (.list xs)) (hσ : σ.lookup x = none) (he' : EvL prog w Γ sc k σ ω e ys) (hsz : xs.length + ys.length ≤ sizeLine)
    (hs : isStarred e = false := by rfl) (hline : (apos.endLine == pos.line) = true := by rfl) (hd : (x == ("__debug__" : Str)) = false := by decide) (hn : (x == ("__classdict__" : Str)) = false := by decide) :
    Sx prog w Γ K sc k σ ω (.Expr (.Call (.Attribute (.Name x px) "extend" apos) [e] [] pos) pos') (.next σ ((x, .list (xs ++ ys)) :: del x ω)) := fun A E env base R0 s hr he hg hs' => by
  refine xE (hs') fun R t => ?_
  try clear hs'
  refine xEEEAAA (t.rootList hx) fun a vs n hb hRa ho hl => ?_
  refine wpAny_Expr_any ?_ (interactive_no he) (by rfl)
  refine Call_method1 rfl (starOne hs) hline (loadBd he hb ?_ hd hn)
  have hl' := hl.length
  refine ⟨"list", "list.extend", F.plainAttrs_list, F.slot_list_extend, F.type_list_extend, ⟨_, ho, rfl⟩, fun b e => by cases e; exact ⟨_, ho, rfl⟩, PySem.P.extend_list (wpAny_mono (Q := fun v s₁ => Ex s s₁ ∧ ∃ b us m, v = .ref b ∧ s₁.heap.get? b = some (LObj us m) ∧ RpAll w (Nw R s) s₁.heap us.toList ys) ?_ (fun v s₁ ⟨x₁, b, us, m, e, hbo, p⟩ => ?_) fun _ _ e => e)⟩
  · rcases he' with h | ⟨h, hd⟩
    · refine wpAny_mono (h A E env R s hr he (t.baseIn hg) t.sr) (fun v s₁ ⟨x₁, p⟩ => ?_) fun _ _ e => e
      induction p using Rp.elimList with
      | list hR e l => exact ⟨x₁, _, _, _, rfl, e, l⟩
    · refine wpAny_mono (h A E env _ s hr he (t.baseIn hg) t.view) (fun v s₁ ⟨x₁, p⟩ => ?_) fun _ _ e => e
      induction p using Rp.elimList with
      | list hR e l => exact ⟨x₁, _, _, _, rfl, e, l.scalar hd⟩
  have aO := x₁.keep _ _ ho
  have hp := p.length
  simp only [Array.length_toList] at hp hl'
  refine ⟨b, vs, us, n, m, by omega, by omega, listTooLong_not (by omega) _, e, aO, hbo, ?_⟩
  have kp : Kp (fun b => b = a) s₁.heap (s₁.heap.update a (Obj.mapSeq fun xs => xs ++ us)) := fun b o hb e => Heap.get?_update_of_ne _ (fun q => hb q.symm) e
  have nA : ¬ Nw R s a := fun q => q.elim hRa fun q => by rw [ho] at q; cases q
  have hl2 := ((hl.keeps x₁).mv (Nw.mv0 (s := s) _)).kpNot kp nA
  exact t.turned (tk := s₁.toks) x₁ hx hσ hb kp (.inl ⟨_, _, _, rfl, PySem.IsL.update aO _, by simpa using hl2.append (p.kpNot kp nA)⟩)
end
end Mine

open PySem PySem.W PyProof.Rows
namespace Mine

section
variable {prog : Program} {w : World} {Γ : GEnv} {K : List Str} {sc : Scope} {k : Nat} {σ ω : Sg} {base : Shared} {R0 R : Addr → Prop} {env : Env} {s s₁ : Shared}

/-- a list's item is set: the list's own object -/
theorem setItem_L {A : Around} {E : Value → Shared → Prop} {l : Addr} {vs : Array Value} {n j : Nat} {t : Tok} {v : Value} {Q : Unit → Shared → Prop} (ho : s.heap.get? l = some (LObj vs n)) (hj : j < vs.size) (hfit : (j : Int) < 2 ^ 63)
    (hQ : Q () { s with heap := s.heap.update l (Obj.mapSeq (·.setIfInBounds j v)) }) : wpAny (model prog w) A (setItem (.ref l) (.int (j : Int) t) v) Q E s :=
  ki_setAt (n := n) ho (Int.natCast_nonneg j) hfit (Int.ofNat_lt.mpr hj) hQ

theorem RpAll.set {R : Addr → Prop} {h : Heap} {v : Value} {d : PyData} (hv : Rp w R h v d) : ∀ {vs : List Value} {ds : List PyData} (j : Nat), RpAll w R h vs ds → RpAll w R h (vs.set j v) (ds.set j d)
  | _, _, _, .nil => .nil
  | _, _, 0, .cons a b => .cons hv b
  | _, _, j + 1, .cons a b => .cons a (RpAll.set hv j b)

/-- x[i] = e, x a list of the frame's own -/
theorem Sx.setL {x px i spos e pos xs d} {j : Nat} (hx : ω.lookup x = some (.list xs)) (hσ : σ.lookup x = none) (he' : EvK prog w Γ sc k σ ω e .plain d) (hi : Ev prog w Γ sc k (σ ++ ω) i (.int (j : Int))) (hj : j < xs.length) (hfit : j < 2 ^ 63)
    (hsw : ∀ env : Env, EnvOk sc env → swapsWith e (some (.Subscript (.Name x px) i spos)) pos.line env = pure false := by intro _ _; rfl)
    (hd : (x == ("__debug__" : Str)) = false := by decide) (hn : (x == ("__classdict__" : Str)) = false := by decide) :
    Sx prog w Γ K sc k σ ω (.Assign [.Subscript (.Name x px) i spos] e pos) (.next σ ((x, .list (xs.set j d)) :: del x ω)) := fun A E env base R0 s hr he hg hs' => by
  refine xE (hs') fun R t => ?_
  try clear hs'
  refine xEEEAAA (t.rootList hx) fun a vs n hb hRa ho hl => ?_
  refine wpAny_Assign_Subscript (wpAny_mono (he'.told hr he hg t) (fun v s₁ ⟨x₁, p⟩ => ?_) fun _ _ e => e) (hsw env he)
  refine loadBd he (hb.keep x₁.keep) ?_ hd hn
  have t₁ := t.ex x₁
  refine wpAny_mono (hi A E env _ s₁ hr he (t₁.baseIn hg) t₁.view) (fun iv s₂ ⟨x₂, pi⟩ => ?_) fun _ _ e => e
  induction pi using Rp.elimInt with
  | int ti =>
    have x₁₂ := x₁.trans x₂
    have aO := x₁₂.keep _ _ ho
    have hl' := hl.length
    simp only [Array.length_toList] at hl'
    refine setItem_L aO (by omega) (by omega) ?_
    have kp : Kp (fun b => b = a) s₂.heap (s₂.heap.update a (Obj.mapSeq (·.setIfInBounds j v))) := fun b o hb e => Heap.get?_update_of_ne _ (fun q => hb q.symm) e
    have nA : ¬ Nw R s a := fun q => q.elim hRa fun q => by rw [ho] at q; cases q
    have hl2 := ((hl.keeps x₁₂).mv (Nw.mv0 (s := s) _)).kpNot kp nA
    exact t.turned (tk := s₂.toks) x₁₂ hx hσ hb kp (.inl ⟨_, _, _, rfl, PySem.IsL.update aO _, by simpa using RpAll.set ((p.keeps x₂).mv (.kp kp fun b hb q => nA (q ▸ hb))) j hl2⟩)

end
end Mine

open PySem PySem.W PyProof.Rows
namespace Mine

noncomputable def HK.draws : HK → Nat
  | .int _ | .str _ => 1
  | .t2 a b => a.draws + (b.draws + 0) + 1
  | .t3 a b c => a.draws + (b.draws + (c.draws + 0)) + 1
noncomputable def HK.height : HK → Nat
  | .int _ | .str _ => 0
  | .t2 a b => max a.height b.height + 1
  | .t3 a b c => max a.height (max b.height c.height) + 1
/-- a tuple, of words that are words, not deep -/
noncomputable def HK.good (k : HK) : Bool := k.py.canLay0 && decide (k.height ≤ 4)

inductive HAll (prog : Program) (w : World) (A : Around) (h : Heap) : List Value → List Int → Nat → Prop
  | nil : HAll prog w A h [] [] 0
  | cons {v i d vs is n} : (∀ (E : Value → Shared → Prop) (s : Shared) (Q : Int → Shared → Prop), s.heap = h → Q i { s with toks := s.toks + d } → wpAny (model prog w) A (PySem.pyHash v) Q E s) → HAll prog w A h vs is n → HAll prog w A h (v :: vs) (i :: is) (d + n)

section
variable {prog : Program} {w : World} {A : Around} {E : Value → Shared → Prop} {s : Shared}

theorem hash_tup {a : Addr} {vs : Array Value} {n : Nat} {is : List Int} {d : Nat} {Q : Int → Shared → Prop} (hu : A.units < cLine) (ho : s.heap.get? a = some (TObj vs n)) (hall : HAll prog w A.in1 s.heap vs.toList is d)
    (h : Q (reduceHash (Builtin.Tuple.tupleHashOf is)) { s with toks := s.toks + (d + 1) }) : wpAny (model prog w) A (PySem.pyHash (.ref a)) Q E s := by
  have hT : s.TypeIs (.ref a) "tuple" := ⟨_, ho, rfl⟩
  unfold PySem.pyHash
  first | unfold pyHashByItsType | skip
  first | refine wpAny_bind (wpAny_cRoomFor_or (.inr hu) ?_) | skip
  refine wpAny_bind (wpAny_specialOf hT F.slot_tuple_hash.lookup ?_)
  show wpAny _ _ (if (some (Value.builtin "tuple.__hash__") == some Value.none) = true then _ else _) Q E s
  rw [if_neg (by rw [beq_builtin_none]; exact Bool.false_ne_true)]
  refine wpAny_bind (wpAny_specialOf hT F.slot_tuple_hash.lookup ?_)
  show wpAny _ _ (callSpecialIfBoundUnlessNone? (.ref a) "__hash__" _ >>= _) Q E s
  refine wpAny_bind (wpAny_callSpecialIfBoundUnlessNone?_slot hT F.slot_tuple_hash (wpAny_call_entry F.slot_tuple_hash hT F.entry_tuple_hash ?_ (F.args_tuple_hash_1 _)))
  show wpAny _ _ (Builtin.Tuple.tupleItemsOf (.ref a) >>= _) _ _ s
  refine wpAny_bind (wpAny_tupleItemsOf ho rfl ?_)
  refine wpAny_bind ?_
  rw [← Array.forIn_toList]
  refine wpAny_forIn_list _
    (fun rest (b : Array Int) s' => ∃ left e k, HAll prog w A.in1 s.heap rest left e ∧ b.toList ++ left = is ∧ k + e = d ∧ s' = { s with toks := s.toks + k })
    _ ?_ ?_ _ _ ⟨is, d, 0, hall, rfl, by omega, rfl⟩
  · rintro x rest b s' ⟨left, e, k, hl, hb, hd, rfl⟩
    cases hl with
    | @cons _ i d₁ _ is' n' h1 hl' =>
      refine wpAny_bind (h1 _ { s with toks := s.toks + k } _ rfl ?_)
      have key : ∃ left e k', HAll prog w A.in1 s.heap rest left e ∧ (b.push i).toList ++ left = is ∧ k' + e = d ∧ ({ s with toks := s.toks + k + d₁ } : Shared) = { s with toks := s.toks + k' } :=
        ⟨is', n', k + d₁, hl', by simpa using hb, by omega, by simp [Nat.add_assoc]⟩
      first
        | exact wpAny_pure key
        | exact wpAny_bind (wpAny_pure (wpAny_pure key))
  · rintro b s' ⟨left, e, k, hl, hb, hd, rfl⟩
    cases hl
    obtain rfl : k = d := by omega
    rw [List.append_nil] at hb
    show wpAny _ _ (retInt (Builtin.Tuple.tupleHashOf b.toList)) _ _ _
    rw [hb]
    refine wpAny_ret_mkInt ?_
    show wpAny _ _ (if (decide (-(2 : Int) ^ 63 ≤ Builtin.Tuple.tupleHashOf is) && decide (Builtin.Tuple.tupleHashOf is < 2 ^ 63)) = true then _ else _) Q E _
    unfold reduceHash at h
    by_cases hr : (decide (-(2 : Int) ^ 63 ≤ Builtin.Tuple.tupleHashOf is) && decide (Builtin.Tuple.tupleHashOf is < 2 ^ 63)) = true
    · rw [if_pos hr]
      rw [if_pos hr] at h
      exact wpAny_pure (by simpa [Nat.add_assoc] using h)
    · rw [if_neg hr]
      rw [if_neg hr] at h
      exact wpAny_bind (wpAny_rule (wpAny_pure (by simpa [Nat.add_assoc] using h)))

theorem KIs.hash {R : Addr → Prop} {h : Heap} {k v} (x : KIs R h k v) : ∀ {A : Around} {E : Value → Shared → Prop} {s : Shared} {Q : Int → Shared → Prop}, s.heap = h → A.units + k.height < cLine →
    Q (k.hash w) { s with toks := s.toks + k.draws } → wpAny (model prog w) A (PySem.pyHash v) Q E s := by
  induction x with
  | int i t => intro A E s Q _ _ hq; exact wpAny_pyHash_int hq
  | str x t => intro A E s Q _ _ hq; exact wpAny_pyHash_str hq
  | @t2 a b va vb p n r e _ _ ih1 ih2 =>
    intro A E s Q hs hu hq
    subst hs
    have hu' : A.units + (max a.height b.height + 1) < cLine := hu
    refine hash_tup (is := [a.hash w, b.hash w]) (d := a.draws + (b.draws + 0)) (by omega) e (.cons (fun E s' Q hs hq => ih1 hs ?_ hq) (.cons (fun E s' Q hs hq => ih2 hs ?_ hq) .nil)) hq
    · show A.units + 1 + _ < _; omega
    · show A.units + 1 + _ < _; omega
  | @t3 a b c va vb vc p n r e _ _ _ ih1 ih2 ih3 =>
    intro A E s Q hs hu hq
    subst hs
    have hu' : A.units + (max a.height (max b.height c.height) + 1) < cLine := hu
    refine hash_tup (is := [a.hash w, b.hash w, c.hash w]) (d := a.draws + (b.draws + (c.draws + 0))) (by omega) e
      (.cons (fun E s' Q hs hq => ih1 hs ?_ hq) (.cons (fun E s' Q hs hq => ih2 hs ?_ hq) (.cons (fun E s' Q hs hq => ih3 hs ?_ hq) .nil))) hq
    · show A.units + 1 + _ < _; omega
    · show A.units + 1 + _ < _; omega
    · show A.units + 1 + _ < _; omega

theorem HK.depth_le (k : HK) : k.py.depth ≤ k.height + 1 := by
  induction k with
  | int i => simp [HK.py, PyData.depth]
  | str s => simp [HK.py, PyData.depth]
  | t2 a b ih1 ih2 => simp only [HK.py, PyData.depth, PyData.depthAll, HK.height]; exact Nat.succ_le_succ (Nat.max_le.mpr ⟨Nat.le_trans ih1 (Nat.succ_le_succ (Nat.le_max_left _ _)), Nat.max_le.mpr ⟨Nat.le_trans ih2 (Nat.succ_le_succ (Nat.le_max_right _ _)), Nat.zero_le _⟩⟩)
  | t3 a b c ih1 ih2 ih3 => simp only [HK.py, PyData.depth, PyData.depthAll, HK.height]; exact Nat.succ_le_succ (Nat.max_le.mpr ⟨Nat.le_trans ih1 (Nat.succ_le_succ (Nat.le_max_left _ _)), Nat.max_le.mpr ⟨Nat.le_trans ih2 (Nat.succ_le_succ (Nat.le_trans (Nat.le_max_left _ _) (Nat.le_max_right _ _))), Nat.max_le.mpr ⟨Nat.le_trans ih3 (Nat.succ_le_succ (Nat.le_trans (Nat.le_max_right _ _) (Nat.le_max_right _ _))), Nat.zero_le _⟩⟩⟩)

theorem HK.eqv : ∀ (x y : HK), PyData.eqv x.py y.py = decide (x = y)
  | .int a, .int b => by simp [HK.py, PyData.eqv]; rfl
  | .str a, .str b => by
    simp only [HK.py, PyData.eqv, HK.str.injEq]
    by_cases q : a = b
    · rw [decide_eq_true q]; exact beq_iff_eq.mpr q
    · rw [decide_eq_false q]; exact beq_eq_false_iff_ne.mpr q
  | .t2 a b, .t2 c d => by simp [HK.py, PyData.eqv, PyData.eqvAll, HK.eqv a c, HK.eqv b d]
  | .t3 a b c, .t3 d e f => by simp [HK.py, PyData.eqv, PyData.eqvAll, HK.eqv a d, HK.eqv b e, HK.eqv c f]
  | .int _, .str _ | .int _, .t2 _ _ | .int _, .t3 _ _ _ | .str _, .int _ | .str _, .t2 _ _ | .str _, .t3 _ _ _ => by simp [HK.py, PyData.eqv]
  | .t2 _ _, .int _ | .t2 _ _, .str _ | .t3 _ _ _, .int _ | .t3 _ _ _, .str _ => by simp [HK.py, PyData.eqv]
  | .t2 _ _, .t3 _ _ _ | .t3 _ _ _, .t2 _ _ => by simp [HK.py, PyData.eqv, PyData.eqvAll]

theorem KIs.inj {R R' : Addr → Prop} {h : Heap} {k k' v} (x : KIs R h k v) : KIs R' h k' v → k = k' := by
  induction x generalizing k' with
  | int i t => intro y; cases y; rfl
  | str x t => intro y; cases y; rfl
  | t2 r e _ _ ih1 ih2 =>
    intro y
    cases y with
    | t2 r' e' a' b' => rw [e] at e'; cases e'; rw [ih1 a', ih2 b']
    | t3 r' e' a' b' c' => rw [e] at e'; cases e'
  | t3 r e _ _ _ ih1 ih2 ih3 =>
    intro y
    cases y with
    | t2 r' e' a' b' => rw [e] at e'; cases e'
    | t3 r' e' a' b' c' => rw [e] at e'; cases e'; rw [ih1 a', ih2 b', ih3 c']

theorem KIs.quiet {R : Addr → Prop} {h : Heap} {k v} (x : KIs R h k v) : ∀ {A : Around} {E : Value → Shared → Prop} {s : Shared} {Q : Bool → Shared → Prop} (m : Nat), s.heap = h → k.height ≤ m → Q true s → wpAny (model prog w) A (eqIsQuiet m v) Q E s := by
  have tup : ∀ {A : Around} {E : Value → Shared → Prop} {s : Shared} {Q : Bool → Shared → Prop} {p : Addr} {vs : Array Value} {n m : Nat}, s.heap.get? p = some (TObj vs n) → (∀ v ∈ vs.toList, ∀ (E : Value → Shared → Prop) (Q : Bool → Shared → Prop), Q true s → wpAny (model prog w) A (eqIsQuiet m v) Q E s) → Q true s →
      wpAny (model prog w) A (eqIsQuiet (m + 1) (.ref p)) Q E s := by
    intro A E s Q p vs n m ho hall h
    have hT : s.TypeIs (.ref p) "tuple" := ⟨_, ho, rfl⟩
    unfold eqIsQuiet
    refine wpAny_bind (wpAny_specialOf hT F.slot_tuple_eq.lookup ?_)
    show wpAny _ _ (isInstance (.ref p) (.type "tuple") >>= _) _ _ s
    refine wpAny_bind (wpAny_isInstance hT isSubtype_tuple_tuple ?_)
    simp only [Bool.not_true, Bool.false_eq_true, if_false]
    refine wpAny_bind (wpAny_seqItems ho rfl ?_)
    refine wpAny_bind ?_
    show wpAny _ _ (forIn vs _ _) _ _ s
    rw [← Array.forIn_toList]
    refine wpAny_forIn_list _ (fun rest r s' => r.1 = none ∧ s' = s ∧ ∀ v ∈ rest, ∀ (E : Value → Shared → Prop) (Q : Bool → Shared → Prop), Q true s → wpAny (model prog w) A (eqIsQuiet m v) Q E s) _ ?_ ?_ _ _ ⟨rfl, rfl, hall⟩
    · rintro v rest r s' ⟨hr, rfl, hall⟩
      refine wpAny_bind (hall v List.mem_cons_self _ _ ?_)
      simp only [Bool.not_true, Bool.false_eq_true, if_false]
      exact wpAny_pure ⟨rfl, rfl, fun u hu' => hall u (List.mem_cons_of_mem _ hu')⟩
    · rintro ⟨r1, r2⟩ s' ⟨hr, rfl, _⟩
      simp only at hr
      subst hr
      exact wpAny_pure h
  induction x with
  | int i t => intro A E s Q m _ _ hq; unfold eqIsQuiet; exact wpAny_pure hq
  | str x t => intro A E s Q m _ _ hq; unfold eqIsQuiet; exact wpAny_pure hq
  | @t2 a b va vb p n r e _ _ ih1 ih2 =>
    intro A E s Q m hs hm hq
    subst hs
    cases m with
    | zero => simp [HK.height] at hm
    | succ m =>
      have hm' : max a.height b.height + 1 ≤ m + 1 := hm
      refine tup e (fun v hv E Q hq => ?_) hq
      simp only [List.mem_cons, List.not_mem_nil, or_false] at hv
      rcases hv with rfl | rfl
      · exact ih1 m rfl (by omega) hq
      · exact ih2 m rfl (by omega) hq
  | @t3 a b c va vb vc p n r e _ _ _ ih1 ih2 ih3 =>
    intro A E s Q m hs hm hq
    subst hs
    cases m with
    | zero => simp [HK.height] at hm
    | succ m =>
      have hm' : max a.height (max b.height c.height) + 1 ≤ m + 1 := hm
      refine tup e (fun v hv E Q hq => ?_) hq
      simp only [List.mem_cons, List.not_mem_nil, or_false] at hv
      rcases hv with rfl | rfl | rfl
      · exact ih1 m rfl (by omega) hq
      · exact ih2 m rfl (by omega) hq
      · exact ih3 m rfl (by omega) hq

theorem KIs.eqBool {R R' : Addr → Prop} {k k' : HK} {v v'} {Q : Bool → Shared → Prop} (x : KIs R s.heap k v) (y : KIs R' s.heap k' v') (hk : k.good = true) (hk' : k'.good = true) (hu : A.units + 8 < cLine) (h : Q (decide (k = k')) s) : wpAny (model prog w) A (PySem.eqBool v v') Q E s := by
  refine xE (x.reads) fun as rx => ?_
  refine xE (y.reads) fun bs ry => ?_
  unfold HK.good at hk hk'
  simp only [Bool.and_eq_true, decide_eq_true_eq] at hk hk'
  refine PySem.SeqAt.eqAt_reads k.py k'.py A s v v' as bs rx ry hk.1 hk'.1 ?_ prog w E Q (by rw [HK.eqv]; exact h)
  have := k.depth_le
  omega

theorem KIs.tup {R : Addr → Prop} {h : Heap} {k v} (x : KIs R h k v) : KIs (fun a => ∃ vs n, h.get? a = some (TObj vs n)) h k v := by
  induction x with
  | int i t => exact .int i t
  | str x t => exact .str x t
  | t2 r e _ _ ih1 ih2 => exact .t2 ⟨_, _, e⟩ e ih1 ih2
  | t3 r e _ _ _ ih1 ih2 ih3 => exact .t3 ⟨_, _, e⟩ e ih1 ih2 ih3

noncomputable def tupKind (prog : Program) (w : World) : HeapKind prog w HK where
  is := fun h k a => k.good = true ∧ KIs (fun _ => True) h k (.ref a)
  hash := fun k => k.hash w
  draws := HK.draws
  room := fun A => A.units + 8 < cLine
  inj := fun hx hy => hx.2.inj hy.2
  keeps := fun x ho hd hs => ⟨x.1, x.2.tup.mv fun a o ⟨vs, n, e'⟩ e => ⟨trivial, (hs.2 a fun q => by subst q; rw [ho] at e'; cases e'; cases hd).trans e⟩⟩
  pyHash := fun hu hk h => hk.2.hash rfl (by
    have := hk.1; unfold HK.good at this; simp only [Bool.and_eq_true, decide_eq_true_eq] at this; omega) h
  eqBool := fun hu hx hy h => hx.2.eqBool hy.2 hx.1 hy.1 hu h
  quiet := fun hk h => hk.2.quiet 8 rfl (by
    have := hk.1; unfold HK.good at this; simp only [Bool.and_eq_true, decide_eq_true_eq] at this; omega) h
end
end Mine

open PySem PySem.W PyProof.Rows
namespace Mine

noncomputable abbrev KV := List (HK × PyData)
noncomputable def dictD (kvs : KV) : PyData := .dict (kvs.map fun p => (p.1.py, p.2))
noncomputable def HK.isT : HK → Bool
  | .t2 _ _ | .t3 _ _ _ => true
  | _ => false
noncomputable def HK.tk (k : HK) : Bool := k.isT && k.good
noncomputable def tks (kvs : KV) : Bool := kvs.all fun p => p.1.tk
noncomputable def dSet (kvs : KV) (k : HK) (x : PyData) : KV := if (kvs.lookup k).isSome then kvs.map (fun p => if p.1 = k then (p.1, x) else p) else kvs ++ [(k, x)]

theorem HK.py_inj {x y : HK} (h : x.py = y.py) : x = y := by
  have := HK.eqv x y
  rw [← h, HK.eqv x x] at this
  simpa using this

theorem zip_inj : ∀ {ks : List HK} {xs : List PyData} {kvs : KV}, ks.length = xs.length → (ks.map HK.py).zip xs = kvs.map (fun p => (p.1.py, p.2)) → ks = kvs.map (·.1) ∧ xs = kvs.map (·.2)
  | [], [], [], _, _ => ⟨rfl, rfl⟩
  | k :: ks, x :: xs, p :: kvs, hl, h => by
    simp only [List.map_cons, List.zip_cons_cons, List.cons.injEq, Prod.mk.injEq] at h
    refine xA (zip_inj (by simpa using hl) h.2) fun h1 h2 => ?_
    exact ⟨by rw [h1, HK.py_inj h.1.1]; rfl, by rw [h2, h.1.2]; rfl⟩
  | [], _ :: _, _, hl, _ => by simp at hl
  | _ :: _, [], _, hl, _ => by simp at hl
  | [], [], _ :: _, _, h => by simp at h
  | _ :: _, _ :: _, [], _, h => by simp at h
theorem zip_of (kvs : KV) : ((kvs.map (·.1)).map HK.py).zip (kvs.map (·.2)) = kvs.map (fun p => (p.1.py, p.2)) := by
  induction kvs with
  | nil => rfl
  | cons p r ih => simp only [List.map_cons, List.zip_cons_cons]; rw [ih]

structure DAt (w : World) (R : Addr → Prop) (h : Heap) (a : Addr) (kvs : KV) (es : Array DictEntry) (n : Nat) : Prop where
  ob : h.get? a = some (DObj es n)
  ents : Ents w R h (kvs.map (·.1)) es.toList
  nd : (kvs.map (·.1)).Nodup
  ns : a ≠ sysModules
  vals : RpAll w R h (es.toList.map (·.val)) (kvs.map (·.2))

section
variable {prog : Program} {w : World} {R R' : Addr → Prop} {h h' : Heap}

theorem Rp.dictI {v kvs} (x : Rp w R h v (dictD kvs)) : ∃ a es n, v = .ref a ∧ R a ∧ DAt w R h a kvs es n := by
  unfold dictD at x
  generalize hq : kvs.map (fun p => (p.1.py, p.2)) = q at x
  cases x with
  | @dict a es n ks xs r e k nd l =>
    have hl : ks.length = xs.length := by
      have := k.length; have := RpAll.length l; simp at *; omega
    refine xA (zip_inj hl hq.symm) fun h1 h2 => ?_
    exact ⟨a, es, n, rfl, r, e, h1 ▸ k, h1 ▸ nd.1, nd.2, h2 ▸ l⟩
theorem DAt.rp {a kvs es n} (x : DAt w R h a kvs es n) (r : R a) : Rp w R h (.ref a) (dictD kvs) := by
  unfold dictD
  rw [← zip_of]
  exact .dict r x.ob x.ents ⟨x.nd, x.ns⟩ x.vals
theorem DAt.root {a kvs es n} (x : DAt w R h a kvs es n) : RpRoot w R h a (dictD kvs) :=
  .inr ⟨es, n, _, _, by unfold dictD; rw [zip_of], x.ob, x.ents, ⟨x.nd, x.ns⟩, x.vals⟩
theorem RpRoot.dictI {a kvs} (x : RpRoot w R h a (dictD kvs)) : ∃ es n, DAt w R h a kvs es n := by
  rcases x with ⟨vs, n, xs, e0, _⟩ | ⟨es, n, ks, xs, e0, e, k, nd, l⟩
  · cases e0
  · unfold dictD at e0
    have hl : ks.length = xs.length := by
      have := k.length; have := RpAll.length l; simp at *; omega
    refine xA (zip_inj hl (PyData.dict.inj e0).symm) fun h1 h2 => ?_
    exact ⟨es, n, e, h1 ▸ k, h1 ▸ nd.1, nd.2, h2 ▸ l⟩
theorem DAt.mv {a kvs es n} (m : Mv R R' h h') (e : h'.get? a = some (DObj es n)) (x : DAt w R h a kvs es n) : DAt w R' h' a kvs es n := ⟨e, x.ents.mv m, x.nd, x.ns, x.vals.mv m⟩

theorem Ents.toH : ∀ {ks es}, Ents w R h ks es → (∀ k ∈ ks, k.tk = true) → ∃ xs : List (HK × Addr × Value), es = xs.map (entryOfKey (tupKind prog w)) ∧ xs.map (·.1) = ks ∧ (∀ x ∈ xs, x.1.good = true ∧ KIs R h x.1 (.ref x.2.1)) ∧ es.map (·.val) = xs.map (·.2.2)
  | _, _, .nil, _ => ⟨[], rfl, rfl, nofun, rfl⟩
  | _, _, @Ents.cons _ _ _ k v x ks es hk r, hg => by
    refine xEAAA (Ents.toH r fun k' hk' => hg k' (.tail _ hk')) fun xs h1 h2 h3 h4 => ?_
    have hgk := hg k (.head _)
    unfold HK.tk at hgk
    simp only [Bool.and_eq_true] at hgk
    obtain ⟨p, rfl⟩ : ∃ p, v = .ref p := by
      cases hk with
      | int => simp [HK.isT] at hgk
      | str => simp [HK.isT] at hgk
      | t2 => exact ⟨_, rfl⟩
      | t3 => exact ⟨_, rfl⟩
    refine ⟨(k, p, x) :: xs, by rw [h1]; rfl, by rw [List.map_cons, h2], fun y hy => ?_, by rw [List.map_cons, h4]; rfl⟩
    rcases List.mem_cons.mp hy with rfl | hy
    · exact ⟨hgk.2, hk⟩
    · exact h3 y hy

theorem DAt.toH {a kvs es n} (x : DAt w R h a kvs es n) (hg : tks kvs = true) : ∃ xs : List (HK × Addr × Value), h.DictOfH (tupKind prog w) a xs ∧ xs.map (·.1) = kvs.map (·.1) ∧ (∀ x ∈ xs, x.1.good = true ∧ KIs R h x.1 (.ref x.2.1)) ∧
    RpAll w R h (xs.map (·.2.2)) (kvs.map (·.2)) := by
  refine xEAAA (x.ents.toH (prog := prog) (by
    intro k hk
    obtain ⟨p, hp, rfl⟩ := List.mem_map.mp hk
    exact List.all_eq_true.mp hg p hp)) fun xs h1 h2 h3 h4 => ?_
  refine ⟨xs, ⟨_, es, n, x.ob, ⟨rfl, rfl, rfl⟩, rfl, h1, fun y hy => ⟨(h3 y hy).1, (h3 y hy).2.mv (.sub fun _ _ => trivial)⟩, by rw [h2]; exact x.nd⟩, h2, h3, ?_⟩
  rw [← h4]; exact x.vals

theorem atKey_rp {k : HK} : ∀ {xs : List (HK × Addr × Value)} {kvs : KV}, xs.map (·.1) = kvs.map (·.1) → RpAll w R h (xs.map (·.2.2)) (kvs.map (·.2)) →
    (∀ d, kvs.lookup k = some d → ∃ p, atKey xs k = some p ∧ Rp w R h p.2 d) ∧ (kvs.lookup k = none → atKey xs k = none)
  | [], [], _, _ => ⟨nofun, fun _ => rfl⟩
  | [], _ :: _, e, _ => by simp at e
  | _ :: _, [], e, _ => by simp at e
  | (k', a, v) :: xs, (k'', d') :: kvs, e, r => by
    simp only [List.map_cons, List.cons.injEq] at e
    refine xA (e) fun e1 e2 => ?_
    try clear e
    subst e1
    cases r with
    | cons r1 r2 =>
      have ih := atKey_rp (k := k) e2 r2
      by_cases q : k' = k
      · subst q
        refine ⟨fun d hd => ?_, fun hn => ?_⟩
        · rw [List.lookup_cons, beq_self_eq_true] at hd
          have zC := Option.some.inj hd
          clear hd
          subst zC
          exact ⟨(a, v), by simp [atKey], r1⟩
        · rw [List.lookup_cons, beq_self_eq_true] at hn; cases hn
      · have hb : (k == k') = false := beq_eq_false_iff_ne.mpr fun e => q e.symm
        have ha : atKey ((k', a, v) :: xs) k = atKey xs k := by simp [atKey, q]
        rw [List.lookup_cons, hb, ha]
        exact ih

theorem atKey_some {k : HK} {xs : List (HK × Addr × Value)} {kvs : KV} (e : xs.map (·.1) = kvs.map (·.1)) (r : RpAll w R h (xs.map (·.2.2)) (kvs.map (·.2))) : (atKey xs k).isSome = (kvs.lookup k).isSome := by
  refine xA (atKey_rp (k := k) e r) fun h1 h2 => ?_
  cases hl : kvs.lookup k with
  | none => rw [h2 hl]; rfl
  | some d => obtain ⟨p, hp, _⟩ := h1 d hl; rw [hp]; rfl

theorem KIs.isRef {k v} (x : KIs R h k v) (hk : k.tk = true) : ∃ p, v = .ref p ∧ k.good = true := by
  unfold HK.tk at hk
  simp only [Bool.and_eq_true] at hk
  cases x with
  | int => simp [HK.isT] at hk
  | str => simp [HK.isT] at hk
  | t2 => exact ⟨_, rfl, hk.2⟩
  | t3 => exact ⟨_, rfl, hk.2⟩
theorem KIs.tup' {k v} (x : KIs R h k v) : KIs (fun a => R a ∧ ∃ vs n, h.get? a = some (TObj vs n)) h k v := by
  induction x with
  | int i t => exact .int i t
  | str x t => exact .str x t
  | t2 r e _ _ ih1 ih2 => exact .t2 ⟨r, _, _, e⟩ e ih1 ih2
  | t3 r e _ _ _ ih1 ih2 ih3 => exact .t3 ⟨r, _, _, e⟩ e ih1 ih2 ih3
theorem KIs.sameBut {k v} {d : Addr} {es n} (x : KIs R h k v) (hd : h.get? d = some (DObj es n)) (hs : Heap.SameBut d h h') : KIs R h' k v :=
  x.tup'.mv fun a o ⟨r, vs, m, e⟩ e' => ⟨r, (hs.2 a fun q => by subst q; rw [hd] at e; have := congrArg Obj.data (Option.some.inj e); cases this).trans e'⟩
end

section
variable {prog : Program} {w : World} {A : Around} {E : Value → Shared → Prop} {s : Shared} {R R' : Addr → Prop}

theorem sys_ne {d : Addr} (h : d ≠ sysModules) : (d == sysModules) = false := beq_eq_false_iff_ne.mpr h

theorem getD {d : Addr} {kvs : KV} {es n} {k : HK} {kv : Value} {x : PyData} {Q : Value → Shared → Prop} (hu : A.units + 9 < cLine) (hd : DAt w R s.heap d kvs es n) (hk : KIs R' s.heap k kv) (htk : k.tk = true) (hall : tks kvs = true)
    (hl : kvs.lookup k = some x) (h : ∀ v t, Rp w R s.heap v x → Q v { s with toks := t }) : wpAny (model prog w) A (getItem (.ref d) kv) Q E s := by
  refine xEA (hk.isRef htk) fun p zE1 hgood => ?_
  subst zE1
  refine xEAAA (hd.toH (prog := prog) hall) fun xs hx e _ r => ?_
  refine xEA ((atKey_rp (k := k) e r).1 x hl) fun q hq hr => ?_
  exact wpAny_getItem_heap (knd := tupKind prog w) (by show A.units + 1 + 8 < cLine; omega) ⟨hgood, hk.mv (.sub fun _ _ => trivial)⟩ hx hq (h _ _ hr)

theorem inD {d : Addr} {kvs : KV} {es n} {k : HK} {kv : Value} {Q : Value → Shared → Prop} (hu : A.units + 9 < cLine) (hd : DAt w R s.heap d kvs es n) (hk : KIs R' s.heap k kv) (htk : k.tk = true) (hall : tks kvs = true)
    (h : ∀ t, Q (.bool (kvs.lookup k).isSome) { s with toks := t }) : wpAny (model prog w) A (compareOp .In kv (.ref d)) Q E s := by
  refine xEA (hk.isRef htk) fun p zE2 hgood => ?_
  subst zE2
  refine xEAAA (hd.toH (prog := prog) hall) fun xs hx e _ r => ?_
  refine wpAny_in_heap (knd := tupKind prog w) (by show A.units + 1 + 8 < cLine; omega) ⟨hgood, hk.mv (.sub fun _ _ => trivial)⟩ (sys_ne hd.ns) hx ?_
  rw [atKey_some e r]; exact h _

theorem ents_ofH {h : Heap} : ∀ {xs : List (HK × Addr × Value)}, (∀ x ∈ xs, KIs R h x.1 (.ref x.2.1)) → Ents w R h (xs.map (·.1)) (xs.map (entryOfKey (tupKind prog w)))
  | [], _ => .nil
  | x :: xs, hx => .cons (hx x (.head _)) (ents_ofH fun y hy => hx y (.tail _ hy))

theorem put_rp {h : Heap} {k : HK} {v : Value} {d : PyData} (hv : Rp w R h v d) : ∀ {xs : List (HK × Addr × Value)} {kvs : KV}, xs.map (·.1) = kvs.map (·.1) → RpAll w R h (xs.map (·.2.2)) (kvs.map (·.2)) →
    RpAll w R h ((xs.map (putAt k v)).map (·.2.2)) ((kvs.map (fun p => if p.1 = k then (p.1, d) else p)).map (·.2))
  | [], [], _, _ => .nil
  | [], _ :: _, e, _ => by simp at e
  | _ :: _, [], e, _ => by simp at e
  | (k', a, u) :: xs, (k'', d') :: kvs, e, r => by
    simp only [List.map_cons, List.cons.injEq] at e
    refine xA (e) fun e1 e2 => ?_
    try clear e
    subst e1
    cases r with
    | cons r1 r2 =>
      have ih := put_rp (k := k) hv e2 r2
      by_cases q : k' = k
      · simp only [List.map_cons, putAt, q, if_true]; exact .cons hv ih
      · simp only [List.map_cons, putAt, q, if_false]; exact .cons r1 ih
theorem put_keys {k : HK} {d : PyData} (kvs : KV) : (kvs.map (fun p => if p.1 = k then (p.1, d) else p)).map (·.1) = kvs.map (·.1) := by
  induction kvs with
  | nil => rfl
  | cons p r ih => simp only [List.map_cons, ih]; by_cases q : p.1 = k <;> simp [q]

/-- what a dict's setting makes of its object -/
theorem setD_core {d : Addr} {kvs : KV} {es n} {k : HK} {p : Addr} {v : Value} {x : PyData} {h' : Heap} {xs : List (HK × Addr × Value)} (hd : DAt w R s.heap d kvs es n) (hk : KIs R s.heap k (.ref p)) (hv : Rp w R s.heap v x) (hRd : ¬ R d)
    (hm : h'.DictOfH (tupKind prog w) d (storedH xs k p v)) (hs : Heap.SameBut d s.heap h') (e : xs.map (·.1) = kvs.map (·.1)) (hx : ∀ x ∈ xs, KIs R s.heap x.1 (.ref x.2.1)) (r : RpAll w R s.heap (xs.map (·.2.2)) (kvs.map (·.2))) :
    ∃ es' n', DAt w R h' d (dSet kvs k x) es' n' := by
  refine xEEEAAAAA (hm) fun o es' n' ho zE3 hdd hes _ hnd => ?_
  try clear hm
  refine xAA (zE3) fun c1 c2 c3 => ?_
  try clear zE3
  obtain ⟨oc, od, odt, osl⟩ := o
  simp only at c1 c2 c3 hdd
  subst c1 c2 c3 hdd
  have mv : Mv R R s.heap h' := fun a o ha e' => ⟨ha, (hs.2 a fun q => hRd (q ▸ ha)).trans e'⟩
  have hx' : ∀ x ∈ storedH xs k p v, KIs R h' x.1 (.ref x.2.1) := by
    intro y hy
    unfold storedH at hy
    split at hy
    · refine xEA (List.mem_map.mp hy) fun z hz zE4 => ?_
      subst zE4
      have := (hx z hz).sameBut hd.ob hs
      unfold putAt; split <;> exact this
    · rcases List.mem_append.mp hy with hy | hy
      · exact (hx y hy).sameBut hd.ob hs
      · simp only [List.mem_singleton] at hy; subst hy; exact hk.sameBut hd.ob hs
  have keys : (storedH xs k p v).map (·.1) = (dSet kvs k x).map (·.1) := by
    unfold storedH dSet
    rw [atKey_some e r]
    split
    · rw [keys_map_putAt, put_keys, e]
    · rw [List.map_append, List.map_append, e]; rfl
  have vals : RpAll w R h' ((storedH xs k p v).map (·.2.2)) ((dSet kvs k x).map (·.2)) := by
    unfold storedH dSet
    rw [atKey_some e r]
    split
    · exact put_rp (hv.mv mv) e (r.mv mv)
    · rw [List.map_append, List.map_append]; exact (r.mv mv).append (.cons (hv.mv mv) .nil)
  refine ⟨es', n', ho, ?_, by rw [← keys]; exact hnd, hd.ns, ?_⟩
  · rw [hes, ← keys]; exact ents_ofH hx'
  · rw [hes, List.map_map]; exact vals

theorem setD {d : Addr} {kvs : KV} {es n} {k : HK} {kv : Value} {v : Value} {x : PyData} {Q : Unit → Shared → Prop} (hu : A.units + 9 < cLine) (hd : DAt w R s.heap d kvs es n) (hk : KIs R s.heap k kv) (hv : Rp w R s.heap v x) (hRd : ¬ R d) (htk : k.tk = true) (hall : tks kvs = true) (hsz : kvs.length ≤ sizeLine)
    (h : ∀ h' t es' n', Kp (fun b => b = d) s.heap h' → DAt w R h' d (dSet kvs k x) es' n' → Q () { s with heap := h', toks := t }) : wpAny (model prog w) A (setItem (.ref d) kv v) Q E s := by
  refine xEA (hk.isRef htk) fun p zE5 hgood => ?_
  subst zE5
  refine xEAAA (hd.toH (prog := prog) hall) fun xs hx e hxs r => ?_
  have hl : xs.length = kvs.length := by have := congrArg List.length e; simpa using this
  refine wpAny_setItem_heap (knd := tupKind prog w) (by show A.units + 1 + 8 < cLine; omega) ⟨hgood, hk.mv (.sub fun _ _ => trivial)⟩ hx (fun h' hm hs => ?_) (by omega)
  refine xEE (setD_core hd hk hv hRd hm hs e (fun x hx => (hxs x hx).2) r) fun es' n' hd' => ?_
  exact h h' _ es' n' (fun b o hb e => (hs.2 b hb).trans e) hd'
end
end Mine

open PySem PySem.W PyProof.Rows
namespace Mine

section
variable {prog : Program} {w : World} {Γ : GEnv} {K : List Str} {sc : Scope} {k : Nat} {σ ω : Sg} {base : Shared} {R0 R R' : Addr → Prop} {env : Env} {s s₁ : Shared}

theorem dictSetD {A : Around} {E : Value → Shared → Prop} {d : Addr} {kvs : KV} {es n} {k : HK} {kv : Value} {v : Value} {x : PyData} {Q : Unit → Shared → Prop} (hu : A.units + 9 < cLine) (hd : DAt w R s.heap d kvs es n) (hk : KIs R s.heap k kv) (hv : Rp w R s.heap v x) (hRd : ¬ R d) (htk : k.tk = true) (hall : tks kvs = true) (hsz : kvs.length ≤ sizeLine)
    (h : ∀ h' t es' n', Kp (fun b => b = d) s.heap h' → DAt w R h' d (dSet kvs k x) es' n' → Q () { s with heap := h', toks := t }) : wpAny (model prog w) A (dictSet d kv v) Q E s := by
  refine xEA (hk.isRef htk) fun p zE1 hgood => ?_
  subst zE1
  refine xEAAA (hd.toH (prog := prog) hall) fun xs hx e hxs r => ?_
  have hl : xs.length = kvs.length := by have := congrArg List.length e; simpa using this
  refine wpAny_dictSet_heap (knd := tupKind prog w) (by show A.units + 8 < cLine; omega) ⟨hgood, hk.mv (.sub fun _ _ => trivial)⟩ hx (fun h' hm hs => ?_) (by omega)
  refine xEE (setD_core hd hk hv hRd hm hs e (fun x hx => (hxs x hx).2) r) fun es' n' hd' => ?_
  exact h h' _ es' n' (fun b o hb e => (hs.2 b hb).trans e) hd'

theorem DAt.new {h : Heap} (hsys : h.NoLimit) : DAt w R (h.push { cls := .type "dict", data := .dict #[] }) h.objs.size [] #[] 0 :=
  ⟨Heap.get?_push_size _ rfl, .nil, List.nodup_nil, (fun q => by
    refine xEA (hsys) fun mc zE2 _ => ?_
    try clear hsys
    refine xEEEA (zE2) fun o es ep e _ => ?_
    try clear zE2
    have h2 := Heap.lt_size e
    rw [q] at h2
    exact absurd h2 (by decide)), .nil⟩

theorem EvF.dict0 {pos} : EvF prog w Γ sc k σ (.Dict [] [] pos) (dictD []) := fun A E env R s hr he hg hs =>
  wpAny_Dict_empty ⟨.push _ _, _, rfl, fresh_size _, (DAt.new hg.nolimit).root⟩

theorem EvF.dict1 {ke ve pos x} {ky : HK} (h1 : Ev prog w Γ sc k σ ke ky.py) (h2 : Ev prog w Γ sc k σ ve x) (htk : ky.tk = true) : EvF prog w Γ sc k σ (.Dict [some ke] [ve] pos) (dictD [(ky, x)]) := fun A E env R s hr he hg hs => by
  have xp : Ex s { s with heap := s.heap.push { cls := .type "dict", data := .dict #[] } } := .push _ _
  have hs0 := hs.live.keep xp.keep
  have fz := fresh_size s.heap
  have nd : ∀ {s1 : Shared}, Ex { s with heap := s.heap.push { cls := .type "dict", data := .dict #[] } } s1 → ∀ b, Nw (fun a => R a ∧ (s.heap.get? a).isSome = true) s1 b → b ≠ s.heap.objs.size := fun x b hb q => by
    subst q
    rcases hb with ⟨_, hb⟩ | hb
    · rw [fz] at hb; cases hb
    · rw [x.keep s.heap.objs.size _ (Heap.get?_push_size _ rfl)] at hb; cases hb
  refine wpAny_Dict_any rfl rfl (by simp) (by show 1 ≤ 15; omega) ?_
  refine evalPairs_cons (wpAny_mono (h1 A E env _ _ hr he (hg.keep xp.keep) hs0) (fun kv s1 ⟨x1, p1⟩ => ?_) fun _ _ e => e)
  refine wpAny_bind (wpAny_mono (h2 A E env _ s1 hr he ((hg.keep xp.keep).keep x1.keep) (hs0.keep x1.keep)) (fun vv s2 ⟨x2, p2⟩ => wpAny_bind (wpAny_standAt (wpAny_pure (evalPairs_nil ?_)))) fun _ _ e => e)
  unfold storeAll
  rw [List.forIn_cons]
  have d0 : DAt w (Nw (fun a => R a ∧ (s.heap.get? a).isSome = true) { s with heap := s.heap.push { cls := .type "dict", data := .dict #[] } }) s2.heap s.heap.objs.size [] #[] 0 :=
    (DAt.new (w := w) hg.nolimit).mv (.keep (x1.trans x2).keep) ((x1.trans x2).keep _ _ (Heap.get?_push_size _ rfl))
  refine wpAny_bind (wpAny_bind (dictSetD (by have := hr.u; omega) d0 (((p1.kis).mv (.keep x2.keep))) (p2.back x1) (fun q => nd (.refl _) _ q rfl) htk rfl (Nat.zero_le _) fun h' t es' n' kp dd => wpAny_pure ?_))
  show wpAny _ _ (pure PUnit.unit) _ _ _
  refine wpAny_pure ⟨⟨(xp.trans (x1.trans x2)).sm.trans (.mk _ _), fun b o e => kp b o (fun q => by rw [q, fz] at e; cases e) ((xp.trans (x1.trans x2)).keep b o e)⟩, _, rfl, fz, ?_⟩
  exact dd.root.mv (.sub fun b hb => ⟨(hb.imp (·.1) (fresh_back xp.keep)), nd (.refl _) b hb⟩) fun _ e => e

theorem CmpOk.inD {ky : HK} {kvs : KV} (htk : ky.tk = true) (hall : tks kvs = true) : CmpOk prog w k .In ky.py (dictD kvs) (kvs.lookup ky).isSome := fun A E R s v1 v2 hr p1 p2 => by
  refine xEEEAA (p2.dictI) fun a es n zE3 r hd => ?_
  subst zE3
  exact Mine.inD (by have := hr.u; omega) hd p1.kis htk hall fun t => ⟨rfl, .tok _⟩
theorem STR.rootDict {x : Str} {kvs : KV} (t : STR w base R0 env sc R σ ω s) (hx : ω.lookup x = some (dictD kvs)) : ∃ a es n, Bd s.heap env x (.ref a) ∧ ¬ R a ∧ DAt w R s.heap a kvs es n := by
  refine xEAAAA (t.ow x _ hx) fun a b h1 h2 h3 h4 => ?_
  refine xEE (h4.dictI) fun es n hd => ?_
  exact ⟨a, es, n, b, h1, hd⟩

/-- x[i] = e, x a dict of the frame's own -/
theorem Sx.setD {x px i spos e pos kvs d} {ky : HK} (hx : ω.lookup x = some (dictD kvs)) (hσ : σ.lookup x = none) (he' : EvK prog w Γ sc k σ ω e .plain d) (hi : Ev prog w Γ sc k σ i ky.py) (htk : ky.tk = true) (hall : tks kvs = true) (hsz : kvs.length ≤ sizeLine)
    (hsw : ∀ env : Env, EnvOk sc env → swapsWith e (some (.Subscript (.Name x px) i spos)) pos.line env = pure false := by intro _ _; rfl)
    (hd : (x == ("__debug__" : Str)) = false := by decide) (hn : (x == ("__classdict__" : Str)) = false := by decide) :
    Sx prog w Γ K sc k σ ω (.Assign [.Subscript (.Name x px) i spos] e pos) (.next σ ((x, dictD (dSet kvs ky d)) :: del x ω)) := fun A E env base R0 s hr he hg hs' => by
  refine xE (hs') fun R t => ?_
  try clear hs'
  refine xEEEAA (t.rootDict hx) fun a es n hb hRa hda => ?_
  refine wpAny_Assign_Subscript (wpAny_mono (he'.told hr he hg t) (fun v s₁ ⟨x₁, p⟩ => ?_) fun _ _ e => e) (hsw env he)
  refine loadBd he (hb.keep x₁.keep) ?_ hd hn
  have t₁ := t.ex x₁
  refine wpAny_mono (hi A E env _ s₁ hr he (t₁.baseIn hg) t₁.sr) (fun iv s₂ ⟨x₂, pi⟩ => ?_) fun _ _ e => e
  have x₁₂ := x₁.trans x₂
  have nA : ¬ Nw R s a := fun q => q.elim hRa fun q => by rw [hda.ob] at q; cases q
  have aO := x₁₂.keep _ _ hda.ob
  refine Mine.setD (by have := hr.u; omega) ((hda.mv (.keep x₁₂.keep) aO).mv (Nw.mv0 (s := s) _) aO) (pi.kis.mv (Nw.mv x₁ _)) (p.keeps x₂) nA htk hall hsz fun h' tk es' n' kp dd => ?_
  exact t.turned (tk := tk) x₁₂ hx hσ hb kp dd.root

theorem loadNm {A : Around} {E : Value → Shared → Prop} {x : Str} {v : Value} {Q : Value → Shared → Prop} (he : EnvOk sc env) (hb : Bd s.heap env x v) (h : Q v s) (hn : (x == ("__classdict__" : Str)) = false) :
    wpAny (model prog w) A (loadName env x) Q E s := by
  cases hb with
  | loc hk hm => obtain ⟨m, hm, hv⟩ := hm; exact wpAny_loadName_local he.kind hk hm hv h
  | cell hk hc =>
    obtain ⟨c, hc, hv⟩ := hc
    rcases hk with hk | hk
    · exact wpAny_loadName_cell he.kind hk hc hv h
    · exact wpAny_loadName_free he.kind hk hc hv h hn

/-- x += e, whole numbers -/
theorem Sx.augI {x px e pos a b} (hx : sc.names.lookup x = some .local ∨ sc.names.lookup x = some .cell) (hv : σ.lookup x = some (.int a)) (he' : Ev prog w Γ sc k (σ ++ ω) e (.int b)) (hn : (x == ("__classdict__" : Str)) = false := by decide) (hK : x ∉ K := by decide) :
    Sx prog w Γ K sc k σ ω (.AugAssign (.Name x px) .Add e pos) (.next ((x, .int (a + b)) :: σ) (del x ω)) := fun A E env base R0 s hr he hg hs' => by
  refine xE (hs') fun R t => ?_
  try clear hs'
  refine xEA (t.sr.get x _ hv) fun v bv pv => ?_
  refine wpAny_AugAssign_Name (loadNm he bv ?_ hn)
  refine wpAny_mono (he' A E env _ s hr he (t.baseIn hg) t.view) (fun v₂ s₁ ⟨x₁, p⟩ => ?_) fun _ _ e => e
  induction pv using Rp.elimInt with
  | int ta => cases p with
    | int b tb =>
      refine PySem.P.iadd_int ?_
      exact store_plain he t (x₁.trans (.tok (s₁.toks + 1))) (.int _ _) hx fun s' t' kp lv rg kb => ⟨rfl, t', kp, lv, rg, fun y hy u b => kb y u (fun e => hK (e ▸ hy)) b⟩

/-- x[i] += e, x a dict of the frame's own, whole numbers -/
theorem Sx.augD {x px i spos e pos kvs a b} {ky : HK} (hx : ω.lookup x = some (dictD kvs)) (hσ : σ.lookup x = none) (he' : Ev prog w Γ sc k (σ ++ ω) e (.int b)) (hi : Ev prog w Γ sc k σ i ky.py) (htk : ky.tk = true) (hall : tks kvs = true) (hsz : kvs.length ≤ sizeLine) (hl : kvs.lookup ky = some (.int a))
    (ha : ∀ ov iv new, augStore i ov iv new = (do holding [new, ov, iv] (setItem ov iv new); release [new, ov, iv] []; pure .next) := by intro _ _ _; rfl)
    (hd : (x == ("__debug__" : Str)) = false := by decide) (hn : (x == ("__classdict__" : Str)) = false := by decide) :
    Sx prog w Γ K sc k σ ω (.AugAssign (.Subscript (.Name x px) i spos) .Add e pos) (.next σ ((x, dictD (dSet kvs ky (.int (a + b)))) :: del x ω)) := fun A E env base R0 s hr he hg hs' => by
  refine xE (hs') fun R t => ?_
  try clear hs'
  refine xEEEAA (t.rootDict hx) fun r es n hb hRa hda => ?_
  refine wpAny_AugAssign_SubscriptAny (loadBd he hb ?_ hd hn) ha
  refine wpAny_mono (hi A E env _ s hr he (t.baseIn hg) t.sr) (fun iv s₁ ⟨x₁, pi⟩ => ?_) fun _ _ e => e
  refine Mine.getD (by have := hr.u; omega) (hda.mv (.keep x₁.keep) (x₁.keep _ _ hda.ob)) pi.kis htk hall hl fun old tk po => ?_
  have x₂ : Ex s { s₁ with toks := tk } := x₁.trans (.tok tk)
  have t₂ := t.ex x₂
  refine wpAny_mono (he' A E env _ _ hr he (t₂.baseIn hg) t₂.view) (fun v s₃ ⟨x₃, p⟩ => ?_) fun _ _ e => e
  induction po using Rp.elimInt with
  | int ta => cases p with
    | int b tb =>
      refine PySem.P.iadd_int ?_
      have x₄ : Ex s { s₃ with toks := s₃.toks + 1 } := (x₂.trans x₃).trans (.tok _)
      have nA : ¬ Nw R s r := fun q => q.elim hRa fun q => by rw [hda.ob] at q; cases q
      have aO := x₄.keep _ _ hda.ob
      refine Mine.setD (s := { s₃ with toks := s₃.toks + 1 }) (R := Nw R s) (by have := hr.u; omega) ((hda.mv (.keep x₄.keep) aO).mv (Nw.mv0 (s := s) _) aO) (pi.kis.mv (.keep x₃.keep)) (.int _ _) nA htk hall hsz fun h' tk es' n' kp dd => ?_
      exact t.turned (tk := tk) x₄ hx hσ hb kp dd.root
end
end Mine

open PySem PySem.W PyProof.Rows
namespace Mine

section
variable {prog : Program} {w : World} {A : Around} {E : Value → Shared → Prop} {s : Shared}

theorem dictIter_raw {d : Addr} {es : Array DictEntry} {ep : Nat} {Q : Value → Shared → Prop} (hd : d ≠ sysModules) (ho : s.heap.get? d = some (DObj es ep))
    (hQ : Q (.ref s.heap.objs.size) { s with heap := s.heap.push { cls := .type "dict_keyiterator", data := .fields #[.ref d, .int 0 0, .int es.size 0, .int ep 0] } }) :
    wpAny (model prog w) A (pyIter (.ref d)) Q E s := by
  have hT : s.TypeIs (.ref d) "dict" := ⟨_, ho, rfl⟩
  refine wpAny_pyIter_slot hT F.slot_dict_iter (wpAny_call_entry F.slot_dict_iter hT F.entry_dict_iter ?_ (F.args_dict_iter_1 _))
  unfold Builtin.«dict.__iter__»
  refine wpAny_bind ?_
  unfold Builtin.Dict.dictSlotNone
  refine wpAny_bind (wpAny_notOrdered_dict hT ?_)
  show wpAny _ _ (pure (Value.ref d)) _ _ s
  refine wpAny_pure ?_
  show wpAny _ _ (Builtin.Dict.showsAll d >>= _) _ _ s
  unfold Builtin.Dict.showsAll
  rw [if_neg (by rw [sys_ne hd]; exact Bool.false_ne_true)]
  refine wpAny_bind (wpAny_pure ?_)
  refine wpAny_bind (wpAny_dictEntries ho rfl ?_)
  refine wpAny_bind (wpAny_dictEpoch ho rfl ?_)
  refine wpAny_bind (wpAny_newObj_type (wpAny_pure ⟨_, rfl, "dict_keyiterator", _, ⟨_, Heap.get?_push_size _ rfl, rfl⟩, F.slot_dict_keyiterator_next.lookup, ?_⟩))
  simpa [rawInt] using hQ

/-- the stop that an iterator of a dict comes to -/
theorem stop_raw {it : Addr} {h₁ : Heap} {P : Fin → Shared → Prop} {Q : Option Value → Shared → Prop} (hh : A.handled = none) (hs : Heap.ExtBut it s.heap h₁) (hQ : ∀ h', Heap.ExtBut it s.heap h' → Q none { s with heap := h' }) :
    wpAny (model prog w) A.in1 (newExc (.type "StopIteration") [] >>= fun e => (raiseNew e : Sem Fin)) P
      (fun e s' => wpAny (model prog w) A (do if ← isInstance e (.type "StopIteration") then pure none else throw e) Q E s') { s with heap := h₁ } := by
  refine wpAny_bind ?_
  simp only [newExc, newTuple]
  refine wpAny_bind (wpAny_newObj_type ?_ (by size_fits))
  refine wpAny_bind (m := firstArgMember _ _) (wpAny_of_eq (a := Value.none) (by first | rfl | (simp only [firstArgMember]; rfl)) ?_)
  refine wpAny_newObj_type ?_ (by size_fits)
  simp only [raiseNew]
  refine wpAny_bind (wpAny_handled ?_)
  rw [show A.in1.handled = none from hh]
  refine wpAny_bind (wpAny_pure (wpAny_throw ?_))
  refine wpAny_bind (wpAny_isInstance (T := "StopIteration") (b := true) ⟨_, Heap.get?_push_size _ rfl, rfl⟩ isSubtype_stop ?_)
  exact wpAny_pure (hQ _ ((hs.push _).push _))

/-- the iterator of a dict's keys -/
noncomputable def KeyIt (h : Heap) (it d : Addr) (i n ep : Nat) : Prop := h.get? it = some { cls := .type "dict_keyiterator", dict := none, data := .fields #[.ref d, .int i 0, .int n 0, .int ep 0], slots := #[] }

theorem next_KeyIt {it d : Addr} {i ep : Nat} {es : Array DictEntry} {e : DictEntry} {Q : Option Value → Shared → Prop} (hit : KeyIt s.heap it d i es.size ep) (ho : s.heap.get? d = some (DObj es ep)) (hx : es[i]? = some e)
    (hQ : ∀ h', KeyIt h' it d (i + 1) es.size ep → Kp (fun b => b = it) s.heap h' → Q (some e.key) { s with heap := h' }) : wpAny (model prog w) A (pyNext (.ref it)) Q E s := by
  unfold KeyIt at hit
  have hT : s.TypeIs (.ref it) "dict_keyiterator" := ⟨_, hit, rfl⟩
  unfold pyNext
  refine wpAny_bind (wpAny_attempt (wpAny_callSpecial?_slot (name := Str.ofString "__next__") hT F.slot_dict_keyiterator_next (wpAny_call_entry F.slot_dict_keyiterator_next hT F.entry_dict_keyiterator_next ?_ (F.args_dict_keyiterator_next_1 _))))
  refine wpAny_bind (wpAny_pure ?_)
  refine wpAny_bind ?_
  refine wpAny_bind ?_
  first | refine wpAny_bind (wpAny_typeNameOfWhole_keyiter hT (wpAny_pure ?_)) | refine wpAny_bind (wpAny_typeNameOf_keyiter hT (wpAny_pure ?_))
  refine wpAny_bind (wpAny_fieldsOf hit rfl ?_)
  simp only [show Builtin.Dict_items.ownsTuple "dict_keyiterator" = false by decide, Bool.false_eq_true, if_false]
  show wpAny _ _ (if (Value.ref d == Value.none) = true then _ else _) _ _ s
  rw [if_neg (show ¬ ((Value.ref d == Value.none) = true) from Bool.false_ne_true)]
  refine wpAny_bind (wpAny_pure ?_)
  refine wpAny_bind (wpAny_dictEntries ho rfl ?_)
  rw [if_neg (by simp)]
  refine wpAny_bind (wpAny_pure ?_)
  refine wpAny_bind (wpAny_dictEpoch ho rfl ?_)
  rw [if_neg (by simp)]
  refine wpAny_pure ?_
  simp only [show ¬ ((i : Int) < 0) from by omega, if_false, Int.toNat_natCast, hx]
  refine wpAny_bind ?_
  first | refine wpAny_bind (wpAny_typeNameOfWhole_keyiter hT (wpAny_pure ?_)) | refine wpAny_bind (wpAny_typeNameOf_keyiter hT (wpAny_pure ?_))
  refine wpAny_bind (wpAny_isOneOf_keyiter hT ?_)
  show wpAny _ _ (setField (.ref it) 1 (rawInt ((i : Int) + 1)) >>= _) _ _ s
  refine wpAny_bind (wpAny_setField_rec hit (by simp) fun h₁ he₁ hs₁ => ?_)
  have e1 : ((i + 1 : Nat) : Int) = (i : Int) + 1 := by omega
  have he : KeyIt h₁ it d (i + 1) es.size ep := by unfold KeyIt; rw [e1]; simpa [rawInt] using he₁
  have hT₁ : ({ s with heap := h₁ } : Shared).TypeIs (.ref it) "dict_keyiterator" := ⟨_, he, rfl⟩
  refine wpAny_bind (wpAny_holding ?_)
  refine wpAny_bind (wpAny_isOneOf_keyiter hT₁ ?_)
  show wpAny _ _ (pure e.key) _ _ _
  exact wpAny_pure (wpAny_pure ⟨_, rfl, wpAny_pure (hQ _ he fun b o hb e => (hs₁.2 b hb).trans e)⟩)

theorem end_KeyIt {it d : Addr} {i ep : Nat} {es : Array DictEntry} {Q : Option Value → Shared → Prop} (hh : A.handled = none) (hit : KeyIt s.heap it d i es.size ep) (ho : s.heap.get? d = some (DObj es ep)) (hx : es.size ≤ i)
    (hQ : ∀ h', Heap.ExtBut it s.heap h' → Q none { s with heap := h' }) : wpAny (model prog w) A (pyNext (.ref it)) Q E s := by
  unfold KeyIt at hit
  have hT : s.TypeIs (.ref it) "dict_keyiterator" := ⟨_, hit, rfl⟩
  unfold pyNext
  refine wpAny_bind (wpAny_attempt (wpAny_callSpecial?_slot (name := Str.ofString "__next__") hT F.slot_dict_keyiterator_next (wpAny_call_entry F.slot_dict_keyiterator_next hT F.entry_dict_keyiterator_next ?_ (F.args_dict_keyiterator_next_1 _))))
  refine wpAny_bind (wpAny_pure ?_)
  refine wpAny_bind ?_
  refine wpAny_bind ?_
  first | refine wpAny_bind (wpAny_typeNameOfWhole_keyiter hT (wpAny_pure ?_)) | refine wpAny_bind (wpAny_typeNameOf_keyiter hT (wpAny_pure ?_))
  refine wpAny_bind (wpAny_fieldsOf hit rfl ?_)
  simp only [show Builtin.Dict_items.ownsTuple "dict_keyiterator" = false by decide, Bool.false_eq_true, if_false]
  show wpAny _ _ (if (Value.ref d == Value.none) = true then _ else _) _ _ s
  rw [if_neg (show ¬ ((Value.ref d == Value.none) = true) from Bool.false_ne_true)]
  refine wpAny_bind (wpAny_pure ?_)
  refine wpAny_bind (wpAny_dictEntries ho rfl ?_)
  rw [if_neg (by simp)]
  refine wpAny_bind (wpAny_pure ?_)
  refine wpAny_bind (wpAny_dictEpoch ho rfl ?_)
  rw [if_neg (by simp)]
  refine wpAny_pure ?_
  simp only [show ¬ ((i : Int) < 0) from by omega, if_false, Int.toNat_natCast, Array.getElem?_eq_none hx]
  refine wpAny_bind ?_
  first | refine wpAny_bind (wpAny_typeNameOfWhole_keyiter hT (wpAny_pure ?_)) | refine wpAny_bind (wpAny_typeNameOf_keyiter hT (wpAny_pure ?_))
  show wpAny _ _ (setField (.ref it) 0 .none >>= _) _ _ s
  refine wpAny_bind (wpAny_setField hit rfl (by simp) ?_)
  exact stop_raw hh (Heap.SameBut.update ..).extBut hQ

/-- the iterator of a dict's vals -/
noncomputable def ValIt (h : Heap) (it d : Addr) (i n ep : Nat) : Prop := h.get? it = some { cls := .type "dict_valueiterator", dict := none, data := .fields #[.ref d, .int i 0, .int n 0, .int ep 0], slots := #[] }

theorem next_ValIt {it d : Addr} {i ep : Nat} {es : Array DictEntry} {e : DictEntry} {Q : Option Value → Shared → Prop} (hit : ValIt s.heap it d i es.size ep) (ho : s.heap.get? d = some (DObj es ep)) (hx : es[i]? = some e)
    (hQ : ∀ h', ValIt h' it d (i + 1) es.size ep → Kp (fun b => b = it) s.heap h' → Q (some e.val) { s with heap := h' }) : wpAny (model prog w) A (pyNext (.ref it)) Q E s := by
  unfold ValIt at hit
  have hT : s.TypeIs (.ref it) "dict_valueiterator" := ⟨_, hit, rfl⟩
  unfold pyNext
  refine wpAny_bind (wpAny_attempt (wpAny_callSpecial?_slot (name := Str.ofString "__next__") hT F.slot_dict_valueiterator_next (wpAny_call_entry F.slot_dict_valueiterator_next hT F.entry_dict_valueiterator_next ?_ (F.args_dict_valueiterator_next_1 _))))
  refine wpAny_bind (wpAny_pure ?_)
  refine wpAny_bind ?_
  refine wpAny_bind ?_
  first | refine wpAny_bind (wpAny_typeNameOfWhole_valiter hT (wpAny_pure ?_)) | refine wpAny_bind (wpAny_typeNameOf_valiter hT (wpAny_pure ?_))
  refine wpAny_bind (wpAny_fieldsOf hit rfl ?_)
  simp only [show Builtin.Dict_items.ownsTuple "dict_valueiterator" = false by decide, Bool.false_eq_true, if_false]
  show wpAny _ _ (if (Value.ref d == Value.none) = true then _ else _) _ _ s
  rw [if_neg (show ¬ ((Value.ref d == Value.none) = true) from Bool.false_ne_true)]
  refine wpAny_bind (wpAny_pure ?_)
  refine wpAny_bind (wpAny_dictEntries ho rfl ?_)
  rw [if_neg (by simp)]
  refine wpAny_bind (wpAny_pure ?_)
  refine wpAny_bind (wpAny_dictEpoch ho rfl ?_)
  rw [if_neg (by simp)]
  refine wpAny_pure ?_
  simp only [show ¬ ((i : Int) < 0) from by omega, if_false, Int.toNat_natCast, hx]
  refine wpAny_bind ?_
  first | refine wpAny_bind (wpAny_typeNameOfWhole_valiter hT (wpAny_pure ?_)) | refine wpAny_bind (wpAny_typeNameOf_valiter hT (wpAny_pure ?_))
  refine wpAny_bind (wpAny_isOneOf_valiter hT ?_)
  show wpAny _ _ (setField (.ref it) 1 (rawInt ((i : Int) + 1)) >>= _) _ _ s
  refine wpAny_bind (wpAny_setField_rec hit (by simp) fun h₁ he₁ hs₁ => ?_)
  have e1 : ((i + 1 : Nat) : Int) = (i : Int) + 1 := by omega
  have he : ValIt h₁ it d (i + 1) es.size ep := by unfold ValIt; rw [e1]; simpa [rawInt] using he₁
  have hT₁ : ({ s with heap := h₁ } : Shared).TypeIs (.ref it) "dict_valueiterator" := ⟨_, he, rfl⟩
  refine wpAny_bind (wpAny_holding ?_)
  refine wpAny_bind (wpAny_isOneOf_valiter hT₁ ?_)
  refine wpAny_bind (wpAny_isOneOf_valiter hT₁ ?_)
  show wpAny _ _ (pure e.val) _ _ _
  exact wpAny_pure (wpAny_pure ⟨_, rfl, wpAny_pure (hQ _ he fun b o hb e => (hs₁.2 b hb).trans e)⟩)

theorem end_ValIt {it d : Addr} {i ep : Nat} {es : Array DictEntry} {Q : Option Value → Shared → Prop} (hh : A.handled = none) (hit : ValIt s.heap it d i es.size ep) (ho : s.heap.get? d = some (DObj es ep)) (hx : es.size ≤ i)
    (hQ : ∀ h', Heap.ExtBut it s.heap h' → Q none { s with heap := h' }) : wpAny (model prog w) A (pyNext (.ref it)) Q E s := by
  unfold ValIt at hit
  have hT : s.TypeIs (.ref it) "dict_valueiterator" := ⟨_, hit, rfl⟩
  unfold pyNext
  refine wpAny_bind (wpAny_attempt (wpAny_callSpecial?_slot (name := Str.ofString "__next__") hT F.slot_dict_valueiterator_next (wpAny_call_entry F.slot_dict_valueiterator_next hT F.entry_dict_valueiterator_next ?_ (F.args_dict_valueiterator_next_1 _))))
  refine wpAny_bind (wpAny_pure ?_)
  refine wpAny_bind ?_
  refine wpAny_bind ?_
  first | refine wpAny_bind (wpAny_typeNameOfWhole_valiter hT (wpAny_pure ?_)) | refine wpAny_bind (wpAny_typeNameOf_valiter hT (wpAny_pure ?_))
  refine wpAny_bind (wpAny_fieldsOf hit rfl ?_)
  simp only [show Builtin.Dict_items.ownsTuple "dict_valueiterator" = false by decide, Bool.false_eq_true, if_false]
  show wpAny _ _ (if (Value.ref d == Value.none) = true then _ else _) _ _ s
  rw [if_neg (show ¬ ((Value.ref d == Value.none) = true) from Bool.false_ne_true)]
  refine wpAny_bind (wpAny_pure ?_)
  refine wpAny_bind (wpAny_dictEntries ho rfl ?_)
  rw [if_neg (by simp)]
  refine wpAny_bind (wpAny_pure ?_)
  refine wpAny_bind (wpAny_dictEpoch ho rfl ?_)
  rw [if_neg (by simp)]
  refine wpAny_pure ?_
  simp only [show ¬ ((i : Int) < 0) from by omega, if_false, Int.toNat_natCast, Array.getElem?_eq_none hx]
  refine wpAny_bind ?_
  first | refine wpAny_bind (wpAny_typeNameOfWhole_valiter hT (wpAny_pure ?_)) | refine wpAny_bind (wpAny_typeNameOf_valiter hT (wpAny_pure ?_))
  show wpAny _ _ (setField (.ref it) 0 .none >>= _) _ _ s
  refine wpAny_bind (wpAny_setField hit rfl (by simp) ?_)
  exact stop_raw hh (Heap.SameBut.update ..).extBut hQ

/-- the iterator of a dict's pairs -/
theorem itemsIter_raw {v d : Addr} {es : Array DictEntry} {ep : Nat} {Q : Value → Shared → Prop} (hv : s.heap.get? v = some { cls := .type "dict_items", dict := none, data := .fields #[.ref d], slots := #[] }) (ho : s.heap.get? d = some (DObj es ep))
    (hQ : Q (.ref s.heap.objs.size) { s with heap := s.heap.push { cls := .type "dict_itemiterator", data := .fields #[.none, .bool false, .ref d, .int 0 0, .int es.size 0, .int ep 0, .none, .none] } }) :
    wpAny (model prog w) A (pyIter (.ref v)) Q E s := by
  have hT : s.TypeIs (.ref v) "dict_items" := ⟨_, hv, rfl⟩
  refine wpAny_pyIter_slot hT F.slot_dict_items_iter (wpAny_call_entry F.slot_dict_items_iter hT F.entry_dict_items_iter ?_ (F.args_dict_items_iter_1 _))
  unfold Builtin.«dict_items.__iter__»
  refine wpAny_bind (wpAny_pure ?_)
  refine wpAny_bind ?_
  unfold Builtin.Dict_items.dictOf
  refine wpAny_bind (wpAny_field hv rfl (x := .ref d) rfl (wpAny_pure ?_))
  refine wpAny_bind ?_
  unfold Builtin.Dict_items.newIterator
  refine wpAny_bind (wpAny_dictEntries ho rfl ?_)
  refine wpAny_bind (wpAny_dictEpoch ho rfl ?_)
  simp only [show Builtin.Dict_items.ownsTuple "dict_itemiterator" = true by decide, if_true]
  refine wpAny_newObj_type (wpAny_pure ⟨_, rfl, "dict_itemiterator", _, ⟨_, Heap.get?_push_size _ rfl, rfl⟩, F.slot_dict_itemiterator_next.lookup, ?_⟩)
    (by simp only [sizeOk, Builtin.Dict_items.ownedTupleFields, List.size_toArray, List.length_append, List.length_cons, List.length_nil, sizeLine_eq]; omega)
  simpa [rawInt, Builtin.Dict_items.ownedTupleFields] using hQ
theorem valuesIter_raw {v d : Addr} {es : Array DictEntry} {ep : Nat} {Q : Value → Shared → Prop} (hv : s.heap.get? v = some { cls := .type "dict_values", dict := none, data := .fields #[.ref d], slots := #[] }) (ho : s.heap.get? d = some (DObj es ep))
    (hQ : Q (.ref s.heap.objs.size) { s with heap := s.heap.push { cls := .type "dict_valueiterator", data := .fields #[.ref d, .int 0 0, .int es.size 0, .int ep 0] } }) :
    wpAny (model prog w) A (pyIter (.ref v)) Q E s := by
  have hT : s.TypeIs (.ref v) "dict_values" := ⟨_, hv, rfl⟩
  refine wpAny_pyIter_slot hT F.slot_dict_values_iter (wpAny_call_entry F.slot_dict_values_iter hT F.entry_dict_values_iter ?_ (F.args_dict_values_iter_1 _))
  unfold Builtin.«dict_values.__iter__»
  refine wpAny_bind (wpAny_pure ?_)
  refine wpAny_bind ?_
  unfold Builtin.Dict_items.dictOf
  refine wpAny_bind (wpAny_field hv rfl (x := .ref d) rfl (wpAny_pure ?_))
  refine wpAny_bind ?_
  unfold Builtin.Dict_items.newIterator
  refine wpAny_bind (wpAny_dictEntries ho rfl ?_)
  refine wpAny_bind (wpAny_dictEpoch ho rfl ?_)
  simp only [show Builtin.Dict_items.ownsTuple "dict_valueiterator" = false by decide, Bool.false_eq_true, if_false]
  refine wpAny_newObj_type (wpAny_pure ⟨_, rfl, "dict_valueiterator", _, ⟨_, Heap.get?_push_size _ rfl, rfl⟩, F.slot_dict_valueiterator_next.lookup, ?_⟩)
  simpa [rawInt] using hQ
theorem items_raw {d : Addr} {es : Array DictEntry} {ep : Nat} {pos : Pos} {Q : Value → Shared → Prop} (hd : d ≠ sysModules) (ho : s.heap.get? d = some (DObj es ep))
    (hQ : Q (.ref s.heap.objs.size) { s with heap := s.heap.push { cls := .type "dict_items", data := .fields #[.ref d] } }) : wpAny (model prog w) A (callWith pos (.builtin "dict.items") [.ref d] [] []) Q E s := by
  have hT : s.TypeIs (.ref d) "dict" := ⟨_, ho, rfl⟩
  refine method_meetsIn F.slot_dict_items F.entry_dict_items rfl (PySem.evalArgs_none ⟨rfl, hT, F.args_dict_items_1 _, (fun _ R s => s.heap.get? d = some (DObj es ep) ∧ R (.ok (.ret (.ref s.heap.objs.size))) { s with heap := s.heap.push { cls := .type "dict_items", data := .fields #[.ref d] } }), .of_wp fun A R s ⟨hm, h⟩ => ?_, ho, hQ⟩)
  have hT : s.TypeIs (.ref d) "dict" := ⟨_, hm, rfl⟩
  unfold Builtin.«dict.items»
  refine wpAny_bind ?_
  unfold Builtin.Dict.noArgs
  refine wpAny_bind (wpAny_notOrdered_dict hT ?_)
  show wpAny _ _ (pure d) _ _ s
  refine wpAny_pure ?_
  show wpAny _ _ (Builtin.Dict.showsAll d >>= _) _ _ s
  unfold Builtin.Dict.showsAll
  rw [if_neg (by rw [sys_ne hd]; exact Bool.false_ne_true)]
  refine wpAny_bind (wpAny_pure ?_)
  exact wpAny_bind (wpAny_newObj_type (wpAny_pure ⟨_, rfl, h⟩))
theorem values_raw {d : Addr} {es : Array DictEntry} {ep : Nat} {pos : Pos} {Q : Value → Shared → Prop} (hd : d ≠ sysModules) (ho : s.heap.get? d = some (DObj es ep))
    (hQ : Q (.ref s.heap.objs.size) { s with heap := s.heap.push { cls := .type "dict_values", data := .fields #[.ref d] } }) : wpAny (model prog w) A (callWith pos (.builtin "dict.values") [.ref d] [] []) Q E s := by
  have hT : s.TypeIs (.ref d) "dict" := ⟨_, ho, rfl⟩
  refine method_meetsIn F.slot_dict_values F.entry_dict_values rfl (PySem.evalArgs_none ⟨rfl, hT, F.args_dict_values_1 _, (fun _ R s => s.heap.get? d = some (DObj es ep) ∧ R (.ok (.ret (.ref s.heap.objs.size))) { s with heap := s.heap.push { cls := .type "dict_values", data := .fields #[.ref d] } }), .of_wp fun A R s ⟨hm, h⟩ => ?_, ho, hQ⟩)
  have hT : s.TypeIs (.ref d) "dict" := ⟨_, hm, rfl⟩
  refine wpAny_bind ?_
  unfold Builtin.Dict.noArgs
  refine wpAny_bind (wpAny_notOrdered_dict hT ?_)
  show wpAny _ _ (pure d) _ _ s
  refine wpAny_pure ?_
  show wpAny _ _ (Builtin.Dict.showsAll d >>= _) _ _ s
  unfold Builtin.Dict.showsAll
  rw [if_neg (by rw [sys_ne hd]; exact Bool.false_ne_true)]
  refine wpAny_bind (wpAny_pure ?_)
  exact wpAny_bind (wpAny_newObj_type (wpAny_pure ⟨_, rfl, h⟩))

theorem next_items {it d : Addr} {i ep : Nat} {es : Array DictEntry} {e : DictEntry} {ok ov : Value} {Q : Option Value → Shared → Prop} (hit : IsItemIter s.heap it d i es.size ep ok ov) (ho : s.heap.get? d = some (DObj es ep)) (hx : es[i]? = some e)
    (hQ : ∀ h', IsItemIterOut h' it d (i + 1) es.size ep e.key e.val s.heap.objs.size → h'.get? s.heap.objs.size = some (TObj #[e.key, e.val] 0) → h'.objs.size = s.heap.objs.size + 1 →
      Kp (fun b => b = it) s.heap h' → Q (some (.ref s.heap.objs.size)) { s with heap := h' }) : wpAny (model prog w) A (pyNext (.ref it)) Q E s := by
  obtain ⟨hp, g, dr, tk, os⟩ := s
  have hT : Shared.TypeIs ⟨hp, g, dr, tk, os⟩ (.ref it) "dict_itemiterator" := ⟨_, hit, rfl⟩
  unfold pyNext
  refine wpAny_bind (wpAny_attempt (wpAny_callSpecial?_slot (name := Str.ofString "__next__") hT F.slot_dict_itemiterator_next (wpAny_call_entry F.slot_dict_itemiterator_next hT F.entry_dict_itemiterator_next ?_ (F.args_dict_itemiterator_next_1 _))))
  refine wpAny_bind (wpAny_pure ?_)
  refine wpAny_bind ?_
  refine wpAny_bind ?_
  first | refine wpAny_bind (wpAny_typeNameOfWhole_itemiter hT (wpAny_pure ?_)) | refine wpAny_bind (wpAny_typeNameOf_itemiter hT (wpAny_pure ?_))
  refine wpAny_bind (wpAny_fieldsOf hit rfl ?_)
  simp only [show Builtin.Dict_items.ownsTuple "dict_itemiterator" = true by decide, if_true]
  show wpAny _ _ (if (Value.ref d == Value.none) = true then _ else _) _ _ _
  rw [if_neg (show ¬ ((Value.ref d == Value.none) = true) from Bool.false_ne_true)]
  refine wpAny_bind (wpAny_pure ?_)
  refine wpAny_bind (wpAny_dictEntries ho rfl ?_)
  rw [if_neg (by simp)]
  refine wpAny_bind (wpAny_pure ?_)
  refine wpAny_bind (wpAny_dictEpoch ho rfl ?_)
  rw [if_neg (by simp)]
  refine wpAny_pure ?_
  simp only [show ¬ ((i : Int) < 0) from by omega, if_false, Int.toNat_natCast, hx]
  refine wpAny_bind ?_
  first | refine wpAny_bind (wpAny_typeNameOfWhole_itemiter hT (wpAny_pure ?_)) | refine wpAny_bind (wpAny_typeNameOf_itemiter hT (wpAny_pure ?_))
  refine wpAny_bind (wpAny_isOneOf_itemiter hT ?_)
  show wpAny _ _ (setField (.ref it) 3 (rawInt ((i : Int) + 1)) >>= _) _ _ ⟨hp, g, dr, tk, os⟩
  refine wpAny_bind (wpAny_setField_rec hit (by simp) fun h₁ he₁ hs₁ => ?_)
  replace hs₁ : Heap.SameBut it hp h₁ := hs₁
  replace he₁ : IsItemIter h₁ it d (i + 1) es.size ep ok ov := by
    have e : ((i + 1 : Nat) : Int) = (i : Int) + 1 := by omega
    unfold IsItemIter; rw [e]; simpa [rawInt] using he₁
  have hT₁ : Shared.TypeIs ⟨h₁, g, dr, tk, os⟩ (.ref it) "dict_itemiterator" := ⟨_, he₁, rfl⟩
  refine wpAny_bind (wpAny_holding ?_)
  refine wpAny_bind (wpAny_isOneOf_itemiter hT₁ ?_)
  refine wpAny_bind (wpAny_isOneOf_itemiter hT₁ ?_)
  show wpAny _ _ (Builtin.Dict_items.pairFromOwner (.ref it) 6 e.key e.val) _ _ ⟨h₁, g, dr, tk, os⟩
  unfold Builtin.Dict_items.pairFromOwner
  refine wpAny_bind (wpAny_newTuple ?_)
  have he₂ : IsItemIter (h₁.push { cls := .type "tuple", data := .seq #[e.key, e.val] }) it d (i + 1) es.size ep ok ov := Heap.get?_push_of_some _ he₁
  generalize hh₂ : h₁.push { cls := .type "tuple", data := .seq #[e.key, e.val] } = h₂ at he₂
  have hz₁ : h₁.objs.size = hp.objs.size := hs₁.1
  have hil : it < hp.objs.size := Heap.lt_size hit
  have ht₂ : h₂.get? hp.objs.size = some (TObj #[e.key, e.val] 0) := by rw [← hh₂, ← hz₁]; exact Heap.get?_push_size _ rfl
  have hz₂ : h₂.objs.size = hp.objs.size + 1 := by rw [← hh₂, Heap.size_push, hz₁]
  have hk₂ : ∀ b o, b ≠ it → hp.get? b = some o → h₂.get? b = some o := fun b o hb e => by rw [← hh₂]; exact Heap.get?_push_of_some _ (hs₁.extBut b o hb e)
  show wpAny _ _ (Builtin.Dict_items.ownedTupleIsFree (.ref it) >>= _) _ _ ⟨h₂, g, dr, tk, os⟩
  rw [hz₁]
  clear hh₂ he₁ hs₁ hT₁ hz₁ h₁
  refine wpAny_bind ?_
  unfold Builtin.Dict_items.ownedTupleIsFree
  refine wpAny_bind (wpAny_field he₂ rfl (x := .none) rfl (wpAny_pure ?_))
  simp only [if_true]
  refine wpAny_bind (wpAny_field he₂ rfl (x := ok) rfl ?_)
  refine wpAny_bind (wpAny_field he₂ rfl (x := ov) rfl ?_)
  refine wpAny_bind (wpAny_setField_rec he₂ (by simp) fun h₃ he₃ hs₃ => ?_)
  replace hs₃ : Heap.SameBut it h₂ h₃ := hs₃
  replace he₃ : IsItemIter h₃ it d (i + 1) es.size ep e.key ov := he₃
  refine wpAny_bind (wpAny_setField_rec he₃ (by simp) fun h₄ he₄ hs₄ => ?_)
  replace hs₄ : Heap.SameBut it h₃ h₄ := hs₄
  replace he₄ : IsItemIter h₄ it d (i + 1) es.size ep e.key e.val := he₄
  refine wpAny_bind (wpAny_setField_rec he₄ (by simp) fun h₅ he₅ hs₅ => ?_)
  replace hs₅ : Heap.SameBut it h₄ h₅ := hs₅
  replace he₅ : IsItemIterOut h₅ it d (i + 1) es.size ep e.key e.val hp.objs.size := he₅
  refine wpAny_bind (wpAny_setField_rec he₅ (by simp) fun h₆ he₆ hs₆ => ?_)
  replace hs₆ : Heap.SameBut it h₅ h₆ := hs₆
  replace he₆ : IsItemIterOut h₆ it d (i + 1) es.size ep e.key e.val hp.objs.size := he₆
  refine wpAny_bind (wpAny_letGo (wpAny_pure (wpAny_pure ⟨_, rfl, wpAny_pure (hQ h₆ he₆ ?_ ?_ ?_)⟩)))
  · exact hs₆.extBut _ _ (Nat.ne_of_gt hil) (hs₅.extBut _ _ (Nat.ne_of_gt hil) (hs₄.extBut _ _ (Nat.ne_of_gt hil) (hs₃.extBut _ _ (Nat.ne_of_gt hil) ht₂)))
  · show h₆.objs.size = hp.objs.size + 1
    rw [hs₆.1, hs₅.1, hs₄.1, hs₃.1, hz₂]
  · exact fun b o hb e => hs₆.extBut b o hb (hs₅.extBut b o hb (hs₄.extBut b o hb (hs₃.extBut b o hb (hk₂ b o hb e))))

theorem end_items {it d : Addr} {i ep : Nat} {es : Array DictEntry} {ok ov : Value} {Q : Option Value → Shared → Prop} (hh : A.handled = none) (hit : IsItemIter s.heap it d i es.size ep ok ov) (ho : s.heap.get? d = some (DObj es ep)) (hx : es.size ≤ i)
    (hQ : ∀ h', Heap.ExtBut it s.heap h' → Q none { s with heap := h' }) : wpAny (model prog w) A (pyNext (.ref it)) Q E s := by
  have hT : s.TypeIs (.ref it) "dict_itemiterator" := ⟨_, hit, rfl⟩
  unfold pyNext
  refine wpAny_bind (wpAny_attempt (wpAny_callSpecial?_slot (name := Str.ofString "__next__") hT F.slot_dict_itemiterator_next (wpAny_call_entry F.slot_dict_itemiterator_next hT F.entry_dict_itemiterator_next ?_ (F.args_dict_itemiterator_next_1 _))))
  refine wpAny_bind (wpAny_pure ?_)
  refine wpAny_bind ?_
  refine wpAny_bind ?_
  first | refine wpAny_bind (wpAny_typeNameOfWhole_itemiter hT (wpAny_pure ?_)) | refine wpAny_bind (wpAny_typeNameOf_itemiter hT (wpAny_pure ?_))
  refine wpAny_bind (wpAny_fieldsOf hit rfl ?_)
  simp only [show Builtin.Dict_items.ownsTuple "dict_itemiterator" = true by decide, if_true]
  show wpAny _ _ (if (Value.ref d == Value.none) = true then _ else _) _ _ s
  rw [if_neg (show ¬ ((Value.ref d == Value.none) = true) from Bool.false_ne_true)]
  refine wpAny_bind (wpAny_pure ?_)
  refine wpAny_bind (wpAny_dictEntries ho rfl ?_)
  rw [if_neg (by simp)]
  refine wpAny_bind (wpAny_pure ?_)
  refine wpAny_bind (wpAny_dictEpoch ho rfl ?_)
  rw [if_neg (by simp)]
  refine wpAny_pure ?_
  simp only [show ¬ ((i : Int) < 0) from by omega, if_false, Int.toNat_natCast, Array.getElem?_eq_none hx]
  refine wpAny_bind ?_
  first | refine wpAny_bind (wpAny_typeNameOfWhole_itemiter hT (wpAny_pure ?_)) | refine wpAny_bind (wpAny_typeNameOf_itemiter hT (wpAny_pure ?_))
  show wpAny _ _ (setField (.ref it) 2 .none >>= _) _ _ s
  refine wpAny_bind (wpAny_setField hit rfl (by simp) ?_)
  exact stop_raw hh (Heap.SameBut.update ..).extBut hQ
end
end Mine

open PySem PySem.W PyProof.Rows
namespace Mine

section
variable {prog : Program} {w : World} {Γ : GEnv} {sc : Scope} {k : Nat} {σ : Sg}

theorem Ents.get {w : World} {R : Addr → Prop} {h : Heap} : ∀ {ks : List HK} {es : List DictEntry} {i : Nat} {e : DictEntry}, Ents w R h ks es → es[i]? = some e → ∃ k, ks[i]? = some k ∧ KIs R h k e.key
  | _, _, 0, _, .cons a _, e => by simp at e; subst e; exact ⟨_, rfl, a⟩
  | _, _, i + 1, _, .cons _ b, e => by simp at e; obtain ⟨k, h1, h2⟩ := Ents.get b e; exact ⟨k, by simpa using h1, h2⟩
  | _, _, _, _, .nil, e => by simp at e

theorem DAt.size {w : World} {R h a kvs es n} (x : DAt w R h a kvs es n) : es.size = kvs.length := by have := x.ents.length; simpa using this.symm

theorem DAt.frame {w : World} {R : Addr → Prop} {h h' : Heap} {a kvs es n} (x : DAt w R h a kvs es n) (e : h'.get? a = some (DObj es n)) (kp : ∀ b o, R b → h.get? b = some o → h'.get? b = some o) : DAt w R h' a kvs es n :=
  x.mv (fun b o hb e => ⟨hb, kp b o hb e⟩) e

theorem Wk.vals {A : Around} (hh : A.handled = none) {I d : Addr} {kvs : KV} {es : Array DictEntry} {ep : Nat} {Rd : Addr → Prop} (hd : d ≠ I) (hRd : ¬ Rd I) :
    Wk prog w A I (fun _ => True) (fun b => b = I ∨ b = d ∨ Rd b) (fun b => b = I) Rd (kvs.map fun p => p.2) (fun i h => ValIt h I d i es.size ep ∧ DAt w Rd h d kvs es ep) where
  frame := fun i h h' st k => ⟨k _ _ (.inl rfl) st.1, st.2.frame (k _ _ (.inr (.inl rfl)) st.2.ob) fun b o hb e => k b o (.inr (.inr hb)) e⟩
  alive := fun i h st a ha => ⟨_, _, ha ▸ st.1, rfl⟩
  item := fun i x s Q E hx st hQ => by
    refine xA (st) fun hit D => ?_
    try clear st
    have hlt : i < es.size := by
      rw [D.size]
      rcases Nat.lt_or_ge i kvs.length with h | h
      · exact h
      · rw [List.getElem?_eq_none (by simpa using h)] at hx; cases hx
    obtain ⟨e, he⟩ : ∃ e, es[i]? = some e := ⟨_, Array.getElem?_eq_getElem hlt⟩
    refine xEA (D.vals.get hx) fun v hv pv => ?_
    have hv' : v = e.val := by
      rw [List.getElem?_map, Array.getElem?_toList, he] at hv; cases hv; rfl
    subst hv'
    refine next_ValIt hit D.ob he fun h' hit' kp => ?_
    refine hQ e.val h' s.toks fun target Q' E' _ hQ' => ?_
    have D' := D.frame (kp _ _ hd D.ob) fun b o hb e => kp b o (fun q => hRd (q ▸ hb)) e
    exact letGo_plain hit' rfl (by decide) (hQ' h' kp ((pv.mv (.kp kp fun b hb q => hRd (q ▸ hb))).mv (.sub fun a => .inl)) ⟨hit', D'⟩)
  done := fun s Q E st hQ => by
    simp only [List.length_map] at st
    exact end_ValIt hh st.1 st.2.ob (by rw [st.2.size]; exact Nat.le_refl _) fun h' he' => hQ h' s.toks fun b o hb e => he' b o hb e
  self := fun i s Q E st hQ => wpAny_pyIter_valiter (i := i) (n := es.size) (ep := ep) (d := d) ⟨_, st.1, rfl, rfl⟩ hQ

noncomputable def IsTupT (t : Expr) : Prop := ∃ elts n pos, t = .Tuple elts n pos

theorem Wk.items {A : Around} (hh : A.handled = none) {I d : Addr} {kvs : KV} {es : Array DictEntry} {ep : Nat} {Rd : Addr → Prop} (hd : d ≠ I) (hRd : ¬ Rd I) :
    Wk prog w A I IsTupT (fun b => b = I ∨ b = d ∨ Rd b) (fun b => b = I) Rd (kvs.map fun p => .tuple [p.1.py, p.2]) (fun i h => (∃ ok ov, IsItemIter h I d i es.size ep ok ov) ∧ DAt w Rd h d kvs es ep) where
  frame := fun i h h' st k => ⟨let ⟨ok, ov, e⟩ := st.1; ⟨ok, ov, k _ _ (.inl rfl) e⟩, st.2.frame (k _ _ (.inr (.inl rfl)) st.2.ob) fun b o hb e => k b o (.inr (.inr hb)) e⟩
  alive := fun i h st a ha => by obtain ⟨⟨ok, ov, e⟩, _⟩ := st; exact ⟨_, _, ha ▸ e, rfl⟩
  item := fun i x s Q E hx st hQ => by
    refine xA (st) fun zE1 D => ?_
    try clear st
    refine xEE (zE1) fun ok ov hit => ?_
    try clear zE1
    have hlt : i < es.size := by
      rw [D.size]
      rcases Nat.lt_or_ge i kvs.length with h | h
      · exact h
      · rw [List.getElem?_eq_none (by simpa using h)] at hx; cases hx
    obtain ⟨e, he⟩ : ∃ e, es[i]? = some e := ⟨_, Array.getElem?_eq_getElem hlt⟩
    refine xEA (D.ents.get (i := i) (by simpa using he)) fun ky hk ik => ?_
    obtain ⟨p, hp⟩ : ∃ p, kvs[i]? = some p := ⟨_, List.getElem?_eq_getElem (by rw [← D.size]; exact hlt)⟩
    obtain ⟨v, hv, pv⟩ := D.vals.get (i := i) (d := p.2) (by rw [List.getElem?_map, hp]; rfl)
    have hv' : v = e.val := by
      rw [List.getElem?_map, Array.getElem?_toList, he] at hv; cases hv; rfl
    have hky : ky = p.1 := by rw [List.getElem?_map, hp] at hk; cases hk; rfl
    have hx' : x = .tuple [p.1.py, p.2] := by rw [List.getElem?_map, hp] at hx; cases hx; rfl
    subst hv' hky hx'
    have hI : I < s.heap.objs.size := Heap.lt_size hit
    have hdl : d < s.heap.objs.size := Heap.lt_size D.ob
    refine next_items hit D.ob he fun h' hit' ht hsz kp => ?_
    refine hQ _ h' s.toks fun target Q' E' hT hQ' => ?_
    refine xEEE (hT) fun elts n pos zE2 => ?_
    try clear hT
    subst zE2
    refine wpAny_letOwnedTupleGo_items hit' fun h'' hit'' hs => ?_
    have kp' : Kp (fun b => b = I) s.heap h'' := fun b o hb e => (hs.2 b hb).trans (kp b o hb e)
    have D' := D.frame (kp' _ _ hd D.ob) fun b o hb e => kp' b o (fun q => hRd (q ▸ hb)) e
    have fz := fresh_size s.heap
    have mv : Mv Rd (fun a => Rd a ∨ s.heap.get? a = none) s.heap h'' := fun b o hb e => ⟨.inl hb, kp' b o (fun q => hRd (q ▸ hb)) e⟩
    refine hQ' h'' kp' (.tuple (.inr fz) ((hs.2 _ (Nat.ne_of_gt hI)).trans ht) (.cons (ik.mv mv).rp (.cons (pv.mv mv) .nil))) ⟨⟨_, _, hit''⟩, D'⟩
  done := fun s Q E st hQ => by
    simp only [List.length_map] at st
    refine xA (st) fun zE3 D => ?_
    try clear st
    refine xEE (zE3) fun ok ov hit => ?_
    try clear zE3
    exact end_items hh hit D.ob (by rw [D.size]; exact Nat.le_refl _) fun h' he' => hQ h' s.toks fun b o hb e => he' b o hb e
  self := fun i s Q E st hQ => by obtain ⟨⟨ok, ov, hit⟩, D⟩ := st; exact kcp_self hit hQ

noncomputable def enumD (xs : List PyData) : List PyData := xs.mapIdx fun i d => .tuple [.int (i : Int), d]

theorem Wk.enum {A : Around} (hh : A.handled = none) {I J l : Addr} {vs : Array Value} {n : Nat} {xs : List PyData} {Rd : Addr → Prop} (hIJ : I ≠ J) (hlI : l ≠ I) (hlJ : l ≠ J) (hRI : ¬ Rd I) (hRJ : ¬ Rd J) :
    Wk prog w A I IsTupT (fun b => b = I ∨ b = J ∨ b = l ∨ Rd b) (fun b => b = I ∨ b = J) Rd (enumD xs) (fun i h => (∃ old, IsEnum h I J (i : Nat) old) ∧ h.IsListIter J l i ∧ h.get? l = some (LObj vs n) ∧ RpAll w Rd h vs.toList xs) where
  frame := fun i h h' st k => by
    refine xAAA (st) fun zE4 zE5 e2 p => ?_
    try clear st
    refine xE (zE4) fun old e1 => ?_
    try clear zE4
    refine xEA (zE5) fun o e r => ?_
    try clear zE5
    exact ⟨⟨old, k _ _ (.inl rfl) e1⟩, ⟨o, k _ _ (.inr (.inl rfl)) e, r⟩, k _ _ (.inr (.inr (.inl rfl))) e2, p.mv fun a o ha e => ⟨ha, k a o (.inr (.inr (.inr ha))) e⟩⟩
  alive := fun i h st a ha => by
    refine xAA (st) fun zE6 zE7 _ => ?_
    try clear st
    refine xE (zE6) fun old e1 => ?_
    try clear zE6
    refine xEAA (zE7) fun o e hc hd => ?_
    try clear zE7
    rcases ha with rfl | rfl
    · exact ⟨_, _, e1, rfl⟩
    · exact ⟨o, _, e, hd⟩
  item := fun i x s Q E hx st hQ => by
    refine xAAA (st) fun zE8 hit e p => ?_
    try clear st
    refine xE (zE8) fun old he => ?_
    try clear zE8
    obtain ⟨d, hd, rfl⟩ : ∃ d, xs[i]? = some d ∧ x = .tuple [.int (i : Int), d] := by
      unfold enumD at hx
      rw [List.getElem?_mapIdx] at hx
      cases hq : xs[i]? with
      | none => rw [hq] at hx; cases hx
      | some d => rw [hq] at hx; cases hx; exact ⟨d, rfl, rfl⟩
    refine xEA (p.get hd) fun v hv pv => ?_
    have hI : I < s.heap.objs.size := Heap.lt_size he
    refine wpAny_pyNext_enum_item he hit ⟨_, e, rfl, _, rfl⟩ (x := v) (by simpa using hv) hIJ fun h' he' hit' ht hsz kp => ?_
    refine hQ _ h' _ fun target Q' E' hT hQ' => ?_
    refine xEEE (hT) fun elts m pos zE9 => ?_
    try clear hT
    subst zE9
    refine wpAny_letOwnedTupleGo_enum he' fun h'' he'' hs => ?_
    have kp' : Kp (fun b => b = I ∨ b = J) s.heap h'' := fun b o hb e => (hs.2 b fun q => hb (.inl q)).trans (kp b o (fun q => hb (.inl q)) (fun q => hb (.inr q)) e)
    have fz := fresh_size s.heap
    have nR : ∀ b, Rd b → ¬ (b = I ∨ b = J) := fun b hb q => q.elim (fun q => hRI (q ▸ hb)) fun q => hRJ (q ▸ hb)
    have mv : Mv Rd (fun a => Rd a ∨ s.heap.get? a = none) s.heap h'' := fun b o hb e => ⟨.inl hb, kp' b o (nR b hb) e⟩
    have hit'' : h''.IsListIter J l (i + 1) := by
      refine xEA (hit') fun o e r => ?_
      try clear hit'
      exact ⟨o, (hs.2 _ fun q => hIJ q.symm).trans e, r⟩
    refine hQ' h'' kp' (.tuple (.inr fz) ((hs.2 _ (Nat.ne_of_gt hI)).trans ht) (.cons (.int _ _) (.cons (pv.mv mv) .nil))) ⟨⟨v, ?_⟩, hit'', kp' _ _ (fun q => q.elim hlI hlJ) e, p.mv (.kp kp' nR)⟩
    have e1 : ((i + 1 : Nat) : Int) = (i : Int) + 1 := by push_cast; rfl
    rw [e1]; exact he''
  done := fun s Q E st hQ => by
    refine xAAA (st) fun zE10 hit e p => ?_
    try clear st
    refine xE (zE10) fun old he => ?_
    try clear zE10
    refine wpAny_pyNext_enum_end hh he hit ⟨_, e, rfl, _, rfl⟩ (by unfold enumD; rw [List.length_mapIdx, ← p.length]; simp) fun h' he' => hQ h' s.toks fun b o hb e => he' b o (fun q => hb (.inr q)) e
  self := fun i s Q E st hQ => by obtain ⟨⟨old, he⟩, _⟩ := st; exact wpAny_pyIter_enum he hQ
end
end Mine

open PySem PySem.W PyProof.Rows
namespace Mine

section
variable {prog : Program} {w : World} {Γ : GEnv} {sc : Scope} {k : Nat} {σ : Sg}

theorem alive_push {h : Heap} {o : Obj} {b : Addr} (hb : (h.get? b).isSome = true) : ((h.push o).get? b).isSome = true := by
  refine xE (Option.isSome_iff_exists.mp hb) fun x e => ?_
  rw [Heap.get?_push_of_some o e]; rfl
theorem alive_top {h : Heap} {o : Obj} (hf : o.isFreed = false) : ((h.push o).get? h.objs.size).isSome = true := by
  rw [Heap.get?_push_size _ hf]; rfl
theorem ne_top {h : Heap} {b : Addr} (hb : (h.get? b).isSome = true) : b ≠ h.objs.size := fun q => by rw [q, fresh_size] at hb; cases hb

theorem kpush (h : Heap) (x : Obj) : ∀ b o, h.get? b = some o → (h.push x).get? b = some o := fun b o e => Heap.get?_push_of_some _ e

theorem meth0 {A : Around} {E : Value → Shared → Prop} {env : Env} {s : Shared} {e : Expr} {name : Str} {apos pos : Pos} {Q : Value → Shared → Prop} (hbase : attributeBase e name env (eval e env) = eval e env) (hline : (apos.endLine == pos.line) = true)
    (h : wpAny (model prog w) A (eval e env) (fun ov s₁ => MethodOnS prog w A E name ov pos [] Q s₁) E s) : wpAny (model prog w) A (eval (.Call (.Attribute e name apos) [] [] pos) env) Q E s := Call_method0 hbase hline h

theorem It.items {e kvs apos pos} (h : Ev prog w Γ sc k σ e (dictD kvs)) (hbase : ∀ env, attributeBase e "items" env (eval e env) = eval e env := by intro _; rfl) (hline : (apos.endLine == pos.line) = true := by rfl) :
    It prog w Γ sc k σ (.Call (.Attribute e "items" apos) [] [] pos) IsTupT (kvs.map fun p => .tuple [p.1.py, p.2]) := fun A E env R s hr he hg hs => by
  refine meth0 (hbase env) hline (wpAny_mono (h A E env R s hr he hg hs) (fun v s₁ ⟨x₁, p⟩ => ?_) fun _ _ e => e)
  refine xEEEAA (p.live.dictI) fun d es n zE2 hR D => ?_
  subst zE2
  refine ⟨"dict", "dict.items", F.plainAttrs_dict, F.slot_dict_items, F.type_dict_items, ⟨_, D.ob, rfl⟩, fun b e => by cases e; exact ⟨_, D.ob, rfl⟩, items_raw D.ns D.ob ?_⟩
  have k1 := kpush s₁.heap { cls := .type "dict_items", data := .fields #[.ref d] }
  refine itemsIter_raw (Heap.get?_push_size _ rfl) (k1 _ _ D.ob) ?_
  have k2 := fun b o e => kpush (s₁.heap.push { cls := .type "dict_items", data := .fields #[.ref d] }) { cls := .type "dict_itemiterator", data := .fields #[.none, .bool false, .ref d, .int 0 0, .int es.size 0, .int n 0, .none, .none] } b o (k1 b o e)
  have fr : s.heap.get? (s₁.heap.push { cls := .type "dict_items", data := .fields #[.ref d] }).objs.size = none := fresh_back (fun b o e => k1 b o (x₁.keep b o e)) (fresh_size _)
  have lv : ∀ b, (s₁.heap.get? b).isSome = true → b ≠ (s₁.heap.push { cls := .type "dict_items", data := .fields #[.ref d] }).objs.size := fun b hb => ne_top (alive_push hb)
  refine ⟨(x₁.trans (.push _ s₁.toks)).trans (.push _ _), (s₁.heap.push { cls := .type "dict_items", data := .fields #[.ref d] }).objs.size, _, _, _, _, rfl, Wk.items hr.hh (d := d) (kvs := kvs) (es := es) (ep := n) (Rd := fun b => Nw R s b ∧ (s₁.heap.get? b).isSome = true) (lv _ hR.2) (fun q => lv _ q.2 rfl),
    ⟨⟨_, _, Heap.get?_push_size _ rfl⟩, D.mv (.keep k2) (k2 _ _ D.ob)⟩, ?_, ?_, ?_⟩
  · rintro b rfl
    exact ⟨fr, alive_top rfl⟩
  · rintro b (rfl | rfl | hb)
    · exact ⟨.inr fr, alive_top rfl⟩
    · exact ⟨hR.1, alive_push (alive_push hR.2)⟩
    · exact ⟨hb.1, alive_push (alive_push hb.2)⟩
  · exact fun b hb => ⟨hb.1, alive_push (alive_push hb.2), fun q => lv b hb.2 q⟩

theorem It.vals {e kvs apos pos} (h : Ev prog w Γ sc k σ e (dictD kvs)) (hbase : ∀ env, attributeBase e "values" env (eval e env) = eval e env := by intro _; rfl) (hline : (apos.endLine == pos.line) = true := by rfl) :
    It prog w Γ sc k σ (.Call (.Attribute e "values" apos) [] [] pos) (fun _ => True) (kvs.map fun p => p.2) := fun A E env R s hr he hg hs => by
  refine meth0 (hbase env) hline (wpAny_mono (h A E env R s hr he hg hs) (fun v s₁ ⟨x₁, p⟩ => ?_) fun _ _ e => e)
  refine xEEEAA (p.live.dictI) fun d es n zE3 hR D => ?_
  subst zE3
  refine ⟨"dict", "dict.values", F.plainAttrs_dict, F.slot_dict_values, F.type_dict_values, ⟨_, D.ob, rfl⟩, fun b e => by cases e; exact ⟨_, D.ob, rfl⟩, values_raw D.ns D.ob ?_⟩
  have k1 := kpush s₁.heap { cls := .type "dict_values", data := .fields #[.ref d] }
  refine valuesIter_raw (Heap.get?_push_size _ rfl) (k1 _ _ D.ob) ?_
  have k2 := fun b o e => kpush (s₁.heap.push { cls := .type "dict_values", data := .fields #[.ref d] }) { cls := .type "dict_valueiterator", data := .fields #[.ref d, .int 0 0, .int es.size 0, .int n 0] } b o (k1 b o e)
  have fr : s.heap.get? (s₁.heap.push { cls := .type "dict_values", data := .fields #[.ref d] }).objs.size = none := fresh_back (fun b o e => k1 b o (x₁.keep b o e)) (fresh_size _)
  have lv : ∀ b, (s₁.heap.get? b).isSome = true → b ≠ (s₁.heap.push { cls := .type "dict_values", data := .fields #[.ref d] }).objs.size := fun b hb => ne_top (alive_push hb)
  refine ⟨(x₁.trans (.push _ s₁.toks)).trans (.push _ _), (s₁.heap.push { cls := .type "dict_values", data := .fields #[.ref d] }).objs.size, _, _, _, _, rfl, Wk.vals hr.hh (d := d) (kvs := kvs) (es := es) (ep := n) (Rd := fun b => Nw R s b ∧ (s₁.heap.get? b).isSome = true) (lv _ hR.2) (fun q => lv _ q.2 rfl),
    ⟨Heap.get?_push_size _ rfl, D.mv (.keep k2) (k2 _ _ D.ob)⟩, ?_, ?_, ?_⟩
  · rintro b rfl
    exact ⟨fr, alive_top rfl⟩
  · rintro b (rfl | rfl | hb)
    · exact ⟨.inr fr, alive_top rfl⟩
    · exact ⟨hR.1, alive_push (alive_push hR.2)⟩
    · exact ⟨hb.1, alive_push (alive_push hb.2)⟩
  · exact fun b hb => ⟨hb.1, alive_push (alive_push hb.2), fun q => lv b hb.2 q⟩

noncomputable def rangeD (a : Int) (n : Nat) : List PyData := (List.range n).map fun i => .int (a + (i : Nat))

theorem range_it {A : Around} {R : Addr → Prop} {s s₁ : Shared} {E : Value → Shared → Prop} {a b : Int} {t u v tk : Tok} (hr : Room k A) (x₁ : Ex s s₁) (ha : -(2 ^ 62) ≤ a) (ha' : a < 2 ^ 62) (hb : -(2 ^ 62) ≤ b) (hb' : b < 2 ^ 62) :
    wpAny (model prog w) A (pyIter (.ref s₁.heap.objs.size)) (ItOut prog w A R s (fun _ => True) (rangeD a (b - a).toNat)) E { s₁ with heap := s₁.heap.push { cls := .type "range", data := .fields #[.int a t, .int b u, .int 1 v] }, toks := tk } := by
  have k1 := kpush s₁.heap { cls := .type "range", data := .fields #[.int a t, .int b u, .int 1 v] }
  refine wpAny_pyIter_range (a := a) (b := b) (c := 1) (t := t) (u := u) (v := v) (Heap.get?_push_size _ rfl) (small_one ha ha' hb hb') ?_
  have fr : s.heap.get? (s₁.heap.push { cls := .type "range", data := .fields #[.int a t, .int b u, .int 1 v] }).objs.size = none := fresh_back (fun b o e => k1 b o (x₁.keep b o e)) (fresh_size _)
  refine ⟨(x₁.trans (.push _ tk)).trans (.push _ _), _, _, _, _, _, rfl, Wk.range hr.hh a (b - a).toNat, ?_, ?_, ?_, nofun⟩
  · have e1 : (if a < b then b - a else 0) = (((b - a).toNat : Nat) : Int) := by split <;> omega
    show (Heap.push _ _).get? _ = _
    rw [Heap.get?_push_size _ rfl, rangeSize_one, e1]
    simp
  · rintro c rfl; exact ⟨fr, alive_top rfl⟩
  · rintro c rfl; exact ⟨.inr fr, alive_top rfl⟩

theorem It.range1 {x px e pos n} (hx : sc.names.lookup x = some .globalImplicit) (hv : Γ.names.lookup x = some (.type "range")) (ha : Evs prog w Γ sc k σ [e] [.int n]) (h0 : -(2 ^ 62) ≤ n) (h1 : n < 2 ^ 62)
    (hst : ∀ a ∈ [e], isStarred a = false := by simp [isStarred]) (hd : (x == ("__debug__" : Str)) = false := by decide) : It prog w Γ sc k σ (.Call (.Name x px) [e] [] pos) (fun _ => True) (rangeD 0 n.toNat) := fun A E env R s hr he hg hs =>
  callG hr he hg hs hx hv hd (.type _) ha hst fun vs s₁ x₁ p => by
    induction p using RpAll.elimCons with
    | cons p q =>
      induction q using RpAll.elimNil
      induction p using Rp.elimInt with
      | int t =>
        refine call_range_1 ?_
        have := range_it (w := w) (prog := prog) (A := A) (R := R) (E := E) (t := s₁.toks) (u := t) (v := s₁.toks + 1) (tk := s₁.toks + 1 + 1) hr x₁ (a := 0) (b := n) (by omega) (by omega) h0 h1
        rwa [Int.sub_zero] at this
theorem It.enum {x px e pos xs} (hx : sc.names.lookup x = some .globalImplicit) (hv : Γ.names.lookup x = some (.type "enumerate")) (ha : Evs prog w Γ sc k σ [e] [.list xs])
    (hst : ∀ a ∈ [e], isStarred a = false := by simp [isStarred]) (hd : (x == ("__debug__" : Str)) = false := by decide) : It prog w Γ sc k σ (.Call (.Name x px) [e] [] pos) IsTupT (enumD xs) := fun A E env R s hr he hg hs =>
  callG hr he hg hs hx hv hd (.type _) ha hst fun vs s₁ x₁ p => by
    cases p.live with
    | cons p1 q1 =>
      induction q1 using RpAll.elimNil
      cases p1 with
      | @list l us n _ hR e p =>
        refine call_enumerate_list ⟨_, e, rfl, _, rfl⟩ fun h' he' hit' hsz kk => ?_
        have fz := fresh_size s₁.heap
        have f1 : s₁.heap.get? (s₁.heap.objs.size + 1) = none := by
          cases q : s₁.heap.get? (s₁.heap.objs.size + 1) with
          | none => rfl
          | some o => exact absurd (Heap.lt_size q) (Nat.not_lt.mpr (Nat.le_succ _))
        refine wpAny_pyIter_enum he' ?_
        have nl : ∀ b, (s₁.heap.get? b).isSome = true → b ≠ s₁.heap.objs.size + 1 := fun b hb q => by rw [q, f1] at hb; cases hb
        have al : ∀ b, (s₁.heap.get? b).isSome = true → (h'.get? b).isSome = true := fun b hb => by
          obtain ⟨o, eo⟩ := Option.isSome_iff_exists.mp hb; rw [kk _ _ eo]; rfl
        refine ⟨x₁.trans (.of (t := s₁.toks) kk), _, _, _, _, _, rfl, Wk.enum hr.hh (I := s₁.heap.objs.size + 1) (J := s₁.heap.objs.size) (l := l) (vs := us) (n := n) (xs := xs) (Rd := fun b => Nw R s b ∧ (s₁.heap.get? b).isSome = true) (Nat.succ_ne_self _) (nl _ hR.2) (ne_top hR.2) (fun q => nl _ q.2 rfl) (fun q => ne_top q.2 rfl),
          ⟨⟨_, he'⟩, hit', kk _ _ e, p.mv (.keep kk)⟩, ?_, ?_, ?_⟩
        · rintro b (rfl | rfl)
          · exact ⟨fresh_back x₁.keep f1, by rw [he']; rfl⟩
          · obtain ⟨o, eo, _⟩ := hit'; exact ⟨fresh_back x₁.keep fz, by rw [eo]; rfl⟩
        · rintro b (rfl | rfl | rfl | hb)
          · exact ⟨.inr (fresh_back x₁.keep f1), by rw [he']; rfl⟩
          · obtain ⟨o, eo, _⟩ := hit'; exact ⟨.inr (fresh_back x₁.keep fz), by rw [eo]; rfl⟩
          · exact ⟨hR.1, al _ hR.2⟩
          · exact ⟨hb.1, al _ hb.2⟩
        · exact fun b hb => ⟨hb.1, al _ hb.2, fun q => q.elim (nl b hb.2) (ne_top hb.2)⟩
end
end Mine

open PySem PySem.W PyProof.Rows
namespace Mine

/-- a def's block: its own names once each, its parameters its own -/
noncomputable def scFn (sc : Scope) (ps : List Str) : Bool :=
  sc.kind == .function && !sc.isCoroutine && !sc.isGenerator && nodupKeys sc.names && sc.names.all (fun p => p.2 == .local || p.2 == .cell || p.2 == .globalImplicit) &&
  ps.all (fun x => sc.names.lookup x == some .local || sc.names.lookup x == some .cell) && decide ps.Nodup

structure FnIs (Γ : GEnv) (f : Addr) (fd : FuncData) (sc : Scope) (ps : List Str) (body : List Stmt) : Prop where
  mem : (f, fd) ∈ Γ.fns
  scope : fd.scope = sc
  body : fd.body = .stmts body
  glob : fd.globals = mainGlobals
  bl : fd.builtins = builtinsNs
  clo : fd.closure = []
  bind : ∀ vals : List Value, vals.length = ps.length → bindArgs fd ⟨vals, []⟩ = pure (ps.zip vals)

theorem bindL_lookup {ko : Str → Option NameKind} : ∀ (bs : List (Str × Value)) (m : Str → Option Value) (x : Str), (bs.map (·.1)).Nodup → ko x = some .local → bindL ko bs m x = match bs.lookup x with | some v => some v | none => m x
  | [], m, x, _, _ => rfl
  | (n, v) :: r, m, x, hn, hk => by
    simp only [List.map_cons, List.nodup_cons] at hn
    unfold bindL
    rw [bindL_lookup r _ x hn.2 hk]
    by_cases q : x = n
    · subst q
      have : r.lookup x = none := by
        cases hl : r.lookup x with
        | none => rfl
        | some u => exact absurd (List.mem_map.mpr ⟨_, PySem.mem_of_lookup hl, rfl⟩) hn.1
      rw [this]
      simp [List.lookup_cons, hk]
    · have hb : (x == n) = false := beq_eq_false_iff_ne.mpr q
      rw [List.lookup_cons, hb]
      cases hl : r.lookup x with
      | some u => rfl
      | none =>
        simp only
        split
        · exact if_neg q
        · rfl
theorem bindC_lookup {ko : Str → Option NameKind} : ∀ (bs : List (Str × Value)) (m : Str → Option Value) (x : Str), (bs.map (·.1)).Nodup → ko x ≠ some .local → bindC ko bs m x = match bs.lookup x with | some v => some v | none => m x
  | [], m, x, _, _ => rfl
  | (n, v) :: r, m, x, hn, hk => by
    simp only [List.map_cons, List.nodup_cons] at hn
    unfold bindC
    rw [bindC_lookup r _ x hn.2 hk]
    by_cases q : x = n
    · subst q
      have : r.lookup x = none := by
        cases hl : r.lookup x with
        | none => rfl
        | some u => exact absurd (List.mem_map.mpr ⟨_, PySem.mem_of_lookup hl, rfl⟩) hn.1
      rw [this]
      simp [List.lookup_cons, hk]
    · have hb : (x == n) = false := beq_eq_false_iff_ne.mpr q
      rw [List.lookup_cons, hb]
      cases hl : r.lookup x with
      | some u => rfl
      | none =>
        simp only
        split
        · rfl
        · exact if_neg q

theorem zip_rp {w : World} {R : Addr → Prop} {h : Heap} : ∀ {ps : List Str} {vals : List Value} {ds : List PyData} {x : Str} {d : PyData}, RpAll w R h vals ds → ps.length = ds.length → (ps.zip ds).lookup x = some d → ∃ v, (ps.zip vals).lookup x = some v ∧ Rp w R h v d ∧ x ∈ ps
  | [], _, _, _, _, _, _, hl => by simp at hl
  | p :: ps, _, _, x, d, .nil, hn, hl => by simp at hl
  | p :: ps, _, _, x, d, .cons r1 r2, hn, hl => by
    simp only [List.zip_cons_cons, List.lookup_cons] at hl ⊢
    by_cases q : (x == p) = true
    · rw [q] at hl ⊢
      have zC := Option.some.inj hl
      clear hl
      subst zC
      exact ⟨_, rfl, r1, by rw [eq_of_beq q]; exact .head _⟩
    · simp only [Bool.not_eq_true] at q
      rw [q] at hl ⊢
      refine xEAA (zip_rp r2 (by simpa using hn) hl) fun v h1 h2 h3 => ?_
      exact ⟨v, h1, h2, .tail _ h3⟩

section
variable {prog : Program} {w : World} {Γ : GEnv} {k : Nat}

theorem Room.deeper {A : Around} {env : Env} (r : Room (k + 1) A) : Room k (A.deeper env) := ⟨r.hh, by have := r.depth; show A.depth + 1 + k < _; omega, by have := r.units; show A.units + 3 + _ + _ < _; omega⟩

theorem FnIs.call {f : Addr} {fd : FuncData} {sc : Scope} {ps : List Str} {body : List Stmt} (F : FnIs Γ f fd sc ps body) (hsc : scFn sc ps = true) {ds : List PyData} {d : PyData} (hn : ps.length = ds.length)
    (h : Ss prog w Γ [] sc k (ps.zip ds) [] body (.ret d)) : CallOk prog w Γ (k + 1) (.ref f) ds d := fun A E R s vals hr hg hvals => by
  unfold scFn at hsc
  simp only [Bool.and_eq_true, Bool.not_eq_true', List.all_eq_true, Bool.or_eq_true, beq_iff_eq, decide_eq_true_eq] at hsc
  refine xA (hsc) fun zE1 c7 => ?_
  try clear hsc
  refine xA (zE1) fun zE2 c6 => ?_
  try clear zE1
  refine xA (zE2) fun zE3 c5 => ?_
  try clear zE2
  refine xA (zE3) fun zE4 c4 => ?_
  try clear zE3
  refine xA (zE4) fun zE5 c3 => ?_
  try clear zE4
  refine xA (zE5) fun c1 c2 => ?_
  try clear zE5
  refine xA (hg.fns _ F.mem) fun zE6 hcr => ?_
  refine xEA (zE6) fun o ho hdata => ?_
  try clear zE6
  have hlen : vals.length = ps.length := by rw [hvals.length, hn]
  have hkeys : ((ps.zip vals).map (·.1)) = ps := List.map_fst_zip (by omega)
  refine wpAny_call (codeAny_call_cells hr.d ho hdata hg.nolimit hcr F.body (F.bind vals hlen) F.clo (fun x hx => ?_) (fun s₁ I => ?_) (by rw [F.scope]; exact c2) (by rw [F.scope]; exact c3) (by rw [F.scope]; exact c1))
  · have hm : x.1 ∈ ps := by rw [← hkeys]; exact List.mem_map.mpr ⟨x, hx, rfl⟩
    rw [F.scope]
    rcases c6 x.1 hm with q | q
    · exact .inl q
    · refine xEA (cellsFrom_cell sc.names (s.heap.objs.size + 1) [] x.1 (mem_of_lookupN q)) fun c hc _ => ?_
      exact .inr ⟨q, by rw [hc]; rfl⟩
  have hkind : ∀ x, (callEnvC fd s.heap.objs.size f).kindOf x = sc.names.lookup x := fun x => by show fd.scope.names.lookup x = _; rw [F.scope]
  have hcells : (callEnvC fd s.heap.objs.size f).cells = cellsFrom (s.heap.objs.size + 1) sc.names [] := by show cellsFrom _ fd.scope.names [] = _; rw [F.scope]
  have he : EnvOk sc (callEnvC fd s.heap.objs.size f) := {
    kind := by show fd.scope.kind = _; rw [F.scope]; exact c1
    loc := fun x hx => by rw [hkind, hx]
    cell := fun x hx => by rw [hkind, hx]
    free := fun x hx => by
      rcases c5 _ (mem_of_lookupN hx) with (q | q) | q <;> cases q
    glob := fun x hx => by rw [hkind, hx]
    gl := F.glob
    bl := F.bl
    has := fun x hx => by
      rw [hcells]
      rcases hx with hx | hx
      · refine xEA (cellsFrom_cell sc.names (s.heap.objs.size + 1) [] x (mem_of_lookupN hx)) fun c h1 _ => ?_
        exact ⟨c, h1⟩
      · rcases c5 _ (mem_of_lookupN hx) with (q | q) | q <;> cases q
    inj := by
      rw [hcells]
      exact cellsFrom_inj _ _ _ nofun nofun }
  have hfresh : ∀ a, s.heap.objs.size ≤ a → s.heap.get? a = none := fun a ha => by
    cases q : s.heap.get? a with
    | none => rfl
    | some o => exact absurd (Heap.lt_size q) (Nat.not_lt.mpr ha)
  have hL : (callEnvC fd s.heap.objs.size f).locals = s.heap.objs.size := rfl
  have hown : ∀ a, Own (callEnvC fd s.heap.objs.size f) sc a → s.heap.get? a = none := fun a ha => by
    rcases ha with rfl | ⟨x, h1, h2⟩
    · exact hfresh _ (Nat.le_refl _)
    · rw [hcells] at h2
      rcases cellsFrom_from sc.names _ _ _ _ h2 with q | q
      · cases q
      · exact hfresh _ (Nat.le_trans (Nat.le_succ _) q)
  have keep := I.toInCall.keep
  have t : STR w s (fun a => R a ∧ (s.heap.get? a).isSome = true) (callEnvC fd s.heap.objs.size f) sc (fun a => R a ∧ (s.heap.get? a).isSome = true) (ps.zip ds) [] s₁ := {
    same := I.toInCall.same
    keep := keep
    fr := ⟨⟨_, I.toInCall.ns⟩, fun x hx => by
      refine xE (he.has x (.inl hx)) fun c hc => ?_
      exact ⟨c, _, hc, I.cell x c hc⟩⟩
    own0 := hown
    reg := fun a ha => ⟨.inl ha, fun q => by rw [hown a q] at ha; cases ha.2⟩
    sr := ⟨fun x c hx => let ⟨o, e, _⟩ := I.cell x c hx; ⟨o, e⟩, fun x d hx => by
      refine xEAA (zip_rp hvals.live hn hx) fun v hv hp hm => ?_
      refine ⟨v, ?_, hp.mv (.keep keep)⟩
      have hnd : ((ps.zip vals).map (·.1)).Nodup := by rw [hkeys]; exact c7
      rcases c6 x hm with q | q
      · refine .loc (by rw [hkind]; exact q) ⟨_, I.toInCall.ns, ?_⟩
        rw [bindL_lookup _ _ _ hnd (by rw [hkind]; exact q), hv]
      · refine xE (he.has x (.inl q)) fun c hc => ?_
        refine .cell (.inl (by rw [hkind]; exact q)) ⟨c, hc, ?_⟩
        have := I.cell x c hc
        rw [bindC_lookup _ _ _ hnd (by rw [hkind, q]; nofun), hv] at this
        exact this⟩
    ow := nofun
    inj := fun x y a hx => by obtain ⟨d, hd⟩ := hx; cases hd }
  refine wpAny_mono (h (A.deeper (callEnvC fd s.heap.objs.size f)) _ (callEnvC fd s.heap.objs.size f) s _ s₁ hr.deeper he hg ⟨_, t⟩) (fun f' s' hp => ?_) fun e s' hE => hE
  refine xEAA (hp) fun v zE7 ex p => ?_
  try clear hp
  subst zE7
  exact ⟨ex, p.mv (.sub fun a q => q.elim (fun q => .inl q.1) .inr)⟩
end
end Mine

open PySem PySem.W PyProof.Rows
namespace Mine

section
variable {prog : Program} {w : World} {Γ : GEnv} {sc : Scope} {k : Nat} {σ : Sg}

theorem RpAll.ints {w : World} {R : Addr → Prop} {h : Heap} : ∀ {vs : List Value} {ns : List Int}, RpAll w R h vs (ns.map .int) → IntsAre vs ns
  | [], [], _ => .nil
  | _ :: _, [], p => by cases p
  | [], _ :: _, p => by cases p
  | v :: vs, n :: ns, p => by
    cases p with
    | cons a b => cases a with
      | int i t => exact .cons _ _ (RpAll.ints b)
theorem RpAll.ofInts {w : World} {R : Addr → Prop} {h : Heap} {vs : List Value} {ns : List Int} (x : IntsAre vs ns) : RpAll w R h vs (ns.map .int) := by
  induction x with
  | nil => exact .nil
  | cons n t _ ih => exact .cons (.int _ _) ih

theorem CallOk.len {xs : List PyData} (h : xs.length ≤ sizeLine) : CallOk prog w Γ k (.builtin "len") [.list xs] (.int xs.length) := fun A E R s vs hr hg p => by
  induction p using RpAll.elimCons with
  | cons p q =>
    induction q using RpAll.elimNil
    cases p with
    | @list l us n _ hR e p =>
      have := p.length
      simp only [Array.length_toList] at this
      have q : (sizeLine : Int) < 2 ^ 63 := by decide
      refine PySem.Calls.call_len_list ⟨_, e, rfl, _, rfl⟩ (by rw [this]; omega) ?_
      rw [this]
      exact ⟨.tok _, .int _ _⟩

theorem CallOk.abs {a : Int} : CallOk prog w Γ k (.builtin "abs") [.int a] (.int (if a < 0 then -a else a)) := fun A E R s vs hr hg p => by
  induction p using RpAll.elimCons with
  | cons p q =>
    induction q using RpAll.elimNil
    induction p using Rp.elimInt with
    | int t => exact call_abs_int fun u tk => ⟨.tok _, .int _ _⟩

theorem CallOk.sum {ns : List Int} : CallOk prog w Γ k (.builtin "sum") [.list (ns.map .int)] (.int ns.sum) := fun A E R s vs hr hg p => by
  induction p using RpAll.elimCons with
  | cons p q =>
    induction q using RpAll.elimNil
    cases p with
    | @list l us n _ hR e p =>
      refine xE (p.ints.allInts.items) fun xs hx => ?_
      have hu : us = intItems xs := by rw [← hx]
      subst hu
      have hi := p.ints
      refine sum_intListG hr.hh ⟨_, e, rfl, _, rfl⟩ fun h' tk t' hk => ?_
      have e1 : ns = xs.toList.map (·.1) := by
        rw [← nums_intItems]
        exact (show numsOf _ = ns from hi.numsOf).symm
      have e2 : preSum (numAt xs) xs.size = ns.sum := by
        rw [preSum_eq, List.take_of_length_le (by simp), e1]
      rw [e2]
      exact ⟨.of hk, .int _ _⟩

/-- the least of whole numbers -/
noncomputable def imin (ns : List Int) : Int := match ns with
  | [] => 0
  | x :: r => r.foldl min x
noncomputable def imax (ns : List Int) : Int := match ns with
  | [] => 0
  | x :: r => r.foldl max x
theorem foldl_min_spec : ∀ (r : List Int) (x : Int), (r.foldl min x = x ∨ r.foldl min x ∈ r) ∧ r.foldl min x ≤ x ∧ ∀ a ∈ r, r.foldl min x ≤ a
  | [], x => ⟨.inl rfl, Int.le_refl _, nofun⟩
  | y :: r, x => by
    refine xAA (foldl_min_spec r (min x y)) fun h1 h2 h3 => ?_
    simp only [List.foldl_cons]
    refine ⟨?_, Int.le_trans h2 (Int.min_le_left ..), fun a ha => ?_⟩
    · rcases h1 with h1 | h1
      · rw [h1]
        rcases Int.le_total x y with q | q
        · exact .inl (Int.min_eq_left q)
        · exact .inr (by rw [Int.min_eq_right q]; exact .head _)
      · exact .inr (.tail _ h1)
    · rcases List.mem_cons.mp ha with rfl | ha
      · exact Int.le_trans h2 (Int.min_le_right ..)
      · exact h3 a ha
theorem foldl_max_spec : ∀ (r : List Int) (x : Int), (r.foldl max x = x ∨ r.foldl max x ∈ r) ∧ x ≤ r.foldl max x ∧ ∀ a ∈ r, a ≤ r.foldl max x
  | [], x => ⟨.inl rfl, Int.le_refl _, nofun⟩
  | y :: r, x => by
    refine xAA (foldl_max_spec r (max x y)) fun h1 h2 h3 => ?_
    simp only [List.foldl_cons]
    refine ⟨?_, Int.le_trans (Int.le_max_left ..) h2, fun a ha => ?_⟩
    · rcases h1 with h1 | h1
      · rw [h1]
        rcases Int.le_total x y with q | q
        · exact .inr (by rw [Int.max_eq_right q]; exact .head _)
        · exact .inl (Int.max_eq_left q)
      · exact .inr (.tail _ h1)
    · rcases List.mem_cons.mp ha with rfl | ha
      · exact Int.le_trans (Int.le_max_right ..) h2
      · exact h3 a ha
theorem imin_eq {ns : List Int} {M : Int} (h1 : M ∈ ns) (h2 : ∀ a ∈ ns, M ≤ a) : M = imin ns := by
  cases ns with
  | nil => cases h1
  | cons x r =>
    refine xAA (foldl_min_spec r x) fun a b c => ?_
    show M = r.foldl min x
    refine Int.le_antisymm (h2 _ ?_) ?_
    · rcases a with a | a
      · rw [a]; exact .head _
      · exact .tail _ a
    · rcases List.mem_cons.mp h1 with rfl | h1
      · exact b
      · exact c _ h1
theorem imax_eq {ns : List Int} {M : Int} (h1 : M ∈ ns) (h2 : ∀ a ∈ ns, a ≤ M) : M = imax ns := by
  cases ns with
  | nil => cases h1
  | cons x r =>
    refine xAA (foldl_max_spec r x) fun a b c => ?_
    show M = r.foldl max x
    refine Int.le_antisymm ?_ (h2 _ ?_)
    · rcases List.mem_cons.mp h1 with rfl | h1
      · exact b
      · exact c _ h1
    · rcases a with a | a
      · rw [a]; exact .head _
      · exact .tail _ a

theorem best_min {xs : Array (Int × Tok)} {v : Value} (hne : 0 < xs.size) (hv : (intItems xs)[argBest (fun i j => decide (numAt xs i < numAt xs j)) (xs.size - 1)]? = some v) : ∃ t, v = .int (imin (xs.toList.map (·.1))) t := by
  refine xE (intItems_at hv) fun t zE1 => ?_
  subst zE1
  refine xA (argBest_lt (numAt xs) (xs.size - 1)) fun h1 h2 => ?_
  suffices key : numAt xs (argBest (fun i j => decide (numAt xs i < numAt xs j)) (xs.size - 1)) = imin (xs.toList.map (·.1)) from ⟨t, by rw [key]⟩
  refine imin_eq ?_ fun a ha => ?_
  · rw [numAt_eq]; exact getD_mem (by rw [List.length_map, Array.length_toList]; omega)
  · refine xEA (mem_getD ha) fun j hj zE2 => ?_
    subst zE2
    rw [List.length_map, Array.length_toList] at hj
    rw [← numAt_eq]; exact h2 j (by omega)
theorem best_max {xs : Array (Int × Tok)} {v : Value} (hne : 0 < xs.size) (hv : (intItems xs)[argBest (fun i j => decide (numAt xs i > numAt xs j)) (xs.size - 1)]? = some v) : ∃ t, v = .int (imax (xs.toList.map (·.1))) t := by
  refine xE (intItems_at hv) fun t zE3 => ?_
  subst zE3
  refine xA (argBest_gt (numAt xs) (xs.size - 1)) fun h1 h2 => ?_
  suffices key : numAt xs (argBest (fun i j => decide (numAt xs i > numAt xs j)) (xs.size - 1)) = imax (xs.toList.map (·.1)) from ⟨t, by rw [key]⟩
  refine imax_eq ?_ fun a ha => ?_
  · rw [numAt_eq]; exact getD_mem (by rw [List.length_map, Array.length_toList]; omega)
  · refine xEA (mem_getD ha) fun j hj zE4 => ?_
    subst zE4
    rw [List.length_map, Array.length_toList] at hj
    rw [← numAt_eq]; exact h2 j (by omega)

end
end Mine

open PySem PySem.W PyProof.Rows
namespace Mine

section
variable {prog : Program} {w : World} {Γ : GEnv} {sc : Scope} {k : Nat} {σ : Sg}

/-- pairs of whole numbers -/
noncomputable def pD (p : Int × Int) : PyData := .tuple [.int p.1, .int p.2]
end
end Mine

open PySem PySem.W PyProof.Rows
namespace Mine

section
variable {prog : Program} {w : World} {Γ : GEnv} {sc : Scope} {k : Nat} {σ : Sg}

/-- isinstance of a whole number: it is no tuple -/
theorem Tr.isInstF {x px e y py pos a} (hx : sc.names.lookup x = some .globalImplicit) (hv : Γ.names.lookup x = some (.builtin "isinstance")) (hy : sc.names.lookup y = some .globalImplicit) (hw : Γ.names.lookup y = some (.type "tuple"))
    (h : Ev prog w Γ sc k σ e (.int a)) (hst : isStarred e = false := by rfl) (hd : (x == ("__debug__" : Str)) = false := by decide) (hd' : (y == ("__debug__" : Str)) = false := by decide) :
    Tr prog w Γ sc k σ (.Call (.Name x px) [e, .Name y py] [] pos) false := fun A E env R s hr he hg hs => by
  refine isTrue_plain (Q := fun c s' => c = false ∧ Ex s s') ?_ rfl
  refine Call_ (loadG he hg hx hv ?_ hd)
  have hse : starEach [e, .Name y py] env = (false, eval e env) :: [(false, eval (.Name y py) env)] := by
    cases e <;> first | rfl | (simp [isStarred] at hst; done)
  have ha : ∀ E, wpAny (model prog w) A (spliced (backTo pos (starEach [e, .Name y py] env))) (fun vs s' => Ex s s' ∧ ∃ t, vs = [.int a t, .type "tuple"]) E s := fun E => by
    refine args_cons (wpAny_mono (h A _ env R s hr he hg hs) (fun v s₁ ⟨x₁, p⟩ => ?_) fun _ _ e => e) (by cases e <;> first | rfl | (simp [isStarred] at hst; done))
    refine args_cons (loadG he (hg.keep x₁.keep) hy hw (args_nil ?_) hd') rfl
    induction p using Rp.elimInt with
    | int t => exact ⟨x₁, t, rfl⟩
  have hpl : (backTo pos (starEach [e, .Name y py] env)).any (·.1) = false := by rw [hse]; rfl
  rw [hse] at ha hpl ⊢
  refine Calls.callWith_builtin hpl (Calls.evalArgs_plain (wpAny_mono (ha _) (fun vs s₁ ⟨x₁, t, e⟩ => ?_) fun _ _ e => e))
  subst e
  exact PySem.IsiPair.int_tuple (wpAny_truthy_bool ⟨rfl, x₁.trans (.tok _)⟩)
end

noncomputable def bodyAt (p : Program) (i : Nat) : List Stmt := match p.main.body[i]? with
  | some (.FunctionDef _ _ body _ _ _ _ _ _ _) => body
  | _ => []

noncomputable def scopeAt (p : Program) (i : Nat) : Scope := match p.main.body[i]? with
  | some (.FunctionDef _ _ _ _ _ _ sc _ _ _) => sc
  | _ => default

/-- each of the first stands so in the second -/
noncomputable def SubS : Sg → Sg → Prop
  | [], _ => True
  | (x, d) :: r, σ => σ.lookup x = some d ∧ SubS r σ
theorem sub_of {σ : Sg} : ∀ {σ' : Sg}, SubS σ' σ → ∀ x d, σ'.lookup x = some d → σ.lookup x = some d
  | [], _, _, _, h => by cases h
  | (y, e) :: r, hs, x, d, h => by
    rw [List.lookup_cons] at h
    by_cases q : (x == y) = true
    · rw [q] at h; cases h; rw [eq_of_beq q]; exact hs.1
    · simp only [Bool.not_eq_true] at q
      rw [q] at h; exact sub_of hs.2 x d h

theorem Ss.to {prog : Program} {w : World} {Γ : GEnv} {K : List Str} {sc : Scope} {k : Nat} {σ ω : Sg} {sts σ₁ ω₁ σ₂ ω₂} (h : Ss prog w Γ K sc k σ ω sts (.next σ₁ ω₁)) (h1 : SubS σ₂ σ₁ := by repeat (first | exact trivial | refine ⟨rfl, ?_⟩)) (h2 : SubS ω₂ ω₁ := by repeat (first | exact trivial | refine ⟨rfl, ?_⟩)) :
    Ss prog w Γ K sc k σ ω sts (.next σ₂ ω₂) := h.weaken (sub_of h1) (sub_of h2)

/-- no name of the first stands in the second -/
noncomputable def DisS : Sg → Sg → Prop
  | [], _ => True
  | (x, _) :: r, τ => τ.lookup x = none ∧ DisS r τ
theorem dis_of {τ : Sg} : ∀ {ω : Sg}, DisS ω τ → ∀ x d, ω.lookup x = some d → τ.lookup x = none
  | [], _, _, _, h => by cases h
  | (y, e) :: r, hs, x, d, h => by
    rw [List.lookup_cons] at h
    by_cases q : (x == y) = true
    · rw [eq_of_beq q]; exact hs.1
    · simp only [Bool.not_eq_true] at q
      rw [q] at h; exact dis_of hs.2 x d h

/-- a for loop, its states by lists -/
theorem Sx.for_ {prog : Program} {w : World} {Γ : GEnv} {K : List Str} {sc : Scope} {k : Nat} {σ ω : Sg} {target iter : Expr} {body : List Stmt} {pos : Pos} {T : Expr → Prop} {ds : List PyData} (Sσ Sω : Nat → Sg) (hit : It prog w Γ sc k σ iter T ds) (hT : T target)
    (hturn : ∀ (i : Nat) (d : PyData), ds[i]? = some d → ∃ τ, Tgt prog w sc target d τ ∧ (∀ y ∈ K, τ.lookup y = none) ∧ DisS (Sω i) τ ∧ Ss prog w Γ K sc k (τ ++ Sσ i) (Sω i) body (.next (Sσ (i + 1)) (Sω (i + 1))))
    (h0σ : SubS (Sσ 0) σ := by repeat (first | exact trivial | refine ⟨rfl, ?_⟩)) (h0ω : Sω 0 = ω := by rfl) (hset : ∀ env x, foldedSetIterable iter env x = pure x := by intro _ _; rfl) :
    Sx prog w Γ K sc k σ ω (.For target iter body [] pos) (.next (Sσ ds.length) (Sω ds.length)) :=
  Sx.forLoop (fun i => (Sσ i, Sω i)) hit hset hT (sub_of h0σ) h0ω fun i d hd => let ⟨τ, h1, h2, h3, h4⟩ := hturn i d hd; ⟨τ, h1, h2, dis_of h3, h4⟩
end Mine

open PySem PySem.W PyProof.Rows
namespace Mine

section
variable (prog : Program) (w : World) (Γ : GEnv)
/-- a turn of a comprehension's last loop: what it hands out, if anything -/
noncomputable def CTurn (elt target : Expr) (ifs : List Expr) (sc : Scope) (k : Nat) (σ : Sg) (d : PyData) (r : Option PyData) : Prop :=
  ∃ τ, Tgt prog w sc target d τ ∧ DisS σ τ ∧ Tests prog w Γ sc k (τ ++ σ) ifs r.isSome ∧ ∀ y, r = some y → Ev prog w Γ sc k (τ ++ σ) elt y
/-- a turn of the outer loop of two -/
noncomputable def CTurn2 (elt target target2 iter2 : Expr) (ifs ifs2 : List Expr) (sc : Scope) (k : Nat) (σ : Sg) (d : PyData) (zs : List PyData) : Prop :=
  ∃ τ b, Tgt prog w sc target d τ ∧ DisS σ τ ∧ Tests prog w Γ sc k (τ ++ σ) ifs b ∧ (b = false → zs = []) ∧
    (b = true → ∃ (β : Type) (ys : List β) (f : β → PyData) (g : β → Option PyData) (T : Expr → Prop), It prog w Γ sc k (τ ++ σ) iter2 T (ys.map f) ∧ T target2 ∧ (∀ y ∈ ys, CTurn prog w Γ elt target2 ifs2 sc k (τ ++ σ) (f y) (g y)) ∧ zs = ys.filterMap g)
end

theorem flat_opt {α : Type} (g : α → Option PyData) : ∀ xs : List α, (xs.map fun x => (g x).toList).flatten = xs.filterMap g
  | [] => rfl
  | x :: xs => by
    rw [List.map_cons, List.flatten_cons, flat_opt g xs, List.filterMap_cons]
    cases g x <;> rfl

section
variable {prog : Program} {w : World} {Γ : GEnv} {K : List Str} {sc sc' : Scope} {k : Nat} {σ ω : Sg}

theorem CTurn.ok {elt : Expr} {gens : List Comprehension} {pos : Pos} {depth : Nat} {target : Expr} {ifs : List Expr} {d : PyData} {r : Option PyData} (hn : gens[depth + 1]? = none) (h : CTurn prog w Γ elt target ifs sc k σ d r) :
    TurnOk prog w Γ elt gens sc pos depth k σ target ifs d r.toList := by
  refine xEAAA (h) fun τ h1 h2 h3 h4 => ?_
  try clear h
  refine ⟨τ, r.isSome, h1, dis_of h2, h3, fun hb => ?_, fun hb => ?_⟩
  · cases r with
    | none => rfl
    | some y => cases hb
  · cases r with
    | none => cases hb
    | some y => exact CIn.last hn (h4 y rfl)

theorem CTurn2.ok {elt : Expr} {pos : Pos} {target target2 iter iter2 : Expr} {ifs ifs2 : List Expr} {d : PyData} {zs : List PyData} (hset : ∀ g ∈ ([⟨target, iter, ifs, 0⟩, ⟨target2, iter2, ifs2, 0⟩] : List Comprehension), ∀ env x, foldedSetIterable g.iter env x = pure x)
    (h : CTurn2 prog w Γ elt target target2 iter2 ifs ifs2 sc k σ d zs) :
    TurnOk prog w Γ elt [⟨target, iter, ifs, 0⟩, ⟨target2, iter2, ifs2, 0⟩] sc pos 0 k σ target ifs d zs := by
  refine xEEAAAA (h) fun τ b h1 h2 h3 h4 h5 => ?_
  try clear h
  refine ⟨τ, b, h1, dis_of h2, h3, h4, fun hb => ?_⟩
  obtain ⟨β, ys, f, g, T, hit, hT, ht, rfl⟩ := h5 hb
  rw [← flat_opt g ys]
  refine CIn.next (depth := 1) rfl (by simp) hset hit hT (by simp) fun i d' ys' hd hy => ?_
  rw [List.getElem?_map] at hd hy
  cases hq : ys[i]? with
  | none => rw [hq] at hd; cases hd
  | some y =>
    rw [hq] at hd hy
    have zC := Option.some.inj hd
    clear hd
    subst zC
    have zC := Option.some.inj hy
    clear hy
    subst zC
    exact (ht y (List.mem_of_getElem? hq)).ok rfl

theorem EvF.comp1 {α : Type} (xs : List α) (f : α → PyData) (g : α → Option PyData) {elt target iter : Expr} {ifs : List Expr} {pos : Pos} {T : Expr → Prop} (hit : It prog w Γ sc k σ iter T (xs.map f)) (hT : T target)
    (turn : ∀ x ∈ xs, CTurn prog w Γ elt target ifs sc' k (capt sc sc' σ) (f x) (g x)) (hz : xs.length ≤ sizeLine) (hsc : scOk sc sc' = true := by decide) (hset : ∀ env x, foldedSetIterable iter env x = pure x := by intro _ _; rfl) :
    EvF prog w Γ sc k σ (.ListComp elt [⟨target, iter, ifs, 0⟩] sc' pos) (.list (xs.filterMap g)) := by
  rw [← flat_opt g xs]
  refine EvF.comp hsc (by simp) (by simpa using hset) hit hT (by simp) (by rw [flat_opt]; exact Nat.le_trans (List.length_filterMap_le _ _) hz) fun i d ys hd hy => ?_
  rw [List.getElem?_map] at hd hy
  cases hq : xs[i]? with
  | none => rw [hq] at hd; cases hd
  | some x =>
    rw [hq] at hd hy
    have zC := Option.some.inj hd
    clear hd
    subst zC
    have zC := Option.some.inj hy
    clear hy
    subst zC
    exact (turn x (List.mem_of_getElem? hq)).ok rfl

theorem EvF.comp2 {α : Type} (xs : List α) (f : α → PyData) (zs : α → List PyData) {elt target target2 iter iter2 : Expr} {ifs ifs2 : List Expr} {pos : Pos} {T : Expr → Prop} (hit : It prog w Γ sc k σ iter T (xs.map f)) (hT : T target)
    (turn : ∀ x ∈ xs, CTurn2 prog w Γ elt target target2 iter2 ifs ifs2 sc' k (capt sc sc' σ) (f x) (zs x)) (hz : (xs.flatMap zs).length ≤ sizeLine) (hsc : scOk sc sc' = true := by decide) (hset : ∀ env x, foldedSetIterable iter env x = pure x := by intro _ _; rfl)
    (hset2 : ∀ env x, foldedSetIterable iter2 env x = pure x := by intro _ _; rfl) :
    EvF prog w Γ sc k σ (.ListComp elt [⟨target, iter, ifs, 0⟩, ⟨target2, iter2, ifs2, 0⟩] sc' pos) (.list (xs.flatMap zs)) := by
  have hs : ∀ g ∈ ([⟨target, iter, ifs, 0⟩, ⟨target2, iter2, ifs2, 0⟩] : List Comprehension), ∀ env x, foldedSetIterable g.iter env x = pure x := by
    intro g hg
    simp only [List.mem_cons, List.not_mem_nil, or_false] at hg
    rcases hg with rfl | rfl
    · exact hset
    · exact hset2
  rw [List.flatMap_def] at hz ⊢
  refine EvF.comp hsc (by simp) hs hit hT (by simp) hz fun i d ys hd hy => ?_
  rw [List.getElem?_map] at hd hy
  cases hq : xs[i]? with
  | none => rw [hq] at hd; cases hd
  | some x =>
    rw [hq] at hd hy
    have zC := Option.some.inj hd
    clear hd
    subst zC
    have zC := Option.some.inj hy
    clear hy
    subst zC
    exact (turn x (List.mem_of_getElem? hq)).ok hs

theorem Sx.comp1 {α : Type} (xs : List α) (f : α → PyData) (g : α → Option PyData) (kd : Kd) {σ₁ : Sg} {x px pos} {elt target iter : Expr} {ifs : List Expr} {cp : Pos} {T : Expr → Prop} (hx : sc.names.lookup x = some .local) (hσ : σ₁ = σ ∨ (σ₁ = σ ++ ω ∧ (xs.filterMap g).all Scalar = true))
    (hit : It prog w Γ sc k σ₁ iter T (xs.map f)) (hT : T target)
    (turn : ∀ x ∈ xs, CTurn prog w Γ elt target ifs sc' k (capt sc sc' σ₁) (f x) (g x)) (hz : xs.length ≤ sizeLine) (hsc : scOk sc sc' = true := by decide) (hset : ∀ env x, foldedSetIterable iter env x = pure x := by intro _ _; rfl)
    (hl : px.line = cp.line := by rfl) (hn : (sc'.names.any fun p => p.1 == x && (p.2 == .local || p.2 == .cell)) = false := by decide) (hK : x ∉ K := by decide) :
    Sx prog w Γ K sc k σ ω (.Assign [.Name x px] (.ListComp elt [⟨target, iter, ifs, 0⟩] sc' cp) pos) (.next (updσ kd x (.list (xs.filterMap g)) σ) (updω kd x (.list (xs.filterMap g)) ω)) := by
  rw [← flat_opt g xs] at hσ ⊢
  refine Sx.asgC hx (Swap.of hx hl hn) hsc (by simp) (by simpa using hset) hσ hit hT (by simp) (by rw [flat_opt]; exact Nat.le_trans (List.length_filterMap_le _ _) hz) (fun i d ys hd hy => ?_) hK
  rw [List.getElem?_map] at hd hy
  cases hq : xs[i]? with
  | none => rw [hq] at hd; cases hd
  | some x =>
    rw [hq] at hd hy
    have zC := Option.some.inj hd
    clear hd
    subst zC
    have zC := Option.some.inj hy
    clear hy
    subst zC
    exact (turn x (List.mem_of_getElem? hq)).ok rfl

theorem Sx.comp2 {α : Type} (xs : List α) (f : α → PyData) (zs : α → List PyData) (kd : Kd) {σ₁ : Sg} {x px pos} {elt target target2 iter iter2 : Expr} {ifs ifs2 : List Expr} {cp : Pos} {T : Expr → Prop} (hx : sc.names.lookup x = some .local) (hσ : σ₁ = σ ∨ (σ₁ = σ ++ ω ∧ (xs.flatMap zs).all Scalar = true))
    (hit : It prog w Γ sc k σ₁ iter T (xs.map f)) (hT : T target)
    (turn : ∀ x ∈ xs, CTurn2 prog w Γ elt target target2 iter2 ifs ifs2 sc' k (capt sc sc' σ₁) (f x) (zs x)) (hz : (xs.flatMap zs).length ≤ sizeLine) (hsc : scOk sc sc' = true := by decide) (hset : ∀ env x, foldedSetIterable iter env x = pure x := by intro _ _; rfl)
    (hset2 : ∀ env x, foldedSetIterable iter2 env x = pure x := by intro _ _; rfl)
    (hl : px.line = cp.line := by rfl) (hn : (sc'.names.any fun p => p.1 == x && (p.2 == .local || p.2 == .cell)) = false := by decide) (hK : x ∉ K := by decide) :
    Sx prog w Γ K sc k σ ω (.Assign [.Name x px] (.ListComp elt [⟨target, iter, ifs, 0⟩, ⟨target2, iter2, ifs2, 0⟩] sc' cp) pos) (.next (updσ kd x (.list (xs.flatMap zs)) σ) (updω kd x (.list (xs.flatMap zs)) ω)) := by
  have hs : ∀ g ∈ ([⟨target, iter, ifs, 0⟩, ⟨target2, iter2, ifs2, 0⟩] : List Comprehension), ∀ env x, foldedSetIterable g.iter env x = pure x := by
    intro g hg
    simp only [List.mem_cons, List.not_mem_nil, or_false] at hg
    rcases hg with rfl | rfl
    · exact hset
    · exact hset2
  rw [List.flatMap_def] at hσ hz ⊢
  refine Sx.asgC hx (Swap.of hx hl hn) hsc (by simp) hs hσ hit hT (by simp) hz (fun i d ys hd hy => ?_) hK
  rw [List.getElem?_map] at hd hy
  cases hq : xs[i]? with
  | none => rw [hq] at hd; cases hd
  | some x =>
    rw [hq] at hd hy
    have zC := Option.some.inj hd
    clear hd
    subst zC
    have zC := Option.some.inj hy
    clear hy
    subst zC
    exact (turn x (List.mem_of_getElem? hq)).ok hs
end
theorem dups2 {x y : Str} (h : (x == y) = false) : [x, y].eraseDups = [x, y] := by
  rw [List.eraseDups_cons]
  have : (y == x) = false := by
    cases q : y == x with
    | false => rfl
    | true => rw [eq_of_beq q] at h; simp at h
  simp only [List.filter_cons, this, List.filter_nil, Bool.not_false, if_true]
  rw [List.eraseDups_cons]; rfl
theorem Swaps.of2 {sc : Scope} {x y px py n tpos e1 e2 m vpos} (hx : sc.names.lookup x = some .local) (hy : sc.names.lookup y = some .local) (hl : py.line = px.line := by rfl) (hxy : (x == y) = false := by decide)
    (hs1 : isStarred e1 = false := by rfl) (hs2 : isStarred e2 = false := by rfl) (hf : ([e1, e2].all (foldedForSure 8)) = false := by rfl) (hc : ([e1, e2].all (constantsAlone 8)) = false := by rfl) :
    Swaps sc [.Tuple [.Name x px, .Name y py] n tpos] (.Tuple [e1, e2] m vpos) (some [x, y]) := fun env he => by
  have hb : env.blockKind = .function := by unfold Env.blockKind; rw [he.kind]; rfl
  unfold swappedStores
  simp only [hb, List.filterMap_cons, List.filterMap_nil, he.loc x hx, he.loc y hy, List.head?_cons, Option.map_some, Option.getD_some, posName, hl, beq_self_eq_true, Bool.and_self, if_true]
  simp only [dups2 hxy, hf, hc]
  have key : ∀ e : Expr, isStarred e = false → (match e with | .Starred .. => true | _ => false) = false := fun e h => by cases e <;> first | rfl | exact Bool.noConfusion (h : true = false)
  refine (if_neg fun q => Bool.noConfusion (q : false = true)).trans ((if_neg fun q => ?_).trans ?_)
  · rcases Bool.or_eq_true_iff.mp q with q | q
    · exact absurd (q.symm.trans (key e1 hs1)) (by decide)
    · rcases Bool.or_eq_true_iff.mp q with q | q
      · exact absurd (q.symm.trans (key e2 hs2)) (by decide)
      · exact Bool.noConfusion q
  · trace_state
    rfl
end Mine

open PySem PySem.W PyProof.Rows
namespace Mine

theorem lay_ints : ∀ ns : List Int, PyData.canLayAll0 (ns.map .int) = true ∧ PyData.depthAll (ns.map .int) ≤ 1
  | [] => ⟨rfl, by simp [PyData.depthAll]⟩
  | n :: r => by
    refine xA (lay_ints r) fun h1 h2 => ?_
    simp only [List.map_cons, PyData.canLayAll0, PyData.canLay0, h1, PyData.depthAll, PyData.depth]
    exact ⟨rfl, by omega⟩
theorem shaped_ints (ns : List Int) : PySem.SeqAt.shaped (.list (ns.map .int)) = true := by
  refine xA (lay_ints ns) fun h1 h2 => ?_
  unfold PySem.SeqAt.shaped
  rw [PyData.canLay0, h1, PyData.depth, Bool.true_and]
  exact decide_eq_true (by omega)
theorem lay_pairs : ∀ ns : List (Int × Int), PyData.canLayAll0 (ns.map pD) = true ∧ PyData.depthAll (ns.map pD) ≤ 2
  | [] => ⟨rfl, by simp [PyData.depthAll]⟩
  | n :: r => by
    refine xA (lay_pairs r) fun h1 h2 => ?_
    have k1 : (pD n).canLay0 = true := by simp only [pD, PyData.canLay0, PyData.canLayAll0]; rfl
    have k2 : (pD n).depth ≤ 2 := by simp only [pD, PyData.depth, PyData.depthAll]; omega
    rw [List.map_cons, PyData.canLayAll0, PyData.depthAll, h1, k1]
    exact ⟨rfl, by omega⟩
theorem eqv_pD (x y : Int × Int) : PyData.eqv (pD x) (pD y) = decide (x = y) := by
  obtain ⟨a, b⟩ := x
  obtain ⟨c, d⟩ := y
  simp only [pD, PyData.eqv, PyData.eqvAll, Prod.mk.injEq]
  by_cases h1 : a = c <;> by_cases h2 : b = d <;> simp [h1, h2]
section
variable {prog : Program} {w : World} {k : Nat}
theorem CmpOk.neI' {a b : Int} {c : Bool} (h : (a != b) = c) : CmpOk prog w k .NotEq (.int a) (.int b) c := h ▸ CmpOk.neI
theorem CmpOk.eqI' {a b : Int} {c : Bool} (h : (a == b) = c) : CmpOk prog w k .Eq (.int a) (.int b) c := h ▸ CmpOk.eqI
theorem CmpOk.inPairs {x : Int × Int} {ys : List (Int × Int)} : CmpOk prog w k .In (pD x) (.list (ys.map pD)) (decide (x ∈ ys)) := by
  have hx : (pD x).canLay0 = true := by simp only [pD, PyData.canLay0, PyData.canLayAll0]; rfl
  have hd : (pD x).depth ≤ 64 := by simp only [pD, PyData.depth, PyData.depthAll]; omega
  have := CmpOk.inL (prog := prog) (w := w) (k := k) (x := pD x) (lay_pairs ys).1 hx hd
  have e : ((ys.map pD).any fun y => PyData.eqv y (pD x)) = decide (x ∈ ys) := by
    rw [List.any_map, Bool.eq_iff_iff, List.any_eq_true, decide_eq_true_eq]
    constructor
    · rintro ⟨y, hy, e⟩
      simp only [Function.comp_apply, eqv_pD, decide_eq_true_eq] at e
      exact e ▸ hy
    · intro h; exact ⟨x, h, by simp [eqv_pD]⟩
  rw [e] at this; exact this
theorem CmpOk.notInPairs {x : Int × Int} {ys : List (Int × Int)} : CmpOk prog w k .NotIn (pD x) (.list (ys.map pD)) (!decide (x ∈ ys)) := by
  have hx : (pD x).canLay0 = true := by simp only [pD, PyData.canLay0, PyData.canLayAll0]; rfl
  have hd : (pD x).depth ≤ 64 := by simp only [pD, PyData.depth, PyData.depthAll]; omega
  have := CmpOk.notInL (prog := prog) (w := w) (k := k) (x := pD x) (lay_pairs ys).1 hx hd
  have e : ((ys.map pD).any fun y => PyData.eqv y (pD x)) = decide (x ∈ ys) := by
    rw [List.any_map, Bool.eq_iff_iff, List.any_eq_true, decide_eq_true_eq]
    constructor
    · rintro ⟨y, hy, e⟩
      simp only [Function.comp_apply, eqv_pD, decide_eq_true_eq] at e
      exact e ▸ hy
    · intro h; exact ⟨x, h, by simp [eqv_pD]⟩
  rw [e] at this; exact this

/-- compared with the empty list -/
theorem CmpOk.neNil {xs : List PyData} (h : PySem.SeqAt.shaped (.list xs) = true) : CmpOk prog w k .NotEq (.list xs) (.list []) (!xs.isEmpty) := by
  have := CmpOk.ne (prog := prog) (w := w) (k := k) h (show PySem.SeqAt.shaped (.list []) = true from rfl)
  rw [show PyData.eqv (.list xs) (.list []) = xs.isEmpty from by cases xs <;> simp [PyData.eqv, PyData.eqvAll]] at this
  exact this
end
theorem fm_some {α : Type} (f : α → PyData) (xs : List α) : xs.filterMap (fun x => some (f x)) = xs.map f := by rw [← List.filterMap_eq_map]; rfl
end Mine

open PySem PySem.W PyProof.Rows
namespace Mine
section
variable {prog : Program} {w : World} {Γ : GEnv} {sc : Scope} {k : Nat} {σ : Sg}

theorem EvF.nil {pos} : EvF prog w Γ sc k σ (.List [] pos) (.list []) := fun A E env R s hr he hg hs =>
  wpAny_List_spliced (args_nil ⟨Nat.zero_le _, .push _ _, _, rfl, fresh_size _, .inl ⟨_, _, _, rfl, Heap.get?_push_size _ rfl, .nil⟩⟩)

/-- a test by comparing bools -/
theorem CmpOk.neB {a b : Bool} : CmpOk prog w k .NotEq (.bool a) (.bool b) (a != b) := by
  have := CmpOk.ne (prog := prog) (w := w) (k := k) (a := .bool a) (b := .bool b) rfl rfl
  rw [PyData.eqv] at this; exact this
end
end Mine

open PySem PySem.W PyProof.Rows
namespace Mine

theorem lookup_rev {α : Type} : ∀ {l : List (Str × α)} {x : Str}, (l.map (·.1)).Nodup → l.reverse.lookup x = l.lookup x
  | [], _, _ => rfl
  | (y, a) :: r, x, h => by
    simp only [List.map_cons, List.nodup_cons] at h
    rw [List.reverse_cons, List.lookup_append, lookup_rev h.2, List.lookup_cons]
    by_cases q : (x == y) = true
    · have : r.lookup x = none := by
        cases hl : r.lookup x with
        | none => rfl
        | some u => exact absurd (List.mem_map.mpr ⟨_, PySem.mem_of_lookup hl, (eq_of_beq q)⟩) h.1
      rw [this, q]
      simp [List.lookup_cons, q]
    · simp only [Bool.not_eq_true] at q
      simp [List.lookup_cons, q]

structure ClosIs (h : Heap) (f : Addr) (fd : FuncData) (sc : Scope) (ps : List Str) (body : List Stmt) (cl : List (Str × Addr)) : Prop where
  ob : ∃ o, h.get? f = some o ∧ o.data = .func fd
  rc : h.CodeRec fd.code fd.qualname
  scope : fd.scope = sc
  body : fd.body = .stmts body
  glob : fd.globals = mainGlobals
  bl : fd.builtins = builtinsNs
  clo : fd.closure = cl
  bind : ∀ vals : List Value, vals.length = ps.length → bindArgs fd ⟨vals, []⟩ = pure (ps.zip vals)

/-- a def within a def: no cells of its own -/
noncomputable def scClo (sc : Scope) (ps : List Str) (cl : List (Str × Addr)) : Bool :=
  sc.kind == .function && !sc.isCoroutine && !sc.isGenerator && nodupKeys sc.names && sc.names.all (fun p => p.2 == .local || (p.2 == .free && (cl.lookup p.1).isSome) || p.2 == .globalImplicit) &&
  ps.all (fun x => sc.names.lookup x == some .local) && decide ps.Nodup

section
variable {prog : Program} {w : World} {Γ : GEnv} {k : Nat}

theorem clos_call {A : Around} {E : Value → Shared → Prop} {s : Shared} {f : Addr} {fd : FuncData} {sc : Scope} {ps : List Str} {body : List Stmt} {cl : List (Str × Addr)} {vals : List Value} {Q : Value → Shared → Prop} (C : ClosIs s.heap f fd sc ps body cl) (hsc : scClo sc ps cl = true)
    (hinj : ∀ x y c, cl.lookup x = some c → cl.lookup y = some c → x = y) (hr : Room (k + 1) A) (hlim : s.heap.NoLimit) (hlen : vals.length = ps.length)
    (h : ∀ (env : Env) (h₀ : Heap) (tk : Tok) (E' : Value → Shared → Prop), EnvOk sc env → env.cells = cl → env.locals = s.heap.objs.size → h₀.Ns env.locals (fun x => (ps.zip vals).lookup x) → (∀ b o, s.heap.get? b = some o → h₀.get? b = some o) → Room k (A.deeper env) →
      wpAny (model prog w) (A.deeper env) (execs body env) (fun f' s' => Q (match f' with | .ret v => v | _ => .none) s') E' { s with heap := h₀, toks := tk }) :
    wpAny (model prog w) A (call (.ref f) vals) Q E s := by
  unfold scClo at hsc
  simp only [Bool.and_eq_true, Bool.not_eq_true', List.all_eq_true, Bool.or_eq_true, beq_iff_eq, decide_eq_true_eq] at hsc
  refine xA (hsc) fun zE1 c7 => ?_
  try clear hsc
  refine xA (zE1) fun zE2 c6 => ?_
  try clear zE1
  refine xA (zE2) fun zE3 c5 => ?_
  try clear zE2
  refine xA (zE3) fun zE4 c4 => ?_
  try clear zE3
  refine xA (zE4) fun zE5 c3 => ?_
  try clear zE4
  refine xA (zE5) fun c1 c2 => ?_
  try clear zE5
  refine xEA (C.ob) fun o ho hd => ?_
  have hkeys : ((ps.zip vals).map (·.1)) = ps := List.map_fst_zip (by omega)
  refine wpAny_call (codeAny_call_plain hr.d ho hd hlim C.rc C.body (C.bind vals hlen) (fun x hx e => ?_) (fun x hx => ?_) (fun h₀ hn keep => ?_) (by rw [C.scope]; exact c2) (by rw [C.scope]; exact c3) (by rw [C.scope]; exact c1))
  · rw [C.scope] at hx
    rcases c5 x hx with (q | q) | q
    · rw [q] at e; cases e
    · rw [q.1] at e; cases e
    · rw [q] at e; cases e
  · rw [C.scope]
    exact c6 x.1 (by rw [← hkeys]; exact List.mem_map.mpr ⟨x, hx, rfl⟩)
  · have hkind : ∀ x, (callEnv fd s.heap.objs.size f).kindOf x = sc.names.lookup x := fun x => by show fd.scope.names.lookup x = _; rw [C.scope]
    have hcells : (callEnv fd s.heap.objs.size f).cells = cl := by show fd.closure = _; exact C.clo
    have he : EnvOk sc (callEnv fd s.heap.objs.size f) := {
      kind := by show fd.scope.kind = _; rw [C.scope]; exact c1
      loc := fun x hx => by rw [hkind, hx]
      cell := fun x hx => by rw [hkind, hx]
      free := fun x hx => .inl (by rw [hkind, hx])
      glob := fun x hx => by rw [hkind, hx]
      gl := C.glob
      bl := C.bl
      has := fun x hx => by
        rw [hcells]
        rcases hx with hx | hx
        · rcases c5 _ (mem_of_lookupN hx) with (q | ⟨q, _⟩) | q <;> cases q
        · rcases c5 _ (mem_of_lookupN hx) with (q | q) | q
          · cases q
          · exact Option.isSome_iff_exists.mp q.2
          · cases q
      inj := by rw [hcells]; exact hinj }
    exact h _ h₀ _ _ he hcells rfl (by rw [show (fun x => (ps.zip vals).lookup x) = fun x => (ps.zip vals).reverse.lookup x from funext fun x => (lookup_rev (by rw [hkeys]; exact c7)).symm]; exact hn) keep hr.deeper

theorem BinOk.shr {a : Int} {n : Nat} : BinOk prog w k .RShift (.int a) (.int (n : Int)) (.int (a.fdiv (2 ^ n))) := fun A E R s v1 v2 hr p1 p2 => by
  induction p1 using Rp.elimInt with
  | int t => cases p2 with
    | int b u => exact PyProof.Rows.rshift_int (Int.natCast_nonneg n) ⟨.tok _, by rw [Int.toNat_natCast]; exact .int _ _⟩
theorem BinOk.shl {a : Int} {n : Nat} (h : (Builtin.Int.intBits a : Int) + n ≤ 2 ^ 27) : BinOk prog w k .LShift (.int a) (.int (n : Int)) (.int (a * 2 ^ n)) := fun A E R s v1 v2 hr p1 p2 => by
  induction p1 using Rp.elimInt with
  | int t => cases p2 with
    | int b u => exact PyProof.Rows.lshift_int (Int.natCast_nonneg n) h ⟨.tok _, by rw [Int.toNat_natCast]; exact .int _ _⟩
theorem BinOk.xor {a b : Int} : BinOk prog w k .BitXor (.int a) (.int b) (.int (Builtin.bitXor a b)) := fun A E R s v1 v2 hr p1 p2 => by
  induction p1 using Rp.elimInt with
  | int t => cases p2 with
    | int b u => exact PyProof.Rows.xor_int ⟨.tok _, .int _ _⟩
end
end Mine

open PySem PySem.W PyProof.Rows
namespace Mine

section
variable {prog : Program} {w : World} {Γ : GEnv} {k : Nat}

/-- the state in which a def within a def starts -/
theorem clos_str {s : Shared} {sc : Scope} {ps : List Str} {cl : List (Str × Addr)} {vals : List Value} {ds : List PyData} {env : Env} {h₀ : Heap} {tk : Tok} {base : Shared} {R0 R : Addr → Prop} {σf ω : Sg}
    (hsc : scClo sc ps cl = true) (he : EnvOk sc env) (hcells : env.cells = cl) (hL : env.locals = s.heap.objs.size) (hns : h₀.Ns env.locals (fun x => (ps.zip vals).lookup x)) (keep : ∀ b o, s.heap.get? b = some o → h₀.get? b = some o)
    (hn : ps.length = ds.length) (hvals : RpAll w R s.heap vals ds) (hsame : Same base s) (hkb : ∀ b o, base.heap.get? b = some o → s.heap.get? b = some o)
    (hR : ∀ a, R a → (s.heap.get? a).isSome = true ∧ (R0 a ∨ base.heap.get? a = none)) (hcl : ∀ x c, cl.lookup x = some c → ∃ o, s.heap.get? c = some o)
    (hσ : ∀ x d, σf.lookup x = some d → sc.names.lookup x = some .free ∧ ∃ c v, cl.lookup x = some c ∧ s.heap.IsCell c (some v) ∧ Rp w R s.heap v d)
    (hω : ∀ x d, ω.lookup x = some d → sc.names.lookup x = some .free ∧ ∃ c a, cl.lookup x = some c ∧ s.heap.IsCell c (some (.ref a)) ∧ ¬ R a ∧ base.heap.get? a = none ∧ RpRoot w R s.heap a d)
    (hω1 : ∀ x y, Has ω x → Has ω y → x = y) : STR w base R0 env sc R (ps.zip ds ++ σf) ω { s with heap := h₀, toks := tk } := by
  unfold scClo at hsc
  simp only [Bool.and_eq_true, Bool.not_eq_true', List.all_eq_true, Bool.or_eq_true, beq_iff_eq, decide_eq_true_eq] at hsc
  refine xA (hsc) fun zE1 c7 => ?_
  try clear hsc
  refine xA (zE1) fun zE2 c6 => ?_
  try clear zE1
  refine xA (zE2) fun zE3 c5 => ?_
  try clear zE2
  refine xA (zE3) fun zE4 c4 => ?_
  try clear zE3
  refine xA (zE4) fun zE5 c3 => ?_
  try clear zE4
  refine xA (zE5) fun c1 c2 => ?_
  try clear zE5
  have fz : s.heap.get? env.locals = none := by rw [hL]; exact fresh_size _
  have nOwn : ∀ a, Own env sc a → s.heap.get? a = none := fun a ha => by
    rcases ha with rfl | ⟨x, h1, _⟩
    · exact fz
    · rcases c5 _ (mem_of_lookupN h1) with (q | ⟨q, _⟩) | q <;> cases q
  exact {
    same := hsame.trans (.mk _ _)
    keep := fun b o e => keep b o (hkb b o e)
    fr := ⟨⟨_, hns⟩, fun x hx => by rcases c5 _ (mem_of_lookupN hx) with (q | ⟨q, _⟩) | q <;> cases q⟩
    own0 := fun a ha => by
      cases q : base.heap.get? a with
      | none => rfl
      | some o => have := hkb a o q; rw [nOwn a ha] at this; cases this
    reg := fun a ha => ⟨(hR a ha).2, fun q => by have := (hR a ha).1; rw [nOwn a q] at this; cases this⟩
    sr := ⟨fun x c hx => by
      rw [hcells] at hx
      refine xE (hcl x c hx) fun o e => ?_
      exact ⟨o, keep _ _ e⟩, fun x d hx => by
      rw [lookup_append] at hx
      cases hz : (ps.zip ds).lookup x with
      | some d' =>
        rw [hz] at hx; cases hx
        refine xEAA (zip_rp hvals hn hz) fun v hv hp hm => ?_
        exact ⟨v, .loc (he.loc x (c6 x hm)) ⟨_, hns, hv⟩, hp.mv (.keep keep)⟩
      | none =>
        rw [hz] at hx
        refine xAEEAA (hσ x d hx) fun hf c v h1 h2 h3 => ?_
        exact ⟨v, .cell (he.free x hf).symm ⟨c, by rw [hcells]; exact h1, h2.keeps keep⟩, h3.mv (.keep keep)⟩⟩
    ow := fun x d hx => by
      refine xAEEAAAA (hω x d hx) fun hf c a h1 h2 h3 h4 h5 => ?_
      refine ⟨a, .cell (he.free x hf).symm ⟨c, by rw [hcells]; exact h1, h2.keeps keep⟩, h3, fun q => ?_, h4, h5.mv (.keep keep) fun o e => keep a o e⟩
      refine xE (h5.alive) fun o e => ?_
      rw [nOwn a q] at e; cases e
    inj := fun x y a hx hy _ _ => hω1 x y hx hy }
end

noncomputable def nestBody (p : Program) (i j : Nat) : List Stmt := match (bodyAt p i)[j]? with
  | some (.FunctionDef _ _ body _ _ _ _ _ _ _) => body
  | _ => []
noncomputable def nestScope (p : Program) (i j : Nat) : Scope := match (bodyAt p i)[j]? with
  | some (.FunctionDef _ _ _ _ _ _ sc _ _ _) => sc
  | _ => default

/-- what the inner def of _int2digits makes of the list -/
noncomputable def inn : Nat → List Int → Int → Nat → Nat → Option (List Int)
  | 0, _, _, _, _ => none
  | j + 1, ds, x, L, R =>
    if L + 1 = R then (if L < ds.length ∧ L ≤ 1000 then some (ds.set L x) else none) else
      let mid := (L + R) / 2
      let up := x.fdiv (2 ^ (mid - L))
      let lo := Builtin.bitXor x (up * 2 ^ (mid - L))
      if L ≤ mid ∧ mid - L ≤ 1000 ∧ (Builtin.Int.intBits up : Int) ≤ 1000 then
        match inn j ds lo L mid with
        | none => none
        | some d => inn j d up mid R
      else none
/-- what the inner def of _digits2int gives -/
noncomputable def nni : Nat → List Int → Nat → Nat → Option Int
  | 0, _, _, _ => none
  | j + 1, ds, L, R =>
    if L + 1 = R then ds[L]? else
      let mid := (L + R) / 2
      if L ≤ mid ∧ mid - L ≤ 1000 then
        match nni j ds mid R, nni j ds L mid with
        | some a, some b => if (Builtin.Int.intBits a : Int) ≤ 1000 then some (a * 2 ^ (mid - L) + b) else none
        | _, _ => none
      else none

noncomputable def digitsOf (n : Nat) : Option (List Int) := let len := Builtin.Int.intBits (n : Int)
  if n = 0 then some [] else inn 8 (List.replicate len 0) n 0 len
end Mine

open PySem PySem.W PyProof.Rows
namespace Mine

section
variable {prog : Program} {w : World} {Γ : GEnv} {K : List Str} {sc : Scope} {k : Nat} {σ ω : Sg}

/-- [x] * n, made anew -/
theorem EvF.rep {l r pos x} {n : Nat} (h1 : Ev prog w Γ sc k σ l (.list [x])) (hx : Scalar x = true) (h2 : Ev prog w Γ sc k σ r (.int (n : Int))) (h : n ≤ sizeLine) : EvF prog w Γ sc k σ (.BinOp l .Mult r pos) (.list (List.replicate n x)) := fun A E env R s hr he hg hs => by
  refine wpAny_BinOp (wpAny_mono (h1 A E env R s hr he hg hs) (fun v1 s1 ⟨x1, p1⟩ => ?_) fun _ _ e => e)
  refine wpAny_mono (h2 A E env R s1 hr he (hg.keep x1.keep) (hs.keep x1.keep)) (fun v2 s2 ⟨x2, p2⟩ => ?_) fun _ _ e => e
  have hz : n ≤ 2 ^ 24 := by rw [sizeLine_eq] at h; omega
  have p1' := p1.keeps x2
  cases p1' with
  | @list a vs m _ hR e1 l1 =>
    induction p2 using Rp.elimInt
    obtain ⟨vl⟩ := vs
    cases l1 with
    | @cons v _ _ _ l1 l2 =>
      induction l2 using RpAll.elimNil
      refine mul_L e1 (by omega) (by omega) (by simp; omega) ?_
      refine ⟨(x1.trans x2).trans (.push _ _), _, rfl, fresh_back (x1.trans x2).keep (fresh_size _), .inl ⟨_, _, _, rfl, Heap.get?_push_size _ rfl, ?_⟩⟩
      rw [foldl_replicate]
      simp only [List.isEmpty_cons, List.isEmpty_toArray, Bool.false_eq_true, if_false, Int.toNat_natCast, Array.toList_empty, List.nil_append]
      have : ∀ n : Nat, RpAll w (fun b => Nw R s b ∧ b ≠ s2.heap.objs.size) (s2.heap.push (LObj (List.foldl (fun x1 x2 => x1 ++ x2) #[] (List.replicate n (Array.mk [v]))) 0)) (List.replicate n [v]).flatten (List.replicate n x) := fun n => by
        have : ∀ n : Nat, ∀ h, RpAll w (fun b => Nw R s b ∧ b ≠ s2.heap.objs.size) h (List.replicate n [v]).flatten (List.replicate n x) := fun n h => by
          induction n with
          | zero => exact .nil
          | succ n ih => rw [List.replicate_succ, List.replicate_succ, List.flatten_cons]; exact .cons (l1.scalar hx) ih
        exact this n _
      have h0 : ∀ n : Nat, ∀ h, RpAll w (fun b => Nw R s b ∧ b ≠ s2.heap.objs.size) h (List.replicate n [v]).flatten (List.replicate n x) := fun n h => by
        induction n with
        | zero => exact .nil
        | succ n ih => rw [List.replicate_succ, List.replicate_succ, List.flatten_cons]; exact .cons (l1.scalar hx) ih
      exact h0 n _

theorem Ev.bitlen {e apos pos} {a : Int} (h1 : Ev prog w Γ sc k σ e (.int a)) (hbase : ∀ env, attributeBase e "bit_length" env (eval e env) = eval e env := by intro _; rfl) (hline : (apos.endLine == pos.line) = true := by rfl) :
    Ev prog w Γ sc k σ (.Call (.Attribute e "bit_length" apos) [] [] pos) (.int ((Builtin.Int.intBits a : Nat) : Int)) := fun A E env R s hr he hg hs => by
  refine meth0 (hbase env) hline (wpAny_mono (h1 A E env R s hr he hg hs) (fun v s₁ ⟨x₁, p⟩ => ?_) fun _ _ e => e)
  induction p using Rp.elimInt with
  | int t =>
    exact ⟨"int", "int.bit_length", F.plainAttrs_int, F.slot_int_bit_length, F.type_int_bit_length, typeIs_int _ _ _, (fun _ e => nomatch e), method0_gives F.slot_int_bit_length F.entry_int_bit_length (typeIs_int _ _ _) (F.args_int_bit_length_1 _) (PySem.AutoIntG2.int_bit_length_int_0 a t) ⟨x₁.trans (.tok _), .int _ _⟩⟩

theorem truthy_I {a : Int} : TruthyOk prog w k (.int a) (a != 0) := fun A E R s v hr p => by
  induction p using Rp.elimInt
  exact PyProof.Rows.truthy_int ⟨rfl, .refl _⟩

/-- a name that holds no data is stored -/
theorem STR.put {base : Shared} {R0 R : Addr → Prop} {env : Env} {s s' : Shared} (t : STR w base R0 env sc R σ ω s) (sm : Same s s') (kp : Kp (Own env sc) s.heap s'.heap) (fr : FrOk s'.heap env sc) (kb : ∀ y u, Has σ y ∨ Has ω y → Bd s.heap env y u → Bd s'.heap env y u) : STR w base R0 env sc R σ ω s' := by
  have lv : Live s.heap s'.heap := fun a o e => by
    by_cases q : Own env sc a
    · exact fr.alive q
    · exact ⟨o, kp a o q e⟩
  refine ⟨t.same.trans sm, fun b o e => kp b o (fun q => by rw [t.own0 b q] at e; cases e) (t.keep b o e), fr, t.own0, t.reg, ⟨fun y c hy => ?_, fun x d hx => ?_⟩, fun x d hx => ?_, fun y z a hy hz b1 b2 => ?_⟩
  · obtain ⟨o, e⟩ := t.sr.cells y c hy; exact lv _ _ e
  · refine xEA (t.sr.get x d hx) fun v b p => ?_
    exact ⟨v, kb _ _ (.inl ⟨d, hx⟩) b, p.mv (.kp kp fun a ha => (t.reg a ha).2)⟩
  · refine xEAAAA (t.ow x d hx) fun a b h1 h2 h3 h4 => ?_
    exact ⟨a, kb _ _ (.inr ⟨d, hx⟩) b, h1, h2, h3, h4.mv (.kp kp fun a ha => (t.reg a ha).2) fun o e => kp a o h2 e⟩
  · refine xE (hy) fun dy hy' => ?_
    try clear hy
    refine xE (hz) fun dz hz' => ?_
    try clear hz
    refine xEA (t.ow y dy hy') fun a1 c1 _ => ?_
    refine xEA (t.ow z dz hz') fun a2 c2 _ => ?_
    have e1 := b1.fn (kb _ _ (.inr ⟨dy, hy'⟩) c1); cases e1
    have e2 := b2.fn (kb _ _ (.inr ⟨dz, hz'⟩) c2); cases e2
    exact t.inj y z _ ⟨dy, hy'⟩ ⟨dz, hz'⟩ c1 c2

/-- a def is entered -/
theorem FnIs.enter {f : Addr} {fd : FuncData} {sc : Scope} {ps : List Str} {body : List Stmt} (F : FnIs Γ f fd sc ps body) (hsc : scFn sc ps = true) {ds : List PyData} (hn : ps.length = ds.length) {A : Around} {E : Value → Shared → Prop} {R : Addr → Prop} {s base : Shared} {vals : List Value} {Q : Value → Shared → Prop}
    (hr : Room (k + 1) A) (hg : Γ.In s.heap) (hvals : RpAll w R s.heap vals ds) (hsame : Same base s) (hkb : ∀ b o, base.heap.get? b = some o → s.heap.get? b = some o)
    (h : ∀ (s₁ : Shared) (E' : Value → Shared → Prop), EnvOk sc (callEnvC fd s.heap.objs.size f) → STR w base (fun a => R a ∧ (s.heap.get? a).isSome = true) (callEnvC fd s.heap.objs.size f) sc (fun a => R a ∧ (s.heap.get? a).isSome = true) (ps.zip ds) [] s₁ → Ex s s₁ →
      (∀ a, Own (callEnvC fd s.heap.objs.size f) sc a → s.heap.get? a = none) → Room k (A.deeper (callEnvC fd s.heap.objs.size f)) →
      wpAny (model prog w) (A.deeper (callEnvC fd s.heap.objs.size f)) (execs body (callEnvC fd s.heap.objs.size f)) (fun f' s' => Q (match f' with | .ret v => v | _ => .none) s') E' s₁) :
    wpAny (model prog w) A (PySem.call (.ref f) vals) Q E s := by
  unfold scFn at hsc
  simp only [Bool.and_eq_true, Bool.not_eq_true', List.all_eq_true, Bool.or_eq_true, beq_iff_eq, decide_eq_true_eq] at hsc
  refine xA (hsc) fun zE1 c7 => ?_
  try clear hsc
  refine xA (zE1) fun zE2 c6 => ?_
  try clear zE1
  refine xA (zE2) fun zE3 c5 => ?_
  try clear zE2
  refine xA (zE3) fun zE4 c4 => ?_
  try clear zE3
  refine xA (zE4) fun zE5 c3 => ?_
  try clear zE4
  refine xA (zE5) fun c1 c2 => ?_
  try clear zE5
  refine xA (hg.fns _ F.mem) fun zE6 hcr => ?_
  refine xEA (zE6) fun o ho hdata => ?_
  try clear zE6
  have hlen : vals.length = ps.length := by rw [hvals.length, hn]
  have hkeys : ((ps.zip vals).map (·.1)) = ps := List.map_fst_zip (by omega)
  refine wpAny_call (codeAny_call_cells hr.d ho hdata hg.nolimit hcr F.body (F.bind vals hlen) F.clo (fun x hx => ?_) (fun s₁ I => ?_) (by rw [F.scope]; exact c2) (by rw [F.scope]; exact c3) (by rw [F.scope]; exact c1))
  · have hm : x.1 ∈ ps := by rw [← hkeys]; exact List.mem_map.mpr ⟨x, hx, rfl⟩
    rw [F.scope]
    rcases c6 x.1 hm with q | q
    · exact .inl q
    · refine xEA (cellsFrom_cell sc.names (s.heap.objs.size + 1) [] x.1 (mem_of_lookupN q)) fun c hc _ => ?_
      exact .inr ⟨q, by rw [hc]; rfl⟩
  have hkind : ∀ x, (callEnvC fd s.heap.objs.size f).kindOf x = sc.names.lookup x := fun x => by show fd.scope.names.lookup x = _; rw [F.scope]
  have hcells : (callEnvC fd s.heap.objs.size f).cells = cellsFrom (s.heap.objs.size + 1) sc.names [] := by show cellsFrom _ fd.scope.names [] = _; rw [F.scope]
  have he : EnvOk sc (callEnvC fd s.heap.objs.size f) := {
    kind := by show fd.scope.kind = _; rw [F.scope]; exact c1
    loc := fun x hx => by rw [hkind, hx]
    cell := fun x hx => by rw [hkind, hx]
    free := fun x hx => by rcases c5 _ (mem_of_lookupN hx) with (q | q) | q <;> cases q
    glob := fun x hx => by rw [hkind, hx]
    gl := F.glob
    bl := F.bl
    has := fun x hx => by
      rw [hcells]
      rcases hx with hx | hx
      · refine xEA (cellsFrom_cell sc.names (s.heap.objs.size + 1) [] x (mem_of_lookupN hx)) fun c h1 _ => ?_
        exact ⟨c, h1⟩
      · rcases c5 _ (mem_of_lookupN hx) with (q | q) | q <;> cases q
    inj := by
      rw [hcells]
      exact cellsFrom_inj _ _ _ nofun nofun }
  have hfresh : ∀ a, s.heap.objs.size ≤ a → s.heap.get? a = none := fun a ha => by
    cases q : s.heap.get? a with
    | none => rfl
    | some o => exact absurd (Heap.lt_size q) (Nat.not_lt.mpr ha)
  have hown : ∀ a, Own (callEnvC fd s.heap.objs.size f) sc a → s.heap.get? a = none := fun a ha => by
    rcases ha with rfl | ⟨x, h1, h2⟩
    · exact hfresh _ (Nat.le_refl _)
    · rw [hcells] at h2
      rcases cellsFrom_from sc.names _ _ _ _ h2 with q | q
      · cases q
      · exact hfresh _ (Nat.le_trans (Nat.le_succ _) q)
  have keep := I.toInCall.keep
  refine h s₁ _ he {
    same := hsame.trans I.toInCall.same
    keep := fun b o e => keep b o (hkb b o e)
    fr := ⟨⟨_, I.toInCall.ns⟩, fun x hx => by
      refine xE (he.has x (.inl hx)) fun c hc => ?_
      exact ⟨c, _, hc, I.cell x c hc⟩⟩
    own0 := fun a ha => by
      cases q : base.heap.get? a with
      | none => rfl
      | some o => have := hkb a o q; rw [hown a ha] at this; cases this
    reg := fun a ha => ⟨.inl ha, fun q => by rw [hown a q] at ha; cases ha.2⟩
    sr := ⟨fun x c hx => let ⟨o, e, _⟩ := I.cell x c hx; ⟨o, e⟩, fun x d hx => by
      refine xEAA (zip_rp hvals.live hn hx) fun v hv hp hm => ?_
      refine ⟨v, ?_, hp.mv (.keep keep)⟩
      have hnd : ((ps.zip vals).map (·.1)).Nodup := by rw [hkeys]; exact c7
      rcases c6 x hm with q | q
      · refine .loc (by rw [hkind]; exact q) ⟨_, I.toInCall.ns, ?_⟩
        rw [bindL_lookup _ _ _ hnd (by rw [hkind]; exact q), hv]
      · refine xE (he.has x (.inl q)) fun c hc => ?_
        refine .cell (.inl (by rw [hkind]; exact q)) ⟨c, hc, ?_⟩
        have := I.cell x c hc
        rw [bindC_lookup _ _ _ hnd (by rw [hkind, q]; nofun), hv] at this
        exact this⟩
    ow := nofun
    inj := fun x y a hx => by obtain ⟨d, hd⟩ := hx; cases hd } ⟨I.toInCall.same, keep⟩ hown hr.deeper
end
end Mine

open PySem PySem.W PyProof.Rows
namespace Mine

section
variable {prog : Program} {w : World} {Γ : GEnv} {sc : Scope} {k : Nat} {σ ω : Sg} {base : Shared} {R0 : Addr → Prop} {env : Env} {X : Heap → Prop}

/-- a value told behind a state where something of X turned -/
noncomputable def AtQ (w : World) (base : Shared) (R0 : Addr → Prop) (env : Env) (sc : Scope) (σ ω : Sg) (X : Heap → Prop) (d : PyData) : Value → Shared → Prop :=
  fun v s1 => ∃ s3 R, STR w base R0 env sc R σ ω s3 ∧ X s3.heap ∧ Ex s3 s1 ∧ Rp w (Nw R s3) s1.heap v d

theorem AtQ.bin {l op r pos d1 d2 d} {A : Around} {E : Value → Shared → Prop} {s : Shared} (hr : Room k A) (he : EnvOk sc env) (hg : Γ.In base.heap)
    (h1 : wpAny (model prog w) A (eval l env) (AtQ w base R0 env sc σ ω X d1) E s) (h2 : Ev prog w Γ sc k σ r d2) (h : BinOk prog w k op d1 d2 d) :
    wpAny (model prog w) A (eval (.BinOp l op r pos) env) (AtQ w base R0 env sc σ ω X d) E s := by
  refine wpAny_BinOp (wpAny_mono h1 (fun v1 s1 ⟨s3, R, t, hX, x1, p1⟩ => ?_) fun _ _ e => e)
  have t1 := t.ex x1
  refine wpAny_mono (h2 A E env R s1 hr he (t1.baseIn hg) t1.sr) (fun v2 s2 ⟨x2, p2⟩ => ?_) fun _ _ e => e
  exact wpAny_mono (h A E (Nw R s3) s2 v1 v2 hr (p1.keeps x2) (p2.back x1)) (fun v s' ⟨x3, p3⟩ => ⟨s3, R, t, hX, x1.trans (x2.trans x3), p3.mv (.sub fun a q => q.elim id fun q => .inr (fresh_back (x1.trans x2).keep q))⟩) fun _ _ e => e

theorem AtQ.cmp {l op r pos d1 d2 b} {A : Around} {E : Value → Shared → Prop} {s : Shared} (hr : Room k A) (he : EnvOk sc env) (hg : Γ.In base.heap)
    (h1 : wpAny (model prog w) A (eval l env) (AtQ w base R0 env sc σ ω X d1) E s) (h2 : Ev prog w Γ sc k σ r d2) (h : CmpOk prog w k op d1 d2 b) (hm : behindInMarks op r = false := by rfl) :
    wpAny (model prog w) A (isTrue (.Compare l [op] [r] pos) env (eval (.Compare l [op] [r] pos) env)) (fun c s' => c = b ∧ ∃ R, STR w base R0 env sc R σ ω s' ∧ ∃ s3, X s3.heap ∧ Ex s3 s') E s := by
  refine wpAny_isTrue_Compare1 (wpAny_mono h1 (fun v1 s1 ⟨s3, R, t, hX, x1, p1⟩ => ?_) fun _ _ e => e) hm
  have t1 := t.ex x1
  refine wpAny_mono (h2 A E env R s1 hr he (t1.baseIn hg) t1.sr) (fun v2 s2 ⟨x2, p2⟩ => ?_) fun _ _ e => e
  exact wpAny_mono (h A E (Nw R s3) s2 v1 v2 hr (p1.keeps x2) (p2.back x1)) (fun v s' ⟨e3, x3⟩ => by
    subst e3
    have xx := x1.trans (x2.trans x3)
    exact wpAny_truthy_bool ⟨rfl, R, t.ex xx, s3, hX, xx⟩) fun _ _ e => e

theorem AtQ.upto {value p pos xs e} {j : Nat} {A : Around} {E : Value → Shared → Prop} {s : Shared} (hr : Room k A) (he : EnvOk sc env) (hg : Γ.In base.heap)
    (h1 : wpAny (model prog w) A (eval value env) (AtQ w base R0 env sc σ ω X (.list xs)) E s) (h2 : Ev prog w Γ sc k σ e (.int (j : Int))) (hz : xs.length ≤ sizeLine) :
    wpAny (model prog w) A (eval (.Subscript value (.Slice none (some e) none p) pos) env) (AtQ w base R0 env sc σ ω X (.list (xs.take j))) E s := by
  refine Subscript_ (wpAny_mono h1 (fun v1 s1 ⟨s3, R, t, hX, x1, p1⟩ => ?_) fun _ _ e => e)
  have t1 := t.ex x1
  have part : ∀ (E : Value → Shared → Prop) (s2 : Shared) (Q : Value → Shared → Prop), Ex s1 s2 → (∀ v s3, Ex s2 s3 → IsPart v (some (j : Int)) → Q v s3) → wpAny (model prog w) A (evalPart (some e) env) Q E s2 := by
    intro E s2 Q x2 hQ
    refine wpAny_mono (h2 A E env R s2 hr he ((t1.baseIn hg).keep x2.keep) (t1.sr.keep x2.keep)) (fun v s3 ⟨x3, p3⟩ => ?_) fun _ _ e => e
    induction p3 using Rp.elimInt
    exact hQ _ _ x3 (.int _ _)
  refine wpAny_Slice (wpAny_pure (part _ s1 _ (.refl _) fun vu s4 x3 pu => wpAny_pure ?_))
  cases p1 with
  | @list a vs n _ hR e1 l1 =>
    have e3 := x3.keep _ _ e1
    have hlen : vs.size = xs.length := by have := l1.length; simpa using this
    refine tail_any (T := "list") (ops := [.ref s4.heap.objs.size, .ref a]) ⟨_, Heap.get?_push_of_some _ e3, rfl⟩ slot_list_getitem.lookup ?_ rfl
    refine wpAny_getItem_list_slice (hsz := by rw [hlen]; exact hz) ⟨_, Heap.get?_push_of_some _ e3, rfl, _, rfl⟩ (Heap.IsSliceOf.new ..) .none pu .none (by simp) ?_
    have xx : Ex s3 s4 := x1.trans x3
    refine ⟨s3, R, t, hX, xx.trans ⟨⟨_, _, rfl⟩, fun b o e => Heap.get?_push_of_some _ (Heap.get?_push_of_some _ e)⟩, ?_⟩
    refine Rp.list (.inr ?_) (Heap.get?_push_size _ rfl) ?_
    · exact fresh_back (fun b o e => Heap.get?_push_of_some _ (xx.keep b o e)) (fresh_size _)
    · rw [slicePick_plain, hlen]
      simp only [Option.elim, clipAt_nat, List.drop_zero, Nat.sub_zero]
      have l3 : RpAll w (Nw R s3) s4.heap vs.toList xs := l1.mv (.keep x3.keep)
      have ee : xs.take (min j xs.length) = xs.take j := by
        rcases Nat.le_total j xs.length with h | h
        · rw [Nat.min_eq_left h]
        · rw [Nat.min_eq_right h, List.take_of_length_le (Nat.le_refl _), List.take_of_length_le h]
      have l4 := l3.take (min j xs.length)
      rw [ee] at l4
      exact l4.mv (.keep fun b o e => Heap.get?_push_of_some _ (Heap.get?_push_of_some _ e))
end
end Mine

open PySem PySem.W PyProof.Rows
namespace Mine

/-- figure i of a number by two -/
noncomputable def bitI (x i : Nat) : Int := ((x / 2 ^ i % 2 : Nat) : Int)
noncomputable def bitsL (x n : Nat) : List Int := (List.range n).map (bitI x)
theorem bitsL_at {x n i : Nat} (h : i < n) : (bitsL x n)[i]? = some (bitI x i) := by unfold bitsL; rw [List.getElem?_map, List.getElem?_range h]; rfl
theorem bitsL_len (x n : Nat) : (bitsL x n).length = n := by unfold bitsL; rw [List.length_map, List.length_range]
theorem intBits_le {a n : Nat} (h : a < 2 ^ n) : Builtin.Int.intBits (a : Int) ≤ n := by
  unfold Builtin.Int.intBits
  by_cases z : a = 0
  · subst z; simp
  · rw [if_neg (by simp; omega), Int.natAbs_natCast]
    exact (Nat.log2_lt z).mpr h
theorem lt_bits (a : Nat) : a < 2 ^ Builtin.Int.intBits (a : Int) := by
  unfold Builtin.Int.intBits
  by_cases z : a = 0
  · subst z; simp
  · rw [if_neg (by simp; omega), Int.natAbs_natCast]
    exact Nat.lt_log2_self
theorem bit_hi {x n i : Nat} (h : x < 2 ^ n) (hi : n ≤ i) : bitI x i = 0 := by
  unfold bitI
  rw [Nat.div_eq_of_lt (Nat.lt_of_lt_of_le h (Nat.pow_le_pow_right (by decide) hi))]; rfl
theorem bit_div (x k t : Nat) : bitI (x / 2 ^ k) t = bitI x (k + t) := by
  unfold bitI
  rw [Nat.div_div_eq_div_mul, ← Nat.pow_add]
theorem bit_mod {x k t : Nat} (h : t < k) : bitI (x % 2 ^ k) t = bitI x t := by
  unfold bitI
  have := Nat.testBit_mod_two_pow x k t
  rw [decide_eq_true h, Bool.true_and, Nat.testBit_eq_decide_div_mod_eq, Nat.testBit_eq_decide_div_mod_eq, decide_eq_decide] at this
  congr 1
  rcases Nat.mod_two_eq_zero_or_one (x / 2 ^ t) with q | q
  · rcases Nat.mod_two_eq_zero_or_one (x % 2 ^ k / 2 ^ t) with r | r
    · rw [q, r]
    · exact absurd (this.mp r) (by rw [q]; decide)
  · rw [q, this.mpr q]
theorem fdiv_pow (x k : Nat) : (x : Int).fdiv (2 ^ k) = ((x / 2 ^ k : Nat) : Int) := by
  rw [Int.fdiv_eq_ediv_of_nonneg _ (Int.le_of_lt (Int.pow_pos (by decide)))]; simp
theorem xor_lo (x k : Nat) : Builtin.bitXor (x : Int) (((x / 2 ^ k : Nat) : Int) * 2 ^ k) = ((x % 2 ^ k : Nat) : Int) := by
  have hy : ((x / 2 ^ k : Nat) : Int) * 2 ^ k = ((x / 2 ^ k * 2 ^ k : Nat) : Int) := by simp
  rw [hy]
  have hand : x &&& (x / 2 ^ k * 2 ^ k) = x / 2 ^ k * 2 ^ k := by
    refine Nat.eq_of_testBit_eq fun i => ?_
    rw [Nat.testBit_and, Nat.testBit_mul_two_pow, Nat.testBit_div_two_pow]
    by_cases q : k ≤ i
    · rw [decide_eq_true q, show i - k + k = i from by omega]; simp
    · rw [decide_eq_false q]; simp
  have hor : x ||| (x / 2 ^ k * 2 ^ k) = x := by
    refine Nat.eq_of_testBit_eq fun i => ?_
    rw [Nat.testBit_or, Nat.testBit_mul_two_pow, Nat.testBit_div_two_pow]
    by_cases q : k ≤ i
    · rw [decide_eq_true q, show i - k + k = i from by omega]; simp
    · rw [decide_eq_false q]; simp
  have hm : x / 2 ^ k * 2 ^ k + x % 2 ^ k = x := by rw [Nat.mul_comm]; exact Nat.div_add_mod _ _
  generalize x / 2 ^ k * 2 ^ k = y at *
  have o : Builtin.bitOr (x : Int) (y : Int) = ((x ||| y : Nat) : Int) := by
    have nn : ∀ z : Nat, Builtin.bitNot (Builtin.bitNot (z : Int)) = z := fun z => by unfold Builtin.bitNot; omega
    have neg : ∀ z : Nat, decide (0 ≤ Builtin.bitNot (z : Int)) = false := fun z => decide_eq_false (by unfold Builtin.bitNot; omega)
    unfold Builtin.bitOr
    unfold Builtin.bitAnd
    simp only [neg, nn, Int.toNat_natCast]
  have a : Builtin.bitAnd (x : Int) (y : Int) = ((x &&& y : Nat) : Int) := by
    unfold Builtin.bitAnd
    simp only [decide_eq_true (Int.natCast_nonneg x), decide_eq_true (Int.natCast_nonneg y), Int.toNat_natCast]
  unfold Builtin.bitXor
  rw [o, a, hor, hand]
  omega

/-- the middle of two places that are not next to each other -/
theorem mid_of {L R p : Nat} (h : L < R) (e : ¬ L + 1 = R) (h5 : R - L ≤ 2 * p) : L < (L + R) / 2 ∧ (L + R) / 2 < R ∧ (L + R) / 2 - L ≤ p ∧ R - (L + R) / 2 ≤ p := by
  obtain ⟨d, rfl⟩ : ∃ d, R = L + d := ⟨R - L, by omega⟩
  obtain ⟨c, hc⟩ : ∃ c, (L + (L + d)) / 2 = L + c ∧ c = d / 2 := ⟨d / 2, by omega⟩
  rw [hc.1]
  have := hc.2
  clear hc
  rw [Nat.add_sub_cancel_left] at h5
  refine ⟨?_, ?_, ?_, ?_⟩ <;> omega
theorem inn_one {j : Nat} {ds : List Int} {x L R : Nat} (h1 : L + 1 = R) (h2 : R ≤ ds.length) (h3 : ds.length ≤ 1000) (h4 : x < 2 ^ (R - L)) : inn (j + 1) ds (x : Int) L R = some ((List.range ds.length).map fun i => if L ≤ i ∧ i < R then bitI x (i - L) else ds.getD i 0) := by
  subst h1
  unfold inn
  rw [if_pos rfl, if_pos ⟨by omega, by omega⟩]
  congr 1
  refine List.ext_getElem? fun i => ?_
  rw [List.getElem?_map]
  by_cases hi : i < ds.length
  · rw [List.getElem?_range hi, Option.map_some]
    by_cases q : L = i
    · subst q
      rw [List.getElem?_set_self hi, if_pos ⟨Nat.le_refl _, Nat.lt_succ_self _⟩]
      rw [show L + 1 - L = 1 from by omega] at h4
      unfold bitI
      rw [Nat.sub_self, Nat.pow_zero, Nat.div_one, Nat.mod_eq_of_lt h4]
    · rw [List.getElem?_set_ne q, if_neg (by omega), List.getD, List.getElem?_eq_getElem hi]; rfl
  · rw [List.getElem?_eq_none (by rw [List.length_set]; omega), List.getElem?_eq_none (by rw [List.length_range]; omega)]; rfl
theorem inn_ok : ∀ (j : Nat) (ds : List Int) (x L R : Nat), L < R → R ≤ ds.length → ds.length ≤ 1000 → x < 2 ^ (R - L) → R - L ≤ 2 ^ j → inn (j + 1) ds (x : Int) L R = some ((List.range ds.length).map fun i => if L ≤ i ∧ i < R then bitI x (i - L) else ds.getD i 0)
  | 0, ds, x, L, R, h1, h2, h3, h4, h5 => inn_one (by rw [Nat.pow_zero] at h5; omega) h2 h3 h4
  | j + 1, ds, x, L, R, h1, h2, h3, h4, h5 => by
    by_cases e : L + 1 = R
    · exact inn_one e h2 h3 h4
    have h5' : R - L ≤ 2 * 2 ^ j := by rw [Nat.pow_succ, Nat.mul_comm] at h5; exact h5
    unfold inn
    rw [if_neg e]
    simp only
    rw [fdiv_pow, xor_lo]
    have ⟨m1, m2, m3, m4⟩ := mid_of h1 e h5'
    clear e h5 h5'
    generalize (L + R) / 2 = mid at *
    have hup : x / 2 ^ (mid - L) < 2 ^ (R - mid) := by
      refine Nat.div_lt_of_lt_mul ?_
      rw [← Nat.pow_add, show mid - L + (R - mid) = R - L from by omega]; exact h4
    have hb := intBits_le hup
    rw [if_pos ⟨Nat.le_of_lt m1, Nat.le_trans (Nat.sub_le _ _) (Nat.le_trans (Nat.le_of_lt m2) (Nat.le_trans h2 h3)), show _ ≤ (1000 : Int) from Int.ofNat_le.mpr (Nat.le_trans hb (Nat.le_trans (Nat.sub_le _ _) (Nat.le_trans h2 h3)))⟩, inn_ok j ds _ L mid m1 (by omega) h3 (Nat.mod_lt _ (Nat.pow_pos (by decide))) m3]
    simp only
    rw [inn_ok j _ _ mid R m2 (by rw [List.length_map, List.length_range]; exact h2) (by rw [List.length_map, List.length_range]; exact h3) hup m4, List.length_map, List.length_range]
    congr 1
    refine List.map_congr_left fun i hi => ?_
    have hi' := List.mem_range.mp hi
    by_cases q : mid ≤ i ∧ i < R
    · rw [if_pos q, if_pos ⟨by omega, q.2⟩, bit_div]
      congr 1; omega
    · rw [if_neg q, List.getD, List.getElem?_map, List.getElem?_range hi', Option.map_some, Option.getD_some]
      by_cases z : L ≤ i ∧ i < mid
      · rw [if_pos z, if_pos ⟨z.1, by omega⟩, bit_mod (by omega)]
      · rw [if_neg z, if_neg (by omega)]
theorem nni_ok : ∀ (j : Nat) (ds : List Int) (x L R : Nat), L < R → R ≤ 1000 → R - L ≤ 2 ^ j → (∀ i, L ≤ i → i < R → ds[i]? = some (bitI x i)) → nni (j + 1) ds L R = some ((x / 2 ^ L % 2 ^ (R - L) : Nat) : Int)
  | j, ds, x, L, R, h1, h2, h3, h4 => by
    by_cases e : L + 1 = R
    · subst e
      unfold nni
      rw [if_pos rfl, h4 L (Nat.le_refl _) (Nat.lt_succ_self _), show L + 1 - L = 1 from by omega]; rfl
    · match j, h3 with
      | 0, h3 => rw [Nat.pow_zero] at h3; omega
      | j + 1, h3 =>
        have h3' : R - L ≤ 2 * 2 ^ j := by rw [Nat.pow_succ, Nat.mul_comm] at h3; exact h3
        unfold nni
        rw [if_neg e]
        simp only
        have ⟨m1, m2, m3, m4⟩ := mid_of h1 e h3'
        clear e h3 h3'
        generalize (L + R) / 2 = mid at *
        rw [if_pos ⟨Nat.le_of_lt m1, Nat.le_trans (Nat.sub_le _ _) (Nat.le_trans (Nat.le_of_lt m2) h2)⟩, nni_ok j ds x mid R m2 h2 m4 (fun i a b => h4 i (by omega) b), nni_ok j ds x L mid m1 (by omega) m3 (fun i a b => h4 i a (by omega))]
        simp only
        have hb := intBits_le (Nat.mod_lt (x / 2 ^ mid) (Nat.pow_pos (n := R - mid) (by decide : 0 < 2)))
        rw [if_pos (show _ ≤ (1000 : Int) from Int.ofNat_le.mpr (Nat.le_trans hb (Nat.le_trans (Nat.sub_le _ _) h2)))]
        congr 1
        have e1 : x / 2 ^ mid = x / 2 ^ L / 2 ^ (mid - L) := by rw [Nat.div_div_eq_div_mul, ← Nat.pow_add, show L + (mid - L) = mid from by omega]
        have e2 : 2 ^ (R - L) = 2 ^ (mid - L) * 2 ^ (R - mid) := by rw [← Nat.pow_add, show mid - L + (R - mid) = R - L from by omega]
        rw [e1, e2, Nat.mod_mul, Nat.mul_comm (2 ^ (mid - L)) (x / 2 ^ L / 2 ^ (mid - L) % 2 ^ (R - mid)), Nat.add_comm]
        simp

/-- what the two mills of figures make of a number -/
structure Digits (n l : Nat) (dg figs : List Int) : Prop where
  hdg : digitsOf n = some dg
  hbits : Builtin.Int.intBits (n : Int) ≤ 100
  hdz : dg.length ≤ 1000
  hfig : (dg ++ List.replicate l 0).take l = figs
  hfl : figs.length = l
  hback : nni 8 figs 0 figs.length = some (n : Int)
theorem digits_ok {n l : Nat} (h1 : 1 ≤ l) (h2 : l ≤ 100) (h : n < 2 ^ l) : Digits n l (bitsL n (Builtin.Int.intBits (n : Int))) (bitsL n l) := by
  have hb := intBits_le h
  refine ⟨?_, by omega, by rw [bitsL_len]; omega, ?_, bitsL_len _ _, ?_⟩
  · unfold digitsOf
    simp only
    by_cases z : n = 0
    · subst z; rw [if_pos rfl]; rfl
    · rw [if_neg z]
      have hl := lt_bits n
      have h0 : 0 < Builtin.Int.intBits (n : Int) := by
        rcases Nat.eq_zero_or_pos (Builtin.Int.intBits (n : Int)) with q | q
        · rw [q, Nat.pow_zero] at hl; omega
        · exact q
      generalize Builtin.Int.intBits (n : Int) = b at *
      rw [inn_ok 7 (List.replicate b 0) n 0 b h0 (by rw [List.length_replicate]; omega) (by rw [List.length_replicate]; omega) hl (by show b ≤ 128; omega), List.length_replicate]
      unfold bitsL
      congr 1
      refine List.map_congr_left fun i hi => ?_
      rw [if_pos ⟨Nat.zero_le _, List.mem_range.mp hi⟩, Nat.sub_zero]
  · have hl := lt_bits n
    generalize Builtin.Int.intBits (n : Int) = b at *
    refine List.ext_getElem? fun i => ?_
    by_cases hi : i < l
    · rw [List.getElem?_take_of_lt hi, bitsL_at hi]
      by_cases q : i < b
      · rw [List.getElem?_append_left (by rw [bitsL_len]; exact q), bitsL_at q]
      · rw [List.getElem?_append_right (by rw [bitsL_len]; omega), bitsL_len, List.getElem?_replicate_of_lt (by omega), bit_hi hl (by omega)]
    · rw [List.getElem?_eq_none (by rw [List.length_take]; omega), List.getElem?_eq_none (by rw [bitsL_len]; omega)]
  · rw [bitsL_len, nni_ok 7 _ n 0 l (by omega) (by omega) (by show l - 0 ≤ 128; omega) fun i _ hi => bitsL_at hi, Nat.pow_zero, Nat.div_one, Nat.sub_zero, Nat.mod_eq_of_lt h]
end Mine

open PySem PySem.W PyProof.Rows
namespace Mine

/-! all ways to take some of a list -/
theorem keep_sub {α : Type} {mem : α → List α → Bool} (hmem : ∀ x l, mem x l = true ↔ x ∈ l) {S l : List α} (h : S.Sublist l) (hn : l.Nodup) : l.filter (fun x => mem x S) = S := by
  have key : ∀ {S l : List α}, S.Sublist l → l.Nodup → ∀ T : List α, (∀ x ∈ l, x ∈ T ↔ x ∈ S) → l.filter (fun x => mem x T) = S := by
    intro S l h
    induction h with
    | slnil => intro _ _ _; rfl
    | @cons S l a h ih =>
      intro hn T hT
      obtain ⟨n1, n2⟩ := List.nodup_cons.mp hn
      have ha : mem a T = false := by
        rw [Bool.eq_false_iff]
        exact fun q => n1 (h.subset ((hT a (.head _)).mp ((hmem a T).mp q)))
      rw [List.filter_cons, ha]
      exact ih n2 T fun x hx => hT x (.tail _ hx)
    | @cons_cons S l a h ih =>
      intro hn T hT
      obtain ⟨n1, n2⟩ := List.nodup_cons.mp hn
      rw [List.filter_cons, (hmem a T).mpr ((hT a (.head _)).mpr (.head _)), if_pos rfl]
      congr 1
      refine ih n2 T fun x hx => ?_
      rw [hT x (.tail _ hx), List.mem_cons]
      exact ⟨fun q => q.resolve_left fun e => n1 (e ▸ hx), .inr⟩
  exact key h hn S fun x _ => Iff.rfl
theorem pick_sub {α : Type} (l : List α) (p : Nat → Bool) (d : α) : (((List.range l.length).filter p).map fun k => l.getD k d).Sublist l := by
  have h : (List.range l.length).map (fun k => l.getD k d) = l := by
    refine List.ext_getElem? fun i => ?_
    rw [List.getElem?_map]
    by_cases hi : i < l.length
    · rw [List.getElem?_range hi, Option.map_some, List.getD, List.getElem?_eq_getElem hi]; rfl
    · rw [List.getElem?_eq_none (by rw [List.length_range]; omega), List.getElem?_eq_none (by omega)]; rfl
  have := (List.filter_sublist (p := p) (l := List.range l.length)).map fun k => l.getD k d
  rwa [h] at this
noncomputable def allSl {α : Type} (l : List α) : List α → (List α → Bool) → Bool := List.rec (fun acc K => K acc) (fun x _ ih acc K => and (ih (x :: acc) K) (ih acc K)) l
end Mine

open PySem PySem.W PyProof.Rows
namespace Mine

section
variable {prog : Program} {w : World} {Γ : GEnv} {K : List Str} {sc : Scope} {k : Nat} {σ ω : Sg}

theorem CallOk.min2 {a b : Int} : CallOk prog w Γ k (.builtin "min") [.int a, .int b] (.int (imin [a, b])) := fun A E R s vs hr hg p => by
  induction p using RpAll.elimCons with
  | cons p q => cases q with
    | cons p' q =>
      induction q using RpAll.elimNil
      induction p using Rp.elimInt with
      | int t => cases p' with
        | int b u =>
          have e : (s.heap.push (TObj #[.int a t, .int b u] 0)).get? s.heap.objs.size = some (TObj (intItems #[(a, t), (b, u)]) 0) := by rw [show intItems #[(a, t), (b, u)] = #[.int a t, .int b u] from by simp [intItems]]; exact Heap.get?_push_size _ rfl
          have z : (s.heap.push (TObj #[.int a t, .int b u] 0)).objs.size = s.heap.objs.size + 1 := Heap.size_push _ _
          have hl : s.heap.objs.size ≠ (s.heap.push (TObj #[.int a t, .int b u] 0)).objs.size := by rw [Heap.size_push]; omega
          refine call_min_two (wpAny_pyIter_tuple (items := intItems #[(a, t), (b, u)]) ⟨_, e, rfl, _, rfl⟩ ?_)
          refine ⟨_, _, _, _, _, _, _, rfl, Walks.tuple (A := A.in1) hr.hh _ s.heap.objs.size hl (intItems #[(a, t), (b, u)]), ⟨⟨_, Heap.get?_push_size _ rfl, rfl, rfl⟩, ⟨_, kpush _ _ _ _ e, rfl, _, rfl⟩⟩, fun c hc => ?_, by simp [intItems], CmpOf.ints_lt (numAt #[(a, t), (b, u)]) (fun _ _ => intItems_at), fun v h' tk hP hk => ?_⟩
          · simp only [List.mem_cons, List.not_mem_nil, or_false] at hc
            rw [Heap.size_push]
            rcases hc with rfl | rfl
            · exact Nat.lt_succ_self _
            · rw [z]; exact Nat.lt_succ_of_lt (Nat.lt_succ_self _)
          · refine xE (best_min (xs := #[(a, t), (b, u)]) (by simp) (by simpa [intItems] using hP)) fun t zE1 => ?_
            subst zE1
            exact ⟨.of fun c o eb => hk c o (fun hm => by have := Heap.lt_size eb; rw [List.mem_singleton.mp hm, z] at this; exact absurd this (Nat.not_lt.mpr (Nat.le_succ _))) (kpush _ _ _ _ (kpush _ _ _ _ eb)), .int _ _⟩
theorem CallOk.max2 {a b : Int} : CallOk prog w Γ k (.builtin "max") [.int a, .int b] (.int (imax [a, b])) := fun A E R s vs hr hg p => by
  induction p using RpAll.elimCons with
  | cons p q => cases q with
    | cons p' q =>
      induction q using RpAll.elimNil
      induction p using Rp.elimInt with
      | int t => cases p' with
        | int b u =>
          have e : (s.heap.push (TObj #[.int a t, .int b u] 0)).get? s.heap.objs.size = some (TObj (intItems #[(a, t), (b, u)]) 0) := by rw [show intItems #[(a, t), (b, u)] = #[.int a t, .int b u] from by simp [intItems]]; exact Heap.get?_push_size _ rfl
          have z : (s.heap.push (TObj #[.int a t, .int b u] 0)).objs.size = s.heap.objs.size + 1 := Heap.size_push _ _
          have hl : s.heap.objs.size ≠ (s.heap.push (TObj #[.int a t, .int b u] 0)).objs.size := by rw [Heap.size_push]; omega
          refine call_max_two (wpAny_pyIter_tuple (items := intItems #[(a, t), (b, u)]) ⟨_, e, rfl, _, rfl⟩ ?_)
          refine ⟨_, _, _, _, _, _, _, rfl, Walks.tuple (A := A.in1) hr.hh _ s.heap.objs.size hl (intItems #[(a, t), (b, u)]), ⟨⟨_, Heap.get?_push_size _ rfl, rfl, rfl⟩, ⟨_, kpush _ _ _ _ e, rfl, _, rfl⟩⟩, fun c hc => ?_, by simp [intItems], CmpOf.ints_gt (numAt #[(a, t), (b, u)]) (fun _ _ => intItems_at), fun v h' tk hP hk => ?_⟩
          · simp only [List.mem_cons, List.not_mem_nil, or_false] at hc
            rw [Heap.size_push]
            rcases hc with rfl | rfl
            · exact Nat.lt_succ_self _
            · rw [z]; exact Nat.lt_succ_of_lt (Nat.lt_succ_self _)
          · refine xE (best_max (xs := #[(a, t), (b, u)]) (by simp) (by simpa [intItems] using hP)) fun t zE2 => ?_
            subst zE2
            exact ⟨.of fun c o eb => hk c o (fun hm => by have := Heap.lt_size eb; rw [List.mem_singleton.mp hm, z] at this; exact absurd this (Nat.not_lt.mpr (Nat.le_succ _))) (kpush _ _ _ _ (kpush _ _ _ _ eb)), .int _ _⟩

theorem CallOk.listL {xs : List PyData} (h : xs.length ≤ sizeLine) : CallOk prog w Γ k (.type "list") [.list xs] (.list xs) := fun A E R s vs hr hg p => by
  induction p using RpAll.elimCons with
  | cons p q =>
    induction q using RpAll.elimNil
    cases p with
    | @list l us n _ hR e p =>
      refine call_list_seq l (.inl rfl) e rfl rfl (fun h' c' hk hO => ?_) (by have := p.length; simp at this; omega)
      exact ⟨.of hk, .list (.inr (fresh_size _)) hO ((p.mv (Nw.mv0 (s := s) s.heap)).mv (.keep hk))⟩

/-- a call of a type or builtin with one argument that is no told value -/
theorem callG1 {x px e pos v} {A : Around} {E : Value → Shared → Prop} {env : Env} {s : Shared} {Q : Value → Shared → Prop} (he : EnvOk sc env) (hg : Γ.In s.heap)
    (hx : sc.names.lookup x = some .globalImplicit) (hv : Γ.names.lookup x = some v) (hd : (x == ("__debug__" : Str)) = false) (hc : (∃ T, v = .type T) ∨ ∃ id, v = .builtin id) (hst : isStarred e = false)
    (h : ∀ E, wpAny (model prog w) A (eval e env) (fun a s₁ => wpAny (model prog w) A (call v [a]) Q E s₁) E s) :
    wpAny (model prog w) A (eval (.Call (.Name x px) [e] [] pos) env) Q E s := by
  refine Call_ (loadG he hg hx hv ?_ hd)
  have hse : starEach [e] env = [(false, eval e env)] := starOne hst
  have hpl := noStar [e] env pos (fun a ha => by rw [List.mem_singleton.mp ha]; exact hst)
  rw [hse] at hpl ⊢
  have key : ∀ (Q' : List Value → Shared → Prop) E, (wpAny (model prog w) A (eval e env) (fun a s₁ => Q' [a] s₁) E s) → wpAny (model prog w) A (spliced (backTo pos [(false, eval e env)])) Q' E s := fun Q' E hq => by
    have : wpAny (model prog w) A (spliced (backTo pos (starEach [e] env))) Q' E s := args_cons (wpAny_mono hq (fun a s₁ q => args_nil q) fun _ _ e => e) hse
    rw [hse] at this
    exact this
  have ev := fun (Q' : Args → Shared → Prop) E (hq : wpAny (model prog w) A (eval e env) (fun a s₁ => Q' ⟨[a], []⟩ s₁) E s) =>
    Calls.evalArgs_plain (M := model prog w) (A := A) (E := E) (s := s) (f := v) (Q := Q') (key _ E hq)
  rcases hc with ⟨T, rfl⟩ | ⟨id, rfl⟩
  · exact PyProof.Rows.callWith_type hpl (ev _ E (wpAny_mono (h E) (fun a s₁ q => by simpa using q) fun _ _ e => e))
  · exact Calls.callWith_builtin hpl (ev _ E (wpAny_mono (h E) (fun a s₁ q => by simpa using q) fun _ _ e => e))

theorem Ev.listRange {x px y py e p1 p2} {n : Nat} (hx : sc.names.lookup x = some .globalImplicit) (hv : Γ.names.lookup x = some (.type "list")) (hy : sc.names.lookup y = some .globalImplicit) (hw : Γ.names.lookup y = some (.type "range"))
    (h : Ev prog w Γ sc k σ e (.int (n : Int))) (hn : n ≤ 2 ^ 24) (hst : isStarred e = false := by rfl) (hd : (x == ("__debug__" : Str)) = false := by decide) (hd' : (y == ("__debug__" : Str)) = false := by decide) :
    Ev prog w Γ sc k σ (.Call (.Name x px) [.Call (.Name y py) [e] [] p1] [] p2) (.list ((List.range n).map fun i : Nat => PyData.int (i : Int))) := fun A E env R s hr he hg hs => by
  refine callG1 he hg hx hv hd (.inl ⟨_, rfl⟩) rfl fun E => ?_
  refine callG1 he hg hy hw hd' (.inl ⟨_, rfl⟩) hst fun E => wpAny_mono (h A E env R s hr he hg hs) (fun a s₁ ⟨x1, p1⟩ => ?_) fun _ _ e => e
  induction p1 using Rp.elimInt with
  | int t =>
    refine call_range_1 ?_
    refine call_list_range (n := n) hr.hh (Heap.get?_push_size _ rfl) (small_one (by decide) (by decide) (by omega) (by omega)) ?_ hn fun h' tk acc c' hk hO hI => ?_
    · have := @rangeSize_one 0 (n : Int)
      rw [this]; split <;> omega
    · have hk' : ∀ b o, s₁.heap.get? b = some o → h'.get? b = some o := fun b o e => hk b o (kpush _ _ _ _ e)
      refine ⟨x1.trans (.of (t := tk) hk'), .list (.inr (fresh_back (fun b o e => kpush _ _ _ _ (x1.keep b o e)) (fresh_size _))) hO ?_⟩
      refine xA (hI) fun h1 h2 => ?_
      try clear hI
      have key : ∀ (vs : List Value) (j : Nat), (∀ (i : Nat) (v : Value), vs[i]? = some v → ∃ t, v = Value.int ((j + i : Nat) : Int) t) → RpAll w (Nw R s) h' vs ((List.range' j vs.length).map fun i : Nat => PyData.int (i : Int)) := by
        intro vs
        induction vs with
        | nil => intro j _; exact .nil
        | cons v vs ih =>
          intro j hv
          refine xE (hv 0 v rfl) fun t zE3 => ?_
          subst zE3
          rw [List.length_cons, List.range'_succ, List.map_cons]
          refine .cons (by simpa using Rp.int _ _) (ih (j + 1) fun i u hu => ?_)
          refine xE (hv (i + 1) u (by simpa using hu)) fun t zE4 => ?_
          subst zE4
          exact ⟨t, by congr 2; omega⟩
      have := key acc.toList 0 fun i v hv => by
        obtain ⟨t, rfl⟩ := h2 i v (by rw [← Array.getElem?_toList]; exact hv)
        exact ⟨t, by congr 1; omega⟩
      rw [Array.length_toList, h1, ← List.range_eq_range'] at this
      exact this

/-- a loop that turns n times -/
theorem Sx.while_ {test body pos} (S : Nat → Sg × Sg) (n : Nat) (h0σ : ∀ x d, (S 0).1.lookup x = some d → σ.lookup x = some d) (h0ω : (S 0).2 = ω)
    (ht : ∀ i, i < n → Tr prog w Γ sc k ((S i).1 ++ (S i).2) test true) (he' : Tr prog w Γ sc k ((S n).1 ++ (S n).2) test false)
    (hb : ∀ i, i < n → Ss prog w Γ K sc k (S i).1 (S i).2 body (.next (S (i + 1)).1 (S (i + 1)).2)) :
    Sx prog w Γ K sc k σ ω (.While test body [] pos) (.next (S n).1 (S n).2) := fun A E env base R0 s hr he hg t => by
  refine wpAny_While (codeAny_whileLoop (fun kk s' => ∃ i, i ≤ n ∧ kk = n - i ∧ Post K w base R0 env sc ω s (.next (S i).1 (S i).2) .next s') (fun kk s' hI => ?_) n ⟨0, Nat.zero_le _, rfl, ?_⟩)
  · refine xEAA (hI) fun i hi zE5 hp => ?_
    try clear hI
    subst zE5
    have hp0 := hp
    refine xAAAAA (hp) fun _ zE6 kp lv rg kb => ?_
    try clear hp
    refine xE (zE6) fun R t' => ?_
    try clear zE6
    have t2 := t'.live
    by_cases hlt : i < n
    · refine wpAny_mono (ht i hlt A _ env _ s' hr he (t2.baseIn hg) t2.view) (fun b s₂ ⟨hb', x⟩ => ?_) fun _ _ e => e
      subst hb'
      rw [if_pos rfl]
      refine wpAny_mono (hb i hlt A _ env base R0 s₂ hr he hg ⟨_, t2.ex x⟩) (fun f s₃ hq => ?_) fun _ _ e => e
      have hq' := hq
      refine xA (hq) fun zE7 _ => ?_
      try clear hq
      subst zE7
      refine ⟨n - (i + 1), by omega, i + 1, hlt, rfl, ?_⟩
      refine Post.trans (kp.trans x.kp) (lv.trans x.live) (fun a ha => rg a (t2.roots_back (fun y u _ b => b.keep x.keep) ha)) (fun y hy u b => (kb y hy u b).keep x.keep) hq'
    · obtain rfl : i = n := by omega
      refine wpAny_mono (he' A _ env _ s' hr he (t2.baseIn hg) t2.view) (fun b s₂ ⟨hb', x⟩ => ?_) fun _ _ e => e
      subst hb'
      rw [if_neg Bool.false_ne_true]
      refine wpAny_execs_nil ⟨rfl, ⟨_, t2.ex x⟩, kp.trans x.kp, lv.trans x.live, fun a ha => rg a (t2.roots_back (fun y u _ b => b.keep x.keep) ha), fun y hy u b => (kb y hy u b).keep x.keep⟩
  · exact ⟨rfl, Sub.st h0σ (fun x d hx => by rw [← h0ω]; exact hx) t, .refl _ _, .refl _, fun a ha => .inl (h0ω ▸ ha), fun y _ u b => b⟩
end
end Mine

open PySem PySem.W PyProof.Rows
namespace Mine

section
variable {prog : Program} {w : World} {Γ : GEnv} {K : List Str} {sc : Scope} {k : Nat} {σ ω : Sg}

/-- a loop over a list that its own turns make longer -/
theorem Sx.forGrow {x : Str} {px target} {body : List Stmt} {pos : Pos} (Sσ Sω : Nat → Sg) (P : Nat → List PyData) (n : Nat) (hx : ∀ i, i ≤ n → (Sω i).lookup x = some (.list (P i)))
    (hturn : ∀ i, i < n → ∃ d τ, (P i)[i]? = some d ∧ Tgt prog w sc target d τ ∧ (∀ y ∈ x :: K, τ.lookup y = none) ∧ DisS (Sω i) τ ∧ Ss prog w Γ (x :: K) sc k (τ ++ Sσ i) (Sω i) body (.next (Sσ (i + 1)) (Sω (i + 1))))
    (hend : (P n).length ≤ n) (h0σ : SubS (Sσ 0) σ := by repeat (first | exact trivial | refine ⟨rfl, ?_⟩)) (h0ω : Sω 0 = ω := by rfl) (hd : (x == ("__debug__" : Str)) = false := by decide) (hn : (x == ("__classdict__" : Str)) = false := by decide) :
    Sx prog w Γ K sc k σ ω (.For target (.Name x px) body [] pos) (.next (Sσ n) (Sω n)) := fun A E env base R0 s hr he hg hs => by
  refine xE (hs) fun R t => ?_
  try clear hs
  refine xEEEAAA (t.rootList (x := x) (xs := P 0) (h0ω ▸ hx 0 (Nat.zero_le _))) fun a vs0 n0 bx hRa ea p0 => ?_
  refine xEAAAA (t.ow x _ (h0ω ▸ hx 0 (Nat.zero_le _))) fun a' bx' _ hOa' fba' _ => ?_
  obtain rfl : a = a' := by have := bx.fn bx'; cases this; rfl
  refine wpAny_For (loadBd he bx ?_ hd hn) (fun _ => rfl)
  refine wpAny_pyIter_list ⟨_, ea, rfl, _, rfl⟩ ?_
  have fz := fresh_size s.heap
  have fzb : base.heap.get? s.heap.objs.size = none := fresh_back t.keep fz
  have x₂ : Ex s { s with heap := s.heap.push { cls := .type "list_iterator", data := .fields #[.ref a, .int 0 0] } } := .push _ s.toks
  have t2 := t.ex x₂
  generalize hI : s.heap.objs.size = I at fz fzb
  have hit0 : (s.heap.push { cls := .type "list_iterator", data := .fields #[.ref a, .int 0 0] }).IsListIter I a 0 := by rw [← hI]; exact ⟨_, Heap.get?_push_size _ rfl, rfl, rfl⟩
  have aI : a ≠ I := fun q => by rw [q, fz] at ea; cases ea
  have IO : ¬ Own env sc I := fun q => by obtain ⟨o, e⟩ := t.fr.alive q; rw [fz] at e; cases e
  have IC : ∀ y c, env.cells.lookup y = some c → ¬ c = I := fun y c hy q => by obtain ⟨o, e⟩ := t.sr.cells y c hy; rw [q, fz] at e; cases e
  generalize hs2 : ({ s with heap := s.heap.push { cls := .type "list_iterator", data := .fields #[.ref a, .int 0 0] } } : Shared) = s₂ at x₂ t2
  have hit2 : s₂.heap.IsListIter I a 0 := by rw [← hs2]; exact hit0
  have Ial : (s₂.heap.get? I).isSome = true := by obtain ⟨o, e, _⟩ := hit2; rw [e]; rfl
  refine codeAny_forLoop_gen (fun kk s' => ∃ i, i ≤ n ∧ kk = n + 1 - i ∧ Same s₂ s' ∧ s'.heap.IsListIter I a i ∧ ST w base R0 env sc (Sσ i) (Sω i) s' ∧ Kp (fun b => Own env sc b ∨ Roots env ω s.heap b ∨ b = I) s₂.heap s'.heap ∧ Live s₂.heap s'.heap ∧
      (∀ b, Roots env (Sω i) s'.heap b → Roots env ω s.heap b ∨ s₂.heap.get? b = none) ∧ (∀ y ∈ K, ∀ u, Bd s.heap env y u → Bd s'.heap env y u) ∧ Bd s'.heap env x (.ref a)) ?_ (n + 1)
    ⟨0, Nat.zero_le _, rfl, .refl _, hit2, Sub.st (sub_of h0σ) (fun x d hx => by rw [← h0ω]; exact hx) ⟨_, t2⟩, .refl _ _, .refl _, fun b hb => .inl (t.roots_back (fun y u _ b => b.keep x₂.keep) (h0ω ▸ hb)), fun y _ u b => b.keep x₂.keep, bx.keep x₂.keep⟩
  rintro kk s₃ ⟨i, hi, rfl, sm₃, hit₃, ⟨Ri, ti⟩, kp₃, lv₃, rg₃, kbd₃, bx₃⟩ E'
  have IAt : ∀ b, b = I → ∃ o fs, s₃.heap.get? b = some o ∧ o.data = .fields fs := fun b q => by
    refine xEAA (hit₃) fun o e _ hd => ?_
    try clear hit₃
    subst q; exact ⟨o, _, e, hd⟩
  have wrB : ∀ b, b = I → base.heap.get? b = none := fun b q => by rw [q]; exact fzb
  refine xEEEAAA (ti.rootList (hx i hi)) fun a₃ us m b₃ hRa₃ e₃ p₃ => ?_
  obtain rfl : a = a₃ := by have := bx₃.fn b₃; cases this; rfl
  by_cases hlt : i < n
  · refine xEEAAAA (hturn i hlt) fun d τ hPd htg hτK hτ hbody => ?_
    refine xEA (p₃.get hPd) fun v hv pv => ?_
    refine wpAny_pyNext_list_item hit₃ ⟨_, e₃, rfl, _, rfl⟩ (x := v) (by simpa using hv) fun h' hit' hs' => ?_
    have kp₄ : Kp (fun b => b = I) s₃.heap h' := fun b o hb e => (hs'.2 b hb).trans e
    refine xEAA (id hit') fun oI eI hcI _ => ?_
    refine letGo_plain eI hcI (by decide) ?_
    refine xA (ti.iter (tk := s₃.toks) kp₄ IAt wrB IC) fun t₄ kb₄ => ?_
    have rb₄ : ∀ b, Roots env (Sω i) h' b → Roots env (Sω i) s₃.heap b := fun b q => ti.roots_back (s' := { s₃ with heap := h' }) (fun y u _ b => kb₄ y u b) q
    have lv₄ : Live s₃.heap h' := fun b o e => by
      by_cases q : b = I
      · exact ⟨oI, q ▸ eI⟩
      · exact ⟨o, kp₄ b o q e⟩
    have pv' : Rp w (fun b => Ri b ∧ SeqAt s₃.heap b) h' v d := pv.seq.mv (.kp kp₄ fun b hb q => by
      refine xEA (hb.2) fun o e hn => ?_
      refine xEEA (IAt b q) fun o' fs e' hd => ?_
      rw [e] at e'; cases e'; exact hn _ hd)
    refine wpAny_mono (htg A E' env _ { s₃ with heap := h' } v hr.hh he t₄.fr pv' fun b hb => (t₄.reg b hb).2) (fun _ s₆ ⟨sm₆, kp₆, fr₆, sg₆, kb₆⟩ => ?_) fun _ _ e => e
    have t₆ := t₄.tgt sm₆ kp₆ fr₆ sg₆ kb₆ (dis_of hτ)
    have rb₆ : ∀ b, Roots env (Sω i) s₆.heap b → Roots env (Sω i) h' b := fun b q => t₄.roots_back (fun y u hy b => let ⟨d, hy⟩ := hy; kb₆ y u (dis_of hτ y d hy) b) q
    have lv₆ : Live h' s₆.heap := fun b o e => by
      by_cases q : Own env sc b
      · exact fr₆.alive q
      · exact ⟨o, kp₆ b o q e⟩
    refine wpAny_mono (hbody A E' env base R0 s₆ hr he hg ⟨_, t₆⟩) (fun f s₇ hp => ?_) fun _ _ e => e
    refine xAAAAA (hp) fun zE1 t₇ kp₇ lv₇ rg₇ kbd₇ => ?_
    try clear hp
    subst zE1
    have lv26 : Live s₂.heap s₆.heap := lv₃.trans (lv₄.trans lv₆)
    have r62 : ∀ b, Roots env (Sω i) s₆.heap b → Roots env ω s.heap b ∨ s₂.heap.get? b = none := fun b q => rg₃ b (rb₄ b (rb₆ b q))
    have nI : ¬ (Own env sc I ∨ Roots env (Sω i) s₆.heap I) := fun q => q.elim IO fun q => by
      rcases r62 I q with q | q
      · obtain ⟨⟨o, e⟩, _⟩ := t.rootAlive q; rw [fz] at e; cases e
      · rw [q] at Ial; cases Ial
    refine ⟨n + 1 - (i + 1), by omega, i + 1, hlt, rfl, sm₃.trans ((Same.mk _ _).trans (sm₆.trans ?_)), ?_, t₇, fun b o hb e => ?_, lv26.trans lv₇, fun b hb => ?_, fun y hy u b => kbd₇ y (.tail _ hy) u (kb₆ y u (hτK y (.tail _ hy)) (kb₄ y u (kbd₃ y hy u b))), kbd₇ x (.head _) _ (kb₆ x _ (hτK x (.head _)) (kb₄ x _ bx₃))⟩
    · refine xE (t₇) fun R7 t7 => ?_
      try clear t₇
      refine xEE (t₆.same) fun h6 k6 e6 => ?_
      refine xEE (t7.same) fun h7 k7 e7 => ?_
      exact ⟨h7, k7, by rw [e7, e6]⟩
    · refine xEA (hit') fun o e r => ?_
      try clear hit'
      exact ⟨o, kp₇ _ _ nI (kp₆ _ _ IO e), r⟩
    · have e6 := kp₆ b o (fun q => hb (.inl q)) (kp₄ b o (fun q => hb (.inr (.inr q))) (kp₃ b o hb e))
      refine kp₇ b o (fun q => ?_) e6
      rcases q with q | q
      · exact hb (.inl q)
      · rcases r62 b q with q | q
        · exact hb (.inr (.inl q))
        · rw [q] at e; cases e
    · rcases rg₇ b hb with q | q
      · exact r62 b q
      · exact .inr (lv26.fresh q)
  · obtain rfl : i = n := by omega
    have hsz : us.size ≤ i := by
      have := p₃.length
      rw [Array.length_toList] at this
      rw [this]; exact hend
    refine wpAny_pyNext_list_end hr.hh hit₃ ⟨_, e₃, rfl, _, rfl⟩ (Array.getElem?_eq_none hsz) fun h₄ kp₄ => wpAny_execs_nil ?_
    have kp₄ : Kp (fun b => b = I) s₃.heap h₄ := fun b o hb e => kp₄ b o hb e
    refine xA (ti.iter (tk := s₃.toks) kp₄ IAt wrB IC) fun t₄ kb₄ => ?_
    refine ⟨rfl, ⟨_, t₄⟩, fun b o hb e => ?_, fun b o e => ?_, fun b hb => ?_, fun y hy u b => kb₄ y u (kbd₃ y hy u b)⟩
    · have nw : ¬ b = I := fun q => by rw [q, fz] at e; cases e
      exact kp₄ b o nw (kp₃ b o (fun q => q.elim (fun q => hb (.inl q)) fun q => q.elim (fun q => hb (.inr q)) nw) (x₂.keep _ _ e))
    · refine xE (lv₃ b o (x₂.keep _ _ e)) fun o' e' => ?_
      exact ⟨o', kp₄ b o' (fun q => by rw [q, fz] at e; cases e) e'⟩
    · rcases rg₃ b (ti.roots_back (s' := { s₃ with heap := h₄ }) (fun y u _ b => kb₄ y u b) hb) with q | q
      · exact .inl q
      · exact .inr (fresh_back x₂.keep q)
end
end Mine

open PySem PySem.W PyProof.Rows
set_option maxRecDepth 100000
namespace Mine

section
variable {prog : Program} {w : World} {A : Around} {E : Value → Shared → Prop} {s : Shared}

theorem list_no_keys : typeLookup (.type "list") "keys" = pure none := by rw [typeLookup_type, builtinLookup_eq_fast]; kernel_rfl

set_option maxHeartbeats 8000000 in
theorem keys_miss {a : Addr} {xs : Array Value} {k : Nat} {Q : Option Value → Shared → Prop} (hx : s.heap.get? a = some (LObj xs k)) (hA : A.handled = none)
    (h : ∀ h' tk, (∀ b o, s.heap.get? b = some o → h'.get? b = some o) → Q none { s with heap := h', toks := tk }) : wpAny (model prog w) A (getAttr? (.ref a) "keys") Q E s := by
  obtain ⟨hp, g, d, tk, os⟩ := s
  have hT : ∀ tk', (⟨hp, g, d, tk', os⟩ : Shared).TypeIs (.ref a) "list" := fun _ => ⟨_, hx, rfl⟩
  have f1 := sub_AttributeError
  have f3 := F.slot_list_getattribute.lookup
  have f4 := F.slot_list_getattribute.bind (.ref a)
  have f5 := am_list_getattr_none
  unfold getAttr? getAttrBy? getAttrBy
  repeat (any_goals (first | assumption | exact hT _ | ((with_reducible show wpAny _ _ (call (Value.builtin "list.__getattribute__") _ _) _ _ _); refine call_meets F.slot_list_getattribute (hT _) am_entry_list_getattribute (F.args_list_getattribute_2 _ _) (meets_getattribute_miss_list a xs k #[] "keys" _ list_no_keys (by decide) (by decide)) ⟨hx, hA, fun h' tk' e hx' => ?_⟩) | wp_step))
  refine xEE (hx'.there) fun t' u' he => ?_
  show wpAny _ _ (getattributeRaised _ _ _ _ _ _ _) _ _ _
  unfold getattributeRaised
  repeat (any_goals (first | assumption | wp_step))
  all_goals first | exact h _ _ hx'.of.keeps | skip
end
end Mine

open PySem PySem.W PyProof.Rows
set_option maxRecDepth 100000
namespace Mine

/-- a dict of whole-number keys may be set -/
noncomputable def isI : HK → Bool
  | .int _ => true
  | _ => false

section
variable {prog : Program} {w : World} {R : Addr → Prop} {h : Heap}

theorem Ents.toI : ∀ {ks es}, Ents w R h ks es → (∀ k ∈ ks, isI k = true) → ∃ ps : List (Int × Value), Pairs (intKind prog w) es ps ∧ ps.map (fun p => HK.int p.1) = ks ∧ (∀ e ∈ es, ∃ i, (intKind prog w).is i e.key = true ∧ e.hash = (intKind prog w).hash i) ∧ es.map (·.val) = ps.map (·.2) := by
  intro ks es x
  induction x with
  | nil => exact fun _ => ⟨[], .nil, rfl, fun e he => absurd he List.not_mem_nil, rfl⟩
  | @cons k v x ks es hk _ ih =>
    intro hall
    refine xEAAA (ih fun k hk => hall k (.tail _ hk)) fun ps h1 h2 h3 h4 => ?_
    have hki := hall k (.head _)
    cases hk with
    | int i t =>
      refine ⟨(i, x) :: ps, .cons (by simp [intKind, Value.isInt]) rfl h1, by rw [List.map_cons, h2], fun e he => ?_, by rw [List.map_cons, List.map_cons, h4]⟩
      rcases List.mem_cons.mp he with rfl | he
      · exact ⟨i, by simp [intKind, Value.isInt], rfl⟩
      · exact h3 e he
    | str _ _ => cases hki
    | t2 => cases hki
    | t3 => cases hki

theorem ents_ofI : ∀ {es : List DictEntry} {ps : List (Int × Value)}, Pairs (intKind prog w) es ps → (∀ e ∈ es, ∃ i, (intKind prog w).is i e.key = true ∧ e.hash = (intKind prog w).hash i) → Ents w R h (ps.map fun p => HK.int p.1) es ∧ es.map (·.val) = ps.map (·.2) := by
  intro es ps x
  induction x with
  | nil => exact fun _ => ⟨.nil, rfl⟩
  | @cons e kv es ps hk hv _ ih =>
    intro hall
    refine xA (ih fun e he => hall e (.tail _ he)) fun h1 h2 => ?_
    refine xEA (hall e (.head _)) fun i hi hh => ?_
    have := (intKind prog w).inj _ _ _ hi hk
    subst this
    refine xE (Value.isInt_shape hk) fun t ht => ?_
    obtain ⟨hash, key, val⟩ := e
    simp only at ht hh hv
    subst ht hh hv
    exact ⟨.cons (.int _ _) h1, by rw [List.map_cons, List.map_cons, h2]⟩

theorem stored_rp {i : Int} {v : Value} {x : PyData} (hv : Rp w R h v x) : ∀ {ps : List (Int × Value)} {kvs : KV}, ps.map (fun p => HK.int p.1) = kvs.map (·.1) → RpAll w R h (ps.map (·.2)) (kvs.map (·.2)) →
    RpAll w R h ((ps.map fun kv => if kv.1 = i then (kv.1, v) else kv).map (·.2)) ((kvs.map fun p => if p.1 = .int i then (p.1, x) else p).map (·.2)) ∧ ps.any (fun kv => decide (kv.1 = i)) = (kvs.lookup (.int i)).isSome
  | [], [], _, _ => ⟨.nil, rfl⟩
  | [], _ :: _, e, _ => by cases e
  | _ :: _, [], e, _ => by cases e
  | (j, u) :: ps, (k, y) :: kvs, e, r => by
    simp only [List.map_cons, List.cons.injEq] at e r
    obtain ⟨rfl, e⟩ := e
    cases r with
    | cons r0 r =>
      refine xA (stored_rp (i := i) hv e r) fun h1 h2 => ?_
      simp only [List.map_cons, List.any_cons, List.lookup_cons]
      by_cases q : j = i
      · subst q
        simp only [if_true, beq_self_eq_true, decide_true, Bool.true_or]
        exact ⟨.cons hv h1, rfl⟩
      · have q1 : HK.int j ≠ HK.int i := fun q' => q (by injection q')
        have q2 : (HK.int i == HK.int j) = false := beq_eq_false_iff_ne.mpr fun q' => q (by injection q' with q'; exact q'.symm)
        simp only [if_neg q, if_neg q1, q2, decide_eq_false q, Bool.false_or]
        exact ⟨.cons r0 h1, h2⟩
theorem stored_keys {i : Int} {v : Value} (ps : List (Int × Value)) : (ps.map fun kv => if kv.1 = i then (kv.1, v) else kv).map (fun p => HK.int p.1) = ps.map fun p => HK.int p.1 := by
  rw [List.map_map]; refine List.map_congr_left fun p _ => ?_
  simp only [Function.comp_apply]; split <;> rfl
end

section
variable {prog : Program} {w : World} {A : Around} {E : Value → Shared → Prop} {s : Shared} {R : Addr → Prop}

theorem dictSetI {d : Addr} {kvs : KV} {es n} {i : Int} {t : Tok} {v : Value} {x : PyData} {Q : Unit → Shared → Prop} (hd : DAt w R s.heap d kvs es n) (hv : Rp w R s.heap v x) (hRd : ¬ R d) (hall : ∀ p ∈ kvs, isI p.1 = true) (hsz : kvs.length ≤ sizeLine)
    (h : ∀ h' t es' n', Kp (fun b => b = d) s.heap h' → DAt w R h' d (dSet kvs (.int i) x) es' n' → Q () { s with heap := h', toks := t }) : wpAny (model prog w) A (dictSet d (.int i t) v) Q E s := by
  obtain ⟨ps, p1, p2, p3, p4⟩ := hd.ents.toI (prog := prog) fun k hk => by obtain ⟨p, hp, rfl⟩ := List.mem_map.mp hk; exact hall p hp
  have hl : ps.length = kvs.length := by have := congrArg List.length p2; simpa using this
  have hnd : (ps.map (·.1)).Nodup := by
    have := hd.nd
    rw [← p2] at this
    rw [show ps.map (fun p => HK.int p.1) = (ps.map (·.1)).map HK.int from by rw [List.map_map]; rfl] at this
    exact (List.pairwise_map.mp this).imp fun hab q => hab (congrArg HK.int q)
  refine wpAny_dictSet_pairs (knd := intKind prog w) (k := i) (by simp [intKind, Value.isInt]) ⟨_, _, _, hd.ob, ⟨rfl, rfl, rfl⟩, rfl, fun e he => p3 e (by simpa using he), p1, hnd⟩ (fun h' hm hs => ?_) (by omega)
  refine xEEEAAAAA (hm) fun o es' n' ho zE2 hdd hk hp hn => ?_
  try clear hm
  refine xAA (zE2) fun c1 c2 c3 => ?_
  try clear zE2
  obtain ⟨oc, od, odt, osl⟩ := o
  simp only at c1 c2 c3 hdd
  subst c1 c2 c3 hdd
  have mv : Mv R R s.heap h' := fun a o ha e' => ⟨ha, (hs.2 a fun q => hRd (q ▸ ha)).trans e'⟩
  have vals := hd.vals
  rw [p4] at vals
  refine xA (stored_rp (i := i) (hv.mv mv) p2 (vals.mv mv)) fun r1 r2 => ?_
  refine xA (ents_ofI (w := w) (R := R) (h := h') hp fun e he => hk e (by simpa using he)) fun e1 e2 => ?_
  have keys : (stored ps i v).map (fun p => HK.int p.1) = (dSet kvs (.int i) x).map (·.1) := by
    unfold stored dSet
    rw [r2]
    split
    · rw [stored_keys, put_keys, p2]
    · rw [List.map_append, List.map_append, p2]; rfl
  refine h h' _ es' n' (fun b o hb e => (hs.2 b hb).trans e) ⟨ho, keys ▸ e1, ?_, hd.ns, ?_⟩
  · rw [← keys, show (stored ps i v).map (fun p => HK.int p.1) = ((stored ps i v).map (·.1)).map HK.int from by rw [List.map_map]; rfl]
    exact hn.map _ fun a b hab q => hab (by injection q)
  · rw [e2]
    unfold stored dSet
    rw [r2]
    split
    · exact r1
    · rw [List.map_append, List.map_append]; exact (vals.mv mv).append (.cons (hv.mv mv) .nil)

/-- what keys may be set -/
noncomputable def SetOk (prog : Program) (w : World) (good : HK → Bool) : Prop := ∀ {A : Around} {E : Value → Shared → Prop} {s : Shared} {R : Addr → Prop} {d : Addr} {kvs : KV} {es n} {k : HK} {kv : Value} {v : Value} {x : PyData} {Q : Unit → Shared → Prop}, A.units + 9 < cLine →
  DAt w R s.heap d kvs es n → KIs R s.heap k kv → Rp w R s.heap v x → ¬ R d → good k = true → (∀ p ∈ kvs, good p.1 = true) → kvs.length ≤ sizeLine →
  (∀ h' t es' n', Kp (fun b => b = d) s.heap h' → DAt w R h' d (dSet kvs k x) es' n' → Q () { s with heap := h', toks := t }) → wpAny (model prog w) A (dictSet d kv v) Q E s
theorem SetOk.int : SetOk prog w isI := fun hu hd hk hv hRd hg hall hsz h => by
  cases hk with
  | int i t => exact dictSetI hd hv hRd hall hsz h
  | str _ _ => cases hg
  | t2 => cases hg
  | t3 => cases hg

noncomputable def dOf (pr : KV) : KV := pr.foldl (fun acc p => dSet acc p.1 p.2) []
theorem dSet_good {good : HK → Bool} {kvs : KV} {k : HK} {x : PyData} (h : ∀ p ∈ kvs, good p.1 = true) (hk : good k = true) : ∀ p ∈ dSet kvs k x, good p.1 = true := by
  intro p hp
  unfold dSet at hp
  split at hp
  · refine xEA (List.mem_map.mp hp) fun q hq zE3 => ?_
    subst zE3
    split <;> exact h q hq
  · rcases List.mem_append.mp hp with hp | hp
    · exact h p hp
    · rw [List.mem_singleton.mp hp]; exact hk
theorem dSet_len (kvs : KV) (k : HK) (x : PyData) : (dSet kvs k x).length ≤ kvs.length + 1 := by unfold dSet; split <;> simp
theorem dOf_succ {pr : KV} {i : Nat} {p : HK × PyData} (h : pr[i]? = some p) : dOf (pr.take (i + 1)) = dSet (dOf (pr.take i)) p.1 p.2 := by
  unfold dOf; rw [List.take_add_one, h, List.foldl_append]; rfl
theorem dOf_inv {good : HK → Bool} {pr : KV} (h : ∀ p ∈ pr, good p.1 = true) : ∀ i, (∀ p ∈ dOf (pr.take i), good p.1 = true) ∧ (dOf (pr.take i)).length ≤ i
  | 0 => ⟨nofun, Nat.le_refl _⟩
  | i + 1 => by
    refine xA (dOf_inv h i) fun h1 h2 => ?_
    cases hi : pr[i]? with
    | none => rw [List.take_add_one, hi]; simp only [Option.toList_none, List.append_nil]; exact ⟨h1, Nat.le_succ_of_le h2⟩
    | some p =>
      rw [dOf_succ hi]
      exact ⟨dSet_good h1 (h p (List.mem_of_getElem? hi)), Nat.le_trans (dSet_len _ _ _) (Nat.succ_le_succ h2)⟩
noncomputable def prD (p : HK × PyData) : PyData := .tuple [p.1.py, p.2]

theorem plain_upd_loop : plainId "dict.update.loop" = true := by decide +kernel
theorem entry_upd_loop : entryFor table "dict.update.loop" = some Builtin.«dict.update.loop» := entryFor_of_tree (by kernel_rfl)

theorem upd_loop {good : HK → Bool} (hset : SetOk prog w good) {pr : KV} (hg : ∀ p ∈ pr, good p.1 = true) (hz : pr.length ≤ sizeLine) (hh : A.handled = none) (hu : A.units + 20 < cLine) {l I d : Addr} {vs : Array Value} {n : Nat} {Rd : Addr → Prop} {res : Value} {R : Result → Shared → Prop}
    (hlI : l ≠ I) (hld : l ≠ d) (hdI : d ≠ I) (hRI : ¬ Rd I) (hRd : ¬ Rd d) : ∀ (m i : Nat) (s : Shared), i + m = pr.length → s.heap.IsListIter I l i → s.heap.get? l = some (LObj vs n) → RpAll w Rd s.heap vs.toList (pr.map prD) → (∃ es c, DAt w Rd s.heap d (dOf (pr.take i)) es c) →
      (∀ h' tk, Kp (fun b => b = I ∨ b = d) s.heap h' → (∃ es c, DAt w Rd h' d (dOf pr) es c) → R (.ok (.ret res)) { s with heap := h', toks := tk }) →
      codeAny (model prog w) A (.builtin "dict.update.loop" ⟨[.ref d, .ref I, .int (i : Nat) 0, res], []⟩) R s := by
  intro m
  induction m with
  | zero =>
    intro i s hi hit hl hp hd hR
    refine codeAny_builtin entry_upd_loop ?_
    rw [Around.under_plainId plain_upd_loop _]
    have hle : pr.length ≤ i := by omega
    refine wpAny_bind (wpAny_pyNext_list_end hh hit ⟨_, hl, rfl, _, rfl⟩ (Array.getElem?_eq_none (by have := hp.length; simp at this; omega)) fun h' kp => ?_)
    have kp : Kp (fun b => b = I) s.heap h' := fun b o hb e => kp b o hb e
    show wpAny _ _ (Builtin.Dict.addKeywords d [] >>= _) _ _ _
    refine wpAny_bind (wpAny_pure (wpAny_pure ?_))
    obtain ⟨es, c, hd⟩ := hd
    rw [List.take_of_length_le hle] at hd
    exact hR h' s.toks (kp.mono fun _ => .inl) ⟨es, c, hd.mv (.kp kp fun a ha q => hRI (q ▸ ha)) (kp _ _ hdI hd.ob)⟩
  | succ m ih =>
    intro i s hi hit hl hp hd hR
    obtain ⟨p, hpi⟩ : ∃ p, pr[i]? = some p := ⟨_, List.getElem?_eq_getElem (by omega)⟩
    obtain ⟨v, hv, pv⟩ := hp.get (i := i) (d := prD p) (by rw [List.getElem?_map, hpi]; rfl)
    refine codeAny_builtin entry_upd_loop ?_
    rw [Around.under_plainId plain_upd_loop _]
    refine wpAny_bind (wpAny_pyNext_list_item hit ⟨_, hl, rfl, _, rfl⟩ (x := v) (by simpa using hv) fun h' hit' hs' => ?_)
    have kp : Kp (fun b => b = I) s.heap h' := fun b o hb e => (hs'.2 b hb).trans e
    have mv : Mv Rd Rd s.heap h' := .kp kp fun a ha q => hRI (q ▸ ha)
    have pv' := pv.mv mv
    obtain ⟨es, c, hd⟩ := hd
    have hd' : DAt w Rd h' d (dOf (pr.take i)) es c := hd.mv mv (kp _ _ hdI hd.ob)
    refine xA (dOf_inv hg i) fun g1 g2 => ?_
    unfold prD at pv'
    cases pv' with
    | @tuple a us k _ hRa ea pa =>
      have hus : ∃ kv xv, us = #[kv, xv] ∧ Rp w Rd h' kv p.1.py ∧ Rp w Rd h' xv p.2 := by
        obtain ⟨us⟩ := us
        cases pa with
        | cons q1 pa => cases pa with
          | cons q2 pa => cases pa; exact ⟨_, _, rfl, q1, q2⟩
      refine xEEAA (hus) fun kv xv zE4 q1 q2 => ?_
      try clear hus
      subst zE4
      refine wpAny_bind (wpAny_holding (wpAny_bind (wpAny_tryCatch ?_)))
      show wpAny _ _ (typeOf (.ref a) >>= _) _ _ _
      refine wpAny_bind (wpAny_typeOf (T := "tuple") ⟨_, ea, rfl⟩ ?_)
      rw [if_pos (by decide)]
      refine wpAny_bind (wpAny_seqItems ea rfl (wpAny_pure ?_))
      show wpAny _ _ (holding [kv, xv] (dictSet d kv xv)) _ _ _
      refine wpAny_holding (hset (by show A.units + 1 + 9 < cLine; omega) hd' (q1.kis) q2 hRd (hg p (List.mem_of_getElem? hpi)) g1 (by omega) fun h2 tk es' c' kp2 dd => ?_)
      refine wpAny_pure ⟨plainId_quiet plain_upd_loop _, ?_⟩
      have mv2 : Mv Rd Rd h' h2 := .kp kp2 fun a ha q => hRd (q ▸ ha)
      refine ih (i + 1) _ (by omega) ?_ (kp2 _ _ hld (kp _ _ hlI hl)) ((hp.mv mv).mv mv2) ⟨es', c', by rw [dOf_succ hpi]; exact dd⟩ fun h3 tk3 kp3 dd3 => hR h3 tk3 (fun b o hb e => kp3 b o hb (kp2 b o (fun q => hb (.inr q)) (kp b o (fun q => hb (.inl q)) e))) dd3
      refine xEA (hit') fun o eo r => ?_
      try clear hit'
      exact ⟨o, kp2 _ _ (fun q => hdI q.symm) eo, r⟩
end
end Mine

open PySem PySem.W PyProof.Rows
set_option maxRecDepth 100000
namespace Mine

section
variable {prog : Program} {w : World} {Γ : GEnv} {sc : Scope} {k : Nat} {σ : Sg}

/-- dict(list of pairs) -/
theorem dict_raw {good : HK → Bool} (hset : SetOk prog w good) {pr : KV} (hgd : ∀ p ∈ pr, good p.1 = true) (hz : pr.length ≤ sizeLine) {A : Around} {E : Value → Shared → Prop} {R : Addr → Prop} {s : Shared} {v : Value} {Q : Value → Shared → Prop} (hr : Room k A) (hg : Γ.In s.heap) (p : Rp w R s.heap v (.list (pr.map prD)))
    (hQ : ∀ h' tk es c, (∀ b o, s.heap.get? b = some o → h'.get? b = some o) → DAt w (fun a => R a ∧ (s.heap.get? a).isSome = true) h' s.heap.objs.size (dOf pr) es c → Q (.ref s.heap.objs.size) { s with heap := h', toks := tk }) :
    wpAny (model prog w) A (call (.type "dict") [v]) Q E s := by
  cases p.live with
  | @list l vs n _ hR e p =>
    have fz := fresh_size s.heap
    refine callType_codes (Q₁ := fun obj s₁ => obj = .ref s.heap.objs.size ∧ s₁ = { s with heap := s.heap.push { cls := .type "dict", data := .dict #[] } }) F.kt_called_dict (F.kt_typeCall_dict_1 _) F.entry_dict_init (kt_code_dict_new _ ⟨rfl, rfl⟩) ?_
    rintro obj s₁ ⟨rfl, rfl⟩
    have hd0 : (s.heap.push { cls := .type "dict", data := .dict #[] }).get? s.heap.objs.size = some (DObj #[] 0) := Heap.get?_push_size _ rfl
    refine ⟨⟨_, hd0, rfl⟩, F.args_dict_init_2 _ _, ?_⟩
    unfold Builtin.«dict.__init__»
    refine wpAny_bind ?_
    unfold Builtin.Dict.selfAndRest
    refine wpAny_bind (wpAny_notOrdered_dict ⟨_, hd0, rfl⟩ ?_)
    show wpAny _ _ (pure (s.heap.objs.size, [Value.ref l])) _ _ _
    refine wpAny_pure ?_
    show wpAny _ _ (Builtin.Dict.updateFrom "dict.__init__" s.heap.objs.size (.ref l) [] .none) _ _ _
    unfold Builtin.Dict.updateFrom
    have k1 := kpush s.heap { cls := .type "dict", data := .dict #[] }
    refine wpAny_bind (wpAny_typeOf (T := "list") ⟨_, k1 _ _ e, rfl⟩ ?_)
    rw [if_pos (by decide)]
    refine wpAny_bind (keys_miss (k1 _ _ e) hr.hh fun h2 tk2 k2 => ?_)
    simp only [Option.isNone_none, if_true]
    refine wpAny_bind (wpAny_rule (wpAny_bind (wpAny_pyIter_list ⟨_, k2 _ _ (k1 _ _ e), rfl, _, rfl⟩ ?_)))
    have k3 := kpush h2 { cls := .type "list_iterator", data := .fields #[.ref l, .int 0 0] }
    have kk : ∀ b o, s.heap.get? b = some o → (h2.push { cls := .type "list_iterator", data := .fields #[.ref l, .int 0 0] }).get? b = some o := fun b o e => k3 b o (k2 b o (k1 b o e))
    have fI : h2.get? h2.objs.size = none := fresh_size h2
    refine wpAny_pure ⟨plainId_quiet plain_upd_loop _, upd_loop (A := A.in1) hset hgd hz hr.hh (by have := hr.u; show A.units + 1 + 20 < cLine; omega) (l := l) (I := h2.objs.size) (d := s.heap.objs.size) (vs := vs) (n := n) (Rd := fun a => R a ∧ (s.heap.get? a).isSome = true) (res := .none) ?_ ?_ ?_ ?_ ?_ pr.length 0 _ (by omega) ⟨_, Heap.get?_push_size _ rfl, rfl, rfl⟩ (kk _ _ e) (p.mv fun a o ha e => ⟨ha, kk _ _ e⟩) ⟨#[], 0, ((DAt.new hg.nolimit).mv (.keep fun b o e => k3 b o (k2 b o e)) (k3 _ _ (k2 _ _ hd0)))⟩ fun h' tk kp dd => ?_⟩
    · intro q; have := k2 _ _ (k1 _ _ e); rw [q, fI] at this; cases this
    · intro q; rw [q, fz] at e; cases e
    · intro q; have := k2 _ _ hd0; rw [q, fI] at this; cases this
    · rintro ⟨_, q⟩
      refine xE (Option.isSome_iff_exists.mp q) fun o eo => ?_
      have := k2 _ _ (k1 _ _ eo); rw [fI] at this; cases this
    · rintro ⟨_, q⟩; rw [fz] at q; cases q
    · obtain ⟨es, c, dd⟩ := dd
      refine ⟨rfl, hQ h' tk es c (fun b o eb => kp b o (fun q => ?_) (kk b o eb)) dd⟩
      rcases q with rfl | rfl
      · have := k2 _ _ (k1 _ _ eb); rw [fI] at this; cases this
      · rw [fz] at eb; cases eb
theorem CallOk.dictPr {good : HK → Bool} (hset : SetOk prog w good) {pr : KV} (hgd : ∀ p ∈ pr, good p.1 = true) (hz : pr.length ≤ sizeLine) : CallOk prog w Γ k (.type "dict") [.list (pr.map prD)] (dictD (dOf pr)) := fun A E R s vs hr hg p => by
  induction p using RpAll.elimCons with
  | cons p q =>
    induction q using RpAll.elimNil
    refine dict_raw hset hgd hz hr hg p fun h' tk es c k' dd => ⟨.of k', (dd.mv (Mv.sub fun a ha => .inl ha.1) dd.ob).rp (.inr (fresh_size _))⟩

/-- a dict as a source of its keys -/
theorem src_dict {d : Addr} {es : Array DictEntry} {c : Nat} (hd : d ≠ sysModules) : KdlSrc prog w "dict" d d es.size (fun i v => ∃ e, es[i]? = some e ∧ v = e.key) (fun h => h.get? d = some (DObj es c)) where
  type := fun _ e => ⟨_, e, rfl⟩
  there := fun _ e => ⟨Heap.lt_size e, Heap.lt_size e⟩
  keep := fun _ _ e k => k d (.inl rfl) _ e
  notList := by decide
  notTuple := by decide
  hint := fun _ _ _ _ e q => kdl_hint_dict ⟨_, e, rfl⟩ q
  iter := fun A s hh e => by
    have hdI : d ≠ s.heap.objs.size := Nat.ne_of_lt (Heap.lt_size e)
    refine ⟨{ cls := .type "dict_keyiterator", data := .fields #[.ref d, .int 0 0, .int es.size 0, .int c 0] }, fun i h => KeyIt h s.heap.objs.size d i es.size c ∧ h.get? d = some (DObj es c), fun E Q hQ => dictIter_raw hd e hQ, ?_, Heap.get?_push_size _ rfl, kpush _ _ _ _ e⟩
    generalize s.heap.objs.size = I at hdI ⊢
    exact {
      sub := fun b hb => by simp at hb; simp [hb]
      frame := fun _ _ _ st hk => ⟨hk I (by simp) _ st.1, hk d (by simp) _ st.2⟩
      item := fun i s' Q E hi st hQ => by
        obtain ⟨x, hx⟩ : ∃ x, es[i]? = some x := ⟨es[i], by simp [hi]⟩
        exact next_KeyIt st.1 st.2 hx fun h' hit kp => hQ x.key h' s'.toks ⟨x, hx, rfl⟩ ⟨hit, kp _ _ hdI st.2⟩ fun b o hb e => kp b o (fun q => hb (by simp [q])) e
      done := fun s' Q E st hQ => end_KeyIt hh st.1 st.2 (Nat.le_refl _) fun h' he' => hQ h' s'.toks fun b o hb e => he' b o (fun q => hb (by simp [q])) e
      self := fun i s' Q E st hQ => wpAny_pyIter_keyiter (i := i) (n := es.size) (ep := c) (d := d) ⟨_, st.1, rfl, rfl⟩ hQ }

theorem items_keys {es : Array DictEntry} {acc : Array Value} (h : ItemsOf (fun i v => ∃ e, es[i]? = some e ∧ v = DictEntry.key e) acc es.size) : acc.toList = es.toList.map (·.key) := by
  refine xA (h) fun h1 h2 => ?_
  try clear h
  refine List.ext_getElem? fun i => ?_
  rw [List.getElem?_map, Array.getElem?_toList, Array.getElem?_toList]
  by_cases q : i < es.size
  · obtain ⟨v, hv⟩ : ∃ v, acc[i]? = some v := ⟨acc[i]'(by omega), by simp [h1, q]⟩
    refine xEA (h2 i v hv) fun e he zE1 => ?_
    subst zE1
    rw [hv, he]; rfl
  · rw [Array.getElem?_eq_none (by omega), Array.getElem?_eq_none (by omega)]; rfl
theorem Ents.keysRp {w : World} {R : Addr → Prop} {h : Heap} : ∀ {ks es}, Ents w R h ks es → RpAll w R h (es.map (·.key)) (ks.map HK.py) := by
  intro ks es x
  induction x with
  | nil => exact .nil
  | cons hk _ ih => exact .cons hk.rp ih

end
end Mine

open PySem PySem.W PyProof.Rows
set_option maxRecDepth 100000
namespace Mine

section
variable {prog : Program} {w : World} {Γ : GEnv} {k : Nat} {A : Around} {E : Value → Shared → Prop} {s : Shared}

end
end Mine

open PySem PySem.W PyProof.Rows
namespace Mine

/-- plain data: places, pairs of places, rows of places -/
noncomputable abbrev NP := Nat × Nat
noncomputable def nI (n : Nat) : PyData := .int (n : Int)
noncomputable def cI (p : NP) : Int × Int := ((p.1 : Int), (p.2 : Int))
noncomputable def pN (p : NP) : PyData := pD (cI p)
noncomputable def lN (l : List Nat) : PyData := .list (l.map nI)
noncomputable def lP (l : List NP) : PyData := .list (l.map pN)
noncomputable def inN (x : Nat) (ys : List Nat) : Bool := ys.any fun y => Nat.beq y x
noncomputable def eqP (x y : NP) : Bool := Nat.beq x.1 y.1 && Nat.beq x.2 y.2
noncomputable def inP (x : NP) (ys : List NP) : Bool := ys.any fun y => eqP y x
noncomputable def mn (a b : Nat) : Nat := if Nat.ble a b then a else b
noncomputable def mx (a b : Nat) : Nat := if Nat.ble a b then b else a
noncomputable def ord (a b : Nat) : NP := (mn a b, mx a b)
noncomputable def adj (ties : List NP) (a b : Nat) : Bool := inP (ord a b) ties

theorem map_pN (l : List NP) : l.map pN = (l.map cI).map pD := by rw [List.map_map]; rfl
theorem map_nI (l : List Nat) : l.map nI = (l.map (fun n : Nat => (n : Int))).map .int := by rw [List.map_map]; rfl
theorem cI_inj {x y : NP} (h : cI x = cI y) : x = y := by
  obtain ⟨a, b⟩ := x; obtain ⟨c, d⟩ := y
  simp only [cI, Prod.mk.injEq] at h
  simp only [Prod.mk.injEq]; omega
theorem nat_beq (a b : Nat) : Nat.beq a b = decide (a = b) := by
  by_cases h : a = b
  · subst h; simp
  · rw [decide_eq_false h]; exact Bool.eq_false_iff.mpr fun q => h (Nat.eq_of_beq_eq_true q)
theorem eqP_iff {x y : NP} : eqP x y = true ↔ x = y := by
  obtain ⟨a, b⟩ := x; obtain ⟨c, d⟩ := y
  simp [eqP, nat_beq]
theorem eqP_decide (x y : NP) : eqP x y = decide (x = y) := by
  by_cases h : x = y
  · rw [decide_eq_true h]; exact eqP_iff.mpr h
  · rw [decide_eq_false h, Bool.eq_false_iff]; exact fun q => h (eqP_iff.mp q)
theorem inP_iff {x : NP} {ys : List NP} : inP x ys = true ↔ x ∈ ys := by
  unfold inP
  rw [List.any_eq_true]
  exact ⟨fun ⟨y, hy, e⟩ => eqP_iff.mp e ▸ hy, fun h => ⟨x, h, eqP_iff.mpr rfl⟩⟩
theorem inP_cI (x : NP) (ys : List NP) : decide (cI x ∈ ys.map cI) = inP x ys := by
  by_cases h : x ∈ ys
  · rw [inP_iff.mpr h]; exact decide_eq_true (List.mem_map_of_mem h)
  · rw [Bool.eq_false_iff.mpr fun q => h (inP_iff.mp q)]
    refine decide_eq_false fun q => ?_
    refine xEA (List.mem_map.mp q) fun y hy e => ?_
    exact h (cI_inj e ▸ hy)
theorem inN_iff {x : Nat} {ys : List Nat} : inN x ys = true ↔ x ∈ ys := by
  unfold inN
  rw [List.any_eq_true]
  simp [nat_beq]
theorem inN_eqv (x : Nat) (ys : List Nat) : (ys.map nI).any (fun y => PyData.eqv y (nI x)) = inN x ys := by
  unfold inN
  rw [List.any_map]
  congr 1
  funext y
  simp only [Function.comp_apply, nI, PyData.eqv, nat_beq]
  by_cases h : y = x
  · subst h; simp
  · rw [decide_eq_false h]; simp; omega
theorem mn_eq (a b : Nat) : imin [(a : Int), (b : Int)] = (mn a b : Nat) := by
  show min (a : Int) (b : Int) = _
  unfold mn
  by_cases h : a ≤ b
  · rw [if_pos (Nat.ble_eq.mpr h)]; omega
  · rw [if_neg (fun q => h (Nat.ble_eq.mp q))]; omega
theorem mx_eq (a b : Nat) : imax [(a : Int), (b : Int)] = (mx a b : Nat) := by
  show max (a : Int) (b : Int) = _
  unfold mx
  by_cases h : a ≤ b
  · rw [if_pos (Nat.ble_eq.mpr h)]; omega
  · rw [if_neg (fun q => h (Nat.ble_eq.mp q))]; omega
theorem sz' {n : Nat} (h : n ≤ 100000) : n ≤ sizeLine := Nat.le_trans h (by decide)
theorem lay_nI (l : List Nat) : PyData.canLayAll0 (l.map nI) = true := by rw [map_nI]; exact (lay_ints _).1
theorem scalar_nI (l : List Nat) : (l.map nI).all Scalar = true := by rw [List.all_map, List.all_eq_true]; exact fun _ _ => rfl
theorem filterMap_ite {α : Type} (p : α → Bool) (f : α → PyData) : ∀ l : List α, l.filterMap (fun x => if p x = true then some (f x) else none) = (l.filter p).map f
  | [] => rfl
  | x :: l => by
    rw [List.filterMap_cons, List.filter_cons, filterMap_ite p f l]
    cases p x <;> rfl
theorem ite_isSome (c : Bool) (y : PyData) : (if c = true then some y else none).isSome = c := by cases c <;> rfl
theorem ite_get {c : Bool} {y z : PyData} (h : (if c = true then some y else none) = some z) : z = y := by
  cases c with
  | true => cases h; rfl
  | false => cases h

/-- a run of steps: none is a fault, some none is the end -/
noncomputable def iter {α : Type} (step : α → Option (Option α)) : Nat → α → Option α
  | 0, _ => none
  | f + 1, a => match step a with
    | none => none
    | some none => some a
    | some (some b) => iter step f b
theorem iter_seq {α : Type} {step : α → Option (Option α)} : ∀ {f : Nat} {a z : α}, iter step f a = some z → ∃ (n : Nat) (P : Nat → α), n ≤ f ∧ P 0 = a ∧ P n = z ∧ step z = some none ∧ ∀ i, i < n → step (P i) = some (some (P (i + 1)))
  | 0, _, _, h => nomatch h
  | f + 1, a, z, h => by
    unfold iter at h
    split at h
    · cases h
    · have zC := Option.some.inj h
      clear h
      subst zC
      exact ⟨0, fun _ => a, Nat.zero_le _, rfl, rfl, by assumption, nofun⟩
    · rename_i b hb
      refine xEEAAAA (iter_seq h) fun n P hn h0 hz he hs => ?_
      refine ⟨n + 1, fun i => match i with | 0 => a | i + 1 => P i, Nat.succ_le_succ hn, rfl, hz, he, fun i hi => ?_⟩
      cases i with
      | zero => show step a = some (some (P 0)); rw [hb, h0]
      | succ i => exact hs i (by omega)

section
variable {prog : Program} {w : World} {Γ : GEnv} {sc : Scope} {k : Nat} {σ : Sg}
theorem CmpOk.notInNs {x : Nat} {ys : List Nat} : CmpOk prog w k .NotIn (nI x) (lN ys) (!inN x ys) := by
  rw [← inN_eqv]
  exact CmpOk.notInL (lay_nI ys) rfl (by simp [nI, PyData.depth])
theorem CmpOk.inPs {x : NP} {ys : List NP} : CmpOk prog w k .In (pN x) (lP ys) (inP x ys) := by
  have := CmpOk.inPairs (prog := prog) (w := w) (k := k) (x := cI x) (ys := ys.map cI)
  rw [inP_cI, ← map_pN] at this
  exact this
theorem CmpOk.eqN {a b : Nat} : CmpOk prog w k .Eq (nI a) (nI b) (Nat.beq a b) := CmpOk.eqI' (by rw [nat_beq]; by_cases h : a = b <;> simp [h]; omega)
theorem CmpOk.neN {a b : Nat} : CmpOk prog w k .NotEq (nI a) (nI b) (!Nat.beq a b) := CmpOk.neI' (by rw [nat_beq]; by_cases h : a = b <;> simp [h]; omega)
theorem CmpOk.ltN {a b : Nat} : CmpOk prog w k .Lt (nI a) (nI b) (Nat.blt a b) := by
  have := CmpOk.ltI (prog := prog) (w := w) (k := k) (a := (a : Int)) (b := (b : Int))
  rw [show decide ((a : Int) < (b : Int)) = Nat.blt a b from by rw [Bool.eq_iff_iff, decide_eq_true_iff, Nat.blt_eq]; omega] at this
  exact this
theorem CmpOk.gtN {a b : Nat} : CmpOk prog w k .Gt (nI a) (nI b) (Nat.blt b a) := by
  have := CmpOk.gtI (prog := prog) (w := w) (k := k) (a := (a : Int)) (b := (b : Int))
  rw [show decide ((a : Int) > (b : Int)) = Nat.blt b a from by rw [Bool.eq_iff_iff, decide_eq_true_iff, Nat.blt_eq]; omega] at this
  exact this
theorem CmpOk.neNil' {xs : List PyData} (h : PySem.SeqAt.shaped (.list xs) = true) {b : Bool} (hb : xs.isEmpty = b) : CmpOk prog w k .NotEq (.list xs) (.list []) (!b) := hb ▸ CmpOk.neNil h
theorem CmpOk.eqNil {xs : List PyData} (h : PySem.SeqAt.shaped (.list xs) = true) : CmpOk prog w k .Eq (.list xs) (.list []) xs.isEmpty := by
  have := CmpOk.eq (prog := prog) (w := w) (k := k) h (b := .list []) rfl
  rw [show PyData.eqv (.list xs) (.list []) = xs.isEmpty from by cases xs <;> simp [PyData.eqv, PyData.eqvAll]] at this
  exact this
theorem shaped_nI (l : List Nat) : PySem.SeqAt.shaped (lN l) = true := by unfold lN; rw [map_nI]; exact shaped_ints _
theorem Ev.nil {pos} : Ev prog w Γ sc k σ (.List [] pos) (.list []) := (EvF.nil).ev
theorem Ev.idx {value slice pos} {xs : List PyData} {d : PyData} {i : Nat} (h1 : Ev prog w Γ sc k σ value (.list xs)) (h2 : Ev prog w Γ sc k σ slice (nI i)) (h : xs[i]? = some d) (hz : xs.length ≤ 100000)
    (hs : ∀ o iv, subscripted slice false o iv = operate [o, iv] (getItem o iv) := by intro _ _; with_unfolding_all rfl) : Ev prog w Γ sc k σ (.Subscript value slice pos) d := by
  have hi := (List.getElem?_eq_some_iff.mp h).1
  exact Ev.sub h1 h2 (SubOk.list (by omega) (by omega) (by rw [Int.toNat_natCast]; exact h)) hs

/-- two calls of the least and the most -/
structure MM (Γ : GEnv) (sc : Scope) : Prop where
  hMin : Γ.names.lookup ("min" : Str) = some (.builtin "min")
  hMax : Γ.names.lookup ("max" : Str) = some (.builtin "max")
  sMin : sc.names.lookup ("min" : Str) = some .globalImplicit
  sMax : sc.names.lookup ("max" : Str) = some .globalImplicit
theorem Ev.ordE {e1 e2 e3 e4 p1 p2 p3 p4 m pos} {a b : Nat} (G : MM Γ sc) (h1 : Ev prog w Γ sc k σ e1 (nI a)) (h2 : Ev prog w Γ sc k σ e2 (nI b)) (h3 : Ev prog w Γ sc k σ e3 (nI a)) (h4 : Ev prog w Γ sc k σ e4 (nI b))
    (s1 : ∀ env r, starEach (e1 :: r) env = (false, eval e1 env) :: starEach r env := by intro _ _; rfl) (s2 : ∀ env r, starEach (e2 :: r) env = (false, eval e2 env) :: starEach r env := by intro _ _; rfl)
    (s3 : ∀ env r, starEach (e3 :: r) env = (false, eval e3 env) :: starEach r env := by intro _ _; rfl) (s4 : ∀ env r, starEach (e4 :: r) env = (false, eval e4 env) :: starEach r env := by intro _ _; rfl)
    (t1 : ∀ a ∈ [e1, e2], isStarred a = false := by simp [isStarred]) (t2 : ∀ a ∈ [e3, e4], isStarred a = false := by simp [isStarred]) :
    Ev prog w Γ sc k σ (.Tuple [.Call (.Name "min" p1) [e1, e2] [] p2, .Call (.Name "max" p3) [e3, e4] [] p4] m pos) (pN (ord a b)) := by
  unfold pN pD cI ord
  refine Ev.tuple (.cons (Ev.call G.sMin G.hMin (.builtin _) (.cons h1 (.cons h2 .nil fun env => s2 env _) fun env => s1 env _) ?_ t1) (.cons (Ev.call G.sMax G.hMax (.builtin _) (.cons h3 (.cons h4 .nil fun env => s4 env _) fun env => s3 env _) ?_ t2) .nil)) (by show 2 ≤ sizeLine; decide)
  · rw [← mn_eq]; exact CallOk.min2
  · rw [← mx_eq]; exact CallOk.max2
end
end Mine

open PySem PySem.W PyProof.Rows
namespace Mine

section
variable {prog : Program} {w : World} {Γ : GEnv} {K : List Str} {sc : Scope} {k : Nat} {σ ω : Sg}

theorem EvF.list {elts pos ds} (h : Evs prog w Γ sc k σ elts ds) (hl : ds.length ≤ sizeLine := by decide) : EvF prog w Γ sc k σ (.List elts pos) (.list ds) := fun A E env R s hr he hg hs =>
  wpAny_List_spliced (wpAny_mono (h A E env R s pos hr he hg hs) (fun vs s' ⟨x, p⟩ => ⟨by rw [p.length]; exact hl, x.trans (Ex.push _ _), _, rfl, fresh_back x.keep (fresh_size _), .inl ⟨_, _, _, rfl, Heap.get?_push_size _ rfl, by
    simpa using p.live.mv fun a o ha e => ⟨⟨ha.1, fun q => by rw [q, fresh_size] at e; cases e⟩, kpush _ _ _ _ e⟩⟩⟩) fun _ _ e => e)
theorem Tr.and2 {x y pos a b} (h : Tr prog w Γ sc k σ x a) (h2 : a = true → Tr prog w Γ sc k σ y b) : Tr prog w Γ sc k σ (.BoolOp .And [x, y] pos) (a && b) := by
  refine Tr.and h fun q => ?_
  have := Tr.and (h2 q) (fun _ => Tr.and_nil (pos := pos))
  rwa [Bool.and_true] at this
end

/-- what hangs together with a first place -/
noncomputable def growStep (left : List Nat) (ties : List NP) : Nat × List Nat → Option (Option (Nat × List Nat)) := fun a =>
  match a.2[a.1]? with
  | none => some none
  | some h => some (some (a.1 + 1, a.2 ++ left.filter fun t => !inN t a.2 && adj ties h t))
noncomputable def pieceOf (left : List Nat) (ties : List NP) (x : Nat) : Option (List Nat) := (iter (growStep left ties) 20 (0, [x])).map (·.2)
theorem growSeq {left : List Nat} {ties : List NP} {x : Nat} {q : List Nat} (h : pieceOf left ties x = some q) :
    ∃ (n : Nat) (P : Nat → List Nat), n ≤ 20 ∧ P 0 = [x] ∧ P n = q ∧ q.length ≤ n ∧ (∀ i, i ≤ n → (P i).length ≤ 1 + i * left.length) ∧ ∀ i, i < n → ∃ y, (P i)[i]? = some y ∧ P (i + 1) = P i ++ left.filter fun t => !inN t (P i) && adj ties y t := by
  refine xEA (Option.map_eq_some_iff.mp h) fun z hz zE1 => ?_
  subst zE1
  refine xEEAAAA (iter_seq hz) fun n P hn h0 hz he hs => ?_
  have hi : ∀ i, i ≤ n → (P i).1 = i := by
    intro i
    induction i with
    | zero => intro _; rw [h0]
    | succ i ih =>
      intro hi
      have hp := hs i hi
      have h1 := ih (by omega)
      unfold growStep at hp
      split at hp
      · cases hp
      · rw [h1] at hp
        have := Option.some.inj (Option.some.inj hp)
        rw [← this]
  have st : ∀ i, i < n → ∃ y, (P i).2[i]? = some y ∧ (P (i + 1)).2 = (P i).2 ++ left.filter fun t => !inN t (P i).2 && adj ties y t := fun i h => by
    have hp := hs i h
    unfold growStep at hp
    rw [hi i (by omega)] at hp
    split at hp
    · cases hp
    · rename_i y hy
      exact ⟨y, hy, by rw [← Option.some.inj (Option.some.inj hp)]⟩
  refine ⟨n, fun i => (P i).2, hn, congrArg Prod.snd h0, congrArg Prod.snd hz, ?_, ?_, st⟩
  · unfold growStep at he
    rw [← hz, hi n (Nat.le_refl _)] at he
    split at he
    · rename_i q
      rw [← hz]; exact List.getElem?_eq_none_iff.mp q
    · cases he
  · intro i
    induction i with
    | zero => intro _; show (P 0).2.length ≤ _; rw [h0]; simp
    | succ i ih =>
      intro h
      refine xEA (st i h) fun y _ e => ?_
      have h1 := ih (by omega)
      have h2 := List.length_filter_le (fun t => !inN t (P i).2 && adj ties y t) left
      simp only [e, List.length_append, Nat.succ_mul] at h1 ⊢
      omega
end Mine

open PySem PySem.W PyProof.Rows
namespace Mine

theorem lookup_none_of {α : Type} {k : HK} : ∀ {l : List (HK × α)}, k ∉ l.map (·.1) → l.lookup k = none
  | [], _ => rfl
  | (k', v) :: l, h => by
    simp only [List.map_cons, List.mem_cons, not_or] at h
    rw [List.lookup_cons, beq_eq_false_iff_ne.mpr h.1]
    exact lookup_none_of h.2
theorem dSet_new {kvs : KV} {k : HK} {x : PyData} (h : k ∉ kvs.map (·.1)) : dSet kvs k x = kvs ++ [(k, x)] := by
  unfold dSet; rw [lookup_none_of h]; rfl
noncomputable def dedN (xs : List Nat) : List Nat := xs.foldl (fun acc x => if inN x acc = true then acc else acc ++ [x]) []
theorem same_set {kvs : KV} {k : HK} {x : PyData} (hx : ∀ p ∈ kvs, p.2 = x) : kvs.map (fun p => if p.1 = k then (p.1, x) else p) = kvs := by
  rw [List.map_congr_left (g := id) fun p hp => ?_, List.map_id]
  obtain ⟨a, b⟩ := p
  have := hx _ hp
  simp only at this
  subst this
  simp
theorem lookup_some_of {k : HK} : ∀ {kvs : KV}, k ∈ kvs.map (·.1) → (kvs.lookup k).isSome = true
  | [], h => nomatch h
  | (k', v) :: l, h => by
    rw [List.lookup_cons]
    cases q : k == k' with
    | true => rfl
    | false =>
      simp only [List.map_cons, List.mem_cons] at h
      exact lookup_some_of (h.resolve_left fun e => by rw [e, beq_self_eq_true] at q; cases q)
theorem dOf_same {α : Type} {key : α → HK} {mem : α → List α → Bool} (hinj : ∀ {x y}, key x = key y → x = y) (hmem : ∀ {x l}, mem x l = true ↔ x ∈ l) (v : PyData) : ∀ (xs acc : List α),
    (xs.map fun x => (key x, v)).foldl (fun (acc : KV) p => dSet acc p.1 p.2) (acc.map fun x => (key x, v)) = (xs.foldl (fun acc x => if mem x acc = true then acc else acc ++ [x]) acc).map fun x => (key x, v)
  | [], _ => rfl
  | x :: xs, acc => by
    rw [List.map_cons, List.foldl_cons, List.foldl_cons]
    have hk : ((acc.map fun x => (key x, v)).map (·.1)) = acc.map key := by rw [List.map_map]; rfl
    by_cases h : x ∈ acc
    · rw [if_pos (hmem.mpr h)]
      have hs : dSet (acc.map fun x => (key x, v)) (key x) v = acc.map fun x => (key x, v) := by
        unfold dSet
        rw [if_pos (lookup_some_of (by rw [hk]; exact List.mem_map_of_mem h))]
        exact same_set fun p hp => by obtain ⟨_, _, rfl⟩ := List.mem_map.mp hp; rfl
      rw [hs]
      exact dOf_same hinj hmem v xs acc
    · rw [if_neg fun q => h (hmem.mp q), dSet_new (by rw [hk]; intro q; obtain ⟨y, hy, e⟩ := List.mem_map.mp q; exact h (hinj e ▸ hy))]
      have := dOf_same hinj hmem v xs (acc ++ [x])
      rw [List.map_append] at this
      exact this
theorem dOf_dedN (v : PyData) (xs : List Nat) : dOf (xs.map fun x : Nat => (HK.int x, v)) = (dedN xs).map fun x : Nat => (HK.int x, v) := dOf_same (key := fun x : Nat => HK.int x) (mem := inN) (fun h => by injection h with h; omega) inN_iff v xs []
theorem ded_len {α : Type} (mem : α → List α → Bool) : ∀ (xs acc : List α), (xs.foldl (fun acc x => if mem x acc = true then acc else acc ++ [x]) acc).length ≤ acc.length + xs.length
  | [], acc => Nat.le_refl _
  | x :: xs, acc => by
    rw [List.foldl_cons]
    split
    · have := ded_len mem xs acc; simp only [List.length_cons]; omega
    · have := ded_len mem xs (acc ++ [x]); simp only [List.length_append, List.length_cons, List.length_nil] at *; omega

section
variable {prog : Program} {w : World} {Γ : GEnv} {k : Nat}
end
end Mine

open PySem PySem.W PyProof.Rows
namespace Mine

theorem isEmpty_filter {α : Type} (p : α → Bool) (l : List α) : (l.filter p).isEmpty = !l.any p := by
  induction l with
  | nil => rfl
  | cons x l ih => rw [List.filter_cons, List.any_cons]; cases p x <;> simp [ih]
theorem isEmpty_mapD {α : Type} (f : α → PyData) (l : List α) : (l.map f).isEmpty = l.isEmpty := by cases l <;> rfl

section
variable {prog : Program} {w : World} {Γ : GEnv} {sc sc' : Scope} {k : Nat} {σ : Sg}

theorem EvF.filtE {α : Type} (xs : List α) (f : α → PyData) (g : α → PyData) (p : α → Bool) {x : Str} {px elt iter test pos} {T : Expr → Prop} (hit : It prog w Γ sc k σ iter T (xs.map f)) (hT : T (.Name x px)) (hz : xs.length ≤ 100000)
    (ht : ∀ a ∈ xs, Tr prog w Γ sc' k ((x, f a) :: capt sc sc' σ) test (p a)) (he : ∀ a ∈ xs, p a = true → Ev prog w Γ sc' k ((x, f a) :: capt sc sc' σ) elt (g a))
    (hx : sc'.names.lookup x = some .local ∨ sc'.names.lookup x = some .cell := by first | exact .inl (by decide) | exact .inr (by decide)) (hdis : ∀ d, DisS (capt sc sc' σ) [(x, d)] := by intro _; repeat (first | exact trivial | refine ⟨rfl, ?_⟩)) (hsc : scOk sc sc' = true := by decide)
    (hset : ∀ env x, foldedSetIterable iter env x = pure x := by intro _ _; rfl) :
    EvF prog w Γ sc k σ (.ListComp elt [⟨.Name x px, iter, [test], 0⟩] sc' pos) (.list ((xs.filter p).map g)) := by
  rw [← filterMap_ite]
  refine EvF.comp1 xs f (fun a => if p a = true then some (g a) else none) hit hT (fun a ha => ⟨_, Tgt.name hx, hdis _, ?_, fun y hy => ?_⟩) (sz' hz) hsc hset
  · rw [ite_isSome]; exact Tests.one (ht a ha)
  · cases q : p a with
    | true => rw [q] at hy; cases hy; exact he a ha q
    | false => rw [q] at hy; cases hy
theorem EvF.filt1 {α : Type} (xs : List α) (f : α → PyData) (p : α → Bool) {x : Str} {px pe iter test pos} {T : Expr → Prop} (hit : It prog w Γ sc k σ iter T (xs.map f)) (hT : T (.Name x px)) (hz : xs.length ≤ 100000)
    (ht : ∀ a ∈ xs, Tr prog w Γ sc' k ((x, f a) :: capt sc sc' σ) test (p a))
    (hx : sc'.names.lookup x = some .local ∨ sc'.names.lookup x = some .cell := by first | exact .inl (by decide) | exact .inr (by decide)) (hdis : ∀ d, DisS (capt sc sc' σ) [(x, d)] := by intro _; repeat (first | exact trivial | refine ⟨rfl, ?_⟩)) (hsc : scOk sc sc' = true := by decide)
    (hd : (x == ("__debug__" : Str)) = false := by decide) (hn : (x == ("__classdict__" : Str)) = false := by decide)
    (hset : ∀ env x, foldedSetIterable iter env x = pure x := by intro _ _; rfl) :
    EvF prog w Γ sc k σ (.ListComp (.Name x pe) [⟨.Name x px, iter, [test], 0⟩] sc' pos) (.list ((xs.filter p).map f)) :=
  EvF.filtE xs f f p hit hT hz ht (fun a _ _ => Ev.name (by rw [List.lookup_cons, beq_self_eq_true]) hd hn) hx hdis hsc hset
theorem EvF.mapE {α : Type} (xs : List α) (f : α → PyData) (g : α → PyData) {x : Str} {px elt iter pos} {T : Expr → Prop} (hit : It prog w Γ sc k σ iter T (xs.map f)) (hT : T (.Name x px)) (hz : xs.length ≤ 100000)
    (he : ∀ a ∈ xs, Ev prog w Γ sc' k ((x, f a) :: capt sc sc' σ) elt (g a))
    (hx : sc'.names.lookup x = some .local ∨ sc'.names.lookup x = some .cell := by first | exact .inl (by decide) | exact .inr (by decide)) (hdis : ∀ d, DisS (capt sc sc' σ) [(x, d)] := by intro _; repeat (first | exact trivial | refine ⟨rfl, ?_⟩)) (hsc : scOk sc sc' = true := by decide)
    (hset : ∀ env x, foldedSetIterable iter env x = pure x := by intro _ _; rfl) :
    EvF prog w Γ sc k σ (.ListComp elt [⟨.Name x px, iter, [], 0⟩] sc' pos) (.list (xs.map g)) := by
  rw [← fm_some]
  exact EvF.comp1 xs f (fun a => some (g a)) hit hT (fun a ha => ⟨_, Tgt.name hx, hdis _, Tests.nil, fun y hy => by cases hy; exact he a ha⟩) (sz' hz) hsc hset
/-- all of the two loops' items that pass -/
theorem EvF.filt2 {α β : Type} (xs : List α) (f : α → PyData) (p : α → Bool) (ys : α → List β) (fy : β → PyData) (q : α → β → Bool) (g : α → β → PyData) {x y : Str} {px py elt iter iter2 pos} {ifs ifs2 : List Expr} {T T2 : Expr → Prop} (hit : It prog w Γ sc k σ iter T (xs.map f)) (hT : T (.Name x px))
    (hz : (xs.flatMap fun a => if p a = true then ((ys a).filter (q a)).map (g a) else []).length ≤ 100000)
    (ht : ∀ a ∈ xs, Tests prog w Γ sc' k ((x, f a) :: capt sc sc' σ) ifs (p a)) (hit2 : ∀ a ∈ xs, p a = true → It prog w Γ sc' k ((x, f a) :: capt sc sc' σ) iter2 T2 ((ys a).map fy)) (hT2 : T2 (.Name y py))
    (ht2 : ∀ a ∈ xs, p a = true → ∀ b ∈ ys a, Tests prog w Γ sc' k ((y, fy b) :: (x, f a) :: capt sc sc' σ) ifs2 (q a b)) (he : ∀ a ∈ xs, p a = true → ∀ b ∈ ys a, q a b = true → Ev prog w Γ sc' k ((y, fy b) :: (x, f a) :: capt sc sc' σ) elt (g a b))
    (hx : sc'.names.lookup x = some .local ∨ sc'.names.lookup x = some .cell := by first | exact .inl (by decide) | exact .inr (by decide)) (hy : sc'.names.lookup y = some .local ∨ sc'.names.lookup y = some .cell := by first | exact .inl (by decide) | exact .inr (by decide))
    (hdis : ∀ d, DisS (capt sc sc' σ) [(x, d)] := by intro _; repeat (first | exact trivial | refine ⟨rfl, ?_⟩)) (hdis2 : ∀ c d, DisS ((x, c) :: capt sc sc' σ) [(y, d)] := by intro _ _; repeat (first | exact trivial | refine ⟨rfl, ?_⟩)) (hsc : scOk sc sc' = true := by decide)
    (hset : ∀ env x, foldedSetIterable iter env x = pure x := by intro _ _; rfl) (hset2 : ∀ env x, foldedSetIterable iter2 env x = pure x := by intro _ _; rfl) :
    EvF prog w Γ sc k σ (.ListComp elt [⟨.Name x px, iter, ifs, 0⟩, ⟨.Name y py, iter2, ifs2, 0⟩] sc' pos) (.list (xs.flatMap fun a => if p a = true then ((ys a).filter (q a)).map (g a) else [])) := by
  refine EvF.comp2 xs f _ hit hT (fun a ha => ⟨_, p a, Tgt.name hx, hdis _, ht a ha, fun h => by rw [if_neg (by rw [h]; exact Bool.false_ne_true)], fun h => ?_⟩) (sz' hz) hsc hset hset2
  rw [if_pos h]
  refine ⟨β, ys a, fy, fun b => if q a b = true then some (g a b) else none, T2, hit2 a ha h, hT2, fun b hb => ⟨_, Tgt.name hy, hdis2 _ _, ?_, fun z hz => ?_⟩, (filterMap_ite _ _ _).symm⟩
  · rw [ite_isSome]; exact ht2 a ha h b hb
  · simp only at hz
    cases e : q a b with
    | true => rw [e] at hz; cases hz; exact he a ha h b hb e
    | false => rw [e] at hz; cases hz
/-- [x for x in xs if ...] == [] -/
theorem CmpOk.eqNone {α : Type} (xs : List α) (f : α → PyData) (p : α → Bool) (hsh : ∀ l : List α, PySem.SeqAt.shaped (.list (l.map f)) = true) : CmpOk prog w k .Eq (.list ((xs.filter p).map f)) (.list []) (!xs.any p) := by
  have := CmpOk.eqNil (prog := prog) (w := w) (k := k) (hsh (xs.filter p))
  rwa [isEmpty_mapD, isEmpty_filter] at this
theorem Ev.noneE {α : Type} (xs : List α) (f : α → PyData) (p : α → Bool) (hsh : ∀ l : List α, PySem.SeqAt.shaped (.list (l.map f)) = true) {x : Str} {px pe iter test pos p1 p2} {T : Expr → Prop} (hit : It prog w Γ sc k σ iter T (xs.map f)) (hT : T (.Name x px)) (hz : xs.length ≤ 100000)
    (ht : ∀ a ∈ xs, Tr prog w Γ sc' k ((x, f a) :: capt sc sc' σ) test (p a))
    (hx : sc'.names.lookup x = some .local ∨ sc'.names.lookup x = some .cell := by first | exact .inl (by decide) | exact .inr (by decide)) (hdis : ∀ d, DisS (capt sc sc' σ) [(x, d)] := by intro _; repeat (first | exact trivial | refine ⟨rfl, ?_⟩)) (hsc : scOk sc sc' = true := by decide)
    (hd : (x == ("__debug__" : Str)) = false := by decide) (hn : (x == ("__classdict__" : Str)) = false := by decide)
    (hset : ∀ env x, foldedSetIterable iter env x = pure x := by intro _ _; rfl) :
    Ev prog w Γ sc k σ (.Compare (.ListComp (.Name x pe) [⟨.Name x px, iter, [test], 0⟩] sc' pos) [.Eq] [.List [] p1] p2) (.bool (!xs.any p)) :=
  Ev.cmp (EvF.ev (EvF.filt1 xs f p hit hT hz ht hx hdis hsc hd hn hset)) Ev.nil (CmpOk.eqNone xs f p hsh)
theorem Ev.call2 {x px e1 e2 pos v d1 d2 d} (hx : sc.names.lookup x = some .globalImplicit) (hv : Γ.names.lookup x = some v) (hc : Callee Γ v) (h1 : Ev prog w Γ sc k σ e1 d1) (h2 : Ev prog w Γ sc k σ e2 d2) (h : CallOk prog w Γ k v [d1, d2] d)
    (s1 : ∀ env r, starEach (e1 :: r) env = (false, eval e1 env) :: starEach r env := by intro _ _; rfl) (s2 : ∀ env r, starEach (e2 :: r) env = (false, eval e2 env) :: starEach r env := by intro _ _; rfl)
    (hst : ∀ a ∈ [e1, e2], isStarred a = false := by simp [isStarred]) (hd : (x == ("__debug__" : Str)) = false := by decide) :
    Ev prog w Γ sc k σ (.Call (.Name x px) [e1, e2] [] pos) d :=
  Ev.call hx hv hc (.cons h1 (.cons h2 .nil fun env => s2 env _) fun env => s1 env _) h hst hd
theorem Ev.call1 {x px e1 pos v d1 d} (hx : sc.names.lookup x = some .globalImplicit) (hv : Γ.names.lookup x = some v) (hc : Callee Γ v) (h1 : Ev prog w Γ sc k σ e1 d1) (h : CallOk prog w Γ k v [d1] d)
    (s1 : ∀ env r, starEach (e1 :: r) env = (false, eval e1 env) :: starEach r env := by intro _ _; rfl)
    (hst : ∀ a ∈ [e1], isStarred a = false := by simp [isStarred]) (hd : (x == ("__debug__" : Str)) = false := by decide) :
    Ev prog w Γ sc k σ (.Call (.Name x px) [e1] [] pos) d :=
  Ev.call hx hv hc (.cons h1 .nil fun env => s1 env _) h hst hd
theorem Ev.tup2 {e1 e2 n pos d1 d2} (h1 : Ev prog w Γ sc k σ e1 d1) (h2 : Ev prog w Γ sc k σ e2 d2) (s1 : ∀ env r, starEach (e1 :: r) env = (false, eval e1 env) :: starEach r env := by intro _ _; rfl) (s2 : ∀ env r, starEach (e2 :: r) env = (false, eval e2 env) :: starEach r env := by intro _ _; rfl) :
    Ev prog w Γ sc k σ (.Tuple [e1, e2] n pos) (.tuple [d1, d2]) :=
  Ev.tuple (.cons h1 (.cons h2 .nil fun env => s2 env _) fun env => s1 env _) (by show 2 ≤ sizeLine; decide)
end
theorem enumD_eq (xs : List PyData) (d : PyData) : enumD xs = (List.range xs.length).map fun k : Nat => PyData.tuple [.int (k : Int), xs.getD k d] := by
  unfold enumD
  refine List.ext_getElem? fun i => ?_
  rw [List.getElem?_mapIdx, List.getElem?_map]
  by_cases h : i < xs.length
  · rw [List.getElem?_eq_getElem h, List.getElem?_range h]; simp [List.getD, List.getElem?_eq_getElem h]
  · rw [List.getElem?_eq_none (by omega), List.getElem?_eq_none (by simpa using h)]; rfl
end Mine

open PySem PySem.W PyProof.Rows
namespace Mine

/-- a number for a pair, and a number for a lot of pairs -/
noncomputable def codeP (a b : Nat) : Nat := Nat.shiftLeft (2 * b + 1) a
noncomputable def tb (M c : Nat) : Bool := Nat.beq (Nat.land (Nat.shiftRight M c) 1) 1
noncomputable def maskOf (ties : List NP) : Nat := ties.foldl (fun m p => Nat.lor m (Nat.shiftLeft 1 (codeP p.1 p.2))) 0
noncomputable def adjM (M a b : Nat) : Bool := if Nat.ble a b = true then tb M (codeP a b) else tb M (codeP b a)

theorem odd_pow : ∀ (a c b d : Nat), (2 * b + 1) * 2 ^ a = (2 * d + 1) * 2 ^ c → a = c ∧ b = d
  | 0, 0, b, d, h => by simp at h; omega
  | 0, c + 1, b, d, h => by rw [Nat.pow_succ, ← Nat.mul_assoc] at h; simp only [Nat.pow_zero, Nat.mul_one] at h; omega
  | a + 1, 0, b, d, h => by rw [Nat.pow_succ, ← Nat.mul_assoc] at h; simp only [Nat.pow_zero, Nat.mul_one] at h; omega
  | a + 1, c + 1, b, d, h => by
    rw [Nat.pow_succ, Nat.pow_succ, ← Nat.mul_assoc, ← Nat.mul_assoc] at h
    refine xA (odd_pow a c b d (Nat.eq_of_mul_eq_mul_right (by decide) h)) fun h1 h2 => ?_
    exact ⟨by rw [h1], h2⟩
theorem codeP_eq (a b : Nat) : codeP a b = (2 * b + 1) * 2 ^ a := Nat.shiftLeft_eq _ _
theorem codeP_inj {a b c d : Nat} (h : codeP a b = codeP c d) : a = c ∧ b = d := by rw [codeP_eq, codeP_eq] at h; exact odd_pow _ _ _ _ h
theorem tb_eq (M c : Nat) : tb M c = M.testBit c := by
  unfold tb
  rw [nat_beq, Nat.testBit_eq_decide_div_mod_eq]
  show decide ((M >>> c) &&& 1 = 1) = _
  rw [Nat.and_one_is_mod, Nat.shiftRight_eq_div_pow]
theorem maskOf_tb (ties : List NP) (a b : Nat) : ∀ m : Nat, (ties.foldl (fun m p => Nat.lor m (Nat.shiftLeft 1 (codeP p.1 p.2))) m).testBit (codeP a b) = (m.testBit (codeP a b) || inP (a, b) ties) := by
  induction ties with
  | nil => intro m; simp [inP]
  | cons p ties ih =>
    intro m
    rw [List.foldl_cons, ih]
    show ((m ||| 1 <<< codeP p.1 p.2).testBit (codeP a b) || inP (a, b) ties) = _
    rw [Nat.testBit_or, show inP (a, b) (p :: ties) = (eqP p (a, b) || inP (a, b) ties) from rfl, Bool.or_assoc]
    congr 2
    rw [Nat.one_shiftLeft, Nat.testBit_two_pow, eqP_decide]
    obtain ⟨c, d⟩ := p
    by_cases h : codeP c d = codeP a b
    · obtain ⟨rfl, rfl⟩ := codeP_inj h; simp
    · rw [decide_eq_false h, decide_eq_false]; intro q; cases q; exact h rfl
theorem adj_eq (ties : List NP) (a b : Nat) : adj ties a b = adjM (maskOf ties) a b := by
  unfold adj adjM ord mn mx
  by_cases h : Nat.ble a b = true
  · rw [if_pos h, if_pos h, if_pos h, tb_eq]; unfold maskOf; rw [maskOf_tb]; simp
  · rw [if_neg h, if_neg h, if_neg h, tb_eq]; unfold maskOf; rw [maskOf_tb]; simp

noncomputable def growM (left : List Nat) (M : Nat) : Nat × List Nat → Option (Option (Nat × List Nat)) := fun a =>
  match a.2[a.1]? with
  | none => some none
  | some h => some (some (a.1 + 1, a.2 ++ left.filter fun t => adjM M h t && !inN t a.2))
noncomputable def pieceM (left : List Nat) (M : Nat) (x : Nat) : Option (List Nat) := (iter (growM left M) 20 (0, [x])).map (·.2)
theorem piece_eq (left : List Nat) (ties : List NP) (x : Nat) : pieceOf left ties x = pieceM left (maskOf ties) x := by
  have : growStep left ties = growM left (maskOf ties) := by
    funext a
    unfold growStep growM
    cases a.2[a.1]? with
    | none => rfl
    | some h => simp only [adj_eq, Bool.and_comm]
  unfold pieceOf pieceM
  rw [this]

/-- values made plain before they are used -/
noncomputable def f1 (x : Nat) (K : Nat → Bool) : Bool := match x with
  | 0 => K 0
  | 1 => K 1
  | 2 => K 2
  | 3 => K 3
  | 4 => K 4
  | 5 => K 5
  | 6 => K 6
  | n => K n
theorem f1_eq (x : Nat) (K : Nat → Bool) : f1 x K = K x := by unfold f1; split <;> rfl
noncomputable def fP (p : NP) (K : NP → Bool) : Bool := match p with
  | (a, b) => f1 a fun a => f1 b fun b => K (a, b)
theorem fP_eq (p : NP) (K : NP → Bool) : fP p K = K p := by obtain ⟨a, b⟩ := p; simp only [fP, f1_eq]
noncomputable def fL {α : Type} (f : α → (α → Bool) → Bool) : List α → (List α → Bool) → Bool
  | [], K => K []
  | x :: r, K => f x fun x => fL f r fun r => K (x :: r)
theorem fL_eq {α : Type} {f : α → (α → Bool) → Bool} (h : ∀ x K, f x K = K x) : ∀ (l : List α) (K : List α → Bool), fL f l K = K l
  | [], _ => rfl
  | x :: r, K => by unfold fL; rw [h, fL_eq h r]
end Mine

open PySem PySem.W PyProof.Rows
namespace Mine

/-! forms by the recursors alone: the kernel turns them quickest -/
noncomputable def bR {α : Type} (c : Bool) (t f : α) : α := Bool.rec f t c
noncomputable def oR {α β : Type} (o : Option α) (n : β) (s : α → β) : β := Option.rec n s o
noncomputable def filtR {α : Type} (p : α → Bool) (l : List α) : List α := List.rec [] (fun x _ ih => bR (p x) (x :: ih) ih) l
noncomputable def anyR {α : Type} (p : α → Bool) (l : List α) : Bool := List.rec false (fun x _ ih => bR (p x) true ih) l
noncomputable def appR {α : Type} (l m : List α) : List α := List.rec m (fun x _ ih => x :: ih) l
noncomputable def nthR {α : Type} (l : List α) : Nat → Option α := List.rec (fun _ => none) (fun x _ ih i => Nat.rec (some x) (fun j _ => ih j) i) l
noncomputable def iterR {α : Type} (step : α → Option (Option α)) (f : Nat) : α → Option α := Nat.rec (fun _ => none) (fun _ ih a => oR (step a) none fun r => oR r (some a) ih) f
noncomputable def inR (x : Nat) (l : List Nat) : Bool := anyR (fun y => Nat.beq y x) l
noncomputable def adjR (M a b : Nat) : Bool := bR (Nat.ble a b) (tb M (codeP a b)) (tb M (codeP b a))
theorem filtR_eq {α : Type} (p : α → Bool) : ∀ l : List α, filtR p l = l.filter p
  | [] => rfl
  | x :: l => by
    show bR (p x) (x :: filtR p l) (filtR p l) = _
    rw [List.filter_cons, filtR_eq p l]
    cases p x <;> rfl
theorem anyR_eq {α : Type} (p : α → Bool) : ∀ l : List α, anyR p l = l.any p
  | [] => rfl
  | x :: l => by
    show bR (p x) true (anyR p l) = _
    rw [List.any_cons, anyR_eq p l]
    cases p x <;> rfl
theorem appR_eq {α : Type} (m : List α) : ∀ l : List α, appR l m = l ++ m
  | [] => rfl
  | x :: l => by show x :: appR l m = _; rw [appR_eq m l]; rfl
theorem nthR_eq {α : Type} : ∀ (l : List α) (i : Nat), nthR l i = l[i]?
  | [], i => by simp [nthR]
  | x :: l, 0 => rfl
  | x :: l, i + 1 => by show nthR l i = _; rw [nthR_eq l i]; simp
theorem iterR_eq {α : Type} (step : α → Option (Option α)) : ∀ (f : Nat) (a : α), iterR step f a = iter step f a
  | 0, _ => rfl
  | f + 1, a => by
    show oR (step a) none (fun r => oR r (some a) (iterR step f)) = _
    unfold iter
    cases step a with
    | none => rfl
    | some r => cases r with
      | none => rfl
      | some b => exact iterR_eq step f b
theorem adjR_eq (M a b : Nat) : adjR M a b = adjM M a b := by unfold adjR adjM; cases Nat.ble a b <;> rfl
noncomputable def growR (left : List Nat) (M : Nat) (a : Nat × List Nat) : Option (Option (Nat × List Nat)) :=
  oR (nthR a.2 a.1) (some none) fun h => some (some (Nat.succ a.1, appR a.2 (filtR (fun t => bR (adjR M h t) (bR (inR t a.2) false true) false) left)))
theorem growR_eq (left : List Nat) (M : Nat) : growR left M = growM left M := by
  funext a
  unfold growR growM
  rw [nthR_eq]
  cases a.2[a.1]? with
  | none => rfl
  | some h =>
    simp only [appR_eq, filtR_eq]
    show some (some (a.1 + 1, a.2 ++ left.filter fun t => bR (adjR M h t) (bR (inR t a.2) false true) false)) = _
    congr 4
    refine List.filter_congr fun t _ => ?_
    rw [adjR_eq]
    unfold inR
    rw [anyR_eq]
    unfold inN
    cases adjM M h t <;> cases (a.2.any fun y => Nat.beq y t) <;> rfl
noncomputable def pieceR (left : List Nat) (M : Nat) (x : Nat) : Option (List Nat) := oR (iterR (growR left M) 20 (0, [x])) none fun a => some a.2
theorem pieceR_eq (left : List Nat) (M : Nat) (x : Nat) : pieceR left M x = pieceM left M x := by
  unfold pieceR pieceM
  rw [iterR_eq, growR_eq]
  cases iter (growM left M) 20 (0, [x]) <;> rfl
/-- filtered, and told out -/
noncomputable def fF {α : Type} (p : α → Bool) (l : List α) : (List α → Bool) → Bool := List.rec (fun K => K []) (fun x _ ih K => bR (p x) (ih fun r => K (x :: r)) (ih K)) l
end Mine

open PySem PySem.W PyProof.Rows
namespace Mine

section
variable {prog : Program} {w : World} {Γ : GEnv} {K : List Str} {sc : Scope} {k : Nat} {σ ω : Sg}

/-- the ints of a row of places, as keys of a dict -/
noncomputable def keysN (l : List Nat) : KV := l.map fun x : Nat => (HK.int (x : Int), PyData.int 1)
theorem keysN_pr (l : List Nat) : (keysN l).map prD = l.map fun x => PyData.tuple [nI x, .int 1] := by unfold keysN; rw [List.map_map]; rfl
theorem CallOk.dictNs {l : List Nat} (hz : l.length ≤ 100000) : CallOk prog w Γ k (.type "dict") [.list (l.map fun x => PyData.tuple [nI x, .int 1])] (dictD (keysN (dedN l))) := by
  have := CallOk.dictPr (prog := prog) (w := w) (Γ := Γ) (k := k) SetOk.int (pr := keysN l) (fun p hp => by obtain ⟨_, _, rfl⟩ := List.mem_map.mp hp; rfl) (sz' (by unfold keysN; rw [List.length_map]; exact hz))
  rw [keysN_pr] at this
  unfold keysN at this ⊢
  rw [dOf_dedN] at this
  exact this
/-- list(dict), its keys whole numbers: a list of its own -/
theorem EvF.listDictN {x px e pos} {l : List Nat} (hx : sc.names.lookup x = some .globalImplicit) (hv : Γ.names.lookup x = some (.type "list")) (h : Ev prog w Γ sc k σ e (dictD (keysN l))) (hz : l.length ≤ 100000) (hst : isStarred e = false := by rfl) (hd : (x == ("__debug__" : Str)) = false := by decide) :
    EvF prog w Γ sc k σ (.Call (.Name x px) [e] [] pos) (lN l) := fun A E env R s hr he hg hs => by
  refine callG1 he hg hx hv hd (.inl ⟨_, rfl⟩) hst fun E => wpAny_mono (h A E env R s hr he hg hs) (fun v s₁ ⟨x1, p1⟩ => ?_) fun _ _ e => e
  obtain ⟨d, es, c, rfl, hRd, dd⟩ := p1.dictI
  have hl : es.size = l.length := by have := dd.ents.length; unfold keysN at this; simpa using this.symm
  have pk : IntsAre (es.toList.map (·.key)) (l.map fun n : Nat => (n : Int)) := by
    have := dd.ents.keysRp
    rw [List.map_map] at this
    refine RpAll.ints (w := w) (R := Nw R s) (h := s₁.heap) ?_
    rw [show (l.map fun n : Nat => (n : Int)).map PyData.int = (keysN l).map (HK.py ∘ fun x => x.1) from by unfold keysN; rw [List.map_map, List.map_map]; rfl]
    exact this
  refine kdl_call (src_dict dd.ns) hr.hh dd.ob (sz' (by omega)) fun h' tk acc c' kk hO hI => ?_
  refine ⟨x1.trans (.of (t := tk) kk), _, rfl, fresh_back x1.keep (fresh_size _), .inl ⟨acc, c', l.map nI, rfl, hO, ?_⟩⟩
  rw [items_keys hI, map_nI]
  exact RpAll.ofInts pk
theorem CallOk.lenDN {l : List Nat} (hz : l.length ≤ 100000) : CallOk prog w Γ k (.builtin "len") [dictD (keysN l)] (nI l.length) := fun A E R s vs hr hg p => by
  cases p with
  | cons p q =>
    cases q
    obtain ⟨d, es, c, rfl, hRd, dd⟩ := p.dictI
    obtain ⟨ps, p1, p2, p3, p4⟩ := dd.ents.toI (prog := prog) fun k hk => by
      obtain ⟨p, hp, rfl⟩ := List.mem_map.mp hk
      obtain ⟨_, _, rfl⟩ := List.mem_map.mp hp
      rfl
    have hl : ps.length = l.length := by have := congrArg List.length p2; unfold keysN at this; simpa using this
    have hnd : (ps.map (·.1)).Nodup := by
      have := dd.nd
      rw [← p2, show ps.map (fun p => HK.int p.1) = (ps.map (·.1)).map HK.int from by rw [List.map_map]; rfl] at this
      exact (List.pairwise_map.mp this).imp fun hab q => hab (congrArg HK.int q)
    have hz' : (ps.length : Int) < 2 ^ 63 := by omega
    refine call_len_dict (knd := intKind prog w) (kvs := ps) (sys_ne dd.ns) ⟨_, _, _, dd.ob, ⟨rfl, rfl, rfl⟩, rfl, fun e he => p3 e (by simpa using he), p1, hnd⟩ hz' ?_
    rw [hl]
    exact ⟨⟨⟨_, _, rfl⟩, fun b o e => e⟩, .int _ _⟩
end
end Mine

open PySem PySem.W PyProof.Rows
namespace Mine
open PySem.Challenge

theorem take_sum {ns : List Int} {i : Nat} {n : Int} (h : ns[i]? = some n) : (ns.take (i + 1)).sum = (ns.take i).sum + n := by
  rw [List.take_add_one, h]; simp

/-- tables of counts -/
noncomputable abbrev KI := List (HK × Int)
noncomputable def toKV (l : KI) : KV := l.map fun p => (p.1, .int p.2)
noncomputable def dSetI (acc : KI) (k : HK) (n : Int) : KI := if (acc.lookup k).isSome then acc.map (fun p => if p.1 = k then (p.1, n) else p) else acc ++ [(k, n)]
theorem toKV_lookup (k : HK) : ∀ l : KI, (toKV l).lookup k = (l.lookup k).map .int
  | [] => rfl
  | (k', n) :: r => by
    show List.lookup k ((k', PyData.int n) :: toKV r) = _
    rw [List.lookup_cons, List.lookup_cons, toKV_lookup k r]
    cases k == k' <;> rfl
theorem toKV_dSet (acc : KI) (k : HK) (n : Int) : dSet (toKV acc) k (.int n) = toKV (dSetI acc k n) := by
  unfold dSet dSetI
  rw [toKV_lookup, Option.isSome_map]
  split
  · unfold toKV
    rw [List.map_map, List.map_map]
    refine List.map_congr_left fun p _ => ?_
    by_cases q : p.1 = k <;> simp [q]
  · simp [toKV]
theorem toKV_vals (l : KI) : (toKV l).map (·.2) = (l.map (·.2)).map .int := by simp [toKV]
theorem toKV_len (l : KI) : (toKV l).length = l.length := by simp [toKV]
theorem dSetI_len (acc : KI) (k : HK) (n : Int) : (dSetI acc k n).length ≤ acc.length + 1 := by
  unfold dSetI; split <;> simp
noncomputable def tki (l : KI) : Bool := l.all fun p => p.1.tk
theorem tks_toKV (l : KI) : tks (toKV l) = tki l := by simp [tks, tki, toKV, List.all_map, Function.comp_def]
theorem tki_dSetI {acc : KI} {k : HK} {n : Int} (h : tki acc = true) (hk : k.tk = true) : tki (dSetI acc k n) = true := by
  unfold dSetI tki at *
  split
  · rw [List.all_map]
    rw [List.all_eq_true] at h ⊢
    intro p hp
    simp only [Function.comp_apply]
    split
    · exact h p hp
    · exact h p hp
  · simp [h, hk]

noncomputable def copyC (t : KI) : KI := t.foldl (fun acc p => dSetI acc p.1 p.2) []
noncomputable def add1 (acc : KI) (p : HK × Int) : KI := match acc.lookup p.1 with
  | some a => dSetI acc p.1 (a + p.2)
  | none => dSetI acc p.1 p.2
theorem add1_some {acc : KI} {p : HK × Int} {a : Int} (h : acc.lookup p.1 = some a) : add1 acc p = dSetI acc p.1 (a + p.2) := by unfold add1; rw [h]
theorem add1_none {acc : KI} {p : HK × Int} (h : acc.lookup p.1 = none) : add1 acc p = dSetI acc p.1 p.2 := by unfold add1; rw [h]
noncomputable def addC (t s : KI) : KI := s.foldl add1 (copyC t)

theorem fold_take {α β : Type} (g : β → α → β) (b : β) {l : List α} {i : Nat} {a : α} (h : l[i]? = some a) : (l.take (i + 1)).foldl g b = g ((l.take i).foldl g b) a := by
  rw [List.take_add_one, h, List.foldl_append]; rfl

theorem copy_inv (t : KI) (h : tki t = true) : ∀ i, tki ((t.take i).foldl (fun acc p => dSetI acc p.1 p.2) []) = true ∧ ((t.take i).foldl (fun acc p => dSetI acc p.1 p.2) []).length ≤ i
  | 0 => ⟨rfl, Nat.le_refl _⟩
  | i + 1 => by
    obtain ⟨h1, h2⟩ := copy_inv t h i
    cases hi : t[i]? with
    | none =>
      rw [List.take_add_one, hi]
      simp only [Option.toList_none, List.append_nil]
      exact ⟨h1, Nat.le_succ_of_le h2⟩
    | some a =>
      rw [fold_take _ _ hi]
      exact ⟨tki_dSetI h1 (List.all_eq_true.mp h a (List.mem_of_getElem? hi)), Nat.le_trans (dSetI_len _ _ _) (Nat.succ_le_succ h2)⟩
theorem add1_inv {acc : KI} {p : HK × Int} (h : tki acc = true) (hp : p.1.tk = true) : tki (add1 acc p) = true ∧ (add1 acc p).length ≤ acc.length + 1 := by
  unfold add1
  split
  · exact ⟨tki_dSetI h hp, dSetI_len _ _ _⟩
  · exact ⟨tki_dSetI h hp, dSetI_len _ _ _⟩
theorem add_inv (b s : KI) (hb : tki b = true) (h : tki s = true) : ∀ i, tki ((s.take i).foldl add1 b) = true ∧ ((s.take i).foldl add1 b).length ≤ b.length + i
  | 0 => ⟨hb, Nat.le_refl _⟩
  | i + 1 => by
    obtain ⟨h1, h2⟩ := add_inv b s hb h i
    cases hi : s[i]? with
    | none =>
      rw [List.take_add_one, hi]
      simp only [Option.toList_none, List.append_nil]
      exact ⟨h1, Nat.le_succ_of_le h2⟩
    | some a =>
      rw [fold_take _ _ hi]
      obtain ⟨h3, h4⟩ := add1_inv h1 (List.all_eq_true.mp h a (List.mem_of_getElem? hi))
      exact ⟨h3, by omega⟩

section
variable {w : World} {Γ : GEnv} {k : Nat}

set_option maxRecDepth 100000 in
theorem count_calls_ok {f : Addr} {fd : FuncData} (F : FnIs Γ f fd (scopeAt pw_hn0002_03 2) ["callers"] (bodyAt pw_hn0002_03 2)) (kvs : KV) (ns : List Int) (h : kvs.map (·.2) = ns.map .int) :
    CallOk pw_hn0002_03 w Γ (k + 1) (.ref f) [dictD kvs] (.int ns.sum) := by
  refine F.call (by decide) rfl ?_
  refine Ss.cons (Sx.assign (.inl (by decide)) (.of fun _ => rfl) Ev.int) ?_
  refine Ss.cons (Sx.for_ (fun i => [("nc", .int (ns.take i).sum), ("callers", dictD kvs)]) (fun _ => []) (It.vals (kvs := kvs) (Ev.name (by rfl))) trivial fun i d hd => ?_) ?_
  · rw [h, List.getElem?_map] at hd
    cases hn : ns[i]? with
    | none => rw [hn] at hd; cases hd
    | some n =>
      rw [hn] at hd
      cases hd
      refine ⟨_, Tgt.name (.inl (by decide)), nofun, trivial, ?_⟩
      refine Ss.cons (Sx.augI (.inl (by decide)) (a := (ns.take i).sum) (by rfl) (Ev.name (d := .int n) (by rfl))) ?_
      rw [← take_sum hn]
      exact Ss.nil.to
  · have hl : (kvs.map fun p => p.2).length = ns.length := by rw [h]; simp
    refine Ss.stop (Sx.ret (Ev.name (by rw [hl, List.take_length]; rfl)))

set_option maxRecDepth 100000 in
theorem add_callers_ok {f : Addr} {fd : FuncData} (F : FnIs Γ f fd (scopeAt pw_hn0002_03 1) ["target", "source"] (bodyAt pw_hn0002_03 1)) (t s : KI) (ht : tki t = true) (hs : tki s = true) (hz : t.length + s.length ≤ sizeLine)
    (hI : Γ.names.lookup ("isinstance" : Str) = some (.builtin "isinstance")) (hT : Γ.names.lookup ("tuple" : Str) = some (.type "tuple")) :
    CallOk pw_hn0002_03 w Γ (k + 1) (.ref f) [dictD (toKV t), dictD (toKV s)] (dictD (toKV (addC t s))) := by
  refine F.call (by decide) rfl ?_
  refine Ss.cons (Sx.own (.inl (by decide)) (.of fun _ => rfl) EvF.dict0) ?_
  refine Ss.cons (Sx.for_ (fun i => [("target", dictD (toKV t)), ("source", dictD (toKV s))]) (fun i => [("new_callers", dictD (toKV ((t.take i).foldl (fun acc p => dSetI acc p.1 p.2) [])))]) (It.items (kvs := toKV t) (Ev.name (by rfl))) ⟨_, _, _, rfl⟩ fun i d hd => ?_) ?_
  · rw [toKV, List.map_map, List.getElem?_map] at hd
    cases hn : t[i]? with
    | none => rw [hn] at hd; cases hd
    | some p =>
      rw [hn] at hd
      cases hd
      obtain ⟨i1, i2⟩ := copy_inv t ht i
      have hi : i < t.length := (List.getElem?_eq_some_iff.mp hn).1
      have hp : p.1.tk = true := List.all_eq_true.mp ht p (List.mem_of_getElem? hn)
      refine ⟨_, Tgt.pair (.inl (by decide)) (.inl (by decide)), nofun, ⟨rfl, trivial⟩, ?_⟩
      refine Ss.cons (Sx.setD (kvs := toKV ((t.take i).foldl (fun acc p => dSetI acc p.1 p.2) [])) (ky := p.1) (d := .int p.2) (by rfl) (by rfl) (.plain (Ev.name (by rfl))) (Ev.name (by rfl)) hp (by rw [tks_toKV]; exact i1) (by rw [toKV_len]; omega)) ?_
      rw [toKV_dSet, ← fold_take (fun acc (p : HK × Int) => dSetI acc p.1 p.2) [] hn]
      exact Ss.nil.to
  · have hl : ((toKV t).map fun p => PyData.tuple [p.1.py, p.2]).length = t.length := by simp [toKV]
    rw [hl, List.take_length]
    refine Ss.cons (Sx.for_ (fun i => [("target", dictD (toKV t)), ("source", dictD (toKV s))]) (fun i => [("new_callers", dictD (toKV ((s.take i).foldl add1 (copyC t))))]) (It.items (kvs := toKV s) (Ev.name (by rfl))) ⟨_, _, _, rfl⟩ fun i d hd => ?_) ?_
    · rw [toKV, List.map_map, List.getElem?_map] at hd
      cases hn : s[i]? with
      | none => rw [hn] at hd; cases hd
      | some p =>
        rw [hn] at hd
        cases hd
        obtain ⟨c1, c2⟩ := copy_inv t ht t.length
        rw [List.take_length] at c1 c2
        obtain ⟨i1, i2⟩ := add_inv (copyC t) s c1 hs i
        have hi : i < s.length := (List.getElem?_eq_some_iff.mp hn).1
        have hp : p.1.tk = true := List.all_eq_true.mp hs p (List.mem_of_getElem? hn)
        have hz' : (toKV ((s.take i).foldl add1 (copyC t))).length ≤ sizeLine := by rw [toKV_len]; unfold copyC at i2 ⊢; omega
        refine ⟨_, Tgt.pair (.inl (by decide)) (.inl (by decide)), nofun, ⟨rfl, trivial⟩, ?_⟩
        have step : (s.take (i + 1)).foldl add1 (copyC t) = add1 ((s.take i).foldl add1 (copyC t)) p := fold_take add1 _ hn
        rw [step]
        refine Ss.cons (Sx.ite (b := ((toKV ((s.take i).foldl add1 (copyC t))).lookup p.1).isSome) (Tr.cmp (Ev.name (d := p.1.py) (by rfl)) (Ev.name (d := dictD (toKV ((s.take i).foldl add1 (copyC t)))) (by rfl)) (CmpOk.inD hp (by rw [tks_toKV]; exact i1))) (fun hb => ?_) (fun hb => ?_)) Ss.nil
        · rw [toKV_lookup, Option.isSome_map] at hb
          obtain ⟨a, ha⟩ := Option.isSome_iff_exists.mp hb
          refine Ss.cons (Sx.ite (b := false) (Tr.isInstF (by decide) hI (by decide) hT (Ev.name (d := .int p.2) (by rfl))) nofun fun _ => ?_) Ss.nil
          refine Ss.cons (Sx.augD (kvs := toKV ((s.take i).foldl add1 (copyC t))) (ky := p.1) (a := a) (b := p.2) (by rfl) (by rfl) (Ev.name (by rfl)) (Ev.name (by rfl)) hp (by rw [tks_toKV]; exact i1) hz' (by rw [toKV_lookup, ha]; rfl)) ?_
          rw [toKV_dSet, add1_some ha]
          exact Ss.nil.to
        · rw [toKV_lookup, Option.isSome_map] at hb
          have ha : ((s.take i).foldl add1 (copyC t)).lookup p.1 = none := by
            cases q : ((s.take i).foldl add1 (copyC t)).lookup p.1 with
            | none => rfl
            | some a => rw [q] at hb; cases hb
          refine Ss.cons (Sx.setD (kvs := toKV ((s.take i).foldl add1 (copyC t))) (ky := p.1) (d := .int p.2) (by rfl) (by rfl) (.plain (Ev.name (by rfl))) (Ev.name (by rfl)) hp (by rw [tks_toKV]; exact i1) hz') ?_
          rw [toKV_dSet, add1_none ha]
          exact Ss.nil.to
    · have hl : ((toKV s).map fun p => PyData.tuple [p.1.py, p.2]).length = s.length := by simp [toKV]
      rw [hl, List.take_length]
      exact Ss.stop (Sx.ret (Ev.name (by rfl)))

theorem It.range0 {sc : Scope} {σ : Sg} {x px e pos} {n : Nat} {prog : Program} (hx : sc.names.lookup x = some .globalImplicit) (hv : Γ.names.lookup x = some (.type "range")) (ha : Ev prog w Γ sc k σ e (.int (n : Int))) (h1 : n < 2 ^ 62)
    (hst : ∀ a ∈ [e], isStarred a = false := by simp [isStarred]) (hd : (x == ("__debug__" : Str)) = false := by decide) (hse : ∀ env, starEach [e] env = (false, eval e env) :: starEach [] env := by intro _; rfl) :
    It prog w Γ sc k σ (.Call (.Name x px) [e] [] pos) (fun _ => True) ((List.range n).map fun i : Nat => PyData.int (i : Int)) := by
  have := It.range1 (prog := prog) (w := w) (Γ := Γ) (sc := sc) (k := k) (σ := σ) (px := px) (pos := pos) hx hv (.cons ha .nil hse) (by omega) (by omega) hst hd
  unfold rangeD at this
  simpa using this

end
end Mine

open PySem PySem.W PyProof.Rows
namespace Mine
open PySem.Challenge

noncomputable abbrev innSc : Scope := nestScope pw_hn0002_03 4 1
noncomputable abbrev innBd : List Stmt := nestBody pw_hn0002_03 4 1

structure InnAt (h : Heap) (f D : Addr) (fd : FuncData) (cl : List (Str × Addr)) (aC iC nC : Addr) : Prop where
  C : ClosIs h f fd innSc ["x", "L", "R"] innBd cl
  la : cl.lookup ("a_digits" : Str) = some aC
  li : cl.lookup ("inner" : Str) = some iC
  ln : cl.lookup ("n" : Str) = some nC
  inj : ∀ x y c, cl.lookup x = some c → cl.lookup y = some c → x = y
  ca : h.IsCell aC (some (.ref D))
  ci : h.IsCell iC (some (.ref f))
  cn : ∃ t, h.IsCell nC (some (.int 1 t))
  alive : ∀ x c, cl.lookup x = some c → ∃ o v, h.get? c = some o ∧ o.data = .cell v
  lim : h.NoLimit

theorem list2 {α : Type} {l : List α} (h : l.length = 2) : ∃ a b, l = [a, b] := by
  rcases l with _ | ⟨a, _ | ⟨b, _ | ⟨c, l⟩⟩⟩
  · cases h
  · cases h
  · exact ⟨a, b, rfl⟩
  · cases h
theorem list3 {α : Type} {l : List α} (h : l.length = 3) : ∃ a b c, l = [a, b, c] := by
  rcases l with _ | ⟨a, l⟩
  · cases h
  · obtain ⟨b, c, rfl⟩ := list2 (Nat.succ.inj h)
    exact ⟨a, b, c, rfl⟩
theorem Γ0_in {h : Heap} (l : h.NoLimit) : (⟨[], []⟩ : GEnv).In h := ⟨l, (fun x v e => by cases e), (fun p hp => by cases hp)⟩

theorem Ns.kpL {h h' : Heap} {a D : Addr} {m vs n} (x : h.Ns a m) (hD : h.get? D = some (LObj vs n)) (k : Kp (fun b => b = D) h h') : h'.Ns a m := by
  obtain ⟨o, es, ep, e, hd, r⟩ := x
  exact ⟨o, es, ep, k _ _ (fun q => by rw [q, hD] at e; cases e; cases hd) e, hd, r⟩
theorem NoLimit.kpL {h h' : Heap} {D : Addr} {vs n} (x : h.NoLimit) (hD : h.get? D = some (LObj vs n)) (k : Kp (fun b => b = D) h h') : h'.NoLimit :=
  let ⟨mc, a, b⟩ := x; ⟨mc, Ns.kpL a hD k, b⟩
theorem IsCell.kpL {h h' : Heap} {c D : Addr} {v vs n} (x : h.IsCell c v) (hD : h.get? D = some (LObj vs n)) (k : Kp (fun b => b = D) h h') : h'.IsCell c v := by
  obtain ⟨o, e, hd⟩ := x
  exact ⟨o, k _ _ (fun q => by rw [q, hD] at e; cases e; cases hd) e, hd⟩
theorem ClosIs.kpL {h h' : Heap} {f fd sc ps body cl D vs n} (C : ClosIs h f fd sc ps body cl) (hD : h.get? D = some (LObj vs n)) (k : Kp (fun b => b = D) h h') : ClosIs h' f fd sc ps body cl := by
  obtain ⟨⟨o, e, hd⟩, ⟨c, oc, us, t, h1, h2, h3, h4⟩, q1, q2, q3, q4, q5, q6⟩ := C
  exact ⟨⟨o, k _ _ (fun q => by rw [q, hD] at e; cases e; cases hd) e, hd⟩, ⟨c, oc, us, t, h1, k _ _ (fun q => by rw [q, hD] at h2; cases h2; cases h3) h2, h3, h4⟩, q1, q2, q3, q4, q5, q6⟩
theorem InnAt.kpL {h h' : Heap} {f D fd cl aC iC nC vs n} (I : InnAt h f D fd cl aC iC nC) (hD : h.get? D = some (LObj vs n)) (k : Kp (fun b => b = D) h h') : InnAt h' f D fd cl aC iC nC :=
  ⟨I.C.kpL hD k, I.la, I.li, I.ln, I.inj, IsCell.kpL I.ca hD k, IsCell.kpL I.ci hD k, let ⟨t, c⟩ := I.cn; ⟨t, IsCell.kpL c hD k⟩, fun x c hx => by
    obtain ⟨o, v, e, hd⟩ := I.alive x c hx
    exact ⟨o, v, k _ _ (fun q => by rw [q, hD] at e; cases e; cases hd) e, hd⟩, NoLimit.kpL I.lim hD k⟩

section
variable {w : World}

/-- the heap as if D were not there -/
noncomputable abbrev hid (s : Shared) (D : Addr) : Shared := { s with heap := hideAll s.heap [D] }
theorem hid_keep {s : Shared} {D : Addr} : ∀ b o, (hid s D).heap.get? b = some o → s.heap.get? b = some o := fun b o e => of_hideAll _ e
theorem hid_none {s : Shared} {D : Addr} : (hid s D).heap.get? D = none := hideAll_none _ (.head _)
theorem hid_get {s : Shared} {D b : Addr} {o : Obj} (e : s.heap.get? b = some o) (h : b ≠ D) : (hid s D).heap.get? b = some o := hideAll_get _ e (by simpa using h)
theorem hid_lim {s : Shared} {D : Addr} {vs n} (l : s.heap.NoLimit) (hD : s.heap.get? D = some (LObj vs n)) : (hid s D).heap.NoLimit := NoLimit.kpL l hD fun b o hb e => hid_get e hb


theorem look1 {y x : Str} {e d : PyData} (h : ([(y, e)] : Sg).lookup x = some d) : x = y ∧ e = d := by
  rw [List.lookup_cons] at h
  by_cases q : (x == y) = true
  · rw [q] at h; cases h; exact ⟨eq_of_beq q, rfl⟩
  · simp only [Bool.not_eq_true] at q; rw [q] at h; cases h

noncomputable abbrev innW (ds : List Int) : Sg := [(("a_digits" : Str), PyData.list (ds.map .int))]
noncomputable abbrev innK : List Str := ["inner", "a_digits"]

/-- within the inner def -/
structure InS (w : World) (s : Shared) (f D : Addr) (env : Env) (σ : Sg) (ds : List Int) (s' : Shared) : Prop where
  st : ST w (hid s D) (fun _ => False) env innSc σ (innW ds) s'
  bi : Bd s'.heap env "inner" (.ref f)
  bd : Bd s'.heap env "a_digits" (.ref D)

theorem InS.step {s : Shared} {f D : Addr} {env : Env} {σ σ' : Sg} {ds ds' : List Int} {s' s'' : Shared} {fl : Flow} (I : InS w s f D env σ ds s') (hp : Post innK w (hid s D) (fun _ => False) env innSc (innW ds) s' (.next σ' (innW ds')) fl s'') : fl = .next ∧ InS w s f D env σ' ds' s'' := by
  obtain ⟨h1, h2, _, _, _, h6⟩ := hp
  exact ⟨h1, h2, h6 _ (by simp) _ I.bi, h6 _ (by simp) _ I.bd⟩

theorem InS.list {s : Shared} {f D : Addr} {env : Env} {σ : Sg} {ds : List Int} {s' : Shared} (I : InS w s f D env σ ds s') : ∃ vs m, s'.heap.get? D = some (LObj vs m) ∧ IntsAre vs.toList ds := by
  obtain ⟨R, t⟩ := I.st
  obtain ⟨a, b, _, _, _, h⟩ := t.ow "a_digits" _ rfl
  have := I.bd.fn b; cases this
  rcases h with ⟨vs, n, xs, e0, e, l⟩ | ⟨es, n, ks, xs, e0, _⟩
  · cases e0; exact ⟨vs, n, e, l.ints⟩
  · cases e0
theorem InS.keep {s : Shared} {f D : Addr} {env : Env} {σ : Sg} {ds : List Int} {s' : Shared} (I : InS w s f D env σ ds s') : Kp (fun b => b = D) s.heap s'.heap := by
  obtain ⟨R, t⟩ := I.st
  exact fun b o hb e => t.keep b o (hid_get e hb)
theorem InS.same {s : Shared} {f D : Addr} {env : Env} {σ : Sg} {ds : List Int} {s' : Shared} (I : InS w s f D env σ ds s') : ∃ h tk, s' = { s with heap := h, toks := tk } := by
  obtain ⟨R, t⟩ := I.st
  obtain ⟨h, tk, e⟩ := t.same
  exact ⟨h, tk, e⟩

/-- a statement of the inner def that turns nothing but names -/
theorem InS.run {s : Shared} {f D : Addr} {env : Env} {σ σ' : Sg} {ds ds' : List Int} {s' : Shared} {A : Around} {E : Value → Shared → Prop} {st : Stmt} {rest : List Stmt} {Q : Flow → Shared → Prop} {k : Nat} (I : InS w s f D env σ ds s') (hr : Room k A) (he : EnvOk innSc env) (hg : (⟨[], []⟩ : GEnv).In (hid s D).heap)
    (h : Sx pw_hn0002_03 w ⟨[], []⟩ innK innSc k σ (innW ds) st (.next σ' (innW ds'))) (hk : ∀ s'', InS w s f D env σ' ds' s'' → wpAny (model pw_hn0002_03 w) A (execs rest env) Q E s'') :
    wpAny (model pw_hn0002_03 w) A (execs (st :: rest) env) Q E s' :=
  wpAny_execs_cons (wpAny_mono (h A E env _ _ _ hr he hg I.st) (fun fl s'' hp => by obtain ⟨rfl, I'⟩ := I.step hp; exact hk s'' I') fun _ _ e => e)

theorem hcl_ok {cl : List (Str × Addr)} {aC iC nC : Addr} (la : cl.lookup ("a_digits" : Str) = some aC) (li : cl.lookup ("inner" : Str) = some iC) (ln : cl.lookup ("n" : Str) = some nC) : scClo innSc ["x", "L", "R"] cl = true := by
  have q1 : (cl.lookup ("a_digits" : Str)).isSome = true := by rw [la]; rfl
  have q2 : (cl.lookup ("inner" : Str)).isSome = true := by rw [li]; rfl
  have q3 : (cl.lookup ("n" : Str)).isSome = true := by rw [ln]; rfl
  unfold scClo
  rw [show innSc.names = [(("x" : Str), NameKind.local), (("L" : Str), .local), (("R" : Str), .local), (("mid" : Str), .local), (("shift" : Str), .local), (("upper" : Str), .local), (("lower" : Str), .local), (("a_digits" : Str), .free), (("inner" : Str), .free), (("n" : Str), .free)] from rfl]
  simp only [List.all_cons, List.all_nil, q1, q2, q3]
  rfl

/-- the inner def calls itself -/
theorem InS.call {s : Shared} {f D : Addr} {env : Env} {σ : Sg} {ds ds' : List Int} {s' : Shared} {A : Around} {E : Value → Shared → Prop} {rest : List Stmt} {Q : Flow → Shared → Prop} {k : Nat} {fd : FuncData} {cl : List (Str × Addr)} {aC iC nC : Addr} {vs : Array Value} {m : Nat}
    (I : InS w s f D env σ ds s') (J : InnAt s.heap f D fd cl aC iC nC) (hD : s.heap.get? D = some (LObj vs m)) (hr : Room k A) (he : EnvOk innSc env) (hg : (⟨[], []⟩ : GEnv).In (hid s D).heap) (hσ : σ.lookup ("a_digits" : Str) = none) {x y z : Str} {px py pz p1 p2 p3 : Pos} {a b c : Int}
    (ha : (σ ++ innW ds).lookup x = some (.int a)) (hb : (σ ++ innW ds).lookup y = some (.int b)) (hc : (σ ++ innW ds).lookup z = some (.int c)) (hn : ∀ q ∈ [x, y, z], (q == ("__debug__" : Str)) = false ∧ (q == ("__classdict__" : Str)) = false)
    (ih : ∀ (s6 : Shared) (Q : Value → Shared → Prop) (vs6 : Array Value) (m6 : Nat) (tx tL tR : Tok), InnAt s6.heap f D fd cl aC iC nC → s6.heap.get? D = some (LObj vs6 m6) → IntsAre vs6.toList ds →
      (∀ h' tk vs' m', Kp (fun b => b = D) s6.heap h' → h'.get? D = some (LObj vs' m') → IntsAre vs'.toList ds' → Q .none { s6 with heap := h', toks := tk }) → wpAny (model pw_hn0002_03 w) A (PySem.call (.ref f) [.int a tx, .int b tL, .int c tR]) Q E s6)
    (hk : ∀ s'', InS w s f D env σ ds' s'' → wpAny (model pw_hn0002_03 w) A (execs rest env) Q E s'') :
    wpAny (model pw_hn0002_03 w) A (execs (.Expr (.Call (.Name "inner" p1) [.Name x px, .Name y py, .Name z pz] [] p2) p3 :: rest) env) Q E s' := by
  obtain ⟨R, t⟩ := I.st
  refine wpAny_execs_cons (wpAny_Expr_any (Call_ (loadBd he I.bi ?_ (by decide) (by decide))) (interactive_no he) (by rfl))
  obtain ⟨oo, hoo, hdd⟩ := (J.kpL hD I.keep).C.ob
  have hf : FnAt f s'.heap := by
    obtain ⟨cls, dd, data, sl⟩ := oo
    simp only at hdd
    subst hdd
    exact ⟨_, _, _, _, hoo⟩
  have hargs : Evs pw_hn0002_03 w ⟨[], []⟩ innSc k (σ ++ innW ds) [.Name x px, .Name y py, .Name z pz] [.int a, .int b, .int c] :=
    .cons (Ev.name ha (hn x (by simp)).1 (hn x (by simp)).2) (.cons (Ev.name hb (hn y (by simp)).1 (hn y (by simp)).2) (.cons (Ev.name hc (hn z (by simp)).1 (hn z (by simp)).2) .nil))
  refine callWith_F hf (wpAny_mono (hargs A _ env _ s' p2 hr he (t.baseIn hg) t.view) (fun vals s6 ⟨x6, p6⟩ => ?_) fun _ _ e => e)
  refine ⟨by obtain ⟨oc, od, fd, sl, e⟩ := hf; exact ⟨oc, od, fd, sl, x6.keep _ _ e⟩, ?_⟩
  cases p6 with
  | cons pa p6 => cases p6 with
    | cons pb p6 => cases p6 with
      | cons pc p6 =>
        cases p6; cases pa; cases pb; cases pc
        obtain ⟨vs5, m5, e5, hi5⟩ := I.list
        have kp6 : Kp (fun b => b = D) s.heap s6.heap := fun b o hb e => x6.keep _ _ (I.keep b o hb e)
        refine ih s6 _ vs5 m5 _ _ _ (J.kpL hD kp6) (x6.keep _ _ e5) hi5 fun h' tk vs' m' kp e' hi' => ?_
        have hp := t.turned (K := innK) (tk := tk) x6 (d := .list (ds.map .int)) (d' := .list (ds'.map .int)) rfl hσ I.bd kp (.inl ⟨vs', m', _, rfl, e', RpAll.ofInts hi'⟩)
        exact hk _ (I.step hp).2

set_option maxRecDepth 100000 in
theorem inner_ok : ∀ (j : Nat) (ds : List Int) (x : Int) (L R : Nat) (ds' : List Int), inn j ds x L R = some ds' →
    ∀ (A : Around) (E : Value → Shared → Prop) (s : Shared) (Q : Value → Shared → Prop) (f D : Addr) (fd : FuncData) (cl : List (Str × Addr)) (aC iC nC : Addr) (vs : Array Value) (m : Nat) (tx tL tR : Tok),
      Room (j + 1) A → InnAt s.heap f D fd cl aC iC nC → s.heap.get? D = some (LObj vs m) → IntsAre vs.toList ds →
      (∀ h' tk vs' m', Kp (fun b => b = D) s.heap h' → h'.get? D = some (LObj vs' m') → IntsAre vs'.toList ds' → Q .none { s with heap := h', toks := tk }) →
      wpAny (model pw_hn0002_03 w) A (call (.ref f) [.int x tx, .int (L : Int) tL, .int (R : Int) tR]) Q E s
  | 0, ds, x, L, R, ds', h => by cases h
  | j + 1, ds, x, L, R, ds', h => by
    intro A E s Q f D fd cl aC iC nC vs m tx tL tR hr I hD hv hQ
    have hcl := hcl_ok I.la I.li I.ln
    refine clos_call (k := j + 1) I.C hcl I.inj hr I.lim rfl fun env h₀ tk E' he hcells hL hns keep hrm => ?_
    have hg : (⟨[], []⟩ : GEnv).In (hid s D).heap := Γ0_in (hid_lim I.lim hD)
    have t := clos_str (w := w) (s := s) (sc := innSc) (ps := ["x", "L", "R"]) (cl := cl) (vals := [.int x tx, .int (L : Int) tL, .int (R : Int) tR]) (ds := [.int x, .int (L : Int), .int (R : Int)]) (tk := tk) (base := hid s D) (R0 := fun _ => False) (R := fun _ => False)
      (σf := [("n", .int 1)]) (ω := innW ds) hcl he hcells hL hns keep rfl (.cons (.int _ _) (.cons (.int _ _) (.cons (.int _ _) .nil))) ⟨s.heap, s.toks, rfl⟩ hid_keep nofun
      (fun x c hx => let ⟨o, v, e, _⟩ := I.alive x c hx; ⟨o, e⟩) (fun y d hy => by
        obtain ⟨rfl, rfl⟩ := look1 hy
        obtain ⟨t, c⟩ := I.cn
        exact ⟨by decide, _, _, I.ln, c, .int _ _⟩) (fun y d hy => by
        obtain ⟨rfl, rfl⟩ := look1 hy
        exact ⟨by decide, _, _, I.la, I.ca, id, hid_none, .inl ⟨vs, m, _, rfl, hD, RpAll.ofInts hv⟩⟩) (fun y z ⟨d, hy⟩ ⟨d', hz⟩ => by rw [(look1 hy).1, (look1 hz).1])
    have I0 : InS w s f D env [("x", .int x), ("L", .int (L : Int)), ("R", .int (R : Int)), ("n", .int 1)] ds { s with heap := h₀, toks := tk } :=
      ⟨⟨_, t⟩, .cell (he.free _ (by decide)).symm ⟨iC, by rw [hcells]; exact I.li, I.ci.keeps keep⟩, .cell (he.free _ (by decide)).symm ⟨aC, by rw [hcells]; exact I.la, I.ca.keeps keep⟩⟩
    have fin : ∀ {σ : Sg} {s' : Shared}, InS w s f D env σ ds' s' → Q .none s' := fun {σ s'} I' => by
      obtain ⟨vs', m', e, hi⟩ := I'.list
      obtain ⟨h', tk', rfl⟩ := I'.same
      exact hQ h' tk' vs' m' I'.keep e hi
    unfold inn at h
    by_cases hLR : L + 1 = R
    · rw [if_pos hLR] at h
      split at h
      · rename_i hlt0
        obtain ⟨hlt, hl1⟩ := hlt0
        cases h
        refine wpAny_execs_cons (wpAny_If (wpAny_mono ((show Tr pw_hn0002_03 w ⟨[], []⟩ innSc (j + 1) (([("x", .int x), ("L", .int (L : Int)), ("R", .int (R : Int)), ("n", .int 1)] : Sg) ++ innW ds) _ true from Tr.cmp (b := true) (Ev.bin (Ev.name (d := .int (L : Int)) (by rfl)) Ev.int BinOk.add) (Ev.name (d := .int (R : Int)) (by rfl)) (CmpOk.eqI' (by rw [beq_iff_eq]; omega))) _ _ env _ _ hrm he (t.baseIn hg) t.view) (fun b s1 ⟨eb, x1⟩ => ?_) fun _ _ e => e))
        subst eb
        have I1 : InS w s f D env [("x", .int x), ("L", .int (L : Int)), ("R", .int (R : Int)), ("n", .int 1)] ds s1 := ⟨⟨_, t.ex x1⟩, I0.bi.keep x1.keep, I0.bd.keep x1.keep⟩
        show wpAny _ _ (execs _ env) _ _ s1
        have hw : innW (ds.set L x) = [(("a_digits" : Str), PyData.list ((ds.map PyData.int).set L (.int x)))] := by show [(("a_digits" : Str), PyData.list ((ds.set L x).map PyData.int))] = _; rw [List.map_set]
        refine I1.run hrm he hg (ds' := ds.set L x) (σ' := [("x", .int x), ("L", .int (L : Int)), ("R", .int (R : Int)), ("n", .int 1)]) (by
          rw [hw]
          exact Sx.setL (xs := ds.map .int) (d := .int x) (j := L) (by rfl) (by rfl) (.plain (Ev.name (by rfl))) (Ev.name (by rfl)) (by rw [List.length_map]; exact hlt) (by omega)) fun s2 I2 => ?_
        exact wpAny_execs_cons (wpAny_Return_none (fin I2))
      · cases h
    · rw [if_neg hLR] at h
      simp only at h
      split at h
      · rename_i hc
        obtain ⟨c1, c2, c3⟩ := hc
        cases h1 : inn j ds (Builtin.bitXor x (x.fdiv (2 ^ ((L + R) / 2 - L)) * 2 ^ ((L + R) / 2 - L))) L ((L + R) / 2) with
        | none => rw [h1] at h; cases h
        | some d1 =>
          rw [h1] at h
          simp only at h
          have e1 : ((L : Int) + (R : Int)).fdiv (2 ^ 1) = (((L + R) / 2 : Nat) : Int) := by rw [Int.fdiv_eq_ediv_of_nonneg _ (by decide)]; omega
          have e2 : ((((L + R) / 2 : Nat) : Int) - (L : Int)) * 1 = (((L + R) / 2 - L : Nat) : Int) := by omega
          generalize (L + R) / 2 = mid at *
          generalize hsh : mid - L = sh at *
          refine I0.run hrm he hg (σ' := [("x", .int x), ("L", .int (L : Int)), ("R", .int (R : Int)), ("n", .int 1)]) (ds' := ds) (Sx.ite (b := false) (Tr.cmp (Ev.bin (Ev.name (d := .int (L : Int)) (by rfl)) Ev.int BinOk.add) (Ev.name (d := .int (R : Int)) (by rfl)) (CmpOk.eqI' (by rw [beq_eq_false_iff_ne]; omega))) nofun fun _ => Ss.nil) fun s1 I1 => ?_
          refine I1.run hrm he hg (ds' := ds) (Sx.assign (d := .int (mid : Int)) (.inl (by decide)) (.of fun _ => rfl) (by rw [← e1]; exact Ev.bin (Ev.bin (Ev.name (d := .int (L : Int)) (by rfl)) (Ev.name (d := .int (R : Int)) (by rfl)) BinOk.add) Ev.int (BinOk.shr (n := 1)))) fun s2 I2 => ?_
          refine I2.run hrm he hg (ds' := ds) (Sx.assign (d := .int (sh : Int)) (.inl (by decide)) (.of fun _ => rfl) (by rw [← e2]; exact Ev.bin (Ev.bin (Ev.name (d := .int (mid : Int)) (by rfl)) (Ev.name (d := .int (L : Int)) (by rfl)) BinOk.sub) (Ev.name (d := .int 1) (by rfl)) (BinOk.mul (.of_right (by decide +kernel))))) fun s3 I3 => ?_
          refine I3.run hrm he hg (ds' := ds) (Sx.assign (.inl (by decide)) (.of fun _ => rfl) (Ev.bin (Ev.name (d := .int x) (by rfl)) (Ev.name (d := .int (sh : Int)) (by rfl)) BinOk.shr)) fun s4 I4 => ?_
          refine I4.run hrm he hg (ds' := ds) (Sx.assign (.inl (by decide)) (.of fun _ => rfl) (Ev.bin (Ev.name (d := .int x) (by rfl)) (Ev.bin (Ev.name (d := .int (x.fdiv (2 ^ sh))) (by rfl)) (Ev.name (d := .int (sh : Int)) (by rfl)) (BinOk.shl (by omega))) BinOk.xor)) fun s5 I5 => ?_
          have ih1 := inner_ok j ds _ L mid d1 h1
          have ih2 := inner_ok j d1 _ mid R ds' h
          refine I5.call I hD hrm he hg (by rfl) (by rfl) (by rfl) (by rfl) (by decide) (fun s6 Q vs6 m6 tx tL tR J6 hD6 hv6 hQ6 => ih1 _ _ s6 Q f D fd cl aC iC nC vs6 m6 tx tL tR hrm J6 hD6 hv6 hQ6) fun s6 I6 => ?_
          refine I6.call I hD hrm he hg (by rfl) (by rfl) (by rfl) (by rfl) (by decide) (fun s6 Q vs6 m6 tx tL tR J6 hD6 hv6 hQ6 => ih2 _ _ s6 Q f D fd cl aC iC nC vs6 m6 tx tL tR hrm J6 hD6 hv6 hQ6) fun s7 I7 => ?_
          exact wpAny_execs_nil (fin I7)
      · cases h
end
end Mine

open PySem PySem.W PyProof.Rows
namespace Mine
open PySem.Challenge

noncomputable abbrev nnSc : Scope := nestScope pw_hn0002_03 5 0
noncomputable abbrev nnBd : List Stmt := nestBody pw_hn0002_03 5 0

structure NnAt (h : Heap) (f D : Addr) (fd : FuncData) (cl : List (Str × Addr)) (aC iC nC : Addr) : Prop where
  C : ClosIs h f fd nnSc ["L", "R"] nnBd cl
  la : cl.lookup ("digits" : Str) = some aC
  li : cl.lookup ("inner" : Str) = some iC
  ln : cl.lookup ("n" : Str) = some nC
  inj : ∀ x y c, cl.lookup x = some c → cl.lookup y = some c → x = y
  ca : h.IsCell aC (some (.ref D))
  ci : h.IsCell iC (some (.ref f))
  cn : ∃ t, h.IsCell nC (some (.int 1 t))
  alive : ∀ x c, cl.lookup x = some c → ∃ o v, h.get? c = some o ∧ o.data = .cell v
  lim : h.NoLimit

theorem NnAt.keep {h h' : Heap} {f D fd cl aC iC nC} (I : NnAt h f D fd cl aC iC nC) (k : ∀ b o, h.get? b = some o → h'.get? b = some o) : NnAt h' f D fd cl aC iC nC := by
  obtain ⟨⟨⟨o, e, hd⟩, rc, q1, q2, q3, q4, q5, q6⟩, la, li, ln, inj, ca, ci, ⟨t, cn⟩, al, lim⟩ := I
  exact ⟨⟨⟨o, k _ _ e, hd⟩, rc.keeps k, q1, q2, q3, q4, q5, q6⟩, la, li, ln, inj, ca.keeps k, ci.keeps k, ⟨t, cn.keeps k⟩, fun x c hx => let ⟨o, v, e, r⟩ := al x c hx; ⟨o, v, k _ _ e, r⟩, lim.keeps k⟩

section
variable {w : World}
theorem ncl_ok {cl : List (Str × Addr)} {aC iC nC : Addr} (la : cl.lookup ("digits" : Str) = some aC) (li : cl.lookup ("inner" : Str) = some iC) (ln : cl.lookup ("n" : Str) = some nC) : scClo nnSc ["L", "R"] cl = true := by
  have q1 : (cl.lookup ("digits" : Str)).isSome = true := by rw [la]; rfl
  have q2 : (cl.lookup ("inner" : Str)).isSome = true := by rw [li]; rfl
  have q3 : (cl.lookup ("n" : Str)).isSome = true := by rw [ln]; rfl
  unfold scClo
  rw [show nnSc.names = [(("L" : Str), NameKind.local), (("R" : Str), .local), (("mid" : Str), .local), (("shift" : Str), .local), (("digits" : Str), .free), (("inner" : Str), .free), (("n" : Str), .free)] from rfl]
  simp only [List.all_cons, List.all_nil, q1, q2, q3]
  rfl

/-- a call of the inner def, its arguments two names -/
theorem nn_call {s' : Shared} {f D : Addr} {env : Env} {σ : Sg} {R : Addr → Prop} {ds : List Int} {A : Around} {E : Value → Shared → Prop} {Q : Value → Shared → Prop} {k : Nat} {fd : FuncData} {cl : List (Str × Addr)} {aC iC nC : Addr} {vs : Array Value} {m : Nat}
    (J : NnAt s'.heap f D fd cl aC iC nC) (hD : s'.heap.get? D = some (LObj vs m)) (hv : IntsAre vs.toList ds) (bi : Bd s'.heap env "inner" (.ref f)) (hs : SR w R s'.heap env σ) (hr : Room k A) (he : EnvOk nnSc env) {y z : Str} {py pz p1 p2 : Pos} {b c r : Int}
    (hb : σ.lookup y = some (.int b)) (hc : σ.lookup z = some (.int c)) (hn : ∀ q ∈ [y, z], (q == ("__debug__" : Str)) = false ∧ (q == ("__classdict__" : Str)) = false)
    (ih : ∀ (s6 : Shared) (Q : Value → Shared → Prop) (tL tR : Tok), NnAt s6.heap f D fd cl aC iC nC → s6.heap.get? D = some (LObj vs m) →
      (∀ s7 t, Ex s6 s7 → Q (.int r t) s7) → wpAny (model pw_hn0002_03 w) A (PySem.call (.ref f) [.int b tL, .int c tR]) Q E s6)
    (hk : ∀ s'' t, Ex s' s'' → Q (.int r t) s'') :
    wpAny (model pw_hn0002_03 w) A (eval (.Call (.Name "inner" p1) [.Name y py, .Name z pz] [] p2) env) Q E s' := by
  refine Call_ (loadBd he bi ?_ (by decide) (by decide))
  obtain ⟨oo, hoo, hdd⟩ := J.C.ob
  have hf : FnAt f s'.heap := by
    obtain ⟨cls, dd, data, sl⟩ := oo
    simp only at hdd
    subst hdd
    exact ⟨_, _, _, _, hoo⟩
  have hargs : Evs pw_hn0002_03 w ⟨[], []⟩ nnSc k σ [.Name y py, .Name z pz] [.int b, .int c] :=
    .cons (Ev.name hb (hn y (by simp)).1 (hn y (by simp)).2) (.cons (Ev.name hc (hn z (by simp)).1 (hn z (by simp)).2) .nil)
  refine callWith_F hf (wpAny_mono (hargs A _ env _ s' p2 hr he (Γ0_in J.lim) hs) (fun vals s6 ⟨x6, p6⟩ => ?_) fun _ _ e => e)
  refine ⟨by obtain ⟨oc, od, fd, sl, e⟩ := hf; exact ⟨oc, od, fd, sl, x6.keep _ _ e⟩, ?_⟩
  cases p6 with
  | cons pa p6 => cases p6 with
    | cons pb p6 =>
      cases p6; cases pa; cases pb
      exact ih s6 _ _ _ (J.keep x6.keep) (x6.keep _ _ hD) fun s7 t x7 => hk s7 t (x6.trans x7)

set_option maxRecDepth 100000 in
theorem nn_ok : ∀ (j : Nat) (ds : List Int) (L R : Nat) (r : Int), nni j ds L R = some r →
    ∀ (A : Around) (E : Value → Shared → Prop) (s : Shared) (Q : Value → Shared → Prop) (f D : Addr) (fd : FuncData) (cl : List (Str × Addr)) (aC iC nC : Addr) (vs : Array Value) (m : Nat) (tL tR : Tok),
      Room (j + 1) A → NnAt s.heap f D fd cl aC iC nC → s.heap.get? D = some (LObj vs m) → IntsAre vs.toList ds → ds.length ≤ 1000 →
      (∀ s' t, Ex s s' → Q (.int r t) s') →
      wpAny (model pw_hn0002_03 w) A (call (.ref f) [.int (L : Int) tL, .int (R : Int) tR]) Q E s
  | 0, ds, L, R, r, h => by cases h
  | j + 1, ds, L, R, r, h => by
    intro A E s Q f D fd cl aC iC nC vs m tL tR hr I hD hv hz hQ
    have hcl := ncl_ok I.la I.li I.ln
    refine clos_call (k := j + 1) I.C hcl I.inj hr I.lim rfl fun env h₀ tk E' he hcells hL hns keep hrm => ?_
    have hg : (⟨[], []⟩ : GEnv).In s.heap := Γ0_in I.lim
    let σ0 : Sg := [("L", .int (L : Int)), ("R", .int (R : Int)), ("n", .int 1), ("digits", .list (ds.map .int))]
    have t : STR w s (fun a => a = D) env nnSc (fun a => a = D) σ0 [] { s with heap := h₀, toks := tk } := clos_str (w := w) (s := s) (sc := nnSc) (ps := ["L", "R"]) (cl := cl) (vals := [.int (L : Int) tL, .int (R : Int) tR]) (ds := [.int (L : Int), .int (R : Int)]) (tk := tk) (base := s) (R0 := fun a => a = D) (R := fun a => a = D)
      (σf := [("n", .int 1), ("digits", .list (ds.map .int))]) (ω := []) hcl he hcells hL hns keep rfl (.cons (.int _ _) (.cons (.int _ _) .nil)) (.refl _) (fun _ _ e => e) (fun a ha => ⟨by rw [ha, hD]; rfl, .inl ha⟩)
      (fun x c hx => let ⟨o, v, e, _⟩ := I.alive x c hx; ⟨o, e⟩) (fun y d hy => by
        rw [List.lookup_cons] at hy
        by_cases q : (y == ("n" : Str)) = true
        · rw [q] at hy; cases hy
          rw [eq_of_beq q]
          obtain ⟨t, c⟩ := I.cn
          exact ⟨by decide, _, _, I.ln, c, .int _ _⟩
        · simp only [Bool.not_eq_true] at q
          rw [q] at hy
          obtain ⟨rfl, rfl⟩ := look1 hy
          exact ⟨by decide, _, _, I.la, I.ca, .list rfl hD (RpAll.ofInts hv)⟩) nofun (fun y z ⟨d, hy⟩ => by cases hy)
    have bi : Bd h₀ env "inner" (.ref f) := .cell (he.free _ (by decide)).symm ⟨iC, by rw [hcells]; exact I.li, I.ci.keeps keep⟩
    have fin : ∀ {v : Value} {s' : Shared}, Ex s s' → (∃ t, v = .int r t) → Q v s' := fun {v s'} x ⟨t, e⟩ => by rw [e]; exact hQ s' t x
    unfold nni at h
    by_cases hLR : L + 1 = R
    · rw [if_pos hLR] at h
      have hlt : L < ds.length := (List.getElem?_eq_some_iff.mp h).1
      refine wpAny_mono (Ss.stop (prog := pw_hn0002_03) (w := w) (Γ := ⟨[], []⟩) (K := []) (k := j + 1) (d := .int r) (Sx.ite (b := true) (Tr.cmp (b := true) (Ev.bin (Ev.name (d := .int (L : Int)) (by rfl)) Ev.int BinOk.add) (Ev.name (d := .int (R : Int)) (by rfl)) (CmpOk.eqI' (by rw [beq_iff_eq]; omega))) (fun _ => Ss.stop (Sx.ret (Ev.sub (Ev.name (d := .list (ds.map .int)) (by rfl)) (Ev.name (d := .int (L : Int)) (by rfl)) (SubOk.list (by omega) (by omega) (by rw [Int.toNat_natCast, List.getElem?_map, h]; rfl))))) nofun) _ E' env _ _ _ hrm he hg ⟨_, t⟩) (fun fl s' hp => ?_) fun _ _ e => e
      obtain ⟨v, rfl, x, p⟩ := hp
      cases p
      exact fin x ⟨_, rfl⟩
    · rw [if_neg hLR] at h
      simp only at h
      split at h
      · rename_i hc
        obtain ⟨c1, c2⟩ := hc
        have e1 : ((L : Int) + (R : Int)).fdiv (2 ^ 1) = (((L + R) / 2 : Nat) : Int) := by rw [Int.fdiv_eq_ediv_of_nonneg _ (by decide)]; omega
        have e2 : ((((L + R) / 2 : Nat) : Int) - (L : Int)) * 1 = (((L + R) / 2 - L : Nat) : Int) := by omega
        generalize (L + R) / 2 = mid at *
        generalize hsh : mid - L = sh at *
        cases h1 : nni j ds mid R with
        | none => rw [h1] at h; cases h
        | some ra => cases h2 : nni j ds L mid with
          | none => rw [h1, h2] at h; cases h
          | some rb =>
            rw [h1, h2] at h
            simp only at h
            split at h
            · rename_i hbits
              cases h
              have ih1 := nn_ok j ds mid R ra h1
              have ih2 := nn_ok j ds L mid rb h2
              refine wpAny_execs_cons (wpAny_mono (Sx.ite (prog := pw_hn0002_03) (w := w) (Γ := ⟨[], []⟩) (K := ["inner"]) (k := j + 1) (σ := σ0) (ω := []) (r := .next σ0 []) (b := false) (Tr.cmp (Ev.bin (Ev.name (d := .int (L : Int)) (by rfl)) Ev.int BinOk.add) (Ev.name (d := .int (R : Int)) (by rfl)) (CmpOk.eqI' (by rw [beq_eq_false_iff_ne]; omega))) nofun (fun _ => Ss.nil) _ E' env _ _ _ hrm he hg ⟨_, t⟩) (fun fl s1 hp => ?_) fun _ _ e => e)
              obtain ⟨rfl, t1, _, _, _, b1⟩ := hp
              refine wpAny_execs_cons (wpAny_mono (Sx.assign (prog := pw_hn0002_03) (w := w) (Γ := ⟨[], []⟩) (K := ["inner"]) (k := j + 1) (σ := σ0) (ω := []) (d := .int (mid : Int)) (.inl (by decide)) (.of fun _ => rfl) (by rw [← e1]; exact Ev.bin (Ev.bin (Ev.name (d := .int (L : Int)) (by rfl)) (Ev.name (d := .int (R : Int)) (by rfl)) BinOk.add) Ev.int (BinOk.shr (n := 1))) (by decide) _ E' env _ _ _ hrm he hg t1) (fun fl s2 hp => ?_) fun _ _ e => e)
              obtain ⟨rfl, t2, _, _, _, b2⟩ := hp
              refine wpAny_execs_cons (wpAny_mono (Sx.assign (prog := pw_hn0002_03) (w := w) (Γ := ⟨[], []⟩) (K := ["inner"]) (k := j + 1) (d := .int (sh : Int)) (.inl (by decide)) (.of fun _ => rfl) (by rw [← e2]; exact Ev.bin (Ev.bin (Ev.name (d := .int (mid : Int)) (by rfl)) (Ev.name (d := .int (L : Int)) (by rfl)) BinOk.sub) (Ev.name (d := .int 1) (by rfl)) (BinOk.mul (.of_right (by decide +kernel)))) (by decide) _ E' env _ _ _ hrm he hg t2) (fun fl s3 hp => ?_) fun _ _ e => e)
              obtain ⟨rfl, ⟨R3, t3⟩, _, _, _, b3⟩ := hp
              have bi3 := b3 _ (by simp) _ (b2 _ (by simp) _ (b1 _ (by simp) _ bi))
              have J3 := I.keep t3.keep
              have D3 := t3.keep _ _ hD
              refine wpAny_execs_cons (wpAny_Return_some (wpAny_BinOp (wpAny_BinOp ?_)))
              refine nn_call J3 D3 hv bi3 t3.sr hrm he (by rfl) (by rfl) (by decide) (fun s6 Q tL tR J6 hD6 hQ6 => ih1 _ _ s6 Q f D fd cl aC iC nC vs m tL tR hrm J6 hD6 hv hz hQ6) fun s4 t4 x4 => ?_
              refine wpAny_mono (Ev.name (prog := pw_hn0002_03) (w := w) (Γ := ⟨[], []⟩) (k := j + 1) (d := .int (sh : Int)) (by rfl) (by decide) (by decide) _ E' env _ s4 hrm he (Γ0_in (J3.keep x4.keep).lim) (t3.sr.keep x4.keep)) (fun v5 s5 ⟨x5, p5⟩ => ?_) fun _ _ e => e
              refine wpAny_mono (BinOk.shl (prog := pw_hn0002_03) (w := w) (k := j + 1) (n := sh) (by omega) _ E' (fun _ => True) s5 _ _ hrm (.int ra t4) (p5.mv (.sub fun _ _ => trivial))) (fun v6 s6 ⟨x6, p6⟩ => ?_) fun _ _ e => e
              have x46 := x4.trans (x5.trans x6)
              refine nn_call (J3.keep x46.keep) (x46.keep _ _ D3) hv (bi3.keep x46.keep) (t3.sr.keep x46.keep) hrm he (by rfl) (by rfl) (by decide) (fun s6 Q tL tR J6 hD6 hQ6 => ih2 _ _ s6 Q f D fd cl aC iC nC vs m tL tR hrm J6 hD6 hv hz hQ6) fun s7 t7 x7 => ?_
              refine wpAny_mono (BinOk.add (prog := pw_hn0002_03) (w := w) (k := j + 1) _ E' (fun _ => True) s7 _ _ hrm (p6.mv (.sub fun _ _ => trivial) |>.scalar rfl) (.int rb t7)) (fun v8 s8 ⟨x8, p8⟩ => ?_) fun _ _ e => e
              cases p8
              have x38 := x46.trans (x7.trans x8)
              refine fin ⟨?_, fun b o e => x38.keep _ _ (t3.keep b o e)⟩ ⟨_, rfl⟩
              exact t3.same.trans x38.sm
            · cases h
      · cases h
end
end Mine

open PySem PySem.W PyProof.Rows
namespace Mine
open PySem.Challenge

structure TabFor (h : Heap) (mg : Str → Option Value) (fd : FuncData) (c P : Addr) : Prop where
  code : fd.code = .ref c
  hd : CodeHd h c P
  tab : h.get? P = some (tabObj #[])
  ns : h.Ns mainGlobals mg
  b : h.BuiltinsAt mg P
  ne : mainGlobals ≠ P

theorem Ns.kpT {h h' : Heap} {a P : Addr} {m ps} (x : h.Ns a m) (hP : h.get? P = some (tabObj ps)) (k : Kp (fun b => b = P) h h') : h'.Ns a m := by
  obtain ⟨o, es, ep, e, hd, r⟩ := x
  exact ⟨o, es, ep, k _ _ (fun q => by rw [q, hP] at e; cases e; cases hd) e, hd, r⟩
theorem GEnv.In.kpT {Γ : GEnv} {h h' : Heap} {P : Addr} (g : Γ.In h) (hP : h.get? P = some (tabObj #[])) (k : Kp (fun b => b = P) h h') : Γ.In h' where
  nolimit := let ⟨mc, a, b⟩ := g.nolimit; ⟨mc, Ns.kpT a hP k, b⟩
  names := fun x v e => let ⟨mg, a, b⟩ := g.names x v e; ⟨mg, Ns.kpT a hP k, b.imp id fun ⟨e, mb, c, d⟩ => ⟨e, mb, Ns.kpT c hP k, d⟩⟩
  fns := fun p hp => by
    obtain ⟨⟨o, e, hd⟩, ⟨c, oc, us, t, h1, h2, h3, h4⟩⟩ := g.fns p hp
    exact ⟨⟨o, k _ _ (fun q => by rw [q, hP] at e; cases e; cases hd) e, hd⟩, ⟨c, oc, us, t, h1, k _ _ (fun q => by rw [q, hP] at h2; cases h2; cases h3; cases h4) h2, h3, h4⟩⟩

theorem not_seq_tab {h : Heap} {P : Addr} {ps} (hP : h.get? P = some (tabObj ps)) : ¬ SeqAt h P := fun ⟨o, e, hn⟩ => by rw [hP] at e; cases e; exact hn _ rfl
theorem cell_name {sc : Scope} {n : Nat} {x : Str} {c : Addr} (h : (cellsFrom n sc.names []).lookup x = some c) : (x, NameKind.cell) ∈ sc.names := by
  by_cases q : (x, NameKind.cell) ∈ sc.names
  · exact q
  · rw [cellsFrom_other _ _ _ _ q] at h; cases h

theorem InnAt.keepAll {h h' : Heap} {f D fd cl aC iC nC} (I : InnAt h f D fd cl aC iC nC) (k : ∀ b o, h.get? b = some o → h'.get? b = some o) : InnAt h' f D fd cl aC iC nC := by
  obtain ⟨⟨⟨o, e, hd⟩, rc, q1, q2, q3, q4, q5, q6⟩, la, li, ln, inj, ca, ci, ⟨t, cn⟩, al, lim⟩ := I
  exact ⟨⟨⟨o, k _ _ e, hd⟩, rc.keeps k, q1, q2, q3, q4, q5, q6⟩, la, li, ln, inj, ca.keeps k, ci.keeps k, ⟨t, cn.keeps k⟩, fun x c hx => let ⟨o, v, e, r⟩ := al x c hx; ⟨o, v, k _ _ e, r⟩, lim.keeps k⟩

/-- the inner def's object -/
noncomputable def FnO (cl : List (Str × Addr)) (c' : Addr) (qual : Str) (o : Obj) : Prop :=
  ∃ fd, o.data = .func fd ∧ fd.scope = innSc ∧ fd.body = .stmts innBd ∧ fd.globals = mainGlobals ∧ fd.builtins = builtinsNs ∧ fd.closure = cl ∧ fd.code = .ref c' ∧ fd.qualname = qual ∧
    ∀ vals : List Value, vals.length = (["x", "L", "R"] : List Str).length → bindArgs fd ⟨vals, []⟩ = pure ((["x", "L", "R"] : List Str).zip vals)

section
variable {w : World} {Γ : GEnv}

set_option maxRecDepth 100000 in
theorem int2digits_ok {fa : Addr} {fd : FuncData} {mg : Str → Option Value} {c P : Addr} (F : FnIs Γ fa fd (scopeAt pw_hn0002_03 4) ["a", "n"] (bodyAt pw_hn0002_03 4)) (hL : Γ.names.lookup ("len" : Str) = some (.builtin "len")) (n : Nat) (dg : List Int) (hdg : digitsOf n = some dg) (hbits : Builtin.Int.intBits (n : Int) ≤ 100)
    (A : Around) (E : Value → Shared → Prop) (s : Shared) (Q : Value → Shared → Prop) (tn t1 : Tok) (hr : Room 20 A) (hg : Γ.In s.heap) (T : TabFor s.heap mg fd c P)
    (hQ : ∀ h' tk D vs m, Kp (fun b => b = P) s.heap h' → s.heap.get? D = none → h'.get? D = some (LObj vs m) → IntsAre vs.toList dg → GrownAt P h' → Q (.ref D) { s with heap := h', toks := tk }) :
    wpAny (model pw_hn0002_03 w) A (call (.ref fa) [.int (n : Int) tn, .int 1 t1]) Q E s := by
  refine F.enter (k := 19) (w := w) (by decide) (ds := [.int (n : Int), .int 1]) rfl (R := fun _ => False) (base := hid s P) hr hg (.cons (.int _ _) (.cons (.int _ _) .nil)) ⟨s.heap, s.toks, rfl⟩ hid_keep (fun s₁ E' he t x own hrm => ?_)
  have hgb : Γ.In (hid s P).heap := hg.kpT T.tab fun b o hb e => hid_get e hb
  generalize henv : callEnvC fd s.heap.objs.size fa = env at *
  have hcells : env.cells = cellsFrom (s.heap.objs.size + 1) (scopeAt pw_hn0002_03 4).names [] := by rw [← henv]; show cellsFrom _ fd.scope.names [] = _; rw [F.scope]
  have hcode : env.code = .ref c := by rw [← henv]; exact T.code
  have hb : ((Builtin.Int.intBits (n : Int) : Nat) : Int) = ((Builtin.Int.intBits (n : Int) : Int) + 1 - 1).fdiv 1 := by rw [Int.fdiv_one]; omega
  -- a_digits
  refine wpAny_execs_cons (wpAny_mono (Sx.own (prog := pw_hn0002_03) (w := w) (Γ := Γ) (K := []) (k := 19) (d := .list (List.replicate (Builtin.Int.intBits (n : Int)) (.int 0))) (.inr (by decide)) (.of fun _ => rfl) (EvF.rep (n := Builtin.Int.intBits (n : Int)) (Ev.list (.cons Ev.int .nil)) rfl
    (by
      rw [hb]
      exact Ev.bin (Ev.bin (Ev.bin (Ev.bitlen (Ev.name (d := .int (n : Int)) (by rfl))) (Ev.name (d := .int 1) (by rfl)) BinOk.add) Ev.int BinOk.sub) (Ev.name (d := .int 1) (by rfl)) (BinOk.fdiv (by decide) (by decide))) (Nat.le_trans hbits (by decide))) (by decide) _ E' env _ _ _ hrm he hgb ⟨_, t⟩) (fun fl s2 hp => ?_) fun _ _ e => e)
  obtain ⟨rfl, ⟨R2, t2'⟩, kp2, lv2, rt2, _⟩ := hp
  have t2 := t2'.seq
  obtain ⟨D, bD, dR, dO, dB, dr⟩ := t2.ow "a_digits" _ rfl
  have P1 : s₁.heap.get? P = some (tabObj #[]) := x.keep _ _ T.tab
  have pO : ¬ Own env (scopeAt pw_hn0002_03 4) P := fun q => by have := own P q; rw [T.tab] at this; cases this
  have P2 : s2.heap.get? P = some (tabObj #[]) := kp2 _ _ (fun q => q.elim pO fun ⟨y, ⟨d, hy⟩, _⟩ => by cases hy) P1
  have keep2 : ∀ b o, s.heap.get? b = some o → s2.heap.get? b = some o := fun b o e => kp2 _ _ (fun q => q.elim (fun q => by rw [own b q] at e; cases e) fun ⟨y, ⟨d, hy⟩, _⟩ => by cases hy) (x.keep _ _ e)
  have pR : ¬ Roots env [(("a_digits" : Str), PyData.list (List.replicate (Builtin.Int.intBits (n : Int)) (.int 0)))] s2.heap P := fun ⟨y, ⟨d, hy⟩, b⟩ => by
    obtain ⟨a, b', _, _, _, h4⟩ := t2.ow y d hy
    have := b.fn b'; cases this
    exact not_seq_tab P2 h4.at
  have pCell : ∀ y, env.cells.lookup y ≠ some P := fun y hy => by
    rw [hcells] at hy
    have q := cell_name hy
    exact pO (.inr ⟨y, nodup_lookup (by decide) q, by rw [hcells]; exact hy⟩)
  have hfree : ∀ y, (y, NameKind.free) ∈ innSc.names → ∃ c, env.cells.lookup y = some c := fun y hy => by
    have : y = "a_digits" ∨ y = "inner" ∨ y = "n" := by
      rw [show innSc.names = [(("x" : Str), NameKind.local), (("L" : Str), .local), (("R" : Str), .local), (("mid" : Str), .local), (("shift" : Str), .local), (("upper" : Str), .local), (("lower" : Str), .local), (("a_digits" : Str), .free), (("inner" : Str), .free), (("n" : Str), .free)] from rfl] at hy
      simpa using hy
    rcases this with rfl | rfl | rfl
    · exact he.has _ (.inl (by decide))
    · exact he.has _ (.inl (by decide))
    · exact he.has _ (.inl (by decide))
  obtain ⟨cl, hcl, cl1, cl2⟩ := closureFor_ok (env := env) (sc' := innSc) hfree
  -- def inner
  refine wpAny_execs_cons (nestDef_K rfl rfl rfl (makeFunction_K hcl he.gl (T.ns.keeps keep2) hcode (T.hd.keeps keep2) P2 trivial rfl T.ne (by
    obtain ⟨bm, o, b1, b2, b3, b4, b5, b6⟩ := T.b
    exact ⟨bm, o, b1, b2, b3, b4, keep2 _ _ b5, b6⟩) (fun c' ctv doc h' tk hx hge hlt hrec htb => ?_)))
  have key : ∀ fnO : Obj, FnO cl c' (qualnameIn env "inner" "inner") fnO → wpAny (model pw_hn0002_03 w) (A.deeper env) (storeName env "inner" (.ref h'.objs.size)) (fun _ s'' => wpAny (model pw_hn0002_03 w) (A.deeper env) (execs ((bodyAt pw_hn0002_03 4).drop 2) env) (fun f' s' => Q (match f' with | .ret v => v | _ => .none) s') E' s'') E' { s2 with heap := h'.push fnO, toks := tk } := by
    intro fnO hfn
    have k3 : Kp (fun b => b = P) s2.heap (h'.push fnO) := fun b o hb e => kpush _ _ _ _ (hx b o hb e)
    have t3 := t2.out (C := P) (tk := tk) k3 (fun q => not_seq_tab P2 q.2) pO hid_none pR (fun o c e q => by rw [P2] at e; cases e; cases q) pCell
    have b3 := bD.kpR k3 (fun q => pO (.inl q.symm)) (fun a o c q e e' => by cases q; rw [P2] at e; cases e; cases e')
    have ownLt : ∀ a, Own env (scopeAt pw_hn0002_03 4) a → a < s2.heap.objs.size := fun a ha => by obtain ⟨o, e⟩ := t2.fr.alive ha; exact Heap.lt_size e
    have hsz : s2.heap.objs.size ≤ h'.objs.size := Nat.le_trans hge (Nat.le_of_lt hlt)
    refine store he t3.fr (.inr (by decide)) (fun h4 tk4 kp4 fr4 b4 r4 => ?_)
    have t4 := t3.put (.mk h4 tk4) kp4 fr4 (fun y u hy b => r4 y u (by rintro rfl; rcases hy with ⟨d, hd⟩ | ⟨d, hd⟩ <;> cases hd) b)
    have bD4 := r4 _ _ (by decide) b3
    have fresh4 : ∀ b o, s2.heap.objs.size ≤ b → (h'.push fnO).get? b = some o → h4.get? b = some o := fun b o hb e => kp4 b o (fun q => absurd (ownLt b q) (Nat.not_lt.mpr hb)) e
    have P4 : GrownAt P h4 := ⟨_, kp4 _ _ pO (kpush _ _ _ _ htb)⟩
    obtain ⟨fd', f1, f2, f3, f4, f5, f6, f7, f8, f9⟩ := hfn
    have hf4 : h4.get? h'.objs.size = some fnO := fresh4 _ _ hsz (Heap.get?_push_size _ (by obtain ⟨_, _, _, _⟩ := fnO; simp only at f1; subst f1; rfl))
    have toCell : ∀ y v, (scopeAt pw_hn0002_03 4).names.lookup y = some .cell → Bd h4 env y v → ∃ c, env.cells.lookup y = some c ∧ h4.IsCell c (some v) := fun y v hy b => by
      cases b with
      | loc q _ => rw [he.cell y hy] at q; cases q
      | cell _ q => exact q
    obtain ⟨iC, ic1, ic2⟩ := toCell "inner" _ (by decide) b4
    obtain ⟨aC, ac1, ac2⟩ := toCell "a_digits" _ (by decide) bD4
    obtain ⟨vn, bn, pn⟩ := t4.sr.get "n" (.int 1) rfl
    obtain ⟨nC, nc1, nc2⟩ := toCell "n" _ (by decide) bn
    have look : ∀ y, (y, NameKind.free) ∈ innSc.names → ∀ c, env.cells.lookup y = some c → cl.lookup y = some c := fun y hy c hc => by
      obtain ⟨c2, h2⟩ := cl2 y hy
      have := cl1 y c2 h2
      rw [hc] at this; cases this; exact h2
    have lim4 : h4.NoLimit := (hgb.keep t4.keep).nolimit
    have J : InnAt h4 h'.objs.size D fd' cl aC iC nC := {
      C := ⟨⟨fnO, hf4, f1⟩, by
        rw [f7, f8]
        obtain ⟨c0, oc, us, tq, q1, q2, q3, q4⟩ := hrec
        cases q1
        exact ⟨c', oc, us, tq, rfl, fresh4 _ _ hge (kpush _ _ _ _ q2), q3, q4⟩, f2, f3, f4, f5, f6, f9⟩
      la := look _ (by decide) _ ac1
      li := look _ (by decide) _ ic1
      ln := look _ (by decide) _ nc1
      inj := fun x y c hx hy => he.inj x y c (cl1 x c hx) (cl1 y c hy)
      ca := ac2
      ci := ic2
      cn := by cases pn with | int i tt => exact ⟨tt, nc2⟩
      alive := fun y c hy => by
        have hc := cl1 y c hy
        have hm : (scopeAt pw_hn0002_03 4).names.lookup y = some .cell := by
          have h2 := hc
          rw [hcells] at h2
          exact nodup_lookup (by decide) (cell_name h2)
        obtain ⟨c2, v2, g1, o, g2, g3⟩ := fr4.cells y hm
        rw [hc] at g1; cases g1
        exact ⟨o, v2, g2, g3⟩
      lim := lim4 }
    have endq : ∀ (σ' : Sg) (s5 : Shared), ST w (hid s P) (fun a => False ∧ (s.heap.get? a).isSome = true) env (scopeAt pw_hn0002_03 4) σ' [(("a_digits" : Str), .list (dg.map .int))] s5 → Bd s5.heap env "a_digits" (.ref D) → GrownAt P s5.heap →
        wpAny (model pw_hn0002_03 w) (A.deeper env) (execs ((bodyAt pw_hn0002_03 4).drop 3) env) (fun f' s' => Q (match f' with | .ret v => v | _ => .none) s') E' s5 := by
      rintro σ' s5 ⟨R5, t5⟩ bD5 g5
      refine wpAny_execs_cons (wpAny_Return_some (loadBd he bD5 ?_ (by decide) (by decide)))
      obtain ⟨a, b, _, _, hB, h⟩ := t5.ow "a_digits" _ rfl
      have := bD5.fn b; cases this
      rcases h with ⟨vs, m, xs, e0, e, l⟩ | ⟨es, m, ks, xs, e0, _⟩
      · cases e0
        obtain ⟨hh, tk5, e5⟩ := t5.same
        subst e5
        refine hQ hh tk5 D vs m (fun b o hb e => t5.keep b o (hid_get e hb)) ?_ e l.ints g5
        cases q : s.heap.get? D with
        | none => rfl
        | some o =>
          have hne : D ≠ P := fun q => by
            obtain ⟨ps, e'⟩ := g5
            rw [← q] at e'
            have := e.symm.trans e'
            cases this
          rw [hid_get q hne] at hB; cases hB
      · cases e0
    have kpO : ∀ s5 : Shared, Ex { s2 with heap := h4, toks := tk4 } s5 → GrownAt P s5.heap := fun s5 x => let ⟨ps, e⟩ := P4; ⟨ps, x.keep _ _ e⟩
    have hrep : ∀ m : Nat, List.replicate m (PyData.int 0) = (List.replicate m (0 : Int)).map .int := fun m => by rw [List.map_replicate]
    rw [hrep] at t4
    unfold digitsOf at hdg
    simp only at hdg
    by_cases h0 : n = 0
    · rw [if_pos h0] at hdg
      cases hdg
      subst h0
      have hz : ((0 : Nat) : Int) = 0 := rfl
      refine wpAny_execs_cons (wpAny_If (wpAny_mono ((show Tr pw_hn0002_03 w Γ (scopeAt pw_hn0002_03 4) 19 _ _ false from Tr.plain (Ev.name (d := .int ((0 : Nat) : Int)) (by rfl)) truthy_I) _ _ env _ _ hrm he (hgb.keep t4.keep) t4.view) (fun b s5 ⟨eb, x5⟩ => ?_) fun _ _ e => e))
      subst eb
      exact wpAny_execs_nil (endq _ s5 ⟨_, t4.ex x5⟩ (bD4.keep x5.keep) (kpO s5 x5))
    · rw [if_neg h0] at hdg
      refine wpAny_execs_cons (wpAny_If (wpAny_mono ((show Tr pw_hn0002_03 w Γ (scopeAt pw_hn0002_03 4) 19 _ _ ((n : Int) != 0) from Tr.plain (Ev.name (d := .int (n : Int)) (by rfl)) truthy_I) _ _ env _ _ hrm he (hgb.keep t4.keep) t4.view) (fun b s5 ⟨eb, x5⟩ => ?_) fun _ _ e => e))
      rw [show ((n : Int) != 0) = true from by rw [bne_iff_ne]; omega] at eb
      subst eb
      have t5 := t4.ex x5
      have bD5 := bD4.keep x5.keep
      have bI5 := b4.keep x5.keep
      refine wpAny_execs_cons (wpAny_Expr_any (Call_ (loadBd he bI5 ?_ (by decide) (by decide))) (interactive_no he) (by rfl))
      have hf5 : FnAt h'.objs.size s5.heap := by
        obtain ⟨cls, dd, data, sl⟩ := fnO
        simp only at f1
        subst f1
        exact ⟨_, _, _, _, x5.keep _ _ hf4⟩
      refine callWith_F hf5 (wpAny_mono ((show Evs pw_hn0002_03 w Γ (scopeAt pw_hn0002_03 4) 19 _ _ [.int (n : Int), .int 0, .int ((((List.replicate (Builtin.Int.intBits (n : Int)) (0 : Int)).map PyData.int).length : Nat) : Int)] from
        .cons (Ev.name (by rfl)) (.cons Ev.int (.cons (Ev.call (by decide) hL (.builtin _) (.cons (Ev.name (d := .list ((List.replicate (Builtin.Int.intBits (n : Int)) (0 : Int)).map .int)) (by rfl)) .nil) (CallOk.len (by rw [List.length_map, List.length_replicate]; exact Nat.le_trans hbits (by decide)))) .nil))) _ _ env _ s5 _ hrm he (hgb.keep t5.keep) t5.view) (fun vals s6 ⟨x6, p6⟩ => ?_) fun _ _ e => e)
      refine ⟨by obtain ⟨oc, od, fd, sl, e⟩ := hf5; exact ⟨oc, od, fd, sl, x6.keep _ _ e⟩, ?_⟩
      rw [List.length_map, List.length_replicate] at p6
      cases p6 with
      | cons pa p6 => cases p6 with
        | cons pb p6 => cases p6 with
          | cons pc p6 =>
            cases p6; cases pa; cases pb; cases pc
            obtain ⟨D', bD', _, _, _, hD'⟩ := t5.ow "a_digits" _ rfl
            have := bD5.fn bD'; cases this
            rcases hD' with ⟨vs5, m5, xs5, e0, e5, l5⟩ | ⟨es, m, ks, xs, e0, _⟩
            · cases e0
              have x56 := x5.trans x6
              have J6 : InnAt s6.heap h'.objs.size D fd' cl aC iC nC := J.keepAll x56.keep
              refine inner_ok 8 (List.replicate (Builtin.Int.intBits (n : Int)) 0) (n : Int) 0 (Builtin.Int.intBits (n : Int)) dg hdg _ _ s6 _ h'.objs.size D fd' cl aC iC nC vs5 m5 _ _ _ (hrm.mono (by decide)) J6 (x6.keep _ _ e5) l5.ints fun h7 tk7 vs7 m7 kp7 e7 hi7 => ?_
              have hp := t5.turned (K := ["a_digits"]) (tk := tk7) x6 (x := "a_digits") (d := .list ((List.replicate (Builtin.Int.intBits (n : Int)) (0 : Int)).map .int)) (d' := .list (dg.map .int)) rfl rfl bD5 kp7 (.inl ⟨vs7, m7, _, rfl, e7, RpAll.ofInts hi7⟩)
              obtain ⟨_, st7, kpp, _, _, b7⟩ := hp
              obtain ⟨ps5, e5P⟩ := kpO s5 x5
              refine wpAny_execs_nil (endq _ _ st7 (b7 _ (by simp) _ bD5) ⟨ps5, kpp _ _ (fun q => ?_) e5P⟩)
              rcases q with q | ⟨y, ⟨d, hy⟩, b⟩
              · exact pO q
              · obtain ⟨a, b', _, _, _, h9⟩ := t5.ow y d hy
                have := b.fn b'; cases this
                exact not_seq_tab e5P h9.at
            · cases e0
  exact key _ ⟨_, rfl, rfl, rfl, rfl, rfl, rfl, rfl, rfl, fun vals h => by obtain ⟨a, b, c, rfl⟩ := list3 h; rfl⟩
end
end Mine

open PySem PySem.W PyProof.Rows
namespace Mine
open PySem.Challenge

/-- the inner def's object -/
noncomputable def FnO2 (cl : List (Str × Addr)) (c' : Addr) (qual : Str) (o : Obj) : Prop :=
  ∃ fd, o.data = .func fd ∧ fd.scope = nnSc ∧ fd.body = .stmts nnBd ∧ fd.globals = mainGlobals ∧ fd.builtins = builtinsNs ∧ fd.closure = cl ∧ fd.code = .ref c' ∧ fd.qualname = qual ∧
    ∀ vals : List Value, vals.length = (["L", "R"] : List Str).length → bindArgs fd ⟨vals, []⟩ = pure ((["L", "R"] : List Str).zip vals)

section
variable {w : World} {Γ : GEnv}

set_option maxRecDepth 100000 in
theorem digits2int_ok {fa : Addr} {fd : FuncData} {mg : Str → Option Value} {c P : Addr} (F : FnIs Γ fa fd (scopeAt pw_hn0002_03 5) ["digits", "n"] (bodyAt pw_hn0002_03 5)) (hL : Γ.names.lookup ("len" : Str) = some (.builtin "len")) (ds : List Int) (r : Int) (hr0 : nni 8 ds 0 ds.length = some r) (hne : ds ≠ []) (hz : ds.length ≤ 1000)
    (A : Around) (E : Value → Shared → Prop) (s : Shared) (Q : Value → Shared → Prop) (D : Addr) (vs : Array Value) (m : Nat) (t1 : Tok) (hr : Room 20 A) (hg : Γ.In s.heap) (T : TabFor s.heap mg fd c P) (hD : s.heap.get? D = some (LObj vs m)) (hv : IntsAre vs.toList ds)
    (hQ : ∀ h' tk t, Kp (fun b => b = P) s.heap h' → GrownAt P h' → Q (.int r t) { s with heap := h', toks := tk }) :
    wpAny (model pw_hn0002_03 w) A (call (.ref fa) [.ref D, .int 1 t1]) Q E s := by
  have hDP : D ≠ P := fun q => by rw [q, T.tab] at hD; cases hD
  refine F.enter (k := 19) (w := w) (by decide) (ds := [.list (ds.map .int), .int 1]) rfl (R := fun a => a = D) (base := hid s P) hr hg (.cons (.list rfl hD (RpAll.ofInts hv)) (.cons (.int _ _) .nil)) ⟨s.heap, s.toks, rfl⟩ hid_keep (fun s₁ E' he t x own hrm => ?_)
  have hgb : Γ.In (hid s P).heap := hg.kpT T.tab fun b o hb e => hid_get e hb
  generalize henv : callEnvC fd s.heap.objs.size fa = env at *
  have hcells : env.cells = cellsFrom (s.heap.objs.size + 1) (scopeAt pw_hn0002_03 5).names [] := by rw [← henv]; show cellsFrom _ fd.scope.names [] = _; rw [F.scope]
  have hcode : env.code = .ref c := by rw [← henv]; exact T.code
  have t2 := t.seq
  have P2 : s₁.heap.get? P = some (tabObj #[]) := x.keep _ _ T.tab
  have pO : ¬ Own env (scopeAt pw_hn0002_03 5) P := fun q => by have := own P q; rw [T.tab] at this; cases this
  have pR : ¬ Roots env [] s₁.heap P := fun ⟨y, ⟨d, hy⟩, b⟩ => by cases hy
  have pCell : ∀ y, env.cells.lookup y ≠ some P := fun y hy => by
    rw [hcells] at hy
    have q := cell_name hy
    exact pO (.inr ⟨y, nodup_lookup (by decide) q, by rw [hcells]; exact hy⟩)
  have hfree : ∀ y, (y, NameKind.free) ∈ nnSc.names → ∃ c, env.cells.lookup y = some c := fun y hy => by
    have : y = "digits" ∨ y = "inner" ∨ y = "n" := by
      rw [show nnSc.names = [(("L" : Str), NameKind.local), (("R" : Str), .local), (("mid" : Str), .local), (("shift" : Str), .local), (("digits" : Str), .free), (("inner" : Str), .free), (("n" : Str), .free)] from rfl] at hy
      simpa using hy
    rcases this with rfl | rfl | rfl
    · exact he.has _ (.inl (by decide))
    · exact he.has _ (.inl (by decide))
    · exact he.has _ (.inl (by decide))
  obtain ⟨cl, hcl, cl1, cl2⟩ := closureFor_ok (env := env) (sc' := nnSc) hfree
  refine wpAny_execs_cons (nestDef_K rfl rfl rfl (makeFunction_K hcl he.gl (T.ns.keeps x.keep) hcode (T.hd.keeps x.keep) P2 trivial rfl T.ne (by
    obtain ⟨bm, o, b1, b2, b3, b4, b5, b6⟩ := T.b
    exact ⟨bm, o, b1, b2, b3, b4, x.keep _ _ b5, b6⟩) (fun c' ctv doc h' tk hx hge hlt hrec htb => ?_)))
  have key : ∀ fnO : Obj, FnO2 cl c' (qualnameIn env "inner" "inner") fnO → wpAny (model pw_hn0002_03 w) (A.deeper env) (storeName env "inner" (.ref h'.objs.size)) (fun _ s'' => wpAny (model pw_hn0002_03 w) (A.deeper env) (execs ((bodyAt pw_hn0002_03 5).drop 1) env) (fun f' s' => Q (match f' with | .ret v => v | _ => .none) s') E' s'') E' { s₁ with heap := h'.push fnO, toks := tk } := by
    intro fnO hfn
    have k3 : Kp (fun b => b = P) s₁.heap (h'.push fnO) := fun b o hb e => kpush _ _ _ _ (hx b o hb e)
    have t3 := t2.out (C := P) (tk := tk) k3 (fun q => not_seq_tab P2 q.2) pO hid_none pR (fun o c e q => by rw [P2] at e; cases e; cases q) pCell
    have ownLt : ∀ a, Own env (scopeAt pw_hn0002_03 5) a → a < s₁.heap.objs.size := fun a ha => by obtain ⟨o, e⟩ := t2.fr.alive ha; exact Heap.lt_size e
    have hsz : s₁.heap.objs.size ≤ h'.objs.size := Nat.le_trans hge (Nat.le_of_lt hlt)
    refine store he t3.fr (.inr (by decide)) (fun h4 tk4 kp4 fr4 b4 r4 => ?_)
    have t4 := t3.put (.mk h4 tk4) kp4 fr4 (fun y u hy b => r4 y u (by rintro rfl; rcases hy with ⟨d, hd⟩ | ⟨d, hd⟩ <;> cases hd) b)
    have fresh4 : ∀ b o, s₁.heap.objs.size ≤ b → (h'.push fnO).get? b = some o → h4.get? b = some o := fun b o hb e => kp4 b o (fun q => absurd (ownLt b q) (Nat.not_lt.mpr hb)) e
    have P4 : GrownAt P h4 := ⟨_, kp4 _ _ pO (kpush _ _ _ _ htb)⟩
    obtain ⟨fd', f1, f2, f3, f4, f5, f6, f7, f8, f9⟩ := hfn
    have hf4 : h4.get? h'.objs.size = some fnO := fresh4 _ _ hsz (Heap.get?_push_size _ (by obtain ⟨_, _, _, _⟩ := fnO; simp only at f1; subst f1; rfl))
    have toCell : ∀ y v, (scopeAt pw_hn0002_03 5).names.lookup y = some .cell → Bd h4 env y v → ∃ c, env.cells.lookup y = some c ∧ h4.IsCell c (some v) := fun y v hy b => by
      cases b with
      | loc q _ => rw [he.cell y hy] at q; cases q
      | cell _ q => exact q
    obtain ⟨iC, ic1, ic2⟩ := toCell "inner" _ (by decide) b4
    obtain ⟨vd, bd, pd⟩ := t4.sr.get "digits" (.list (ds.map .int)) rfl
    obtain ⟨aC, ac1, ac2⟩ := toCell "digits" _ (by decide) bd
    obtain ⟨vn, bn, pn⟩ := t4.sr.get "n" (.int 1) rfl
    obtain ⟨nC, nc1, nc2⟩ := toCell "n" _ (by decide) bn
    have look : ∀ y, (y, NameKind.free) ∈ nnSc.names → ∀ c, env.cells.lookup y = some c → cl.lookup y = some c := fun y hy c hc => by
      obtain ⟨c2, h2⟩ := cl2 y hy
      have := cl1 y c2 h2
      rw [hc] at this; cases this; exact h2
    have lim4 : h4.NoLimit := (hgb.keep t4.keep).nolimit
    cases pd with
    | @list D4 vs4 m4 _ hR4 e4 l4 =>
      have J : NnAt h4 h'.objs.size D4 fd' cl aC iC nC := {
        C := ⟨⟨fnO, hf4, f1⟩, by
          rw [f7, f8]
          obtain ⟨c0, oc, us, tq, q1, q2, q3, q4⟩ := hrec
          cases q1
          exact ⟨c', oc, us, tq, rfl, fresh4 _ _ hge (kpush _ _ _ _ q2), q3, q4⟩, f2, f3, f4, f5, f6, f9⟩
        la := look _ (by decide) _ ac1
        li := look _ (by decide) _ ic1
        ln := look _ (by decide) _ nc1
        inj := fun x y c hx hy => he.inj x y c (cl1 x c hx) (cl1 y c hy)
        ca := ac2
        ci := ic2
        cn := by cases pn with | int i tt => exact ⟨tt, nc2⟩
        alive := fun y c hy => by
          have hc := cl1 y c hy
          have hm : (scopeAt pw_hn0002_03 5).names.lookup y = some .cell := by
            have h2 := hc
            rw [hcells] at h2
            exact nodup_lookup (by decide) (cell_name h2)
          obtain ⟨c2, v2, g1, o, g2, g3⟩ := fr4.cells y hm
          rw [hc] at g1; cases g1
          exact ⟨o, v2, g2, g3⟩
        lim := lim4 }
      have lz : (ds.map PyData.int).length ≤ sizeLine := by rw [List.length_map]; exact Nat.le_trans hz (by decide)
      have htr : (!(ds.map PyData.int).isEmpty) = true := by cases ds with | nil => exact absurd rfl hne | cons _ _ => rfl
      refine wpAny_execs_cons (wpAny_Return_some (IfExp_ (wpAny_mono ((show Tr pw_hn0002_03 w Γ (scopeAt pw_hn0002_03 5) 19 _ _ (!(ds.map PyData.int).isEmpty) from Tr.plain (Ev.name (d := .list (ds.map .int)) (by rfl)) (truthy_list lz)) _ _ env _ _ hrm he (hgb.keep t4.keep) t4.sr) (fun b s5 ⟨eb, x5⟩ => ?_) fun _ _ e => e)))
      rw [htr] at eb
      subst eb
      have t5 := t4.ex x5
      refine Call_ (loadBd he (b4.keep x5.keep) ?_ (by decide) (by decide))
      have hf5 : FnAt h'.objs.size s5.heap := by
        obtain ⟨cls, dd, data, sl⟩ := fnO
        simp only at f1
        subst f1
        exact ⟨_, _, _, _, x5.keep _ _ hf4⟩
      refine callWith_F hf5 (wpAny_mono ((show Evs pw_hn0002_03 w Γ (scopeAt pw_hn0002_03 5) 19 _ _ [.int 0, .int (((ds.map PyData.int).length : Nat) : Int)] from
        .cons Ev.int (.cons (Ev.call (by decide) hL (.builtin _) (.cons (Ev.name (d := .list (ds.map .int)) (by rfl)) .nil) (CallOk.len lz)) .nil)) _ _ env _ s5 _ hrm he (hgb.keep t5.keep) t5.sr) (fun vals s6 ⟨x6, p6⟩ => ?_) fun _ _ e => e)
      refine ⟨by obtain ⟨oc, od, fd, sl, e⟩ := hf5; exact ⟨oc, od, fd, sl, x6.keep _ _ e⟩, ?_⟩
      rw [List.length_map] at p6
      cases p6 with
      | cons pa p6 => cases p6 with
        | cons pb p6 =>
          cases p6; cases pa; cases pb
          have x56 := x5.trans x6
          refine nn_ok 8 ds 0 ds.length r hr0 _ _ s6 _ h'.objs.size D4 fd' cl aC iC nC vs4 m4 _ _ (hrm.mono (by decide)) (J.keep x56.keep) (x56.keep _ _ e4) l4.ints hz fun s7 t7 x7 => ?_
          have x57 := x56.trans x7
          have t7' := t4.ex x57
          obtain ⟨hh, tkk, e7⟩ := t7'.same
          obtain ⟨ps, eP⟩ := P4
          have gP : GrownAt P s7.heap := ⟨ps, x57.keep _ _ eP⟩
          have kP : Kp (fun b => b = P) s.heap s7.heap := fun b o hb e => t7'.keep b o (hid_get e hb)
          subst e7
          exact hQ hh tkk t7 kP gP
  exact key _ ⟨_, rfl, rfl, rfl, rfl, rfl, rfl, rfl, rfl, fun vals h => by obtain ⟨a, b, rfl⟩ := list2 h; rfl⟩
end
end Mine

open PySem PySem.W PyProof.Rows
namespace Mine
open PySem.Challenge

noncomputable def pcStepL (ties : List NP) : List Nat × List (List Nat) → Option (Option (List Nat × List (List Nat))) := fun a =>
  match a.1 with
  | [] => some none
  | x :: _ => match pieceOf a.1 ties x with
    | none => none
    | some q => some (some (a.1.filter fun y => !inN y (dedN q), a.2 ++ [dedN q]))
noncomputable def piecesL (places : List Nat) (ties : List NP) : Option (List (List Nat)) := (iter (pcStepL ties) 20 (places, [])).map (·.2)

section
variable {w : World} {Γ : GEnv} {k : Nat}

set_option maxRecDepth 100000 in
theorem law_pieces_ok {f : Addr} {fd : FuncData} (F : FnIs Γ f fd (scopeAt pw_hn0002_03 7) ["places", "ties"] (bodyAt pw_hn0002_03 7)) (hL : Γ.names.lookup ("list" : Str) = some (.type "list")) (hD : Γ.names.lookup ("dict" : Str) = some (.type "dict")) (hMin : Γ.names.lookup ("min" : Str) = some (.builtin "min")) (hMax : Γ.names.lookup ("max" : Str) = some (.builtin "max"))
    {places : List Nat} {ties : List NP} {c : List (List Nat)} (hc : piecesL places ties = some c) (hz : places.length ≤ 100) :
    CallOk pw_hn0002_03 w Γ (k + 1) (.ref f) [lN places, lP ties] (.list (c.map lN)) := by
  refine F.call (by decide) rfl ?_
  obtain ⟨z, hz', rfl⟩ := Option.map_eq_some_iff.mp hc
  obtain ⟨n, P, hn, h0, hzz, he, hs⟩ := iter_seq hz'
  have hlen : ∀ i, i ≤ n → (P i).1.length ≤ 100 ∧ (P i).2.length ≤ i := by
    intro i
    induction i with
    | zero => intro _; rw [h0]; exact ⟨hz, Nat.le_refl _⟩
    | succ i ih =>
      intro hi
      obtain ⟨h1, h2⟩ := ih (by omega)
      have hp := hs i hi
      unfold pcStepL at hp
      split at hp
      · cases hp
      · split at hp
        · cases hp
        · rw [← Option.some.inj (Option.some.inj hp)]
          exact ⟨Nat.le_trans (List.length_filter_le _ _) h1, by rw [List.length_append]; exact Nat.succ_le_succ h2⟩
  refine Ss.cons (Sx.asg2s (k1 := .plain) (k2 := .own) (.inl (by decide)) (.inl (by decide)) (Swaps.of2 (by decide) (by decide)) (.plain (Ev.call1 (by decide) hL (.type _) (Ev.name (d := lN places) (by rfl)) (CallOk.listL (sz' (by rw [List.length_map]; omega))))) (.own EvF.nil)) ?_
  refine Ss.cons (Sx.while_ (fun i => ([("left", lN (P i).1), ("places", lN places), ("ties", lP ties)], [("found", .list ((P i).2.map lN))])) n (sub_of (by rw [h0]; exact ⟨rfl, rfl, rfl, trivial⟩)) (by simp only [h0]; rfl) (fun i hi => ?_) ?_ (fun i hi => ?_)) ?_
  · have hp := hs i hi
    have hne : ((P i).1.map nI).isEmpty = false := by
      unfold pcStepL at hp
      split at hp
      · cases hp
      · rename_i e; rw [e]; rfl
    exact Tr.cmp (Ev.name (d := lN (P i).1) (by rfl)) Ev.nil (CmpOk.neNil' (shaped_nI _) hne)
  · have hne : ((P n).1.map nI).isEmpty = true := by
      unfold pcStepL at he
      rw [← hzz] at he
      split at he
      · rename_i e; rw [e]; rfl
      · split at he <;> cases he
    exact Tr.cmp (Ev.name (d := lN (P n).1) (by rfl)) Ev.nil (CmpOk.neNil' (shaped_nI _) hne)
  · have hp := hs i hi
    obtain ⟨hl, hfl⟩ := hlen i (by omega)
    generalize P (i + 1) = Pn at hp ⊢
    generalize P i = Pi at hp hl hfl ⊢
    obtain ⟨left, fnd⟩ := Pi
    unfold pcStepL at hp
    split at hp
    · cases hp
    rename_i x tl e
    simp only at e hl hfl hp ⊢
    split at hp
    · cases hp
    rename_i q hq
    obtain rfl := Option.some.inj (Option.some.inj hp)
    obtain ⟨m, G, hm, g0, gm, ge, gl, gs⟩ := growSeq hq
    simp only
    refine Ss.cons (Sx.own (.inr (by decide)) (.of fun _ => rfl) (EvF.list (ds := [nI x]) (.cons (Ev.idx (i := 0) (Ev.name (d := lN left) (by rfl)) Ev.int (by rw [e]; rfl) (by rw [List.length_map]; omega)) .nil) (by show 1 ≤ sizeLine; decide))) ?_
    refine Ss.cons (Sx.forGrow (x := "piece") (fun _ => [("left", lN left), ("places", lN places), ("ties", lP ties)]) (fun i => [("piece", lN (G i)), ("found", .list (fnd.map lN))]) (fun i => (G i).map nI) m (fun i _ => rfl) (fun j hj => ?_) (by rw [List.length_map, gm]; exact ge) (h0ω := by rw [g0]; rfl)) ?_
    · obtain ⟨y, hy, hg⟩ := gs j hj
      have hgl := gl j (by omega)
      refine ⟨nI y, _, by rw [List.getElem?_map, hy]; rfl, Tgt.name (.inr (by decide)), fun z hz => by (rw [List.mem_singleton.mp hz]; rfl), ⟨rfl, rfl, trivial⟩, ?_⟩
      rw [hg]
      have hjl : j * left.length ≤ 20 * 100 := Nat.mul_le_mul (by omega) hl
      refine Ss.cons (Sx.extend (xs := (G j).map nI) (ys := (left.filter fun t => !inN t (G j) && adj ties y t).map nI) (by rfl) (by rfl) (.inr ⟨EvF.ev (EvF.filt1 left nI (fun t => !inN t (G j) && adj ties y t) (It.list (Ev.name (d := lN left) (by rfl))) trivial (by omega) (fun t ht => ?_)), scalar_nI _⟩) (sz' (by
        have := List.length_filter_le (fun t => !inN t (G j) && adj ties y t) left
        simp only [List.length_map]; omega))) ?_
      · exact Tr.and2 (Tr.cmp (Ev.name (d := nI t) (by rfl)) (Ev.name (d := lN (G j)) (by rfl)) CmpOk.notInNs) fun _ => Tr.cmp (Ev.ordE ⟨hMin, hMax, by decide, by decide⟩ (Ev.name (d := nI y) (by rfl)) (Ev.name (d := nI t) (by rfl)) (Ev.name (by rfl)) (Ev.name (by rfl))) (Ev.name (d := lP ties) (by rfl)) CmpOk.inPs
      rw [← List.map_append]
      exact Ss.nil.to
    have hql : q.length ≤ 3000 := by
      have := gl m (Nat.le_refl _)
      rw [gm] at this
      have : m * left.length ≤ 20 * 100 := Nat.mul_le_mul hm hl
      omega
    have hdl : (dedN q).length ≤ 3000 := Nat.le_trans (ded_len inN q []) (by show 0 + _ ≤ _; omega)
    rw [gm]
    refine Ss.cons (Sx.asg (kd := .plain) (d := lN (dedN q)) (.inr (by decide)) (.of fun _ => rfl) (.flatP (EvF.listDictN (by decide) hL (Ev.call1 (by decide) hD (.type _) (EvF.ev (EvF.mapE q nI (fun x => PyData.tuple [nI x, .int 1]) (It.list (Ev.name (d := lN q) (by rfl))) trivial (by omega) fun x hx => Ev.tup2 (Ev.name (by rfl)) Ev.int)) (CallOk.dictNs (by omega))) (by omega)) (scalar_nI _))) ?_
    refine Ss.cons (Sx.append (xs := fnd.map lN) (d := lN (dedN q)) (by rfl) (by rfl) (.plain (Ev.name (by rfl))) (sz' (by rw [List.length_map]; omega))) ?_
    rw [show fnd.map lN ++ [lN (dedN q)] = (fnd ++ [dedN q]).map lN from by simp]
    refine Ss.cons (Sx.comp1 left nI (fun t => if (!inN t (dedN q)) = true then some (nI t) else none) .plain (by decide) (.inl rfl) (It.list (Ev.name (d := lN left) (by rfl))) trivial (fun t ht => ⟨_, Tgt.name (.inl (by decide)), ⟨rfl, trivial⟩, ?_, fun z hz => ?_⟩) (sz' (by omega))) ?_
    · rw [ite_isSome]
      exact Tests.one (Tr.cmp (Ev.name (d := nI t) (by rfl)) (Ev.name (d := lN (dedN q)) (by rfl)) CmpOk.notInNs)
    · rw [ite_get hz]; exact Ev.name (by rfl)
    rw [filterMap_ite]
    exact Ss.nil.to
  · refine Ss.stop (Sx.ret (Ev.name (by rw [hzz]; rfl)))
end
end Mine

open PySem PySem.W PyProof.Rows
namespace Mine
open PySem.Challenge

noncomputable abbrev Q4 := Nat × Nat × Nat × Nat
noncomputable def qD (q : Q4) : PyData := .tuple [nI q.1, nI q.2.1, nI q.2.2.1, nI q.2.2.2]
noncomputable def nearP (a b c d : Nat) : List NP := [(a, b), (b, c), (c, d), (a, c), (b, d), (a, d)]
noncomputable def nears (ties : List NP) (a b c d : Nat) : List Bool := (nearP a b c d).map fun p => adj ties p.1 p.2
noncomputable def rowIs (ties : List NP) (a b c d : Nat) : Bool := decide (nears ties a b c d = [true, true, true, false, false, false])
noncomputable def four (a b c d : Nat) : Bool := Nat.blt a d && Nat.beq (dedN [a, b, c, d]).length 4
noncomputable def row1 (ties : List NP) (a b c d : Nat) : List Q4 := if (four a b c d && rowIs ties a b c d) = true then [(a, b, c, d)] else []
noncomputable def rows3 (ties : List NP) (a b c n : Nat) : List Q4 := (List.range n).flatMap fun d => row1 ties a b c d
noncomputable def rows2 (m : Nat) (ties : List NP) (a b n : Nat) : List Q4 := (List.range n).flatMap fun c => rows3 ties a b c m
noncomputable def rows1 (m : Nat) (ties : List NP) (a n : Nat) : List Q4 := (List.range n).flatMap fun b => rows2 m ties a b m
noncomputable def rows0 (m : Nat) (ties : List NP) (n : Nat) : List Q4 := (List.range n).flatMap fun a => rows1 m ties a m
theorem flat_succ {α : Type} (f : Nat → List α) (n : Nat) : (List.range (n + 1)).flatMap f = (List.range n).flatMap f ++ f n := by
  rw [List.range_succ, List.flatMap_append]; simp
theorem flat_len {α : Type} (f : Nat → List α) (c : Nat) (h : ∀ i, (f i).length ≤ c) : ∀ n, ((List.range n).flatMap f).length ≤ n * c
  | 0 => by simp
  | n + 1 => by rw [flat_succ, List.length_append, Nat.succ_mul]; have := flat_len f c h n; have := h n; omega
theorem row1_len (ties : List NP) (a b c d : Nat) : (row1 ties a b c d).length ≤ 1 := by unfold row1; split <;> simp
theorem rows3_len (ties : List NP) (a b c n : Nat) : (rows3 ties a b c n).length ≤ n * 1 := flat_len _ 1 (fun d => row1_len ties a b c d) n
theorem rows2_len (m : Nat) (ties : List NP) (a b n : Nat) : (rows2 m ties a b n).length ≤ n * (m * 1) := flat_len _ _ (fun c => rows3_len ties a b c m) n
theorem rows1_len (m : Nat) (ties : List NP) (a n : Nat) : (rows1 m ties a n).length ≤ n * (m * (m * 1)) := flat_len _ _ (fun b => rows2_len m ties a b m) n
theorem rows0_len (m : Nat) (ties : List NP) (n : Nat) : (rows0 m ties n).length ≤ n * (m * (m * (m * 1))) := flat_len _ _ (fun a => rows1_len m ties a m) n
theorem lay_bools : ∀ bs : List Bool, PyData.canLayAll0 (bs.map .bool) = true ∧ PyData.depthAll (bs.map .bool) ≤ 1
  | [] => ⟨rfl, by simp [PyData.depthAll]⟩
  | b :: r => by
    obtain ⟨h1, h2⟩ := lay_bools r
    simp only [List.map_cons, PyData.canLayAll0, PyData.canLay0, h1, Bool.true_and, PyData.depthAll, PyData.depth]
    exact ⟨trivial, by omega⟩
theorem shaped_bools (bs : List Bool) : PySem.SeqAt.shaped (.list (bs.map .bool)) = true := by
  obtain ⟨h1, h2⟩ := lay_bools bs
  unfold PySem.SeqAt.shaped
  rw [PyData.canLay0, h1, PyData.depth, Bool.true_and]
  exact decide_eq_true (by omega)
theorem eqv_bools : ∀ a b : List Bool, PyData.eqvAll (a.map .bool) (b.map .bool) = decide (a = b)
  | [], [] => by simp [PyData.eqvAll]
  | [], _ :: _ => by simp [PyData.eqvAll]
  | _ :: _, [] => by simp [PyData.eqvAll]
  | x :: a, y :: b => by
    simp only [List.map_cons, PyData.eqvAll, eqv_bools a b, List.cons.injEq]
    cases x <;> cases y <;> simp [PyData.eqv]

section
variable {w : World} {Γ : GEnv} {k : Nat}
theorem CmpOk.eqBools {prog : Program} {a b : List Bool} : CmpOk prog w k .Eq (.list (a.map .bool)) (.list (b.map .bool)) (decide (a = b)) := by
  have := CmpOk.eq (prog := prog) (w := w) (k := k) (shaped_bools a) (shaped_bools b)
  rwa [PyData.eqv, eqv_bools] at this
theorem Tr.as {prog : Program} {sc : Scope} {σ : Sg} {e : Expr} {a b : Bool} (h : a = b) (t : Tr prog w Γ sc k σ e a) : Tr prog w Γ sc k σ e b := h ▸ t

set_option maxRecDepth 100000 in
theorem law_rows_ok {f : Addr} {fd : FuncData} (F : FnIs Γ f fd (scopeAt pw_hn0002_03 8) ["many", "ties"] (bodyAt pw_hn0002_03 8)) (hR : Γ.names.lookup ("range" : Str) = some (.type "range")) (hL : Γ.names.lookup ("len" : Str) = some (.builtin "len")) (hD : Γ.names.lookup ("dict" : Str) = some (.type "dict")) (hMin : Γ.names.lookup ("min" : Str) = some (.builtin "min")) (hMax : Γ.names.lookup ("max" : Str) = some (.builtin "max"))
    {many : Nat} {ties : List NP} (hm : many ≤ 10) : CallOk pw_hn0002_03 w Γ (k + 1) (.ref f) [nI many, lP ties] (.list ((rows0 many ties many).map qD)) := by
  refine F.call (by decide) rfl ?_
  have b1 : many * 1 ≤ 10 := by omega
  have b2 : many * (many * 1) ≤ 10 * 10 := Nat.mul_le_mul hm b1
  have b3 : many * (many * (many * 1)) ≤ 10 * (10 * 10) := Nat.mul_le_mul hm b2
  have b4 : many * (many * (many * (many * 1))) ≤ 10 * (10 * (10 * 10)) := Nat.mul_le_mul hm b3
  have hr : ∀ {n i : Nat} {d : PyData}, ((List.range n).map fun i : Nat => PyData.int (i : Int))[i]? = some d → i < n ∧ d = nI i := fun {n i d} h => by
    have hi := (List.getElem?_eq_some_iff.mp h).1
    rw [List.length_map, List.length_range] at hi
    rw [List.getElem?_map, List.getElem?_range hi] at h
    cases h; exact ⟨hi, rfl⟩
  refine Ss.cons (Sx.own (.inl (by decide)) (.of fun _ => rfl) EvF.nil) ?_
  refine Ss.cons (Sx.for_ (fun _ => [("many", nI many), ("ties", lP ties)]) (fun i => [("found", .list ((rows0 many ties i).map qD))]) (It.range0 (n := many) (by decide) hR (Ev.name (d := nI many) (by rfl)) (by omega)) trivial fun a d hd => ?_) ?_
  · obtain ⟨ha, rfl⟩ := hr hd
    have l0 := rows0_len many ties a
    have m0 : a * (many * (many * (many * 1))) ≤ 10 * (10 * (10 * 10)) := Nat.mul_le_mul (by omega) b3
    refine ⟨_, Tgt.name (.inl (by decide)), nofun, ⟨rfl, trivial⟩, ?_⟩
    rw [show rows0 many ties (a + 1) = rows0 many ties a ++ rows1 many ties a many from flat_succ _ _]
    generalize rows0 many ties a = F0 at l0 ⊢
    refine Ss.cons (Sx.for_ (fun _ => [("a", nI a), ("many", nI many), ("ties", lP ties)]) (fun i => [("found", .list ((F0 ++ rows1 many ties a i).map qD))]) (It.range0 (n := many) (by decide) hR (Ev.name (d := nI many) (by rfl)) (by omega)) trivial (fun b d hd => ?_) (h0ω := by rw [show rows1 many ties a 0 = [] from rfl, List.append_nil])) (by rw [List.length_map, List.length_range]; exact Ss.nil.to)
    obtain ⟨hb, rfl⟩ := hr hd
    have l1 := rows1_len many ties a b
    have m1 : b * (many * (many * 1)) ≤ 10 * (10 * 10) := Nat.mul_le_mul (by omega) b2
    refine ⟨_, Tgt.name (.inl (by decide)), nofun, ⟨rfl, trivial⟩, ?_⟩
    rw [show rows1 many ties a (b + 1) = rows1 many ties a b ++ rows2 many ties a b many from flat_succ _ _, ← List.append_assoc]
    have l01 : (F0 ++ rows1 many ties a b).length ≤ 11000 := by rw [List.length_append]; omega
    generalize F0 ++ rows1 many ties a b = F1 at l01 ⊢
    refine Ss.cons (Sx.for_ (fun _ => [("b", nI b), ("a", nI a), ("many", nI many), ("ties", lP ties)]) (fun i => [("found", .list ((F1 ++ rows2 many ties a b i).map qD))]) (It.range0 (n := many) (by decide) hR (Ev.name (d := nI many) (by rfl)) (by omega)) trivial (fun c d hd => ?_) (h0ω := by rw [show rows2 many ties a b 0 = [] from rfl, List.append_nil])) (by rw [List.length_map, List.length_range]; exact Ss.nil.to)
    obtain ⟨hc, rfl⟩ := hr hd
    have l2 := rows2_len many ties a b c
    have m2 : c * (many * 1) ≤ 10 * 10 := Nat.mul_le_mul (by omega) b1
    refine ⟨_, Tgt.name (.inl (by decide)), nofun, ⟨rfl, trivial⟩, ?_⟩
    rw [show rows2 many ties a b (c + 1) = rows2 many ties a b c ++ rows3 ties a b c many from flat_succ _ _, ← List.append_assoc]
    have l012 : (F1 ++ rows2 many ties a b c).length ≤ 12000 := by rw [List.length_append]; omega
    generalize F1 ++ rows2 many ties a b c = F2 at l012 ⊢
    refine Ss.cons (Sx.for_ (fun _ => [("c", nI c), ("b", nI b), ("a", nI a), ("many", nI many), ("ties", lP ties)]) (fun i => [("found", .list ((F2 ++ rows3 ties a b c i).map qD))]) (It.range0 (n := many) (by decide) hR (Ev.name (d := nI many) (by rfl)) (by omega)) trivial (fun e d hd => ?_) (h0ω := by rw [show rows3 ties a b c 0 = [] from rfl, List.append_nil])) (by rw [List.length_map, List.length_range]; exact Ss.nil.to)
    obtain ⟨he, rfl⟩ := hr hd
    have l3 := rows3_len ties a b c e
    refine ⟨_, Tgt.name (.inl (by decide)), nofun, ⟨rfl, trivial⟩, ?_⟩
    rw [show rows3 ties a b c (e + 1) = rows3 ties a b c e ++ row1 ties a b c e from flat_succ _ _, ← List.append_assoc]
    have l0123 : (F2 ++ rows3 ties a b c e).length ≤ 13000 := by rw [List.length_append]; omega
    generalize F2 ++ rows3 ties a b c e = F3 at l0123 ⊢
    unfold row1
    refine Ss.cons (Sx.ite (b := four a b c e) (Tr.and2 (Tr.cmp (Ev.name (d := nI a) (by rfl)) (Ev.name (d := nI e) (by rfl)) CmpOk.ltN) fun _ => Tr.cmp (Ev.call1 (by decide) hL (.builtin _) (Ev.call1 (by decide) hD (.type _) (EvF.ev (EvF.mapE [a, b, c, e] nI (fun x => PyData.tuple [nI x, .int 1]) (It.list (Ev.list (ds := [nI a, nI b, nI c, nI e]) (.cons (Ev.name (by rfl)) (.cons (Ev.name (by rfl)) (.cons (Ev.name (by rfl)) (.cons (Ev.name (by rfl)) .nil)))) (by show 4 ≤ sizeLine; decide))) trivial (by show 4 ≤ 100000; decide) fun x hx => Ev.tup2 (Ev.name (by rfl)) Ev.int)) (CallOk.dictNs (by show 4 ≤ 100000; decide))) (CallOk.lenDN (Nat.le_trans (ded_len inN _ []) (by show 0 + 4 ≤ 100000; decide)))) (Ev.int (i := (4 : Nat))) CmpOk.eqN) (fun hf => ?_) fun hf => ?_) Ss.nil
    · rw [hf, Bool.true_and]
      refine Ss.cons (Sx.comp1 (nearP a b c e) pN (fun p => some (.bool (adj ties p.1 p.2))) .plain (T := fun _ => True) (by decide) (.inl rfl) (It.list (Ev.list (ds := [pN (a, b), pN (b, c), pN (c, e), pN (a, c), pN (b, e), pN (a, e)]) (.cons (Ev.tup2 (Ev.name (by rfl)) (Ev.name (by rfl))) (.cons (Ev.tup2 (Ev.name (by rfl)) (Ev.name (by rfl))) (.cons (Ev.tup2 (Ev.name (by rfl)) (Ev.name (by rfl))) (.cons (Ev.tup2 (Ev.name (by rfl)) (Ev.name (by rfl))) (.cons (Ev.tup2 (Ev.name (by rfl)) (Ev.name (by rfl))) (.cons (Ev.tup2 (Ev.name (by rfl)) (Ev.name (by rfl))) .nil)))))) (by show 6 ≤ sizeLine; decide))) trivial (fun p hp => ⟨_, Tgt.pair (.inl (by decide)) (.inl (by decide)), ⟨rfl, trivial⟩, Tests.nil, fun y hy => ?_⟩) (sz' (by show 6 ≤ 100000; decide))) ?_
      · cases hy
        exact Ev.cmp (Ev.ordE ⟨hMin, hMax, by decide, by decide⟩ (Ev.name (d := nI p.1) (by rfl)) (Ev.name (d := nI p.2) (by rfl)) (Ev.name (by rfl)) (Ev.name (by rfl))) (Ev.name (d := lP ties) (by rfl)) CmpOk.inPs
      rw [fm_some, show (nearP a b c e).map (fun p => PyData.bool (adj ties p.1 p.2)) = (nears ties a b c e).map .bool from by unfold nears; rw [List.map_map]; rfl]
      refine Ss.cons (Sx.ite (b := rowIs ties a b c e) (Tr.cmp (Ev.name (d := .list ((nears ties a b c e).map .bool)) (by rfl)) (Ev.list (ds := [true, true, true, false, false, false].map .bool) (.cons Ev.bool (.cons Ev.bool (.cons Ev.bool (.cons Ev.bool (.cons Ev.bool (.cons Ev.bool .nil)))))) (by show 6 ≤ sizeLine; decide)) CmpOk.eqBools) (fun hi => ?_) fun hi => ?_) Ss.nil
      · rw [if_pos hi, List.map_append]
        refine Ss.cons (Sx.append (xs := F3.map qD) (d := qD (a, b, c, e)) (by rfl) (by rfl) (.plain (Ev.tuple (.cons (Ev.name (by rfl)) (.cons (Ev.name (by rfl)) (.cons (Ev.name (by rfl)) (.cons (Ev.name (by rfl)) .nil)))) (by show 4 ≤ sizeLine; decide))) (sz' (by rw [List.length_map]; omega))) ?_
        exact Ss.nil.to
      · rw [if_neg (by rw [hi]; exact Bool.false_ne_true), List.append_nil]
        exact Ss.nil.to
    · rw [hf, Bool.false_and, if_neg Bool.false_ne_true, List.append_nil]
      exact Ss.nil.to
  · rw [List.length_map, List.length_range]
    exact Ss.stop (Sx.ret (Ev.name (by rfl)))
end
end Mine

open PySem PySem.W PyProof.Rows
namespace Mine
open PySem.Challenge

/-- every one of a lot of questions answered -/
noncomputable def allO {α : Type} (f : α → Option Bool) : List α → Option Bool
  | [] => some true
  | x :: r => match f x, allO f r with
    | some a, some b => some (a && b)
    | _, _ => none
noncomputable def parted (ties lacks : List NP) : Nat → List Nat → Option Bool
  | 0, _ => none
  | f + 1, pl => if pl.length < 2 then some true else
    match piecesL pl ties, piecesL pl lacks with
    | some p1, some p2 => let ps := if Nat.beq p1.length 1 = true then p2 else p1
      if Nat.blt 1 ps.length = true then (if ps.length ≤ 100 ∧ ∀ q ∈ ps, q.length ≤ 100 then allO (parted ties lacks f) ps else none) else some false
    | _, _ => none
theorem allO_ok {α : Type} {f : α → Option Bool} : ∀ {l : List α} {b : Bool}, allO f l = some b → (∀ x ∈ l, f x = some ((f x).getD false)) ∧ (!l.any fun x => !(f x).getD false) = b
  | [], b, h => by cases h; exact ⟨nofun, rfl⟩
  | x :: r, b, h => by
    unfold allO at h
    split at h
    · rename_i a c ha hc
      cases h
      obtain ⟨h1, h2⟩ := allO_ok hc
      refine ⟨fun y hy => ?_, ?_⟩
      · rcases List.mem_cons.mp hy with rfl | hy
        · rw [ha]; rfl
        · exact h1 y hy
      · rw [List.any_cons, ha, ← h2]; cases a <;> simp
    · cases h

theorem piecesL_len {pl : List Nat} {ts : List NP} {c : List (List Nat)} (h : piecesL pl ts = some c) : c.length ≤ 20 := by
  obtain ⟨z, hz, rfl⟩ := Option.map_eq_some_iff.mp h
  obtain ⟨n, P, hn, h0, hzz, _, hs⟩ := iter_seq hz
  have : ∀ i, i ≤ n → (P i).2.length ≤ i := by
    intro i
    induction i with
    | zero => intro _; rw [h0]; exact Nat.le_refl _
    | succ i ih =>
      intro hi
      have h2 := ih (by omega)
      have hp := hs i hi
      unfold pcStepL at hp
      split at hp
      · cases hp
      · split at hp
        · cases hp
        · rw [← Option.some.inj (Option.some.inj hp)]
          simp only [List.length_append, List.length_cons, List.length_nil]
          omega
  rw [← hzz]
  exact Nat.le_trans (this n (Nat.le_refl _)) hn
section
variable {w : World} {Γ : GEnv} {k : Nat}
theorem lay_lNs : ∀ ns : List (List Nat), PyData.canLayAll0 (ns.map lN) = true ∧ PyData.depthAll (ns.map lN) ≤ 2
  | [] => ⟨rfl, by simp [PyData.depthAll]⟩
  | n :: r => by
    obtain ⟨h1, h2⟩ := lay_ints (n.map fun x : Nat => (x : Int))
    obtain ⟨h3, h4⟩ := lay_lNs r
    rw [← map_nI] at h1 h2
    simp only [List.map_cons, lN, PyData.canLayAll0, PyData.canLay0, h1, Bool.true_and, PyData.depthAll, PyData.depth]
    refine ⟨h3, ?_⟩
    change max _ (PyData.depthAll (r.map lN)) ≤ 2
    omega
theorem shaped_lNs (ns : List (List Nat)) : PySem.SeqAt.shaped (.list (ns.map lN)) = true := by
  obtain ⟨h1, h2⟩ := lay_lNs ns
  unfold PySem.SeqAt.shaped
  rw [PyData.canLay0, h1, PyData.depth, Bool.true_and]
  exact decide_eq_true (by omega)
theorem Ev.lenM {sc : Scope} {σ : Sg} {prog : Program} {α : Type} {e px pos} (hL : Γ.names.lookup ("len" : Str) = some (.builtin "len")) (hs : sc.names.lookup ("len" : Str) = some .globalImplicit) (l : List α) (f : α → PyData) (h : Ev prog w Γ sc k σ e (.list (l.map f))) (hz : l.length ≤ 100000)
    (hse : ∀ env r, starEach (e :: r) env = (false, eval e env) :: starEach r env := by intro _ _; rfl) (hst : ∀ a ∈ [e], isStarred a = false := by simp [isStarred]) :
    Ev prog w Γ sc k σ (.Call (.Name "len" px) [e] [] pos) (nI l.length) := by
  have := Ev.call1 (px := px) (pos := pos) hs hL (.builtin _) h (CallOk.len (sz' (by rw [List.length_map]; exact hz))) hse hst
  rwa [List.length_map] at this
theorem Ev.as {sc : Scope} {σ : Sg} {prog : Program} {e : Expr} {a b : PyData} (h : a = b) (t : Ev prog w Γ sc k σ e a) : Ev prog w Γ sc k σ e b := h ▸ t

set_option maxRecDepth 100000 in
theorem law_parted_ok {f fp : Addr} {fd fdp : FuncData} (F : FnIs Γ f fd (scopeAt pw_hn0002_03 9) ["places", "ties", "lacks"] (bodyAt pw_hn0002_03 9)) (FP : FnIs Γ fp fdp (scopeAt pw_hn0002_03 7) ["places", "ties"] (bodyAt pw_hn0002_03 7))
    (hP : Γ.names.lookup ("_law_pieces" : Str) = some (.ref fp)) (hF : Γ.names.lookup ("_law_parted" : Str) = some (.ref f)) (hL : Γ.names.lookup ("len" : Str) = some (.builtin "len")) (hLi : Γ.names.lookup ("list" : Str) = some (.type "list")) (hD : Γ.names.lookup ("dict" : Str) = some (.type "dict")) (hMin : Γ.names.lookup ("min" : Str) = some (.builtin "min")) (hMax : Γ.names.lookup ("max" : Str) = some (.builtin "max"))
    {ties lacks : List NP} : ∀ (n : Nat) (pl : List Nat) (b : Bool), parted ties lacks n pl = some b → pl.length ≤ 100 → CallOk pw_hn0002_03 w Γ (k + 1 + n) (.ref f) [lN pl, lP ties, lP lacks] (.bool b)
  | 0, pl, b, h, _ => by cases h
  | n + 1, pl, b, h, hz => by
    refine F.call (k := k + 1 + n) (by decide) rfl ?_
    unfold parted at h
    have hk : k + 1 + n = (k + n) + 1 := by omega
    have cP : ∀ {pl : List Nat} {ts : List NP} {c : List (List Nat)}, piecesL pl ts = some c → pl.length ≤ 100 → CallOk pw_hn0002_03 w Γ (k + 1 + n) (.ref fp) [lN pl, lP ts] (.list (c.map lN)) := fun hc hz => by
      rw [hk]; exact law_pieces_ok FP hLi hD hMin hMax hc hz
    by_cases hb : pl.length < 2
    · rw [if_pos hb] at h
      cases h
      exact Ss.stop (Sx.ite (b := true) (Tr.as (by rw [Nat.blt_eq.mpr hb]) (Tr.cmp (Ev.lenM hL (by decide) pl nI (Ev.name (d := lN pl) (by rfl)) (by omega)) (Ev.int (i := (2 : Nat))) CmpOk.ltN)) (fun _ => Ss.stop (Sx.ret Ev.bool)) nofun)
    · rw [if_neg hb] at h
      have hbf : Nat.blt pl.length 2 = false := by rw [Bool.eq_false_iff]; intro q; exact hb (Nat.blt_eq.mp q)
      refine Ss.cons (Sx.ite (b := false) (Tr.as hbf (Tr.cmp (Ev.lenM hL (by decide) pl nI (Ev.name (d := lN pl) (by rfl)) (by omega)) (Ev.int (i := (2 : Nat))) CmpOk.ltN)) nofun (fun _ => Ss.nil)) ?_
      cases h1 : piecesL pl ties with
      | none => rw [h1] at h; cases h
      | some p1 => cases h2 : piecesL pl lacks with
        | none => rw [h1, h2] at h; cases h
        | some p2 =>
          rw [h1, h2] at h
          simp only at h
          have z1 := piecesL_len h1
          have z2 := piecesL_len h2
          refine Ss.cons (Sx.asg (kd := .plain) (d := .list (p1.map lN)) (.inl (by decide)) (.of fun _ => rfl) (.plain (Ev.call2 (by decide) hP (.fn FP.mem) (Ev.name (d := lN pl) (by rfl)) (Ev.name (d := lP ties) (by rfl)) (cP h1 hz)))) ?_
          refine Ss.cons (Sx.ite (b := Nat.beq p1.length 1) (r := .next [("pieces", .list ((if Nat.beq p1.length 1 = true then p2 else p1).map lN)), ("places", lN pl), ("ties", lP ties), ("lacks", lP lacks)] []) (Tr.cmp (Ev.lenM hL (by decide) p1 lN (Ev.name (d := .list (p1.map lN)) (by rfl)) (by omega)) (Ev.int (i := (1 : Nat))) CmpOk.eqN) (fun hq => ?_) (fun hq => ?_)) ?_
          · rw [if_pos hq]
            refine Ss.cons (Sx.asg (kd := .plain) (d := .list (p2.map lN)) (.inl (by decide)) (.of fun _ => rfl) (.plain (Ev.call2 (by decide) hP (.fn FP.mem) (Ev.name (d := lN pl) (by rfl)) (Ev.name (d := lP lacks) (by rfl)) (cP h2 hz)))) Ss.nil.to
          · rw [if_neg (by rw [hq]; exact Bool.false_ne_true)]
            exact Ss.nil.to
          have zps : (if Nat.beq p1.length 1 = true then p2 else p1).length ≤ 20 := by split <;> assumption
          generalize (if Nat.beq p1.length 1 = true then p2 else p1) = ps at h zps ⊢
          refine Ss.stop (Sx.ret ?_)
          cases hb1 : Nat.blt 1 ps.length with
          | false =>
            rw [hb1] at h
            simp only [Bool.false_eq_true, if_false] at h
            cases h
            exact Ev.and (a := false) (b := false) (Ev.as (by rw [hb1]) (Ev.cmp (Ev.lenM hL (by decide) ps lN (Ev.name (d := .list (ps.map lN)) (by rfl)) (by omega)) (Ev.int (i := (1 : Nat))) CmpOk.gtN)) nofun
          | true =>
            rw [hb1] at h
            simp only [if_true] at h
            split at h
            case isFalse => cases h
            rename_i hsz
            obtain ⟨q1, q2⟩ := allO_ok h
            rw [← q2]
            refine Ev.and (a := true) (Ev.as (by rw [hb1]) (Ev.cmp (Ev.lenM hL (by decide) ps lN (Ev.name (d := .list (ps.map lN)) (by rfl)) (by omega)) (Ev.int (i := (1 : Nat))) CmpOk.gtN)) fun _ => Ev.bool1 (Ev.noneE ps lN (fun q => !(parted ties lacks n q).getD false) shaped_lNs (It.list (Ev.name (d := .list (ps.map lN)) (by rfl))) trivial (by omega) fun q hq => ?_)
            refine Tr.not (Tr.plain (Ev.call (by decide) hF (.fn F.mem) (.cons (Ev.name (d := lN q) (by rfl)) (.cons (Ev.name (d := lP ties) (by rfl)) (.cons (Ev.name (d := lP lacks) (by rfl)) .nil))) ?_) truthy_bool)
            exact law_parted_ok F FP hP hF hL hLi hD hMin hMax n q _ (q1 q hq) (hsz.2 q hq)
end
end Mine

open PySem PySem.W PyProof.Rows
namespace Mine
open PySem.Challenge

noncomputable def bitN (lot p : Nat) : Bool := Nat.beq (lot / 2 ^ p % 2) 1
noncomputable def lotOf (m lot : Nat) : List Nat := (List.range m).filter fun p => bitN lot p
noncomputable def apart (ties : List NP) (a b : Nat) : Bool := Nat.blt a b && !inP (a, b) ties
noncomputable def allTied (ties : List NP) (places : List Nat) : Bool := !places.any fun a => places.any (apart ties a)
noncomputable def longStep (m : Nat) (ties : List NP) (best lot : Nat) : Nat := if allTied ties (lotOf m lot) = true then mx best (lotOf m lot).length else best
noncomputable def longest (m : Nat) (ties : List NP) : Nat := (List.range (2 ^ m)).foldl (longStep m ties) 0
theorem bit_eq (lot p : Nat) : ((((lot : Int).fdiv (2 ^ p)).fmod 2) == 1) = bitN lot p := by
  unfold bitN
  have h1 : (lot : Int).fdiv (2 ^ p) = ((lot / 2 ^ p : Nat) : Int) := by
    rw [Int.fdiv_eq_ediv_of_nonneg _ (Int.le_of_lt (Int.pow_pos (by decide)))]
    simp
  rw [h1, Int.fmod_eq_emod_of_nonneg _ (by decide), nat_beq]
  generalize lot / 2 ^ p = x
  by_cases h : x % 2 = 1
  · rw [decide_eq_true h, beq_iff_eq]; omega
  · rw [decide_eq_false h, beq_eq_false_iff_ne]; omega
theorem ones_empty {α : Type} (xs : List α) (ys : List α) (q : α → α → Bool) : (xs.flatMap fun a => (ys.filter (q a)).map fun _ => 1).isEmpty = !xs.any fun a => ys.any (q a) := by
  induction xs with
  | nil => rfl
  | cons x xs ih =>
    rw [List.flatMap_cons, List.any_cons, Bool.not_or, ← ih, ← isEmpty_filter]
    cases ys.filter (q x) <;> rfl
theorem lotOf_len (m lot : Nat) : (lotOf m lot).length ≤ m := by
  have := List.length_filter_le (fun p => bitN lot p) (List.range m)
  rwa [List.length_range] at this

section
variable {w : World} {Γ : GEnv} {k : Nat} {sc : Scope} {σ : Sg}
theorem CmpOk.notInPs {prog : Program} {x : NP} {ys : List NP} : CmpOk prog w k .NotIn (pN x) (lP ys) (!inP x ys) := by
  have := CmpOk.notInPairs (prog := prog) (w := w) (k := k) (x := cI x) (ys := ys.map cI)
  rw [inP_cI, ← map_pN] at this
  exact this
theorem Ev.two_pow {prog : Program} {e n p pos} {m : Nat} (h : Ev prog w Γ sc k σ e (nI m)) (hm : m < 1000) : Ev prog w Γ sc k σ (.BinOp (.Constant (.int 2) n p) .Pow e pos) (.int ((2 ^ m : Nat) : Int)) := by
  have := Ev.bin (pos := pos) (Ev.int (n := n) (pos := p) (i := 2)) h (BinOk.pow2 hm)
  rwa [show (2 : Int) ^ m = ((2 ^ m : Nat) : Int) from by simp] at this
/-- lot // 2 ** place % 2 == 1 -/
theorem Tr.bitE {prog : Program} {e1 e2 n1 p1 q1 q2 n3 p3 q3 n4 p4 q4} {lot p : Nat} (h1 : Ev prog w Γ sc k σ e1 (nI lot)) (h2 : Ev prog w Γ sc k σ e2 (nI p)) (hp : p < 20) :
    Tr prog w Γ sc k σ (.Compare (.BinOp (.BinOp e1 .FloorDiv (.BinOp (.Constant (.int 2) n1 p1) .Pow e2 q1) q2) .Mod (.Constant (.int 2) n3 p3) q3) [.Eq] [.Constant (.int 1) n4 p4] q4) (bitN lot p) := by
  refine Tr.cmp (Ev.bin (Ev.bin h1 (Ev.bin Ev.int h2 (BinOk.pow2 (by omega))) (BinOk.fdiv (Int.ne_of_gt (Int.pow_pos (by decide))) ?_)) Ev.int (BinOk.mod (by decide))) Ev.int (CmpOk.eqI' (bit_eq lot p))
  have : (2 : Nat) ^ p ≤ 2 ^ 20 := Nat.pow_le_pow_right (by decide) (by omega)
  rw [show ((2 : Int) ^ p).natAbs = 2 ^ p from by rw [Int.natAbs_pow]; rfl]
  omega

set_option maxRecDepth 100000 in
theorem law_longest_ok {f : Addr} {fd : FuncData} (F : FnIs Γ f fd (scopeAt pw_hn0002_03 10) ["many", "ties"] (bodyAt pw_hn0002_03 10)) (hR : Γ.names.lookup ("range" : Str) = some (.type "range")) (hL : Γ.names.lookup ("len" : Str) = some (.builtin "len")) (hMax : Γ.names.lookup ("max" : Str) = some (.builtin "max"))
    {many : Nat} {ties : List NP} (hm : many ≤ 10) : CallOk pw_hn0002_03 w Γ (k + 1) (.ref f) [nI many, lP ties] (nI (longest many ties)) := by
  refine F.call (by decide) rfl ?_
  have h2m : 2 ^ many ≤ 2 ^ 10 := Nat.pow_le_pow_right (by decide) hm
  refine Ss.cons (Sx.assign (d := nI 0) (.inl (by decide)) (.of fun _ => rfl) Ev.int) ?_
  refine Ss.cons (Sx.for_ (fun i => [("best", nI ((List.range i).foldl (longStep many ties) 0)), ("many", nI many), ("ties", lP ties)]) (fun _ => []) (It.range0 (n := 2 ^ many) (by decide) hR (Ev.two_pow (Ev.name (d := nI many) (by rfl)) (by omega)) (by omega)) trivial fun lot d hd => ?_) ?_
  · have hlot : lot < 2 ^ many := by
      have := (List.getElem?_eq_some_iff.mp hd).1
      rwa [List.length_map, List.length_range] at this
    obtain rfl : d = nI lot := by rw [List.getElem?_map, List.getElem?_range hlot] at hd; cases hd; rfl
    rw [show (List.range (lot + 1)).foldl (longStep many ties) 0 = longStep many ties ((List.range lot).foldl (longStep many ties) 0) lot from by rw [List.range_succ, List.foldl_append]; rfl]
    generalize (List.range lot).foldl (longStep many ties) 0 = best
    refine ⟨_, Tgt.name (.inr (by decide)), nofun, trivial, ?_⟩
    refine Ss.cons (Sx.asg (kd := .plain) (d := lN (lotOf many lot)) (.inr (by decide)) (NoSwap.cell (by decide)) (.plain (EvF.ev (EvF.filt1 (List.range many) nI (fun p => bitN lot p) (It.range0 (n := many) (by decide) hR (Ev.name (d := nI many) (by rfl)) (by omega)) trivial (by rw [List.length_range]; omega) (fun p hp => Tr.bitE (Ev.name (d := nI lot) (by rfl)) (Ev.name (d := nI p) (by rfl)) (by have := List.mem_range.mp hp; omega)))))) ?_
    unfold longStep
    have hlz := lotOf_len many lot
    generalize lotOf many lot = places at hlz ⊢
    have hz : (places.flatMap fun a => if (true : Bool) = true then ((places.filter (apart ties a)).map fun _ => nI 1) else []).length ≤ 100000 := by
      rw [List.length_flatMap]
      have : ∀ l : List Nat, (l.map fun a => (if (true : Bool) = true then ((places.filter (apart ties a)).map fun _ => nI 1) else []).length).sum ≤ l.length * places.length := by
        intro l
        induction l with
        | nil => simp
        | cons a l ih =>
          have := List.length_filter_le (apart ties a) places
          simp only [List.map_cons, List.sum_cons, if_true, List.length_map, List.length_cons, Nat.succ_mul] at *
          omega
      have h1 := this places
      have h2 : places.length * places.length ≤ 10 * 10 := Nat.mul_le_mul (by omega) (by omega)
      omega
    have hcmp := CmpOk.eqNil (prog := pw_hn0002_03) (w := w) (k := k) (shaped_nI (places.flatMap fun a => (places.filter (apart ties a)).map fun _ => 1))
    rw [isEmpty_mapD, ones_empty] at hcmp
    have hfl : (places.flatMap fun a => if (true : Bool) = true then ((places.filter (apart ties a)).map fun _ => nI 1) else []) = (places.flatMap fun a => (places.filter (apart ties a)).map fun _ => 1).map nI := by
      rw [List.map_flatMap]; congr 1; funext a; rw [if_pos rfl, List.map_map]; rfl
    rw [← hfl] at hcmp
    refine Ss.cons (Sx.ite (b := allTied ties places) (Tr.cmp (EvF.ev (EvF.filt2 places nI (fun _ => true) (fun _ => places) nI (fun a b => apart ties a b) (fun _ _ => nI 1) (It.list (Ev.name (d := lN places) (by rfl))) trivial hz (fun _ _ => Tests.nil) (fun _ _ _ => It.list (Ev.name (d := lN places) (by rfl))) trivial (fun a _ _ b _ => Tests.one ?_) (fun _ _ _ _ _ _ => Ev.int))) Ev.nil hcmp) (fun hb => ?_) fun hb => ?_) Ss.nil
    · exact Tr.and2 (Tr.cmp (Ev.name (d := nI a) (by rfl)) (Ev.name (d := nI b) (by rfl)) CmpOk.ltN) fun _ => Tr.cmp (d1 := pN (a, b)) (Ev.tup2 (Ev.name (d := nI a) (by rfl)) (Ev.name (d := nI b) (by rfl))) (Ev.name (d := lP ties) (by rfl)) CmpOk.notInPs
    · rw [if_pos hb]
      refine Ss.cons (Sx.assign (d := nI (mx best places.length)) (.inl (by decide)) (.of fun _ => rfl) (Ev.call2 (by decide) hMax (.builtin _) (Ev.name (d := nI best) (by rfl)) (Ev.lenM hL (by decide) places nI (Ev.name (d := lN places) (by rfl)) (by omega)) (by unfold nI; rw [← mx_eq]; exact CallOk.max2))) ?_
      exact Ss.nil.to
    · rw [if_neg (by rw [hb]; exact Bool.false_ne_true)]
      exact Ss.nil.to
  · rw [List.length_map, List.length_range]
    exact Ss.stop (Sx.ret (Ev.name (by rfl)))
end
end Mine

open PySem PySem.W PyProof.Rows
namespace Mine
open PySem.Challenge

/-- what the law's text sees -/
structure G3 (Γ : GEnv) (fa fc fp fr ft fl : Addr) (da dc dp dr dt dl : FuncData) : Prop where
  FA : FnIs Γ fa da (scopeAt pw_hn0002_03 1) ["target", "source"] (bodyAt pw_hn0002_03 1)
  FC : FnIs Γ fc dc (scopeAt pw_hn0002_03 2) ["callers"] (bodyAt pw_hn0002_03 2)
  FP : FnIs Γ fp dp (scopeAt pw_hn0002_03 7) ["places", "ties"] (bodyAt pw_hn0002_03 7)
  FR : FnIs Γ fr dr (scopeAt pw_hn0002_03 8) ["many", "ties"] (bodyAt pw_hn0002_03 8)
  FT : FnIs Γ ft dt (scopeAt pw_hn0002_03 9) ["places", "ties", "lacks"] (bodyAt pw_hn0002_03 9)
  FL : FnIs Γ fl dl (scopeAt pw_hn0002_03 10) ["many", "ties"] (bodyAt pw_hn0002_03 10)
  hI : Γ.names.lookup ("isinstance" : Str) = some (.builtin "isinstance")
  hT : Γ.names.lookup ("tuple" : Str) = some (.type "tuple")
  hR : Γ.names.lookup ("range" : Str) = some (.type "range")
  hL : Γ.names.lookup ("len" : Str) = some (.builtin "len")
  hS : Γ.names.lookup ("sum" : Str) = some (.builtin "sum")
  hMin : Γ.names.lookup ("min" : Str) = some (.builtin "min")
  hMax : Γ.names.lookup ("max" : Str) = some (.builtin "max")
  hE : Γ.names.lookup ("enumerate" : Str) = some (.type "enumerate")
  hLi : Γ.names.lookup ("list" : Str) = some (.type "list")
  hD : Γ.names.lookup ("dict" : Str) = some (.type "dict")
  hA : Γ.names.lookup ("add_callers" : Str) = some (.ref fa)
  hC : Γ.names.lookup ("count_calls" : Str) = some (.ref fc)
  hP : Γ.names.lookup ("_law_pieces" : Str) = some (.ref fp)
  hRo : Γ.names.lookup ("_law_rows" : Str) = some (.ref fr)
  hTe : Γ.names.lookup ("_law_parted" : Str) = some (.ref ft)
  hLo : Γ.names.lookup ("_law_longest" : Str) = some (.ref fl)

noncomputable def twosOf (many : Nat) : List NP := (List.range many).flatMap fun o => (List.range o).map fun a => (a, o)
noncomputable def tiesOf (many : Nat) (figs : List Int) : List NP := ((List.range (twosOf many).length).filter fun k => figs.getD k 0 == 1).map fun k => (twosOf many).getD k (0, 0)
noncomputable def lacksOf (many : Nat) (ties : List NP) : List NP := (twosOf many).filter fun t => !inP t ties
theorem tiesOf_len (many : Nat) (figs : List Int) : (tiesOf many figs).length ≤ (twosOf many).length := by
  unfold tiesOf
  rw [List.length_map]
  have := List.length_filter_le (fun k => figs.getD k 0 == 1) (List.range (twosOf many).length)
  rwa [List.length_range] at this
theorem lacksOf_len (many : Nat) (ties : List NP) : (lacksOf many ties).length ≤ (twosOf many).length := List.length_filter_le _ _

section
variable {w : World} {Γ : GEnv} {k : Nat} {sc : Scope} {σ : Sg} {fa fc fp fr ft fl : Addr} {da dc dp dr dt dl : FuncData}

noncomputable def lawA (dS dN : PyData) (many : Nat) (figs : List Int) : Sg := [("figures", .list (figs.map .int)), ("number", dN), ("twos", lP (twosOf many)), ("many", nI many), ("script", dS)]
noncomputable def lawB (many : Nat) (ties lacks : List NP) : Sg := [("lacks", lP lacks), ("ties", lP ties), ("many", nI many)]
/-- one of both lots hangs together -/
noncomputable def oneHangs (ties lacks : List NP) (places : List Nat) : Prop := ∃ p1 p2, piecesL places ties = some p1 ∧ piecesL places lacks = some p2 ∧ (Nat.beq p1.length 1 || Nat.beq p2.length 1) = true

set_option maxRecDepth 100000 in
theorem law_a (G : G3 Γ fa fc fp fr ft fl da dc dp dr dt dl) {dS dN : PyData} {many : Nat} {figs : List Int} (hm : many ≤ 10) (hfl : figs.length = (twosOf many).length) (htz : (twosOf many).length ≤ 100) {r : Res}
    (hh : ∀ lot < 2 ^ many, 1 < (lotOf many lot).length → oneHangs (tiesOf many figs) (lacksOf many (tiesOf many figs)) (lotOf many lot))
    (rest : Ss pw_hn0002_03 w Γ [] (scopeAt pw_hn0002_03 11) (k + 7) (lawB many (tiesOf many figs) (lacksOf many (tiesOf many figs))) [] ((bodyAt pw_hn0002_03 11).drop 8) r) :
    Ss pw_hn0002_03 w Γ [] (scopeAt pw_hn0002_03 11) (k + 7) (lawA dS dN many figs) [] ((bodyAt pw_hn0002_03 11).drop 5) r := by
  have htl : ((twosOf many).map pN).length = (twosOf many).length := List.length_map _
  -- ties
  have henum : enumD ((twosOf many).map pN) = (List.range (twosOf many).length).map fun k : Nat => PyData.tuple [.int (k : Int), pN ((twosOf many).getD k (0, 0))] := by
    rw [enumD_eq _ (pN (0, 0)), htl]
    refine List.map_congr_left fun k hk => ?_
    have := List.mem_range.mp hk
    simp [List.getD, this]
  refine Ss.cons (Sx.asg (kd := .plain) (.inr (by decide)) (NoSwap.cell (by decide)) (.plain (EvF.comp1 (List.range (twosOf many).length) (fun k : Nat => PyData.tuple [.int (k : Int), pN ((twosOf many).getD k (0, 0))]) (fun k => if (figs.getD k 0 == 1) = true then some (pN ((twosOf many).getD k (0, 0))) else none) (henum ▸ It.enum (by decide) G.hE (.cons (Ev.name (d := lP (twosOf many)) (by rfl)) .nil)) ⟨_, _, _, rfl⟩ (fun x hx => ?_) (sz' (by rw [List.length_range]; omega))).ev)) ?_
  · have hx10 : x < figs.length := by rw [hfl]; exact List.mem_range.mp hx
    refine ⟨_, Tgt.pair (.inl (by decide)) (.inl (by decide)), ⟨rfl, trivial⟩, ?_, fun y hy => ?_⟩
    · rw [ite_isSome]
      exact Tests.one (Tr.cmp (Ev.sub (Ev.name (d := .list (figs.map .int)) (by rfl)) (Ev.name (d := .int (x : Int)) (by rfl)) (SubOk.list (d := .int (figs.getD x 0)) (by omega) (by omega) (by simp [List.getD, List.getElem?_eq_getElem hx10]))) Ev.int CmpOk.eqI)
    · rw [ite_get hy]; exact Ev.name (by rfl)
  rw [filterMap_ite, show ((List.range (twosOf many).length).filter fun k => figs.getD k 0 == 1).map (fun k => pN ((twosOf many).getD k (0, 0))) = (tiesOf many figs).map pN from by unfold tiesOf; rw [List.map_map]; rfl]
  generalize tiesOf many figs = ties at *
  -- lacks
  refine Ss.cons (Sx.comp1 (twosOf many) pN (fun t => if (!inP t ties) = true then some (pN t) else none) .plain (by decide) (.inl rfl) (It.list (Ev.name (d := lP (twosOf many)) (by rfl))) trivial (fun t ht => ⟨_, Tgt.name (.inl (by decide)), ⟨rfl, trivial⟩, ?_, fun y hy => ?_⟩) (sz' (by omega))) ?_
  · rw [ite_isSome]
    exact Tests.one (Tr.cmp (Ev.name (d := pN t) (by rfl)) (Ev.name (d := lP ties) (by rfl)) CmpOk.notInPs)
  · rw [ite_get hy]; exact Ev.name (by rfl)
  rw [filterMap_ite]
  change Ss _ _ _ _ _ _ (("lacks", lP (lacksOf many ties)) :: _) _ _ _
  generalize lacksOf many ties = lacks at *
  -- each lot
  have h2m : 2 ^ many ≤ 2 ^ 10 := Nat.pow_le_pow_right (by decide) hm
  refine Ss.cons (Sx.for_ (fun _ => lawB many ties lacks) (fun _ => []) (It.range0 (n := 2 ^ many) (by decide) G.hR (Ev.two_pow (Ev.name (d := nI many) (by rfl)) (by omega)) (by omega)) trivial fun lot d hd => ?_) rest
  have hlot : lot < 2 ^ many := by
    have := (List.getElem?_eq_some_iff.mp hd).1
    rwa [List.length_map, List.length_range] at this
  obtain rfl : d = nI lot := by rw [List.getElem?_map, List.getElem?_range hlot] at hd; cases hd; rfl
  refine ⟨_, Tgt.name (.inr (by decide)), nofun, trivial, ?_⟩
  refine Ss.cons (Sx.asg (kd := .plain) (d := lN (lotOf many lot)) (.inr (by decide)) (NoSwap.cell (by decide)) (.plain (EvF.ev (EvF.filt1 (List.range many) nI (fun p => bitN lot p) (It.range0 (n := many) (by decide) G.hR (Ev.name (d := nI many) (by rfl)) (by omega)) trivial (by rw [List.length_range]; omega) (fun p hp => Tr.bitE (Ev.name (d := nI lot) (by rfl)) (Ev.name (d := nI p) (by rfl)) (by have := List.mem_range.mp hp; omega)))))) ?_
  have hlz := lotOf_len many lot
  have hx := hh lot hlot
  generalize lotOf many lot = places at hlz hx ⊢
  refine Ss.cons (Sx.ite (b := Nat.blt 1 places.length) (Tr.cmp (Ev.lenM G.hL (by decide) places nI (Ev.name (d := lN places) (by rfl)) (by omega)) (Ev.int (i := (1 : Nat))) CmpOk.gtN) (fun hb => ?_) fun hb => Ss.nil.to) Ss.nil
  obtain ⟨p1, p2, e1, e2, hor⟩ := hx (Nat.blt_eq.mp hb)
  let cs : List NP → Bool := fun t => Nat.beq ((piecesL places t).getD []).length 1
  have hc : ∀ t ∈ [ties, lacks], piecesL places t = some ((piecesL places t).getD []) := by
    intro t ht
    rcases List.mem_cons.mp ht with rfl | ht
    · rw [e1]; rfl
    · rw [List.mem_singleton.mp ht, e2]; rfl
  refine Ss.cons (Sx.comp1 [ties, lacks] lP (fun t => some (.bool (cs t))) .plain (T := fun _ => True) (by decide) (.inl rfl) (It.list (Ev.list (ds := [lP ties, lP lacks]) (.cons (Ev.name (by rfl)) (.cons (Ev.name (by rfl)) .nil)) (by show 2 ≤ sizeLine; decide))) trivial (fun t ht => ⟨_, Tgt.name (.inl (by decide)), ⟨rfl, trivial⟩, Tests.nil, fun y hy => ?_⟩) (sz' (by show 2 ≤ 100000; decide))) ?_
  · have zC := Option.some.inj hy
    clear hy
    subst zC
    have hz := piecesL_len (hc t ht)
    exact Ev.cmp (Ev.lenM G.hL (by decide) ((piecesL places t).getD []) lN (Ev.call2 (by decide) G.hP (.fn G.FP.mem) (Ev.name (d := lN places) (by rfl)) (Ev.name (d := lP t) (by rfl)) (law_pieces_ok G.FP G.hLi G.hD G.hMin G.hMax (hc t ht) (by omega))) (by omega)) (Ev.int (i := (1 : Nat))) CmpOk.eqN
  rw [fm_some, show [ties, lacks].map (fun t => PyData.bool (cs t)) = ([cs ties, cs lacks]).map .bool from rfl]
  have hne : decide ([cs ties, cs lacks] = [false, false]) = false := by
    refine decide_eq_false fun q => ?_
    have q1 : cs ties = false := (List.cons.inj q).1
    have q2 : cs lacks = false := (List.cons.inj (List.cons.inj q).2).1
    simp only [cs, e1, e2, Option.getD_some] at q1 q2
    rw [q1, q2] at hor
    cases hor
  refine Ss.cons (Sx.ite (b := false) (Tr.as hne (Tr.cmp (Ev.name (d := .list ([cs ties, cs lacks].map .bool)) (by rfl)) (Ev.list (ds := [false, false].map .bool) (.cons Ev.bool (.cons Ev.bool .nil)) (by show 2 ≤ sizeLine; decide)) CmpOk.eqBools)) nofun fun _ => Ss.nil) Ss.nil.to
end
end Mine

open PySem PySem.W PyProof.Rows
namespace Mine
open PySem.Challenge

/-- the word under which a place stands -/
noncomputable def kk (s : Str) (i : Nat) : HK := .t3 (.str s) (.int (i : Int)) (.str "place")
noncomputable def rowD (r : KI) : PyData := dictD (toKV r)
noncomputable def sumK (r : KI) : Int := (r.map (·.2)).sum
noncomputable def stepC (s : Str) (rs : List KI) (p : NP) : List KI :=
  let r1 := rs.set p.1 (addC (rs.getD p.1 []) [(kk s p.2, 1)])
  r1.set p.2 (addC (r1.getD p.2 []) [(kk s p.1, 1)])
noncomputable def okN (m : Nat) (ps : List NP) : Bool := ps.all fun p => Nat.blt p.1 m && Nat.blt p.2 m
noncomputable def degN (i : Nat) (ps : List NP) : Nat := ps.foldl (fun n p => n + (if Nat.beq p.1 i = true then 1 else 0) + (if Nat.beq p.2 i = true then 1 else 0)) 0

theorem kk_tk {s : Str} (hs : PyData.strOk s = true) (i : Nat) : (kk s i).tk = true := by
  show (true && (PyData.canLay0 (kk s i).py && decide ((kk s i).height ≤ 4))) = true
  simp only [kk, HK.py, HK.height, PyData.canLay0, PyData.canLayAll0, hs]
  decide +kernel

/-- a key stands once in a table -/
noncomputable abbrev NdK (t : KI) : Prop := (t.map (·.1)).Nodup
theorem lookup_none {t : KI} {k : HK} (h : k ∉ t.map (·.1)) : t.lookup k = none := by
  induction t with
  | nil => rfl
  | cons p t ih =>
    obtain ⟨k', n⟩ := p
    simp only [List.map_cons, List.mem_cons, not_or] at h
    rw [List.lookup_cons, beq_eq_false_iff_ne.mpr h.1]
    exact ih h.2
theorem lookup_not {t : KI} {k : HK} (h : t.lookup k = none) : k ∉ t.map (·.1) := by
  induction t with
  | nil => simp
  | cons p t ih =>
    obtain ⟨k', n⟩ := p
    rw [List.lookup_cons] at h
    cases q : k == k' with
    | true => rw [q] at h; cases h
    | false =>
      rw [q] at h
      simp only [List.map_cons, List.mem_cons, not_or]
      exact ⟨beq_eq_false_iff_ne.mp q, ih h⟩
theorem copy_go : ∀ (t acc : KI), NdK (acc ++ t) → t.foldl (fun acc p => dSetI acc p.1 p.2) acc = acc ++ t
  | [], acc, _ => by simp
  | p :: t, acc, h => by
    have hn : p.1 ∉ acc.map (·.1) := fun q => by
      unfold NdK at h
      rw [List.map_append, List.map_cons] at h
      exact (List.nodup_append.mp h).2.2 _ q _ (.head _) rfl
    rw [List.foldl_cons, show dSetI acc p.1 p.2 = acc ++ [p] from by unfold dSetI; rw [lookup_none hn]; rfl, copy_go t (acc ++ [p]) (by rw [List.append_assoc]; exact h), List.append_assoc]; rfl
theorem copyC_eq {t : KI} (h : NdK t) : copyC t = t := copy_go t [] h
theorem map_same {t : KI} {k : HK} {n : Int} (h : k ∉ t.map (·.1)) : t.map (fun p => if p.1 = k then (p.1, n) else p) = t := by
  induction t with
  | nil => rfl
  | cons p t ih =>
    simp only [List.map_cons, List.mem_cons, not_or] at h
    rw [List.map_cons, if_neg (fun q => h.1 q.symm), ih h.2]
theorem bump {t : KI} {k : HK} {a : Int} (h : NdK t) (hl : t.lookup k = some a) : sumK (t.map fun p => if p.1 = k then (p.1, a + 1) else p) = sumK t + 1 := by
  induction t with
  | nil => cases hl
  | cons p t ih =>
    obtain ⟨k', n⟩ := p
    unfold NdK at h
    rw [List.map_cons, List.nodup_cons] at h
    rw [List.lookup_cons] at hl
    unfold sumK at ih ⊢
    cases q : k == k' with
    | true =>
      rw [q] at hl
      cases hl
      obtain rfl := eq_of_beq q
      rw [List.map_cons, map_same h.1, if_pos rfl]
      simp only [List.map_cons, List.sum_cons]; omega
    | false =>
      rw [q] at hl
      have hne : ¬ (k', n).1 = k := fun e => beq_eq_false_iff_ne.mp q e.symm
      rw [List.map_cons, if_neg hne]
      simp only [List.map_cons, List.sum_cons] at ih ⊢
      rw [ih h.2 hl]; omega
theorem addC_sum {t : KI} (h : NdK t) (k : HK) : NdK (addC t [(k, 1)]) ∧ sumK (addC t [(k, 1)]) = sumK t + 1 := by
  unfold addC
  rw [copyC_eq h, List.foldl_cons, List.foldl_nil]
  cases hl : t.lookup k with
  | some a =>
    rw [add1_some (p := (k, 1)) hl]
    have e : dSetI t k (a + 1) = t.map fun p => if p.1 = k then (p.1, a + 1) else p := by unfold dSetI; rw [hl]; rfl
    simp only
    rw [e]
    refine ⟨?_, bump h hl⟩
    unfold NdK
    rw [List.map_map, show t.map ((·.1) ∘ fun p => if p.1 = k then (p.1, a + 1) else p) = t.map (·.1) from List.map_congr_left fun p _ => by simp only [Function.comp_apply]; split <;> rfl]
    exact h
  | none =>
    rw [add1_none (p := (k, 1)) hl]
    have e : dSetI t k 1 = t ++ [(k, 1)] := by unfold dSetI; rw [hl]; rfl
    simp only
    rw [e]
    refine ⟨?_, by unfold sumK; simp⟩
    unfold NdK
    rw [List.map_append]
    exact List.nodup_append.mpr ⟨h, by simp, fun x hx y hy q => by
      rw [List.map_cons, List.map_nil, List.mem_singleton] at hy
      obtain rfl : x = k := q.trans hy
      exact lookup_not hl hx⟩

/-- tables, one a place, none of them long, with their sums -/
structure RowsM (m : Nat) (rs : List KI) (n : Nat) (d : Nat → Nat) : Prop where
  len : rs.length = m
  tk : ∀ r ∈ rs, tki r = true
  short : ∀ r ∈ rs, r.length ≤ n
  nd : ∀ r ∈ rs, NdK r
  sum : ∀ i < m, sumK (rs.getD i []) = (d i : Int)
theorem addC_invN {t s : KI} (ht : tki t = true) (hs : tki s = true) : tki (addC t s) = true ∧ (addC t s).length ≤ t.length + s.length := by
  obtain ⟨c1, c2⟩ := copy_inv t ht t.length
  rw [List.take_length] at c1 c2
  obtain ⟨i1, i2⟩ := add_inv (copyC t) s c1 hs s.length
  rw [List.take_length] at i1 i2
  refine ⟨i1, ?_⟩
  unfold addC; unfold copyC at i2 ⊢; omega
theorem RowsM.mem {m : Nat} {rs : List KI} {n : Nat} {d : Nat → Nat} (h : RowsM m rs n d) {j : Nat} (hj : j < m) : rs.getD j [] ∈ rs := by
  rw [List.getD, List.getElem?_eq_getElem (by rw [h.len]; exact hj)]
  exact List.getElem_mem _
theorem RowsM.set {m : Nat} {rs : List KI} {n : Nat} {d : Nat → Nat} (h : RowsM m rs n d) {j : Nat} (hj : j < m) {s : Str} (hs : PyData.strOk s = true) (i : Nat) : RowsM m (rs.set j (addC (rs.getD j []) [(kk s i, 1)])) (n + 1) (fun x => d x + (if Nat.beq j x = true then 1 else 0)) := by
  have hm := h.mem hj
  have ⟨a, b⟩ := addC_invN (s := [(kk s i, 1)]) (h.tk _ hm) (by simp [tki, kk_tk hs])
  have ⟨c, e⟩ := addC_sum (h.nd _ hm) (kk s i)
  refine ⟨by rw [List.length_set, h.len], fun r hr => ?_, fun r hr => ?_, fun r hr => ?_, fun x hx => ?_⟩
  · rcases List.mem_or_eq_of_mem_set hr with hr | rfl
    · exact h.tk r hr
    · exact a
  · rcases List.mem_or_eq_of_mem_set hr with hr | rfl
    · exact Nat.le_succ_of_le (h.short r hr)
    · have := h.short _ hm; simp only [List.length_cons, List.length_nil] at b; omega
  · rcases List.mem_or_eq_of_mem_set hr with hr | rfl
    · exact h.nd r hr
    · exact c
  · have hsu := h.sum x hx
    by_cases q : j = x
    · subst q
      rw [if_pos (by simp), List.getD, List.getElem?_set_self (by rw [h.len]; exact hj), Option.getD_some, e, hsu]; simp
    · rw [if_neg (fun z => q (Nat.eq_of_beq_eq_true z)), List.getD, List.getElem?_set_ne q]
      simpa [List.getD] using hsu
theorem RowsM.step {m : Nat} {rs : List KI} {n : Nat} {d : Nat → Nat} (h : RowsM m rs n d) {p : NP} (h1 : p.1 < m) (h2 : p.2 < m) {s : Str} (hs : PyData.strOk s = true) : RowsM m (stepC s rs p) (n + 2) (fun x => d x + (if Nat.beq p.1 x = true then 1 else 0) + (if Nat.beq p.2 x = true then 1 else 0)) :=
  (h.set h1 hs p.2).set h2 hs p.1
theorem degN_go (i : Nat) : ∀ (ps : List NP) (a : Nat), ps.foldl (fun n p => n + (if Nat.beq p.1 i = true then 1 else 0) + (if Nat.beq p.2 i = true then 1 else 0)) a = a + degN i ps
  | [], a => rfl
  | p :: ps, a => by
    unfold degN
    rw [List.foldl_cons, List.foldl_cons, degN_go i ps, degN_go i ps (0 + _ + _)]; omega
theorem RowsM.fold {m : Nat} {rs : List KI} {n : Nat} {d : Nat → Nat} (h : RowsM m rs n d) {s : Str} (hs : PyData.strOk s = true) : ∀ (ps : List NP), okN m ps = true → RowsM m (ps.foldl (stepC s) rs) (n + 2 * ps.length) (fun x => d x + degN x ps) := by
  intro ps
  induction ps generalizing rs n d with
  | nil => intro _; exact h
  | cons p ps ih =>
    intro hp
    unfold okN at hp
    rw [List.all_cons, Bool.and_eq_true, Bool.and_eq_true] at hp
    have := ih (h.step (p := p) (Nat.blt_eq.mp hp.1.1) (Nat.blt_eq.mp hp.1.2) hs) hp.2
    rw [List.foldl_cons]
    refine ⟨this.len, this.tk, fun r hr => ?_, this.nd, fun i hi => ?_⟩
    · have := this.short r hr; rw [List.length_cons]; omega
    · rw [this.sum i hi]
      rw [show degN i (p :: ps) = (if Nat.beq p.1 i = true then 1 else 0) + (if Nat.beq p.2 i = true then 1 else 0) + degN i ps from by
        rw [show degN i (p :: ps) = ps.foldl (fun n p => n + (if Nat.beq p.1 i = true then 1 else 0) + (if Nat.beq p.2 i = true then 1 else 0)) (0 + (if Nat.beq p.1 i = true then 1 else 0) + (if Nat.beq p.2 i = true then 1 else 0)) from rfl, degN_go, Nat.zero_add]]
      congr 1; omega
theorem rows_none (m : Nat) : RowsM m (List.replicate m []) 0 fun _ => 0 where
  len := List.length_replicate
  tk := fun r hr => by rw [List.eq_of_mem_replicate hr]; rfl
  short := fun r hr => by rw [List.eq_of_mem_replicate hr]; exact Nat.le_refl _
  nd := fun r hr => by rw [List.eq_of_mem_replicate hr]; exact List.nodup_nil
  sum := fun i hi => by simp [List.getD, hi, sumK]
theorem okN_take {m : Nat} {ps : List NP} (h : okN m ps = true) (i : Nat) : okN m (ps.take i) = true := by
  unfold okN at *
  rw [List.all_eq_true] at *
  exact fun p hp => h p (List.mem_of_mem_take hp)

theorem noList_pyN : ∀ k : HK, noList k.py = true
  | .int _ => by simp [HK.py, noList]
  | .str _ => by simp [HK.py, noList]
  | .t2 a b => by simp [HK.py, noList, noListAll, noList_pyN a, noList_pyN b]
  | .t3 a b c => by simp [HK.py, noList, noListAll, noList_pyN a, noList_pyN b, noList_pyN c]
theorem noList_rowN (r : KI) : noList (rowD r) = true := by
  unfold rowD dictD
  rw [noList]
  induction r with
  | nil => rfl
  | cons p r ih => simp only [toKV, List.map_cons, noListTab, noList_pyN, Bool.true_and] at ih ⊢; simp [noList]; simpa [toKV] using ih
theorem row_atN {rs : List KI} {a : Nat} (h : a < rs.length) : (rs.map rowD)[a]? = some (rowD (rs.getD a [])) := by
  rw [List.getElem?_map, List.getElem?_eq_getElem h]; simp [List.getD, List.getElem?_eq_getElem h]

section
variable {w : World} {Γ : GEnv} {k : Nat}
theorem key_evN {sc : Scope} {σ : Sg} {prog : Program} {e1 e n2 p2 m p} {s : Str} {i : Nat} (h1 : Ev prog w Γ sc k σ e1 (.str s)) (h : Ev prog w Γ sc k σ e (nI i)) (hse1 : ∀ env r, starEach (e1 :: r) env = (false, eval e1 env) :: starEach r env := by intro _ _; rfl) (hse : ∀ env r, starEach (e :: r) env = (false, eval e env) :: starEach r env := by intro _ _; rfl) :
    Ev prog w Γ sc k σ (.Tuple [e1, e, .Constant (.str "place") n2 p2] m p) (kk s i).py :=
  Ev.tuple (.cons h1 (.cons h (.cons .str .nil) fun env => hse env _) fun env => hse1 env _) (by show 3 ≤ sizeLine; decide)

/-- calls[a] = add_callers(calls[a], {(kind, b, 'place'): 1}) -/
theorem call_step {K : List Str} {sc : Scope} {σ ω : Sg} {fa : Addr} {fda : FuncData} (FA : FnIs Γ fa fda (scopeAt pw_hn0002_03 1) ["target", "source"] (bodyAt pw_hn0002_03 1))
    (hI : Γ.names.lookup ("isinstance" : Str) = some (.builtin "isinstance")) (hT : Γ.names.lookup ("tuple" : Str) = some (.type "tuple")) (hA : Γ.names.lookup ("add_callers" : Str) = some (.ref fa))
    {m : Nat} {rs : List KI} {n : Nat} {d : Nat → Nat} (inv : RowsM m rs n d) (hn : n < 10000) (hm : m ≤ 100) {a : Nat} (ha : a < m) {s : Str} (hs : PyData.strOk s = true) {b : Nat} {x y z : Str} {u1 u2 u3 u4 : Pos} {p1 p2 p3 p4 p5 p7 p8 p9 p10 p11 p12 q2 q3 mm}
    (hω : ω = [(("calls" : Str), PyData.list (rs.map rowD))]) (hσ : σ.lookup ("calls" : Str) = none) (hg : sc.names.lookup ("add_callers" : Str) = some .globalImplicit)
    (h1 : Ev pw_hn0002_03 w Γ sc (k + 1) (σ ++ ω) (.Name x u1) (nI a)) (h0 : Ev pw_hn0002_03 w Γ sc (k + 1) (σ ++ ω) (.Name z u4) (.str s)) (h2 : Ev pw_hn0002_03 w Γ sc (k + 1) (σ ++ ω) (.Name y u2) (nI b)) (h3 : Ev pw_hn0002_03 w Γ sc (k + 1) (σ ++ ω) (.Name x u3) (nI a)) :
    Sx pw_hn0002_03 w Γ K sc (k + 1) σ ω (.Assign [.Subscript (.Name "calls" p1) (.Name x u3) p2] (.Call (.Name "add_callers" p3) [.Subscript (.Name "calls" p4) (.Name x u1) p5, .Dict [some (.Tuple [.Name z u4, .Name y u2, .Constant (.str "place") q2 p7] mm p8)] [.Constant (.int 1) q3 p9] p10] [] p11) p12)
      (.next σ [(("calls" : Str), .list ((rs.set a (addC (rs.getD a []) [(kk s b, 1)])).map rowD))]) := by
  subst hω
  have hlen : a < rs.length := by rw [inv.len]; exact ha
  have hm' := inv.mem ha
  have hrows : (σ ++ [(("calls" : Str), PyData.list (rs.map rowD))]).lookup ("calls" : Str) = some (.list (rs.map rowD)) := by
    rw [lookup_append, hσ]; rfl
  have hz : (rs.getD a []).length + [(kk s b, (1 : Int))].length ≤ sizeLine := by
    have := inv.short _ hm'
    have q : 10001 ≤ sizeLine := by decide
    simp only [List.length_cons, List.length_nil]; omega
  have := Sx.setL (prog := pw_hn0002_03) (w := w) (Γ := Γ) (K := K) (sc := sc) (k := k + 1) (σ := σ) (ω := [(("calls" : Str), PyData.list (rs.map rowD))]) (x := "calls") (px := p1) (spos := p2) (pos := p12) (j := a) (d := rowD (addC (rs.getD a []) [(kk s b, 1)]))
    (e := .Call (.Name "add_callers" p3) [.Subscript (.Name "calls" p4) (.Name x u1) p5, .Dict [some (.Tuple [.Name z u4, .Name y u2, .Constant (.str "place") q2 p7] mm p8)] [.Constant (.int 1) q3 p9] p10] [] p11) (i := .Name x u3) (xs := rs.map rowD) (by rfl) hσ
    (.nolist (Ev.call hg hA (.fn FA.mem) (.cons (Ev.sub (Ev.name hrows) h1 (SubOk.list (by omega) (by omega) (row_atN hlen))) (.cons (EvF.dict1 (key_evN h0 h2) Ev.int (kk_tk hs b)).ev .nil)) (add_callers_ok FA (rs.getD a []) [(kk s b, 1)] (inv.tk _ hm') (by simp [tki, kk_tk hs]) hz hI hT)) (noList_rowN _) (by rfl))
    h3 (by rw [List.length_map]; exact hlen) (by omega)
  rw [← List.map_set] at this
  exact this
end
end Mine

open PySem PySem.W PyProof.Rows
namespace Mine
open PySem.Challenge

theorem lay_qD : ∀ ns : List Q4, PyData.canLayAll0 (ns.map qD) = true ∧ PyData.depthAll (ns.map qD) ≤ 2
  | [] => ⟨rfl, by simp [PyData.depthAll]⟩
  | n :: r => by
    refine xA (lay_qD r) fun h3 h4 => ?_
    simp only [List.map_cons, qD, nI, PyData.canLayAll0, PyData.canLay0, Bool.true_and, Bool.and_true, PyData.depthAll, PyData.depth]
    refine ⟨h3, ?_⟩
    change max _ (PyData.depthAll (r.map qD)) ≤ 2
    omega
theorem shaped_qD (ns : List Q4) : PySem.SeqAt.shaped (.list (ns.map qD)) = true := by
  refine xA (lay_qD ns) fun h1 h2 => ?_
  unfold PySem.SeqAt.shaped
  rw [PyData.canLay0, h1, PyData.depth, Bool.true_and]
  exact decide_eq_true (by omega)
theorem longest_le (m : Nat) (ties : List NP) : longest m ties ≤ m := by
  unfold longest
  have : ∀ (l : List Nat) (b : Nat), b ≤ m → l.foldl (longStep m ties) b ≤ m := by
    intro l
    induction l with
    | nil => intro b h; exact h
    | cons x l ih =>
      intro b h
      refine ih _ ?_
      unfold longStep
      split
      · unfold mx
        split
        · exact lotOf_len m x
        · exact h
      · exact h
  exact this _ 0 (Nat.zero_le _)
theorem bits10 {n : Nat} (h : n ≤ 10) : Builtin.Int.intBits (n : Int) ≤ 64 := by
  have : ∀ n : Fin 11, Builtin.Int.intBits ((n : Nat) : Int) ≤ 64 := by decide +kernel
  exact this ⟨n, by omega⟩

/-- what the law asks of its ties -/
structure L3 (many : Nat) (ties lacks : List NP) : Prop where
  hh : ∀ lot < 2 ^ many, 1 < (lotOf many lot).length → oneHangs ties lacks (lotOf many lot)
  hpa : parted ties lacks 6 (List.range many) = some (rows0 many ties many).isEmpty
  hrl : (rows0 many lacks many).length = (rows0 many ties many).length
  hlo : (rows0 many ties many).isEmpty = true → many ≤ longest many ties * longest many lacks
  hok1 : okN many ties = true
  hok2 : okN many lacks = true
  hdeg : ∀ i < many, degN i ties + degN i lacks + 1 = many

section
variable {w : World} {Γ : GEnv} {k : Nat} {sc : Scope} {σ : Sg} {fa fc fp fr ft fl : Addr} {da dc dp dr dt dl : FuncData}

set_option maxRecDepth 100000 in
theorem law_b (G : G3 Γ fa fc fp fr ft fl da dc dp dr dt dl) {many : Nat} {ties lacks : List NP} {r : Res} (hm : many ≤ 10) (L : L3 many ties lacks)
    (rest : Ss pw_hn0002_03 w Γ [] (scopeAt pw_hn0002_03 11) (k + 7) (lawB many ties lacks) [] ((bodyAt pw_hn0002_03 11).drop 11) r) :
    Ss pw_hn0002_03 w Γ [] (scopeAt pw_hn0002_03 11) (k + 7) (lawB many ties lacks) [] ((bodyAt pw_hn0002_03 11).drop 8) r := by
  refine Ss.cons (Sx.asg (kd := .plain) (d := .list ((rows0 many ties many).map qD)) (.inl (by decide)) (.of fun _ => rfl) (.plain (Ev.call2 (by decide) G.hRo (.fn G.FR.mem) (Ev.name (d := nI many) (by rfl)) (Ev.name (d := lP ties) (by rfl)) (law_rows_ok (k := k + 6) G.FR G.hR G.hL G.hD G.hMin G.hMax hm)))) ?_
  have z1 := rows0_len many ties many
  have z2 := rows0_len many lacks many
  have b1 : many * 1 ≤ 10 := by omega
  have b2 : many * (many * 1) ≤ 10 * 10 := Nat.mul_le_mul hm b1
  have b3 : many * (many * (many * 1)) ≤ 10 * (10 * 10) := Nat.mul_le_mul hm b2
  have b4 : many * (many * (many * (many * 1))) ≤ 10 * (10 * (10 * 10)) := Nat.mul_le_mul hm b3
  have hrange : (List.range many).length ≤ 100 := by rw [List.length_range]; omega
  obtain ⟨_, hpa, hrl, hlo, _, _, _⟩ := L
  have hl1 := longest_le many ties
  have hrows := law_rows_ok (w := w) (k := k + 6) (ties := lacks) G.FR G.hR G.hL G.hD G.hMin G.hMax hm
  generalize rows0 many ties many = rows at *
  generalize rows0 many lacks many = rows' at *
  have hrowsE : ∀ {p1 p2 p3}, Ev pw_hn0002_03 w Γ (scopeAt pw_hn0002_03 11) (k + 7) (((("rows" : Str), PyData.list (rows.map qD)) :: lawB many ties lacks) ++ []) (.Compare (.Name "rows" p1) [.Eq] [.List [] p2] p3) (.bool rows.isEmpty) := fun {p1 p2 p3} => by
    have := Ev.cmp (pos := p3) (Ev.name (prog := pw_hn0002_03) (w := w) (Γ := Γ) (sc := scopeAt pw_hn0002_03 11) (k := k + 7) (σ := ((("rows" : Str), PyData.list (rows.map qD)) :: lawB many ties lacks) ++ []) (pos := p1) (x := "rows") (d := .list (rows.map qD)) (by rfl)) (Ev.nil (pos := p2)) (CmpOk.eqNil (shaped_qD rows))
    rwa [isEmpty_mapD] at this
  refine Ss.cons (Sx.ite (b := false) (Tr.or_ff (Tr.as (bne_self_eq_false rows.isEmpty) (Tr.cmp (Ev.call (by decide) G.hTe (.fn G.FT.mem) (.cons (Ev.listRange (by decide) G.hLi (by decide) G.hR (Ev.name (d := nI many) (by rfl)) (by omega)) (.cons (Ev.name (d := lP ties) (by rfl)) (.cons (Ev.name (d := lP lacks) (by rfl)) .nil))) (law_parted_ok (k := k) G.FT G.FP G.hP G.hTe G.hL G.hLi G.hD G.hMin G.hMax 6 (List.range many) _ hpa hrange)) hrowsE CmpOk.neB))
    (Tr.or_ff (Tr.as (b := false) (a := !Nat.beq rows'.length rows.length) (by rw [hrl]; simp) (Tr.cmp (Ev.lenM G.hL (by decide) rows' qD (Ev.call2 (by decide) G.hRo (.fn G.FR.mem) (Ev.name (d := nI many) (by rfl)) (Ev.name (d := lP lacks) (by rfl)) hrows) (by omega)) (Ev.lenM G.hL (by decide) rows qD (Ev.name (d := .list (rows.map qD)) (by rfl)) (by omega)) CmpOk.neN)) Tr.or_nil)) nofun fun _ => Ss.nil) ?_
  refine Ss.cons (Sx.ite (b := false) ?_ nofun fun _ => Ss.nil) (rest.pre (sub_of ⟨rfl, rfl, rfl, trivial⟩) (sub_of trivial))
  refine Tr.as (a := rows.isEmpty && false) (Bool.and_false _) (Tr.and2 (Tr.as (isEmpty_mapD qD rows) (Tr.cmp (Ev.name (d := .list (rows.map qD)) (by rfl)) Ev.nil (CmpOk.eqNil (shaped_qD rows)))) fun q => ?_)
  have hmul := hlo q
  refine Tr.cmp (Ev.bin (Ev.call2 (by decide) G.hLo (.fn G.FL.mem) (Ev.name (d := nI many) (by rfl)) (Ev.name (d := lP ties) (by rfl)) (law_longest_ok (k := k + 6) G.FL G.hR G.hL G.hMax hm)) (Ev.call2 (by decide) G.hLo (.fn G.FL.mem) (Ev.name (d := nI many) (by rfl)) (Ev.name (d := lP lacks) (by rfl)) (law_longest_ok (k := k + 6) G.FL G.hR G.hL G.hMax hm)) (BinOk.mul (.of_left (bits10 (by omega))))) (Ev.name (d := nI many) (by rfl)) (b := false) ?_
  have h2 := CmpOk.ltI (prog := pw_hn0002_03) (w := w) (k := k + 7) (a := (longest many ties : Int) * (longest many lacks : Int)) (b := (many : Int))
  rw [decide_eq_false (by rw [← Int.natCast_mul]; omega)] at h2
  exact h2

/-- both lots, each with its name -/
noncomputable def lotsOf (ties lacks : List NP) : List (Str × List NP) := [("tied", ties), ("lacks", lacks)]
noncomputable def callsTo (many : Nat) (l : List (Str × List NP)) : List KI := l.foldl (fun rs q => q.2.foldl (stepC q.1) rs) (List.replicate many [])
theorem callsTo_ok {many : Nat} : ∀ (l : List (Str × List NP)), (∀ q ∈ l, PyData.strOk q.1 = true ∧ okN many q.2 = true) → ∀ {rs : List KI} {n : Nat} {d : Nat → Nat}, RowsM many rs n d → RowsM many (l.foldl (fun rs q => q.2.foldl (stepC q.1) rs) rs) (n + 2 * (l.map fun q => q.2.length).sum) fun x => d x + (l.map fun q => degN x q.2).sum
  | [], _, rs, n, d, h => by simpa using h
  | q :: l, hq, rs, n, d, h => by
    have h1 := hq q (.head _)
    have := callsTo_ok l (fun p hp => hq p (.tail _ hp)) (h.fold h1.1 q.2 h1.2)
    rw [List.foldl_cons]
    refine ⟨this.len, this.tk, fun r hr => ?_, this.nd, fun i hi => ?_⟩
    · have := this.short r hr; simp only [List.map_cons, List.sum_cons]; omega
    · rw [this.sum i hi]; simp only [List.map_cons, List.sum_cons]; congr 1; omega

set_option maxRecDepth 100000 in
theorem law_c (G : G3 Γ fa fc fp fr ft fl da dc dp dr dt dl) {many : Nat} {ties lacks : List NP} (hm : many ≤ 10) (hz1 : ties.length ≤ 100) (hz2 : lacks.length ≤ 100) (L : L3 many ties lacks) :
    Ss pw_hn0002_03 w Γ [] (scopeAt pw_hn0002_03 11) (k + 7) (lawB many ties lacks) [] ((bodyAt pw_hn0002_03 11).drop 11) (.ret (.bool true)) := by
  obtain ⟨_, _, _, _, hok1, hok2, hdeg⟩ := L
  have hlots : ∀ q ∈ lotsOf ties lacks, PyData.strOk q.1 = true ∧ okN many q.2 = true ∧ q.2.length ≤ 100 := by
    intro q hq
    rcases List.mem_cons.mp hq with rfl | hq
    · exact ⟨show PyData.strOk "tied" = true by decide +kernel, hok1, hz1⟩
    · rw [List.mem_singleton.mp hq]
      exact ⟨show PyData.strOk "lacks" = true by decide +kernel, hok2, hz2⟩
  refine Ss.cons (Sx.comp1 (List.range many) (fun i : Nat => PyData.int (i : Int)) (fun _ => some (dictD [])) .own (by decide) (.inl rfl) (It.range0 (by decide) G.hR (Ev.name (d := nI many) (by rfl)) (by omega)) trivial (fun x hx => ⟨_, Tgt.name (.inl (by decide)), trivial, Tests.nil, fun y hy => ?_⟩) (sz' (by rw [List.length_range]; omega))) ?_
  · have zC := Option.some.inj hy
    clear hy
    subst zC
    exact EvF.dict0.ev
  rw [fm_some, show (List.range many).map (fun _ => dictD []) = (List.replicate many ([] : KI)).map rowD from by
    rw [List.map_replicate]
    refine List.eq_replicate_iff.mpr ⟨by simp, fun b hb => ?_⟩
    obtain ⟨_, _, rfl⟩ := List.mem_map.mp hb
    rfl]
  refine Ss.cons (Sx.for_ (fun _ => lawB many ties lacks) (fun i => [("calls", .list ((callsTo many ((lotsOf ties lacks).take i)).map rowD))]) (T := fun _ => True) (ds := (lotsOf ties lacks).map fun q => PyData.tuple [.str q.1, lP q.2]) (It.list (Ev.list (.cons (Ev.tup2 Ev.str (Ev.name (d := lP ties) (by rfl))) (.cons (Ev.tup2 Ev.str (Ev.name (d := lP lacks) (by rfl))) .nil)) (by show 2 ≤ sizeLine; decide))) trivial fun i d hd => ?_) ?_
  · rw [List.getElem?_map] at hd
    cases hn : (lotsOf ties lacks)[i]? with
    | none => rw [hn] at hd; cases hd
    | some q =>
      rw [hn] at hd
      cases hd
      have hq := hlots q (List.mem_of_getElem? hn)
      have hi2 : i < 2 := (List.getElem?_eq_some_iff.mp hn).1
      have inv := callsTo_ok (many := many) ((lotsOf ties lacks).take i) (fun p hp => let h := hlots p (List.mem_of_mem_take hp); ⟨h.1, h.2.1⟩) (rows_none many)
      rw [show callsTo many ((lotsOf ties lacks).take (i + 1)) = q.2.foldl (stepC q.1) (callsTo many ((lotsOf ties lacks).take i)) from fold_take _ _ hn]
      have hle : 0 + 2 * (((lotsOf ties lacks).take i).map fun q => q.2.length).sum ≤ 400 := by
        have : ∀ l : List (Str × List NP), (∀ q ∈ l, q.2.length ≤ 100) → (l.map fun q => q.2.length).sum ≤ l.length * 100 := by
          intro l
          induction l with
          | nil => simp
          | cons x l ih => intro h; have := ih fun q hq => h q (.tail _ hq); have := h x (.head _); simp only [List.map_cons, List.sum_cons, List.length_cons, Nat.succ_mul]; omega
        have h1 := this ((lotsOf ties lacks).take i) fun p hp => (hlots p (List.mem_of_mem_take hp)).2.2
        have h2 : ((lotsOf ties lacks).take i).length ≤ 2 := by rw [List.length_take]; omega
        omega
      change RowsM many (callsTo many ((lotsOf ties lacks).take i)) _ _ at inv
      generalize 0 + 2 * (((lotsOf ties lacks).take i).map fun q => q.2.length).sum = n0 at inv hle
      generalize callsTo many ((lotsOf ties lacks).take i) = C0 at inv ⊢
      obtain ⟨s, ps⟩ := q
      obtain ⟨hs, hok, hpz⟩ := hq
      refine ⟨_, Tgt.pair (.inl (by decide)) (.inr (by decide)), nofun, ⟨rfl, trivial⟩, ?_⟩
      refine Ss.cons (Sx.for_ (fun _ => ("kind", .str s) :: lawB many ties lacks) (fun i => [("calls", .list (((ps.take i).foldl (stepC s) C0).map rowD))]) (It.list (Ev.name (d := lP ps) (by rfl))) trivial fun j d hd => ?_) (by rw [List.length_map, List.take_length]; exact Ss.nil.to)
      rw [List.getElem?_map] at hd
      cases hp : ps[j]? with
      | none => rw [hp] at hd; cases hd
      | some p =>
        rw [hp] at hd
        cases hd
        have hj : j < ps.length := (List.getElem?_eq_some_iff.mp hp).1
        have inv2 := inv.fold hs (ps.take j) (okN_take hok j)
        have hpo := List.all_eq_true.mp hok p (List.mem_of_getElem? hp)
        rw [Bool.and_eq_true, Nat.blt_eq, Nat.blt_eq] at hpo
        rw [fold_take (stepC s) _ hp]
        have hle2 : n0 + 2 * (ps.take j).length ≤ 600 := by have : ps.length ≤ 100 := hpz; rw [List.length_take]; omega
        generalize n0 + 2 * (ps.take j).length = n1 at inv2 hle2
        generalize (ps.take j).foldl (stepC s) C0 = C1 at inv2 ⊢
        obtain ⟨a, b⟩ := p
        refine ⟨_, Tgt.pair (.inl (by decide)) (.inl (by decide)), nofun, ⟨rfl, trivial⟩, ?_⟩
        refine Ss.cons (call_step G.FA G.hI G.hT G.hA inv2 (by omega) (by omega) (a := a) (b := b) hpo.1 hs rfl (by rfl) (by decide) (Ev.name (by rfl)) (Ev.name (by rfl)) (Ev.name (by rfl)) (Ev.name (by rfl))) ?_
        refine Ss.cons (call_step G.FA G.hI G.hT G.hA (inv2.set (j := a) hpo.1 hs b) (by omega) (by omega) (a := b) (b := a) hpo.2 hs rfl (by rfl) (by decide) (Ev.name (by rfl)) (Ev.name (by rfl)) (Ev.name (by rfl)) (Ev.name (by rfl))) ?_
        exact Ss.nil.to
  · have inv := callsTo_ok (many := many) (lotsOf ties lacks) (fun p hp => let h := hlots p hp; ⟨h.1, h.2.1⟩) (rows_none many)
    change RowsM many (callsTo many (lotsOf ties lacks)) _ _ at inv
    rw [List.length_map, List.take_length]
    have hsum : ∀ i < many, sumK ((callsTo many (lotsOf ties lacks)).getD i []) = (many : Int) - 1 := fun i hi => by
      rw [inv.sum i hi]
      have := hdeg i hi
      simp only [lotsOf, List.map_cons, List.map_nil, List.sum_cons, List.sum_nil]
      omega
    generalize callsTo many (lotsOf ties lacks) = rs at inv hsum ⊢
    have hf : rs.filter (fun r => !(sumK r == (many : Int) - 1)) = [] := by
      rw [List.filter_eq_nil_iff]
      intro r hr
      obtain ⟨i, hi, rfl⟩ := List.mem_iff_getElem.mp hr
      have := hsum i (by rw [← inv.len]; exact hi)
      rw [List.getD, List.getElem?_eq_getElem hi, Option.getD_some] at this
      rw [this]; simp
    refine Ss.stop (Sx.ret (d := .bool true) ?_)
    refine Ev.cmp (d1 := .list ((rs.filter (fun r => !(sumK r == (many : Int) - 1))).map rowD)) (d2 := .list []) (EvF.ev (EvF.filt1 rs rowD (fun r => !(sumK r == (many : Int) - 1)) (It.list (Ev.name (d := .list (rs.map rowD)) (by rfl))) trivial (by rw [inv.len]; omega) fun r hr => ?_)) Ev.nil (by rw [hf]; exact CmpOk.eqNil rfl)
    exact Tr.cmp (Ev.call1 (by decide) G.hC (.fn G.FC.mem) (Ev.name (d := rowD r) (by rfl)) (count_calls_ok G.FC (toKV r) (r.map (·.2)) (toKV_vals r))) (Ev.bin (Ev.name (d := nI many) (by rfl)) Ev.int BinOk.sub) (CmpOk.neI' rfl)

theorem law_all (G : G3 Γ fa fc fp fr ft fl da dc dp dr dt dl) {dS dN : PyData} {many : Nat} {figs : List Int} (hm : many ≤ 10) (hfl : figs.length = (twosOf many).length) (htz : (twosOf many).length ≤ 100) (L : L3 many (tiesOf many figs) (lacksOf many (tiesOf many figs))) :
    Ss pw_hn0002_03 w Γ [] (scopeAt pw_hn0002_03 11) (k + 7) (lawA dS dN many figs) [] ((bodyAt pw_hn0002_03 11).drop 5) (.ret (.bool true)) :=
  law_a G hm hfl htz L.hh (law_b G hm L (law_c G hm (Nat.le_trans (tiesOf_len _ _) htz) (Nat.le_trans (lacksOf_len _ _) htz) L))
end
end Mine

open PySem PySem.W PyProof.Rows
namespace Mine
open PySem.Challenge

/-! the functions ask of their ties alone which pairs are among them -/
theorem iter_congr {α : Type} {s t : α → Option (Option α)} (Inv : α → Prop) (h : ∀ a, Inv a → s a = t a) (h2 : ∀ a b, Inv a → s a = some (some b) → Inv b) : ∀ (f : Nat) (a : α), Inv a → iter s f a = iter t f a
  | 0, _, _ => rfl
  | f + 1, a, ha => by
    unfold iter
    rw [← h a ha]
    cases q : s a with
    | none => rfl
    | some r => cases r with
      | none => rfl
      | some b => exact iter_congr Inv h h2 f b (h2 a b ha q)
theorem piece_congr {places left : List Nat} {t1 t2 : List NP} (h : ∀ a ∈ places, ∀ b ∈ places, adj t1 a b = adj t2 a b) {x : Nat} (hl : ∀ y ∈ left, y ∈ places) (hx : x ∈ places) : pieceOf left t1 x = pieceOf left t2 x := by
  unfold pieceOf
  congr 1
  refine iter_congr (fun a => ∀ y ∈ a.2, y ∈ places) (fun a ha => ?_) (fun a b ha hs => ?_) 20 _ (fun y hy => by rw [List.mem_singleton.mp hy]; exact hx)
  · unfold growStep
    cases q : a.2[a.1]? with
    | none => rfl
    | some z =>
      simp only
      congr 4
      refine List.filter_congr fun t ht => ?_
      rw [h _ (ha z (List.mem_of_getElem? q)) _ (hl t ht)]
  · unfold growStep at hs
    split at hs
    · cases hs
    · obtain rfl := Option.some.inj (Option.some.inj hs)
      intro y hy
      rcases List.mem_append.mp hy with hy | hy
      · exact ha y hy
      · exact hl y (List.mem_filter.mp hy).1
theorem piecesL_congr {places : List Nat} {t1 t2 : List NP} (h : ∀ a ∈ places, ∀ b ∈ places, adj t1 a b = adj t2 a b) : piecesL places t1 = piecesL places t2 := by
  unfold piecesL
  congr 1
  refine iter_congr (fun a => ∀ y ∈ a.1, y ∈ places) (fun a ha => ?_) (fun a b ha hs => ?_) 20 _ (fun y hy => hy)
  · obtain ⟨l, n⟩ := a
    unfold pcStepL
    cases l with
    | nil => rfl
    | cons x t =>
      simp only
      rw [piece_congr h ha (ha x (.head _))]
  · obtain ⟨l, n⟩ := a
    unfold pcStepL at hs
    cases l with
    | nil => cases hs
    | cons x t =>
      simp only at hs
      split at hs
      · cases hs
      · obtain rfl := Option.some.inj (Option.some.inj hs)
        intro y hy
        exact ha y (List.mem_filter.mp hy).1

/-- two lots of ties with the same members -/
noncomputable def SameP (t1 t2 : List NP) : Prop := ∀ p, inP p t1 = inP p t2
theorem SameP.adj {t1 t2 : List NP} (h : SameP t1 t2) (a b : Nat) : adj t1 a b = adj t2 a b := h _
theorem SameP.pieces {t1 t2 : List NP} (h : SameP t1 t2) (pl : List Nat) : piecesL pl t1 = piecesL pl t2 := piecesL_congr fun a _ b _ => h.adj a b
theorem SameP.parted {t1 t2 l1 l2 : List NP} (h : SameP t1 t2) (h' : SameP l1 l2) : ∀ (f : Nat) (pl : List Nat), parted t1 l1 f pl = parted t2 l2 f pl
  | 0, _ => rfl
  | f + 1, pl => by
    have ih : Mine.parted t1 l1 f = Mine.parted t2 l2 f := funext fun pl => SameP.parted h h' f pl
    unfold Mine.parted
    rw [h.pieces pl, h'.pieces pl, ih]
theorem SameP.rows {t1 t2 : List NP} (h : SameP t1 t2) (m n : Nat) : rows0 m t1 n = rows0 m t2 n := by
  unfold rows0 rows1 rows2 rows3 row1 rowIs nears
  have : Mine.adj t1 = Mine.adj t2 := funext fun a => funext fun b => h.adj a b
  simp only [this]
theorem SameP.longest {t1 t2 : List NP} (h : SameP t1 t2) (m : Nat) : longest m t1 = longest m t2 := by
  unfold Mine.longest
  congr 1
  funext b lot
  unfold longStep allTied
  have : apart t1 = apart t2 := funext fun a => funext fun b => by unfold apart; rw [h]
  rw [this]

/-! numbers of ties -/
theorem maskOf_bit (ties : List NP) (i : Nat) : ∀ m : Nat, (ties.foldl (fun m p => Nat.lor m (Nat.shiftLeft 1 (codeP p.1 p.2))) m).testBit i = (m.testBit i || ties.any fun p => decide (codeP p.1 p.2 = i)) := by
  induction ties with
  | nil => intro m; simp
  | cons p ties ih =>
    intro m
    rw [List.foldl_cons, ih]
    show ((m ||| 1 <<< codeP p.1 p.2).testBit i || _) = _
    rw [Nat.testBit_or, List.any_cons, Bool.or_assoc, Nat.one_shiftLeft, Nat.testBit_two_pow]
noncomputable def goodR (ties : List NP) (r : List NP) : Bool := r.all fun t => inP t ties
noncomputable def noneR (ties : List NP) (r : List NP) : Bool := r.all fun t => !inP t ties
theorem goodR_mask (ties r : List NP) : goodR ties r = Nat.beq (Nat.land (maskOf r) (maskOf ties)) (maskOf r) := by
  rw [nat_beq, Bool.eq_iff_iff, decide_eq_true_iff]
  unfold goodR
  rw [List.all_eq_true]
  constructor
  · intro h
    refine Nat.eq_of_testBit_eq fun i => ?_
    show (maskOf r &&& maskOf ties).testBit i = _
    rw [Nat.testBit_and]
    cases q : (maskOf r).testBit i with
    | false => rfl
    | true =>
      rw [Bool.true_and]
      unfold maskOf at q ⊢
      rw [maskOf_bit] at q ⊢
      simp only [Nat.zero_testBit, Bool.false_or, List.any_eq_true, decide_eq_true_eq] at q ⊢
      refine xEA (q) fun p hp e => ?_
      try clear q
      exact ⟨p, inP_iff.mp (h p hp), e⟩
  · intro h p hp
    have h1 : (maskOf r).testBit (codeP p.1 p.2) = true := by
      unfold maskOf; rw [maskOf_bit]
      simp only [Nat.zero_testBit, Bool.false_or, List.any_eq_true, decide_eq_true_eq]
      exact ⟨p, hp, rfl⟩
    rw [← h] at h1
    have h2 : (maskOf r &&& maskOf ties).testBit (codeP p.1 p.2) = true := h1
    rw [Nat.testBit_and, Bool.and_eq_true] at h2
    have h3 := h2.2
    unfold maskOf at h3
    rw [maskOf_tb] at h3
    simpa using h3
theorem noneR_mask (ties r : List NP) : noneR ties r = Nat.beq (Nat.land (maskOf r) (maskOf ties)) 0 := by
  rw [nat_beq, Bool.eq_iff_iff, decide_eq_true_iff]
  unfold noneR
  rw [List.all_eq_true]
  constructor
  · intro h
    refine Nat.eq_of_testBit_eq fun i => ?_
    show (maskOf r &&& maskOf ties).testBit i = _
    rw [Nat.testBit_and, Nat.zero_testBit]
    cases q : (maskOf r).testBit i with
    | false => rfl
    | true =>
      rw [Bool.true_and]
      unfold maskOf at q
      rw [maskOf_bit] at q
      simp only [Nat.zero_testBit, Bool.false_or, List.any_eq_true, decide_eq_true_eq] at q
      refine xEA (q) fun p hp e => ?_
      try clear q
      rw [← e]
      unfold maskOf
      rw [maskOf_tb, Nat.zero_testBit, Bool.false_or]
      have := h p hp
      simpa using this
  · intro h p hp
    have h1 : (maskOf r).testBit (codeP p.1 p.2) = true := by
      unfold maskOf; rw [maskOf_bit]
      simp only [Nat.zero_testBit, Bool.false_or, List.any_eq_true, decide_eq_true_eq]
      exact ⟨p, hp, rfl⟩
    have h2 : (maskOf r &&& maskOf ties).testBit (codeP p.1 p.2) = false := by
      show (Nat.land (maskOf r) (maskOf ties)).testBit _ = false
      rw [h, Nat.zero_testBit]
    rw [Nat.testBit_and, h1, Bool.true_and] at h2
    unfold maskOf at h2
    rw [maskOf_tb, Nat.zero_testBit, Bool.false_or] at h2
    rw [h2]; rfl

/-! pieces, told out -/
noncomputable def pcsK (M : Nat) (f : Nat) : List Nat → List (List Nat) → (List (List Nat) → Bool) → Bool :=
  Nat.rec (fun _ _ _ => false) (fun _ ih left acc K => List.rec (K acc) (fun x _ _ => oR (pieceR left M x) false fun q => fL f1 (dedN q) fun d => fL f1 (filtR (fun y => bR (inR y d) false true) left) fun l => ih l (appR acc [d]) K) left) f
theorem notIn_eq (d : List Nat) : (fun y => bR (inR y d) false true) = fun y => !inN y d := by
  funext y
  unfold inR
  rw [anyR_eq]
  unfold inN
  cases (d.any fun z => Nat.beq z y) <;> rfl
theorem pcsK_go {ties : List NP} {K : List (List Nat) → Bool} : ∀ (f : Nat) (left : List Nat) (acc : List (List Nat)), pcsK (maskOf ties) f left acc K = true → ∃ z, iter (pcStepL ties) f (left, acc) = some z ∧ K z.2 = true
  | 0, _, _, h => nomatch h
  | f + 1, [], acc, h => ⟨([], acc), rfl, h⟩
  | f + 1, x :: t, acc, h => by
    change oR (pieceR (x :: t) (maskOf ties) x) false (fun q => fL f1 (dedN q) fun d => fL f1 (filtR (fun y => bR (inR y d) false true) (x :: t)) fun l => pcsK (maskOf ties) f l (appR acc [d]) K) = true at h
    rw [pieceR_eq, ← piece_eq] at h
    cases q : pieceOf (x :: t) ties x with
    | none => rw [q] at h; cases h
    | some c =>
      rw [q] at h
      change fL f1 (dedN c) _ = true at h
      rw [fL_eq f1_eq, fL_eq f1_eq, filtR_eq, notIn_eq, appR_eq] at h
      obtain ⟨z, h1, h2⟩ := pcsK_go f _ _ h
      refine ⟨z, ?_, h2⟩
      unfold iter pcStepL
      simp only [q]
      exact h1
noncomputable def pcK (pl : List Nat) (M : Nat) (K : List (List Nat) → Bool) : Bool := pcsK M 20 pl [] K
theorem pcK_ok {ties : List NP} {K : List (List Nat) → Bool} {pl : List Nat} (h : pcK pl (maskOf ties) K = true) : ∃ c, piecesL pl ties = some c ∧ K c = true := by
  obtain ⟨z, h1, h2⟩ := pcsK_go 20 pl [] h
  exact ⟨z.2, by unfold piecesL; rw [h1]; rfl, h2⟩
/-- one of both lots hangs together -/
noncomputable def hangK (pl : List Nat) (G L : List NP) : Bool := pcK pl (maskOf G) fun p1 => pcK pl (maskOf L) fun p2 => bR (Nat.beq p1.length 1) true (Nat.beq p2.length 1)
theorem hangK_ok {pl : List Nat} {G L : List NP} (h : hangK pl G L = true) : oneHangs G L pl := by
  obtain ⟨p1, e1, h⟩ := pcK_ok h
  obtain ⟨p2, e2, h⟩ := pcK_ok h
  refine ⟨p1, p2, e1, e2, ?_⟩
  cases q : Nat.beq p1.length 1 with
  | true => rfl
  | false => rw [q] at h; exact h

/-! parting, told out -/
noncomputable def allK (g : List Nat → (Bool → Bool) → Bool) (l : List (List Nat)) : (Bool → Bool) → Bool :=
  List.rec (fun K => K true) (fun q _ ih K => bR (Nat.ble q.length 100) (g q fun b => ih fun c => K (bR b c false)) false) l
noncomputable def partedK (M M' : Nat) (f : Nat) : List Nat → (Bool → Bool) → Bool :=
  Nat.rec (fun _ _ => false) (fun _ ih pl K => bR (Nat.blt pl.length 2) (K true) (pcK pl M fun p1 => pcK pl M' fun p2 => fL (fL f1) (bR (Nat.beq p1.length 1) p2 p1) fun ps => bR (Nat.blt 1 ps.length) (allK ih ps K) (K false))) f
theorem allK_ok {f : List Nat → Option Bool} {g : List Nat → (Bool → Bool) → Bool} (hg : ∀ q K, g q K = true → ∃ b, f q = some b ∧ K b = true) : ∀ (l : List (List Nat)) (K : Bool → Bool), allK g l K = true → ∃ b, allO f l = some b ∧ (∀ q ∈ l, q.length ≤ 100) ∧ K b = true
  | [], K, h => ⟨true, rfl, nofun, h⟩
  | q :: l, K, h => by
    change bR (Nat.ble q.length 100) (g q fun b => allK g l fun c => K (bR b c false)) false = true at h
    cases hz : Nat.ble q.length 100 with
    | false => rw [hz] at h; cases h
    | true =>
      rw [hz] at h
      obtain ⟨b, e1, h⟩ := hg _ _ h
      obtain ⟨c, e2, h3, h⟩ := allK_ok hg l _ h
      refine ⟨bR b c false, ?_, fun p hp => ?_, h⟩
      · unfold allO
        rw [e1, e2]
        cases b <;> rfl
      · rcases List.mem_cons.mp hp with rfl | hp
        · exact Nat.ble_eq.mp hz
        · exact h3 p hp
theorem partedK_ok {ties lacks : List NP} : ∀ (f : Nat) (pl : List Nat) (K : Bool → Bool), partedK (maskOf ties) (maskOf lacks) f pl K = true → ∃ b, parted ties lacks f pl = some b ∧ K b = true
  | 0, _, _, h => nomatch h
  | f + 1, pl, K, h => by
    change bR (Nat.blt pl.length 2) (K true) (pcK pl (maskOf ties) fun p1 => pcK pl (maskOf lacks) fun p2 => fL (fL f1) (bR (Nat.beq p1.length 1) p2 p1) fun ps => bR (Nat.blt 1 ps.length) (allK (partedK (maskOf ties) (maskOf lacks) f) ps K) (K false)) = true at h
    unfold parted
    by_cases hb : pl.length < 2
    · rw [Nat.blt_eq.mpr hb] at h
      exact ⟨true, by rw [if_pos hb], h⟩
    · have hbf : Nat.blt pl.length 2 = false := by rw [Bool.eq_false_iff]; intro q; exact hb (Nat.blt_eq.mp q)
      rw [hbf] at h
      rw [if_neg hb]
      obtain ⟨p1, e1, h⟩ := pcK_ok h
      obtain ⟨p2, e2, h⟩ := pcK_ok h
      rw [fL_eq (fL_eq f1_eq)] at h
      rw [e1, e2]
      simp only
      have z1 := piecesL_len e1
      have z2 := piecesL_len e2
      have hps : bR (Nat.beq p1.length 1) p2 p1 = if Nat.beq p1.length 1 = true then p2 else p1 := by cases Nat.beq p1.length 1 <;> rfl
      rw [hps] at h
      have zps : (if Nat.beq p1.length 1 = true then p2 else p1).length ≤ 20 := by split <;> assumption
      generalize (if Nat.beq p1.length 1 = true then p2 else p1) = ps at h zps ⊢
      cases hl : Nat.blt 1 ps.length with
      | false =>
        rw [hl] at h
        exact ⟨false, by simp, h⟩
      | true =>
        rw [hl] at h
        obtain ⟨b, e3, h3, h4⟩ := allK_ok (partedK_ok f) ps K h
        exact ⟨b, by rw [if_pos rfl, if_pos ⟨by omega, h3⟩]; exact e3, h4⟩
end Mine

open PySem PySem.W PyProof.Rows
namespace Mine
open PySem.Challenge

/-! rows of four, by their numbers -/
noncomputable def pathOf (q : Q4) : List NP := [ord q.1 q.2.1, ord q.2.1 q.2.2.1, ord q.2.2.1 q.2.2.2]
noncomputable def nonOf (q : Q4) : List NP := [ord q.1 q.2.2.1, ord q.2.1 q.2.2.2, ord q.1 q.2.2.2]
noncomputable def all4 (m : Nat) : List Q4 := (List.range m).flatMap fun a => (List.range m).flatMap fun b => (List.range m).flatMap fun c => (List.range m).map fun d => (a, b, c, d)
noncomputable def fourQ (q : Q4) : Bool := four q.1 q.2.1 q.2.2.1 q.2.2.2
noncomputable def quadsOf (m : Nat) : List (Nat × Nat) := ((all4 m).filter fourQ).map fun q => (maskOf (pathOf q), maskOf (nonOf q))
theorem rowIs_eq (ties : List NP) (a b c d : Nat) : rowIs ties a b c d = (goodR ties (pathOf (a, b, c, d)) && noneR ties (nonOf (a, b, c, d))) := by
  unfold rowIs nears nearP goodR noneR pathOf nonOf
  simp only [List.map_cons, List.map_nil, List.all_cons, List.all_nil]
  rw [show inP (ord a b) ties = adj ties a b from rfl, show inP (ord b c) ties = adj ties b c from rfl, show inP (ord c d) ties = adj ties c d from rfl, show inP (ord a c) ties = adj ties a c from rfl, show inP (ord b d) ties = adj ties b d from rfl, show inP (ord a d) ties = adj ties a d from rfl]
  generalize adj ties a b = x1
  generalize adj ties b c = x2
  generalize adj ties c d = x3
  generalize adj ties a c = x4
  generalize adj ties b d = x5
  generalize adj ties a d = x6
  revert x1 x2 x3 x4 x5 x6
  decide
theorem rows_all4 (m : Nat) (ties : List NP) : rows0 m ties m = (all4 m).flatMap fun q => row1 ties q.1 q.2.1 q.2.2.1 q.2.2.2 := by
  unfold rows0 rows1 rows2 rows3 all4
  simp only [List.flatMap_assoc, List.flatMap_map]
noncomputable def rowCnt (M : Nat) (l : List (Nat × Nat)) : Nat := List.rec 0 (fun e _ ih => bR (Nat.beq (Nat.land e.1 M) e.1) (bR (Nat.beq (Nat.land e.2 M) 0) (Nat.succ ih) ih) ih) l
theorem rowCnt_go (ties : List NP) : ∀ l : List Q4, (l.flatMap fun q => row1 ties q.1 q.2.1 q.2.2.1 q.2.2.2).length = rowCnt (maskOf ties) ((l.filter fourQ).map fun q => (maskOf (pathOf q), maskOf (nonOf q)))
  | [] => rfl
  | q :: l => by
    rw [List.flatMap_cons, List.length_append, rowCnt_go ties l, List.filter_cons]
    unfold row1
    rw [show four q.1 q.2.1 q.2.2.1 q.2.2.2 = fourQ q from rfl, rowIs_eq]
    cases fourQ q with
    | false => simp
    | true =>
      rw [if_pos rfl, List.map_cons, Bool.true_and]
      change _ = bR (Nat.beq (Nat.land (maskOf (pathOf q)) (maskOf ties)) (maskOf (pathOf q))) (bR (Nat.beq (Nat.land (maskOf (nonOf q)) (maskOf ties)) 0) (Nat.succ (rowCnt (maskOf ties) _)) (rowCnt (maskOf ties) _)) (rowCnt (maskOf ties) _)
      rw [← goodR_mask, ← noneR_mask]
      cases goodR ties (pathOf q) with
      | false => rw [Bool.false_and, if_neg Bool.false_ne_true, List.length_nil, Nat.zero_add]; rfl
      | true => cases noneR ties (nonOf q) with
        | false => rw [Bool.and_false, if_neg Bool.false_ne_true, List.length_nil, Nat.zero_add]; rfl
        | true => rw [Bool.and_true, if_pos rfl, List.length_singleton, Nat.add_comm]; rfl
theorem rowCnt_eq (m : Nat) (ties : List NP) : rowCnt (maskOf ties) (quadsOf m) = (rows0 m ties m).length := by
  rw [rows_all4, rowCnt_go]; rfl

/-! longest lots, by their numbers -/
noncomputable def pairsOf (pl : List Nat) : List NP := pl.flatMap fun a => (pl.filter fun b => Nat.blt a b).map fun b => (a, b)
theorem mem_pairs {pl : List Nat} {p : NP} : p ∈ pairsOf pl ↔ p.1 ∈ pl ∧ p.2 ∈ pl ∧ p.1 < p.2 := by
  obtain ⟨a, b⟩ := p
  unfold pairsOf
  rw [List.mem_flatMap]
  constructor
  · rintro ⟨x, hx, h⟩
    obtain ⟨y, hy, e⟩ := List.mem_map.mp h
    cases e
    obtain ⟨h1, h2⟩ := List.mem_filter.mp hy
    exact ⟨hx, h1, Nat.blt_eq.mp h2⟩
  · rintro ⟨h1, h2, h3⟩
    exact ⟨a, h1, List.mem_map.mpr ⟨b, List.mem_filter.mpr ⟨h2, Nat.blt_eq.mpr h3⟩, rfl⟩⟩
theorem allTied_eq (ties : List NP) (pl : List Nat) : allTied ties pl = goodR ties (pairsOf pl) := by
  rw [Bool.eq_iff_iff]
  unfold allTied goodR
  rw [Bool.not_eq_true', List.all_eq_true]
  constructor
  · intro h p hp
    obtain ⟨h1, h2, h3⟩ := mem_pairs.mp hp
    cases q : inP p ties with
    | true => rfl
    | false =>
      have : (pl.any fun a => pl.any (apart ties a)) = true := List.any_eq_true.mpr ⟨p.1, h1, List.any_eq_true.mpr ⟨p.2, h2, by unfold apart; rw [Nat.blt_eq.mpr h3, show inP (p.1, p.2) ties = false from q]; rfl⟩⟩
      rw [h] at this
      cases this
  · intro h
    rw [Bool.eq_false_iff]
    intro hh
    obtain ⟨a, ha, hh⟩ := List.any_eq_true.mp hh
    obtain ⟨b, hb, hh⟩ := List.any_eq_true.mp hh
    unfold apart at hh
    rw [Bool.and_eq_true, Nat.blt_eq] at hh
    rw [h (a, b) (mem_pairs.mpr ⟨ha, hb, hh.1⟩)] at hh
    cases hh.2
noncomputable def lotsM (m : Nat) : List (Nat × Nat) := (List.range (2 ^ m)).map fun lot => (maskOf (pairsOf (lotOf m lot)), (lotOf m lot).length)
noncomputable def longK (M : Nat) (l : List (Nat × Nat)) : Nat → (Nat → Bool) → Bool := List.rec (fun b K => K b) (fun e _ ih b K => bR (Nat.beq (Nat.land e.1 M) e.1) (f1 (bR (Nat.ble b e.2) e.2 b) fun b => ih b K) (ih b K)) l
theorem longK_go (ties : List NP) (K : Nat → Bool) (m : Nat) : ∀ (l : List Nat) (b : Nat), longK (maskOf ties) (l.map fun lot => (maskOf (pairsOf (lotOf m lot)), (lotOf m lot).length)) b K = K (l.foldl (longStep m ties) b)
  | [], b => rfl
  | x :: l, b => by
    rw [List.map_cons, List.foldl_cons, ← longK_go ties K m l]
    change bR (Nat.beq (Nat.land (maskOf (pairsOf (lotOf m x))) (maskOf ties)) (maskOf (pairsOf (lotOf m x)))) (f1 (bR (Nat.ble b (lotOf m x).length) (lotOf m x).length b) fun b => longK (maskOf ties) _ b K) (longK (maskOf ties) _ b K) = _
    rw [← goodR_mask, ← allTied_eq, f1_eq]
    unfold longStep
    cases allTied ties (lotOf m x) with
    | false => rfl
    | true =>
      rw [if_pos rfl]
      show longK _ _ (bR (Nat.ble b (lotOf m x).length) (lotOf m x).length b) K = _
      congr 1
      unfold mx
      cases Nat.ble b (lotOf m x).length <;> rfl
theorem longK_eq (ties : List NP) (K : Nat → Bool) (m : Nat) : longK (maskOf ties) (lotsM m) 0 K = K (longest m ties) := longK_go ties K m _ 0

/-- what is asked of all the ties at once -/
noncomputable def graphK (m : Nat) (qs lots : List (Nat × Nat)) (pl : List Nat) (M M' : Nat) : Bool :=
  bR (Nat.beq (rowCnt M qs) (rowCnt M' qs)) (bR (Nat.beq (rowCnt M qs) 0) (bR (partedK M M' 6 pl fun b => b) (longK M lots 0 fun x => longK M' lots 0 fun y => Nat.ble m (Nat.mul x y)) false) (partedK M M' 6 pl fun b => bR b false true)) false
theorem graphK_ok {m : Nat} {G L : List NP} (h : graphK m (quadsOf m) (lotsM m) (List.range m) (maskOf G) (maskOf L) = true) :
    parted G L 6 (List.range m) = some (rows0 m G m).isEmpty ∧ (rows0 m L m).length = (rows0 m G m).length ∧ ((rows0 m G m).isEmpty = true → m ≤ longest m G * longest m L) := by
  unfold graphK at h
  rw [rowCnt_eq, rowCnt_eq, longK_eq] at h
  have he : (rows0 m G m).isEmpty = Nat.beq (rows0 m G m).length 0 := by cases rows0 m G m <;> rfl
  rw [he]
  cases q : Nat.beq (rows0 m G m).length (rows0 m L m).length with
  | false => rw [q] at h; cases h
  | true =>
    rw [q] at h
    change bR (Nat.beq (rows0 m G m).length 0) _ _ = true at h
    refine ⟨?_, (Nat.eq_of_beq_eq_true q).symm, fun hz => ?_⟩
    · cases z : Nat.beq (rows0 m G m).length 0 with
      | true =>
        rw [z] at h
        change bR (partedK (maskOf G) (maskOf L) 6 (List.range m) fun b => b) _ _ = true at h
        cases hp : partedK (maskOf G) (maskOf L) 6 (List.range m) fun b => b with
        | false => rw [hp] at h; cases h
        | true =>
          obtain ⟨b, e, hb⟩ := partedK_ok _ _ _ hp
          rw [e, hb]
      | false =>
        rw [z] at h
        change partedK (maskOf G) (maskOf L) 6 (List.range m) (fun b => bR b false true) = true at h
        obtain ⟨b, e, hb⟩ := partedK_ok _ _ _ h
        cases b with
        | true => cases hb
        | false => exact e
    · rw [hz] at h
      change bR (partedK (maskOf G) (maskOf L) 6 (List.range m) fun b => b) _ _ = true at h
      cases hp : partedK (maskOf G) (maskOf L) 6 (List.range m) fun b => b with
      | false => rw [hp] at h; cases h
      | true =>
        rw [hp] at h
        change longK (maskOf L) (lotsM m) 0 (fun y => Nat.ble m (Nat.mul (longest m G) y)) = true at h
        rw [longK_eq] at h
        exact Nat.ble_eq.mp h

/-- all ways to part some pairs in two -/
noncomputable def allSub (l : List NP) : List NP → List NP → (List NP → List NP → Bool) → Bool := List.rec (fun G L K => K G L) (fun p _ ih G L K => bR (ih (p :: G) L K) (ih G (p :: L) K) false) l
theorem allSub_cons (p : NP) (l G L : List NP) (K : List NP → List NP → Bool) : allSub (p :: l) G L K = bR (allSub l (p :: G) L K) (allSub l G (p :: L) K) false := rfl
theorem allSub_both {p : NP} {l G L : List NP} {K : List NP → List NP → Bool} (h1 : allSub l (p :: G) L K = true) (h2 : allSub l G (p :: L) K = true) : allSub (p :: l) G L K = true := by
  rw [allSub_cons, h1, h2]; rfl
theorem allSub_ok (f : NP → Bool) {K : List NP → List NP → Bool} : ∀ (l G L : List NP), allSub l G L K = true → ∃ G' L', K G' L' = true ∧ (∀ p, inP p G' = (inP p G || (inP p l && f p))) ∧ ∀ p, inP p L' = (inP p L || (inP p l && !f p))
  | [], G, L, h => ⟨G, L, h, fun p => by simp [inP], fun p => by simp [inP]⟩
  | q :: l, G, L, h => by
    rw [allSub_cons] at h
    have h1 : allSub l (q :: G) L K = true := by
      cases e : allSub l (q :: G) L K with
      | true => rfl
      | false => rw [e] at h; cases h
    rw [h1] at h
    change allSub l G (q :: L) K = true at h
    have hc : ∀ (p : NP) (l : List NP), inP p (q :: l) = (eqP q p || inP p l) := fun _ _ => rfl
    cases hf : f q with
    | true =>
      obtain ⟨G', L', h2, h3, h4⟩ := allSub_ok f l _ _ h1
      refine ⟨G', L', h2, fun p => ?_, fun p => ?_⟩
      · rw [h3, hc, hc]
        cases e : eqP q p with
        | false => rfl
        | true => rw [← eqP_iff.mp e, hf]; simp
      · rw [h4, hc]
        cases e : eqP q p with
        | false => rfl
        | true => rw [← eqP_iff.mp e, hf]; simp
    | false =>
      obtain ⟨G', L', h2, h3, h4⟩ := allSub_ok f l _ _ h
      refine ⟨G', L', h2, fun p => ?_, fun p => ?_⟩
      · rw [h3, hc]
        cases e : eqP q p with
        | false => rfl
        | true => rw [← eqP_iff.mp e, hf]; simp
      · rw [h4, hc, hc]
        cases e : eqP q p with
        | false => rfl
        | true => rw [← eqP_iff.mp e, hf]; simp

/-! the pairs of some places -/
theorem mem_twos {m : Nat} {p : NP} : p ∈ twosOf m ↔ p.1 < p.2 ∧ p.2 < m := by
  obtain ⟨a, b⟩ := p
  unfold twosOf
  rw [List.mem_flatMap]
  constructor
  · rintro ⟨o, ho, h⟩
    obtain ⟨x, hx, e⟩ := List.mem_map.mp h
    cases e
    exact ⟨List.mem_range.mp hx, List.mem_range.mp ho⟩
  · rintro ⟨h1, h2⟩
    exact ⟨b, List.mem_range.mpr h2, List.mem_map.mpr ⟨a, List.mem_range.mpr h1, rfl⟩⟩
theorem inP_lacks {m : Nat} {ties : List NP} (p : NP) : inP p (lacksOf m ties) = (inP p (twosOf m) && !inP p ties) := by
  rw [Bool.eq_iff_iff, inP_iff, Bool.and_eq_true, inP_iff]
  unfold lacksOf
  rw [List.mem_filter]
theorem ord_mem {pl : List Nat} {a b : Nat} (ha : a ∈ pl) (hb : b ∈ pl) : (ord a b).1 ∈ pl ∧ (ord a b).2 ∈ pl := by
  unfold ord mn mx
  by_cases q : Nat.ble a b = true
  · rw [if_pos q, if_pos q]; exact ⟨ha, hb⟩
  · rw [if_neg q, if_neg q]; exact ⟨hb, ha⟩
theorem hangs_of {m : Nat} {ties : List NP} (hsub : ∀ p ∈ ties, p ∈ twosOf m) {pl : List Nat} (hpl : ∀ x ∈ pl, x < m) (h : allSub (pairsOf pl) [] [] (hangK pl) = true) : oneHangs ties (lacksOf m ties) pl := by
  obtain ⟨G, L, hK, hG, hL⟩ := allSub_ok (fun p => inP p ties) _ _ _ h
  have key : ∀ a ∈ pl, ∀ b ∈ pl, inP (ord a b) (pairsOf pl) = inP (ord a b) (twosOf m) := fun a ha b hb => by
    obtain ⟨m1, m2⟩ := ord_mem ha hb
    rw [Bool.eq_iff_iff, inP_iff, inP_iff, mem_pairs, mem_twos]
    exact ⟨fun q => ⟨q.2.2, hpl _ m2⟩, fun q => ⟨m1, m2, q.1⟩⟩
  have e1 : piecesL pl ties = piecesL pl G := piecesL_congr fun a ha b hb => by
    unfold adj
    rw [hG, key a ha b hb]
    cases q : inP (ord a b) ties with
    | false => simp [inP]
    | true => rw [inP_iff.mpr (hsub _ (inP_iff.mp q))]; simp
  have e2 : piecesL pl (lacksOf m ties) = piecesL pl L := piecesL_congr fun a ha b hb => by
    unfold adj
    rw [hL, key a ha b hb, inP_lacks]; simp [inP]
  obtain ⟨p1, p2, h1, h2, h3⟩ := hangK_ok hK
  exact ⟨p1, p2, by rw [e1, h1], by rw [e2, h2], h3⟩

theorem degN_cons (i : Nat) (p : NP) (ps : List NP) : degN i (p :: ps) = (if Nat.beq p.1 i = true then 1 else 0) + (if Nat.beq p.2 i = true then 1 else 0) + degN i ps := by
  rw [show degN i (p :: ps) = ps.foldl (fun n p => n + (if Nat.beq p.1 i = true then 1 else 0) + (if Nat.beq p.2 i = true then 1 else 0)) (0 + (if Nat.beq p.1 i = true then 1 else 0) + (if Nat.beq p.2 i = true then 1 else 0)) from rfl, degN_go, Nat.zero_add]
theorem degN_part (i : Nat) (f : NP → Bool) : ∀ l : List NP, degN i (l.filter f) + degN i (l.filter fun p => !f p) = degN i l
  | [] => rfl
  | p :: l => by
    have ih := degN_part i f l
    rw [List.filter_cons, List.filter_cons]
    cases f p with
    | true => simp only [if_true, Bool.not_true, Bool.false_eq_true, if_false, degN_cons]; omega
    | false => simp only [if_true, Bool.not_false, Bool.false_eq_true, if_false, degN_cons]; omega
theorem okN_sub {m : Nat} {l : List NP} (h : ∀ p ∈ l, p ∈ twosOf m) : okN m l = true := by
  unfold okN
  rw [List.all_eq_true]
  intro p hp
  obtain ⟨h1, h2⟩ := mem_twos.mp (h p hp)
  rw [Bool.and_eq_true, Nat.blt_eq, Nat.blt_eq]; omega

theorem l3_of {m : Nat} {ties : List NP} (hties : (twosOf m).filter (fun t => inP t ties) = ties) (hdeg : ∀ i < m, degN i (twosOf m) + 1 = m)
    (hall : allSub (twosOf m) [] [] (fun G L => graphK m (quadsOf m) (lotsM m) (List.range m) (maskOf G) (maskOf L)) = true)
    (hlots : ∀ lot < 2 ^ m, 1 < (lotOf m lot).length → allSub (pairsOf (lotOf m lot)) [] [] (hangK (lotOf m lot)) = true) : L3 m ties (lacksOf m ties) := by
  have hsub : ∀ p ∈ ties, p ∈ twosOf m := fun p hp => by rw [← hties] at hp; exact (List.mem_filter.mp hp).1
  obtain ⟨G, L, hK, hG, hL⟩ := allSub_ok (fun p => inP p ties) _ _ _ hall
  have s1 : SameP ties G := fun p => by
    rw [hG]
    cases q : inP p ties with
    | false => simp [inP]
    | true => rw [inP_iff.mpr (hsub _ (inP_iff.mp q))]; simp
  have s2 : SameP (lacksOf m ties) L := fun p => by rw [hL, inP_lacks]; simp [inP]
  obtain ⟨g1, g2, g3⟩ := graphK_ok hK
  refine ⟨fun lot hl h1 => hangs_of hsub (fun x hx => List.mem_range.mp (List.mem_filter.mp hx).1) (hlots lot hl h1), ?_, ?_, ?_, okN_sub hsub, okN_sub fun p hp => (List.mem_filter.mp hp).1, fun i hi => ?_⟩
  · rw [SameP.parted s1 s2, SameP.rows s1, g1]
  · rw [SameP.rows s1, SameP.rows s2, g2]
  · rw [SameP.rows s1, SameP.longest s1, SameP.longest s2]; exact g3
  · have := degN_part i (fun t => inP t ties) (twosOf m)
    rw [hties] at this
    have h2 := hdeg i hi
    unfold lacksOf
    omega
end Mine

open PySem PySem.W PyProof.Rows
namespace Mine
open PySem.Challenge

noncomputable def quads2 : List (Nat × Nat) := []
noncomputable def lots2 : List (Nat × Nat) := [(0, 0), (0, 1), (0, 1), (8, 2)]
noncomputable def twos2 : List NP := [(0, 1)]
noncomputable def K2 (G L : List NP) : Bool := graphK 2 quads2 lots2 [0, 1] (maskOf G) (maskOf L)
noncomputable def quads3 : List (Nat × Nat) := []
noncomputable def lots3 : List (Nat × Nat) := [(0, 0), (0, 1), (0, 1), (8, 2), (0, 1), (32, 2), (1024, 2), (1064, 3)]
noncomputable def twos3 : List NP := [(0, 1), (0, 2), (1, 2)]
noncomputable def K3 (G L : List NP) : Bool := graphK 3 quads3 lots3 [0, 1, 2] (maskOf G) (maskOf L)
noncomputable def quads4 : List (Nat × Nat) := [(268436488, 16544), (268451848, 1184), (17440, 268435592), (268451872, 1160), (17536, 268435496), (268436608, 16424), (268435496, 17536), (268435592, 17440), (1184, 268451848), (16544, 268436488), (16424, 268436608), (1160, 268451872)]
noncomputable def lots4 : List (Nat × Nat) := [(0, 0), (0, 1), (0, 1), (8, 2), (0, 1), (32, 2), (1024, 2), (1064, 3), (0, 1), (128, 2), (16384, 2), (16520, 3), (268435456, 2), (268435616, 3), (268452864, 3), (268453032, 4)]
noncomputable def twos4 : List NP := [(0, 1), (0, 2), (1, 2), (0, 3), (1, 3), (2, 3)]
noncomputable def K4 (G L : List NP) : Bool := graphK 4 quads4 lots4 [0, 1, 2, 3] (maskOf G) (maskOf L)
noncomputable def quads5 : List (Nat × Nat) := [(268436488, 16544), (68719477768, 262688), (268451848, 1184), (4722366482869645230088, 262784), (68719738888, 1568), (4722366482869645475848, 17024), (17440, 268435592), (263200, 68719477256), (268451872, 1160), (4722366482869913649184, 68719477376), (68719738912, 1544), (4722366482938364690464, 268436096), (17536, 268435496), (278656, 4722366482869645214216), (268436608, 16424), (68987912320, 4722366482869645214240), (4722366482869645475968, 16904), (4722366482938364690560, 268436000), (263680, 68719476776), (279040, 4722366482869645213832), (68719478272, 262184), (68987912704, 4722366482869645213856), (4722366482869645230592, 262280), (4722366482869913649664, 68719476896), (268435496, 17536), (68719476776, 263680), (268435592, 17440), (4722366482869645213832, 279040), (68719477256, 263200), (4722366482869645214216, 278656), (1184, 268451848), (1568, 68719738888), (4722366482869913650176, 68719755264), (4722366482938364691456, 268713984), (16544, 268436488), (17024, 4722366482869645475848), (68987928576, 4722366482869645476864), (4722366482938364706816, 268698624), (262688, 68719477768), (262784, 4722366482869645230088), (68988174336, 4722366482869645231104), (4722366482869913911296, 68719494144), (16424, 268436608), (262184, 68719478272), (4722366482869645213856, 68987912704), (4722366482869645214240, 68987912320), (1160, 268451872), (1544, 68719738912), (4722366482869645231104, 68988174336), (4722366482869645476864, 68987928576), (268436096, 4722366482938364690464), (268713984, 4722366482938364691456), (68719477376, 4722366482869913649184), (68719755264, 4722366482869913650176), (262280, 4722366482869645230592), (68719476896, 4722366482869913649664), (16904, 4722366482869645475968), (68719494144, 4722366482869913911296), (268436000, 4722366482938364690560), (268698624, 4722366482938364706816)]
noncomputable def lots5 : List (Nat × Nat) := [(0, 0), (0, 1), (0, 1), (8, 2), (0, 1), (32, 2), (1024, 2), (1064, 3), (0, 1), (128, 2), (16384, 2), (16520, 3), (268435456, 2), (268435616, 3), (268452864, 3), (268453032, 4), (0, 1), (512, 2), (262144, 2), (262664, 3), (68719476736, 2), (68719477280, 3), (68719739904, 3), (68719740456, 4), (4722366482869645213696, 2), (4722366482869645214336, 3), (4722366482869645492224, 3), (4722366482869645492872, 4), (4722366482938633125888, 3), (4722366482938633126560, 4), (4722366482938633405440, 4), (4722366482938633406120, 5)]
noncomputable def K5 (G L : List NP) : Bool := graphK 5 quads5 lots5 [0, 1, 2, 3, 4] (maskOf G) (maskOf L)
set_option maxRecDepth 100000
theorem quads2_ok : quads2 = quadsOf 2 := by decide +kernel
theorem lots2_ok : lots2 = lotsM 2 := by decide +kernel
theorem quads3_ok : quads3 = quadsOf 3 := by decide +kernel
theorem lots3_ok : lots3 = lotsM 3 := by decide +kernel
theorem quads4_ok : quads4 = quadsOf 4 := by decide +kernel
theorem lots4_ok : lots4 = lotsM 4 := by decide +kernel
theorem quads5_ok : quads5 = quadsOf 5 := by decide +kernel
theorem lots5_ok : lots5 = lotsM 5 := by decide +kernel
theorem graph2 : allSub twos2 [] [] K2 = true := by decide +kernel
theorem graph3 : allSub twos3 [] [] K3 = true := by decide +kernel
theorem graph4 : allSub twos4 [] [] K4 = true := by decide +kernel
theorem graph5_0 : allSub [(0, 3), (1, 3), (2, 3), (0, 4), (1, 4), (2, 4), (3, 4)] [(1, 2), (0, 2), (0, 1)] [] K5 = true := by decide +kernel
theorem graph5_1 : allSub [(0, 3), (1, 3), (2, 3), (0, 4), (1, 4), (2, 4), (3, 4)] [(0, 2), (0, 1)] [(1, 2)] K5 = true := by decide +kernel
theorem graph5_2 : allSub [(0, 3), (1, 3), (2, 3), (0, 4), (1, 4), (2, 4), (3, 4)] [(1, 2), (0, 1)] [(0, 2)] K5 = true := by decide +kernel
theorem graph5_3 : allSub [(0, 3), (1, 3), (2, 3), (0, 4), (1, 4), (2, 4), (3, 4)] [(0, 1)] [(1, 2), (0, 2)] K5 = true := by decide +kernel
theorem graph5_4 : allSub [(0, 3), (1, 3), (2, 3), (0, 4), (1, 4), (2, 4), (3, 4)] [(1, 2), (0, 2)] [(0, 1)] K5 = true := by decide +kernel
theorem graph5_5 : allSub [(0, 3), (1, 3), (2, 3), (0, 4), (1, 4), (2, 4), (3, 4)] [(0, 2)] [(1, 2), (0, 1)] K5 = true := by decide +kernel
theorem graph5_6 : allSub [(0, 3), (1, 3), (2, 3), (0, 4), (1, 4), (2, 4), (3, 4)] [(1, 2)] [(0, 2), (0, 1)] K5 = true := by decide +kernel
theorem graph5_7 : allSub [(0, 3), (1, 3), (2, 3), (0, 4), (1, 4), (2, 4), (3, 4)] [] [(1, 2), (0, 2), (0, 1)] K5 = true := by decide +kernel
theorem graph5 : allSub [(0, 1), (0, 2), (1, 2), (0, 3), (1, 3), (2, 3), (0, 4), (1, 4), (2, 4), (3, 4)] [] [] K5 = true := (allSub_both (allSub_both (allSub_both graph5_0 graph5_1) (allSub_both graph5_2 graph5_3)) (allSub_both (allSub_both graph5_4 graph5_5) (allSub_both graph5_6 graph5_7)))
noncomputable def hangB (lot : Nat) : Bool := fL f1 (lotOf 5 lot) fun pl => bR (Nat.blt 1 pl.length) (fL fP (pairsOf pl) fun ps => allSub ps [] [] (hangK pl)) true
theorem hangB_ok {lot : Nat} (h : hangB lot = true) (h1 : 1 < (lotOf 5 lot).length) : allSub (pairsOf (lotOf 5 lot)) [] [] (hangK (lotOf 5 lot)) = true := by
  unfold hangB at h
  rw [fL_eq f1_eq, fL_eq fP_eq, Nat.blt_eq.mpr h1] at h
  exact h
theorem hang30 : (List.range 31).all hangB = true := by decide +kernel
theorem hang31_0 : allSub [(0, 3), (0, 4), (1, 2), (1, 3), (1, 4), (2, 3), (2, 4), (3, 4)] [(0, 2), (0, 1)] [] (hangK [0, 1, 2, 3, 4]) = true := by decide +kernel
theorem hang31_1 : allSub [(0, 3), (0, 4), (1, 2), (1, 3), (1, 4), (2, 3), (2, 4), (3, 4)] [(0, 1)] [(0, 2)] (hangK [0, 1, 2, 3, 4]) = true := by decide +kernel
theorem hang31_2 : allSub [(0, 3), (0, 4), (1, 2), (1, 3), (1, 4), (2, 3), (2, 4), (3, 4)] [(0, 2)] [(0, 1)] (hangK [0, 1, 2, 3, 4]) = true := by decide +kernel
theorem hang31_3 : allSub [(0, 3), (0, 4), (1, 2), (1, 3), (1, 4), (2, 3), (2, 4), (3, 4)] [] [(0, 2), (0, 1)] (hangK [0, 1, 2, 3, 4]) = true := by decide +kernel
theorem hang31 : allSub [(0, 1), (0, 2), (0, 3), (0, 4), (1, 2), (1, 3), (1, 4), (2, 3), (2, 4), (3, 4)] [] [] (hangK [0, 1, 2, 3, 4]) = true := (allSub_both (allSub_both hang31_0 hang31_1) (allSub_both hang31_2 hang31_3))
theorem lotOf5 : ∀ m < 6, ∀ lot < 2 ^ m, lotOf m lot = lotOf 5 lot := by decide +kernel
theorem hangAll {m lot : Nat} (hm : m ≤ 5) (hl : lot < 2 ^ m) (h1 : 1 < (lotOf m lot).length) : allSub (pairsOf (lotOf m lot)) [] [] (hangK (lotOf m lot)) = true := by
  rw [lotOf5 m (by omega) lot hl] at h1 ⊢
  have h32 : lot < 32 := Nat.lt_of_lt_of_le hl (Nat.pow_le_pow_right (n := 2) (by decide) hm)
  by_cases h : lot < 31
  · exact hangB_ok (List.all_eq_true.mp hang30 lot (List.mem_range.mpr h)) h1
  · obtain rfl : lot = 31 := by omega
    rw [show lotOf 5 31 = [0, 1, 2, 3, 4] from by decide +kernel, show pairsOf [0, 1, 2, 3, 4] = [(0, 1), (0, 2), (0, 3), (0, 4), (1, 2), (1, 3), (1, 4), (2, 3), (2, 4), (3, 4)] from by decide +kernel]
    exact hang31
theorem graphAll {m : Nat} (h1 : 2 ≤ m) (h2 : m ≤ 5) : allSub (twosOf m) [] [] (fun G L => graphK m (quadsOf m) (lotsM m) (List.range m) (maskOf G) (maskOf L)) = true := by
  obtain rfl | rfl | rfl | rfl : m = 2 ∨ m = 3 ∨ m = 4 ∨ m = 5 := by omega
  · rw [← quads2_ok, ← lots2_ok]; exact graph2
  · rw [← quads3_ok, ← lots3_ok]; exact graph3
  · rw [← quads4_ok, ← lots4_ok]; exact graph4
  · rw [← quads5_ok, ← lots5_ok]; exact graph5
theorem degs : ∀ m < 6, 2 ≤ m → ∀ i < m, degN i (twosOf m) + 1 = m := by decide +kernel
theorem l3_all {m : Nat} {ties : List NP} (h1 : 2 ≤ m) (h2 : m ≤ 5) (hties : (twosOf m).filter (fun t => inP t ties) = ties) : L3 m ties (lacksOf m ties) :=
  l3_of hties (degs m (by omega) h1) (graphAll h1 h2) fun lot hl h => hangAll h2 hl h
end Mine

open PySem PySem.W PyProof.Rows
namespace Mine
open PySem.Challenge

structure Case (m n : Nat) (dg figs : List Int) : Prop extends Digits n (twosOf m).length dg figs where
  hlaw : L3 m (tiesOf m figs) (lacksOf m (tiesOf m figs))
theorem twosFacts {m : Nat} (h1 : 2 ≤ m) (h2 : m ≤ 5) : (twosOf m).length ≤ 10 ∧ 1 ≤ (twosOf m).length ∧ (twosOf m).Nodup := by
  obtain rfl | rfl | rfl | rfl : m = 2 ∨ m = 3 ∨ m = 4 ∨ m = 5 := by omega
  all_goals decide +kernel
theorem allCases {m n : Nat} (h1 : 2 ≤ m) (h2 : m ≤ 5) (h : n < 2 ^ (twosOf m).length) : (twosOf m).length ≤ 10 ∧ 1 ≤ (twosOf m).length ∧ ∃ dg figs, Case m n dg figs := by
  refine xAA (twosFacts h1 h2) fun t1 t2 t3 => ?_
  exact ⟨t1, t2, _, _, digits_ok t2 (Nat.le_trans t1 (by decide)) h, l3_all h1 h2 (keep_sub (fun x l => inP_iff) (pick_sub _ _ _) t3)⟩
end Mine

open PySem PySem.W PyProof.Rows
namespace Mine
open PySem.Challenge

structure TabB (h : Heap) (mg : Str → Option Value) (fd : FuncData) (c P : Addr) : Prop where
  code : fd.code = .ref c
  hd : CodeHd h c P
  ns : h.Ns mainGlobals mg
  b : h.BuiltinsAt mg P
  ne : mainGlobals ≠ P
theorem TabB.at {h h' : Heap} {mg fd c P} (B : TabB h mg fd c P) (k : ∀ b o, h.get? b = some o → h'.get? b = some o) (e : h'.get? P = some (tabObj #[])) : TabFor h' mg fd c P :=
  ⟨B.code, B.hd.keeps k, e, B.ns.keeps k, by
    refine xEEAAAAA (B.b) fun bm o b1 b2 b3 b4 b5 b6 => ?_
    exact ⟨bm, o, b1, b2, b3, b4, k _ _ b5, b6⟩, B.ne⟩

section
variable {prog : Program} {w : World} {Γ : GEnv} {sc : Scope} {k : Nat} {σ σ₁ ω ω₁ : Sg} {base : Shared} {R0 : Addr → Prop} {env : Env} {s : Shared} {A : Around} {E : Value → Shared → Prop} {Q : Flow → Shared → Prop}
theorem run_stmt {st : Stmt} {rest : List Stmt} (h : Sx prog w Γ [] sc k σ ω st (.next σ₁ ω₁)) (hr : Room k A) (he : EnvOk sc env) (hg : Γ.In base.heap) (t : ST w base R0 env sc σ ω s)
    (hk : ∀ s1, ST w base R0 env sc σ₁ ω₁ s1 → Kp (fun a => Own env sc a ∨ Roots env ω s.heap a) s.heap s1.heap → wpAny (model prog w) A (execs rest env) Q E s1) : wpAny (model prog w) A (execs (st :: rest) env) Q E s :=
  wpAny_execs_cons (wpAny_mono (h A E env base R0 s hr he hg t) (fun fl s1 hp => by
    refine xAAA (hp) fun zE1 t1 kp _ => ?_
    try clear hp
    subst zE1
    exact hk s1 t1 kp) fun _ _ e => e)
theorem STR.more {R : Addr → Prop} (t : STR w base R0 env sc R σ [] s) {D : Addr} (hb : base.heap.get? D = none) (hO : ¬ Own env sc D) : STR w base R0 env sc (fun a => R a ∨ a = D) σ [] s where
  same := t.same
  keep := t.keep
  fr := t.fr
  own0 := t.own0
  reg := fun a ha => by
    rcases ha with ha | rfl
    · exact t.reg a ha
    · exact ⟨.inr hb, hO⟩
  sr := ⟨t.sr.cells, fun x d hx => let ⟨v, b, p⟩ := t.sr.get x d hx; ⟨v, b, p.mv (.sub fun a => .inl)⟩⟩
  ow := nofun
  inj := fun x y a hx => by obtain ⟨d, hd⟩ := hx; cases hd
theorem run_asgAt {X : Heap → Prop} {x px e pos d} {rest : List Stmt} (h1 : wpAny (model prog w) A (eval e env) (AtQ w base R0 env sc σ [] X d) E s) (hsw : NoSwap sc e x px pos) (hx : sc.names.lookup x = some .local ∨ sc.names.lookup x = some .cell) (he : EnvOk sc env)
    (hk : ∀ s1, ST w base R0 env sc ((x, d) :: σ) [] s1 → ∀ h3, X h3 → Kp (Own env sc) h3 s1.heap → wpAny (model prog w) A (execs rest env) Q E s1) : wpAny (model prog w) A (execs (.Assign [.Name x px] e pos :: rest) env) Q E s := by
  refine wpAny_execs_cons (wpAny_Assign_Name (wpAny_mono h1 (fun v s4 q => ?_) fun _ _ e => e) (hsw env he))
  refine xEEAAA (q) fun s3 R t hX x3 p => ?_
  try clear q
  exact store_plain he t x3 p hx fun s' t' kp lv rg kb => hk s' t' s3.heap hX (kp.mono fun a q => q.elim id fun ⟨y, ⟨d, hy⟩, _⟩ => by cases hy)
theorem run_ifAt {X : Heap → Prop} {l op r pos body ipos d1 d2} {rest : List Stmt} (hr : Room k A) (he : EnvOk sc env) (hg : Γ.In base.heap) (h1 : wpAny (model prog w) A (eval l env) (AtQ w base R0 env sc σ [] X d1) E s) (h2 : Ev prog w Γ sc k σ r d2) (h : CmpOk prog w k op d1 d2 false) (hm : behindInMarks op r = false)
    (hk : ∀ s1, ST w base R0 env sc σ [] s1 → ∀ s3, X s3.heap → Ex s3 s1 → wpAny (model prog w) A (execs rest env) Q E s1) : wpAny (model prog w) A (execs (.If (.Compare l [op] [r] pos) body [] ipos :: rest) env) Q E s := by
  refine wpAny_execs_cons (wpAny_If (wpAny_mono (AtQ.cmp (k := k) hr he hg h1 h2 h hm) (fun b s5 q => ?_) fun _ _ e => e))
  refine xAEAEA (q) fun zE2 R t s3 hX x => ?_
  try clear q
  subst zE2
  exact wpAny_execs_nil (hk s5 ⟨R, t⟩ s3 hX x)
end

section
variable {w : World} {Γ : GEnv} {fa fc fp fr ft fl : Addr} {da dc dp dr dt dl : FuncData}

theorem rebase {base : Shared} {R0 R : Addr → Prop} {env : Env} {sc : Scope} {σ : Sg} {s : Shared} (t : STR w base R0 env sc R σ [] s) {P1 P2 : Addr} {ps1 ps2 : Array Value} (e1 : s.heap.get? P1 = some (tabObj ps1)) (e2 : s.heap.get? P2 = some (tabObj ps2))
    (o1 : ¬ Own env sc P1) (o2 : ¬ Own env sc P2) : ∃ base', STR w base' R0 env sc (fun a => R a ∧ SeqAt s.heap a) σ [] s ∧ Same base base' ∧ (∀ b o, base.heap.get? b = some o → base'.heap.get? b = some o) ∧ base'.heap.get? P1 = some (tabObj ps1) ∧ base'.heap.get? P2 = some (tabObj ps2) := by
  have ts := t.seq
  let l : List Addr := (List.range s.heap.objs.size).filter fun a => (base.heap.get? a).isNone && (a != P1 && a != P2)
  have hin : ∀ a o, s.heap.get? a = some o → base.heap.get? a = none → a ≠ P1 → a ≠ P2 → a ∈ l := fun a o e hb n1 n2 => by
    refine List.mem_filter.mpr ⟨List.mem_range.mpr (Heap.lt_size e), ?_⟩
    rw [hb]
    simp [n1, n2]
  refine ⟨{ s with heap := hideAll s.heap l }, ⟨⟨s.heap, s.toks, rfl⟩, fun b o e => of_hideAll _ e, t.fr, fun a ha => ?_, fun a ha => ⟨?_, (ts.reg a ha).2⟩, ts.sr, nofun, fun x y a hx => by obtain ⟨d, hd⟩ := hx; cases hd⟩,
    t.same.trans (.mk _ _), fun b o e => hideAll_get _ (t.keep b o e) fun q => ?_, hideAll_get _ e1 fun q => ?_, hideAll_get _ e2 fun q => ?_⟩
  · refine xE (t.fr.alive ha) fun o e => ?_
    exact hideAll_none _ (hin a o e (t.own0 a ha) (fun q => o1 (q ▸ ha)) (fun q => o2 (q ▸ ha)))
  · rcases (ts.reg a ha).1 with q | q
    · exact .inl q
    · refine xEA (ha.2) fun o e _ => ?_
      exact .inr (hideAll_none _ (hin a o e q (fun z => not_seq_tab e1 (z ▸ ha.2)) (fun z => not_seq_tab e2 (z ▸ ha.2))))
  · have := (List.mem_filter.mp q).2
    rw [e] at this; cases this
  · have := (List.mem_filter.mp q).2
    simp at this
  · have := (List.mem_filter.mp q).2
    simp at this

noncomputable def firstOf (ns : List Int) : Int := (ns ++ [0]).getD 0 0
theorem twos_map (m : Nat) : (List.range m).flatMap (fun o => (List.range o).map fun a : Nat => pN (a, o)) = (twosOf m).map pN := by
  unfold twosOf
  rw [List.map_flatMap]
  congr 1
  funext o
  rw [List.map_map]; rfl

set_option maxRecDepth 100000 in
theorem law_ok {fi fj : Addr} {di dj : FuncData} {mg : Str → Option Value} {c1 P1 c2 P2 : Addr} (G : G3 Γ fa fc fp fr ft fl da dc dp dr dt dl)
    (FI : FnIs Γ fi di (scopeAt pw_hn0002_03 4) ["a", "n"] (bodyAt pw_hn0002_03 4)) (FJ : FnIs Γ fj dj (scopeAt pw_hn0002_03 5) ["digits", "n"] (bodyAt pw_hn0002_03 5))
    (hAbs : Γ.names.lookup ("abs" : Str) = some (.builtin "abs")) (hFI : Γ.names.lookup ("_int2digits" : Str) = some (.ref fi)) (hFJ : Γ.names.lookup ("_digits2int" : Str) = some (.ref fj))
    (ns : List Int) (hns : ns.length ≤ 90000) (m : Nat) (hm : (2 : Int) + ns.sum.fmod 4 = (m : Int)) (hm1 : 2 ≤ m) (hm2 : m ≤ 5) (n : Nat) (hn : (if firstOf ns < 0 then -firstOf ns else firstOf ns).fmod (2 ^ (twosOf m).length) = (n : Int))
    (htl : (twosOf m).length ≤ 10) (htl1 : 1 ≤ (twosOf m).length) (dg figs : List Int) (hdg : digitsOf n = some dg) (hbits : Builtin.Int.intBits (n : Int) ≤ 100) (hdz : dg.length ≤ 1000)
    (hfig : (dg ++ List.replicate (twosOf m).length 0).take (twosOf m).length = figs) (hfl : figs.length = (twosOf m).length) (hback : nni 8 figs 0 figs.length = some (n : Int))
    (hlaw : L3 m (tiesOf m figs) (lacksOf m (tiesOf m figs)))
    {A : Around} {E : Value → Shared → Prop} {env : Env} {base : Shared} {R0 R : Addr → Prop} {s : Shared} {Q : Flow → Shared → Prop} (hr : Room 25 A) (he : EnvOk (scopeAt pw_hn0002_03 11) env) (hg : Γ.In base.heap)
    (t : STR w base R0 env (scopeAt pw_hn0002_03 11) R [("script", .list (ns.map .int))] [] s)
    (B1 : TabB base.heap mg di c1 P1) (B2 : TabB base.heap mg dj c2 P2) (h1 : base.heap.get? P1 = none) (h2 : base.heap.get? P2 = none) (e1 : s.heap.get? P1 = some (tabObj #[])) (e2 : s.heap.get? P2 = some (tabObj #[])) (hP : P1 ≠ P2)
    (o1 : ¬ Own env (scopeAt pw_hn0002_03 11) P1) (o2 : ¬ Own env (scopeAt pw_hn0002_03 11) P2) (cc1 : ∀ y, env.cells.lookup y ≠ some P1) (cc2 : ∀ y, env.cells.lookup y ≠ some P2)
    (hQ : ∀ h' tk, (∀ b o, base.heap.get? b = some o → h'.get? b = some o) → GrownAt P1 h' → GrownAt P2 h' → Q (.ret (.bool true)) { base with heap := h', toks := tk }) :
    wpAny (model pw_hn0002_03 w) A (execs (bodyAt pw_hn0002_03 11) env) Q E s := by
  let σ0 : Sg := [("script", .list (ns.map .int))]
  let σ1 : Sg := [("many", nI m), ("script", .list (ns.map .int))]
  let σ2 : Sg := [("twos", lP (twosOf m)), ("many", nI m), ("script", .list (ns.map .int))]
  let σ3 : Sg := [("number", .int (n : Int)), ("twos", lP (twosOf m)), ("many", nI m), ("script", .list (ns.map .int))]
  -- many
  refine run_stmt (k := 18 + 7) (σ₁ := σ1) (ω₁ := []) ?_ hr he hg ⟨_, t⟩ fun s1 t1 kp1 => ?_
  · show Sx _ _ _ _ _ _ _ _ _ (.next (("many", .int (m : Int)) :: σ0) [])
    rw [← hm]
    exact Sx.asg (kd := .plain) (.inr (by decide)) (.of fun _ => rfl) (.plain (Ev.bin Ev.int (Ev.bin (Ev.call1 (by decide) G.hS (.builtin _) (Ev.name (d := .list (ns.map .int)) (by rfl)) CallOk.sum) Ev.int (BinOk.mod (by decide))) BinOk.add))
  -- twos
  refine run_stmt (k := 18 + 7) (σ₁ := σ2) (ω₁ := []) ?_ hr he hg t1 fun s2 t2 kp2 => ?_
  · show Sx _ _ _ _ _ _ _ _ _ (.next (("twos", .list ((twosOf m).map pN)) :: σ1) [])
    rw [← twos_map]
    refine Sx.comp2 (List.range m) (fun o : Nat => PyData.int (o : Int)) (fun o => (List.range o).map fun a : Nat => pN (a, o)) .plain (by decide) (.inl rfl) (It.range0 (by decide) G.hR (Ev.name (d := nI m) (by rfl)) (by omega)) trivial (fun o ho => ?_) (sz' (by rw [twos_map, List.length_map]; omega))
    have ho5 : o < m := List.mem_range.mp ho
    refine ⟨_, true, Tgt.name (.inl (by decide)), trivial, Tests.nil, nofun, fun _ => ⟨Nat, List.range o, fun i : Nat => PyData.int (i : Int), fun a : Nat => some (pN (a, o)), _, It.range0 (by decide) G.hR (Ev.name (d := nI o) (by rfl)) (by omega), trivial, fun a ha => ⟨_, Tgt.name (.inl (by decide)), ⟨rfl, trivial⟩, Tests.nil, fun y hy => ?_⟩, (fm_some _ _).symm⟩⟩
    have zC := Option.some.inj hy
    clear hy
    subst zC
    exact Ev.tup2 (Ev.name (by rfl)) (Ev.name (by rfl))
  -- number
  refine run_stmt (k := 18 + 7) (σ₁ := σ3) (ω₁ := []) ?_ hr he hg t2 fun s3 t3' kp3 => ?_
  · show Sx _ _ _ _ _ _ _ _ _ (.next (("number", .int (n : Int)) :: σ2) [])
    rw [← hn]
    refine Sx.asg (kd := .plain) (.inl (by decide)) (.of fun _ => rfl) (.plain (Ev.bin (Ev.call1 (by decide) hAbs (.builtin _) (Ev.sub (Ev.bin (Ev.name (d := .list (ns.map .int)) (by rfl)) (Ev.list (ds := [.int 0]) (.cons Ev.int .nil) (by show 1 ≤ sizeLine; decide)) (BinOk.cat (sz' (by rw [List.length_map]; show _ + 1 ≤ _; omega)))) Ev.int (SubOk.list (d := .int (firstOf ns)) (by decide) (by decide) ?_)) CallOk.abs) (Ev.bin Ev.int (Ev.lenM G.hL (by decide) (twosOf m) pN (Ev.name (d := lP (twosOf m)) (by rfl)) (by omega)) (BinOk.pow2 (by omega))) (BinOk.mod ?_)))
    · unfold firstOf; cases ns <;> rfl
    · exact Int.ne_of_gt (Int.pow_pos (by decide))
  have nrt : ∀ (h : Heap) a, ¬ Roots env [] h a := fun h a ⟨y, ⟨d, hy⟩, b⟩ => by cases hy
  have f1 : s3.heap.get? P1 = some (tabObj #[]) := kp3 _ _ (fun q => q.elim o1 (nrt _ _)) (kp2 _ _ (fun q => q.elim o1 (nrt _ _)) (kp1 _ _ (fun q => q.elim o1 (nrt _ _)) e1))
  have f2 : s3.heap.get? P2 = some (tabObj #[]) := kp3 _ _ (fun q => q.elim o2 (nrt _ _)) (kp2 _ _ (fun q => q.elim o2 (nrt _ _)) (kp1 _ _ (fun q => q.elim o2 (nrt _ _)) e2))
  refine xE (t3') fun R3 t3'' => ?_
  try clear t3'
  have t3 := t3''.seq
  -- figures
  have dgz : (dg.map PyData.int ++ List.replicate (twosOf m).length (PyData.int 0)).length ≤ sizeLine := sz' (by rw [List.length_append, List.length_map, List.length_replicate]; omega)
  have hfg : PyData.list ((dg.map PyData.int ++ List.replicate (twosOf m).length (PyData.int 0)).take (twosOf m).length) = .list (figs.map .int) := by rw [← hfig, List.map_take, List.map_append, List.map_replicate]
  have hLen : ∀ {px pos p2}, Ev pw_hn0002_03 w Γ (scopeAt pw_hn0002_03 11) 25 σ3 (.Call (.Name "len" px) [.Name "twos" p2] [] pos) (nI (twosOf m).length) := fun {px pos p2} => Ev.lenM G.hL (by decide) (twosOf m) pN (Ev.name (d := lP (twosOf m)) (by rfl)) (by omega)
  refine run_asgAt (base := base) (R0 := R0) (X := fun h => GrownAt P1 h ∧ h.get? P2 = some (tabObj #[])) (σ := σ3) (d := .list (figs.map .int)) ?_ (.of fun _ => rfl) (.inr (by decide)) he fun s4 t4' h3 ⟨g3, k3⟩ kp4 => ?_
  · rw [← hfg]
    refine AtQ.upto (k := 25) hr he hg (AtQ.bin (k := 25) (d1 := .list (dg.map .int)) (d2 := .list (List.replicate (twosOf m).length (PyData.int 0))) hr he hg ?_ (Ev.bin (Ev.list (.cons Ev.int .nil)) hLen (BinOk.rep1 (sz' (by omega)))) (BinOk.cat (by rw [← List.length_append]; exact dgz))) hLen dgz
    refine callG (k := 25) (σ := σ3) (ds := [.int (n : Int), .int 1]) hr he (t3.baseIn hg) t3.sr (by decide) hFI (by decide) (.fn FI.mem) (.cons (Ev.name (by rfl)) (.cons Ev.int .nil)) (by simp [isStarred]) fun vs s4 x4 p4 => ?_
    induction p4 using RpAll.elimCons with
    | cons pa p4 => cases p4 with
      | cons pb p4 =>
        induction p4 using RpAll.elimNil
        induction pa using Rp.elimInt
        induction pb using Rp.elimInt
        have t4 := t3.ex x4
        have g1 := x4.keep _ _ f1
        refine int2digits_ok FI G.hL n dg hdg hbits _ _ s4 _ _ _ (hr.mono (by decide)) (t4.baseIn hg) (B1.at t4.keep g1) fun h' tk D vs m kp hD eD hi gP => ?_
        have hOD : ¬ Own env (scopeAt pw_hn0002_03 11) D := fun q => by obtain ⟨o, e⟩ := t4.fr.alive q; rw [hD] at e; cases e
        have t5 := (t4.out (C := P1) (tk := tk) kp (fun q => not_seq_tab f1 q.2) o1 h1 (nrt _ _) (fun o c e q => by rw [g1] at e; cases e; cases q) cc1).more (D := D) (fresh_back t4.keep hD) hOD
        exact ⟨_, _, t5, ⟨gP, kp _ _ (fun q => hP q.symm) (x4.keep _ _ f2)⟩, .refl _, .list (.inl (.inr rfl)) eD (RpAll.ofInts hi)⟩
  refine xE (t4') fun R4 t4'' => ?_
  try clear t4'
  have t4 := t4''.seq
  have g4 : GrownAt P1 s4.heap := let ⟨ps, e⟩ := g3; ⟨ps, kp4 _ _ o1 e⟩
  have f4 : s4.heap.get? P2 = some (tabObj #[]) := kp4 _ _ o2 k3
  refine run_ifAt (base := base) (R0 := R0) (k := 25) (X := fun h => GrownAt P1 h ∧ GrownAt P2 h) (σ := ("figures", .list (figs.map .int)) :: σ3) (d1 := .int (n : Int)) (d2 := .int (n : Int)) hr he hg ?_ (Ev.name (by rfl)) (CmpOk.neI' (by simp)) rfl fun s5 t5' s3 hX x5 => ?_
  · refine callG (k := 25) (σ := ("figures", .list (figs.map .int)) :: σ3) (ds := [.list (figs.map .int), .int 1]) hr he (t4.baseIn hg) t4.sr (by decide) hFJ (by decide) (.fn FJ.mem) (.cons (Ev.name (by rfl)) (.cons Ev.int .nil)) (by simp [isStarred]) fun vs s3 x3 p3 => ?_
    induction p3 using RpAll.elimCons with
    | cons pa p3 => cases p3 with
      | cons pb p3 =>
        induction p3 using RpAll.elimNil
        induction pb using Rp.elimInt
        have t3 := t4.ex x3
        have g2 := x3.keep _ _ f4
        cases pa with
        | @list D vs m _ hD eD hi =>
          refine digits2int_ok FJ G.hL figs (n : Int) hback (by rintro rfl; rw [← hfl] at htl1; exact absurd htl1 (by decide)) (by omega) _ _ s3 _ D vs m _ (hr.mono (by decide)) (t3.baseIn hg) (B2.at t3.keep g2) eD hi.ints fun h' tk tt kp gP => ?_
          have t5 := t3.out (C := P2) (tk := tk) kp (fun q => not_seq_tab f4 q.2) o2 h2 (nrt _ _) (fun o c e q => by rw [g2] at e; cases e; cases q) cc2
          refine xE (g4) fun ps e => ?_
          try clear g4
          exact ⟨_, _, t5, ⟨⟨ps, kp _ _ hP (x3.keep _ _ e)⟩, gP⟩, .refl _, .int _ _⟩
  refine xA (hX) fun zE3 zE4 => ?_
  try clear hX
  refine xE (zE3) fun ps1 g1 => ?_
  try clear zE3
  refine xE (zE4) fun ps2 g2 => ?_
  try clear zE4
  refine xE (t5') fun R5 t5 => ?_
  try clear t5'
  refine xEAAAA (rebase t5 (x5.keep _ _ g1) (x5.keep _ _ g2) o1 o2) fun base' tb sm kb b1 b2 => ?_
  refine wpAny_mono (law_all (k := 18) G (dS := .list (ns.map .int)) (dN := .int (n : Int)) (by omega) hfl (by omega) hlaw A E env base' R0 s5 hr he (hg.keep kb) ⟨_, tb⟩) (fun f' s' hp => ?_) fun _ _ e => e
  refine xEAA (hp) fun v zE5 x6 p6 => ?_
  try clear hp
  subst zE5
  induction p6 using Rp.elimBool
  refine xEE (sm.trans x6.sm) fun h6 tk6 e6 => ?_
  subst e6
  exact hQ h6 tk6 (fun b o e => x6.keep _ _ (kb b o e)) ⟨_, x6.keep _ _ b1⟩ ⟨_, x6.keep _ _ b2⟩
end
end Mine

open PySem PySem.W PyProof.Rows
namespace Mine
open PySem.Challenge

theorem GEnv.In.ghost {Γ : GEnv} {h : Heap} {tabs : List (Addr × Addr)} (g : Γ.In h) (hT : TabsAt tabs h) : Γ.In (ghostOf h tabs) where
  nolimit := let ⟨mc, a, b⟩ := g.nolimit; ⟨mc, ghost_ns hT a, b⟩
  names := fun x v e => let ⟨mg, a, b⟩ := g.names x v e; ⟨mg, ghost_ns hT a, b.imp id fun ⟨e, mb, c, d⟩ => ⟨e, mb, ghost_ns hT c, d⟩⟩
  fns := fun p hp => by
    refine xA (g.fns p hp) fun zE1 zE2 => ?_
    refine xEA (zE1) fun o e hd => ?_
    try clear zE1
    refine xEEEEAAA (zE2) fun c oc us t h1 h2 h3 h4 => ?_
    try clear zE2
    exact ⟨⟨o, ghost_get hT e (by rintro rfl; cases hd), hd⟩, ⟨c, oc, us, t, h1, ghost_get hT h2 (by rintro rfl; cases h3; cases h4), h3, h4⟩⟩

/-- a def of the claim's program stands in the view -/
noncomputable def DefIn (p pw : Program) (x : Str) (i : Nat) (ps : List Str) : Prop :=
  ∃ d ∈ recsOf p, d.name = x ∧ d.scope = scopeAt pw i ∧ d.body = bodyAt pw i ∧
    ∀ pm cd doc (vals : List Value), vals.length = ps.length → bindArgs (PySem.Calls.docDef d.name d.params d.body d.scope pm cd doc) ⟨vals, []⟩ = pure (ps.zip vals)

theorem DefIn.at {p pw : Program} {x : Str} {i : Nat} {ps : List Str} (D : DefIn p pw x i ps) {loose : List Str} {mean : ExcName → Option Value} {mg mb : Str → Option Value} {h : Heap} (T : Top p loose mean mg mb h) :
    ∃ (f : Addr) (fd : FuncData), mg x = some (.ref f) ∧ ((∃ o, h.get? f = some o ∧ o.data = .func fd) ∧ h.CodeRec fd.code fd.qualname) ∧ ∀ Γ : GEnv, (f, fd) ∈ Γ.fns → FnIs Γ f fd (scopeAt pw i) ps (bodyAt pw i) := by
  refine xEAAAA (D) fun d hd h1 h2 h3 h4 => ?_
  try clear D
  refine xEEEEEAAA (T.fn d hd) fun a o pm code doc e1 e2 e3 e4 => ?_
  exact ⟨a, _, by rw [← h1]; exact e1, ⟨⟨o, e2, e3⟩, e4⟩, fun Γ hm => ⟨hm, h2, by show FuncBody.stmts d.body = _; rw [h3], rfl, rfl, rfl, h4 pm code doc⟩⟩

noncomputable def bnames : List (Str × Value) := [("isinstance", .builtin "isinstance"), ("tuple", .type "tuple"), ("range", .type "range"), ("len", .builtin "len"), ("sum", .builtin "sum"), ("min", .builtin "min"), ("max", .builtin "max"), ("enumerate", .type "enumerate"), ("list", .type "list"), ("dict", .type "dict"), ("abs", .builtin "abs")]
theorem bnames_ok : ∀ q ∈ bnames, q.1 ≠ "__name__" ∧ bootBuiltins q.1 = some q.2 := by
  unfold bnames
  repeat' (first | exact (nofun : ∀ q ∈ ([] : List (Str × Value)), _) | refine List.forall_mem_cons.mpr ⟨⟨by decide, by rfl⟩, ?_⟩)

theorem env_ok {p : Program} {loose : List Str} {mean : ExcName → Option Value} {mg mb : Str → Option Value} {h : Heap} (T : Top p loose mean mg mb h)
    (D1 : DefIn p pw_hn0002_03 "add_callers" 1 ["target", "source"]) (D2 : DefIn p pw_hn0002_03 "count_calls" 2 ["callers"]) (D7 : DefIn p pw_hn0002_03 "_law_pieces" 7 ["places", "ties"]) (D8 : DefIn p pw_hn0002_03 "_law_rows" 8 ["many", "ties"]) (D9 : DefIn p pw_hn0002_03 "_law_parted" 9 ["places", "ties", "lacks"]) (D10 : DefIn p pw_hn0002_03 "_law_longest" 10 ["many", "ties"])
    (D4 : DefIn p pw_hn0002_03 "_int2digits" 4 ["a", "n"]) (D5 : DefIn p pw_hn0002_03 "_digits2int" 5 ["digits", "n"]) (hb : ∀ q ∈ bnames, mg q.1 = none) {C : Prop}
    (K : ∀ (Γ : GEnv) (fa fc fp fr ft fl fi fj : Addr) (da dc dp dr dt dl di dj : FuncData), Γ.In h → G3 Γ fa fc fp fr ft fl da dc dp dr dt dl → FnIs Γ fi di (scopeAt pw_hn0002_03 4) ["a", "n"] (bodyAt pw_hn0002_03 4) → FnIs Γ fj dj (scopeAt pw_hn0002_03 5) ["digits", "n"] (bodyAt pw_hn0002_03 5) →
      Γ.names.lookup ("abs" : Str) = some (.builtin "abs") → Γ.names.lookup ("_int2digits" : Str) = some (.ref fi) → Γ.names.lookup ("_digits2int" : Str) = some (.ref fj) → mg "_int2digits" = some (.ref fi) → mg "_digits2int" = some (.ref fj) → C) : C := by
  refine xEEAA (D1.at T) fun fa da a1 a2 a3 => ?_
  refine xEEAA (D2.at T) fun fc dc b1 b2 b3 => ?_
  refine xEEAA (D7.at T) fun fp dp c1 c2 c3 => ?_
  refine xEEAA (D8.at T) fun fr dr d1 d2 d3 => ?_
  refine xEEAA (D9.at T) fun ft dt g1 g2 g3 => ?_
  refine xEEAA (D10.at T) fun fl dl h1 h2 h3 => ?_
  refine xEEAA (D4.at T) fun fi di e1 e2 e3 => ?_
  refine xEEAA (D5.at T) fun fj dj f1 f2 f3 => ?_
  let Γ : GEnv := ⟨bnames ++ ([("add_callers", .ref fa), ("count_calls", .ref fc), ("_law_pieces", .ref fp), ("_law_rows", .ref fr), ("_law_parted", .ref ft), ("_law_longest", .ref fl), ("_int2digits", .ref fi), ("_digits2int", .ref fj)] : List (Str × Value)), [(fa, da), (fc, dc), (fp, dp), (fr, dr), (ft, dt), (fl, dl), (fi, di), (fj, dj)]⟩
  refine K Γ fa fc fp fr ft fl fi fj da dc dp dr dt dl di dj ⟨T.nolimit, fun x v hx => ?_, ?_⟩ ⟨a3 Γ (by simp [Γ]), b3 Γ (by simp [Γ]), c3 Γ (by simp [Γ]), d3 Γ (by simp [Γ]), g3 Γ (by simp [Γ]), h3 Γ (by simp [Γ]), by rfl, by rfl, by rfl, by rfl, by rfl, by rfl, by rfl, by rfl, by rfl, by rfl, by rfl, by rfl, by rfl, by rfl, by rfl, by rfl⟩ (e3 Γ (by simp [Γ])) (f3 Γ (by simp [Γ])) (by rfl) (by rfl) (by rfl) e1 f1
  · have hm := mem_of_lookup hx
    rcases List.mem_append.mp hm with q | q
    · refine xA (bnames_ok _ q) fun n1 n2 => ?_
      exact ⟨mg, T.g, .inr ⟨hb _ q, mb, T.b, by rw [T.builtins _ n1]; exact n2⟩⟩
    · refine ⟨mg, T.g, .inl ?_⟩
      simp only [List.mem_cons, Prod.mk.injEq, List.not_mem_nil, or_false] at q
      rcases q with ⟨rfl, rfl⟩ | ⟨rfl, rfl⟩ | ⟨rfl, rfl⟩ | ⟨rfl, rfl⟩ | ⟨rfl, rfl⟩ | ⟨rfl, rfl⟩ | ⟨rfl, rfl⟩ | ⟨rfl, rfl⟩ <;> assumption
  · intro q hq
    simp only [Γ, List.mem_cons, List.not_mem_nil, or_false] at hq
    rcases hq with rfl | rfl | rfl | rfl | rfl | rfl | rfl | rfl <;> assumption
end Mine

open PySem PySem.W PyProof.Rows
namespace Mine
open PySem.Challenge

theorem wellAll_int {P : Params} {h : Heap} {n : Int} {v : Value} (W : Well P h v (.int n)) : ∃ t, v = .int n t := by
  cases W
  exact ⟨_, rfl⟩
theorem wellAll_ints {P : Params} {h : Heap} {ns : List Int} : ∀ {vs : List Value}, WellAll P h vs (ofPys (ns.map .int)) → IntsAre vs ns := by
  induction ns with
  | nil => intro vs W; cases W; exact .nil
  | cons n ns ih =>
    intro vs W
    rw [List.map_cons, ofPys, ofPy] at W
    cases W with
    | cons a r =>
      refine xE (wellAll_int a) fun t zE1 => ?_
      subst zE1
      exact .cons _ _ (ih r)
theorem well_ints {P : Params} {h : Heap} {a : Addr} {ns : List Int} (W : Well P h (.ref a) (ofPy (.list (ns.map .int)))) : ∃ vs : List Value, h.get? a = some (LObj vs.toArray 0) ∧ IntsAre vs ns := by
  cases W with
  | list e r => exact ⟨_, e, wellAll_ints r⟩

theorem cells_in {cm : Str → Option Value} : ∀ {cs : List (Str × Addr)} {cells : List (Addr × Obj)}, CellsAre cm cs cells → ∀ {x c}, (x, c) ∈ cs → ∃ o, (c, o) ∈ cells ∧ o.data = .cell (cm x)
  | _, _, .nil, _, _, h => nomatch h
  | _, _, .cons e r, x, c, h => by
    rcases List.mem_cons.mp h with q | q
    · cases q
      exact ⟨_, .head _, e⟩
    · obtain ⟨o, h1, h2⟩ := cells_in r q; exact ⟨o, .tail _ h1, h2⟩

/-- the frame of the law, as the head leaves it -/
theorem frame_ok {w : World} {s₁ : Shared} {tabs : List (Addr × Addr)} {sc : Scope} {nm : Str} {fa : Addr} {cd : Value} {h₁ : Heap} {tk : Nat} {m cm : Str → Option Value} {cells news : List (Addr × Obj)} {lst : Addr} {vs : List Value} {ns : List Int} {x : Str}
    (hk : sc.kind = .function) (hfree : ∀ p ∈ sc.names, p.2 ≠ .free) (hnd : nodupKeys sc.names = true) (hx : sc.names.lookup x = some .local)
    (F : Fr (ghostOf s₁.heap tabs) s₁.heap.objs.size h₁ m) (X0 : CellsAre cm (cellsFrom (s₁.heap.objs.size + 1) sc.names []) cells) (N : News (ghostOf s₁.heap tabs) s₁.heap.objs.size h₁ news) (hsub : ∀ q ∈ cells, q ∈ news)
    (hm : m x = some (.ref lst)) (hl : (ghostOf s₁.heap tabs).get? lst = some (LObj vs.toArray 0)) (hI : IntsAre vs ns) :
    EnvOk sc (envOfC nm sc s₁.heap.objs.size fa cd) ∧ STR w { s₁ with heap := ghostOf s₁.heap tabs } (fun a => a = lst) (envOfC nm sc s₁.heap.objs.size fa cd) sc (fun a => a = lst) [(x, .list (ns.map .int))] [] { s₁ with heap := h₁, toks := tk } ∧
      ∀ y c, (envOfC nm sc s₁.heap.objs.size fa cd).cells.lookup y = some c → ∃ o v, h₁.get? c = some o ∧ o.data = .cell v := by
  have hkind : ∀ y, (envOfC nm sc s₁.heap.objs.size fa cd).kindOf y = sc.names.lookup y := fun y => rfl
  have hcells : (envOfC nm sc s₁.heap.objs.size fa cd).cells = cellsFrom (s₁.heap.objs.size + 1) sc.names [] := rfl
  have nof : ∀ y, sc.names.lookup y ≠ some .free := fun y hy => hfree _ (mem_of_lookupN hy) rfl
  have he : EnvOk sc (envOfC nm sc s₁.heap.objs.size fa cd) := {
    kind := hk
    loc := fun y hy => by rw [hkind, hy]
    cell := fun y hy => by rw [hkind, hy]
    free := fun y hy => absurd hy (nof y)
    glob := fun y hy => by rw [hkind, hy]
    gl := rfl
    bl := rfl
    has := fun y hy => by
      rw [hcells]
      rcases hy with hy | hy
      · refine xEA (cellsFrom_cell sc.names (s₁.heap.objs.size + 1) [] y (mem_of_lookupN hy)) fun c h1 _ => ?_
        exact ⟨c, h1⟩
      · exact absurd hy (nof y)
    inj := by rw [hcells]; exact cellsFrom_inj _ _ _ nofun nofun }
  have cellAt : ∀ y c, (envOfC nm sc s₁.heap.objs.size fa cd).cells.lookup y = some c → ∃ o, h₁.get? c = some o ∧ o.data = .cell (cm y) ∧ (ghostOf s₁.heap tabs).get? c = none := fun y c hc => by
    rw [hcells] at hc
    refine xEA (cells_in X0 (mem_of_lookup hc)) fun o h1 h2 => ?_
    refine xAA (N _ (hsub _ h1)) fun n1 _ n3 => ?_
    exact ⟨o, n1, h2, n3⟩
  have own0 : ∀ a, Own (envOfC nm sc s₁.heap.objs.size fa cd) sc a → (ghostOf s₁.heap tabs).get? a = none := fun a ha => by
    rcases ha with rfl | ⟨y, h1, h2⟩
    · cases q : (ghostOf s₁.heap tabs).get? s₁.heap.objs.size with
      | none => exact q
      | some o => exact absurd (Nat.lt_of_lt_of_le (Heap.lt_size q) F.above) (Nat.lt_irrefl _)
    · obtain ⟨o, _, _, n⟩ := cellAt y a h2; exact n
  refine ⟨he, ⟨⟨h₁, tk, rfl⟩, F.keep, ⟨⟨m, F.ns⟩, fun y hy => ?_⟩, own0, fun a ha => ⟨.inl ha, fun q => ?_⟩, ⟨fun y c hy => let ⟨o, e, _⟩ := cellAt y c hy; ⟨o, e⟩, fun y d hy => ?_⟩, nofun, fun y z a hy => by obtain ⟨d, hd⟩ := hy; cases hd⟩, fun y c hc => let ⟨o, e, hd, _⟩ := cellAt y c hc; ⟨o, _, e, hd⟩⟩
  · refine xE (he.has y (.inl hy)) fun c hc => ?_
    refine xEAA (cellAt y c hc) fun o e hd _ => ?_
    exact ⟨c, cm y, hc, o, e, hd⟩
  · have := own0 a q
    rw [ha, hl] at this; cases this
  · have hyx : y = x ∧ PyData.list (ns.map .int) = d := by
      rw [List.lookup_cons] at hy
      cases q : y == x with
      | true => rw [q] at hy; cases hy; exact ⟨eq_of_beq q, rfl⟩
      | false => rw [q] at hy; cases hy
    refine xA (hyx) fun zE2 zE3 => ?_
    try clear hyx
    subst zE2
    subst zE3
    exact ⟨.ref lst, .loc (by rw [hkind]; exact hx) ⟨m, F.ns, hm⟩, .list rfl (F.keep _ _ hl) (RpAll.ofInts hI)⟩
end Mine

open PySem PySem.W PyProof.Rows
namespace Mine
open PySem.Challenge

theorem FrOk.notTab {h : Heap} {env : Env} {sc : Scope} {P : Addr} {ps} (f : FrOk h env sc) (e : h.get? P = some (tabObj ps)) : ¬ Own env sc P := fun q => by
  rcases q with rfl | ⟨x, h1, h2⟩
  · refine xEEEEAA (f.ns) fun m o es ep e' hd _ => ?_
    rw [e] at e'; cases e'; cases hd
  · refine xEEAEA (f.cells x h1) fun c v h3 o h4 h5 => ?_
    rw [h2] at h3; cases h3
    rw [e] at h4; cases h4; cases h5

theorem tabB_ok {p : Program} {loose : List Str} {mean : ExcName → Option Value} {mg mb : Str → Option Value} {s₁ : Shared} {tabs : List (Addr × Addr)} {c P : Addr} {fd : FuncData} {f : Addr} {x : Str} {K : Frag} {Γ : GEnv}
    (T : Top p loose mean mg mb s₁.heap) (hT : TabsAt tabs s₁.heap) (X : K.In (ghostOf s₁.heap tabs)) (t1 : tabIn K x = some (c, P)) (m1 : (c, P) ∈ tabs) (hm : mg x = some (.ref f)) (g : Γ.In (ghostOf s₁.heap tabs)) (hf : (f, fd) ∈ Γ.fns) : TabB (ghostOf s₁.heap tabs) mg fd c P := by
  refine xA (g.fns _ hf) fun zE1 _ => ?_
  refine xEA (zE1) fun o e hd => ?_
  try clear zE1
  refine xA (hT _ m1) fun hc hp => ?_
  refine ⟨law_code X (ghost_ns hT T.g) t1 hm e hd, ?_, ghost_ns hT T.g, ?_, ?_⟩
  · refine xEEEEEEEEEAAA (hc) fun o vs file tf flags tg inF text tt q1 q2 q3 q => ?_
    try clear hc
    exact ⟨o, vs, file, tf, flags, tg, inF, text, tt, ghost_get hT q1 (by rintro rfl; cases q2), q2, q3, q⟩
  · refine xEEAAAAA (T.bmain) fun bm ob b1 b2 b3 b4 b5 b6 => ?_
    refine ⟨bm, ob, b1, b2, ?_, ?_, ghost_get hT b3 (by rintro rfl; cases b6), b4, b5, b6⟩
    · rintro rfl
      refine xEEEAA (T.g) fun o es ep e' hd' _ => ?_
      rw [b3] at e'; cases e'; rw [b6] at hd'; cases hd'
    · rintro rfl
      rw [b3] at hp; cases hp; cases b6
  · rintro rfl
    refine xEEEAA (T.g) fun o es ep e' hd' _ => ?_
    rw [e'] at hp; cases hp; cases hd'

set_option maxRecDepth 100000 in
theorem law3_top {w : World} {p : Program} {loose : List Str} {mean : ExcName → Option Value} {mg mb : Str → Option Value} {s₁ : Shared} {tabs : List (Addr × Addr)} {c1 P1 c2 P2 : Addr} {K : Frag} {nm : Str} {fa : Addr} {cd : Value} {h₁ : Heap} {tk : Nat} {m cm : Str → Option Value}
    {cells news : List (Addr × Obj)} {lst : Addr} {ns : List Int} {E : Value → Shared → Prop} {Q : Flow → Shared → Prop}
    (T : Top p loose mean mg mb s₁.heap) (hT : TabsAt tabs s₁.heap) (X : K.In (ghostOf s₁.heap tabs)) (F : Fr (ghostOf s₁.heap tabs) s₁.heap.objs.size h₁ m) (X0 : CellsAre cm (cellsFrom (s₁.heap.objs.size + 1) (scopeAt pw_hn0002_03 11).names []) cells) (N : News (ghostOf s₁.heap tabs) s₁.heap.objs.size h₁ news) (W : Well w.params s₁.heap (.ref lst) (ofPy (.list (ns.map .int))))
    (hsub : ∀ q ∈ cells, q ∈ news) (ht1 : (P1, tabObj #[]) ∈ news) (ht2 : (P2, tabObj #[]) ∈ news) (hm : m "script" = some (.ref lst))
    (t1 : tabIn K "_int2digits" = some (c1, P1)) (t2 : tabIn K "_digits2int" = some (c2, P2)) (m1 : (c1, P1) ∈ tabs) (m2 : (c2, P2) ∈ tabs) (hP : P1 ≠ P2)
    (D1 : DefIn p pw_hn0002_03 "add_callers" 1 ["target", "source"]) (D2 : DefIn p pw_hn0002_03 "count_calls" 2 ["callers"]) (D7 : DefIn p pw_hn0002_03 "_law_pieces" 7 ["places", "ties"]) (D8 : DefIn p pw_hn0002_03 "_law_rows" 8 ["many", "ties"]) (D9 : DefIn p pw_hn0002_03 "_law_parted" 9 ["places", "ties", "lacks"]) (D10 : DefIn p pw_hn0002_03 "_law_longest" 10 ["many", "ties"])
    (D4 : DefIn p pw_hn0002_03 "_int2digits" 4 ["a", "n"]) (D5 : DefIn p pw_hn0002_03 "_digits2int" 5 ["digits", "n"]) (hb : ∀ q ∈ bnames, mg q.1 = none) (hns : ns.length ≤ 90000)
    (hQ : ∀ h' tk, (∀ b o, (ghostOf s₁.heap tabs).get? b = some o → h'.get? b = some o) → GrownAt P1 h' → GrownAt P2 h' → Q (.ret (.bool true)) { s₁ with heap := h', toks := tk }) :
    wpAny (model pw_hn0002_03 w) (callerA.deeper (envOfC nm (scopeAt pw_hn0002_03 11) s₁.heap.objs.size fa cd)) (execs (bodyAt pw_hn0002_03 11) (envOfC nm (scopeAt pw_hn0002_03 11) s₁.heap.objs.size fa cd)) Q E { s₁ with heap := h₁, toks := tk } := by
  refine env_ok T D1 D2 D7 D8 D9 D10 D4 D5 hb fun Γ ga gc gp gr gt gl gi gj da dc dp dr dt dl di dj g G FI FJ hAbs hFI hFJ hi hj => ?_
  have gg := g.ghost hT
  refine xEA (well_ints W) fun vs hl hI => ?_
  refine xAA (frame_ok (w := w) (nm := nm) (fa := fa) (cd := cd) (tk := tk) (by decide) (by decide) (by decide) (by decide) F X0 N hsub hm (ghost_get hT hl nofun) hI) fun he t hcc => ?_
  refine xAA (N _ ht1) fun a1 _ a3 => ?_
  refine xAA (N _ ht2) fun b1 _ b3 => ?_
  have hf1 := Int.fmod_lt_of_pos ns.sum (show (0 : Int) < 4 by decide)
  have hf2 := Int.fmod_nonneg_of_pos ns.sum (show (0 : Int) < 4 by decide)
  obtain ⟨m, hm⟩ : ∃ m : Nat, (2 : Int) + ns.sum.fmod 4 = (m : Int) := ⟨(2 + ns.sum.fmod 4).toNat, by omega⟩
  have hm1 : 2 ≤ m := by omega
  have hm2 : m ≤ 5 := by omega
  have hpos : (0 : Int) < 2 ^ (twosOf m).length := Int.pow_pos (by decide)
  have hg1 := Int.fmod_lt_of_pos (if firstOf ns < 0 then -firstOf ns else firstOf ns) hpos
  have hg2 := Int.fmod_nonneg_of_pos (if firstOf ns < 0 then -firstOf ns else firstOf ns) hpos
  obtain ⟨n, hn⟩ : ∃ n : Nat, (if firstOf ns < 0 then -firstOf ns else firstOf ns).fmod (2 ^ (twosOf m).length) = (n : Int) := ⟨_, (Int.toNat_of_nonneg hg2).symm⟩
  have hlt : n < 2 ^ (twosOf m).length := by
    rw [hn] at hg1
    have : ((2 ^ (twosOf m).length : Nat) : Int) = (2 : Int) ^ (twosOf m).length := by simp
    omega
  refine xAAEE (allCases hm1 hm2 hlt) fun tl1 tl2 dg figs C => ?_
  exact law_ok (s := { s₁ with heap := h₁, toks := tk }) (base := { s₁ with heap := ghostOf s₁.heap tabs }) G FI FJ hAbs hFI hFJ ns hns m hm hm1 hm2 n hn tl1 tl2 dg figs C.hdg C.hbits C.hdz C.hfig C.hfl C.hback C.hlaw (Room.deeper (k := 25) ⟨rfl, by decide, by decide⟩) he gg t (tabB_ok T hT X t1 m1 hi gg FI.mem) (tabB_ok T hT X t2 m2 hj gg FJ.mem) a3 b3 a1 b1 hP
    (t.fr.notTab a1) (t.fr.notTab b1) (fun y hy => by obtain ⟨o, v, e, hd⟩ := hcc y _ hy; rw [a1] at e; cases e; cases hd) (fun y hy => by obtain ⟨o, v, e, hd⟩ := hcc y _ hy; rw [b1] at e; cases e; cases hd) hQ

noncomputable def paramsAt (p : Program) (i : Nat) : Arguments := match p.main.body[i]? with
  | some (.FunctionDef _ ps _ _ _ _ _ _ _ _) => ps
  | _ => default
theorem DefIn.of {p pw : Program} {x : Str} {i : Nat} {ps : List Str} (h : ((recsOf p).find? fun d => d.name == x).map (fun d => (d.scope, d.body, d.params)) = some (scopeAt pw i, bodyAt pw i, paramsAt pw i))
    (hb : ∀ nm body sc pm cd doc (vals : List Value), vals.length = ps.length → bindArgs (PySem.Calls.docDef nm (paramsAt pw i) body sc pm cd doc) ⟨vals, []⟩ = pure (ps.zip vals)) : DefIn p pw x i ps := by
  refine xEA (Option.map_eq_some_iff.mp h) fun d hd e => ?_
  simp only [Prod.mk.injEq] at e
  refine xAA (e) fun e1 e2 e3 => ?_
  try clear e
  refine ⟨d, List.mem_of_find?_eq_some hd, eq_of_beq (List.find?_some (p := fun d : DefRec => d.name == x) hd), e1, e2, fun pm cd doc vals hv => ?_⟩
  rw [e3]
  exact hb _ _ _ _ _ _ _ hv
end Mine

open PySem PySem.W PyProof.Rows
/-- the text without its plain constants -/
noncomputable def Mine.view : Program := { PySem.Challenge.pw_hn0002_03 with main := { PySem.Challenge.pw_hn0002_03.main with body := (PySem.Challenge.pw_hn0002_03.main.body.drop 1).take 2 ++ ((PySem.Challenge.pw_hn0002_03.main.body.drop 4).take 2 ++ PySem.Challenge.pw_hn0002_03.main.body.drop 7) } }
set_option maxHeartbeats 8000000 in
local macro_rules
  | `(tactic| o_head $H) => `(tactic| (
    refine holds_open (q := Mine.view) (loose := []) (Xt := fun s => xlAt Mine.view [] s && recOk (RowW.records (PySem.Challenge.rw_hn0002_03.row.toRowW)) s) (XP := XL Mine.view []) (Yf := Hook.obs $H) (Ya := Hook.val $H) (YP := Hook.says $H) (N := 880) ?hl (Hook.of $H) (Hook.keeps $H) (fun s e => xl_of s (Bool.and_eq_true_iff.mp e).1) XL.keeps (by rfl) (by rfl) (by rfl) (fun s e => recFacts_of (Bool.and_eq_true_iff.mp e).2) (by rfl) (by first | assumption | decide +kernel) (by decide +kernel) ⟨rfl, rfl, rfl, rfl, rfl, by decide +kernel⟩ ?hw ?hc
    rotate_left))
set_option maxRecDepth 100000 in
set_option maxHeartbeats 8000000 in
/-- the look at the law, part by part -/
theorem Mine.said : PySem.Challenge.rw_hn0002_03.wellSaid = true := by
  unfold OpenLaw.wellSaid OpenRow.wellSaid OpenRow.partSaid looksOpen
  repeat' with_reducible refine look_both ?_ ?_
  all_goals decide +kernel
set_option maxRecDepth 100000 in
set_option maxHeartbeats 8000000 in
theorem PySem.Challenge.cw_hn0002_03_holds : PySem.Challenge.rw_hn0002_03.Holds := by
  w_on
  refine holds_law Mine.said fun said => ?_
  k_head
  rotate_left 2
  · intro w; kernel_rfl
  · w_witness2
  k_fill
  intro w s₀ s₁ mg mb G Y fa o pm cd doc dV kV ho hd hcd hD hmg hg args vals as hpre hlay hrd hwl hlo
  have KX := km_in_of Y
  km_tabs Y
  have X := (Ground.X G).1
  have V := (Ground.X G).2
  refine Ground.open G ?_
  intro T B D TE TW
  try (refine guard_noD D (by decide +kernel) ?_; clear D)
  km_lay T hmg ho hd cd
  clear hmg
  wrow_args hpre hlay hrd hwl hlo
  all_goals (
    first | refine callC_kw (enter_call ?_) | refine enter_call ?_)
  w_top on
  kn_posts
  have he := Dflts.none hD rfl
  subst he
  have he := Dflts.noKw hD
  subst he
  refine call_cellsN (by decide) ho (fd_plain hd) (Top.nolimit T) hcd rfl (kinds_of (by kinds_ok)) (by decide) fun h₁ tk₁ cells F N0 X0 => ?_
  clear hd
  kn_ghosts F T
  k_drop
  have hb : ∀ q ∈ Mine.bnames, q.1 ∉ startupNames ∧ q.1 ∉ looseW Mine.view [] ∧ q.1 ∉ (recsOf Mine.view).map (·.name) ∧ q.1 ∉ (litsOf Mine.view).map (·.1) ∧ q.1 ∉ (clssOf Mine.view (looseW Mine.view [])).map (·.name) := by decide +kernel
  refine Mine.law3_top (tabs := [(41, 37), (34, 30)]) (c1 := 34) (P1 := 30) (c2 := 41) (P2 := 37) T hT9 ‹Frag.In _ _› ‹Fr _ _ _ _› X0 ‹News _ _ _ _› ‹Well _ _ _ _› (fun q hq => List.mem_append_left _ hq) (by simp) (by simp) rfl (by kernel_rfl) (by kernel_rfl) (by simp) (by simp) (by decide)
    (.of (by kernel_rfl) fun nm body sc pm cd doc vals h => by match vals, h with | [a, b], _ => rfl)
    (.of (by kernel_rfl) fun nm body sc pm cd doc vals h => by match vals, h with | [a], _ => rfl)
    (.of (by kernel_rfl) fun nm body sc pm cd doc vals h => by match vals, h with | [a, b], _ => rfl)
    (.of (by kernel_rfl) fun nm body sc pm cd doc vals h => by match vals, h with | [a, b], _ => rfl)
    (.of (by kernel_rfl) fun nm body sc pm cd doc vals h => by match vals, h with | [a, b, c], _ => rfl)
    (.of (by kernel_rfl) fun nm body sc pm cd doc vals h => by match vals, h with | [a, b], _ => rfl)
    (.of (by kernel_rfl) fun nm body sc pm cd doc vals h => by match vals, h with | [a, b], _ => rfl)
    (.of (by kernel_rfl) fun nm body sc pm cd doc vals h => by match vals, h with | [a, b], _ => rfl)
    (fun q hq => let ⟨h1, h2, h3, h4, h5⟩ := hb q hq; T.free q.1 h1 h2 h3 h4 h5) (by have h := ‹¬ _ < _›; omega)
    (fun h' tk k g1 g2 => ⟨⟨.inl ⟨.bool true, .bool true, [], rfl, fun _ => rfl, .bool _, (by wrow_post), fun _ => ⟨List.nodup_nil, nofun⟩⟩, k, rfl, by assumption⟩, g2, g1, trivial⟩)

import PyProof.Rows.All
import Wide.All
import OpenK.AllK
import Wide.FinOn
import PySem.Challenge.RW_xh0009_01
section
set_option Elab.async false
noncomputable section
namespace Mine
theorem and2 {p1 p2 G : Prop} (h : p1 ∧ p2) (k : p1 → p2 → G) : G := k h.1 h.2
theorem and3 {p1 p2 p3 G : Prop} (h : p1 ∧ p2 ∧ p3) (k : p1 → p2 → p3 → G) : G := k h.1 h.2.1 h.2.2
theorem and4 {p1 p2 p3 p4 G : Prop} (h : p1 ∧ p2 ∧ p3 ∧ p4) (k : p1 → p2 → p3 → p4 → G) : G := k h.1 h.2.1 h.2.2.1 h.2.2.2
theorem and5 {p1 p2 p3 p4 p5 G : Prop} (h : p1 ∧ p2 ∧ p3 ∧ p4 ∧ p5) (k : p1 → p2 → p3 → p4 → p5 → G) : G := k h.1 h.2.1 h.2.2.1 h.2.2.2.1 h.2.2.2.2
theorem and6 {p1 p2 p3 p4 p5 p6 G : Prop} (h : p1 ∧ p2 ∧ p3 ∧ p4 ∧ p5 ∧ p6) (k : p1 → p2 → p3 → p4 → p5 → p6 → G) : G := k h.1 h.2.1 h.2.2.1 h.2.2.2.1 h.2.2.2.2.1 h.2.2.2.2.2
theorem and7 {p1 p2 p3 p4 p5 p6 p7 G : Prop} (h : p1 ∧ p2 ∧ p3 ∧ p4 ∧ p5 ∧ p6 ∧ p7) (k : p1 → p2 → p3 → p4 → p5 → p6 → p7 → G) : G := k h.1 h.2.1 h.2.2.1 h.2.2.2.1 h.2.2.2.2.1 h.2.2.2.2.2.1 h.2.2.2.2.2.2
theorem and8 {p1 p2 p3 p4 p5 p6 p7 p8 G : Prop} (h : p1 ∧ p2 ∧ p3 ∧ p4 ∧ p5 ∧ p6 ∧ p7 ∧ p8) (k : p1 → p2 → p3 → p4 → p5 → p6 → p7 → p8 → G) : G := k h.1 h.2.1 h.2.2.1 h.2.2.2.1 h.2.2.2.2.1 h.2.2.2.2.2.1 h.2.2.2.2.2.2.1 h.2.2.2.2.2.2.2
theorem and9 {p1 p2 p3 p4 p5 p6 p7 p8 p9 G : Prop} (h : p1 ∧ p2 ∧ p3 ∧ p4 ∧ p5 ∧ p6 ∧ p7 ∧ p8 ∧ p9) (k : p1 → p2 → p3 → p4 → p5 → p6 → p7 → p8 → p9 → G) : G := k h.1 h.2.1 h.2.2.1 h.2.2.2.1 h.2.2.2.2.1 h.2.2.2.2.2.1 h.2.2.2.2.2.2.1 h.2.2.2.2.2.2.2.1 h.2.2.2.2.2.2.2.2
theorem and10 {p1 p2 p3 p4 p5 p6 p7 p8 p9 p10 G : Prop} (h : p1 ∧ p2 ∧ p3 ∧ p4 ∧ p5 ∧ p6 ∧ p7 ∧ p8 ∧ p9 ∧ p10) (k : p1 → p2 → p3 → p4 → p5 → p6 → p7 → p8 → p9 → p10 → G) : G := k h.1 h.2.1 h.2.2.1 h.2.2.2.1 h.2.2.2.2.1 h.2.2.2.2.2.1 h.2.2.2.2.2.2.1 h.2.2.2.2.2.2.2.1 h.2.2.2.2.2.2.2.2.1 h.2.2.2.2.2.2.2.2.2
theorem and11 {p1 p2 p3 p4 p5 p6 p7 p8 p9 p10 p11 G : Prop} (h : p1 ∧ p2 ∧ p3 ∧ p4 ∧ p5 ∧ p6 ∧ p7 ∧ p8 ∧ p9 ∧ p10 ∧ p11) (k : p1 → p2 → p3 → p4 → p5 → p6 → p7 → p8 → p9 → p10 → p11 → G) : G := k h.1 h.2.1 h.2.2.1 h.2.2.2.1 h.2.2.2.2.1 h.2.2.2.2.2.1 h.2.2.2.2.2.2.1 h.2.2.2.2.2.2.2.1 h.2.2.2.2.2.2.2.2.1 h.2.2.2.2.2.2.2.2.2.1 h.2.2.2.2.2.2.2.2.2.2
theorem and12 {p1 p2 p3 p4 p5 p6 p7 p8 p9 p10 p11 p12 G : Prop} (h : p1 ∧ p2 ∧ p3 ∧ p4 ∧ p5 ∧ p6 ∧ p7 ∧ p8 ∧ p9 ∧ p10 ∧ p11 ∧ p12) (k : p1 → p2 → p3 → p4 → p5 → p6 → p7 → p8 → p9 → p10 → p11 → p12 → G) : G := k h.1 h.2.1 h.2.2.1 h.2.2.2.1 h.2.2.2.2.1 h.2.2.2.2.2.1 h.2.2.2.2.2.2.1 h.2.2.2.2.2.2.2.1 h.2.2.2.2.2.2.2.2.1 h.2.2.2.2.2.2.2.2.2.1 h.2.2.2.2.2.2.2.2.2.2.1 h.2.2.2.2.2.2.2.2.2.2.2
theorem and13 {p1 p2 p3 p4 p5 p6 p7 p8 p9 p10 p11 p12 p13 G : Prop} (h : p1 ∧ p2 ∧ p3 ∧ p4 ∧ p5 ∧ p6 ∧ p7 ∧ p8 ∧ p9 ∧ p10 ∧ p11 ∧ p12 ∧ p13) (k : p1 → p2 → p3 → p4 → p5 → p6 → p7 → p8 → p9 → p10 → p11 → p12 → p13 → G) : G := k h.1 h.2.1 h.2.2.1 h.2.2.2.1 h.2.2.2.2.1 h.2.2.2.2.2.1 h.2.2.2.2.2.2.1 h.2.2.2.2.2.2.2.1 h.2.2.2.2.2.2.2.2.1 h.2.2.2.2.2.2.2.2.2.1 h.2.2.2.2.2.2.2.2.2.2.1 h.2.2.2.2.2.2.2.2.2.2.2.1 h.2.2.2.2.2.2.2.2.2.2.2.2
theorem and14 {p1 p2 p3 p4 p5 p6 p7 p8 p9 p10 p11 p12 p13 p14 G : Prop} (h : p1 ∧ p2 ∧ p3 ∧ p4 ∧ p5 ∧ p6 ∧ p7 ∧ p8 ∧ p9 ∧ p10 ∧ p11 ∧ p12 ∧ p13 ∧ p14) (k : p1 → p2 → p3 → p4 → p5 → p6 → p7 → p8 → p9 → p10 → p11 → p12 → p13 → p14 → G) : G := k h.1 h.2.1 h.2.2.1 h.2.2.2.1 h.2.2.2.2.1 h.2.2.2.2.2.1 h.2.2.2.2.2.2.1 h.2.2.2.2.2.2.2.1 h.2.2.2.2.2.2.2.2.1 h.2.2.2.2.2.2.2.2.2.1 h.2.2.2.2.2.2.2.2.2.2.1 h.2.2.2.2.2.2.2.2.2.2.2.1 h.2.2.2.2.2.2.2.2.2.2.2.2.1 h.2.2.2.2.2.2.2.2.2.2.2.2.2
theorem and15 {p1 p2 p3 p4 p5 p6 p7 p8 p9 p10 p11 p12 p13 p14 p15 G : Prop} (h : p1 ∧ p2 ∧ p3 ∧ p4 ∧ p5 ∧ p6 ∧ p7 ∧ p8 ∧ p9 ∧ p10 ∧ p11 ∧ p12 ∧ p13 ∧ p14 ∧ p15) (k : p1 → p2 → p3 → p4 → p5 → p6 → p7 → p8 → p9 → p10 → p11 → p12 → p13 → p14 → p15 → G) : G := k h.1 h.2.1 h.2.2.1 h.2.2.2.1 h.2.2.2.2.1 h.2.2.2.2.2.1 h.2.2.2.2.2.2.1 h.2.2.2.2.2.2.2.1 h.2.2.2.2.2.2.2.2.1 h.2.2.2.2.2.2.2.2.2.1 h.2.2.2.2.2.2.2.2.2.2.1 h.2.2.2.2.2.2.2.2.2.2.2.1 h.2.2.2.2.2.2.2.2.2.2.2.2.1 h.2.2.2.2.2.2.2.2.2.2.2.2.2.1 h.2.2.2.2.2.2.2.2.2.2.2.2.2.2
theorem and16 {p1 p2 p3 p4 p5 p6 p7 p8 p9 p10 p11 p12 p13 p14 p15 p16 G : Prop} (h : p1 ∧ p2 ∧ p3 ∧ p4 ∧ p5 ∧ p6 ∧ p7 ∧ p8 ∧ p9 ∧ p10 ∧ p11 ∧ p12 ∧ p13 ∧ p14 ∧ p15 ∧ p16) (k : p1 → p2 → p3 → p4 → p5 → p6 → p7 → p8 → p9 → p10 → p11 → p12 → p13 → p14 → p15 → p16 → G) : G := k h.1 h.2.1 h.2.2.1 h.2.2.2.1 h.2.2.2.2.1 h.2.2.2.2.2.1 h.2.2.2.2.2.2.1 h.2.2.2.2.2.2.2.1 h.2.2.2.2.2.2.2.2.1 h.2.2.2.2.2.2.2.2.2.1 h.2.2.2.2.2.2.2.2.2.2.1 h.2.2.2.2.2.2.2.2.2.2.2.1 h.2.2.2.2.2.2.2.2.2.2.2.2.1 h.2.2.2.2.2.2.2.2.2.2.2.2.2.1 h.2.2.2.2.2.2.2.2.2.2.2.2.2.2.1 h.2.2.2.2.2.2.2.2.2.2.2.2.2.2.2
theorem and17 {p1 p2 p3 p4 p5 p6 p7 p8 p9 p10 p11 p12 p13 p14 p15 p16 p17 G : Prop} (h : p1 ∧ p2 ∧ p3 ∧ p4 ∧ p5 ∧ p6 ∧ p7 ∧ p8 ∧ p9 ∧ p10 ∧ p11 ∧ p12 ∧ p13 ∧ p14 ∧ p15 ∧ p16 ∧ p17) (k : p1 → p2 → p3 → p4 → p5 → p6 → p7 → p8 → p9 → p10 → p11 → p12 → p13 → p14 → p15 → p16 → p17 → G) : G := k h.1 h.2.1 h.2.2.1 h.2.2.2.1 h.2.2.2.2.1 h.2.2.2.2.2.1 h.2.2.2.2.2.2.1 h.2.2.2.2.2.2.2.1 h.2.2.2.2.2.2.2.2.1 h.2.2.2.2.2.2.2.2.2.1 h.2.2.2.2.2.2.2.2.2.2.1 h.2.2.2.2.2.2.2.2.2.2.2.1 h.2.2.2.2.2.2.2.2.2.2.2.2.1 h.2.2.2.2.2.2.2.2.2.2.2.2.2.1 h.2.2.2.2.2.2.2.2.2.2.2.2.2.2.1 h.2.2.2.2.2.2.2.2.2.2.2.2.2.2.2.1 h.2.2.2.2.2.2.2.2.2.2.2.2.2.2.2.2
theorem and18 {p1 p2 p3 p4 p5 p6 p7 p8 p9 p10 p11 p12 p13 p14 p15 p16 p17 p18 G : Prop} (h : p1 ∧ p2 ∧ p3 ∧ p4 ∧ p5 ∧ p6 ∧ p7 ∧ p8 ∧ p9 ∧ p10 ∧ p11 ∧ p12 ∧ p13 ∧ p14 ∧ p15 ∧ p16 ∧ p17 ∧ p18) (k : p1 → p2 → p3 → p4 → p5 → p6 → p7 → p8 → p9 → p10 → p11 → p12 → p13 → p14 → p15 → p16 → p17 → p18 → G) : G := k h.1 h.2.1 h.2.2.1 h.2.2.2.1 h.2.2.2.2.1 h.2.2.2.2.2.1 h.2.2.2.2.2.2.1 h.2.2.2.2.2.2.2.1 h.2.2.2.2.2.2.2.2.1 h.2.2.2.2.2.2.2.2.2.1 h.2.2.2.2.2.2.2.2.2.2.1 h.2.2.2.2.2.2.2.2.2.2.2.1 h.2.2.2.2.2.2.2.2.2.2.2.2.1 h.2.2.2.2.2.2.2.2.2.2.2.2.2.1 h.2.2.2.2.2.2.2.2.2.2.2.2.2.2.1 h.2.2.2.2.2.2.2.2.2.2.2.2.2.2.2.1 h.2.2.2.2.2.2.2.2.2.2.2.2.2.2.2.2.1 h.2.2.2.2.2.2.2.2.2.2.2.2.2.2.2.2.2
theorem list_cons {α : Type} {n : Nat} {l : List α} (h : l.length = n + 1) : ∃ a t, l = a :: t ∧ t.length = n := by
  cases l with
  | nil => cases h
  | cons a t => exact ⟨a, t, rfl, Nat.succ.inj h⟩
theorem list5 {α : Type} {l : List α} (h : l.length = 5) : ∃ a b c d e, l = [a, b, c, d, e] := by
  obtain ⟨a, l1, h1, h⟩ := list_cons h
  obtain ⟨b, l2, h2, h⟩ := list_cons h
  obtain ⟨c, l3, h3, h⟩ := list_cons h
  obtain ⟨d, l4, h4, h⟩ := list_cons h
  obtain ⟨e, l5, h5, h⟩ := list_cons h
  exact ⟨a, b, c, d, e, by rw [h1, h2, h3, h4, h5, List.eq_nil_of_length_eq_zero h]⟩
theorem ex2.{u1, u2} {α1 : Sort u1} {α2 : Sort u2} {P : α1 → α2 → Prop} {G : Prop} (h : ∃ x1 x2, P x1 x2) (k : ∀ x1 x2, P x1 x2 → G) : G := by
  obtain ⟨x1, x2, h⟩ := h
  exact k x1 x2 h
theorem ex3.{u1, u2, u3} {α1 : Sort u1} {α2 : Sort u2} {α3 : Sort u3} {P : α1 → α2 → α3 → Prop} {G : Prop} (h : ∃ x1 x2 x3, P x1 x2 x3) (k : ∀ x1 x2 x3, P x1 x2 x3 → G) : G := by
  obtain ⟨x1, x2, x3, h⟩ := h
  exact k x1 x2 x3 h
theorem ex4.{u1, u2, u3, u4} {α1 : Sort u1} {α2 : Sort u2} {α3 : Sort u3} {α4 : Sort u4} {P : α1 → α2 → α3 → α4 → Prop} {G : Prop} (h : ∃ x1 x2 x3 x4, P x1 x2 x3 x4) (k : ∀ x1 x2 x3 x4, P x1 x2 x3 x4 → G) : G := by
  obtain ⟨x1, x2, x3, x4, h⟩ := h
  exact k x1 x2 x3 x4 h
theorem ex5.{u1, u2, u3, u4, u5} {α1 : Sort u1} {α2 : Sort u2} {α3 : Sort u3} {α4 : Sort u4} {α5 : Sort u5} {P : α1 → α2 → α3 → α4 → α5 → Prop} {G : Prop} (h : ∃ x1 x2 x3 x4 x5, P x1 x2 x3 x4 x5) (k : ∀ x1 x2 x3 x4 x5, P x1 x2 x3 x4 x5 → G) : G := by
  obtain ⟨x1, x2, x3, x4, x5, h⟩ := h
  exact k x1 x2 x3 x4 x5 h
theorem ex6.{u1, u2, u3, u4, u5, u6} {α1 : Sort u1} {α2 : Sort u2} {α3 : Sort u3} {α4 : Sort u4} {α5 : Sort u5} {α6 : Sort u6} {P : α1 → α2 → α3 → α4 → α5 → α6 → Prop} {G : Prop} (h : ∃ x1 x2 x3 x4 x5 x6, P x1 x2 x3 x4 x5 x6) (k : ∀ x1 x2 x3 x4 x5 x6, P x1 x2 x3 x4 x5 x6 → G) : G := by
  obtain ⟨x1, x2, x3, x4, x5, x6, h⟩ := h
  exact k x1 x2 x3 x4 x5 x6 h
theorem ex7.{u1, u2, u3, u4, u5, u6, u7} {α1 : Sort u1} {α2 : Sort u2} {α3 : Sort u3} {α4 : Sort u4} {α5 : Sort u5} {α6 : Sort u6} {α7 : Sort u7} {P : α1 → α2 → α3 → α4 → α5 → α6 → α7 → Prop} {G : Prop} (h : ∃ x1 x2 x3 x4 x5 x6 x7, P x1 x2 x3 x4 x5 x6 x7) (k : ∀ x1 x2 x3 x4 x5 x6 x7, P x1 x2 x3 x4 x5 x6 x7 → G) : G := by
  obtain ⟨x1, x2, x3, x4, x5, x6, x7, h⟩ := h
  exact k x1 x2 x3 x4 x5 x6 x7 h
theorem ex8.{u1, u2, u3, u4, u5, u6, u7, u8} {α1 : Sort u1} {α2 : Sort u2} {α3 : Sort u3} {α4 : Sort u4} {α5 : Sort u5} {α6 : Sort u6} {α7 : Sort u7} {α8 : Sort u8} {P : α1 → α2 → α3 → α4 → α5 → α6 → α7 → α8 → Prop} {G : Prop} (h : ∃ x1 x2 x3 x4 x5 x6 x7 x8, P x1 x2 x3 x4 x5 x6 x7 x8) (k : ∀ x1 x2 x3 x4 x5 x6 x7 x8, P x1 x2 x3 x4 x5 x6 x7 x8 → G) : G := by
  obtain ⟨x1, x2, x3, x4, x5, x6, x7, x8, h⟩ := h
  exact k x1 x2 x3 x4 x5 x6 x7 x8 h
theorem ex9.{u1, u2, u3, u4, u5, u6, u7, u8, u9} {α1 : Sort u1} {α2 : Sort u2} {α3 : Sort u3} {α4 : Sort u4} {α5 : Sort u5} {α6 : Sort u6} {α7 : Sort u7} {α8 : Sort u8} {α9 : Sort u9} {P : α1 → α2 → α3 → α4 → α5 → α6 → α7 → α8 → α9 → Prop} {G : Prop} (h : ∃ x1 x2 x3 x4 x5 x6 x7 x8 x9, P x1 x2 x3 x4 x5 x6 x7 x8 x9) (k : ∀ x1 x2 x3 x4 x5 x6 x7 x8 x9, P x1 x2 x3 x4 x5 x6 x7 x8 x9 → G) : G := by
  obtain ⟨x1, x2, x3, x4, x5, x6, x7, x8, x9, h⟩ := h
  exact k x1 x2 x3 x4 x5 x6 x7 x8 x9 h
theorem ex10.{u1, u2, u3, u4, u5, u6, u7, u8, u9, u10} {α1 : Sort u1} {α2 : Sort u2} {α3 : Sort u3} {α4 : Sort u4} {α5 : Sort u5} {α6 : Sort u6} {α7 : Sort u7} {α8 : Sort u8} {α9 : Sort u9} {α10 : Sort u10} {P : α1 → α2 → α3 → α4 → α5 → α6 → α7 → α8 → α9 → α10 → Prop} {G : Prop} (h : ∃ x1 x2 x3 x4 x5 x6 x7 x8 x9 x10, P x1 x2 x3 x4 x5 x6 x7 x8 x9 x10) (k : ∀ x1 x2 x3 x4 x5 x6 x7 x8 x9 x10, P x1 x2 x3 x4 x5 x6 x7 x8 x9 x10 → G) : G := by
  obtain ⟨x1, x2, x3, x4, x5, x6, x7, x8, x9, x10, h⟩ := h
  exact k x1 x2 x3 x4 x5 x6 x7 x8 x9 x10 h
theorem ex1.{u} {α : Sort u} {P : α → Prop} {G : Prop} (h : ∃ x, P x) (k : ∀ x, P x → G) : G := by
  obtain ⟨x, h⟩ := h
  exact k x h
theorem opq.{u} {α : Sort u} (f : α) {G : Prop} (k : ∀ x, x = f → G) : G := k f rfl
end Mine
end
end
section
open PySem PySem.W PyProof.Rows
set_option Elab.async false
set_option maxRecDepth 100000
set_option maxHeartbeats 0
local macro_rules | `(tactic| k_head) => `(tactic| x_head)
noncomputable def PySem.W.Fast.tw5905060973319811680 : Program := PySem.Challenge.pw_xh0009_01
theorem PySem.W.Fast.te5905060973319811680 : PySem.Challenge.pw_xh0009_01 = PySem.W.Fast.tw5905060973319811680 := rfl
namespace Mine
open_top hd for PySem.Challenge.rw_xh0009_01
end Mine
end
section
namespace Mine
open PySem PySem.W PySem.Calls PyProof.Rows PySem.Spec
theorem dfl0 {p : Prop} (h : p := by k_dflt rfl) : p := h
theorem dfl1 {p : Prop} (h : p := by k_dflt decide) : p := h
theorem dfl2 {p : Prop} (h : p := by with_unfolding_all rfl) : p := h
end Mine
end
section
open PySem PySem.W PySem.Calls PyProof.Rows PySem.Spec
set_option Elab.async false
set_option linter.unusedVariables false
set_option maxRecDepth 100000

noncomputable section
namespace Mine

noncomputable abbrev PW : Program := PySem.Challenge.pw_xh0009_01
noncomputable abbrev KK (w : World) : Frag := (hd.heap_39 w.params).filter fun p => !(Nat.beq p.1 128 || Nat.beq p.1 135)
noncomputable abbrev VW : Program := hd.view_39
noncomputable abbrev LS : List Str := looseW VW [Str.ofString "_Accumulator", Str.ofString "_twin_re_1", Str.ofString "_twin_re_2"]

structure Cx where
  w : World
  os : OsState
  mg : Str → Option Value
  mb : Str → Option Value

noncomputable abbrev MM (C : Cx) : Model := model PW C.w

structure WF (C : Cx) (h : Heap) : Prop where
  k : (KK C.w).In h
  t : TopRead VW LS C.mg C.mb h

noncomputable abbrev PH := Addr → Option Obj
noncomputable abbrev HP := Obj → Prop
noncomputable abbrev Led := List (Addr × HP)
noncomputable abbrev Vars := Str → Option Value
noncomputable def Sub (B : PH) (h : Heap) : Prop := ∀ b o, B b = some o → h.get? b = some o
@[reducible] noncomputable def upd (m : Vars) (x : Str) (v : Value) : Vars := fun y => if y = x then some v else m y

structure St (C : Cx) (B F : PH) (L : Addr) (m : Vars) (σ : Led) (s : Shared) : Prop where
  keep : Sub B s.heap
  keepF : Sub F s.heap
  ns : s.heap.Ns L m
  own : ∀ p ∈ σ, ∃ o, s.heap.get? p.1 = some o ∧ p.2 o
  bL : B L = none
  fL : F L = none
  bσ : ∀ p ∈ σ, B p.1 = none ∧ F p.1 = none
  nd : (L :: σ.map (·.1)).Nodup
  wf : ∀ h, Sub B h → WF C h
  os : s.os = C.os
  gens : AllBare s.gens

noncomputable def BI (B : PH) (a : Addr) (P : HP) : Prop := ∃ o, B a = some o ∧ P o
noncomputable def Kn (B : PH) (σ : Led) (a : Addr) (P : HP) : Prop := BI B a P ∨ (a, P) ∈ σ

theorem mem_fst {p : Addr × HP} {σ : Led} (h : p ∈ σ) : p.1 ∈ σ.map (·.1) := List.mem_map_of_mem h

section St
variable {C : Cx} {B F : PH} {L : Addr} {m : Vars} {σ : Led} {s : Shared}

theorem St.world (S : St C B F L m σ s) : WF C s.heap := S.wf _ S.keep
theorem St.kn (S : St C B F L m σ s) {a : Addr} {P : HP} (k : Kn B σ a P) : ∃ o, s.heap.get? a = some o ∧ P o := by
  rcases k with ⟨o, h, p⟩ | h
  · exact ⟨o, S.keep _ _ h, p⟩
  · exact S.own _ h
theorem none_of {h : Heap} {B : PH} (k : Sub B h) {a : Addr} (e : h.get? a = none) : B a = none := by
  cases q : B a with
  | none => rfl
  | some o => rw [k a o q] at e; cases e

theorem St.grow (S : St C B F L m σ s) {h' : Heap} {t : Nat} {g : Array GenState} {d : Drawn} (hk : ∀ b o, s.heap.get? b = some o → h'.get? b = some o) (hg : AllBare g) :
    St C B F L m σ ⟨h', g, d, t, s.os⟩ where
  keep := fun b o e => hk b o (S.keep b o e)
  keepF := fun b o e => hk b o (S.keepF b o e)
  ns := S.ns.keeps hk
  own := fun p hp => let ⟨o, e, q⟩ := S.own p hp; ⟨o, hk _ _ e, q⟩
  bL := S.bL
  fL := S.fL
  bσ := S.bσ
  nd := S.nd
  wf := S.wf
  os := S.os
  gens := hg
theorem St.toks (S : St C B F L m σ s) {t : Nat} : St C B F L m σ { s with toks := t } := S.grow (fun _ _ e => e) S.gens
theorem St.keeps (S : St C B F L m σ s) {h' : Heap} {t : Nat} (hk : ∀ b o, s.heap.get? b = some o → h'.get? b = some o) : St C B F L m σ { s with heap := h', toks := t } := S.grow hk S.gens

theorem St.add (S : St C B F L m σ s) {a : Addr} {o : Obj} {P : HP} {s' : Shared} (S' : St C B F L m σ s') (hn : s.heap.get? a = none) (ha : s'.heap.get? a = some o) (hp : P o) : St C B F L m ((a, P) :: σ) s' where
  keep := S'.keep
  keepF := S'.keepF
  ns := S'.ns
  own := fun p hp' => by
    rcases List.mem_cons.mp hp' with rfl | hp'
    · exact ⟨o, ha, hp⟩
    · exact S'.own p hp'
  bL := S'.bL
  fL := S'.fL
  bσ := fun p hp' => by
    rcases List.mem_cons.mp hp' with rfl | hp'
    · exact ⟨none_of S.keep hn, none_of S.keepF hn⟩
    · exact S'.bσ p hp'
  nd := by
    have nL : a ≠ L := by
      rintro rfl
      obtain ⟨o, _, _, e, _⟩ := S.ns
      rw [hn] at e; cases e
    have nσ : a ∉ σ.map (·.1) := fun q => by
      obtain ⟨p, hp, rfl⟩ := List.mem_map.mp q
      obtain ⟨o, e, _⟩ := S.own p hp
      rw [hn] at e; cases e
    have := List.nodup_cons.mp S'.nd
    refine List.nodup_cons.mpr ⟨fun q => ?_, List.nodup_cons.mpr ⟨nσ, this.2⟩⟩
    rcases List.mem_cons.mp q with q | q
    · exact nL q.symm
    · exact this.1 q
  wf := S'.wf
  os := S'.os
  gens := S'.gens
theorem get_size_none (h : Heap) : h.get? h.objs.size = none := by
  cases e : h.get? h.objs.size with
  | none => rfl
  | some o => exact absurd (Heap.lt_size e) (Nat.lt_irrefl _)
theorem get_ge_none {h : Heap} {a : Addr} (ha : h.objs.size ≤ a) : h.get? a = none := by
  cases e : h.get? a with
  | none => rfl
  | some o => exact absurd (Heap.lt_size e) (Nat.not_lt.mpr ha)
theorem St.push (S : St C B F L m σ s) {o : Obj} {P : HP} (hf : o.isFreed = false) (hp : P o) : St C B F L m ((s.heap.objs.size, P) :: σ) { s with heap := s.heap.push o } :=
  S.add (s' := { s with heap := s.heap.push o }) (S.grow (fun _ _ e => Heap.get?_push_of_some _ e) S.gens) (get_size_none _) (Heap.get?_push_size _ hf) hp

theorem St.perm (S : St C B F L m σ s) {σ' : Led} (h : σ.Perm σ') : St C B F L m σ' s where
  keep := S.keep
  keepF := S.keepF
  ns := S.ns
  own := fun p hp => S.own p (h.mem_iff.mpr hp)
  bL := S.bL
  fL := S.fL
  bσ := fun p hp => S.bσ p (h.mem_iff.mpr hp)
  nd := by
    have : (L :: σ.map (·.1)).Perm (L :: σ'.map (·.1)) := (h.map _).cons _
    exact this.nodup_iff.mp S.nd
  wf := S.wf
  os := S.os
  gens := S.gens
theorem St.sub (S : St C B F L m σ s) {σ' : Led} (h : σ'.Sublist σ) : St C B F L m σ' s where
  keep := S.keep
  keepF := S.keepF
  ns := S.ns
  own := fun p hp => S.own p (h.subset hp)
  bL := S.bL
  fL := S.fL
  bσ := fun p hp => S.bσ p (h.subset hp)
  nd := ((h.map _).cons_cons _).nodup S.nd
  wf := S.wf
  os := S.os
  gens := S.gens
theorem St.setL (S : St C B F L m σ s) {h' : Heap} {t : Nat} {m' : Vars} (hn : h'.Ns L m') (hs : Heap.SameBut L s.heap h') : St C B F L m' σ { s with heap := h', toks := t } where
  keep := fun b o e => (hs.2 b (fun q => by subst q; rw [S.bL] at e; cases e)).trans (S.keep b o e)
  keepF := fun b o e => (hs.2 b (fun q => by subst q; rw [S.fL] at e; cases e)).trans (S.keepF b o e)
  ns := hn
  own := fun p hp => by
    obtain ⟨o, e, q⟩ := S.own p hp
    refine ⟨o, (hs.2 _ (fun q => ?_)).trans e, q⟩
    exact (List.nodup_cons.mp S.nd).1 (q ▸ mem_fst hp)
  bL := S.bL
  fL := S.fL
  bσ := S.bσ
  nd := S.nd
  wf := S.wf
  os := S.os
  gens := S.gens
theorem St.set0 {a : Addr} {P P' : HP} (S : St C B F L m ((a, P) :: σ) s) {h' : Heap} {t : Nat} {o' : Obj} (ho : h'.get? a = some o') (hp : P' o') (hs : Heap.SameBut a s.heap h') :
    St C B F L m ((a, P') :: σ) { s with heap := h', toks := t } where
  keep := fun b o e => (hs.2 b (fun q => by subst q; rw [(S.bσ _ (.head _)).1] at e; cases e)).trans (S.keep b o e)
  keepF := fun b o e => (hs.2 b (fun q => by subst q; rw [(S.bσ _ (.head _)).2] at e; cases e)).trans (S.keepF b o e)
  ns := S.ns.sameBut hs (fun q => (List.nodup_cons.mp S.nd).1 (q ▸ .head _))
  own := fun p hp' => by
    rcases List.mem_cons.mp hp' with rfl | hp'
    · exact ⟨o', ho, hp⟩
    · obtain ⟨o, e, q⟩ := S.own p (.tail _ hp')
      refine ⟨o, (hs.2 _ (fun q => ?_)).trans e, q⟩
      have hq : p.1 = a := q
      exact (List.nodup_cons.mp (List.nodup_cons.mp S.nd).2).1 (by rw [← hq]; exact mem_fst (p := p) hp')
  bL := S.bL
  fL := S.fL
  bσ := fun p hp' => by
    rcases List.mem_cons.mp hp' with rfl | hp'
    · exact S.bσ (a, P) (.head _)
    · exact S.bσ p (.tail _ hp')
  nd := S.nd
  wf := S.wf
  os := S.os
  gens := S.gens
theorem St.ne0 {a b : Addr} {P Q : HP} (S : St C B F L m ((a, P) :: σ) s) (hb : Kn B σ b Q) : b ≠ a := by
  rintro rfl
  rcases hb with ⟨o, e, _⟩ | hb
  · rw [(S.bσ _ (.head _)).1] at e; cases e
  · exact (List.nodup_cons.mp (List.nodup_cons.mp S.nd).2).1 (mem_fst (p := (b, Q)) hb)

open Classical in
theorem St.frame {σ₁ σ₂ : Led} (S : St C B F L m (σ₁ ++ σ₂) s) : ∃ B' : PH, (∀ b o, B b = some o → B' b = some o) ∧ (∀ a P, Kn B σ₂ a P → BI B' a P) ∧ St C B' F L m σ₁ s ∧
    ∀ m' σ' s', St C B' F L m' σ' s' → St C B F L m' (σ' ++ σ₂) s' := by
  have hd := S.nd
  rw [List.map_append] at hd
  have hσ := List.nodup_cons.mp hd
  have hap := List.nodup_append.mp hσ.2
  refine ⟨fun a => if a ∈ σ₂.map (·.1) then s.heap.get? a else B a, fun b o e => ?_, fun a P k => ?_, ?_, fun m' σ' s' S' => ?_⟩
  · (try dsimp only)
    split
    · exact S.keep b o e
    · exact e
  · rcases k with ⟨o, e, p⟩ | k
    · refine ⟨o, ?_, p⟩
      (try dsimp only)
      split
      · exact S.keep a o e
      · exact e
    · obtain ⟨o, e, p⟩ := S.own (a, P) (List.mem_append_right _ k)
      refine ⟨o, ?_, p⟩
      (try dsimp only)
      rw [if_pos (mem_fst k)]; exact e
  · refine { keep := fun b o e => ?_, keepF := S.keepF, ns := S.ns, own := fun p hp => S.own p (List.mem_append_left _ hp), bL := ?_, fL := S.fL, bσ := fun p hp => ?_, nd := ?_, wf := fun h hs => S.wf h fun b o e => hs b o ?_, os := S.os, gens := S.gens }
    · dsimp only at e
      split at e
      · exact e
      · exact S.keep b o e
    · rw [if_neg fun q => hσ.1 (List.mem_append_right _ q)]; exact S.bL
    · refine ⟨?_, (S.bσ p (List.mem_append_left _ hp)).2⟩
      rw [if_neg fun q => hap.2.2 _ (mem_fst hp) _ q rfl]
      exact (S.bσ p (List.mem_append_left _ hp)).1
    · exact List.nodup_cons.mpr ⟨fun q => hσ.1 (List.mem_append_left _ q), hap.1⟩
    · (try dsimp only)
      split
      · exact S.keep b o e
      · exact e
  · have bs : ∀ b o, B b = some o → (if b ∈ σ₂.map (·.1) then s.heap.get? b else B b) = some o := fun b o e => by
      split
      · exact S.keep b o e
      · exact e
    have hd' := List.nodup_cons.mp S'.nd
    refine { keep := fun b o e => S'.keep b o (bs b o e), keepF := S'.keepF, ns := S'.ns, own := fun p hp => ?_, bL := S.bL, fL := S'.fL, bσ := fun p hp => ?_, nd := ?_, wf := S.wf, os := S'.os, gens := S'.gens }
    · rcases List.mem_append.mp hp with hp | hp
      · exact S'.own p hp
      · obtain ⟨o, e, q⟩ := S.own p (List.mem_append_right _ hp)
        exact ⟨o, S'.keep _ _ (by (try dsimp only); rw [if_pos (mem_fst hp)]; exact e), q⟩
    · rcases List.mem_append.mp hp with hp | hp
      · have z := (S'.bσ p hp).1
        (try dsimp only at z)
        split at z
        · rename_i q
          obtain ⟨p', hp', e'⟩ := List.mem_map.mp q
          obtain ⟨o, e, _⟩ := S.own p' (List.mem_append_right _ hp')
          rw [e', z] at e; cases e
        · exact ⟨z, (S'.bσ p hp).2⟩
      · exact S.bσ p (List.mem_append_right _ hp)
    · rw [List.map_append]
      refine List.nodup_cons.mpr ⟨fun q => ?_, List.nodup_append.mpr ⟨hd'.2, hap.2.1, fun a ha b hb e => ?_⟩⟩
      · rcases List.mem_append.mp q with q | q
        · exact hd'.1 q
        · exact hσ.1 (List.mem_append_right _ q)
      · subst e
        obtain ⟨p, hp, rfl⟩ := List.mem_map.mp ha
        have z := (S'.bσ p hp).1
        (try dsimp only at z)
        rw [if_pos hb] at z
        obtain ⟨p', hp', e'⟩ := List.mem_map.mp hb
        obtain ⟨o, e, _⟩ := S.own p' (List.mem_append_right _ hp')
        rw [e', z] at e; cases e

open Classical in
theorem St.hideL (S : St C B F L m σ s) {L' : Addr} {h' : Heap} {t : Nat} {m₁ : Vars} (hn : s.heap.get? L' = none) (hns : h'.Ns L' m₁) (hk : ∀ b o, s.heap.get? b = some o → h'.get? b = some o) :
    ∃ F' : PH, (∀ b o, F b = some o → F' b = some o) ∧ Sub F' s.heap ∧ St C B F' L' m₁ σ { s with heap := h', toks := t } ∧ ∀ m' σ' s', St C B F' L' m' σ' s' → St C B F L m σ' s' := by
  obtain ⟨oL, es, ep, oh⟩ := id S.ns; refine and4 oh fun hL hLd hLk hLf => ?_; clear oh
  have nL : L' ≠ L := fun q => by rw [q, hL] at hn; cases hn
  refine ⟨fun a => if a = L then s.heap.get? a else F a, fun b o e => ?_, fun b o e => ?_, ?_, fun m' σ' s' S' => ?_⟩
  · (try dsimp only)
    split
    · exact S.keepF b o e
    · exact e
  · (try dsimp only at e)
    split at e
    · exact e
    · exact S.keepF b o e
  · have kF : Sub (fun a => if a = L then s.heap.get? a else F a) s.heap := fun b o e => by
      (try dsimp only at e)
      split at e
      · exact e
      · exact S.keepF b o e
    refine { keep := fun b o e => hk b o (S.keep b o e), keepF := fun b o e => hk b o (kF b o e), ns := hns, own := fun p hp => let ⟨o, e, q⟩ := S.own p hp; ⟨o, hk _ _ e, q⟩,
             bL := none_of S.keep hn, fL := none_of kF hn, bσ := fun p hp => ⟨(S.bσ p hp).1, ?_⟩, nd := ?_, wf := S.wf, os := S.os, gens := S.gens }
    · rw [if_neg fun (q : p.1 = L) => (List.nodup_cons.mp S.nd).1 (q ▸ mem_fst hp)]
      exact (S.bσ p hp).2
    · refine List.nodup_cons.mpr ⟨fun q => ?_, (List.nodup_cons.mp S.nd).2⟩
      obtain ⟨p, hp, e⟩ := List.mem_map.mp q
      obtain ⟨o, e', _⟩ := S.own p hp
      rw [e, hn] at e'; cases e'
  · refine { keep := S'.keep, keepF := fun b o e => S'.keepF b o ?_, ns := ⟨oL, es, ep, S'.keepF L oL ?_, hLd, hLk, hLf⟩, own := S'.own, bL := S.bL, fL := S.fL, bσ := fun p hp => ⟨(S'.bσ p hp).1, ?_⟩, nd := ?_, wf := S'.wf, os := S'.os, gens := S'.gens }
    · (try dsimp only)
      split
      · exact S.keepF b o e
      · exact e
    · (try dsimp only)
      rw [if_pos rfl]; exact hL
    · have z := (S'.bσ p hp).2
      (try dsimp only at z)
      split at z
      · rename_i q; rw [q, hL] at z; cases z
      · exact z
    · refine List.nodup_cons.mpr ⟨fun q => ?_, (List.nodup_cons.mp S'.nd).2⟩
      obtain ⟨p, hp, e⟩ := List.mem_map.mp q
      have z := (S'.bσ p hp).2
      (try dsimp only at z)
      rw [e, if_pos rfl, hL] at z; cases z

open Classical in
theorem St.hide0 {a : Addr} {P : HP} (S : St C B F L m ((a, P) :: σ) s) :
    ∃ F' : PH, (∀ b o, F b = some o → F' b = some o) ∧ BI F' a P ∧ St C B F' L m σ s ∧ ∀ m' σ' s', St C B F' L m' σ' s' → St C B F L m' ((a, P) :: σ') s' := by
  obtain ⟨oa, ha, pa⟩ := S.own _ (.head _)
  have hd := List.nodup_cons.mp S.nd
  have hd2 := List.nodup_cons.mp hd.2
  have kF : Sub (fun b => if b = a then s.heap.get? b else F b) s.heap := fun b o e => by
    (try dsimp only at e)
    split at e
    · exact e
    · exact S.keepF b o e
  refine ⟨fun b => if b = a then s.heap.get? b else F b, fun b o e => ?_, ⟨oa, ?_, pa⟩, ?_, fun m' σ' s' S' => ?_⟩
  · (try dsimp only)
    split
    · exact S.keepF b o e
    · exact e
  · (try dsimp only)
    rw [if_pos rfl]; exact ha
  · refine { keep := S.keep, keepF := kF, ns := S.ns, own := fun p hp => S.own p (.tail _ hp), bL := S.bL, fL := ?_, bσ := fun p hp => ⟨(S.bσ p (.tail _ hp)).1, ?_⟩, nd := ?_, wf := S.wf, os := S.os, gens := S.gens }
    · rw [if_neg fun (q : L = a) => hd.1 (by rw [q]; exact .head _)]; exact S.fL
    · rw [if_neg fun (q : p.1 = a) => hd2.1 (by rw [← q]; exact mem_fst (p := p) hp)]; exact (S.bσ p (.tail _ hp)).2
    · exact List.nodup_cons.mpr ⟨fun q => hd.1 (.tail _ q), hd2.2⟩
  · have fl := S'.fL
    (try dsimp only at fl)
    have hd' := List.nodup_cons.mp S'.nd
    have nσ : a ∉ σ'.map (·.1) := fun q => by
      obtain ⟨p, hp, e⟩ := List.mem_map.mp q
      have z := (S'.bσ p hp).2
      (try dsimp only at z)
      rw [e, if_pos rfl, ha] at z; cases z
    refine { keep := S'.keep, keepF := fun b o e => S'.keepF b o ?_, ns := S'.ns, own := fun p hp => ?_, bL := S'.bL, fL := ?_, bσ := fun p hp => ?_, nd := ?_, wf := S'.wf, os := S'.os, gens := S'.gens }
    · (try dsimp only)
      split
      · exact S.keepF b o e
      · exact e
    · rcases List.mem_cons.mp hp with rfl | hp
      · exact ⟨oa, S'.keepF a oa (by (try dsimp only); rw [if_pos rfl]; exact ha), pa⟩
      · exact S'.own p hp
    · split at fl
      · rename_i q; rw [q, ha] at fl; cases fl
      · exact fl
    · rcases List.mem_cons.mp hp with rfl | hp
      · exact S.bσ _ (.head _)
      · refine ⟨(S'.bσ p hp).1, ?_⟩
        have z := (S'.bσ p hp).2
        (try dsimp only at z)
        split at z
        · rename_i q; rw [q, ha] at z; cases z
        · exact z
    · refine List.nodup_cons.mpr ⟨fun q => ?_, List.nodup_cons.mpr ⟨nσ, hd'.2⟩⟩
      rcases List.mem_cons.mp q with q | q
      · rw [if_pos q, q, ha] at fl; cases fl
      · exact hd'.1 q

theorem St.off (S : St C B F L m σ s) {a : Addr} {h' : Heap} {t : Nat} (hs : Heap.SameBut a s.heap h') (hB : B a = none) (hF : F a = none) (hL : a ≠ L) (hσ : a ∉ σ.map (·.1)) : St C B F L m σ { s with heap := h', toks := t } where
  keep := fun b o e => (hs.2 b (fun q => by subst q; rw [hB] at e; cases e)).trans (S.keep b o e)
  keepF := fun b o e => (hs.2 b (fun q => by subst q; rw [hF] at e; cases e)).trans (S.keepF b o e)
  ns := S.ns.sameBut hs (Ne.symm hL)
  own := fun p hp => by
    obtain ⟨o, e, q⟩ := S.own p hp
    exact ⟨o, (hs.2 _ (fun q => hσ (q ▸ mem_fst hp))).trans e, q⟩
  bL := S.bL
  fL := S.fL
  bσ := S.bσ
  nd := S.nd
  wf := S.wf
  os := S.os
  gens := S.gens
open Classical in
theorem St.hideA (S : St C B F L m σ s) {a : Addr} (hL : a ≠ L) (hσ : a ∉ σ.map (·.1)) : ∃ F' : PH, (∀ b o, F b = some o → F' b = some o) ∧ (∀ o, s.heap.get? a = some o → F' a = some o) ∧ St C B F' L m σ s := by
  have kF : Sub (fun b => if b = a then s.heap.get? b else F b) s.heap := fun b o e => by
    (try dsimp only at e)
    split at e
    · exact e
    · exact S.keepF b o e
  refine ⟨fun b => if b = a then s.heap.get? b else F b, fun b o e => ?_, fun o e => ?_, { keep := S.keep, keepF := kF, ns := S.ns, own := S.own, bL := S.bL, fL := ?_, bσ := fun p hp => ⟨(S.bσ p hp).1, ?_⟩, nd := S.nd, wf := S.wf, os := S.os, gens := S.gens }⟩
  · (try dsimp only)
    split
    · exact S.keepF b o e
    · exact e
  · (try dsimp only); rw [if_pos rfl]; exact e
  · rw [if_neg (Ne.symm hL)]; exact S.fL
  · rw [if_neg fun (q : p.1 = a) => hσ (by rw [← q]; exact mem_fst (p := p) hp)]; exact (S.bσ p hp).2
theorem St.weakF (S : St C B F L m σ s) {F' : PH} (h : ∀ b o, F' b = some o → F b = some o) : St C B F' L m σ s :=
  have z : ∀ b, F b = none → F' b = none := fun b e => by
    cases q : F' b with
    | none => rfl
    | some o => rw [h b o q] at e; cases e
  { keep := S.keep, keepF := fun b o e => S.keepF b o (h b o e), ns := S.ns, own := S.own, bL := S.bL, fL := z _ S.fL, bσ := fun p hp => ⟨(S.bσ p hp).1, z _ (S.bσ p hp).2⟩, nd := S.nd, wf := S.wf, os := S.os, gens := S.gens }
theorem St.addAll (S : St C B F L m σ s) (τ : Led) (ho : ∀ p ∈ τ, ∃ o, s.heap.get? p.1 = some o ∧ p.2 o) (hd : (τ.map (·.1)).Nodup) (hf : ∀ p ∈ τ, B p.1 = none ∧ F p.1 = none ∧ p.1 ≠ L ∧ p.1 ∉ σ.map (·.1)) :
    St C B F L m (τ ++ σ) s where
  keep := S.keep
  keepF := S.keepF
  ns := S.ns
  own := fun p hp => (List.mem_append.mp hp).elim (ho p) (S.own p)
  bL := S.bL
  fL := S.fL
  bσ := fun p hp => (List.mem_append.mp hp).elim (fun h => ⟨(hf p h).1, (hf p h).2.1⟩) (S.bσ p)
  nd := by
    rw [List.map_append]
    have hd0 := List.nodup_cons.mp S.nd
    refine List.nodup_cons.mpr ⟨fun q => ?_, List.nodup_append.mpr ⟨hd, hd0.2, fun a ha b hb e => ?_⟩⟩
    · rcases List.mem_append.mp q with q | q
      · obtain ⟨p, hp, e⟩ := List.mem_map.mp q
        exact (hf p hp).2.2.1 e
      · exact hd0.1 q
    · obtain ⟨p, hp, e'⟩ := List.mem_map.mp ha
      exact (hf p hp).2.2.2 (by rw [e', e]; exact hb)
  wf := S.wf
  os := S.os
  gens := S.gens
end St
end Mine
end
end
section
open PySem PySem.W PyProof.Rows
set_option Elab.async false
noncomputable section
namespace Mine
theorem wp_if_pos {α : Type} {M : Model} {A : Around} {c : Prop} [hD : Decidable c] {a b : Sem α} {Q : α → Shared → Prop} {E : Value → Shared → Prop} {s : Shared} (hc : c) (h : wpAny M A a Q E s) : wpAny M A (ite c a b) Q E s := by rw [if_pos hc]; exact h
theorem wp_if_neg {α : Type} {M : Model} {A : Around} {c : Prop} [hD : Decidable c] {a b : Sem α} {Q : α → Shared → Prop} {E : Value → Shared → Prop} {s : Shared} (hc : ¬ c) (h : wpAny M A b Q E s) : wpAny M A (ite c a b) Q E s := by rw [if_neg hc]; exact h
theorem wp_ite {α : Type} {M : Model} {A : Around} {c : Prop} [hD : Decidable c] {a b : Sem α} {Q : α → Shared → Prop} {E : Value → Shared → Prop} {s : Shared} (ha : c → wpAny M A a Q E s) (hb : ¬ c → wpAny M A b Q E s) : wpAny M A (ite c a b) Q E s := by
  by_cases h : c
  · exact wp_if_pos h (ha h)
  · exact wp_if_neg h (hb h)
end Mine
end
end
section
open PySem PySem.W PySem.Calls PyProof.Rows PySem.Spec
set_option Elab.async false
set_option linter.unusedVariables false
set_option maxRecDepth 100000
noncomputable section
namespace Mine

structure Fm where
  C : Cx
  A : Around
  B : PH
  F : PH
  L : Addr

structure Ok (n : Nat) (A : Around) : Prop where
  hd : A.handled = none
  dp : A.depth + n ≤ 900
  un : A.units + 20 * n ≤ 9000
  fr : A.frames.isSome = true

noncomputable def W {α : Type} (X : Fm) (m : Vars) (σ : Led) (t : Sem α) (Q : α → Vars → Led → Prop) : Prop :=
  ∀ s, St X.C X.B X.F X.L m σ s → wpAny (MM X.C) X.A t (fun a s' => ∃ m' σ', St X.C X.B X.F X.L m' σ' s' ∧ Q a m' σ') (fun _ _ => False) s

section basic
variable {α β : Type} {X : Fm} {m : Vars} {σ : Led}

theorem W.use {t : Sem α} {Q : α → Vars → Led → Prop} (h : W X m σ t Q) {s : Shared} (S : St X.C X.B X.F X.L m σ s) {Q' : α → Shared → Prop} {E : Value → Shared → Prop}
    (hQ : ∀ a m' σ' s', St X.C X.B X.F X.L m' σ' s' → Q a m' σ' → Q' a s') : wpAny (MM X.C) X.A t Q' E s :=
  wpAny_mono (h s S) (fun a s' ⟨m', σ', S', q⟩ => hQ a m' σ' s' S' q) fun _ _ f => f.elim
theorem w_mono {t : Sem α} {Q Q' : α → Vars → Led → Prop} (h : W X m σ t Q) (hQ : ∀ a m' σ', Q a m' σ' → Q' a m' σ') : W X m σ t Q' :=
  fun _ S => h.use S fun _ m' σ' _ S' q => ⟨m', σ', S', hQ _ _ _ q⟩
theorem w_bind {t : Sem α} {f : α → Sem β} {Q : β → Vars → Led → Prop} (h : W X m σ t (fun a m' σ' => W X m' σ' (f a) Q)) : W X m σ (t >>= f) Q :=
  fun _ S => wpAny_bind (h.use S fun _ _ _ s' S' q => q s' S')
theorem w_pure {a : α} {Q : α → Vars → Led → Prop} (h : Q a m σ) : W X m σ (pure a) Q := fun _ S => wpAny_pure ⟨m, σ, S, h⟩
theorem w_perm {t : Sem α} {Q : α → Vars → Led → Prop} {σ' : Led} (hp : σ.Perm σ') (h : W X m σ' t Q) : W X m σ t Q := fun s S => h s (S.perm hp)
theorem w_keep {t : Sem α} {Q : α → Vars → Led → Prop} {σ' : Led} (hp : σ'.Sublist σ) (h : W X m σ' t Q) : W X m σ t Q := fun s S => h s (S.sub hp)
theorem w_gen {t : Sem α} {Q : α → Vars → Led → Prop} (h : ∀ Q' : α → Vars → Led → Prop, (∀ a m' σ', Q a m' σ' → Q' a m' σ') → W X m σ t Q') : W X m σ t Q := h Q fun _ _ _ q => q
end basic

section stmts
variable {X : Fm} {m : Vars} {σ : Led} {env : Env} {pos : Pos}

theorem w_execs_nil {Q : Flow → Vars → Led → Prop} (h : Q .next m σ) : W X m σ (execs [] env) Q := fun _ S => wpAny_execs_nil ⟨m, σ, S, h⟩
theorem w_execs_cons {st : Stmt} {rest : List Stmt} {Q : Flow → Vars → Led → Prop}
    (h : W X m σ (exec st env) (fun f m' σ' => match f with | .next => W X m' σ' (execs rest env) Q | f => Q f m' σ')) : W X m σ (execs (st :: rest) env) Q :=
  fun _ S => wpAny_execs_cons (h.use S fun f m' σ' s' S' q => by
    cases f with
    | next => exact q s' S'
    | brk => exact ⟨m', σ', S', q⟩
    | cont => exact ⟨m', σ', S', q⟩
    | ret v => exact ⟨m', σ', S', q⟩)
theorem w_return {e : Expr} {Q : Flow → Vars → Led → Prop} (h : W X m σ (eval e env) (fun v => Q (.ret v))) : W X m σ (exec (.Return (some e) pos) env) Q :=
  fun s S => wpAny_Return_some (h s S)
theorem w_store_local {x : Str} {v : Value} {Q : Unit → Vars → Led → Prop} (h : Q () (upd m x v) σ) (hL : autoParam (env.locals = X.L) Mine.dfl0._auto_1)
    (hl : autoParam (env.kindOf x = some .local) Mine.dfl0._auto_1) (hp : autoParam ((env.scope.kind == .class || (env.scope.kind == .module && env.locals != env.globals)) = false) Mine.dfl0._auto_1) : W X m σ (storeName env x v) Q :=
  fun s S => wpAny_storeName_local hl (hL ▸ S.ns) (fun h' hn hs => ⟨_, σ, S.setL (hL ▸ hn) (hL ▸ hs), h⟩) hp
theorem w_store_localK {x : Str} {v : Value} {Q0 Q : Flow → Vars → Led → Prop} (k : ∀ a m' σ', Q0 a m' σ' → Q a m' σ') (h : Q0 .next (upd m x v) σ) (hL : autoParam (env.locals = X.L) Mine.dfl0._auto_1)
    (hl : autoParam (env.kindOf x = some .local) Mine.dfl0._auto_1) (hp : autoParam ((env.scope.kind == .class || (env.scope.kind == .module && env.locals != env.globals)) = false) Mine.dfl0._auto_1) : W X m σ (storeName env x v) (fun _ => Q .next) :=
  w_store_local (k _ _ _ h) hL hl hp
theorem w_assign_name {x : Str} {e : Expr} {p : Pos} {Q : Flow → Vars → Led → Prop} (h : W X m σ (eval e env) (fun v m' σ' => W X m' σ' (storeName env x v) (fun _ => Q .next)))
    (hs : autoParam (swapsWith e (some (.Name x p)) pos.line env = pure false) Mine.dfl0._auto_1) : W X m σ (exec (.Assign [.Name x p] e pos) env) Q :=
  fun _ S => wpAny_Assign_Name (h.use S fun _ _ _ s' S' q => q s' S') hs
theorem w_aug_name {x : Str} {e : Expr} {op : Operator} {p : Pos} {Q : Flow → Vars → Led → Prop}
    (h : W X m σ (loadName env x) (fun o m' σ' => W X m' σ' (eval e env) (fun v m' σ' => W X m' σ' (inplaceOp op o v) (fun r m' σ' => W X m' σ' (storeName env x r) (fun _ => Q .next))))) :
    W X m σ (exec (.AugAssign (.Name x p) op e pos) env) Q :=
  fun _ S => wpAny_AugAssign_Name (h.use S fun _ _ _ s' S' q => q.use S' fun _ _ _ s' S' q => q.use S' fun _ _ _ s' S' q => q s' S')
theorem w_if {t : Expr} {b o : List Stmt} {Q : Flow → Vars → Led → Prop} (h : W X m σ (isTrue t env (eval t env)) (fun c m' σ' => if c then W X m' σ' (execs b env) Q else W X m' σ' (execs o env) Q)) :
    W X m σ (exec (.If t b o pos) env) Q :=
  fun _ S => wpAny_If (h.use S fun c _ _ s' S' q => by cases c <;> exact q s' S')
theorem w_expr {e : Expr} {Q : Flow → Vars → Led → Prop} (h : W X m σ (eval e env) (fun v m' σ' => (∀ a, v ≠ .ref a) ∧ Q .next m' σ')) (hi : autoParam (interactive env = false) Mine.dfl0._auto_1)
    (hs : autoParam (swapsWith e none pos.line env = pure false) Mine.dfl0._auto_1) : W X m σ (exec (.Expr e pos) env) Q :=
  fun _ S => wpAny_Expr (h.use S fun v m' σ' s' S' q => by cases v <;> first | exact ⟨m', σ', S', q.2⟩ | exact (q.1 _ rfl).elim) hi hs
end stmts

section exprs
variable {X : Fm} {m : Vars} {σ : Led} {env : Env} {pos : Pos} {Q : Value → Vars → Led → Prop}

theorem w_local {x : Str} {v : Value} (hv : m x = some v) (h : Q v m σ) (hL : autoParam (env.locals = X.L) Mine.dfl0._auto_1) (hk : autoParam (env.scope.kind = .function) Mine.dfl0._auto_1)
    (hl : autoParam (env.kindOf x = some .local) Mine.dfl0._auto_1) (hd : autoParam ((x == ("__debug__" : Str)) = false) Mine.dfl1._auto_1) : W X m σ (eval (.Name x pos) env) Q :=
  fun s S => wpAny_Name (wpAny_loadName_local hk hl (hL ▸ S.ns) hv ⟨m, σ, S, h⟩) hd
theorem w_load_local {x : Str} {v : Value} (hv : m x = some v) (h : Q v m σ) (hL : autoParam (env.locals = X.L) Mine.dfl0._auto_1) (hk : autoParam (env.scope.kind = .function) Mine.dfl0._auto_1)
    (hl : autoParam (env.kindOf x = some .local) Mine.dfl0._auto_1) : W X m σ (loadName env x) Q :=
  fun s S => wpAny_loadName_local hk hl (hL ▸ S.ns) hv ⟨m, σ, S, h⟩
noncomputable def isCell (v : Value) : HP := fun o => o.data = .cell (some v)
theorem w_cell {x : Str} {v : Value} {c : Addr} (hv : Kn X.B σ c (isCell v)) (h : Q v m σ) (hc : autoParam (env.cells.lookup x = some c) Mine.dfl0._auto_1) (hk : autoParam (env.scope.kind = .function) Mine.dfl0._auto_1)
    (hl : autoParam (env.kindOf x = some .cell) Mine.dfl0._auto_1) (hd : autoParam ((x == ("__debug__" : Str)) = false) Mine.dfl1._auto_1) : W X m σ (eval (.Name x pos) env) Q :=
  fun s S => wpAny_Name (wpAny_loadName_cell hk hl hc (S.kn hv) ⟨m, σ, S, h⟩) hd
theorem w_global {x : Str} {v : Value} (e : nsIn (KK X.C.w) mainGlobals x = some (some v)) (h : Q v m σ) (hg : autoParam (env.globals = mainGlobals) Mine.dfl0._auto_1) (hk : autoParam (env.scope.kind = .function) Mine.dfl0._auto_1)
    (hx : autoParam (env.kindOf x = some .globalImplicit) Mine.dfl0._auto_1) (hd : autoParam ((x == ("__debug__" : Str)) = false) Mine.dfl1._auto_1) : W X m σ (eval (.Name x pos) env) Q :=
  fun s S => Name_function_global hk hx (loadGlobal_global (by rw [hg]; exact S.world.t.g) (mg_of S.world.k S.world.t.g e) ⟨m, σ, S, h⟩) hd
theorem w_builtin {x : Str} {v : Value} (e : nsIn (KK X.C.w) mainGlobals x = some none) (hv : bootBuiltins x = some v) (h : Q v m σ) (hn : autoParam (x ≠ "__name__") Mine.dfl1._auto_1) (hg : autoParam (env.globals = mainGlobals) Mine.dfl0._auto_1)
    (hb : autoParam (env.builtins = builtinsNs) Mine.dfl0._auto_1) (hk : autoParam (env.scope.kind = .function) Mine.dfl0._auto_1)
    (hx : autoParam (env.kindOf x = some .globalImplicit) Mine.dfl0._auto_1) (hd : autoParam ((x == ("__debug__" : Str)) = false) Mine.dfl1._auto_1) : W X m σ (eval (.Name x pos) env) Q :=
  fun s S => Name_function_global hk hx (loadGlobal_builtin (by rw [hg]; exact S.world.t.g) (mg_none_of S.world.k S.world.t.g e) (by rw [hb]; exact S.world.t.b) ((S.world.t.builtins x hn).trans hv) ⟨m, σ, S, h⟩) hd

theorem w_int {i : Int} {k : Nat} (h : ∀ t, Q (.int i t) m σ) : W X m σ (eval (.Constant (.int i) k pos) env) Q := fun s S => wpAny_Constant_int ⟨m, σ, S.toks, h _⟩
theorem w_str {x : Str} {k : Nat} (h : ∀ t, Q (.str x t) m σ) : W X m σ (eval (.Constant (.str x) k pos) env) Q := fun s S => Calls.Constant_str ⟨m, σ, S.toks, h _⟩
theorem w_binop {l r : Expr} {op : Operator} (h : W X m σ (eval l env) (fun a m' σ' => W X m' σ' (eval r env) (fun b m' σ' => W X m' σ' (binaryOp op a b) Q))) : W X m σ (eval (.BinOp l op r pos) env) Q :=
  fun _ S => wpAny_BinOp (h.use S fun _ _ _ s' S' q => q.use S' fun _ _ _ s' S' q => q s' S')
theorem w_compare {l r : Expr} {op : CmpOp} (h : W X m σ (eval l env) (fun a m' σ' => W X m' σ' (eval r env) (fun b m' σ' => W X m' σ' (compareOp op a b) Q)))
    (hm : autoParam (behindInMarks op r = false) Mine.dfl0._auto_1) : W X m σ (eval (.Compare l [op] [r] pos) env) Q :=
  fun _ S => wpAny_Compare1 (h.use S fun _ _ _ s' S' q => q.use S' fun _ _ _ s' S' q => q s' S') hm
theorem w_true_compare {l r : Expr} {op : CmpOp} {whole : Sem Value} {Q : Bool → Vars → Led → Prop}
    (h : W X m σ (eval l env) (fun a m' σ' => W X m' σ' (eval r env) (fun b m' σ' => W X m' σ' (compareOp op a b) (fun c m' σ' => W X m' σ' (truthy c) Q))))
    (hm : autoParam (behindInMarks op r = false) Mine.dfl0._auto_1) : W X m σ (isTrue (.Compare l [op] [r] pos) env whole) Q :=
  fun _ S => wpAny_isTrue_Compare1 (h.use S fun _ _ _ s' S' q => q.use S' fun _ _ _ s' S' q => q.use S' fun _ _ _ s' S' q => q s' S') hm
theorem w_truthy_bool {b : Bool} {Q : Bool → Vars → Led → Prop} (h : Q b m σ) : W X m σ (truthy (.bool b)) Q := fun _ S => wpAny_truthy_bool ⟨m, σ, S, h⟩

theorem w_Call {func : Expr} {args : List Expr}
    (h : W X m σ (eval func env) (fun f m' σ' => W X m' σ' (callWith pos f [] (backTo pos (starEach args env)) []) Q))
    (he : autoParam (eval (.Call func args [] pos) env = (do callWith pos (← eval func env) [] (backTo pos (starEach args env)) (backToKw pos (keywordEach [] env)))) Mine.dfl0._auto_1) :
    W X m σ (eval (.Call func args [] pos) env) Q := fun _ S => Call_ (h.use S fun _ _ _ s' S' q => q s' S') he
theorem w_args_nil {Q : List Value → Vars → Led → Prop} (h : Q [] m σ) : W X m σ (spliced (backTo pos (starEach [] env))) Q := fun _ S => args_nil ⟨m, σ, S, h⟩
theorem w_args_cons {e : Expr} {rest : List Expr} {Q : List Value → Vars → Led → Prop}
    (h : W X m σ (eval e env) (fun v m' σ' => W X m' σ' (spliced (backTo pos (starEach rest env))) (fun vs => Q (v :: vs))))
    (he : autoParam (starEach (e :: rest) env = (false, eval e env) :: starEach rest env) Mine.dfl0._auto_1) : W X m σ (spliced (backTo pos (starEach (e :: rest) env))) Q :=
  fun _ S => args_cons (h.use S fun _ _ _ s' S' q => q s' S') he

theorem w_cwm_builtin {id : String} {e : Expr} {rest : List Expr} {first : List Value} (h : W X m σ (spliced (backTo pos (starEach (e :: rest) env))) (fun vs m' σ' => W X m' σ' (call (.builtin id) (first ++ vs)) Q))
    (he : autoParam (starEach (e :: rest) env = (false, eval e env) :: starEach rest env) Mine.dfl0._auto_1) (hplain : autoParam ((backTo pos (starEach rest env)).any (·.1) = false) Mine.dfl0._auto_1) :
    W X m σ (callWith pos (.builtin id) first (backTo pos (starEach (e :: rest) env)) []) Q := fun _ S => by
  have h' := h.use S (Q' := fun vs s' => wpAny (MM X.C) X.A (call (.builtin id) (first ++ vs)) (fun a s' => ∃ m' σ', St X.C X.B X.F X.L m' σ' s' ∧ Q a m' σ') (fun _ _ => False) s') (E := fun _ _ => False) fun _ _ _ s' S' q => q s' S'
  rw [he] at h' ⊢
  exact Calls.callWith_builtin (by show (false || (backTo pos (starEach rest env)).any (·.1)) = false; rw [hplain]; rfl) (evalArgs_plain h')
theorem w_cw_builtin {id : String} {e : Expr} {rest : List Expr} (h : W X m σ (spliced (backTo pos (starEach (e :: rest) env))) (fun vs m' σ' => W X m' σ' (call (.builtin id) vs) Q))
    (he : autoParam (starEach (e :: rest) env = (false, eval e env) :: starEach rest env) Mine.dfl0._auto_1) (hplain : autoParam ((backTo pos (starEach rest env)).any (·.1) = false) Mine.dfl0._auto_1) :
    W X m σ (callWith pos (.builtin id) [] (backTo pos (starEach (e :: rest) env)) []) Q := w_cwm_builtin h he hplain
theorem w_cw_type {T : String} {e : Expr} {rest : List Expr} (h : W X m σ (spliced (backTo pos (starEach (e :: rest) env))) (fun vs m' σ' => W X m' σ' (call (.type T) vs) Q))
    (he : autoParam (starEach (e :: rest) env = (false, eval e env) :: starEach rest env) Mine.dfl0._auto_1) (hplain : autoParam ((backTo pos (starEach rest env)).any (·.1) = false) Mine.dfl0._auto_1) :
    W X m σ (callWith pos (.type T) [] (backTo pos (starEach (e :: rest) env)) []) Q :=
  fun _ S => PyProof.Rows.callWith_type1 (h.use S fun _ _ _ s' S' q => q s' S') he hplain
theorem w_cwm_K {f : Value} {e : Expr} {rest : List Expr} {first : List Value} (hk : keepIn (KK X.C.w) f = true) (h : W X m σ (spliced (backTo pos (starEach (e :: rest) env))) (fun vs m' σ' => W X m' σ' (call f (first ++ vs)) Q))
    (he : autoParam (starEach (e :: rest) env = (false, eval e env) :: starEach rest env) Mine.dfl0._auto_1) (hplain : autoParam ((backTo pos (starEach rest env)).any (·.1) = false) Mine.dfl0._auto_1) :
    W X m σ (callWith pos f first (backTo pos (starEach (e :: rest) env)) []) Q :=
  fun _ S => callWith_K (h₀ := _) S.world.k hk (h.use S fun _ _ _ s' S' q => ⟨S'.world.k, q s' S'⟩) he hplain
theorem w_cwm_K0 {f : Value} {first : List Value} (hk : keepIn (KK X.C.w) f = true) (h : W X m σ (call f (first ++ [])) Q) : W X m σ (callWith pos f first (backTo pos (starEach [] env)) []) Q :=
  fun s S => callWith_K0 S.world.k hk (h s S)
theorem w_cw_K {f : Value} {e : Expr} {rest : List Expr} (hk : keepIn (KK X.C.w) f = true) (h : W X m σ (spliced (backTo pos (starEach (e :: rest) env))) (fun vs m' σ' => W X m' σ' (call f vs) Q))
    (he : autoParam (starEach (e :: rest) env = (false, eval e env) :: starEach rest env) Mine.dfl0._auto_1) (hplain : autoParam ((backTo pos (starEach rest env)).any (·.1) = false) Mine.dfl0._auto_1) :
    W X m σ (callWith pos f [] (backTo pos (starEach (e :: rest) env)) []) Q := w_cwm_K hk h he hplain
end exprs

theorem w_def {X : Fm} {m : Vars} {σ₁ σ₂ : Led} {Q : Value → Vars → Led → Prop} {f : Addr} {pos : List Value} {kw : List (Str × Value)} {name qual : Str} {params : Arguments} {body : List Stmt} {scope : Scope} {cl : List (Str × Addr)}
    {dV kV doc pm cdv ct oc : Value} {an od : Option Addr} {osl : Array (Option Value)} {binds : List (Str × Value)} {n : Nat}
    (ho : (KK X.C.w).lookup f = some ⟨oc, od, .func (fnX name qual params body scope cl dV kV doc pm an cdv ct), osl⟩) (hcd : codeIn (KK X.C.w) cdv qual = true)
    (hA : Ok (n + 1) X.A) (hbind : ∀ h, (KK X.C.w).In h → ∀ s : Shared, s.heap = h → BindsTo s (fnX name qual params body scope cl dV kV doc pm an cdv ct) ⟨pos, kw⟩ binds)
    (hloc : (binds.all fun x => scope.names.lookup x.1 == some .local) = true) (hcell : (scope.names.all fun x => x.2 != .cell) = true)
    (h : ∀ X' : Fm, X'.C = X.C → (∀ a P, Kn X.B σ₂ a P → BI X'.B a P) → Ok n X'.A → X'.A = X.A.deeper (envX qual scope X'.L f cdv cl) →
      W X' (fun y => binds.reverse.lookup y) σ₁ (execs body (envX qual scope X'.L f cdv cl)) (fun fl _ σ' => Q (match fl with | .ret v => v | _ => .none) m (σ' ++ σ₂)))
    (hco : autoParam (scope.isCoroutine = false) Mine.dfl0._auto_1) (hgen : autoParam (scope.isGenerator = false) Mine.dfl0._auto_1) (hk : autoParam (scope.kind = .function) Mine.dfl0._auto_1) :
    W X m (σ₁ ++ σ₂) (call (.ref f) pos kw) Q := fun s S => by
  refine wpAny_call (codeAny_call_def (fd := fnX name qual params body scope cl dV kV doc pm an cdv ct) (body := body) (binds := binds) (Nat.lt_of_lt_of_le (by have := hA.dp; (first | lia | omega) : X.A.depth < 900) (by decide)) (S.world.k _ _ ho) rfl S.world.t.nolimit (codeRec_of S.world.k hcd) rfl
    (hbind _ S.world.k s rfl) (fun x hx => by simpa using List.all_eq_true.mp hcell x hx) (fun x hx => by simpa using List.all_eq_true.mp hloc x hx) (fun h₁ hns hk₁ => ?_) hco hgen hk)
  obtain ⟨B', oh⟩ := S.frame; refine and4 oh fun hB hkn S₁ back => ?_; clear oh
  obtain ⟨F', oh⟩ := S₁.hideL (get_size_none _) hns hk₁ (t := s.toks + binds.length); refine and4 oh fun hF _ S₂ back2 => ?_; clear oh
  have ok : Ok n (X.A.deeper (envX qual scope s.heap.objs.size f cdv cl)) := ⟨hA.hd, by have := hA.dp; show X.A.depth + 1 + n ≤ 900; (first | lia | omega), by have := hA.un; show X.A.units + 3 + 20 * n ≤ 9000; (first | lia | omega), by
    have := hA.fr
    show (X.A.frames.map _).isSome = true
    rw [Option.isSome_map]; exact this⟩
  exact (h ⟨X.C, X.A.deeper (envX qual scope s.heap.objs.size f cdv cl), B', F', s.heap.objs.size⟩ rfl hkn ok rfl).use S₂ fun fl m' σ' s' S' q => ⟨m, _, back _ _ _ (back2 _ _ _ S'), q⟩

end Mine
end
end
section
open PySem PySem.W PySem.Calls PyProof.Rows PySem.Spec
set_option Elab.async false
set_option linter.unusedVariables false
set_option maxRecDepth 100000
noncomputable section
namespace Mine
section
variable {X : Fm} {m : Vars} {σ : Led} {a b : Int} {t u : Tok} {Q : Value → Vars → Led → Prop}
theorem w_add (h : ∀ t, Q (.int (a + b) t) m σ) : W X m σ (binaryOp .Add (.int a t) (.int b u)) Q := fun s S => P.add_int ⟨m, σ, S.toks, h _⟩
theorem w_sub (h : ∀ t, Q (.int (a - b) t) m σ) : W X m σ (binaryOp .Sub (.int a t) (.int b u)) Q := fun s S => P.sub_int ⟨m, σ, S.toks, h _⟩
theorem mulOk_small {a b : Int} (ha : a.natAbs < 2 ^ 64) : IntMulOk a b := IntMulOk.of_left (intBits_le_64 (by (first | lia | omega)) (by (first | lia | omega)))
theorem w_mul (hm : IntMulOk a b) (h : ∀ t, Q (.int (a * b) t) m σ) : W X m σ (binaryOp .Mult (.int a t) (.int b u)) Q := fun s S => P.mul_int ⟨m, σ, S.toks, h _⟩ hm
theorem w_mod (hb : b ≠ 0) (h : ∀ t, Q (.int (a.fmod b) t) m σ) : W X m σ (binaryOp .Mod (.int a t) (.int b u)) Q := fun s S => PyProof.Rows.mod_int' hb ⟨m, σ, S.toks, h _⟩
theorem w_div (hb : b ≠ 0) (hs : b.natAbs < 1073741824) (h : ∀ t, Q (.int (a.fdiv b) t) m σ) : W X m σ (binaryOp .FloorDiv (.int a t) (.int b u)) Q :=
  fun s S => PyProof.Rows.floordiv_int hb ⟨m, σ, S.toks, h _⟩ (Or.inl (PyProof.noPylong_small hs))
theorem w_pow (hn : 0 ≤ b) (hn2 : b ≤ 1000000) (ha : a.natAbs < 2 ^ 64) (h : ∀ t, Q (.int (a ^ b.toNat) t) m σ) : W X m σ (binaryOp .Pow (.int a t) (.int b u)) Q :=
  fun s S => PyProof.Rows.pow_int_small hn hn2 ha ⟨m, σ, S.toks, h _⟩
theorem w_iadd (h : ∀ t, Q (.int (a + b) t) m σ) : W X m σ (inplaceOp .Add (.int a t) (.int b u)) Q := fun s S => P.iadd_int ⟨m, σ, S.toks, h _⟩
theorem w_imul (hm : IntMulOk a b) (h : ∀ t, Q (.int (a * b) t) m σ) : W X m σ (inplaceOp .Mult (.int a t) (.int b u)) Q := fun s S => P.imul_int ⟨m, σ, S.toks, h _⟩ hm
theorem w_lt (h : Q (.bool (decide (a < b))) m σ) : W X m σ (compareOp .Lt (.int a t) (.int b u)) Q := fun s S => P.lt_int ⟨m, σ, S, h⟩
theorem w_gt (h : Q (.bool (decide (a > b))) m σ) : W X m σ (compareOp .Gt (.int a t) (.int b u)) Q := fun s S => P.gt_int ⟨m, σ, S, h⟩
theorem w_eq (h : Q (.bool (a == b)) m σ) : W X m σ (compareOp .Eq (.int a t) (.int b u)) Q := fun s S => P.eq_int ⟨m, σ, S, h⟩
theorem w_ne (h : Q (.bool (a != b)) m σ) : W X m σ (compareOp .NotEq (.int a t) (.int b u)) Q := fun s S => P.ne_int ⟨m, σ, S, h⟩
theorem w_neg_int (h : ∀ t, Q (.int (-a) t) m σ) : W X m σ (unaryOp .USub (.int a t)) Q := fun s S => P.neg_int ⟨m, σ, S.toks, h _⟩
theorem w_chr {i : Int} (h0 : 0 ≤ i) (h1 : i ≤ 1114111) (h : ∀ t, Q (.str ⟨#[i.toNat]⟩ t) m σ) : W X m σ (call (.builtin "chr") [.int i u]) Q := fun s S => chr_of_range h0 h1 ⟨m, σ, S.toks, h _⟩
end

section
variable {X : Fm} {m : Vars} {σ : Led} {x y : Str} {t u : Tok} {Q : Value → Vars → Led → Prop}
theorem w_sadd (hsz : x.length + y.length ≤ sizeLine) (h : ∀ t, Q (.str (x ++ y) t) m σ) : W X m σ (binaryOp .Add (.str x t) (.str y u)) Q := fun s S => SBL.add (fun _ _ _ => ⟨m, σ, S.toks, h _⟩) hsz
theorem w_smul {n : Int} (hok : MulOk x n) (h : ∀ t, Q (.str (Txt.mul x n) t) m σ) : W X m σ (binaryOp .Mult (.str x t) (.int n u)) Q := fun s S => SB.mul hok fun _ _ => ⟨m, σ, S.toks, h _⟩
theorem w_smul' {n : Int} (hx : x.length ≤ 1000) (h0 : 0 ≤ n) (hn : n ≤ 1000) (h : ∀ t, Q (.str (Txt.mul x n) t) m σ) : W X m σ (binaryOp .Mult (.str x t) (.int n u)) Q :=
  w_smul (mulOk_of 1000 1000 (by (first | lia | omega)) (by (first | lia | omega)) (by (first | lia | omega)) (by decide) (by decide)) h
theorem w_sne (h : Q (.bool (x != y)) m σ) : W X m σ (compareOp .NotEq (.str x t) (.str y u)) Q := fun s S => PyProof.Rows.ne_str ⟨m, σ, S, h⟩
end

theorem n0 (k : Nat) : (0 : Int) ≤ (k : Int) := Int.natCast_nonneg k
theorem f5 {k : Nat} (h : k < 5) : (k : Int) < 2 ^ 63 := by (first | lia | omega)
theorem a3 {w : Int} (h1 : 1 ≤ w) (h3 : w ≤ 3) : w.natAbs < 2 ^ 64 := by (first | lia | omega)
theorem b26 {n : Nat} (h : n ≤ 26) : n ≤ 16777216 := by (first | lia | omega)
theorem a26 {n : Nat} (h : n ≤ 26) : (n : Int).natAbs < 2 ^ 64 := by (first | lia | omega)
theorem foldl_append_toList : ∀ (l : List (Array Nat)) (a : Array Nat), (l.foldl (· ++ ·) a).toList = a.toList ++ (l.map (·.toList)).flatten
  | [], a => by simp
  | b :: l, a => by rw [List.foldl_cons, foldl_append_toList l]; simp
theorem mul_toList (x : Str) (n : Int) : (Txt.mul x n).cps.toList = (List.replicate n.toNat x.cps.toList).flatten := by
  unfold Txt.mul
  split
  · have : n.toNat = 0 := by (first | lia | omega)
    rw [this]; rfl
  · split
    · rename_i h1 h2
      rcases Bool.or_eq_true _ _ ▸ h2 with h | h
      · have : n = 1 := by simpa using h
        subst this; simp
      · have : x.cps = #[] := by
          have hz : x.length = 0 := by simpa using h
          exact Array.eq_empty_of_size_eq_zero hz
        rw [this]; simp
    · rw [foldl_append_toList]; simp
theorem str_add_toList (x y : Str) : (x ++ y).cps.toList = x.cps.toList ++ y.cps.toList := by
  first | rfl | simp [Str.cps_append] | (show (x.cps ++ y.cps).toList = _; simp)
theorem str_length (x : Str) : x.length = x.cps.toList.length := by
  first | rfl | simp [Str.length]
theorem mul_length (x : Str) {n : Int} (h : 0 ≤ n) : (Txt.mul x n).length = n.toNat * x.length := by
  rw [str_length, mul_toList, str_length]; simp
end Mine
end
end
section
open PySem PySem.W PySem.Calls PyProof.Rows PySem.Spec
set_option Elab.async false
set_option linter.unusedVariables false
set_option maxRecDepth 100000
set_option maxHeartbeats 400000
noncomputable section
namespace Mine
noncomputable def asSent (k x : Int) : Str := Txt.mul (Str.ofString "..\r\n") (1 + x.fmod 3) ++ Txt.mul ⟨#[(97 + k).toNat]⟩ (1 + (x.fdiv 3).fmod 12) ++ Str.ofString "\r\n"
theorem fmod_bd (x : Int) {n : Int} (hn : 0 < n) : 0 ≤ x.fmod n ∧ x.fmod n < n := by
  rw [Int.fmod_eq_emod_of_nonneg _ (by first | decide | (with_reducible first | exact n0 _ | exact f5 (by assumption) | exact a3 (by assumption) (by assumption) | exact b26 (by assumption) | exact a26 (by assumption)) | omega)]
  exact ⟨Int.emod_nonneg _ (by first | decide | (with_reducible first | exact n0 _ | exact f5 (by assumption) | exact a3 (by assumption) (by assumption) | exact b26 (by assumption) | exact a26 (by assumption)) | omega), Int.emod_lt_of_pos _ hn⟩
set_option pp.deepTerms false in
set_option pp.maxSteps 500 in
theorem as_sent_spec {X : Fm} {m : Vars} {σ : Led} {Q : Value → Vars → Led → Prop} (hA : Ok 2 X.A) {k x : Int} {tk tx : Tok} (h0 : 0 ≤ k) (h1 : k < 5) (hx : 0 ≤ x) (h : ∀ t, Q (.str (asSent k x) t) m σ) :
    W X m σ (call (.ref 222) [.int k tk, .int x tx]) Q := by
  refine w_def (σ₁ := []) (σ₂ := σ) (n := 1) (binds := [("k", .int k tk), ("x", .int x tx)]) rfl rfl hA (fun _ _ s _ => BindsTo.of_eq rfl) rfl rfl ?_
  intro X' hC hK hA' _
  have h3 := fmod_bd x (n := 3) (by decide)
  have h12 := fmod_bd (x.fdiv 3) (n := 12) (by decide)
  have l1 : (Str.ofString "..\r\n").length = 4 := by decide
  have l2 : (Str.ofString "\r\n").length = 2 := by decide
  have l3 : (⟨#[(97 + k).toNat]⟩ : Str).length = 1 := rfl
  have m1 := mul_length (Str.ofString "..\r\n") (n := 1 + x.fmod 3) (by first | decide | (with_reducible first | exact n0 _ | exact f5 (by assumption) | exact a3 (by assumption) (by assumption) | exact b26 (by assumption) | exact a26 (by assumption)) | omega)
  have m2 := mul_length ⟨#[(97 + k).toNat]⟩ (n := 1 + (x.fdiv 3).fmod 12) (by first | decide | (with_reducible first | exact n0 _ | exact f5 (by assumption) | exact a3 (by assumption) (by assumption) | exact b26 (by assumption) | exact a26 (by assumption)) | omega)
  repeat' (first | (with_reducible first | refine w_execs_cons ?_ | refine w_return ?_ | refine w_binop ?_ | refine w_Call ?_ | refine w_int (fun _ => ?_) | refine w_str (fun _ => ?_) | refine w_cw_builtin ?_ | refine w_args_nil ?_ | refine w_args_cons ?_ | refine w_add (fun _ => ?_) | refine w_sub (fun _ => ?_) | refine w_mod (by k_dflt decide) (fun _ => ?_) | refine w_div (by k_dflt decide) (by k_dflt decide) (fun _ => ?_)) | (with_reducible refine w_local (by k_dflt rfl) ?_) | (with_reducible refine w_builtin (by k_dflt rfl) (by k_dflt boot_fast) ?_) | with_reducible refine w_smul' ?_ (by first | decide | (with_reducible first | exact n0 _ | exact f5 (by assumption) | exact a3 (by assumption) (by assumption) | exact b26 (by assumption) | exact a26 (by assumption)) | omega) (by first | decide | (with_reducible first | exact n0 _ | exact f5 (by assumption) | exact a3 (by assumption) (by assumption) | exact b26 (by assumption) | exact a26 (by assumption)) | omega) (fun _ => ?_) | with_reducible refine w_sadd ?_ (fun _ => ?_) | with_reducible refine w_chr (by first | decide | (with_reducible first | exact n0 _ | exact f5 (by assumption) | exact a3 (by assumption) (by assumption) | exact b26 (by assumption) | exact a26 (by assumption)) | omega) (by first | decide | (with_reducible first | exact n0 _ | exact f5 (by assumption) | exact a3 (by assumption) (by assumption) | exact b26 (by assumption) | exact a26 (by assumption)) | omega) (fun _ => ?_))
  all_goals (try rw [l1] at m1); (try rw [l3] at m2)
  all_goals first | exact h _ | (simp only [Str.length_append, sizeLine_eq, l1, l2, l3, m1, m2]; omega)
end Mine
end
end
section
open PySem PySem.W PySem.Calls PyProof.Rows PySem.Spec
set_option Elab.async false
set_option linter.unusedVariables false
set_option maxRecDepth 100000
noncomputable section
namespace Mine

noncomputable def isList (vs : List Value) : HP := fun o => ∃ n, o = { cls := .type "list", data := .seq vs.toArray n }
noncomputable def isTup (vs : List Value) : HP := fun o => ∃ n, o = { cls := .type "tuple", data := .seq vs.toArray n }
theorem isList_at {h : Heap} {a : Addr} {vs : List Value} (x : ∃ o, h.get? a = some o ∧ isList vs o) : h.IsList a vs.toArray := by
  obtain ⟨_, e, n, rfl⟩ := x
  exact ⟨_, e, rfl, n, rfl⟩
theorem isTup_at {h : Heap} {a : Addr} {vs : List Value} (x : ∃ o, h.get? a = some o ∧ isTup vs o) : IsTup h a vs.toArray := by
  obtain ⟨_, e, n, rfl⟩ := x
  exact ⟨_, e, rfl, n, rfl⟩

section
variable {X : Fm} {m : Vars} {σ : Led} {env : Env} {pos : Pos} {Q : Value → Vars → Led → Prop}

theorem w_newList {vs : List Value} (hsz : vs.length ≤ sizeLine) (h : ∀ a, Q (.ref a) m ((a, isList vs) :: σ)) : W X m σ (newList vs) Q := fun s S => by
  unfold newList
  exact wpAny_newObj_type ⟨m, _, S.push rfl ⟨0, rfl⟩, h _⟩ (by show vs.toArray.size ≤ sizeLine; rw [List.size_toArray]; exact hsz)
theorem w_newTuple {vs : List Value} (hsz : vs.length ≤ sizeLine) (h : ∀ a, Q (.ref a) m ((a, isTup vs) :: σ)) : W X m σ (newTuple vs) Q := fun s S => by
  unfold newTuple
  exact wpAny_newObj_type ⟨m, _, S.push rfl ⟨0, rfl⟩, h _⟩ (by show vs.toArray.size ≤ sizeLine; rw [List.size_toArray]; exact hsz)
theorem w_List {elts : List Expr} (h : W X m σ (spliced (backTo pos (starEach elts env))) (fun vs m' σ' => W X m' σ' (newList vs) Q)) : W X m σ (eval (.List elts pos) env) Q :=
  fun _ S => List_ (h.use S fun _ _ _ s' S' q => q s' S')
theorem w_Tuple {elts : List Expr} {k : Nat} (h : W X m σ (spliced (backTo pos (starEach elts env))) (fun vs m' σ' => W X m' σ' (newTuple vs) Q)) : W X m σ (eval (.Tuple elts k pos) env) Q :=
  fun _ S => Tuple_ (h.use S fun _ _ _ s' S' q => q s' S')

theorem w_subscript {value slice : Expr} (h : W X m σ (eval value env) (fun o m' σ' => W X m' σ' (eval slice env) (fun i m' σ' => W X m' σ' (subscriptTail value slice o i) Q))) : W X m σ (eval (.Subscript value slice pos) env) Q :=
  fun _ S => Subscript_ (h.use S fun _ _ _ s' S' q => q.use S' fun _ _ _ s' S' q => q s' S')
theorem w_item_list {value slice : Expr} {a : Addr} {vs : List Value} {k : Int} {t : Tok} {v : Value} (hl : Kn X.B σ a (isList vs)) (h0 : 0 ≤ k) (hfit : k < 2 ^ 63) (hx : vs[k.toNat]? = some v) (h : Q v m σ)
    (hs : autoParam (subscripted slice false (.ref a) (.int k t) = operate [.ref a, .int k t] (getItem (.ref a) (.int k t))) Mine.dfl2._auto_1) :
    W X m σ (subscriptTail value slice (.ref a) (.int k t)) Q :=
  fun s S => have L := isList_at (S.kn hl); tail_any L.typeIs slot_list_getitem.lookup (wpAny_getItem_list L h0 hfit (by simpa using hx) ⟨m, σ, S, h⟩) hs
theorem w_getItem_list {a : Addr} {vs : List Value} {k : Int} {t : Tok} {v : Value} (hl : Kn X.B σ a (isList vs)) (h0 : 0 ≤ k) (hfit : k < 2 ^ 63) (hx : vs[k.toNat]? = some v) (h : Q v m σ) : W X m σ (getItem (.ref a) (.int k t)) Q :=
  fun s S => wpAny_getItem_list (isList_at (S.kn hl)) h0 hfit (by simpa using hx) ⟨m, σ, S, h⟩
theorem w_item_tup {value slice : Expr} {a : Addr} {vs : List Value} {k : Int} {t : Tok} {v : Value} {j : Nat} (hl : Kn X.B σ a (isTup vs)) (hlo : -(2 ^ 63) ≤ k) (hhi : k < 2 ^ 63) (hj : seqIndex? k vs.length = some j) (hx : vs[j]? = some v) (h : Q v m σ)
    (hs : autoParam (subscripted slice false (.ref a) (.int k t) = operate [.ref a, .int k t] (getItem (.ref a) (.int k t))) Mine.dfl2._auto_1) :
    W X m σ (subscriptTail value slice (.ref a) (.int k t)) Q :=
  fun s S => have L := isTup_at (S.kn hl); tail_any L.typeIs slot_tuple_getitem.lookup (getItem_tuple L hlo hhi (by simpa using hj) (by simpa using hx) ⟨m, σ, S, h⟩) hs

theorem w_cut_list {value : Expr} {lower upper step : Option Expr} {p : Pos} {a : Addr} {vs : List Value} {lo hi st : Option Int}
    (h : W X m σ (eval value env) (fun o m₁ σ₁ => W X m₁ σ₁ (evalPart lower env) (fun vl m₂ σ₂ => W X m₂ σ₂ (evalPart upper env) (fun vu m₃ σ₃ => W X m₃ σ₃ (evalPart step env) (fun vt m₄ σ₄ =>
      ∃ a vs lo hi st, o = .ref a ∧ Kn X.B σ₄ a (isList vs) ∧ vs.length ≤ sizeLine ∧ IsPart vl lo ∧ IsPart vu hi ∧ IsPart vt st ∧ st ≠ some 0 ∧ ∀ D, Q (.ref D) m₄ ((D, isList (slicePick vs.toArray lo hi st).toList) :: σ₄))))))
    (ht : (∀ (sl o : Value), ∃ ops, subscripted (.Slice lower upper step p) false o sl = operate ops (getItem o sl)) := by intro sl o; first | exact ⟨[sl, o], by with_unfolding_all rfl⟩ | exact ⟨[o, sl], by with_unfolding_all rfl⟩) :
    W X m σ (eval (.Subscript value (.Slice lower upper step p) pos) env) Q := fun s S => by
  refine Subscript_ (h.use S fun o m₁ σ₁ s₁ S₁ q₁ => wpAny_Slice (q₁.use S₁ fun vl m₂ σ₂ s₂ S₂ q₂ => q₂.use S₂ fun vu m₃ σ₃ s₃ S₃ q₃ => q₃.use S₃ fun vt m₄ σ₄ s₄ S₄ q₄ => ?_))
  obtain ⟨a, vs, lo, hi, st, oh⟩ := q₄; refine and8 oh fun oq0 hl hsz pl pu pt h0 hQ => ?_; clear oh; subst oq0
  have Lf := isList_at (S₄.kn hl)
  have L2 := Lf.push ({ cls := .type "slice", data := .fields #[vl, vu, vt] })
  obtain ⟨ops, hs⟩ := ht (.ref s₄.heap.objs.size) (.ref a)
  refine tail_any (s := { s₄ with heap := s₄.heap.push { cls := .type "slice", data := .fields #[vl, vu, vt] } }) L2.typeIs slot_list_getitem.lookup
    (wpAny_getItem_list_slice L2 (Heap.IsSliceOf.new _ vl vu vt) pl pu pt h0 ⟨m₄, _, ?_, hQ _⟩ (by rw [List.size_toArray]; exact hsz)) hs
  have S₅ := S₄.grow (h' := s₄.heap.push { cls := .type "slice", data := .fields #[vl, vu, vt] }) (t := s₄.toks) (g := s₄.gens) (d := s₄.drawn) (fun _ _ e => Heap.get?_push_of_some _ e) S₄.gens
  exact S₅.push (o := { cls := .type "list", data := .seq (slicePick vs.toArray lo hi st) }) rfl ⟨0, by simp⟩
theorem w_part_none {Q : Value → Vars → Led → Prop} (h : Q .none m σ) : W X m σ (evalPart none env) Q := fun s S => by rw [evalPart_none]; exact wpAny_pure ⟨m, σ, S, h⟩
theorem w_part_some {e : Expr} {Q : Value → Vars → Led → Prop} (h : W X m σ (eval e env) Q) : W X m σ (evalPart (some e) env) Q := by rw [evalPart_some]; exact h

theorem w_ladd {a b : Addr} {vs ws : List Value} (ha : Kn X.B σ a (isList vs)) (hb : Kn X.B σ b (isList ws)) (hsz : vs.length + ws.length ≤ sizeLine) (h : ∀ D, Q (.ref D) m ((D, isList (vs ++ ws)) :: σ)) :
    W X m σ (binaryOp .Add (.ref a) (.ref b)) Q := fun s S => by
  obtain ⟨_, ho, n, rfl⟩ := S.kn ha
  obtain ⟨_, ho2, n2, rfl⟩ := S.kn hb
  refine concat_meets ⟨_, ho, rfl⟩ ⟨_, ho2, rfl⟩ noFill_list_add seq_list_add PySem.F.slot_list_add PySem.F.entry_list_add (PySem.F.args_list_add_2 _ _) (list_addW a b vs.toArray ws.toArray n n2 none none #[] #[] (by simpa using hsz)) ⟨ho, ho2, ?_⟩
  rw [show vs.toArray ++ ws.toArray = (vs ++ ws).toArray by simp]
  exact ⟨m, _, S.push rfl ⟨0, rfl⟩, h _⟩

theorem w_len_list {a : Addr} {vs : List Value} (hl : Kn X.B σ a (isList vs)) (hf : (vs.length : Int) < 2 ^ 63) (h : ∀ t, Q (.int vs.length t) m σ) : W X m σ (call (.builtin "len") [.ref a]) Q := fun s S =>
  len_list (isList_at (S.kn hl)) (by simpa using hf) (by rw [List.size_toArray]; exact ⟨m, σ, S.toks, h _⟩)

theorem w_append {a : Addr} {vs : List Value} {x : Value} (hsz : vs.length ≤ sizeLine) (h : Q .none m ((a, isList (vs ++ [x])) :: σ)) : W X m ((a, isList vs) :: σ) (call (.builtin "list.append") [.ref a, x]) Q := fun s S => by
  obtain ⟨_, ho, n, rfl⟩ := S.kn (.inr (.head _))
  exact append_at ho (fun h' hs ho' => ⟨m, _, S.set0 (t := s.toks) ho' ⟨n + 1, by simp⟩ hs, h⟩) (by simpa using hsz)
end
end Mine
end
end
section
open PySem PySem.W PySem.Calls PyProof.Rows PySem.Spec
set_option Elab.async false
set_option linter.unusedVariables false
set_option maxRecDepth 100000
noncomputable section
namespace Mine

section
variable {C : Cx} {B F : PH} {L : Addr} {m : Vars} {σ : Led} {s : Shared}
theorem St.hide {τ : Led} : ∀ {F : PH} {m : Vars} {σ : Led} {s : Shared}, St C B F L m (τ ++ σ) s → ∃ F' : PH, (∀ b o, F b = some o → F' b = some o) ∧ (∀ p ∈ τ, BI F' p.1 p.2) ∧ St C B F' L m σ s ∧
    ∀ m' σ' s', St C B F' L m' σ' s' → St C B F L m' (τ ++ σ') s' := by
  induction τ with
  | nil =>
    intro F m σ s S
    refine ⟨F, fun _ _ e => e, ?_, S, fun _ _ _ x => x⟩
    intro p hp; cases hp
  | cons p τ ih =>
    intro F m σ s S
    obtain ⟨F₁, oh⟩ := St.hide0 (a := p.1) (P := p.2) (σ := τ ++ σ) S; refine and4 oh fun h1 h2 S₁ b1 => ?_; clear oh
    obtain ⟨F₂, oh⟩ := ih S₁; refine and4 oh fun g1 g2 S₂ b2 => ?_; clear oh
    refine ⟨F₂, fun b o e => g1 b o (h1 b o e), ?_, S₂, fun m' σ' s' x => b1 m' _ s' (b2 m' σ' s' x)⟩
    intro q hq
    rcases List.mem_cons.mp hq with rfl | hq
    · obtain ⟨o, e, r⟩ := h2; exact ⟨o, g1 _ _ e, r⟩
    · exact g2 q hq
end

section
variable {α : Type} {X : Fm} {m : Vars} {σ : Led}
noncomputable abbrev Fm.withB (X : Fm) (B : PH) : Fm := ⟨X.C, X.A, B, X.F, X.L⟩
noncomputable abbrev Fm.withF (X : Fm) (F : PH) : Fm := ⟨X.C, X.A, X.B, F, X.L⟩
theorem w_frame {σ₁ σ₂ : Led} {t : Sem α} {Q : α → Vars → Led → Prop}
    (h : ∀ B' : PH, (∀ a P, Kn X.B σ₂ a P → BI B' a P) → W (X.withB B') m σ₁ t (fun v m' σ' => Q v m' (σ' ++ σ₂))) : W X m (σ₁ ++ σ₂) t Q := fun s S => by
  obtain ⟨B', oh⟩ := S.frame; refine and4 oh fun hB hk S₁ back => ?_; clear oh
  exact (h B' hk).use (X := X.withB B') S₁ fun v m' σ' s' S' q => ⟨m', _, back _ _ _ S', q⟩
noncomputable def WC (X : Fm) (m : Vars) (σ : Led) (c : Code) (Q : Flow → Vars → Led → Prop) : Prop :=
  ∀ s, St X.C X.B X.F X.L m σ s → codeAny (MM X.C) X.A c (fun r s' => match r with | .ok f => ∃ m' σ', St X.C X.B X.F X.L m' σ' s' ∧ Q f m' σ' | .error _ => False) s

theorem w_For {target iter : Expr} {body orelse : List Stmt} {env : Env} {pos : Pos} {Q : Flow → Vars → Led → Prop}
    (h : W X m σ (eval iter env) (fun x m₁ σ₁ => W X m₁ σ₁ (pyIter x) (fun it m₂ σ₂ => WC X m₂ σ₂ (.forLoop target it body orelse env) Q)))
    (hs : (∀ x, foldedSetIterable iter env x = pure x) := by intro _; k_dflt rfl) : W X m σ (exec (.For target iter body orelse pos) env) Q :=
  fun s S => wpAny_For (h.use S fun x m₁ σ₁ s₁ S₁ q => q.use S₁ fun it m₂ σ₂ s₂ S₂ q => codeAny_mono (q s₂ S₂) fun r s' hr => by
    cases r with
    | ok f => exact hr
    | error e => exact hr.elim) hs

structure Iter (X : Fm) (target : Expr) (I : Addr) (its : Nat → Led) (n : Nat) (P : Nat → Value → Led → Prop) : Prop where
  item : ∀ (Y : Fm), Y.C = X.C → Y.A = X.A → (∀ a P, BI X.B a P → BI Y.B a P) → ∀ i m σ (R : Value → Vars → Led → Prop), i < n → (∀ v τ, P i v τ → R v m (its (i + 1) ++ (τ ++ σ))) →
    W Y m (its i ++ σ) (pyNext (.ref I)) (fun r m' σ' => ∃ v, r = some v ∧ W Y m' σ' (letOwnedTupleGo target (.ref I) v) (fun _ m'' σ'' => R v m'' σ''))
  self : ∀ (Y : Fm), Y.C = X.C → Y.A = X.A → (∀ a P, BI X.B a P → BI Y.B a P) → ∀ i m σ (R : Value → Vars → Led → Prop), R (.ref I) m (its i ++ σ) → W Y m (its i ++ σ) (pyIter (.ref I)) R
  done : ∀ (Y : Fm), Y.C = X.C → Y.A = X.A → (∀ a P, BI X.B a P → BI Y.B a P) → ∀ m σ (R : Vars → Led → Prop), R m σ → W Y m (its n ++ σ) (pyNext (.ref I)) (fun r m' σ' => r = none ∧ R m' σ')

theorem w_loop {target : Expr} {I : Addr} {its : Nat → Led} {n : Nat} {P : Nat → Value → Led → Prop} {body : List Stmt} {env : Env} {Q : Flow → Vars → Led → Prop} (T : Iter X target I its n P)
    (J : Nat → Vars → Led → Prop) (h0 : J 0 m σ)
    (step : ∀ (F' : PH) i v τ m₁ σ₁, i < n → P i v τ → J i m₁ σ₁ → W (X.withF F') m₁ (τ ++ σ₁) (assign target env v) (fun _ m₂ σ₂ => W (X.withF F') m₂ σ₂ (execs body env)
      (fun fl m₃ σ₃ => match fl with | .next | .cont => J (i + 1) m₃ σ₃ | .brk => Q .next m₃ σ₃ | .ret v => Q (.ret v) m₃ σ₃)))
    (done : ∀ m₁ σ₁, J n m₁ σ₁ → Q .next m₁ σ₁) : WC X m (its 0 ++ σ) (.forLoop target (.ref I) body [] env) Q := fun s S => by
  refine codeAny_forLoop_any (fun k s' => ∃ i m₁ σ₁, k = n - i ∧ i ≤ n ∧ J i m₁ σ₁ ∧ St X.C X.B X.F X.L m₁ (its i ++ σ₁) s') ?_ n ⟨0, m, σ, by (first | lia | omega), Nat.zero_le _, h0, S⟩
  rintro k s' ⟨i, m₁, σ₁, rfl, hi, hJ, S'⟩
  by_cases hlt : i < n
  · refine (T.item X rfl rfl (fun _ _ x => x) i m₁ σ₁ (fun v m' σ' => ∃ τ, P i v τ ∧ m' = m₁ ∧ σ' = its (i + 1) ++ (τ ++ σ₁)) hlt (fun v τ hP => ⟨τ, hP, rfl, rfl⟩)).use S' fun r m' σ' s₁ S₁ q => ?_
    obtain ⟨v, rfl, q⟩ := q
    refine q.use S₁ fun _ m'' σ'' s₂ S₂ q => ?_
    obtain ⟨τ, oh⟩ := q; refine and3 oh fun hP oq1 oq2 => ?_; clear oh; subst oq1; subst oq2
    obtain ⟨F', oh⟩ := S₂.hide; refine and4 oh fun _ _ S₃ back => ?_; clear oh
    refine (step F' i v τ m'' σ₁ hlt hP hJ).use (X := X.withF F') S₃ fun _ m₂ σ₂ s₃ S₄ q => q.use (X := X.withF F') S₄ fun fl m₃ σ₃ s₄ S₅ q => ?_
    cases fl with
    | next => exact ⟨n - (i + 1), by (first | lia | omega), i + 1, m₃, σ₃, rfl, hlt, q, back _ _ _ S₅⟩
    | cont => exact ⟨n - (i + 1), by (first | lia | omega), i + 1, m₃, σ₃, rfl, hlt, q, back _ _ _ S₅⟩
    | brk => exact ⟨m₃, σ₃, (back _ _ _ S₅).sub (List.sublist_append_right _ _), q⟩
    | ret v => exact ⟨m₃, σ₃, (back _ _ _ S₅).sub (List.sublist_append_right _ _), q⟩
  · have : i = n := by (first | lia | omega)
    subst this
    refine (T.done X rfl rfl (fun _ _ x => x) m₁ σ₁ (fun m' σ' => m' = m₁ ∧ σ' = σ₁) ⟨rfl, rfl⟩).use S' fun r m' σ' s₁ S₁ q => ?_
    obtain ⟨rfl, rfl, rfl⟩ := q
    exact wpAny_execs_nil ⟨m', σ', S₁, done _ _ hJ⟩
end
end Mine
end
end
section
open PySem PySem.W PySem.Calls PyProof.Rows PySem.Spec
set_option Elab.async false
set_option linter.unusedVariables false
set_option maxRecDepth 100000
noncomputable section
namespace Mine

noncomputable def testsOf (ifs : List Expr) (env : Env) : Sem Bool := forIn ifs true fun c r => if r = true then do let ok ← isTrue c env (eval c env); pure (ForInStep.yield ok) else pure (ForInStep.yield r)
section
variable {X : Fm} {m : Vars} {σ : Led} {env : Env} {Q : Bool → Vars → Led → Prop}
theorem w_tests_nil (h : Q true m σ) : W X m σ (testsOf [] env) Q := fun s S => wpAny_tests_nil ⟨m, σ, S, h⟩
theorem w_tests_one {c : Expr} (h : W X m σ (isTrue c env (eval c env)) Q) : W X m σ (testsOf [c] env) Q := fun s S => wpAny_tests_one (h s S)
end

section
variable {X : Fm} {m : Vars} {σ : Led}
theorem comp_loop {elt target iter : Expr} {ifs : List Expr} {scope : Scope} {pos : Pos} {I D : Addr} {its : Nat → Led} {n : Nat} {P : Nat → Value → Led → Prop} {cenv : Env}
    (T : Iter X target I its n P) (hsz : n ≤ sizeLine) (J : Nat → List Value → Led → Prop) (h0 : J 0 [] σ)
    (step : ∀ (F' : PH) i v τ m₁ rs σ₁, i < n → rs.length ≤ i → P i v τ → J i rs σ₁ → W (X.withF F') m₁ (τ ++ σ₁) (assign target cenv v) (fun _ m₂ σ₂ => W (X.withF F') m₂ σ₂ (testsOf ifs cenv)
      (fun ok m₃ σ₃ => if ok = true then W (X.withF F') m₃ σ₃ (eval elt cenv) (fun y _ σ₄ => J (i + 1) (rs ++ [y]) σ₄) else J (i + 1) rs σ₃)))
    {s : Shared} (S : St X.C X.B X.F X.L m ((D, isList []) :: (its 0 ++ σ)) s) :
    codeAny (MM X.C) X.A (.compLoop (.ListComp elt [⟨target, iter, ifs, 0⟩] scope pos) 0 (.ref I) (.ref D) cenv)
      (fun r s' => match r with | .ok _ => ∃ m' rs σ', St X.C X.B X.F X.L m' ((D, isList rs) :: σ') s' ∧ J n rs σ' ∧ rs.length ≤ n | .error _ => False) s := by
  refine codeAny_loop rfl (fun k s' => ∃ i m₁ rs σ₁, k = n - i ∧ i ≤ n ∧ rs.length ≤ i ∧ J i rs σ₁ ∧ St X.C X.B X.F X.L m₁ ((D, isList rs) :: (its i ++ σ₁)) s') ?_ n ⟨0, m, [], σ, by (first | lia | omega), Nat.zero_le _, Nat.zero_le _, h0, S⟩
  rintro k s' ⟨i, m₁, rs, σ₁, rfl, hi, hlen, hJ, S'⟩
  show wpAny _ X.A ((compTurn (.ListComp elt [⟨target, iter, ifs, 0⟩] scope pos) 0 (.ref I) (.ref D) cenv).onRaise (fun x => do noteFrame x cenv; theTreesLotGoes x)) _ _ s'
  refine wpAny_noted ?_
  rw [compTurn_list]
  refine wpAny_bind (wpAny_standAt (wpAny_bind ?_))
  by_cases hlt : i < n
  · refine (T.item X rfl rfl (fun _ _ x => x) i m₁ ((D, isList rs) :: σ₁) (fun v m' σ' => ∃ τ, P i v τ ∧ m' = m₁ ∧ σ' = its (i + 1) ++ (τ ++ ((D, isList rs) :: σ₁))) hlt (fun v τ hP => ⟨τ, hP, rfl, rfl⟩)).use (S'.perm List.perm_middle.symm) fun r m' σ' s₁ S₁ q => ?_
    obtain ⟨v, rfl, q⟩ := q
    refine wpAny_bind (q.use S₁ fun _ m'' σ'' s₂ S₂ q => ?_)
    obtain ⟨τ, oh⟩ := q; refine and3 oh fun hP oq1 oq2 => ?_; clear oh; subst oq1; subst oq2
    have S₂' : St X.C X.B X.F X.L m'' (((D, isList rs) :: its (i + 1)) ++ (τ ++ σ₁)) s₂ := S₂.perm (by
      refine (List.Perm.append_left _ List.perm_middle).trans ?_
      exact List.perm_middle)
    obtain ⟨F', oh⟩ := S₂'.hide; refine and4 oh fun _ _ S₃ back => ?_; clear oh
    refine wpAny_bind ((step F' i v τ m'' rs σ₁ hlt hlen hP hJ).use (X := X.withF F') S₃ fun _ m₂ σ₂ s₃ S₄ q => wpAny_bind (q.use (X := X.withF F') S₄ fun ok m₃ σ₃ s₄ S₅ q => ?_))
    cases ok with
    | false => exact wpAny_pure ⟨rfl, n - (i + 1), by (first | lia | omega), i + 1, m₃, rs, σ₃, rfl, hlt, by (first | lia | omega), q, back _ _ _ S₅⟩
    | true =>
      refine wpAny_bind (wpAny_bind (W.use (X := X.withF F') q S₅ fun y m₄ σ₄ s₅ S₆ q => wpAny_bind ?_))
      obtain ⟨_, ho, nn, rfl⟩ := (back _ _ _ S₆).kn (.inr (.head _))
      refine append_at ho (fun h' hs ho' => ?_) (by rw [List.size_toArray]; (first | lia | omega))
      exact wpAny_pure (wpAny_pure ⟨rfl, n - (i + 1), by (first | lia | omega), i + 1, m₄, rs ++ [y], σ₄, rfl, hlt, by simp; (first | lia | omega), q, (back _ _ _ S₆).set0 (t := s₅.toks) ho' ⟨nn + 1, by simp⟩ hs⟩)
  · have : i = n := by (first | lia | omega)
    subst this
    refine (T.done X rfl rfl (fun _ _ x => x) m₁ ((D, isList rs) :: σ₁) (fun m' σ' => m' = m₁ ∧ σ' = (D, isList rs) :: σ₁) ⟨rfl, rfl⟩).use (S'.perm List.perm_middle.symm) fun r m' σ' s₁ S₁ q => ?_
    obtain ⟨rfl, rfl, rfl⟩ := q
    exact wpAny_pure ⟨m', rs, σ₁, S₁, hJ, hlen⟩

theorem comp_core {elt target iter : Expr} {ifs : List Expr} {scope : Scope} {cl : List (Str × Addr)} {pos : Pos} {I : Addr} {its : Nat → Led} {n : Nat} {P : Nat → Value → Led → Prop} {env : Env} {RR : Value → Addr → Result → Shared → Prop} {E : Value → Shared → Prop}
    (T : Iter X target I its n P) (hsz : n ≤ sizeLine) (J : Nat → List Value → Led → Prop) (h0 : J 0 [] σ) (hcell : ∀ x ∈ scope.names, x.2 ≠ .cell) (hkind : scope.kind = .function)
    (step : ∀ (F' : PH) C i v τ m₁ rs σ₁, i < n → rs.length ≤ i → P i v τ → J i rs σ₁ → W ⟨X.C, X.A, X.B, F', C⟩ m₁ (τ ++ σ₁) (assign target (compEnvC scope cl C env) v) (fun _ m₂ σ₂ => W ⟨X.C, X.A, X.B, F', C⟩ m₂ σ₂ (testsOf ifs (compEnvC scope cl C env))
      (fun ok m₃ σ₃ => if ok = true then W ⟨X.C, X.A, X.B, F', C⟩ m₃ σ₃ (eval elt (compEnvC scope cl C env)) (fun y _ σ₄ => J (i + 1) (rs ++ [y]) σ₄) else J (i + 1) rs σ₃)))
    {s : Shared} (S : St X.C X.B X.F X.L m (its 0 ++ σ) s)
    (hR : ∀ C D rs σ' s', St X.C X.B X.F X.L m ((D, isList rs) :: σ') s' → (∃ mc, s'.heap.Ns C mc) → X.B C = none → X.F C = none → C ≠ X.L → C ∉ ((D, isList rs) :: σ').map (·.1) → J n rs σ' → RR (.ref D) C (.ok .next) s')
    (hR' : ∀ a C f s, RR a C (.ok .next) s → RR a C (.ok f) s) :
    wpAny (MM X.C) X.A (newList []) (fun acc s₃ => wpAny (MM X.C) X.A (newFunctionEnv scope env.globals cl [] env.qual none .none (some env)) (fun cenv s₄ =>
      codeAny (MM X.C) X.A (.compStart (.ListComp elt [⟨target, iter, ifs, 0⟩] scope pos) 0 (.ref I) acc { cenv with scope := relabel scope env }) (RR acc cenv.locals) s₄) E s₃) E s := by
  refine wpAny_newObj_type (wpAny_newFunctionEnv hcell (by intro y hy; simp at hy) (fun h₁ hns₁ hsb₁ => ?_) hkind) (by show ([] : List Value).toArray.size ≤ sizeLine; exact Nat.zero_le _)
  have S₁ : St X.C X.B X.F X.L m ((s.heap.objs.size, isList []) :: (its 0 ++ σ)) { s with heap := s.heap.push { cls := .type "list", data := .seq ([] : List Value).toArray } } := S.push rfl ⟨0, rfl⟩
  dsimp only at hns₁ hsb₁ ⊢
  have hk : ∀ b o, (s.heap.push { cls := .type "list", data := .seq ([] : List Value).toArray }).get? b = some o → h₁.get? b = some o := fun b o e =>
    hsb₁.extBut b o (Nat.ne_of_lt (Heap.lt_size e)) (Heap.get?_push_of_some _ e)
  obtain ⟨F', oh⟩ := S₁.hideL (get_size_none _) hns₁ hk (t := s.toks + ([] : List (Str × Value)).length); refine and4 oh fun hF hsub S₂ back => ?_; clear oh
  have hCL : (s.heap.push { cls := .type "list", data := .seq ([] : List Value).toArray }).objs.size ≠ X.L := fun q => Nat.lt_irrefl _ (q ▸ S₁.ns.lt)
  generalize (s.heap.push { cls := .type "list", data := .seq ([] : List Value).toArray }).objs.size = C at *
  have loop := comp_loop (X := ⟨X.C, X.A, X.B, F', C⟩) (elt := elt) (iter := iter) (ifs := ifs) (scope := scope) (pos := pos) (cenv := compEnvC scope cl C env) (m := _) (σ := σ)
    { item := T.item, self := T.self, done := T.done } hsz J h0 (fun F'' => step F'' C) S₂
  have hend : ∀ r s', (match r with | .ok _ => ∃ m' rs σ', St X.C X.B F' C m' ((s.heap.objs.size, isList rs) :: σ') s' ∧ J n rs σ' ∧ rs.length ≤ n | .error _ => False) → RR (.ref s.heap.objs.size) C r s' := by
    rintro (e | f) s' hr
    · exact hr.elim
    · obtain ⟨m', rs, σ', oh⟩ := hr; refine and3 oh fun S₃ hJ _ => ?_; clear oh
      refine hR' _ _ _ _ ?_
      have S₄ := back _ _ _ S₃
      refine hR C _ rs σ' s' S₄ ⟨_, S₃.ns⟩ S₃.bL ?_ hCL (List.nodup_cons.mp S₃.nd).1 hJ
      · cases q : X.F C with
        | none => rfl
        | some o => have := hF _ _ q; rw [S₃.fL] at this; cases this
  refine codeAny_compStart_list (codeAny_mono loop hend) ?_
  refine (T.self ⟨X.C, X.A, X.B, F', C⟩ rfl rfl (fun _ _ x => x) 0 _ ((s.heap.objs.size, isList []) :: σ) (fun v m' σ' => v = .ref I ∧ σ' = its 0 ++ ((s.heap.objs.size, isList []) :: σ)) ⟨rfl, rfl⟩).use (X := ⟨X.C, X.A, X.B, F', C⟩) (S₂.perm List.perm_middle.symm) fun v m' σ' s' S' q => ?_
  obtain ⟨rfl, rfl⟩ := q
  exact codeAny_mono (comp_loop (X := ⟨X.C, X.A, X.B, F', C⟩) (elt := elt) (iter := iter) (ifs := ifs) (scope := scope) (pos := pos) (cenv := compEnvC scope cl C env) (σ := σ)
    { item := T.item, self := T.self, done := T.done } hsz J h0 (fun F'' => step F'' C) (S'.perm List.perm_middle)) hend

noncomputable def CompGo (X : Fm) (m : Vars) (σ : Led) (it : Value) (target elt : Expr) (ifs : List Expr) (ce : Addr → Env) (K : Addr → List Value → Led → Prop) : Prop :=
  ∃ I its n P σ₃, it = .ref I ∧ σ = its 0 ++ σ₃ ∧ Iter X target I its n P ∧ n ≤ sizeLine ∧ ∃ J : Nat → List Value → Led → Prop, J 0 [] σ₃ ∧
    (∀ (F' : PH) C i v τ m₁ rs σ₁, i < n → rs.length ≤ i → P i v τ → J i rs σ₁ → W ⟨X.C, X.A, X.B, F', C⟩ m₁ (τ ++ σ₁) (assign target (ce C) v) (fun _ m₂ σ₂ => W ⟨X.C, X.A, X.B, F', C⟩ m₂ σ₂ (testsOf ifs (ce C))
      (fun ok m₃ σ₃ => if ok = true then W ⟨X.C, X.A, X.B, F', C⟩ m₃ σ₃ (eval elt (ce C)) (fun y _ σ₄ => J (i + 1) (rs ++ [y]) σ₄) else J (i + 1) rs σ₃))) ∧
    ∀ rs σ' D, J n rs σ' → K D rs σ'

theorem w_ListComp {elt target iter : Expr} {ifs : List Expr} {scope : Scope} {cl : List (Str × Addr)} {pos : Pos} {env : Env} {Q : Value → Vars → Led → Prop} (hclos : closureFor scope env = pure cl)
    (h : W X m σ (eval iter env) (fun xv m₁ σ₁ => W X m₁ σ₁ (pyIter xv) (fun it m₂ σ₂ => CompGo X m₂ σ₂ it target elt ifs (fun C => compEnvC scope cl C env) (fun D rs σ' => Q (.ref D) m₂ ((D, isList rs) :: σ')))))
    (hs : (∀ x, foldedSetIterable iter env x = pure x) := by intro _; k_dflt rfl) (hkind : autoParam (scope.kind = .function) Mine.dfl0._auto_1)
    (hnames : autoParam ((scope.names.all fun x => x.2 != .cell && (x.2 != .local || scope.names.lookup x.1 == some .local)) = true) Mine.dfl0._auto_1) :
    W X m σ (eval (.ListComp elt [⟨target, iter, ifs, 0⟩] scope pos) env) Q := fun s S => by
  have hn := List.all_eq_true.mp hnames
  rw [eval_ListComp]
  refine wpAny_comprehension_free (cl := cl) rfl hs hclos hkind (fun x hx hl => ?_) (h.use S fun xv m₁ σ₁ s₁ S₁ q => q.use S₁ fun it m₂ σ₂ s₂ S₂ q => ?_)
  · have := hn x hx; rw [hl] at this; simpa using this
  · obtain ⟨I, its, n, P, σ₃, rfl, rfl, T, hsz, J, oh⟩ := q; refine and3 oh fun h0 step hd => ?_; clear oh
    refine comp_core T hsz J h0 (fun x hx => by have := hn x hx; simp only [Bool.and_eq_true] at this; simpa using this.1) hkind step S₂ (fun C D rs σ' s' S' ⟨mc, hc⟩ hB hF hL hσ hJ => ?_) (fun a C f s hr => hr)
    exact ⟨mc, hc, fun h' hs' => ⟨_, _, S'.off (t := s'.toks) hs' hB hF hL hσ, hd _ _ _ hJ⟩⟩

theorem w_assign_comp {elt target iter : Expr} {ifs : List Expr} {scope : Scope} {cl : List (Str × Addr)} {x : Str} {p pos' pos : Pos} {env : Env} {Q : Flow → Vars → Led → Prop} (hclos : closureFor scope env = pure cl)
    (h : W X m σ (eval iter env) (fun xv m₁ σ₁ => W X m₁ σ₁ (pyIter xv) (fun it m₂ σ₂ => CompGo X m₂ σ₂ it target elt ifs (fun C => compEnvC scope cl C env) (fun D rs σ' => ∀ F', W (X.withF F') m₂ ((D, isList rs) :: σ') (storeName env x (.ref D)) (fun _ => Q .next)))))
    (hsw : autoParam (swapsWith (.ListComp elt [⟨target, iter, ifs, 0⟩] scope pos') (some (.Name x p)) pos.line env = pure true) Mine.dfl0._auto_1)
    (hs : (∀ x, foldedSetIterable iter env x = pure x) := by intro _; k_dflt rfl) (hkind : autoParam (scope.kind = .function) Mine.dfl0._auto_1)
    (hnames : autoParam ((scope.names.all fun x => x.2 != .cell && (x.2 != .local || scope.names.lookup x.1 == some .local)) = true) Mine.dfl0._auto_1) :
    W X m σ (exec (.Assign [.Name x p] (.ListComp elt [⟨target, iter, ifs, 0⟩] scope pos') pos) env) Q := fun s S => by
  have hn := List.all_eq_true.mp hnames
  rw [exec_Assign_Name_used _ _ _ _ hsw, arm_evalThenUse_ListComp]
  refine wpAny_bind (wpAny_standAt (wpAny_bind (wpAny_bind ?_)))
  refine wpAny_comprehension_free (cl := cl) (Q := fun a s' => wpAny (MM X.C) X.A (pure PUnit.unit : Sem PUnit) (fun _ s' => wpAny (MM X.C) X.A (pure Flow.next : Sem Flow) (fun f s' => ∃ m' σ', St X.C X.B X.F X.L m' σ' s' ∧ Q f m' σ') (fun _ _ => False) s') (fun _ _ => False) s') rfl hs hclos hkind (fun x hx hl => ?_) (h.use S fun xv m₁ σ₁ s₁ S₁ q => q.use S₁ fun it m₂ σ₂ s₂ S₂ q => ?_)
  · have := hn x hx; rw [hl] at this; simpa using this
  · obtain ⟨I, its, n, P, σ₃, rfl, rfl, T, hsz, J, oh⟩ := q; refine and3 oh fun h0 step hd => ?_; clear oh
    refine comp_core T hsz J h0 (fun x hx => by have := hn x hx; simp only [Bool.and_eq_true] at this; simpa using this.1) hkind step S₂ (fun C D rs σ' s' S' ⟨mc, hc⟩ hB hF hL hσ hJ => ?_) (fun a C f s hr => hr)
    obtain ⟨F', oh⟩ := S'.hideA hL hσ; refine and3 oh fun hF' hFC S'' => ?_; clear oh
    show wpAny _ _ (assign (.Name x p) env (.ref D)) _ _ s'
    refine wpAny_assign_Name ((hd _ _ _ hJ F').use (X := X.withF F') S'' fun _ m₄ σ₄ s₄ S₄ q => ?_)
    have hc4 : ∃ mc, s₄.heap.Ns C mc := by
      obtain ⟨o, es, ep, ho, r⟩ := hc
      exact ⟨mc, o, es, ep, S₄.keepF _ _ (hFC _ ho), r⟩
    obtain ⟨mc', hc'⟩ := hc4
    refine ⟨mc', hc', fun h' hs' => wpAny_pure (wpAny_pure ⟨_, _, (S₄.weakF hF').off (t := s₄.toks) hs' hB hF hL (fun q => ?_), q⟩)⟩
    obtain ⟨o, es, ep, ho, r⟩ := hc
    obtain ⟨pp, hp, e⟩ := List.mem_map.mp q
    have z : F' C = none := e ▸ (S₄.bσ pp hp).2
    rw [hFC _ ho] at z; cases z
end
end Mine
end
end
section
open PySem PySem.W PySem.Calls PyProof.Rows PySem.Spec
set_option Elab.async false
set_option linter.unusedVariables false
set_option maxRecDepth 100000
noncomputable section
namespace Mine

section stmts
variable {X : Fm} {m : Vars} {σ : Led} {env : Env} {pos : Pos}

theorem w_assign_sub {o i value : Expr} {p : Pos} {Q : Flow → Vars → Led → Prop}
    (h : W X m σ (eval value env) (fun v m' σ' => W X m' σ' (eval o env) (fun ov m' σ' => W X m' σ' (eval i env) (fun iv m' σ' => W X m' σ' (setItem ov iv v) (fun _ => Q .next)))))
    (hs : autoParam (swapsWith value (some (.Subscript o i p)) pos.line env = pure false) Mine.dfl0._auto_1) : W X m σ (exec (.Assign [.Subscript o i p] value pos) env) Q :=
  fun _ S => wpAny_Assign_Subscript (h.use S fun _ _ _ s' S' q => q.use S' fun _ _ _ s' S' q => q.use S' fun _ _ _ s' S' q => q s' S') hs
theorem w_aug_sub {o i value : Expr} {op : Operator} {p : Pos} {Q : Flow → Vars → Led → Prop}
    (h : W X m σ (eval o env) (fun ov m' σ' => W X m' σ' (eval i env) (fun iv m' σ' => W X m' σ' (getItem ov iv) (fun old m' σ' => W X m' σ' (eval value env) (fun v m' σ' => W X m' σ' (inplaceOp op old v) (fun new m' σ' => W X m' σ' (setItem ov iv new) (fun _ => Q .next)))))))
    (ha : ∀ ov iv new, augStore i ov iv new = (do holding [new, ov, iv] (setItem ov iv new); release [new, ov, iv] []; pure .next) := by intro _ _ _; k_dflt rfl) : W X m σ (exec (.AugAssign (.Subscript o i p) op value pos) env) Q :=
  fun _ S => wpAny_AugAssign_Subscript_any (h.use S fun _ _ _ s' S' q => q.use S' fun _ _ _ s' S' q => q.use S' fun _ _ _ s' S' q => q.use S' fun _ _ _ s' S' q => q.use S' fun _ _ _ s' S' q => q s' S') ha
theorem w_assign_attr {o value : Expr} {attr : Str} {p : Pos} {Q : Flow → Vars → Led → Prop}
    (h : W X m σ (eval value env) (fun v m' σ' => W X m' σ' (eval o env) (fun ov m' σ' => W X m' σ' (setAttr ov attr v) (fun _ => Q .next))))
    (hs : autoParam (swapsWith value (some (.Attribute o attr p)) pos.line env = pure false) Mine.dfl0._auto_1) : W X m σ (exec (.Assign [.Attribute o attr p] value pos) env) Q :=
  fun _ S => plainObj_wpAny_Assign_Attribute (h.use S fun _ _ _ s' S' q => q.use S' fun _ _ _ s' S' q => q s' S') hs
theorem w_assign_tup {elts : List Expr} {value : Expr} {k : Nat} {p : Pos} {Q : Flow → Vars → Led → Prop}
    (h : W X m σ (eval value env) (fun v m' σ' => W X m' σ' (assign (.Tuple elts k p) env v) (fun _ => Q .next)))
    (hs : autoParam (swapsWithSole [.Tuple elts k p] value pos.line env = pure false) Mine.dfl0._auto_1)
    (hw : autoParam (swappedStores [.Tuple elts k p] value env = pure none) Mine.dfl0._auto_1) : W X m σ (exec (.Assign [.Tuple elts k p] value pos) env) Q :=
  fun _ S => Assign_Tuple (h.use S fun _ _ _ s' S' q => q s' S') hs hw
theorem w_store_name {x : Str} {p : Pos} {v : Value} {Q : Unit → Vars → Led → Prop} (h : W X m σ (storeName env x v) Q) : W X m σ (assign (.Name x p) env v) Q :=
  fun s S => assign_Name (h s S)
theorem w_inorder_nil {Q : Unit → Vars → Led → Prop} {vs : List Value} (h : Q () m σ) : W X m σ (assignInOrder [] vs) Q := fun s S => by
  unfold assignInOrder; exact wpAny_pure ⟨m, σ, S, h⟩
theorem w_inorder_cons {f : Value → Sem Unit} {fs : List (Value → Sem Unit)} {v : Value} {vs : List Value} {Q : Unit → Vars → Led → Prop}
    (h : W X m σ (f v) (fun _ m' σ' => W X m' σ' (assignInOrder fs vs) Q)) : W X m σ (assignInOrder (f :: fs) (v :: vs)) Q := fun s S =>
  assignInOrder_cons (h.use S fun _ _ _ s' S' q => q s' S')
theorem w_unpack_tup {elts : List Expr} {k : Nat} {t : Addr} {vs : List Value} {Q : Unit → Vars → Led → Prop} (hA : X.A.handled = none) (ht : Kn X.B σ t (isTup vs))
    (hn : (assignEach elts env).length = vs.length) (hstar : (assignEach elts env).findIdx? (·.1) = none)
    (h : W X m σ (assignInOrder ((assignEach elts env).map (·.2)) vs) Q) : W X m σ (assign (.Tuple elts k pos) env (.ref t)) Q := fun s S =>
  assign_Tuple_tuple hA (isTup_at (S.kn ht)) (by simpa using hn) hstar fun h' he => by
    have S' := S.grow (h' := h') (t := s.toks) (g := s.gens) (d := s.drawn) (fun b o e => he b o (Nat.ne_of_lt (Heap.lt_size e)) e) S.gens
    simpa using h _ S'
theorem w_break {Q : Flow → Vars → Led → Prop} (h : Q .brk m σ) : W X m σ (exec (.Break pos) env) Q := fun s S => wpAny_Break ⟨m, σ, S, h⟩
theorem w_true_or {x : Expr} {rest : List Expr} {whole : Sem Value} {Q : Bool → Vars → Led → Prop}
    (h : W X m σ (isTrue x env (eval x env)) (fun c m' σ' => if c then Q true m' σ' else W X m' σ' (isTrue (.BoolOp .Or rest pos) env whole) Q)) : W X m σ (isTrue (.BoolOp .Or (x :: rest) pos) env whole) Q :=
  fun _ S => isTrue_or (h.use S fun c m' σ' s' S' q => by cases c with | true => exact ⟨m', σ', S', q⟩ | false => exact q s' S')
theorem w_true_or_nil {whole : Sem Value} {Q : Bool → Vars → Led → Prop} (h : Q false m σ) : W X m σ (isTrue (.BoolOp .Or [] pos) env whole) Q := fun _ S => isTrue_or_nil ⟨m, σ, S, h⟩
end stmts

section objs
variable {X : Fm} {m : Vars} {σ : Led} {env : Env} {pos : Pos} {Q : Value → Vars → Led → Prop}
theorem w_unary {op : UnaryOp} {x : Expr} (h : W X m σ (eval x env) (fun v m' σ' => W X m' σ' (unaryOp op v) Q)) : W X m σ (eval (.UnaryOp op x pos) env) Q :=
  fun _ S => UnaryOp_ (h.use S fun _ _ _ s' S' q => q s' S')
theorem w_attr {value : Expr} {attr : Str} (h : W X m σ (eval value env) (fun o m' σ' => W X m' σ' (getAttr o attr true) Q))
    (he : eval (.Attribute value attr pos) env = (do
      let o ← eval value env
      standAt pos.atName
      let r ← holding [o] (getAttr o attr true)
      letTemporaryGo value o r
      pure r) := by k_dflt with_unfolding_all rfl) : W X m σ (eval (.Attribute value attr pos) env) Q :=
  fun _ S => Attribute_any_ (h.use S fun _ _ _ s' S' q => q s' S') he
theorem w_methcall {o : Expr} {name : Str} {apos : Pos} {args : List Expr} {pl : Sem Bool}
    (h : W X m σ (eval o env) (fun ov m' σ' => W X m' σ' (getMethod ov name pl) (fun fx m' σ' => W X m' σ' (callWith pos fx.1 fx.2 (backTo pos (starEach args env)) []) Q)))
    (he : autoParam (eval (.Call (.Attribute o name apos) args [] pos) env = (do
      let ov ← eval o env
      standAt apos.atName
      let (f, first) ← holding [ov] (getMethod ov name pl)
      callWith pos f first (backTo pos (starEach args env)) (backToKw pos (keywordEach [] env)))) Mine.dfl0._auto_1) :
    W X m σ (eval (.Call (.Attribute o name apos) args [] pos) env) Q :=
  fun _ S => methodCall_KW (h.use S fun _ _ _ s' S' q => q.use S' fun _ _ _ s' S' q => q s' S') he

noncomputable def isDict1 (name : Str) (v : Value) : HP := fun o => ∃ h tk n, o = { cls := .type "dict", data := .dict #[⟨h, .str name tk, v⟩] n }
theorem St.inst {a dx C : Addr} {P D : HP} {s : Shared} (S : St X.C X.B X.F X.L m σ s) (ha : Kn X.B σ a P) (hd : Kn X.B σ dx D) (hP : ∀ o, P o → o.cls = .ref C ∧ o.dict = some dx ∧ notCls o = true) :
    ∃ ox od, PySem.W.InstAt s.heap a ox C (some od) ∧ P ox ∧ D od := by
  obtain ⟨ox, e1, p1⟩ := S.kn ha
  obtain ⟨od, e2, p2⟩ := S.kn hd
  obtain ⟨c1, c2, c3⟩ := hP _ p1
  exact ⟨ox, od, ⟨e1, c1, c3, by rw [c2]; exact e2⟩, p1, p2⟩
theorem w_getMethod_fn {a dx C f : Addr} {name : Str} {pl : Sem Bool} {P D : HP} {Q : Value × List Value → Vars → Led → Prop} (ha : Kn X.B σ a P) (hd : Kn X.B σ dx D) (hP : ∀ o, P o → o.cls = .ref C ∧ o.dict = some dx ∧ notCls o = true)
    (hD : ∀ o, D o → shadowIn (some o) name = some false) (hga : findIn (KK X.C.w) (.ref C) "__getattribute__" = some (some (.builtin "object.__getattribute__"))) (hk : findIn (KK X.C.w) (.ref C) "__getattr__" = some none)
    (hf : findIn (KK X.C.w) (.ref C) name = some (some (.ref f))) (ht : typeIn (KK X.C.w) (.ref f) = some (.type "function")) (h : Q (.ref f, [.ref a]) m σ) : W X m σ (getMethod (.ref a) name pl) Q := fun s S => by
  obtain ⟨ox, od, oh⟩ := S.inst ha hd hP; refine and3 oh fun I p q => ?_; clear oh
  exact method_fn S.world.k I hga hk hf ht (hD _ q) ⟨m, σ, S, h⟩
theorem w_getAttr_val {a dx C : Addr} {name : Str} {ex : Bool} {v : Value} {P D : HP} (ha : Kn X.B σ a P) (hd : Kn X.B σ dx D) (hP : ∀ o, P o → o.cls = .ref C ∧ o.dict = some dx ∧ notCls o = true)
    (hga : findIn (KK X.C.w) (.ref C) "__getattribute__" = some (some (.builtin "object.__getattribute__")))
    (hD : ∀ o, D o → findObj (KK X.C.w) C (some o) name = some (.value v)) (hh : handedIn v = true) (h : Q v m σ) : W X m σ (getAttr (.ref a) name ex) Q := fun s S => by
  obtain ⟨ox, od, oh⟩ := S.inst ha hd hP; refine and3 oh fun I p q => ?_; clear oh
  exact get_value S.world.k I hga (hD _ q) hh ⟨m, σ, S.toks, h⟩
end objs
end Mine
end
end
section
open PySem PySem.W PySem.Calls PyProof.Rows PySem.Spec
set_option Elab.async false
set_option linter.unusedVariables false
set_option maxRecDepth 100000
noncomputable section
namespace Mine

noncomputable abbrev Fm.withA (X : Fm) (A : Around) : Fm := ⟨X.C, A, X.B, X.F, X.L⟩
noncomputable def WK (X : Fm) (m : Vars) (σ : Led) (c : Code) (Q : Value → Vars → Led → Prop) : Prop :=
  ∀ s, St X.C X.B X.F X.L m σ s → codeAny (MM X.C) X.A c (fun r s' => match r with | .ok (.ret v) => ∃ m' σ', St X.C X.B X.F X.L m' σ' s' ∧ Q v m' σ' | _ => False) s

section
variable {X : Fm} {m : Vars} {σ : Led} {Q : Value → Vars → Led → Prop}
theorem WK.use {c : Code} (h : WK X m σ c Q) {s : Shared} (S : St X.C X.B X.F X.L m σ s) {R : Result → Shared → Prop}
    (hQ : ∀ a m' σ' s', St X.C X.B X.F X.L m' σ' s' → Q a m' σ' → R (.ok (.ret a)) s') : codeAny (MM X.C) X.A c R s :=
  codeAny_mono (h s S) fun r s' q => by
    rcases r with e | (_ | _ | _ | v)
    · exact q.elim
    · exact q.elim
    · exact q.elim
    · exact q.elim
    · obtain ⟨m', σ', S', q⟩ := q; exact hQ v m' σ' s' S' q
theorem wk_perm {c : Code} {σ' : Led} (hp : σ.Perm σ') (h : WK X m σ' c Q) : WK X m σ c Q := fun s S => h s (S.perm hp)
theorem w_call {f : Value} {pos : List Value} {kw : List (Str × Value)} (h : WK X m σ (.call f ⟨pos, kw⟩) Q) : W X m σ (call f pos kw) Q :=
  fun s S => wpAny_call (h.use S fun a m' σ' s' S' q => ⟨m', σ', S', q⟩)
noncomputable abbrev FinQ (X : Fm) (Q : Value → Vars → Led → Prop) (fin : Fin) (m : Vars) (σ : Led) : Prop :=
  match fin with | .done (.ret v) => Q v m σ | .again c => c.quiet = true ∧ WK X m σ c Q | _ => False
theorem wk_builtin {id : String} {args : Args} {b : Builtin} (hq : plainId id = true) (hb : entryFor table id = some b)
    (h : W (X.withA X.A.in1) m σ (checkBuiltinCall id args) (fun _ m' σ' => W (X.withA X.A.in1) m' σ' (b args) (FinQ X Q))) : WK X m σ (.call (.builtin id) args) Q := fun s S =>
  codeAny_call_builtin hq hb (h.use (X := X.withA X.A.in1) S fun _ m' σ' s' S' q => q.use (X := X.withA X.A.in1) S' fun fin m'' σ'' s'' S'' q => by
    rcases fin with (_ | _ | _ | v) | c <;> first | exact q.elim | exact ⟨m'', σ'', S'', q⟩ | exact ⟨q.1, q.2 s'' S''⟩)
theorem w_ret {v : Value} (h : Q v m σ) : W X m σ (ret v) (FinQ X Q) := w_pure h

theorem w_load {a : Addr} {P : HP} {Q : Obj → Vars → Led → Prop} (ha : Kn X.B σ a P) (h : ∀ o, P o → Q o m σ) : W X m σ (load a) Q := fun s S => by
  obtain ⟨o, e, p⟩ := S.kn ha
  exact wpAny_load e ⟨m, σ, S, h o p⟩
theorem w_holding {α : Type} {vs : List Value} {t : Sem α} {Q : α → Vars → Led → Prop} (h : W X m σ t Q) : W X m σ (holding vs t) Q := fun s S => wpAny_holding (h s S)
theorem w_standAt {p : Pos} {Q : Unit → Vars → Led → Prop} (h : Q () m σ) : W X m σ (standAt p) Q := fun s S => wpAny_standAt ⟨m, σ, S, h⟩
theorem w_mkInt {i : Int} (h : ∀ t, Q (.int i t) m σ) : W X m σ (mkInt i) Q := fun s S => wpAny_mkInt ⟨m, σ, S.toks, h _⟩
theorem w_letGo {r k : List Value} {Q : Unit → Vars → Led → Prop} (h : Q () m σ) : W X m σ (letGo r k) Q := fun s S => wpAny_letGo ⟨m, σ, S, h⟩
theorem w_post_keep {α : Type} {t : Sem α} {Q : α → Vars → Led → Prop} (h : W X m σ t (fun a m' σ' => ∃ σ'', σ''.Sublist σ' ∧ Q a m' σ'')) : W X m σ t Q := fun s S =>
  h.use S fun a m' σ' s' S' ⟨σ'', hs, q⟩ => ⟨m', σ'', S'.sub hs, q⟩
theorem w_post_perm {α : Type} {t : Sem α} {Q : α → Vars → Led → Prop} (h : W X m σ t (fun a m' σ' => ∃ σ'', σ'.Perm σ'' ∧ Q a m' σ'')) : W X m σ t Q := fun s S =>
  h.use S fun a m' σ' s' S' ⟨σ'', hs, q⟩ => ⟨m', σ'', S'.perm hs, q⟩

theorem wk_def {σ₁ σ₂ : Led} {f : Addr} {pos : List Value} {kw : List (Str × Value)} {name qual : Str} {params : Arguments} {body : List Stmt} {scope : Scope} {cl : List (Str × Addr)}
    {dV kV doc pm cdv ct oc : Value} {an od : Option Addr} {osl : Array (Option Value)} {binds : List (Str × Value)} {n : Nat}
    (ho : (KK X.C.w).lookup f = some ⟨oc, od, .func (fnX name qual params body scope cl dV kV doc pm an cdv ct), osl⟩) (hcd : codeIn (KK X.C.w) cdv qual = true)
    (hA : Ok (n + 1) X.A) (hbind : ∀ h, (KK X.C.w).In h → ∀ s : Shared, s.heap = h → BindsTo s (fnX name qual params body scope cl dV kV doc pm an cdv ct) ⟨pos, kw⟩ binds)
    (hloc : (binds.all fun x => scope.names.lookup x.1 == some .local) = true) (hcell : (scope.names.all fun x => x.2 != .cell) = true)
    (h : ∀ X' : Fm, X'.C = X.C → (∀ a P, Kn X.B σ₂ a P → BI X'.B a P) → Ok n X'.A → X'.A = X.A.deeper (envX qual scope X'.L f cdv cl) →
      W X' (fun y => binds.reverse.lookup y) σ₁ (execs body (envX qual scope X'.L f cdv cl)) (fun fl _ σ' => Q (match fl with | .ret v => v | _ => .none) m (σ' ++ σ₂)))
    (hco : autoParam (scope.isCoroutine = false) Mine.dfl0._auto_1) (hgen : autoParam (scope.isGenerator = false) Mine.dfl0._auto_1) (hk : autoParam (scope.kind = .function) Mine.dfl0._auto_1) :
    WK X m (σ₁ ++ σ₂) (.call (.ref f) ⟨pos, kw⟩) Q := fun s S => by
  refine codeAny_call_def (fd := fnX name qual params body scope cl dV kV doc pm an cdv ct) (body := body) (binds := binds) (Nat.lt_of_lt_of_le (by have := hA.dp; (first | lia | omega) : X.A.depth < 900) (by decide)) (S.world.k _ _ ho) rfl S.world.t.nolimit (codeRec_of S.world.k hcd) rfl
    (hbind _ S.world.k s rfl) (fun x hx => by simpa using List.all_eq_true.mp hcell x hx) (fun x hx => by simpa using List.all_eq_true.mp hloc x hx) (fun h₁ hns hk₁ => ?_) hco hgen hk
  obtain ⟨B', oh⟩ := S.frame; refine and4 oh fun hB hkn S₁ back => ?_; clear oh
  obtain ⟨F', oh⟩ := S₁.hideL (get_size_none _) hns hk₁ (t := s.toks + binds.length); refine and4 oh fun hF _ S₂ back2 => ?_; clear oh
  have ok : Ok n (X.A.deeper (envX qual scope s.heap.objs.size f cdv cl)) := ⟨hA.hd, by have := hA.dp; show X.A.depth + 1 + n ≤ 900; (first | lia | omega), by have := hA.un; show X.A.units + 3 + 20 * n ≤ 9000; (first | lia | omega), by
    have := hA.fr
    show (X.A.frames.map _).isSome = true
    rw [Option.isSome_map]; exact this⟩
  exact (h ⟨X.C, X.A.deeper (envX qual scope s.heap.objs.size f cdv cl), B', F', s.heap.objs.size⟩ rfl hkn ok rfl).use S₂ fun fl m' σ' s' S' q => ⟨m, _, back _ _ _ (back2 _ _ _ S'), q⟩

theorem Ok.under {n : Nat} {A : Around} {C : Addr} {rest : List Value} {kw : List (Str × Value)} (h : Ok (n + 1) A) : Ok n (A.under (.builtin "type.__call__" ⟨.ref C :: rest, kw⟩)) :=
  ⟨h.hd, by have := h.dp; show A.depth + 1 + n ≤ 900; (first | lia | omega), by have := h.un; show A.units + 1 + 20 * n ≤ 9000; (first | lia | omega), h.fr⟩
theorem Ok.in1 {n : Nat} {A : Around} (h : Ok (n + 1) A) : Ok n A.in1 := ⟨h.hd, by have := h.dp; show A.depth + n ≤ 900; (first | lia | omega), by have := h.un; show A.units + 1 + 20 * n ≤ 9000; (first | lia | omega), h.fr⟩
theorem Ok.le {n k : Nat} {A : Around} (h : Ok n A) (hk : k ≤ n) : Ok k A := ⟨h.hd, by have := h.dp; (first | lia | omega), by have := h.un; (first | lia | omega), h.fr⟩

theorem wk_make {C : Addr} {rest : List Value} {fI : Addr} (hm : makesIn (KK X.C.w) C = true) (hi : findIn (KK X.C.w) (.ref C) "__init__" = some (some (.ref fI))) (hf : typeIn (KK X.C.w) (.ref fI) = some (.type "function"))
    (h : ∀ x dx, WK (X.withA (X.A.under (.builtin "type.__call__" ⟨.ref C :: rest, []⟩))) m ((x, (· = instObj C dx)) :: (dx, (· = emptyDict)) :: σ) (.call (.ref fI) ⟨.ref x :: rest, []⟩) (fun v m' σ' => v = .none ∧ Q (.ref x) m' σ')) :
    WK X m σ (.call (.ref C) ⟨rest, []⟩) Q := fun s S => by
  obtain ⟨hh, g, d, t, os⟩ := s
  refine make_core (makes_of S.world.k hm) (looks_findIn S.world.k hi) (fun self => bind_fn S.world.k self hf) (.inl rfl) ?_
  have S1 := S.push (o := emptyDict) (P := (· = emptyDict)) rfl rfl
  have S2 := S1.push (o := instObj C hh.objs.size) (P := (· = instObj C hh.objs.size)) rfl rfl
  rw [show ({ heap := hh.push emptyDict, gens := g, drawn := d, toks := t, os := os } : Shared).heap.objs.size = hh.objs.size + 1 from Heap.size_push ..] at S2
  exact (h _ _).use (X := X.withA _) S2 fun a m' σ' s' S' q => by
    obtain ⟨rfl, q⟩ := q
    exact ⟨rfl, m', σ', S', q⟩
end
end Mine
end
end
section
open PySem PySem.W PySem.Calls PyProof.Rows PySem.Spec
set_option Elab.async false
set_option linter.unusedVariables false
set_option maxRecDepth 100000
noncomputable section
namespace Mine
section
variable {w : World} {h : Heap}
theorem made_166 (X : (KK w).In h) : Looks (model PW w) h (Bind.madeBy (.ref 166)) (some "list.__new__") := Looks.of_peek X (by kernel_rfl)
theorem self_166 (X : (KK w).In h) : Looks (model PW w) h (isSubtype (.ref 166) (.ref 166)) true := Looks.of_peek X (by kernel_rfl)
theorem list_166 (X : (KK w).In h) : Looks (model PW w) h (isSubtype (.ref 166) (.type "list")) true := Looks.of_peek X (by kernel_rfl)
theorem call_166 (X : (KK w).In h) : Looks (model PW w) h (specialOf (.ref 166) "__call__") (some (.builtin "type.__call__")) := looks_specialIn X (by kernel_rfl)
theorem typ_166 (X : (KK w).In h) : Looks (model PW w) h (isInstance (.ref 166) (.type "type")) true := looks_instIn X (by kernel_rfl)
theorem isT_166 (X : (KK w).In h) : Looks (model PW w) h (isType (.ref 166)) true := Looks.of_peek X (by kernel_rfl)
theorem mro_166 (X : (KK w).In h) : Looks (model PW w) h (mroOf (.ref 166)) [.ref 166, .type "list", .type "object"] := Looks.of_peek X (by kernel_rfl)
theorem init_166 (X : (KK w).In h) : Looks (model PW w) h (typeLookup (.ref 166) "__init__") (some (.ref 104)) := looks_findIn X (by kernel_rfl)
theorem del_166 (X : (KK w).In h) : Looks (model PW w) h (classHasDel 166) false := Looks.of_peek X (by kernel_rfl)
theorem find_166 (X : (KK w).In h) : ∃ oc od cd sl, h.get? 166 = some ⟨oc, od, .cls cd, sl⟩ := ⟨_, _, _, _, X 166 _ rfl⟩
end

noncomputable abbrev pileObj (dx : Addr) (vs : List Value) (n : Nat) : Obj := { cls := .ref 166, dict := some dx, data := .seq vs.toArray n }
noncomputable def isPile (dx : Addr) (vs : List Value) : HP := fun o => ∃ n, o = pileObj dx vs n

section
variable {w : World} {A : Around} {R : Result → Shared → Prop} {h : Heap} {g : Array GenState} {d : Drawn} {t : Nat} {os : OsState}
theorem check_ln (X : (KK w).In h) (a : Value) : Looks (model PW w) h (checkBuiltinCall "list.__new__" ⟨[.ref 166, a], []⟩) () := Looks.of_peek X (by kernel_rfl)
theorem new_166 (X : (KK w).In h) {a : Value}
    (hq : R (.ok (.ret (.ref (h.objs.size + 1)))) ⟨(h.push emptyDict).push (pileObj h.objs.size [] 0), g, d, t, os⟩) :
    codeAny (model PW w) A (.call (.builtin "list.__new__") ⟨[.ref 166, a], []⟩) R ⟨h, g, d, t, os⟩ := by
  refine codeAny_of_tree ?_
  show wpAny _ A.in1 (do checkBuiltinCall "list.__new__" ⟨[.ref 166, a], []⟩; again (.builtin "list.__new__" ⟨[.ref 166, a], []⟩)) _ _ _
  refine wpAny_bind ((check_ln X a).at (wpAny_pure ⟨plainId_quiet F.plain_list_new _, codeAny_builtin_stack F.entry_list_new rfl fun p st => ?_⟩))
  have l1 := isT_166 X
  have l2 := list_166 X
  have hown := owner_list_new
  simp only [hown]
  have k : ∀ b o, h.get? b = some o → ((h.push emptyDict).push (pileObj h.objs.size [] 0)).get? b = some o := fun b o e => Heap.get?_push_of_some _ (Heap.get?_push_of_some _ e)
  have l3 : Looks (model PW w) ((h.push { cls := .type "dict", data := .dict #[] }).push { cls := .ref 166, dict := some h.objs.size, data := .seq #[] }) (classHasDel 166) false := (del_166 X).keeps k
  repeat (first | lk | with_reducible refine wpAny_pure ?_)
  rw [Heap.size_push]
  exact hq

theorem mk_166 {a : Value} (X : (KK w).In h)
    (hq : codeAny (model PW w) (A.under (.builtin "type.__call__" ⟨[.ref 166, a], []⟩)) (.call (.ref 104) ⟨[.ref (h.objs.size + 1), a], []⟩) (InitBack (h.objs.size + 1) R) ⟨(h.push emptyDict).push (pileObj h.objs.size [] 0), g, d, t, os⟩) :
    codeAny (model PW w) A (.call (.ref 166) ⟨[a], []⟩) R ⟨h, g, d, t, os⟩ := by
  obtain ⟨oc, od, cd, sl, hC⟩ := find_166 X
  have call := call_166 X
  have made := made_166 X
  have e4 : cd.mro.isEmpty = false := by
    have := X 166 _ rfl
    rw [hC] at this
    cases this; rfl
  refine codeAny_of_tree ?_
  show wpAny _ _ (callAny (.ref 166) _) _ _ _
  refine nd_load hC ?_
  show wpAny _ _ (callAny.viaDunder (.ref 166) _) _ _ _
  unfold callAny.viaDunder
  refine wpAny_bind (call.at ?_)
  dsimp only
  rw [tc_bind]
  refine wpAny_bind (wpAny_pure (wpAny_bind (wpAny_pure ?_)))
  refine wpAny_pure (a := Fin.again (.call (.builtin "type.__call__") ⟨[.ref 166, a], []⟩)) (And.intro rfl ?_)
  refine codeAny_call_builtin_at (Code.quiet_builtin _ (by decide +kernel)) entry_typeCall (check_slot tc_kind tc_split (typ_166 X) (tc_args _ _ _) ?_)
  unfold Builtin.«type.__call__»
  have hm := mro_166 X
  repeat (first | with_reducible refine wpAny_call ?_ | lk)
  refine new_166 X ?_
  have k : ∀ b o, h.get? b = some o → ((h.push emptyDict).push (pileObj h.objs.size [] 0)).get? b = some o := fun b o e => Heap.get?_push_of_some _ (Heap.get?_push_of_some _ e)
  have hx : ((h.push emptyDict).push (pileObj h.objs.size [] 0)).get? (h.objs.size + 1) = some (pileObj h.objs.size [] 0) := by
    have := Heap.get?_push_size (h.push emptyDict) (o := pileObj h.objs.size [] 0) rfl
    rwa [Heap.size_push] at this
  have t1 : Looks (model PW w) ((h.push emptyDict).push (pileObj h.objs.size [] 0)) (typeOf (.ref (h.objs.size + 1))) (.ref 166) := (Looks.ld hx).andThen .now
  have s1 := (self_166 X).keeps k
  have i1 := (init_166 X).keeps k
  have b1 := (bind_fn (M := model PW w) X (f := 104) (.ref (h.objs.size + 1)) (by kernel_rfl)).keeps k
  unfold isInstance callSpecial? specialOf
  repeat (first | with_reducible refine wpAny_call ?_ | lk)
  refine codeAny_mono hq fun r s' z => ?_
  rcases r with e | (v | _ | _ | _) <;> first | exact z | exact z.elim | skip
  obtain ⟨rfl, z⟩ := z
  exact wpAny_pure (wpAny_pure z)
end

section
variable {X : Fm} {m : Vars} {σ : Led} {Q : Value → Vars → Led → Prop}
theorem wk_mk_166 {a : Value}
    (h : ∀ x dx, WK (X.withA (X.A.under (.builtin "type.__call__" ⟨[.ref 166, a], []⟩))) m ((x, isPile dx []) :: (dx, (· = emptyDict)) :: σ) (.call (.ref 104) ⟨[.ref x, a], []⟩) (fun v m' σ' => v = .none ∧ Q (.ref x) m' σ')) :
    WK X m σ (.call (.ref 166) ⟨[a], []⟩) Q := fun s S => by
  obtain ⟨hh, g, d, t, os⟩ := s
  refine mk_166 S.world.k ?_
  have S1 := S.push (o := emptyDict) (P := (· = emptyDict)) rfl rfl
  have S2 := S1.push (o := pileObj hh.objs.size [] 0) (P := isPile hh.objs.size []) rfl ⟨0, rfl⟩
  rw [show ({ heap := hh.push emptyDict, gens := g, drawn := d, toks := t, os := os } : Shared).heap.objs.size = hh.objs.size + 1 from Heap.size_push ..] at S2
  exact (h _ _).use (X := X.withA _) S2 fun a m' σ' s' S' q => by
    obtain ⟨rfl, q⟩ := q
    exact ⟨rfl, m', σ', S', q⟩
end
end Mine
end
end
section
open PySem PySem.W PySem.Calls PyProof.Rows PySem.Spec
set_option Elab.async false
set_option linter.unusedVariables false
set_option maxRecDepth 100000
noncomputable section
namespace Mine
theorem slot_wget : Slot "wrapper_descriptor" "__get__" "wrapper_descriptor.__get__" := .of (owner := "wrapper_descriptor") (n := "__get__") (by rw [typeLookup_type, builtinLookup_eq_fast]; kernel_rfl) (by decide +kernel) (by decide +kernel) (by decide +kernel)
  (by first | exact .inl (by decide +kernel) | exact .inr (by decide +kernel)) (by rw [isSubtype_type]; kernel_rfl)
theorem entry_wget : entryFor table "wrapper_descriptor.__get__" = some Builtin.«wrapper_descriptor.__get__» := entryFor_of_tree (by kernel_rfl)
theorem plain_wget : plainId "wrapper_descriptor.__get__" = true := by decide +kernel
theorem kind_wget : builtinKind "wrapper_descriptor.__get__" = some .slot := by decide +kernel
theorem split_wget : splitId "wrapper_descriptor.__get__" = some ("wrapper_descriptor", "__get__") := by decide +kernel
theorem args_wget (a b c : Value) : argsOk "wrapper_descriptor.__get__" ⟨[a, b, c], []⟩ := by unfold argsOk; kernel_rfl
theorem no_opaque (w : World) {h : Heap} (X : (KK w).In h) : Looks (model PW w) h (opaqueClassAbove (.ref 166)) none := looks_opaque X (by kernel_rfl)

noncomputable abbrev mwObj (id : String) (x : Addr) : Obj := { cls := .type "method-wrapper", data := .fields #[.builtin id, .ref x] }
section
variable {w : World} {A : Around} {E : Value → Shared → Prop} {h : Heap} {g : Array GenState} {d : Drawn} {t : Nat} {os : OsState}

theorem super_ga {so x dx : Addr} {n : Nat} {vs : List Value} {name : Str} {id : String} {tk : Tok} {Q : Fin → Shared → Prop} (X : (KK w).In h)
    (hso : h.get? so = some (ks_superObj 166 x 166)) (hx : h.get? x = some (pileObj dx vs n)) (hf : alongIn (KK w) name [.type "list", .type "object"] = some (some (.builtin id)))
    (hT : typeOf (.builtin id) = pure (.type "wrapper_descriptor")) (hn : (name == ("__class__" : Str)) = false) (hI : Looks (model PW w) h (checkBuiltinCall "wrapper_descriptor.__get__" ⟨[.builtin id, .ref x, .ref 166], []⟩) ())
    (hR : ∀ A', wpAny (model PW w) A' (Builtin.«wrapper_descriptor.__get__» ⟨[.builtin id, .ref x, .ref 166], []⟩) (fun fin s' => fin = .done (.ret (.ref h.objs.size)) ∧ s' = ⟨h.push (mwObj id x), g, d, t, os⟩) (fun _ _ => False) ⟨h, g, d, t, os⟩)
    (hq : Q (.done (.ret (.ref h.objs.size))) ⟨h.push (mwObj id x), g, d, t, os⟩) :
    wpAny (model PW w) A (Builtin.«super.__getattribute__» ⟨[.ref so, .str name tk], []⟩) Q E ⟨h, g, d, t, os⟩ := by
  have hlk := slot_wget.lookup
  have hxC : x ≠ 166 := by
    rintro rfl
    have := X 166 _ rfl
    rw [hx] at this; cases this
  have hne : (Value.ref x == Value.ref 166) = false := by simp [hxC]
  have hdt : (ks_superObj 166 x 166).data = .fields #[.ref 166, .ref x, .ref 166] := rfl
  have f0 : (#[.ref 166, .ref x, .ref 166] : Array Value)[0]? = some (.ref 166) := rfl
  have f1 : (#[.ref 166, .ref x, .ref 166] : Array Value)[1]? = some (.ref x) := rfl
  have f2 : (#[.ref 166, .ref x, .ref 166] : Array Value)[2]? = some (.ref 166) := rfl
  have hno := no_opaque w X
  have hC := mro_166 X
  have hl : (([.ref 166, .type "list", .type "object"] : List Value).dropWhile (· != .ref 166)).drop 1 = [.type "list", .type "object"] := rfl
  unfold Builtin.«super.__getattribute__»
  repeat (first
    | (with_reducible refine wpAny_field hso hdt f0 ?_) | (with_reducible refine wpAny_field hso hdt f1 ?_) | (with_reducible refine wpAny_field hso hdt f2 ?_)
    | (with_reducible refine ks_wpAny_notOpaque hno ?_)
    | (with_reducible refine Looks.at hC ?_; rw [hl])
    | (refine ks_forIn_along X (fun _ _ => rfl) rfl ?_ hf)
    | (with_reducible refine wpAny_of_eq hT ?_)
    | (simp only [hn, hne, Bool.or_false, Bool.false_eq_true, if_false])
    | (with_reducible refine wpAny_call ?_)
    | wp_step
    | dsimp only)
  refine codeAny_call_builtin plain_wget entry_wget (hI.at (wpAny_mono (hR _) (fun fin s' hs => ?_) fun _ _ z => z.elim))
  refine and2 (hs) fun oq0 oq1 => ?_; try clear hs; subst oq0; subst oq1
  exact wpAny_pure (wpAny_pure hq)

theorem inst_166 {x dx : Addr} {vs : List Value} {n : Nat} (X : (KK w).In h) (hx : h.get? x = some (pileObj dx vs n)) : Looks (model PW w) h (isInstance (.ref x) (.type "list")) true :=
  ((Looks.ld (part := some headPart) hx).andThen .now).andThen (list_166 X)
theorem wget_check {id : String} (b c : Value) (hT : Looks (model PW w) h (isInstance (.builtin id) (.type "wrapper_descriptor")) true) : Looks (model PW w) h (checkBuiltinCall "wrapper_descriptor.__get__" ⟨[.builtin id, b, c], []⟩) () :=
  fun A Q E s k q => by
    obtain ⟨hp, g, d, tk, os⟩ := s
    exact @check_slot (model PW w) A E ⟨hp, g, d, tk, os⟩ "wrapper_descriptor.__get__" "wrapper_descriptor" "__get__" (.builtin id) [b, c] [] Q kind_wget split_wget (hT.keeps k) (args_wget _ _ _) q
theorem wget_run {id nm : String} {x dx : Addr} {vs : List Value} {n : Nat} (e : id.cutAt '.' = ["list", nm]) (X : (KK w).In h) (hx : h.get? x = some (pileObj dx vs n)) (A' : Around) : wpAny (model PW w) A' (Builtin.«wrapper_descriptor.__get__» ⟨[.builtin id, .ref x, .ref 166], []⟩)
    (fun fin s' => fin = .done (.ret (.ref h.objs.size)) ∧ s' = ⟨h.push (mwObj id x), g, d, t, os⟩) (fun _ _ => False) ⟨h, g, d, t, os⟩ := by
  have I := list_166 X
  have e2 : ".".intercalate (["list", nm] : List String).dropLast = "list" := by simp
  unfold Builtin.«wrapper_descriptor.__get__»
  repeat (first | (rw [e]) | (rw [e2]) | (with_reducible refine I.at ?_) | wp_step | (with_reducible refine wpAny_newObj_type ?_ (by size_fits)) | dsimp only)
  exact ⟨rfl, rfl⟩

theorem getMethod_super {so x dx : Addr} {n : Nat} {vs : List Value} {name : Str} {id nm : String} {pl : Sem Bool} {Q : Value × List Value → Shared → Prop} (X : (KK w).In h)
    (hso : h.get? so = some (ks_superObj 166 x 166)) (hx : h.get? x = some (pileObj dx vs n)) (hf : alongIn (KK w) name [.type "list", .type "object"] = some (some (.builtin id)))
    (hT : typeOf (.builtin id) = pure (.type "wrapper_descriptor")) (hI : isSubtype (.type "wrapper_descriptor") (.type "wrapper_descriptor") = pure true) (hn : (name == ("__class__" : Str)) = false) (e : id.cutAt '.' = ["list", nm])
    (hq : Q (.ref h.objs.size, []) ⟨h.push (mwObj id x), g, d, t + 1, os⟩) :
    wpAny (model PW w) A (getMethod (.ref so) name pl) Q E ⟨h, g, d, t, os⟩ := by
  have hlk := PySem.F.ks_slot_super_ga.lookup
  have hcan := PySem.F.ks_canon_super_ga
  have hT' : ∀ t', (⟨h, g, d, t', os⟩ : Shared).TypeIs (.ref so) "super" := fun _ => ⟨_, hso, rfl⟩
  have hI' : Looks (model PW w) h (isInstance (.builtin id) (.type "wrapper_descriptor")) true := (Looks.of_pure hT).andThen (Looks.of_pure hI)
  unfold getMethod
  refine wpAny_bind (wpAny_specialOf (hT' _) hlk ?_)
  show wpAny _ _ (if (Manifest.canonical "super.__getattribute__" != "object.__getattribute__") = true then _ else _) _ _ _
  refine wp_if_pos hcan ?_
  unfold getAttr getAttrBy
  refine wpAny_bind (wpAny_bind (wpAny_mkText (wpAny_holding (wpAny_bind (wpAny_typeOf (hT' _) (wpAny_bind (wpAny_of_eq hlk ?_)))))))
  show wpAny _ _ (getAttrByItsOwn (.ref so) (.str name t) (.type "super") (.builtin "super.__getattribute__") true false) _ _ _
  unfold getAttrByItsOwn hookBefore callGetattribute boundAndCalled
  refine wpAny_bind (wpAny_of_eq (show (if onTheHeap (.type "super") then typeLookup (.type "super") "__getattr__" else pure none) = pure none from rfl) ?_)
  refine wpAny_bind (wpAny_attempt (wpAny_holding ?_))
  show wpAny _ _ (bindSpecial (.builtin "super.__getattribute__") (.ref so) >>= _) _ _ _
  refine wpAny_bind (wpAny_of_eq (PySem.F.ks_slot_super_ga.bind _) ?_)
  refine wpAny_mono (Q := fun v s' => v = .ref h.objs.size ∧ s' = ⟨h.push (mwObj id x), g, d, t + 1, os⟩) (E := fun _ _ => False)
    (wpAny_call_entry PySem.F.ks_slot_super_ga (hT' _) PySem.F.ks_entry_super_ga (super_ga X hso hx hf hT hn (wget_check _ _ hI') (wget_run e X hx) ⟨_, rfl, rfl, rfl⟩) (PySem.F.ks_gaArgs_super _ _)) (fun v s' hv => ?_) fun _ _ z => z.elim
  refine and2 (hv) fun oq0 oq1 => ?_; try clear hv; subst oq0; subst oq1
  exact wpAny_pure (wpAny_pure hq)

theorem call_mw {q x : Addr} {id : String} {b : Builtin} {Q : Value → Shared → Prop} (hq : plainId id = true) (hb : entryFor table id = some b) (hm : h.get? q = some (mwObj id x))
    (hc : checkBoundCall id ⟨[.ref x], []⟩ = pure ()) (hr : wpAny (model PW w) A.in1 (b ⟨[.ref x], []⟩) (fun fin s' => match fin with | .done (.ret v) => Q v s' | _ => False) (fun _ _ => False) ⟨h, g, d, t, os⟩) :
    wpAny (model PW w) A (callWith pos (.ref q) [] (backTo pos (starEach [] env)) []) Q E ⟨h, g, d, t, os⟩ := by
  refine callWith_of (P := fun h' => h' = h) rfl (fun h' e => ⟨.machine, .inr (.inl rfl), e ▸ (Looks.ld (part := none) hm).andThen .now⟩) (evalArgs_nil3 ⟨rfl, ?_⟩)
  refine wpAny_call (codeAny_of_tree ?_)
  show wpAny _ A.in1 (callAny (.ref q) _) _ _ _
  unfold callAny
  refine wpAny_bind (wpAny_load hm ?_)
  show wpAny _ _ (checkBoundCall id ⟨[.ref x], []⟩ >>= _) _ _ _
  rw [hc]
  refine wpAny_bind (wpAny_pure ?_)
  refine wpAny_bind (wpAny_pure (wpAny_pure ⟨plainId_quiet hq _, codeAny_builtin hb ?_⟩))
  rw [Around.under_plainId hq]
  refine wpAny_mono hr (fun fin s' z => ?_) fun _ _ z => z.elim
  rcases fin with (_ | _ | _ | v) | c <;> first | exact z.elim | exact z
end

theorem boot_super : bootBuiltins (Str.ofString "super") = some (.type "super") := by kernel_rfl
noncomputable def WAt {α : Type} (X : Fm) (c : Code) (m : Vars) (σ : Led) (t : Sem α) (Q : α → Vars → Led → Prop) : Prop :=
  ∀ s, St X.C X.B X.F X.L m σ s → _root_.PySem.wpAt (MM X.C) X.A c t (fun a s' => ∃ m' σ', St X.C X.B X.F X.L m' σ' s' ∧ Q a m' σ') (fun _ _ => False) s
section
variable {X : Fm} {c : Code} {m : Vars} {σ : Led} {env : Env} {pos : Pos}
theorem WAt.use {α : Type} {t : Sem α} {Q : α → Vars → Led → Prop} (h : WAt X c m σ t Q) {s : Shared} (S : St X.C X.B X.F X.L m σ s) {Q' : α → Shared → Prop} {E : Value → Shared → Prop}
    (hQ : ∀ a m' σ' s', St X.C X.B X.F X.L m' σ' s' → Q a m' σ' → Q' a s') : _root_.PySem.wpAt (MM X.C) X.A c t Q' E s :=
  _root_.PySem.wpAt_mono (h s S) (fun a s' ⟨m', σ', S', q⟩ => hQ a m' σ' s' S' q) fun _ _ f => f.elim
theorem wat_of {α : Type} {t : Sem α} {Q : α → Vars → Led → Prop} (h : W X m σ t Q) : WAt X c m σ t Q := fun s S => wpAt_of_wpAny (h s S)
theorem wat_cons {st : Stmt} {rest : List Stmt} {Q : Flow → Vars → Led → Prop} (h : WAt X c m σ (exec st env) (fun f m' σ' => match f with | .next => WAt X c m' σ' (execs rest env) Q | f => Q f m' σ')) : WAt X c m σ (execs (st :: rest) env) Q := fun s S =>
  ks_wpAt_execs_cons (h.use S fun f m' σ' s' S' q => by
    cases f with
    | next => exact q s' S'
    | brk => exact ⟨m', σ', S', q⟩
    | cont => exact ⟨m', σ', S', q⟩
    | ret v => exact ⟨m', σ', S', q⟩)
theorem wat_return {e : Expr} {Q : Flow → Vars → Led → Prop} (h : WAt X c m σ (eval e env) (fun v => Q (.ret v))) : WAt X c m σ (exec (.Return (some e) pos) env) Q := fun s S => ks_wpAt_Return_some (h s S)
theorem wat_expr {e : Expr} {Q : Flow → Vars → Led → Prop} (h : WAt X c m σ (eval e env) (fun _ => Q .next)) (hi : autoParam (interactive env = false) Mine.dfl0._auto_1) (hs : autoParam (swapsWith e none pos.line env = pure false) Mine.dfl0._auto_1) : WAt X c m σ (exec (.Expr e pos) env) Q :=
  fun s S => ks_wpAt_Expr_any (h s S) hi hs

theorem wat_super {body : List Stmt} {q : Str} {scope : Scope} {p0 p1 apos : Pos} {name : Str} {id nm : String} {b : Builtin} {f cda x dx : Addr} {vs : List Value} {fd : FuncData} {ar : Arg} {cvs : Array Value} {file : Str} {tf : Tok} {oc ccl : Value} {od cdd : Option Addr} {osl ccs : Array (Option Value)} {Q : Value → Vars → Led → Prop}
    (hx : Kn X.B σ x (isPile dx vs)) (hv : m ar.arg = some (.ref x)) (hf : (KK X.C.w).lookup f = some ⟨oc, od, .func fd, osl⟩) (hp : (fd.params.posonlyargs ++ fd.params.args).head? = some ar)
    (hcode : (KK X.C.w).lookup cda = some ⟨ccl, cdd, .fields cvs, ccs⟩) (hvs : cvs[2]? = some (.str file tf)) (hfile : ((PW.main.file : Str) == file) = true)
    (hat : (name == ("__class__" : Str)) = false) (hks : scope.names.lookup ("super" : Str) = some .globalImplicit) (hkc : scope.names.lookup ("__class__" : Str) = some .free) (hka : scope.names.lookup ar.arg = some .local) (hk : scope.kind = .function)
    (hal : alongIn (KK X.C.w) name [.type "list", .type "object"] = some (some (.builtin id)))
    (hT : typeOf (.builtin id) = pure (.type "wrapper_descriptor")) (e : id.cutAt '.' = ["list", nm]) (hq : plainId id = true) (hb : entryFor table id = some b) (hc : checkBoundCall id ⟨[.ref x], []⟩ = pure ())
    (h : W (X.withA X.A.in1) m σ (b ⟨[.ref x], []⟩) (fun fin m' σ' => match fin with | .done (.ret v) => Q v m' σ' | _ => False))
    {pl : Sem Bool} (he : eval (.Call (.Attribute (.Call (.Name "super" p0) [] [] p1) name apos) [] [] pos) (envX q scope X.L f (.ref cda) [("__class__", 91)]) = (do
      let ov ← attributeBase (.Call (.Name "super" p0) [] [] p1) name (envX q scope X.L f (.ref cda) [("__class__", 91)]) (eval (.Call (.Name "super" p0) [] [] p1) (envX q scope X.L f (.ref cda) [("__class__", 91)]))
      standAt apos.atName
      let (f', first) ← holding [ov] (getMethod ov name pl)
      callWith pos f' first (backTo pos (starEach [] (envX q scope X.L f (.ref cda) [("__class__", 91)]))) []) := by rfl) :
    WAt X (.func body (envX q scope X.L f (.ref cda) [("__class__", 91)])) m σ (eval (.Call (.Attribute (.Call (.Name "super" p0) [] [] p1) name apos) [] [] pos) (envX q scope X.L f (.ref cda) [("__class__", 91)])) Q := fun s S => by
  have X₀ := S.world.k
  have T := S.world.t
  have hw := hx
  obtain ⟨ox, hox, n, rfl⟩ := S.kn hx
  obtain ⟨oD, hD1, cdD, hD2⟩ : ∃ oD, s.heap.get? 166 = some oD ∧ ∃ cd, oD.data = .cls cd := by
    refine ex4 (find_166 X₀) fun oc od cd sl e => ?_
    exact ⟨_, e, cd, rfl⟩
  refine ks_wpAt_MethodCall (pl := pl) ?_ he
  refine ks_wpAt_super_base (env := envX q scope X.L f (.ref cda) [("__class__", 91)]) (f := f) (cc := cda) hks hkc hat rfl (X₀ _ _ hf) rfl hp rfl (X₀ _ _ hcode) rfl hvs hfile (by decide +kernel) ?_
  refine ks_loadName_global hk hks (loadGlobal_builtin (env := envX q scope X.L f (.ref cda) [("__class__", 91)]) T.g (mg_none_of X₀ T.g (by kernel_rfl)) T.b ((T.builtins (Str.ofString "super") (by decide +kernel)).trans (boot_super : bootBuiltins (Str.ofString "super") = some (.type "super"))) ⟨rfl, ?_⟩)
  refine wpAny_loadName_free hk hkc rfl ⟨_, X₀ 91 _ rfl, rfl⟩ ?_
  refine wpAny_loadName_local hk hka S.ns hv ?_
  obtain ⟨hh, g, d, t, os⟩ := s
  refine ks_wpAny_isType_cls hD1 hD2 ⟨rfl, ?_⟩
  refine ks_wpAny_call_super hD1 hD2 hox rfl (fun c e => by cases e) (self_166 X₀) (fun h' e1 k1 => ?_)
  have S1 : St X.C X.B X.F X.L m σ ⟨h', g, d, t, os⟩ := S.grow k1 S.gens
  refine getMethod_super S1.world.k e1 (k1 _ _ hox) hal hT (by rw [isSubtype_type]; kernel_rfl) hat e ?_
  have S2 : St X.C X.B X.F X.L m σ ⟨h'.push (mwObj id x), g, d, t + 1, os⟩ := S1.grow (fun _ _ e => Heap.get?_push_of_some _ e) S.gens
  refine call_mw hq hb (Heap.get?_push_size _ rfl) hc ?_
  refine h.use (X := X.withA X.A.in1) S2 fun fin m' σ' s' S' z => ?_
  rcases fin with (_ | _ | _ | v) | c <;> first | exact z.elim | exact ⟨m', σ', S', z⟩
end
end Mine
end
end
section
open PySem PySem.W PySem.Calls PyProof.Rows PySem.Spec
set_option Elab.async false
set_option linter.unusedVariables false
set_option maxRecDepth 100000
noncomputable section
namespace Mine

section
variable {X : Fm} {m : Vars} {σ : Led}
theorem w_setAttr1 {a dx C : Addr} {name : Str} {v : Value} {P : HP} {cd : ClassData} {Q : Unit → Vars → Led → Prop} (ha : Kn X.B σ a P) (hP : ∀ o, P o → o.cls = .ref C ∧ o.dict = some dx ∧ notCls o = true)
    (hs : findIn (KK X.C.w) (.ref C) "__setattr__" = some (some (.builtin "object.__setattr__"))) (hc : clsIn (KK X.C.w) C = some cd) (hd : cd.hasDict = true) (hne : cd.mro.isEmpty = false) (hob : cd.mro.contains (.type "object") = true)
    (hpass : ∀ self, refuseLoop self "__setattr__" cd.mro = pure ()) (hn : findIn (KK X.C.w) (.ref C) name = some none) (h : Q () m ((dx, isDict1 name v) :: σ)) :
    W X m ((dx, (· = emptyDict)) :: σ) (setAttr (.ref a) name v) Q := fun s S => by
  obtain ⟨ox, od, oh⟩ := S.inst (a := a) (dx := dx) (C := C) (P := P) (D := (· = emptyDict)) (ha.elim .inl fun h => .inr (.tail _ h)) (.inr (.head _)) hP; refine and3 oh fun I p oq2 => ?_; clear oh; subst oq2
  have X₀ := S.world.k
  have SF := PySem.F.store_object
  obtain ⟨hh, g, d, t, os⟩ := s
  refine set_plain X₀ I hs ?_
  have sub : Looks (model PW X.C.w) hh (isInstance (.ref a) (.type "object")) true := I.type.andThen (looks_mroIn X₀ (by unfold mroIn; rw [hc, Option.bind_some, if_neg (by rw [hne]; decide), hob]))
  refine codeAny_call_builtin SF.slot.plain SF.entry (@check_slot (model PW X.C.w) _ _ ⟨hh, g, d, t + 1, os⟩ "object.__setattr__" "object" "__setattr__" (.ref a) [.str name t, v] [] _ SF.kind SF.split sub (SF.args (.ref a) (.str name t) v) ?_)
  have hm : Looks (model PW X.C.w) hh (mroOf (.ref C)) cd.mro := (looks_clsIn X₀ hc).andThen .now
  have L1 := looks_findIn (M := model PW X.C.w) X₀ hn
  rw [osa_eq, refuse_eq]
  refine wpAny_bind (wpAny_bind (I.type.at (wpAny_bind (hm.at ?_))))
  rw [hpass]
  refine wpAny_pure (wpAny_bind (I.type.at (wpAny_bind (L1.at (wpAny_bind (wpAny_pure (a := (none : Option Value)) ?_))))))
  obtain ⟨hx, hcl, hnc, hdd⟩ := I
  obtain ⟨oc, odi, oda, osl⟩ := ox
  dsimp only at hcl hdd
  obtain ⟨q1, q2, q3⟩ := hP _ p
  dsimp only at q2
  subst hcl q2
  have D := hdd
  refine wpAny_bind (wpAny_pure (wpAny_bind (wpAny_bind (wpAny_loadPart hx (wpAny_bind ((looks_clsIn (M := model PW X.C.w) (h := hh) X₀ hc).at ?_))))))
  rw [hd]
  refine wpAny_pure (a := some dx) (wpAny_bind (wpAny_pure (wpAny_bind ?_)))
  unfold nsSet
  refine wpAny_bind (wpAny_bind (wpAny_askSetting (wpAny_pure (wpAny_bind (wpAny_mkText (wpAny_bind (wpAny_loadPart D ?_)))))))
  refine wpAny_updatePart D ?_
  have e' : (Obj.putName name (PyData.keyHash X.C.w.params name) (.str name (t + 1)) v emptyDict) = { cls := .type "dict", data := .dict #[⟨PyData.keyHash X.C.w.params name, .str name (t + 1), v⟩] 1 } := rfl
  have S' := S.set0 (a := dx) (P := (· = emptyDict)) (P' := isDict1 name v) (t := t + 1 + 1) (h' := hh.update dx (Obj.putName name (PyData.keyHash X.C.w.params name) (.str name (t + 1)) v)) (o' := _) (Heap.get?_update_self _ D (by rw [e']; rfl)) ⟨_, _, _, e'⟩ (Heap.SameBut.update ..)
  have D' := Heap.get?_update_self (h := hh) (Obj.putName name (PyData.keyHash X.C.w.params name) (.str name (t + 1)) v) D (by rw [e']; rfl)
  rw [e'] at D'
  refine wpAny_bind (wpAny_lookBehind D' (pastItsLine_dict (by show 1 ≤ _; rw [sizeLine_eq]; (first | lia | omega))) ?_)
  exact wpAny_pure ⟨m, _, S', h⟩
end

section
variable {X : Fm} {m : Vars} {σ : Led} {Q : Value → Vars → Led → Prop}
theorem wk_defAt {σ₁ σ₂ : Led} {f : Addr} {pos : List Value} {kw : List (Str × Value)} {name qual : Str} {params : Arguments} {body : List Stmt} {scope : Scope} {cl : List (Str × Addr)}
    {dV kV doc pm cdv ct oc : Value} {an od : Option Addr} {osl : Array (Option Value)} {binds : List (Str × Value)} {n : Nat}
    (ho : (KK X.C.w).lookup f = some ⟨oc, od, .func (fnX name qual params body scope cl dV kV doc pm an cdv ct), osl⟩) (hcd : codeIn (KK X.C.w) cdv qual = true)
    (hA : Ok (n + 1) X.A) (hbind : ∀ h, (KK X.C.w).In h → ∀ s : Shared, s.heap = h → BindsTo s (fnX name qual params body scope cl dV kV doc pm an cdv ct) ⟨pos, kw⟩ binds)
    (hloc : (binds.all fun x => scope.names.lookup x.1 == some .local) = true) (hcell : (scope.names.all fun x => x.2 != .cell) = true)
    (h : ∀ X' : Fm, X'.C = X.C → (∀ a P, Kn X.B σ₂ a P → BI X'.B a P) → Ok n X'.A → X'.A = X.A.deeper (envX qual scope X'.L f cdv cl) →
      WAt X' (.func body (envX qual scope X'.L f cdv cl)) (fun y => binds.reverse.lookup y) σ₁ (execs body (envX qual scope X'.L f cdv cl)) (fun fl _ σ' => Q (match fl with | .ret v => v | _ => .none) m (σ' ++ σ₂)))
    (hco : autoParam (scope.isCoroutine = false) Mine.dfl0._auto_1) (hgen : autoParam (scope.isGenerator = false) Mine.dfl0._auto_1) (hk : autoParam (scope.kind = .function) Mine.dfl0._auto_1) :
    WK X m (σ₁ ++ σ₂) (.call (.ref f) ⟨pos, kw⟩) Q := fun s S => by
  refine ks_codeAny_call_defAt (fd := fnX name qual params body scope cl dV kV doc pm an cdv ct) (body := body) (binds := binds) (Nat.lt_of_lt_of_le (by have := hA.dp; (first | lia | omega) : X.A.depth < 900) (by decide)) (S.world.k _ _ ho) rfl S.world.t.nolimit (codeRec_of S.world.k hcd) rfl
    (hbind _ S.world.k s rfl) (fun x hx => by simpa using List.all_eq_true.mp hcell x hx) (fun x hx => by simpa using List.all_eq_true.mp hloc x hx) (fun h₁ hns hk₁ => ?_) hco hgen hk
  obtain ⟨B', oh⟩ := S.frame; refine and4 oh fun hB hkn S₁ back => ?_; clear oh
  obtain ⟨F', oh⟩ := S₁.hideL (get_size_none _) hns hk₁ (t := s.toks + binds.length); refine and4 oh fun hF _ S₂ back2 => ?_; clear oh
  have ok : Ok n (X.A.deeper (envX qual scope s.heap.objs.size f cdv cl)) := ⟨hA.hd, by have := hA.dp; show X.A.depth + 1 + n ≤ 900; (first | lia | omega), by have := hA.un; show X.A.units + 3 + 20 * n ≤ 9000; (first | lia | omega), by
    have := hA.fr
    show (X.A.frames.map _).isSome = true
    rw [Option.isSome_map]; exact this⟩
  exact (h ⟨X.C, X.A.deeper (envX qual scope s.heap.objs.size f cdv cl), B', F', s.heap.objs.size⟩ rfl hkn ok rfl).use S₂ fun fl m' σ' s' S' q => ⟨m, _, back _ _ _ (back2 _ _ _ S'), q⟩

theorem mapSeq_is (c : Value) (d : Option Addr) (vs : Array Value) (n : Nat) (f : Array Value → Array Value) : ∃ n', Obj.mapSeq f { cls := c, dict := d, data := .seq vs n } = { cls := c, dict := d, data := .seq (f vs) n' } := ⟨_, rfl⟩
theorem w_updateSeq {x : Addr} {c : Value} {d : Option Addr} {vs : List Value} {f : Array Value → Array Value} {Q : Unit → Vars → Led → Prop} (hz : vs.length ≤ sizeLine) (hz' : (f vs.toArray).size ≤ sizeLine + 1)
    (h : Q () m ((x, fun o => ∃ n, o = { cls := c, dict := d, data := .seq (f vs.toArray) n }) :: σ)) : W X m ((x, fun o => ∃ n, o = { cls := c, dict := d, data := .seq vs.toArray n }) :: σ) (updateSeq x f) Q := fun s S => by
  obtain ⟨_, e, n, rfl⟩ := S.kn (.inr (.head _))
  obtain ⟨n', hn'⟩ := mapSeq_is c d vs.toArray n f
  refine wpAny_updateSeq e rfl ⟨m, _, ?_, h⟩ (by simpa using hz) hz'
  exact S.set0 (P' := fun o => ∃ n, o = { cls := c, dict := d, data := .seq (f vs.toArray) n }) (t := s.toks) (h' := s.heap.update x (Obj.mapSeq f)) (Heap.get?_update_self _ e (by rw [hn']; rfl)) ⟨n', hn'⟩ (Heap.SameBut.update ..)
theorem w_seqItems {x : Addr} {c : Value} {d : Option Addr} {vs : List Value} {Q : Option (Array Value) → Vars → Led → Prop} (hx : Kn X.B σ x (fun o => ∃ n, o = { cls := c, dict := d, data := .seq vs.toArray n })) (h : Q (some vs.toArray) m σ) : W X m σ (seqItems? (.ref x)) Q := by
  unfold seqItems?
  refine w_bind (w_load hx fun o ho => ?_)
  obtain ⟨n, rfl⟩ := ho
  exact w_pure h
theorem w_listItems {x : Addr} {c : Value} {d : Option Addr} {vs : List Value} {Q : Array Value → Vars → Led → Prop} (hx : Kn X.B σ x (fun o => ∃ n, o = { cls := c, dict := d, data := .seq vs.toArray n })) (h : Q vs.toArray m σ) : W X m σ (Builtin.List.listItems (.ref x)) Q := by
  unfold Builtin.List.listItems
  exact w_bind (w_seqItems hx (w_pure h))
theorem w_list_init {x dx : Addr} {Q : PySem.Fin → Vars → Led → Prop} (h : Q (.done (.ret .none)) m ((x, isPile dx []) :: σ)) : W X m ((x, isPile dx []) :: σ) (Builtin.«list.__init__» ⟨[.ref x], []⟩) Q := by
  unfold Builtin.«list.__init__»
  refine w_bind (w_listItems (vs := []) (.inr (.head _)) (w_bind (w_updateSeq (vs := []) (f := fun _ => #[]) (Nat.zero_le _) (Nat.zero_le _) (w_bind (w_letGo (w_pure h))))))

theorem binds_peek {w : World} {h : Heap} (X₀ : (KK w).In h) {s : Shared} (hs : s.heap = h) {fd : FuncData} {args : Args} {binds : List (Str × Value)} (e : ∀ S, peek (KK w) S (bindArgs fd args) = some binds) : BindsTo s fd args binds :=
  fun M A E Q q => (Looks.of_peek (M := M) (hs ▸ X₀) (e _)).here q

theorem wk_init {x dx : Addr} {a : Value} (hA : Ok 3 X.A) (h : Q .none m ((x, isPile dx []) :: (dx, isDict1 "_initial_size" a) :: σ)) : WK X m ((x, isPile dx []) :: (dx, (· = emptyDict)) :: σ) (.call (.ref 104) ⟨[.ref x, a], []⟩) Q := by
  refine wk_defAt (σ₁ := [(x, isPile dx []), (dx, (· = emptyDict))]) (σ₂ := σ) (n := 2) (binds := [("self", .ref x), ("initial_size", a)]) rfl rfl hA (fun _ X₀ s hs => binds_peek X₀ hs fun S => by kernel_rfl) rfl rfl ?_
  intro X' hC hK hA' hA''
  refine wat_cons (wat_of (w_assign_attr (w_local rfl (w_local rfl (w_perm (List.Perm.swap _ _ _) (w_setAttr1 (C := 166) (P := isPile dx []) (.inr (.head _)) (fun o ⟨n, e⟩ => by subst e; exact ⟨rfl, rfl, rfl⟩) (by kernel_rfl) rfl rfl rfl rfl (fun self => by kernel_rfl) (by kernel_rfl) ?_))))))
  refine wat_cons (wat_expr (wat_super (x := x) (dx := dx) (vs := []) (id := "list.__init__") (nm := "__init__") (b := Builtin.«list.__init__») (.inr (.tail _ (.head _))) rfl rfl rfl rfl rfl (by decide +kernel) (by decide) rfl rfl rfl rfl (by kernel_rfl) (by kernel_rfl) (by decide +kernel) (by decide +kernel) (entryFor_of_tree (by kernel_rfl)) (by kernel_rfl)
    (w_perm (List.Perm.swap _ _ _) (w_list_init ?_)) (by rfl)))
  exact wat_of (w_execs_nil h)
end
end Mine
end
end
section
open PySem PySem.W PySem.Calls PyProof.Rows PySem.Spec
set_option Elab.async false
set_option linter.unusedVariables false
set_option maxRecDepth 100000
noncomputable section
namespace Mine
section
variable {X : Fm} {m : Vars} {σ : Led} {Q : Value → Vars → Led → Prop}
theorem canon_lga : (Manifest.canonical "list.__getattribute__" != "object.__getattribute__") = false := by decide +kernel
theorem w_getMethod_bi {a dx C : Addr} {id : String} {name : Str} {pl : Sem Bool} {P D : HP} {Q : Value × List Value → Vars → Led → Prop} (ha : Kn X.B σ a P) (hd : Kn X.B σ dx D) (hP : ∀ o, P o → o.cls = .ref C ∧ o.dict = some dx ∧ notCls o = true)
    (hD : ∀ o, D o → shadowIn (some o) name = some false) (hga : findIn (KK X.C.w) (.ref C) "__getattribute__" = some (some (.builtin "list.__getattribute__"))) (hk : findIn (KK X.C.w) (.ref C) "__getattr__" = some none)
    (hf : findIn (KK X.C.w) (.ref C) name = some (some (.builtin id))) (ht : typeOf (.builtin id) = pure (.type "method_descriptor")) (h : Q (.builtin id, [.ref a]) m σ) : W X m σ (getMethod (.ref a) name pl) Q := fun s S => by
  obtain ⟨ox, od, oh⟩ := S.inst ha hd hP; refine and3 oh fun I p q => ?_; clear oh
  have X₀ := S.world.k
  have hcan := canon_lga
  have hs := hD _ q
  unfold getMethod specialOf
  refine wpAny_bind (wpAny_bind (I.type.here ((looks_findIn X₀ hga).here ?_)))
  dsimp only
  rw [hcan, if_neg (by decide)]
  refine wpAny_bind (wpAny_bind (I.type.here ((looks_findIn X₀ hk).here ?_)))
  refine wpAny_bind (wpAny_bind (I.type.here ((looks_findIn X₀ hf).here (wpAny_bind (wpAny_of_eq ht ?_)))))
  refine wp_if_neg (by decide +kernel) ?_
  refine wpAny_bind (wpAny_loadPart I.at_ ?_)
  have hd := I.dict
  cases e : ox.dict with
  | none => exact wpAny_bind (wpAny_rule (wpAny_pure ⟨m, σ, S, h⟩))
  | some dx' =>
    rw [e] at hd
    obtain ⟨r, a, b⟩ := Option.map_eq_some_iff.mp hs
    refine wpAny_bind (wpAny_bind (wpAny_loadPart hd ?_))
    rw [nsLook_of a]
    refine wpAny_pure ?_
    rw [b]
    exact wpAny_bind (wpAny_rule (wpAny_pure ⟨m, σ, S, h⟩))

theorem w_getMethod_fnL {a dx C f : Addr} {name : Str} {pl : Sem Bool} {P D : HP} {Q : Value × List Value → Vars → Led → Prop} (ha : Kn X.B σ a P) (hd : Kn X.B σ dx D) (hP : ∀ o, P o → o.cls = .ref C ∧ o.dict = some dx ∧ notCls o = true)
    (hD : ∀ o, D o → shadowIn (some o) name = some false) (hga : findIn (KK X.C.w) (.ref C) "__getattribute__" = some (some (.builtin "list.__getattribute__"))) (hk : findIn (KK X.C.w) (.ref C) "__getattr__" = some none)
    (hf : findIn (KK X.C.w) (.ref C) name = some (some (.ref f))) (ht : typeIn (KK X.C.w) (.ref f) = some (.type "function")) (h : Q (.ref f, [.ref a]) m σ) : W X m σ (getMethod (.ref a) name pl) Q := fun s S => by
  obtain ⟨ox, od, oh⟩ := S.inst ha hd hP; refine and3 oh fun I p q => ?_; clear oh
  have X₀ := S.world.k
  have hcan := canon_lga
  have hs := hD _ q
  unfold getMethod specialOf
  refine wpAny_bind (wpAny_bind (I.type.here ((looks_findIn X₀ hga).here ?_)))
  dsimp only
  rw [hcan, if_neg (by decide)]
  refine wpAny_bind (wpAny_bind (I.type.here ((looks_findIn X₀ hk).here ?_)))
  refine wpAny_bind (wpAny_bind (I.type.here ((looks_findIn X₀ hf).here (wpAny_bind ((looks_typeIn X₀ ht).here ?_)))))
  refine wp_if_neg (by decide +kernel) ?_
  refine wpAny_bind (wpAny_loadPart I.at_ ?_)
  have hd := I.dict
  cases e : ox.dict with
  | none => exact wpAny_bind (wpAny_rule (wpAny_pure ⟨m, σ, S, h⟩))
  | some dx' =>
    rw [e] at hd
    obtain ⟨r, a, b⟩ := Option.map_eq_some_iff.mp hs
    refine wpAny_bind (wpAny_bind (wpAny_loadPart hd ?_))
    rw [nsLook_of a]
    refine wpAny_pure ?_
    rw [b]
    exact wpAny_bind (wpAny_rule (wpAny_pure ⟨m, σ, S, h⟩))

theorem check_pile {M : Model} {A : Around} {E : Value → Shared → Prop} {s : Shared} {i n : String} {k : Manifest.AttrKind} {self : Value} {rest : List Value} {Q : Unit → Shared → Prop}
    (hk : builtinKind i = some k) (hkk : k = .method ∨ k = .slot) (hs : splitId i = some ("list", n)) (hi : Looks M s.heap (isInstance self (.type "list")) true) (ha : argsOk i ⟨self :: rest, []⟩) (q : Q () s) :
    wpAny M A (checkBuiltinCall i ⟨self :: rest, []⟩) Q E s := by
  rcases hkk with rfl | rfl
  · simp only [checkBuiltinCall, hk, hs]
    refine wpAny_bind (hi.here ?_)
    simp only [Bool.not_true, Bool.false_eq_true, if_false]
    cases hsig : Manifest.signature? i with
    | none => exact wpAny_pure q
    | some sig =>
      simp only [argsOk, hsig] at ha
      have h2 : Bind.checkArgs i sig ⟨self :: rest, []⟩ = pure () := ha
      show wpAny M A (Bind.checkArgs i sig ⟨self :: rest, []⟩) Q E s
      rw [h2]; exact wpAny_pure q
  · exact @check_slot M A E s i "list" n self rest [] Q hk hs hi ha q
theorem wk_pile {a dx : Addr} {vs rest : List Value} {i n : String} {k : Manifest.AttrKind} {b : Builtin} (ha : Kn X.B σ a (isPile dx vs)) (hq : plainId i = true) (hb : entryFor table i = some b)
    (hk : builtinKind i = some k) (hkk : k = .method ∨ k = .slot) (hs : splitId i = some ("list", n)) (hargs : argsOk i ⟨.ref a :: rest, []⟩) (h : W (X.withA X.A.in1) m σ (b ⟨.ref a :: rest, []⟩) (FinQ X Q)) :
    WK X m σ (.call (.builtin i) ⟨.ref a :: rest, []⟩) Q :=
  wk_builtin hq hb fun s S => by
    obtain ⟨_, e, n', rfl⟩ := S.kn ha
    exact check_pile hk hkk hs (inst_166 S.world.k e) hargs ⟨m, σ, S, h⟩

theorem bind_lga (self : Value) : bindSpecial (.builtin "list.__getattribute__") self = pure (.builtin "list.__getattribute__", [self]) :=
  (Slot.of (T := "list") (name := "__getattribute__") (owner := "list") (n := "__getattribute__") (by rw [typeLookup_type, builtinLookup_eq_fast]; kernel_rfl) (by decide +kernel) (by decide +kernel) (by decide +kernel)
    (by first | exact .inl (by decide +kernel) | exact .inr (by decide +kernel)) (by rw [isSubtype_type]; kernel_rfl)).bind self
theorem entry_lga : entryFor table "list.__getattribute__" = some Builtin.«object.__getattribute__» := PySem.F.entry_list_ga
theorem plain_lga : plainId "list.__getattribute__" = true := by decide +kernel
theorem kind_lga : builtinKind "list.__getattribute__" = some .slot := by decide +kernel
theorem split_lga : splitId "list.__getattribute__" = some ("list", "__getattribute__") := by decide +kernel
theorem args_lga (a b : Value) : argsOk "list.__getattribute__" ⟨[a, b], []⟩ := by unfold argsOk; kernel_rfl
theorem szL {α : Type} (l : List α) (h : l.length ≤ 1000) : l.length ≤ sizeLine := by rw [sizeLine_eq]; (first | lia | omega)
theorem pileP {dx : Addr} {vs : List Value} : ∀ o, isPile dx vs o → o.cls = .ref 166 ∧ o.dict = some dx ∧ notCls o = true := fun o ⟨n, e⟩ => by subst e; exact ⟨rfl, rfl, rfl⟩
theorem iniD {v : Value} {name : Str} (h : (Str.ofString "_initial_size" == name) = false) : ∀ o, isDict1 "_initial_size" v o → shadowIn (some o) name = some false := fun o ⟨hh, tk, n, e⟩ => by
  subst e
  show (Option.map Option.isSome (match [(⟨hh, .str (Str.ofString "_initial_size") tk, v⟩ : DictEntry)].find? (·.key.isStr name) with | some e => some (some e.val) | none => if [(⟨hh, .str (Str.ofString "_initial_size") tk, v⟩ : DictEntry)].any (·.refKey) then none else some none)) = some false
  have : ((.str (Str.ofString "_initial_size") tk : Value).isStr name) = false := h
  rw [List.find?_cons_of_neg (by rw [this]; decide)]
  rfl
theorem w_pile_append {a dx : Addr} {vs : List Value} {x : Value} (hsz : vs.length ≤ 1000) (h : Q .none m ((a, isPile dx (vs ++ [x])) :: σ)) : W X m ((a, isPile dx vs) :: σ) (call (.builtin "list.append") [.ref a, x]) Q :=
  w_call (wk_pile (n := "append") (dx := dx) (vs := vs) (.inr (.head _)) (by decide +kernel) PySem.entry_list_append (by decide +kernel) (.inl rfl) (by decide +kernel) (PySem.args_list_append _ _) (by
    show W _ m _ (updateSeq a (·.push x) >>= fun _ => ret .none) _
    refine w_bind (w_updateSeq (vs := vs) (f := (·.push x)) (by rw [sizeLine_eq]; (first | lia | omega)) (by simp [sizeLine_eq]; (first | lia | omega)) (w_ret ?_))
    rw [show vs.toArray.push x = (vs ++ [x]).toArray by simp]
    exact h))

theorem wk_push {a dx : Addr} {vs : List Value} {v x y : Value} (hA : Ok 2 X.A) (hd : Kn X.B σ dx (isDict1 "_initial_size" v)) (hsz : vs.length ≤ 1000) (h : ∀ t, Q .none m ((a, isPile dx (vs ++ [.ref t])) :: (t, isTup [x, y]) :: σ)) :
    WK X m ((a, isPile dx vs) :: σ) (.call (.ref 111) ⟨[.ref a, x, y], []⟩) Q := by
  refine wk_def (σ₁ := [(a, isPile dx vs)]) (σ₂ := σ) (n := 1) (binds := [("self", .ref a), ("fws", x), ("string", y)]) rfl rfl hA (fun _ _ s _ => BindsTo.of_eq rfl) rfl rfl ?_
  intro X' hC hK hA' _
  refine w_execs_cons (w_expr (w_methcall (w_local rfl (w_getMethod_bi (id := "list.append") (C := 166) (P := isPile dx vs) (.inr (.head _)) (.inl (hK _ _ hd)) pileP (iniD (by decide)) (by kernel_rfl) (by kernel_rfl) (by kernel_rfl) (by kernel_rfl) (w_cwm_builtin ?_)))))
  refine w_args_cons (w_Tuple (w_args_cons (w_local rfl (w_args_cons (w_local rfl (w_args_nil (w_newTuple (szL _ (by simp)) fun t => w_args_nil ?_)))))))
  refine w_perm (List.Perm.swap _ _ _) (w_pile_append (dx := dx) (vs := vs) hsz ⟨fun _ e => (nomatch e), ?_⟩)
  exact w_execs_nil (h t)
end
end Mine
end
end
section
open PySem PySem.W PySem.Calls PyProof.Rows PySem.Spec
set_option Elab.async false
set_option linter.unusedVariables false
set_option maxRecDepth 100000
noncomputable section
namespace Mine
section
variable {X : Fm} {m : Vars} {σ : Led} {env : Env} {pos : Pos} {Q : Value → Vars → Led → Prop}
theorem w_cut_str {value : Expr} {lower upper : Option Expr} {p : Pos}
    (h : W X m σ (eval value env) (fun o m₁ σ₁ => W X m₁ σ₁ (evalPart lower env) (fun vl m₂ σ₂ => W X m₂ σ₂ (evalPart upper env) (fun vu m₃ σ₃ =>
      ∃ x t lo hi, o = .str x t ∧ x.length ≤ sizeLine ∧ IsPart vl lo ∧ IsPart vu hi ∧ ∀ t, Q (.str (Txt.slice x lo hi) t) m₃ σ₃))))
    (hs : ∀ (x : Str) (t : Tok) (a : Addr), subscripted (.Slice lower upper none p) false (.str x t) (.ref a) = operate [.ref a, .str x t] (getItem (.str x t) (.ref a)) := by intro _ _ _; with_unfolding_all rfl)
    (ht : ∀ (x : Str) (t : Tok) r, letTemporaryGo value (.str x t) r = pure () := by intro _ _ _; with_unfolding_all rfl) :
    W X m σ (eval (.Subscript value (.Slice lower upper none p) pos) env) Q := fun s S => by
  refine Subscript_ (h.use S fun o m₁ σ₁ s₁ S₁ q₁ => wpAny_Slice (q₁.use S₁ fun vl m₂ σ₂ s₂ S₂ q₂ => q₂.use S₂ fun vu m₃ σ₃ s₃ S₃ q₃ => ?_))
  rw [evalPart_none]
  refine wpAny_pure ?_
  obtain ⟨x, t, lo, hi, oh⟩ := q₃; refine and5 oh fun oq0 hsz pl pu hQ => ?_; clear oh; subst oq0
  have hk : KeptH (fun h' => ∀ b o, s₃.heap.get? b = some o → h'.get? b = some o) := fun h ob k b o e => Heap.get?_push_of_some _ (k b o e)
  have fin : ∀ h' t' k, (∀ b o, s₃.heap.get? b = some o → h'.get? b = some o) → ∃ m' σ', St X.C X.B X.F X.L m' σ' { s₃ with heap := h', toks := k } ∧ Q (.str (Txt.slice x lo hi) t') m' σ' := fun h' t' k e => ⟨m₃, σ₃, S₃.keeps e, hQ t'⟩
  cases pl with
  | none =>
    cases pu with
    | none => exact tail_of_ItemOn (SBH.sliceItem_nn hk (fun _ _ e => e) fin hsz) (hs _ _ _) (ht _ _)
    | int => exact tail_of_ItemOn (SBH.sliceItem_ns hk (fun _ _ e => e) fin hsz) (hs _ _ _) (ht _ _)
  | int =>
    cases pu with
    | none => exact tail_of_ItemOn (SBH.sliceItem_sn hk (fun _ _ e => e) fin hsz) (hs _ _ _) (ht _ _)
    | int => exact tail_of_ItemOn (SBH.sliceItem_ss hk (fun _ _ e => e) fin hsz) (hs _ _ _) (ht _ _)
end

inductive LedLE : Led → Led → Prop where
  | nil : LedLE [] []
  | cons {a : Addr} {P P' : HP} {σ σ' : Led} (h : ∀ o, P o → P' o) (t : LedLE σ σ') : LedLE ((a, P) :: σ) ((a, P') :: σ')
theorem LedLE.refl : ∀ σ : Led, LedLE σ σ
  | [] => .nil
  | (_, _) :: σ => .cons (fun _ h => h) (LedLE.refl σ)
theorem LedLE.addrs {σ σ' : Led} (h : LedLE σ σ') : σ.map (·.1) = σ'.map (·.1) := by
  induction h with
  | nil => rfl
  | cons _ _ ih => simp [ih]
theorem LedLE.mem {σ σ' : Led} (h : LedLE σ σ') : ∀ p ∈ σ', ∃ q ∈ σ, q.1 = p.1 ∧ ∀ o, q.2 o → p.2 o := by
  induction h with
  | nil => intro p hp; cases hp
  | @cons a P P' σ σ' h t ih =>
    intro p hp
    rcases List.mem_cons.mp hp with rfl | hp
    · exact ⟨(a, P), .head _, rfl, h⟩
    · obtain ⟨q, hq, e⟩ := ih p hp
      exact ⟨q, .tail _ hq, e⟩
theorem St.weak {C : Cx} {B F : PH} {L : Addr} {m : Vars} {σ σ' : Led} {s : Shared} (S : St C B F L m σ s) (h : LedLE σ σ') : St C B F L m σ' s where
  keep := S.keep
  keepF := S.keepF
  ns := S.ns
  own := fun p hp => by
    obtain ⟨q, oh⟩ := h.mem p hp; refine and3 oh fun hq e k => ?_; clear oh
    obtain ⟨o, ho, hqo⟩ := S.own q hq
    exact ⟨o, e ▸ ho, k o hqo⟩
  bL := S.bL
  fL := S.fL
  bσ := fun p hp => by
    obtain ⟨q, oh⟩ := h.mem p hp; refine and3 oh fun hq e k => ?_; clear oh
    exact e ▸ S.bσ q hq
  nd := h.addrs ▸ S.nd
  wf := S.wf
  os := S.os
  gens := S.gens
theorem w_weak {α : Type} {X : Fm} {m : Vars} {σ σ' : Led} {t : Sem α} {Q : α → Vars → Led → Prop} (hl : LedLE σ σ') (h : W X m σ' t Q) : W X m σ t Q := fun s S => h s (S.weak hl)
theorem w_post_weak {α : Type} {X : Fm} {m : Vars} {σ : Led} {t : Sem α} {Q : α → Vars → Led → Prop} (h : W X m σ t (fun a m' σ' => ∃ σ'', LedLE σ' σ'' ∧ Q a m' σ'')) : W X m σ t Q := fun s S =>
  h.use S fun a m' σ' s' S' ⟨σ'', hs, q⟩ => ⟨m', σ'', S'.weak hs, q⟩

section
variable {X : Fm} {m : Vars} {σ : Led} {Q : Value → Vars → Led → Prop}
noncomputable def isPiece (x : Str) : HP := fun o => ∃ t1 t2, isTup [.str (Txt.slice x none (some 4)) t1, .str (Txt.slice x (some 4) none) t2] o
theorem wk_pushed {a dx : Addr} {vs : List Value} {v : Value} {x : Str} {t : Tok} (hA : Ok 4 X.A) (hd : Kn X.B σ dx (isDict1 "_initial_size" v)) (hsz : vs.length ≤ 1000) (hx : x.length ≤ 1000) (h : ∀ t, Q .none m ((a, isPile dx (vs ++ [.ref t])) :: (t, isPiece x) :: σ)) :
    WK X m ((a, isPile dx vs) :: σ) (.call (.ref 229) ⟨[.ref a, .str x t], []⟩) Q := by
  refine wk_def (σ₁ := [(a, isPile dx vs)]) (σ₂ := σ) (n := 3) (binds := [("pile", .ref a), ("text", .str x t)]) rfl rfl hA (fun _ _ s _ => BindsTo.of_eq rfl) rfl rfl ?_
  intro X' hC hK hA' _
  have hx' : x.length ≤ sizeLine := by rw [sizeLine_eq]; (first | lia | omega)
  refine w_execs_cons (w_expr (w_methcall (w_local rfl (w_getMethod_fnL (f := 111) (C := 166) (P := isPile dx vs) (.inr (.head _)) (.inl (hK _ _ hd)) pileP (iniD (by decide)) (by kernel_rfl) (by kernel_rfl) (by kernel_rfl) (by kernel_rfl) (w_cwm_K (by kernel_rfl) ?_)))))
  refine w_args_cons (w_cut_str (w_local rfl (w_part_none (w_part_some (w_int fun _ => ⟨x, t, _, _, rfl, hx', .none, .int _ _, fun _ => ?_⟩)))))
  refine w_args_cons (w_cut_str (w_local rfl (w_part_some (w_int fun _ => w_part_none ⟨x, t, _, _, rfl, hx', .int _ _, .none, fun _ => ?_⟩))))
  refine w_args_nil (w_call (wk_push (dx := dx) (vs := vs) (v := v) (hA'.le (by first | decide | (with_reducible first | exact n0 _ | exact f5 (by assumption) | exact a3 (by assumption) (by assumption) | exact b26 (by assumption) | exact a26 (by assumption)) | (first | lia | omega))) (.inl (hK _ _ hd)) hsz fun T => ⟨fun _ e => (nomatch e), ?_⟩))
  refine w_weak (.cons (fun _ h => h) (.cons (fun o h => (⟨_, _, h⟩ : isPiece x o)) .nil)) (w_execs_nil (h T))
end
end Mine
end
end
section
open PySem PySem.W PySem.Calls PyProof.Rows PySem.Spec
set_option Elab.async false
set_option linter.unusedVariables false
set_option maxRecDepth 100000
noncomputable section
namespace Mine
section
variable {w : World} {A : Around} {E : Value → Shared → Prop} {h : Heap} {g : Array GenState} {d : Drawn} {t : Nat} {os : OsState}
theorem deque_166 (X : (KK w).In h) : Looks (model PW w) h (isSubtype (.ref 166) (.type "collections.deque")) false := Looks.of_peek X (by kernel_rfl)
theorem seqKey_166 {a dx : Addr} {vs : List Value} {n : Nat} {k : Value} {name : Str} (X : (KK w).In h) (hx : h.get? a = some (pileObj dx vs n)) : Looks (model PW w) h (sequenceKey (.ref a) k name) k := fun A Q E s kp q => by
  obtain ⟨hh, g, d, t, os⟩ := s
  have X' := X.keeps kp
  have L1 := deque_166 X'
  have L0 : Looks (model PW w) hh (typeOf (.ref a)) (.ref 166) := (Looks.ld (kp _ _ hx)).andThen .now
  unfold sequenceKey
  refine wpAny_bind (L0.at ?_)
  have LA : Looks (model PW w) hh (List.anyM (fun n => isSubtype (.ref 166) (.type n)) seqItemTypes) false := by
    show Looks _ _ (List.anyM (fun n => isSubtype (.ref 166) (.type n)) ["collections.deque"]) _
    simp only [List.anyM]
    exact L1.andThen .now
  exact wpAny_bind (LA.at (wpAny_pure q))
theorem gi_166 (X : (KK w).In h) : Looks (model PW w) h (typeLookup (.ref 166) "__getitem__") (some (.builtin "list.__getitem__")) := looks_findIn X (by kernel_rfl)
theorem si_166 (X : (KK w).In h) : Looks (model PW w) h (typeLookup (.ref 166) "__setitem__") (some (.builtin "list.__setitem__")) := looks_findIn X (by kernel_rfl)
theorem kind_lgi : builtinKind "list.__getitem__" = some .method ∨ builtinKind "list.__getitem__" = some .slot := by decide +kernel
theorem split_lgi : splitId "list.__getitem__" = some ("list", "__getitem__") := by decide +kernel
theorem kind_lsi : builtinKind "list.__setitem__" = some .slot := by decide +kernel
theorem split_lsi : splitId "list.__setitem__" = some ("list", "__setitem__") := by decide +kernel

theorem getItem_pile {a dx sl : Addr} {vs : List Value} {n : Nat} {vl vu vt : Value} {lo hi st : Option Int} {Q : Value → Shared → Prop} (X : (KK w).In h) (hx : h.get? a = some (pileObj dx vs n))
    (hs : h.IsSliceOf sl vl vu vt) (pl : IsPart vl lo) (pu : IsPart vu hi) (ps : IsPart vt st) (h0 : st ≠ some 0)
    (hq : Q (.ref h.objs.size) ⟨h.push { cls := .type "list", data := .seq (slicePick vs.toArray lo hi st) }, g, d, t, os⟩)
    (hsz : vs.length ≤ sizeLine) : wpAny (model PW w) A (getItem (.ref a) (.ref sl)) Q E ⟨h, g, d, t, os⟩ := by
  refine ex1 (id hs) fun os' oh => ?_; refine and3 oh fun hos hcs hds => ?_; clear oh
  have hTs : (⟨h, g, d, t, os⟩ : Shared).TypeIs (.ref sl) "slice" := ⟨os', hos, hcs⟩
  have L0 : Looks (model PW w) h (typeOf (.ref a)) (.ref 166) := (Looks.ld hx).andThen .now
  have L1 := gi_166 X
  have L2 := seqKey_166 (k := .ref sl) (name := "__getitem__") X hx
  unfold getItem
  refine wpAny_holding (wpAny_bind (L2.at (wpAny_bind ?_)))
  unfold callSpecial? specialOf
  refine wpAny_bind (wpAny_bind (L0.at (L1.at ?_)))
  refine wpAny_holding (wpAny_bind ?_)
  rw [slot_list_getitem.bind]
  refine wpAny_pure (wpAny_bind (wpAny_call (codeAny_call_builtin slot_list_getitem.plain entry_list_getitem ?_)))
  have fin : wpAny (model PW w) A.in1 (Builtin.«list.__getitem__» ⟨[.ref a] ++ [.ref sl], []⟩)
    (fun fin s' => match fin with | .done (.ret v) => Q v s' | _ => False) (fun _ _ => False) ⟨h, g, d, t, os⟩ := by
    show wpAny _ _ (Builtin.List.listSubscript? (.ref sl) >>= _) _ _ _
    refine wpAny_bind ?_
    unfold Builtin.List.listSubscript?
    refine wpAny_bind (wpAny_specialOf hTs slice_no_index ?_)
    simp only [Option.isNone_none, if_true]
    refine wpAny_pure ?_
    show wpAny _ _ (typeOf (.ref sl) >>= _) _ _ _
    refine wpAny_bind (wpAny_typeOf hTs ?_)
    refine wp_if_neg (by decide) ?_
    rw [listSliceParts_eq]
    have hstep : ¬ ((rawPart st == rawInt 0) = true) := by
      cases st with
      | none => exact Bool.false_ne_true
      | some c =>
        intro hh
        have : c = 0 := by simpa [rawPart, rawInt] using hh
        exact h0 (by rw [this])
    refine wpAny_bind (wpAny_bind (wpAny_field hos hds (x := vt) rfl (wpAny_bind (wpAny_listPart ps ?_))))
    refine wp_if_neg hstep ?_
    refine wpAny_bind (wpAny_field hos hds (x := vl) rfl (wpAny_bind (wpAny_listPart pl ?_)))
    refine wpAny_bind (wpAny_field hos hds (x := vu) rfl (wpAny_bind (wpAny_listPart pu (wpAny_pure ?_))))
    refine wpAny_bind (m := Builtin.List.listItems (.ref a)) ?_
    unfold Builtin.List.listItems
    refine wpAny_bind (wpAny_seqItems hx rfl (wpAny_pure ?_))
    refine wpAny_bind (wpAny_of_eq (sliceIndices_raw lo hi st vs.toArray.size h0) ?_)
    exact wpAny_bind (wpAny_newObj_type (wpAny_pure hq) (Nat.le_trans (slicePick_size_le vs.toArray lo hi st) (by simpa using hsz)))
  rcases kind_lgi with hk | hk
  · refine @check_pile (MM ⟨w, os, fun _ => none, fun _ => none⟩) _ _ ⟨h, g, d, t, os⟩ "list.__getitem__" "__getitem__" .method (.ref a) [.ref sl] _ hk (.inl rfl) split_lgi (inst_166 X hx) (args_list_getitem _ _) ?_
    refine wpAny_mono fin (fun fin s' z => ?_) fun _ _ z => z.elim
    rcases fin with (_ | _ | _ | v) | c <;> first | exact z.elim | exact wpAny_pure (wpAny_pure z)
  · refine @check_pile (MM ⟨w, os, fun _ => none, fun _ => none⟩) _ _ ⟨h, g, d, t, os⟩ "list.__getitem__" "__getitem__" .slot (.ref a) [.ref sl] _ hk (.inr rfl) split_lgi (inst_166 X hx) (args_list_getitem _ _) ?_
    refine wpAny_mono fin (fun fin s' z => ?_) fun _ _ z => z.elim
    rcases fin with (_ | _ | _ | v) | c <;> first | exact z.elim | exact wpAny_pure (wpAny_pure z)

theorem bounds_from {i : Int} {n : Nat} (h0 : 0 ≤ i) (h1 : i ≤ n) : sliceBounds (some i) none none n = (i, (n : Int), 1) := by
  unfold sliceBounds
  simp only [Option.getD_none, show (1 : Int) > 0 by decide, if_true]
  rw [if_neg (by first | decide | (with_reducible first | exact n0 _ | exact f5 (by assumption) | exact a3 (by assumption) (by assumption) | exact b26 (by assumption) | exact a26 (by assumption)) | (first | lia | omega)), Int.min_eq_left h1, Int.max_eq_right h0]

theorem setItem_pile {a dx sl e : Addr} {vs : List Value} {n : Nat} {i : Int} {tk : Tok} {Q : Unit → Shared → Prop} (X : (KK w).In h) (hx : h.get? a = some (pileObj dx vs n))
    (hs : h.IsSliceOf sl (.int i tk) .none .none) (he : ∃ k, h.get? e = some { cls := .type "list", data := .seq #[] k }) (h0 : 0 ≤ i) (h1 : i ≤ vs.length)
    (hq : ∀ f : Array Value → Array Value, f vs.toArray = (vs.take i.toNat).toArray → Q () ⟨h.update a (Obj.mapSeq f), g, d, t, os⟩)
    (hsz : vs.length ≤ 1000) : wpAny (model PW w) A (setItem (.ref a) (.ref sl) (.ref e)) Q E ⟨h, g, d, t, os⟩ := by
  refine ex1 (id hs) fun os' oh => ?_; refine and3 oh fun hos hcs hds => ?_; clear oh
  refine ex1 (he) fun k he => ?_
  have hTs : (⟨h, g, d, t, os⟩ : Shared).TypeIs (.ref sl) "slice" := ⟨os', hos, hcs⟩
  have hTe : (⟨h, g, d, t, os⟩ : Shared).TypeIs (.ref e) "list" := ⟨_, he, rfl⟩
  have hae : (a == e) = false := by
    refine beq_eq_false_iff_ne.mpr ?_
    rintro rfl
    rw [hx] at he
    cases he
  have L0 : Looks (model PW w) h (typeOf (.ref a)) (.ref 166) := (Looks.ld hx).andThen .now
  have L1 := si_166 X
  have L2 := seqKey_166 (k := .ref sl) (name := "__setitem__") X hx
  unfold setItem
  refine wpAny_holding (wpAny_bind (L2.at (wpAny_bind ?_)))
  unfold callSpecial? specialOf
  refine wpAny_bind (wpAny_bind (L0.at (L1.at ?_)))
  refine wpAny_holding (wpAny_bind ?_)
  rw [slot_list_setitem.bind]
  refine wpAny_pure (wpAny_bind (wpAny_call (codeAny_call_builtin slot_list_setitem.plain entry_list_setitem ?_)))
  refine @check_pile (MM ⟨w, os, fun _ => none, fun _ => none⟩) _ _ ⟨h, g, d, t, os⟩ "list.__setitem__" "__setitem__" .slot (.ref a) [.ref sl, .ref e] _ kind_lsi (.inr rfl) split_lsi (inst_166 X hx) (args_list_setitem _ _ _) ?_
  show wpAny _ _ (Builtin.List.listSubscript? (.ref sl) >>= _) _ _ _
  refine wpAny_bind ?_
  unfold Builtin.List.listSubscript?
  refine wpAny_bind (wpAny_specialOf hTs slice_no_index ?_)
  simp only [Option.isNone_none, if_true]
  refine wpAny_pure ?_
  show wpAny _ _ (typeOf (.ref sl) >>= _) _ _ _
  refine wpAny_bind (wpAny_typeOf hTs ?_)
  refine wp_if_neg (by decide) ?_
  rw [listSliceParts_eq]
  refine wpAny_bind (wpAny_bind (wpAny_field hos hds (x := .none) rfl (wpAny_bind (wpAny_listPart .none ?_))))
  refine wp_if_neg (by exact Bool.false_ne_true) ?_
  refine wpAny_bind (wpAny_field hos hds (x := .int i tk) rfl (wpAny_bind (wpAny_listPart (.int i tk) ?_)))
  refine wpAny_bind (wpAny_field hos hds (x := .none) rfl (wpAny_bind (wpAny_listPart .none (wpAny_pure ?_))))
  rw [show Builtin.List.listSameRef (.ref a) (.ref e) = false from hae, if_neg (by decide)]
  refine wpAny_bind ?_
  unfold Builtin.List.listAllItems
  refine wpAny_bind (wpAny_typeOf hTe ?_)
  refine wp_if_pos (by decide) ?_
  unfold Builtin.List.listItems
  refine wpAny_bind (wpAny_seqItems he rfl (wpAny_pure ?_))
  refine wpAny_bind (wpAny_bind (wpAny_seqItems hx rfl (wpAny_pure ?_)))
  refine wpAny_bind (wpAny_of_eq (sliceIndices_raw (some i) none none vs.toArray.size (by simp)) ?_)
  rw [bounds_from (n := vs.toArray.size) h0 (by simpa using h1)]
  dsimp only
  refine wp_if_pos (by decide) ?_
  refine wpAny_bind (wpAny_rule ?_)
  refine wp_if_neg (by simp [Builtin.List.listTooLong, sizeLine_eq]; (first | lia | omega)) ?_
  have hf : (fun xs : Array Value => xs.extract 0 i.toNat ++ (#[] : Array Value) ++ xs.extract (max i (vs.toArray.size : Int)).toNat) vs.toArray = (vs.take i.toNat).toArray := by
    have e1 : (max i (vs.toArray.size : Int)).toNat = vs.toArray.size := by
      have : i ≤ (vs.toArray.size : Int) := by simpa using h1
      (first | lia | omega)
    show vs.toArray.extract 0 i.toNat ++ (#[] : Array Value) ++ vs.toArray.extract (max i (vs.toArray.size : Int)).toNat = _
    rw [e1]
    simp
  refine wpAny_bind (wpAny_updateSeq hx rfl ?_ (by rw [sizeLine_eq]; simp; (first | lia | omega)) (by dsimp only at hf; rw [hf]; rw [sizeLine_eq]; simp; (first | lia | omega)))
  refine wpAny_bind (wpAny_letGo ?_)
  exact wpAny_pure (wpAny_pure (wpAny_pure (hq _ hf)))
end

section
variable {X : Fm} {m : Vars} {σ : Led} {env : Env} {pos : Pos} {Q : Value → Vars → Led → Prop}
theorem gip_166 {w : World} {h : Heap} {a dx : Addr} {vs : List Value} {n : Nat} (X : (KK w).In h) (hx : h.get? a = some (pileObj dx vs n)) : Looks (model PW w) h (getitemInPython (.ref a)) false := by
  have L0 : Looks (model PW w) h (typeOf (.ref a)) (.ref 166) := (Looks.ld hx).andThen .now
  exact (L0.andThen (gi_166 X)).andThen .now
theorem w_cut_pile {value : Expr} {lower : Option Expr} {p : Pos}
    (h : W X m σ (eval value env) (fun o m₁ σ₁ => W X m₁ σ₁ (evalPart lower env) (fun vl m₂ σ₂ => ∃ a dx vs i, o = .ref a ∧ Kn X.B σ₂ a (isPile dx vs) ∧ IsPart vl (some i) ∧ 0 ≤ i ∧ i ≤ vs.length ∧ vs.length ≤ 1000 ∧ ∀ D, Q (.ref D) m₂ ((D, isList (vs.drop i.toNat)) :: σ₂))))
    (hs : ∀ (x a : Addr), subscripted (.Slice lower none none p) false (.ref x) (.ref a) = operate [.ref a, .ref x] (getItem (.ref x) (.ref a)) := by intro _ _; with_unfolding_all rfl)
    (ht : ∀ (x : Addr) r, letTemporaryGo value (.ref x) r = pure () := by intro _ _; with_unfolding_all rfl) :
    W X m σ (eval (.Subscript value (.Slice lower none none p) pos) env) Q := fun s S => by
  refine Subscript_ (h.use S fun o m₁ σ₁ s₁ S₁ q₁ => wpAny_Slice (q₁.use S₁ fun vl m₂ σ₂ s₂ S₂ q₂ => ?_))
  rw [evalPart_none]
  refine wpAny_pure (wpAny_pure ?_)
  refine ex4 (q₂) fun a dx vs i oh => ?_; (try clear q₂); refine and7 oh fun oq0 ha pl h0 h1 hsz hQ => ?_; clear oh; subst oq0
  obtain ⟨_, e, n, rfl⟩ := S₂.kn ha
  have S₃ : St X.C X.B X.F X.L m₂ σ₂ { s₂ with heap := s₂.heap.push { cls := .type "slice", data := .fields #[vl, .none, .none] } } := S₂.grow (fun _ _ e => Heap.get?_push_of_some _ e) S₂.gens
  have e' : (s₂.heap.push { cls := .type "slice", data := .fields #[vl, .none, .none] }).get? a = some (pileObj dx vs n) := Heap.get?_push_of_some _ e
  have hsl := Heap.IsSliceOf.new s₂.heap vl .none .none
  obtain ⟨hh, g, d, t, os⟩ := s₂
  unfold subscriptTail
  refine wpAny_bind ((gip_166 S₃.world.k e').at ?_)
  rw [hs]
  refine wpAny_bind (wpAny_operating (getItem_pile S₃.world.k e' hsl pl .none .none (by simp) ?_ (by rw [sizeLine_eq]; (first | lia | omega))))
  rw [ht]
  refine wpAny_bind (wpAny_pure (wpAny_pure ?_))
  have e2 : (slicePick vs.toArray (some i) none none) = (vs.drop i.toNat).toArray := by
    refine ex1 (Int.eq_ofNat_of_zero_le h0) fun k oq1 => ?_; subst oq1
    have := slicePick_from vs.toArray k (by simpa using h1)
    simpa using this
  rw [e2]
  exact ⟨m₂, _, S₃.push (o := { cls := .type "list", data := .seq (vs.drop i.toNat).toArray }) rfl ⟨0, rfl⟩, hQ _⟩

noncomputable def isSlc (vl vu vt : Value) : HP := fun o => o = { cls := .type "slice", data := .fields #[vl, vu, vt] }
theorem w_slice {lower upper step : Option Expr} (h : W X m σ (evalPart lower env) (fun vl m₁ σ₁ => W X m₁ σ₁ (evalPart upper env) (fun vu m₂ σ₂ => W X m₂ σ₂ (evalPart step env) (fun vt m₃ σ₃ => ∀ a, Q (.ref a) m₃ ((a, isSlc vl vu vt) :: σ₃))))) :
    W X m σ (eval (.Slice lower upper step pos) env) Q := fun s S =>
  wpAny_Slice (h.use S fun vl m₁ σ₁ s₁ S₁ q₁ => q₁.use S₁ fun vu m₂ σ₂ s₂ S₂ q₂ => q₂.use S₂ fun vt m₃ σ₃ s₃ S₃ q₃ => ⟨m₃, _, S₃.push (P := isSlc vl vu vt) rfl rfl, q₃ _⟩)
theorem w_setItem_pile {a dx sl e : Addr} {vs : List Value} {i : Int} {tk : Tok} {Q : Unit → Vars → Led → Prop} (hs : Kn X.B σ sl (isSlc (.int i tk) .none .none)) (he : Kn X.B σ e (isList [])) (h0 : 0 ≤ i) (h1 : i ≤ vs.length) (hsz : vs.length ≤ 1000)
    (h : Q () m ((a, isPile dx (vs.take i.toNat)) :: σ)) : W X m ((a, isPile dx vs) :: σ) (setItem (.ref a) (.ref sl) (.ref e)) Q := fun s S => by
  obtain ⟨_, ea, n, rfl⟩ := S.kn (.inr (.head _))
  have lift : ∀ {b : Addr} {P : HP}, Kn X.B σ b P → Kn X.B ((a, isPile dx vs) :: σ) b P := fun k => k.elim .inl fun q => .inr (.tail _ q)
  refine ex1 (S.kn (lift hs)) fun _ ou0 => ?_; refine and2 (ou0) fun es oq2 => ?_; clear ou0; subst oq2
  obtain ⟨_, ee, k, rfl⟩ := S.kn (lift he)
  obtain ⟨hh, g, d, t, os⟩ := s
  refine setItem_pile S.world.k ea ⟨_, es, rfl, rfl⟩ ⟨k, ee⟩ h0 h1 (fun f hf => ?_) hsz
  refine ex1 (mapSeq_is (.ref 166) (some dx) vs.toArray n f) fun n' hn' => ?_
  exact ⟨m, _, S.set0 (P' := isPile dx (vs.take i.toNat)) (t := t) (h' := hh.update a (Obj.mapSeq f)) (Heap.get?_update_self _ ea (by rw [hn']; rfl)) ⟨n', by rw [hn', hf]⟩ (Heap.SameBut.update ..), h⟩

theorem bring1 {α : Type} {x0 x : α} {r : List α} : (x0 :: x :: r).Perm (x :: x0 :: r) := List.perm_middle (l₁ := [x0])
theorem bring2 {α : Type} {x0 x1 x : α} {r : List α} : (x0 :: x1 :: x :: r).Perm (x :: x0 :: x1 :: r) := List.perm_middle (l₁ := [x0, x1])
theorem bring3 {α : Type} {x0 x1 x2 x : α} {r : List α} : (x0 :: x1 :: x2 :: x :: r).Perm (x :: x0 :: x1 :: x2 :: r) := List.perm_middle (l₁ := [x0, x1, x2])
theorem bring4 {α : Type} {x0 x1 x2 x3 x : α} {r : List α} : (x0 :: x1 :: x2 :: x3 :: x :: r).Perm (x :: x0 :: x1 :: x2 :: x3 :: r) := List.perm_middle (l₁ := [x0, x1, x2, x3])
theorem bring5 {α : Type} {x0 x1 x2 x3 x4 x : α} {r : List α} : (x0 :: x1 :: x2 :: x3 :: x4 :: x :: r).Perm (x :: x0 :: x1 :: x2 :: x3 :: x4 :: r) := List.perm_middle (l₁ := [x0, x1, x2, x3, x4])
theorem bring6 {α : Type} {x0 x1 x2 x3 x4 x5 x : α} {r : List α} : (x0 :: x1 :: x2 :: x3 :: x4 :: x5 :: x :: r).Perm (x :: x0 :: x1 :: x2 :: x3 :: x4 :: x5 :: r) := List.perm_middle (l₁ := [x0, x1, x2, x3, x4, x5])
theorem wk_pop_from {a dx : Addr} {vs : List Value} {i : Int} {tk : Tok} (hA : Ok 2 X.A) (hi0 : 0 ≤ i) (hi1 : i ≤ vs.length) (hsz : vs.length ≤ 1000) (h : ∀ D, Q (.ref D) m ((a, isPile dx (vs.take i.toNat)) :: (D, isList (vs.drop i.toNat)) :: σ)) :
    WK X m ((a, isPile dx vs) :: σ) (.call (.ref 119) ⟨[.ref a, .int i tk], []⟩) Q := by
  refine wk_def (σ₁ := [(a, isPile dx vs)]) (σ₂ := σ) (n := 1) (binds := [("self", .ref a), ("i", .int i tk)]) rfl rfl hA (fun _ X₀ s hs => binds_peek X₀ hs fun S => by kernel_rfl) rfl rfl ?_
  intro X' hC hK hA' _
  refine w_execs_cons (w_assign_name (w_cut_pile (w_local rfl (w_part_some (w_local rfl ⟨a, dx, vs, i, rfl, .inr (.head _), .int _ _, hi0, hi1, hsz, fun D => ?_⟩)))))
  refine w_store_local ?_
  refine w_execs_cons (w_assign_sub (w_List (w_args_nil (w_newList (szL _ (by simp)) fun e => w_local rfl (w_slice (w_part_some (w_local rfl (w_part_none (w_part_none fun sl => ?_)))))))))
  refine w_perm bring3 (w_setItem_pile (.inr (.head _)) (.inr (.tail _ (.head _))) hi0 hi1 hsz ?_)
  refine w_keep (.cons_cons _ (.cons _ (.cons _ (.refl _)))) (w_execs_cons (w_return (w_local rfl ?_)))
  exact h D
theorem w_list_len {x dx : Addr} {vs : List Value} {Q : PySem.Fin → Vars → Led → Prop} (hx : Kn X.B σ x (isPile dx vs)) (h : ∀ t, Q (.done (.ret (.int vs.length t))) m σ) : W X m σ (Builtin.«list.__len__» ⟨[.ref x], []⟩) Q := by
  unfold Builtin.«list.__len__»
  show W X m σ (seqSize x >>= fun k => retInt k) Q
  unfold seqSize
  refine w_bind (w_bind (w_load hx fun o ho => ?_))
  refine ex1 (ho) fun n oq1 => ?_; (try clear ho); subst oq1
  refine w_pure (w_bind (w_mkInt fun t => w_pure ?_))
  simpa using h t
theorem wk_part_count {x dx : Addr} {vs : List Value} (hA : Ok 3 X.A) (hx : Kn X.B σ x (isPile dx vs)) (h : ∀ t, Q (.int vs.length t) m σ) : WK X m σ (.call (.ref 163) ⟨[.ref x], []⟩) Q := by
  refine wk_defAt (σ₁ := []) (σ₂ := σ) (n := 2) (binds := [("self", .ref x)]) rfl rfl hA (fun _ _ s _ => BindsTo.of_eq rfl) rfl rfl ?_
  intro X' hC hK hA' _
  refine wat_cons (wat_return (wat_super (x := x) (dx := dx) (vs := vs) (id := "list.__len__") (nm := "__len__") (b := Builtin.«list.__len__») (.inl (hK _ _ hx)) rfl rfl rfl rfl rfl (by decide +kernel) (by decide) rfl rfl rfl rfl (by kernel_rfl) (by kernel_rfl) (by decide +kernel) (by decide +kernel) (entryFor_of_tree (by kernel_rfl)) (by kernel_rfl)
    (w_list_len (.inl (hK _ _ hx)) fun t => ?_) (by rfl)))
  exact h t
end
end Mine
end
end
section
open PySem PySem.W PySem.Calls PyProof.Rows PySem.Spec
set_option Elab.async false
set_option linter.unusedVariables false
set_option maxRecDepth 100000
noncomputable section
namespace Mine

/-! a generator expression whose target is a pair -/
section
variable {prog : Program} {w : World} {A : Around}

structure QTurn (prog : Program) (w : World) (cenv : Env) (target : Expr) (I : Addr) (elt : Expr) (fp wr : List Addr) (P : Nat → Value → Prop) (St₀ : Nat → Heap → Prop) (F : Nat → Value → Prop) (href : Heap) : Prop where
  turn : ∀ (A' : Around) E' i v (s₂ : Shared) m₂, A'.handled = none → P i v → St₀ (i + 1) s₂.heap → s₂.heap.Ns cenv.locals m₂ → (∀ b ∈ fp, b ∉ wr → ∀ o, href.get? b = some o → s₂.heap.get? b = some o) →
    wpAny (model prog w) A' (letOwnedTupleGo target (.ref I) v) (fun _ s₃ => wpAny (model prog w) A' (assign target cenv v) (fun _ s₄ => wpAny (model prog w) A' (eval elt cenv)
      (fun y s₅ => F i y ∧ ∃ h tk m', s₅ = { s₂ with heap := h, toks := tk } ∧ h.Ns cenv.locals m' ∧ ∀ b o, b ≠ cenv.locals → s₂.heap.get? b = some o → h.get? b = some o) E' s₄) E' s₃) E' s₂

theorem seg_loopT {elt iter target : Expr} {scope : Scope} {pos : Pos} {I : Addr} {fp wr : List Addr} {n₀ : Nat} {P : Nat → Value → Prop} {St₀ : Nat → Heap → Prop} {cenv : Env}
    (hh : A.handled = none) (W₀ : ∀ A' : Around, A'.handled = none → Walks prog w A' I fp wr n₀ P St₀) (F : Nat → Value → Prop) (href : Heap)
    (hco : cenv.scope.isCoroutine = false) (hCf : cenv.locals ∉ fp) (hq : QTurn prog w cenv target I elt fp wr P St₀ F href) :
    ∀ (k i : Nat) (s₀ s : Shared) (m : Str → Option Value), n₀ - i = k → i ≤ n₀ → St₀ i s.heap → s.heap.Ns cenv.locals m → GenSince cenv.locals wr s₀ s →
      (∀ b ∈ fp, b ∉ wr → ∀ o, href.get? b = some o → s.heap.get? b = some o) →
      Seg (model prog w) A (fun n s₀ r s₁ => r = .ok .next ∧ (n = 0 ∧ GenSince cenv.locals wr s₀ s₁)) (genProto cenv.locals fp wr (fun _ => true) n₀ F) (passing (fun _ => true) n₀ i).length s₀
        (.compLoop (.GeneratorExp elt [⟨target, iter, [], 0⟩] scope pos) 0 (.ref I) .none cenv)
        ((model prog w).den (.compLoop (.GeneratorExp elt [⟨target, iter, [], 0⟩] scope pos) 0 (.ref I) .none cenv)) [] s := by
  have hh' : (A.over (.compLoop (.GeneratorExp elt [⟨target, iter, [], 0⟩] scope pos) 0 (.ref I) .none cenv) []).handled = none := hh
  have hCw : cenv.locals ∉ wr := fun h => hCf ((W₀ A hh).sub _ h)
  intro k
  induction k with
  | zero =>
    intro i s₀ s m hk hi hst hn hsince hkp
    have hin : i = n₀ := by (first | lia | omega)
    subst hin
    show Seg _ A _ _ _ s₀ _ ((compTurn (.GeneratorExp elt [⟨target, iter, [], 0⟩] scope pos) 0 (.ref I) .none cenv).onRaise (leaving cenv)) [] s
    rw [compTurn_gen, Sem.onRaise_eq_wrap]
    refine seg_bind_wrap (wpAny_standAt ?_)
    refine seg_bind_wrap ((W₀ _ hh').done s _ _ hst fun h' tk hk' => ?_)
    exact seg_end (.ok .next) ⟨rfl, by rw [passing_end]; rfl, hsince.step fun b o _ hw e => hk' b o hw e⟩
  | succ k ih =>
    intro i s₀ s m hk hi hst hn hsince hkp
    have hlt : i < n₀ := by (first | lia | omega)
    show Seg _ A _ _ _ s₀ _ ((compTurn (.GeneratorExp elt [⟨target, iter, [], 0⟩] scope pos) 0 (.ref I) .none cenv).onRaise (leaving cenv)) [] s
    rw [compTurn_gen, Sem.onRaise_eq_wrap]
    refine seg_bind_wrap (wpAny_standAt ?_)
    refine seg_bind_wrap ((W₀ _ hh').item i s _ _ hlt hst fun v h₁ tk₁ hPv hst₁ hk₁ => ?_)
    have hkp₁ : ∀ b ∈ fp, b ∉ wr → ∀ o, href.get? b = some o → h₁.get? b = some o := fun b hb hbw o e => hk₁ b o hbw (hkp b hb hbw o e)
    rw [passing_true hlt rfl, List.length_cons]
    refine seg_bind_wrap (wpAny_mono (hq.turn _ _ i v { s with heap := h₁, toks := tk₁ } _ hh' hPv hst₁ (hn.at' fun o e => hk₁ _ o hCw e) hkp₁) (fun _ s₃ h₃ => ?_) fun _ _ e => e)
    refine seg_bind_wrap (wpAny_mono h₃ (fun _ s₄ h₄ => ?_) fun _ _ e => e)
    refine seg_bind_wrap (wpAny_pure ?_)
    simp only [if_true]
    have hy : ∀ v, yieldOut cenv v = yieldValue v := fun v => by simp only [yieldOut, hco, Bool.false_eq_true, if_false]
    simp only [hy]
    rw [Sem.bind_eq_wrap', Sem.bind_eq_wrap', Sem.wrap_wrap, Sem.wrap_wrap]
    refine seg_wrap (wpAny_mono h₄ (fun y s₅ h₅ => ?_) fun _ _ e => e)
    obtain ⟨hFy, h₅, tk₅, m', oh⟩ := h₅; refine and3 oh fun oq0 hn₅ hk₅ => ?_; clear oh; subst oq0
    have hst₅ : St₀ (i + 1) h₅ := (W₀ A hh).frame _ _ _ hst₁ fun b hb o e => hk₅ b o (fun h => hCf (h ▸ hb)) e
    have hsince₅ : GenSince cenv.locals wr s₀ { s with heap := h₅, toks := tk₅ } := hsince.step fun b o hbC hbw e => hk₅ b o hbC (hk₁ b o hbw e)
    refine seg_at (seg_yield rfl rfl rfl ⟨⟨i, passing_here hlt rfl, hFy⟩, hsince₅, fun s'' hal => ?_⟩)
    refine seg_again rfl (ih (i + 1) s'' s'' _ (by (first | lia | omega)) hlt ((W₀ A hh).frame _ _ _ hst₅ fun b hb o e => hal b (List.mem_cons_of_mem _ hb) o e)
      (hn₅.at' fun o e => hal _ (List.mem_cons_self ..) o e) (GenSince.refl _ _ _) fun b hb hbw o e => hal b (List.mem_cons_of_mem _ hb) o (hk₅ b o (fun h => hCf (h ▸ hb)) (hkp₁ b hb hbw o e)))

theorem seg_startT {elt iter target : Expr} {scope : Scope} {pos : Pos} {I : Addr} {fp wr : List Addr} {n₀ : Nat} {P : Nat → Value → Prop} {St₀ : Nat → Heap → Prop} {cenv : Env}
    (hh : A.handled = none) (W₀ : ∀ A' : Around, A'.handled = none → Walks prog w A' I fp wr n₀ P St₀) (F : Nat → Value → Prop) (href : Heap)
    (hco : cenv.scope.isCoroutine = false) (hCf : cenv.locals ∉ fp) (hq : QTurn prog w cenv target I elt fp wr P St₀ F href)
    (s₀ s : Shared) (m : Str → Option Value) (hst : St₀ 0 s.heap) (hn : s.heap.Ns cenv.locals m) (hsince : GenSince cenv.locals wr s₀ s)
    (hkp : ∀ b ∈ fp, b ∉ wr → ∀ o, href.get? b = some o → s.heap.get? b = some o) :
    Seg (model prog w) A (fun n s₀ r s₁ => r = .ok .next ∧ (n = 0 ∧ GenSince cenv.locals wr s₀ s₁)) (genProto cenv.locals fp wr (fun _ => true) n₀ F) (passing (fun _ => true) n₀ 0).length s₀
      (.compStart (.GeneratorExp elt [⟨target, iter, [], 0⟩] scope pos) 0 (.ref I) .none cenv)
      ((model prog w).den (.compStart (.GeneratorExp elt [⟨target, iter, [], 0⟩] scope pos) 0 (.ref I) .none cenv)) [] s := by
  have hh' : (A.over (.compStart (.GeneratorExp elt [⟨target, iter, [], 0⟩] scope pos) 0 (.ref I) .none cenv) []).handled = none := hh
  have loop := seg_loopT (iter := iter) (scope := scope) (pos := pos) hh W₀ F href hco hCf hq n₀ 0 s₀ s m (Nat.sub_zero _) (Nat.zero_le _) hst hn hsince hkp
  show Seg _ A _ _ _ s₀ _ ((compStart (.GeneratorExp elt [⟨target, iter, [], 0⟩] scope pos) 0 (.ref I) .none cenv).onRaise (leaving cenv)) [] s
  unfold compStart
  rw [Sem.onRaise_eq_wrap]
  show Seg _ A _ _ _ s₀ _ ((ask >>= _).wrap _ _ _ _) [] s
  refine seg_bind_wrap (wpAny_askSetting ?_)
  split
  · exact seg_again rfl loop
  · first
      | exact seg_bind_wrap (wpAny_rule (seg_bind_wrap (wpAny_standAt (seg_bind_wrap ((W₀ _ hh').self 0 s _ _ hst (seg_again rfl loop))))))
      | (refine seg_bind_wrap (wpAny_rule ?_); show Seg _ A _ _ _ s₀ _ ((standAt iter.pos >>= _).wrap _ _ _ _) [] s; exact seg_bind_wrap (wpAny_standAt (seg_bind_wrap ((W₀ _ hh').self 0 s _ _ hst (seg_again rfl loop)))))

theorem genAtT {elt iter target : Expr} {scope : Scope} {pos : Pos} {I a : Addr} {g : Nat} {fp wr : List Addr} {n₀ : Nat} {P : Nat → Value → Prop} {St₀ : Nat → Heap → Prop} {cenv : Env}
    (hh : A.handled = none) (W₀ : ∀ A' : Around, A'.handled = none → Walks prog w A' I fp wr n₀ P St₀) (F : Nat → Value → Prop)
    (hco : cenv.scope.isCoroutine = false) (hCf : cenv.locals ∉ fp) {s : Shared} {m : Str → Option Value} {href : Heap} (hhref : ∀ b ∈ fp, b ∉ wr → ∀ o, href.get? b = some o → s.heap.get? b = some o) (hq : QTurn prog w cenv target I elt fp wr P St₀ F href)
    (hg : s.heap.IsGen a g) (hgs : s.gens[g]? = some (.fresh (.compStart (.GeneratorExp elt [⟨target, iter, [], 0⟩] scope pos) 0 (.ref I) .none cenv)))
    (hst : St₀ 0 s.heap) (hn : s.heap.Ns cenv.locals m) (hl : s.heap.NoLimit) : GenAt prog w A a g cenv.locals fp wr (fun _ => true) n₀ F 0 s :=
  ⟨hg, hl, _, hgs, fun s'' hal => ⟨rfl, seg_startT (A := A.in1) hh W₀ F href hco hCf hq s'' s'' m ((W₀ A hh).frame _ _ _ hst fun b hb o e => hal b (List.mem_cons_of_mem _ hb) o e)
    (hn.at' fun o e => hal _ (List.mem_cons_self ..) o e) (GenSince.refl _ _ _) fun b hb hw o e => hal b (List.mem_cons_of_mem _ hb) o (hhref b hb hw o e)⟩⟩
end
end Mine
end
end
section
open PySem PySem.W PySem.Calls PyProof.Rows PySem.Spec
set_option Elab.async false
set_option linter.unusedVariables false
set_option maxRecDepth 100000
noncomputable section
namespace Mine

section
variable {prog : Program} {w : World} {A : Around} {E : Value → Shared → Prop} {s : Shared}
noncomputable def SeqAt (h : Heap) (a : Addr) (vs : List Value) : Prop := ∃ o, h.get? a = some o ∧ ∃ n, o.data = .seq vs.toArray n
theorem SeqAt.keeps {h h' : Heap} {a : Addr} {vs : List Value} (x : SeqAt h a vs) (k : ∀ o, h.get? a = some o → h'.get? a = some o) : SeqAt h' a vs := let ⟨o, e, r⟩ := x; ⟨o, k _ e, r⟩
theorem seq_next_item {it l : Addr} {i : Nat} {vs : List Value} {x : Value} {Q : Option Value → Shared → Prop} (hit : s.heap.IsListIter it l i)
    (hl : SeqAt s.heap l vs) (hx : vs[i]? = some x)
    (hQ : ∀ h', h'.IsListIter it l (i + 1) → Heap.SameBut it s.heap h' → Q (some x) { s with heap := h' }) :
    wpAny (model prog w) A (pyNext (.ref it)) Q E s := by
  obtain ⟨o, oh⟩ := id hit; refine and3 oh fun ho hc hd => ?_; clear oh
  obtain ⟨ol, hol, nl, hdl⟩ := hl
  unfold pyNext
  refine wpAny_bind (wpAny_attempt (wpAny_callSpecial?_slot (name := Str.ofString "__next__") hit.typeIs slot_listiter_next
    (wpAny_call_entry slot_listiter_next hit.typeIs entry_listiter_next ?_ (args_listiter_next _))))
  show wpAny _ _ (field (.ref it) 0 >>= _) _ _ s
  refine wpAny_bind (wpAny_field ho hd (x := .ref l) rfl ?_)
  show wpAny _ _ (if (Value.ref l == Value.none) = true then _ else _) _ _ s
  refine wp_if_neg (show ¬ ((Value.ref l == Value.none) = true) from Bool.false_ne_true) ?_
  show wpAny _ _ (field (.ref it) 1 >>= _) _ _ s
  refine wpAny_bind (wpAny_field ho hd (x := .int i 0) rfl ?_)
  show wpAny _ _ (seqItems? (.ref l) >>= _) _ _ s
  refine wpAny_bind (wpAny_seqItems hol hdl ?_)
  simp only [Int.toNat_natCast, List.getElem?_toArray, hx]
  refine wpAny_bind (wpAny_setField ho hd (by simp) (wpAny_pure ⟨x, rfl, wpAny_pure (hQ _ ?_ (Heap.SameBut.update ..))⟩))
  exact ⟨_, Heap.get?_update_self _ ho (Obj.isFreed_of_fields (Obj.data_mapFields hd _)), (Obj.cls_mapFields ..).trans hc, by
    rw [Obj.data_mapFields hd]; simp [rawInt]⟩
theorem seq_next_end {it l : Addr} {i : Nat} {vs : List Value} {Q : Option Value → Shared → Prop} (hh : A.handled = none)
    (hit : s.heap.IsListIter it l i) (hl : SeqAt s.heap l vs) (hx : vs[i]? = none)
    (hQ : ∀ h', Heap.ExtBut it s.heap h' → Q none { s with heap := h' }) : wpAny (model prog w) A (pyNext (.ref it)) Q E s := by
  obtain ⟨o, oh⟩ := id hit; refine and3 oh fun ho hc hd => ?_; clear oh
  obtain ⟨ol, hol, nl, hdl⟩ := hl
  unfold pyNext
  refine wpAny_bind (wpAny_attempt (wpAny_callSpecial?_slot (name := Str.ofString "__next__") hit.typeIs slot_listiter_next
    (wpAny_call_entry slot_listiter_next hit.typeIs entry_listiter_next ?_ (args_listiter_next _))))
  show wpAny _ _ (field (.ref it) 0 >>= _) _ _ s
  refine wpAny_bind (wpAny_field ho hd (x := .ref l) rfl ?_)
  show wpAny _ _ (if (Value.ref l == Value.none) = true then _ else _) _ _ s
  refine wp_if_neg (show ¬ ((Value.ref l == Value.none) = true) from Bool.false_ne_true) ?_
  show wpAny _ _ (field (.ref it) 1 >>= _) _ _ s
  refine wpAny_bind (wpAny_field ho hd (x := .int i 0) rfl ?_)
  show wpAny _ _ (seqItems? (.ref l) >>= _) _ _ s
  refine wpAny_bind (wpAny_seqItems hol hdl ?_)
  simp only [Int.toNat_natCast, List.getElem?_toArray, hx]
  refine wpAny_bind (wpAny_rule (wpAny_bind (wpAny_setField ho hd (by simp) ?_)))
  show wpAny _ _ (newExc (.type "StopIteration") [] >>= _) _ _ _
  refine wpAny_bind ?_
  simp only [newExc, newTuple]
  refine wpAny_bind (wpAny_newObj_type ?_ (by size_fits))
  refine wpAny_bind (m := firstArgMember _ _) (wpAny_of_eq (a := Value.none) (by first | rfl | (simp only [firstArgMember]; rfl)) ?_)
  refine wpAny_newObj_type ?_ (by size_fits)
  simp only [raiseNew]
  refine wpAny_bind (wpAny_handled ?_)
  rw [show A.in1.handled = none from hh]
  refine wpAny_bind (wpAny_pure (wpAny_throw ?_))
  refine wpAny_bind (wpAny_isInstance (T := "StopIteration") (b := true) ⟨_, Heap.get?_push_size _ rfl, rfl⟩ isSubtype_stop ?_)
  exact wpAny_pure (hQ _ (((Heap.SameBut.update ..).extBut.push _).push _))
theorem walks_seq (hh : A.handled = none) (I ax : Addr) (hne : ax ≠ I) (vs : List Value) :
    Walks prog w A I [I, ax] [I] vs.length (fun i v => vs[i]? = some v) (fun i h => h.IsListIter I ax i ∧ SeqAt h ax vs) where
  sub := fun b hb => by simp at hb; simp [hb]
  frame := fun _ _ _ st hk => ⟨st.1.at fun o e => hk I (by simp) o e, st.2.keeps fun o e => hk ax (by simp) o e⟩
  item := fun i s Q E hi st hQ => by
    refine seq_next_item st.1 st.2 (x := vs[i]) (by simp [hi]) fun h' hit' hs' => ?_
    exact hQ _ h' s.toks (by simp [hi]) ⟨hit', st.2.keeps fun o e => hs'.extBut _ o hne e⟩ fun b o hb e => hs'.extBut b o (fun h => hb (by simp [h])) e
  done := fun s Q E st hQ => seq_next_end hh st.1 st.2 (by simp) fun h' he' => hQ h' s.toks fun b o hb e => he' b o (fun h => hb (by simp [h])) e
  self := fun _ _ _ _ st hQ => wpAny_pyIter_listiter st.1 hQ
end

section
variable {w : World} {A : Around} {E : Value → Shared → Prop} {h : Heap} {g : Array GenState} {d : Drawn} {t : Nat} {os : OsState}
theorem it_166 (X : (KK w).In h) : Looks (model PW w) h (typeLookup (.ref 166) "__iter__") (some (.builtin "list.__iter__")) := looks_findIn X (by kernel_rfl)
theorem iter_pile {a dx : Addr} {vs : List Value} {n : Nat} {Q : Value → Shared → Prop} (X : (KK w).In h) (hx : h.get? a = some (pileObj dx vs n))
    (hQ : Q (.ref h.objs.size) ⟨h.push { cls := .type "list_iterator", data := .fields #[.ref a, .int 0 0] }, g, d, t, os⟩) : wpAny (model PW w) A (pyIter (.ref a)) Q E ⟨h, g, d, t, os⟩ := by
  have L0 : Looks (model PW w) h (typeOf (.ref a)) (.ref 166) := (Looks.ld hx).andThen .now
  have L1 := it_166 X
  unfold pyIter specialOf
  refine wpAny_bind (wpAny_bind (L0.at (L1.at ?_)))
  dsimp only
  have LB : Looks (model PW w) h (bindSpecialIfBound? (.ref a) "__iter__") (some (.builtin "list.__iter__", [.ref a])) := by
    unfold bindSpecialIfBound? specialOf
    refine (L0.andThen L1).andThen ?_
    dsimp only
    rw [slot_list_iter.bind]
    intro A Q E s k q
    refine wpAny_bind (wpAny_askSetting ?_)
    split
    · exact wpAny_bind (wpAny_pure (wpAny_pure q))
    · exact wpAny_tryCatch (wpAny_bind (wpAny_pure (wpAny_pure q)))
  unfold callSpecialIfBoundUnlessNone?
  refine wpAny_bind (wpAny_holding (wpAny_bind (LB.at ?_)))
  dsimp only
  refine wp_if_neg (by decide) ?_
  refine wpAny_bind (wpAny_call (codeAny_call_builtin slot_list_iter.plain entry_list_iter ?_))
  refine @check_pile (MM ⟨w, os, fun _ => none, fun _ => none⟩) _ _ ⟨h, g, d, t, os⟩ "list.__iter__" "__iter__" .slot (.ref a) [] _ (by decide +kernel) (.inr rfl) (by decide +kernel) (inst_166 X hx) (args_list_iter _) ?_
  show wpAny _ _ (do ret (← newFields "list_iterator" [.ref a, rawInt 0])) _ _ _
  refine wpAny_bind (wpAny_newObj_type (wpAny_pure (wpAny_pure ?_)))
  refine wpAny_bind (wpAny_bind (wpAny_typeOf (T := "list_iterator") ⟨_, Heap.get?_push_size _ rfl, rfl⟩ (wpAny_of_eq slot_listiter_next.lookup (wpAny_pure hQ))))
end
end Mine
end
end
section
open PySem PySem.W PySem.Calls PyProof.Rows PySem.Spec
set_option Elab.async false
set_option linter.unusedVariables false
set_option maxRecDepth 100000
noncomputable section
namespace Mine

structure GEnv (cenv : Env) (x y : Str) : Prop where
  g : cenv.globals = mainGlobals
  b : cenv.builtins = builtinsNs
  k : cenv.scope.kind = .function
  co : cenv.scope.isCoroutine = false
  kx : cenv.kindOf x = some .local
  ky : cenv.kindOf y = some .local
  xy : x ≠ y
  dx : (x == ("__debug__" : Str)) = false
  dy : (y == ("__debug__" : Str)) = false

theorem join2_fits {u u' : Str} (hu : u.length ≤ 1000) (hu' : u'.length ≤ 1000) : ([u, u'].map (·.length)).sum + [u, u'].length * (Str.ofString "").length ≤ 16777216 := by
  have : (Str.ofString "").length = 0 := by decide
  rw [this]
  simp
  (first | lia | omega)
noncomputable def PairAt (h : Heap) (v : Value) (u u' : Str) : Prop := ∃ T t t', v = .ref T ∧ IsTup h T #[.str u t, .str u' t']

section
variable {w : World} {A : Around} {E : Value → Shared → Prop}
theorem isTup_sub {h h' : Heap} {T : Addr} {vs : Array Value} (x : IsTup h T vs) (k : ∀ b o, h.get? b = some o → h'.get? b = some o) : IsTup h' T vs := by
  refine ex1 (x) fun o ou0 => ?_; (try clear x); refine and2 (ou0) fun e r => ?_; clear ou0
  exact ⟨o, k _ _ e, r⟩

theorem turn_store {cenv : Env} {x y : Str} {p1 p2 tpos : Pos} {k : Nat} {I : Addr} {v : Value} {u u' : Str} {j : Nat} {ax : Addr} {s₂ : Shared} {m₂ : Vars} {elt : Expr} {Q : Value → Shared → Prop}
    (G : GEnv cenv x y) (hA : A.handled = none) (hI : s₂.heap.IsListIter I ax j) (hp : PairAt s₂.heap v u u') (hn : s₂.heap.Ns cenv.locals m₂)
    (h : ∀ h₅ tk t t', h₅.Ns cenv.locals (upd (upd m₂ x (.str u t)) y (.str u' t')) → (∀ b o, b ≠ cenv.locals → s₂.heap.get? b = some o → h₅.get? b = some o) → wpAny (model PW w) A (eval elt cenv) Q E { s₂ with heap := h₅, toks := tk }) :
    wpAny (model PW w) A (letOwnedTupleGo (.Tuple [.Name x p1, .Name y p2] k tpos) (.ref I) v) (fun _ s₃ => wpAny (model PW w) A (assign (.Tuple [.Name x p1, .Name y p2] k tpos) cenv v) (fun _ s₄ => wpAny (model PW w) A (eval elt cenv) Q E s₄) E s₃) E s₂ := by
  refine ex3 (hp) fun T t t' ou0 => ?_; (try clear hp); refine and2 (ou0) fun oq3 hT => ?_; clear ou0; subst oq3
  refine ex1 (hI) fun oI oh => ?_; (try clear hI); refine and3 oh fun hoI hIc hId => ?_; clear oh
  obtain ⟨hh, g, d, tk, os⟩ := s₂
  have hne : T ≠ hh.objs.size := by obtain ⟨o, e, _⟩ := hT; exact Nat.ne_of_lt (Heap.lt_size e)
  have hCl : cenv.locals ≠ hh.objs.size := Nat.ne_of_lt hn.lt
  have cls : (cenv.scope.kind == .class || (cenv.scope.kind == .module && cenv.locals != cenv.globals)) = false := by rw [G.k]; rfl
  unfold letOwnedTupleGo
  refine wpAny_bind (wpAny_load hoI ?_)
  rw [hIc, hId]
  dsimp only
  refine wp_if_neg (by rw [show (["enumerate", "zip", "dict_itemiterator", "dict_reverseitemiterator", "odict_iterator", "itertools.zip_longest", "itertools.pairwise"].contains "list_iterator") = false by decide]; exact Bool.false_ne_true) ?_
  refine wpAny_pure ?_
  refine assign_Tuple_tuple hA hT rfl rfl (fun h' he => ?_)
  have hn1 : h'.Ns cenv.locals m₂ := hn.at' fun o e => he _ _ hCl e
  refine assignInOrder_cons (assign_Name (wpAny_storeName_local G.kx hn1 (fun h'' hn'' hs'' => ?_) cls))
  refine assignInOrder_cons (assign_Name (wpAny_storeName_local G.ky hn'' (fun h3 hn3 hs3 => ?_) cls))
  refine assignInOrder_nil ?_
  exact h h3 _ t t' hn3 fun b o hb e => hs3.extBut b o hb (hs''.extBut b o hb (he b o (Nat.ne_of_lt (Heap.lt_size e)) e))

theorem turn_len {cenv : Env} {x y : Str} {p1 p2 p3 p4 p5 p6 p7 p8 p9 tpos : Pos} {k : Nat} {I : Addr} {fp : List Addr} {h₀ : Heap} {mg mb : Str → Option Value} {ax : Addr} {vs : List Value} {val : Nat → Int}
    (G : GEnv cenv x y) (hl : cenv.kindOf "len" = some .globalImplicit) (X₀ : (KK w).In h₀) (T₀ : TopRead VW LS mg mb h₀) (hC : ∀ o, h₀.get? cenv.locals = some o → False) (hI : ∀ o, h₀.get? I = some o → False) (hfp : ∀ b o, h₀.get? b = some o → b ∈ fp)
    (hv : ∀ i v, vs[i]? = some v → ∃ u u', PairAt h₀ v u u' ∧ (u.length : Int) + u'.length = val i ∧ u.length ≤ 1000 ∧ u'.length ≤ 1000) :
    QTurn PW w cenv (.Tuple [.Name x p1, .Name y p2] k tpos) I (.BinOp (.Call (.Name "len" p3) [.Name x p4] [] p5) .Add (.Call (.Name "len" p6) [.Name y p7] [] p8) p9) fp [I] (fun i v => vs[i]? = some v) (fun i h => h.IsListIter I ax i ∧ SeqAt h ax vs)
      (fun i y => ∃ t, y = .int (val i) t) h₀ where
  turn := fun A' E' i v s₂ m₂ hA hP hst hn hk => by
    have k0 : ∀ b o, h₀.get? b = some o → s₂.heap.get? b = some o := fun b o e => hk b (hfp _ _ e) (fun q => by
      rw [List.mem_singleton] at q; subst q; exact hI _ e) o e
    refine ex2 (hv i v hP) fun u u' oh => ?_; refine and4 oh fun oq0 hval hu hu' => ?_; clear oh; refine ex3 (oq0) fun T t t' ou0 => ?_; (try clear oq0); refine and2 (ou0) fun oq3 hT => ?_; clear ou0; subst oq3
    refine turn_store G hA hst.1 ⟨T, t, t', rfl, isTup_sub hT k0⟩ hn fun h₅ tk t t' hn5 hk5 => ?_
    have k5 : ∀ b o, h₀.get? b = some o → h₅.get? b = some o := fun b o e => hk5 b o (fun q => hC o (q ▸ e)) (k0 b o e)
    have T5 := T₀.keeps k5
    have X5 := X₀.keeps k5
    have hlen : mg (Str.ofString "len") = none := mg_none_of X5 T5.g (by kernel_rfl)
    have hbl : mb (Str.ofString "len") = some (.builtin "len") := (T5.builtins (Str.ofString "len") (by decide +kernel)).trans (by boot_fast)
    have ex : (upd (upd m₂ x (.str u t)) y (.str u' t')) x = some (.str u t) := by simp [upd, G.xy]
    have ey : (upd (upd m₂ x (.str u t)) y (.str u' t')) y = some (.str u' t') := by simp [upd]
    have ln : ∀ {tk : Nat} {p3 p4 p5 : Pos} {z : Str} {c : Str} {tc : Tok} {Q' : Value → Shared → Prop}, (upd (upd m₂ x (.str u t)) y (.str u' t')) z = some (.str c tc) → cenv.kindOf z = some .local → (z == ("__debug__" : Str)) = false → c.length ≤ 1000 →
        (∀ tk' tc', Q' (.int c.length tc') { s₂ with heap := h₅, toks := tk' }) → wpAny (model PW w) A' (eval (.Call (.Name "len" p3) [.Name z p4] [] p5) cenv) Q' E' { s₂ with heap := h₅, toks := tk } := by
      intro tk p3 p4 p5 z c tc Q' e1 e2 e3 e4 hq
      refine Call_ (Name_function_global G.k hl (loadGlobal_builtin (by rw [G.g]; exact T5.g) hlen (by rw [G.b]; exact T5.b) hbl ?_))
      refine PyProof.Rows.callWith_builtin1 (args_cons (wpAny_Name (wpAny_loadName_local G.k e2 hn5 e1 (args_nil ?_)) e3))
      exact P.len_str (by (first | lia | omega)) (hq _ _)
    refine wpAny_BinOp (ln (tk := tk) ex G.kx G.dx hu fun tk1 tc1 => ln ey G.ky G.dy hu' fun tk2 tc2 => P.add_int ?_)
    exact ⟨⟨_, by rw [hval]⟩, _, _, _, rfl, hn5, hk5⟩

theorem turn_join {cenv : Env} {x y : Str} {p1 p2 p3 p4 p5 p6 p7 p8 tpos : Pos} {k kk : Nat} {I : Addr} {fp : List Addr} {h₀ : Heap} {mg mb : Str → Option Value} {ax : Addr} {vs : List Value} {val : Nat → Str}
    (G : GEnv cenv x y) (hl : cenv.kindOf "EMPTYSTRING" = some .globalImplicit) (X₀ : (KK w).In h₀) (T₀ : TopRead VW LS mg mb h₀) (hC : ∀ o, h₀.get? cenv.locals = some o → False) (hI : ∀ o, h₀.get? I = some o → False) (hfp : ∀ b o, h₀.get? b = some o → b ∈ fp)
    {pl : Sem Bool} (he : eval (.Call (.Attribute (.Name "EMPTYSTRING" p3) "join" p4) [.Tuple [.Name x p5, .Name y p6] kk p7] [] p8) cenv = (do
      let ov ← eval (.Name "EMPTYSTRING" p3) cenv
      standAt p4.atName
      let (f, first) ← holding [ov] (getMethod ov "join" pl)
      callWith p8 f first (backTo p8 (starEach [.Tuple [.Name x p5, .Name y p6] kk p7] cenv)) (backToKw p8 (keywordEach [] cenv))))
    (hv : ∀ i v, vs[i]? = some v → ∃ u u', PairAt h₀ v u u' ∧ Txt.join (Str.ofString "") [u, u'] = val i ∧ u.length ≤ 1000 ∧ u'.length ≤ 1000) :
    QTurn PW w cenv (.Tuple [.Name x p1, .Name y p2] k tpos) I (.Call (.Attribute (.Name "EMPTYSTRING" p3) "join" p4) [.Tuple [.Name x p5, .Name y p6] kk p7] [] p8) fp [I] (fun i v => vs[i]? = some v) (fun i h => h.IsListIter I ax i ∧ SeqAt h ax vs)
      (fun i y => ∃ t, y = .str (val i) t) h₀ where
  turn := fun A' E' i v s₂ m₂ hA hP hst hn hk => by
    have k0 : ∀ b o, h₀.get? b = some o → s₂.heap.get? b = some o := fun b o e => hk b (hfp _ _ e) (fun q => by
      rw [List.mem_singleton] at q; subst q; exact hI _ e) o e
    refine ex2 (hv i v hP) fun u u' oh => ?_; refine and4 oh fun oq0 hval hu hu' => ?_; clear oh; refine ex3 (oq0) fun T t t' ou0 => ?_; (try clear oq0); refine and2 (ou0) fun oq3 hT => ?_; clear ou0; subst oq3
    refine turn_store G hA hst.1 ⟨T, t, t', rfl, isTup_sub hT k0⟩ hn fun h₅ tk t t' hn5 hk5 => ?_
    have k5 : ∀ b o, h₀.get? b = some o → h₅.get? b = some o := fun b o e => hk5 b o (fun q => hC o (q ▸ e)) (k0 b o e)
    have T5 := T₀.keeps k5
    have X5 := X₀.keeps k5
    have ex : (upd (upd m₂ x (.str u t)) y (.str u' t')) x = some (.str u t) := by simp [upd, G.xy]
    have ey : (upd (upd m₂ x (.str u t)) y (.str u' t')) y = some (.str u' t') := by simp [upd]
    refine methodCall_KW (Name_function_global G.k hl (loadGlobal_global (by rw [G.g]; exact T5.g) (mg_of X5 T5.g (v := .str (Str.ofString "") 373) rfl) (GM.join ?_))) he
    refine Calls.callWith_builtin rfl (evalArgs_plain (args_cons (rest := []) (Tuple_ (args_cons (wpAny_Name (wpAny_loadName_local G.k G.kx hn5 ex (args_cons (wpAny_Name (wpAny_loadName_local G.k G.ky hn5 ey (args_nil ?_)) G.dy))) G.dx)))))
    unfold newTuple
    refine wpAny_newObj_type (args_nil ?_) (by show 2 ≤ _; rw [sizeLine_eq]; (first | lia | omega))
    refine join_tuple (items := #[.str u t, .str u' t']) (ys := [u, u']) ⟨_, Heap.get?_push_size _ rfl, rfl, 0, rfl⟩ (.cons _ _ (.cons _ _ .nil)) (join2_fits hu hu') (fun t'' k => ?_)
    exact ⟨⟨_, by rw [hval]⟩, _, _, _, rfl, hn5.push _, fun b o hb e => Heap.get?_push_of_some _ (hk5 b o hb e)⟩
end
end Mine
end
end
section
open PySem PySem.W PySem.Calls PyProof.Rows PySem.Spec
set_option Elab.async false
set_option linter.unusedVariables false
set_option maxRecDepth 100000
noncomputable section
namespace Mine
section
variable {prog : Program} {w : World} {A : Around} {E : Value → Shared → Prop} {s : Shared} {I : Addr} {fp wr : List Addr} {G : Array GenState → Array GenState → Prop} {n : Nat} {P : Nat → Value → Prop} {T : Nat → Shared → Prop}

theorem walks_shift (W : WalksS prog w A I fp wr G n P T) : WalksS prog w A I fp wr G (n + 1) (fun i v => 1 ≤ i ∧ P (i - 1) v) (fun i s => 1 ≤ i ∧ T (i - 1) s) where
  sub := W.sub
  grefl := W.grefl
  gtrans := W.gtrans
  frame := fun i s h' tk st htk hk => ⟨st.1, W.frame _ _ _ _ st.2 htk hk⟩
  item := fun i s Q E hi st hQ => W.item (i - 1) s Q E (by (first | lia | omega)) st.2 fun v s' hP hT hm => hQ v s' ⟨st.1, hP⟩ ⟨by (first | lia | omega), by have := hT; rwa [show i + 1 - 1 = i - 1 + 1 by (first | lia | omega)]⟩ hm
  done := fun s Q E st hQ => W.done s Q E (by have := st.2; rwa [show n + 1 - 1 = n by (first | lia | omega)] at this) hQ
  self := fun i s Q E st hQ => W.self (i - 1) s Q E st.2 hQ

theorem preSum_shift (a : Int) (val : Nat → Int) : ∀ n : Nat, preSum (fun i => if i = 0 then a else val (i - 1)) (n + 1) = a + preSum val n
  | 0 => by simp [preSum]
  | n + 1 => by
    have ih := preSum_shift a val n
    rw [preSum, ih, preSum, if_neg (by (first | lia | omega))]
    simp only [Nat.add_sub_cancel]
    (first | lia | omega)

theorem call_sum2 {x : Value} {a : Int} {ta : Tok} {Q : Value → Shared → Prop}
    (h : wpAny (model prog w) A.in1 (pyIter x) (fun it s₂ => ∃ I fp wr G n P T val, it = .ref I ∧ WalksS prog w A.in1 I fp wr G n P T ∧ T 0 s₂ ∧ (∀ b ∈ fp, b < s₂.heap.objs.size) ∧
      (∀ i v, P i v → ∃ t, v = .int (val i) t) ∧
      ∀ s' t', Moved wr G s₂ s' → Q (.int (a + preSum val n) t') s') E s) :
    wpAny (model prog w) A (call (.builtin "sum") [x, .int a ta]) Q E s := by
  refine call_function_tree F.kind_sum F.plain_sum F.entry_sum (by unfold argsOk; kernel_rfl) ?_
  unfold Builtin.«sum»
  simp only [List.length_cons, List.length_nil]
  refine wp_if_neg (by decide) ?_
  refine wpAny_bind (wpAny_of_eq (show Builtin.Builtins.bindParams "sum" ["start"] 0 ⟨[.int a ta], []⟩ = pure [some (.int a ta)] from rfl) ?_)
  refine wpAny_bind (wpAny_mono h (fun it s₂ h₂ => ?_) fun _ _ e => e)
  refine ex8 (h₂) fun I fp wr G n P T val oh => ?_; (try clear h₂); refine and6 oh fun oq0 W hst hfp hval hQ => ?_; clear oh; subst oq0
  dsimp only
  have hSf : s₂.heap.objs.size ∉ fp := fun hm => Nat.lt_irrefl _ (hfp _ hm)
  have hv' : ∀ i v, (1 ≤ i ∧ P (i - 1) v) → ∃ t, v = .int ((fun i => if i = 0 then a else val (i - 1)) i) t := fun i v hp => by
    have h1 := hp.1
    refine ex1 (hval _ _ hp.2) fun t e => ?_
    exact ⟨t, by dsimp only; rw [if_neg (by (first | lia | omega))]; exact e⟩
  split
  · refine wpAny_bind (wpAny_rule (wpAny_bind (wpAny_mkInt (wpAny_bind (wpAny_pure ?_)))))
    simp only [List.forIn_cons, List.forIn_nil]
    refine wpAny_bind (wpAny_bind (wpAny_bind (wpAny_isInstance (T := "int") (b := false) (typeIs_int _ _ _) PySem.sub_int_str ?_)))
    simp only [Bool.false_eq_true, if_false]
    refine wpAny_pure (wpAny_bind (wpAny_bind (wpAny_isInstance (T := "int") (b := false) (typeIs_int _ _ _) sub_int_bytes ?_)))
    simp only [Bool.false_eq_true, if_false]
    refine wpAny_pure (wpAny_bind (wpAny_bind (wpAny_isInstance (T := "int") (b := false) (typeIs_int _ _ _) sub_int_bytearray ?_)))
    simp only [Bool.false_eq_true, if_false]
    refine wpAny_pure (wpAny_pure ?_)
    refine wpAny_bind (wpAny_newObj_type ?_)
    refine wpAny_pure ⟨plainId_quiet F.plain_sum_loop _, codeAny_sum_loopAnyS (walks_shift W) (fun i => if i = 0 then a else val (i - 1)) hv' s₂.heap.objs.size hSf n 1 _ s₂.toks 0 0 (by first | exact .inl rfl | exact .inr rfl) (by (first | lia | omega)) (by (first | lia | omega))
      ⟨Nat.le_refl 1, W.frame 0 s₂ _ _ hst (by first | exact Nat.le_refl _ | exact Nat.le_succ _ | (first | lia | omega)) fun b _ o e => Heap.get?_push_of_some _ e⟩ ?_ fun s' t' hm => ?_⟩
    · rw [Heap.get?_push_size _ rfl]
      simp [preSum]
    · rw [preSum_shift]
      exact hQ s' t' (hm.drop_new (by first | exact Nat.le_refl _ | exact Nat.le_succ _ | (first | lia | omega)))
  · refine wpAny_bind (wpAny_pure ?_)
    simp only [List.forIn_cons, List.forIn_nil]
    refine wpAny_bind (wpAny_bind (wpAny_bind (wpAny_isInstance (T := "int") (b := false) (typeIs_int _ _ _) PySem.sub_int_str ?_)))
    simp only [Bool.false_eq_true, if_false]
    refine wpAny_pure (wpAny_bind (wpAny_bind (wpAny_isInstance (T := "int") (b := false) (typeIs_int _ _ _) sub_int_bytes ?_)))
    simp only [Bool.false_eq_true, if_false]
    refine wpAny_pure (wpAny_bind (wpAny_bind (wpAny_isInstance (T := "int") (b := false) (typeIs_int _ _ _) sub_int_bytearray ?_)))
    simp only [Bool.false_eq_true, if_false]
    refine wpAny_pure (wpAny_pure ?_)
    refine wpAny_bind (wpAny_newObj_type ?_)
    refine wpAny_pure ⟨plainId_quiet F.plain_sum_loop _, codeAny_sum_loopAnyS (walks_shift W) (fun i => if i = 0 then a else val (i - 1)) hv' s₂.heap.objs.size hSf n 1 _ ta 0 2 (by first | exact .inl rfl | exact .inr rfl) (by (first | lia | omega)) (by (first | lia | omega))
      ⟨Nat.le_refl 1, W.frame 0 s₂ _ _ hst (by first | exact Nat.le_refl _ | exact Nat.le_succ _ | (first | lia | omega)) fun b _ o e => Heap.get?_push_of_some _ e⟩ ?_ fun s' t' hm => ?_⟩
    · rw [Heap.get?_push_size _ rfl]
      simp [preSum]
    · rw [preSum_shift]
      exact hQ s' t' (hm.drop_new (by first | exact Nat.le_refl _ | exact Nat.le_succ _ | (first | lia | omega)))
end
end Mine
end
end
section
open PySem PySem.W PySem.Calls PyProof.Rows PySem.Spec
set_option Elab.async false
set_option linter.unusedVariables false
set_option maxRecDepth 100000
noncomputable section
namespace Mine

noncomputable def isTab : HP := fun o => ∃ ps, o = { cls := .none, data := .fields ps } ∧ TriplesOk ps.toList

theorem passing_all (n : Nat) : passing (fun _ => true) n 0 = List.range n := by
  unfold passing
  rw [List.drop_zero, List.filter_eq_self]
  intro _ _; rfl

theorem walks_vals {prog : Program} {w : World} {A : Around} {I : Addr} {fp wr : List Addr} {G : Array GenState → Array GenState → Prop} {n : Nat} {P P' : Nat → Value → Prop} {T : Nat → Shared → Prop}
    (W : WalksS prog w A I fp wr G n P T) (h : ∀ i v, i < n → P i v → P' i v) : WalksS prog w A I fp wr G n P' T where
  sub := W.sub
  grefl := W.grefl
  gtrans := W.gtrans
  frame := W.frame
  item := fun i s Q E hi st hQ => W.item i s Q E hi st fun v s' hP hT hm => hQ v s' (h i v hi hP) hT hm
  done := W.done
  self := W.self

section
variable {X : Fm} {m : Vars} {σ : Led}
theorem builtins_of {w : World} {h : Heap} (X₀ : (KK w).In h) : Looks (model PW w) h (builtinsFor mainGlobals builtinsNs) builtinsNs := Looks.of_peek X₀ (by kernel_rfl)

theorem St.lt {C : Cx} {B F : PH} {L : Addr} {m : Vars} {σ : Led} {s : Shared} (S : St C B F L m σ s) : ∀ p ∈ σ, p.1 < s.heap.objs.size := fun p hp => let ⟨_, e, _⟩ := S.own p hp; Heap.lt_size e

theorem St.moved {C : Cx} {B F : PH} {L : Addr} {m : Vars} {σ : Led} {s s' s'' : Shared} (S : St C B F L m σ s) (S' : St C B F L m σ s') (hN : ∀ b o, b < s.heap.objs.size → s'.heap.get? b = some o → s''.heap.get? b = some o)
    (hos : s''.os = s'.os) (hg : AllBare s''.gens) : St C B F L m σ s'' where
  keep := fun b o e => hN b o (Heap.lt_size (S.keep b o e)) (S'.keep b o e)
  keepF := fun b o e => hN b o (Heap.lt_size (S.keepF b o e)) (S'.keepF b o e)
  ns := S'.ns.at' fun o e => hN _ o S.ns.lt e
  own := fun p hp => let ⟨o, e, q⟩ := S'.own p hp; ⟨o, hN _ _ (S.lt p hp) e, q⟩
  bL := S.bL
  fL := S.fL
  bσ := S.bσ
  nd := S.nd
  wf := S.wf
  os := hos.trans S'.os
  gens := hg
theorem St.ext0 {C : Cx} {B F : PH} {L : Addr} {m : Vars} {σ : Led} {s : Shared} {a : Addr} {P P' : HP} (S : St C B F L m ((a, P) :: σ) s) {h' : Heap} {t : Nat} {o' : Obj} (ho : h'.get? a = some o') (hp : P' o') (hs : Heap.ExtBut a s.heap h') :
    St C B F L m ((a, P') :: σ) { s with heap := h', toks := t } where
  keep := fun b o e => hs b o (fun q => by subst q; rw [(S.bσ _ (.head _)).1] at e; cases e) (S.keep b o e)
  keepF := fun b o e => hs b o (fun q => by subst q; rw [(S.bσ _ (.head _)).2] at e; cases e) (S.keepF b o e)
  ns := S.ns.at' fun o e => hs _ o (fun q => (List.nodup_cons.mp S.nd).1 (q ▸ .head _)) e
  own := fun p hp' => by
    rcases List.mem_cons.mp hp' with rfl | hp'
    · exact ⟨o', ho, hp⟩
    · refine ex1 (S.own p (.tail _ hp')) fun o ou0 => ?_; refine and2 (ou0) fun e q => ?_; clear ou0
      refine ⟨o, hs _ _ (fun q => ?_) e, q⟩
      exact (List.nodup_cons.mp (List.nodup_cons.mp S.nd).2).1 (by rw [← q]; exact mem_fst (p := p) hp')
  bL := S.bL
  fL := S.fL
  bσ := fun p hp' => by
    rcases List.mem_cons.mp hp' with rfl | hp'
    · exact S.bσ (a, P) (.head _)
    · exact S.bσ p (.tail _ hp')
  nd := S.nd
  wf := S.wf
  os := S.os
  gens := S.gens

theorem isCode_of {h : Heap} {c P : Addr} {op : Obj} {ps : Array Value} (x : CodeHd h c P) (hP : h.get? P = some op) (hd : op.data = .fields ps) (ht : TriplesOk ps.toList) : h.IsCode c P ps :=
  by
  refine ex9 (x) fun o vs file tf flags tg inF text tt oh => ?_; (try clear x)
  refine and10 oh fun e1 _ e3 _ f3 f4 f5 f6 f7 f11 => ?_
  exact ⟨o, vs, file, tf, flags, tg, inF, text, tt, _, e1, e3, f3, f4, f5, f6, f7, hP, hd, ht, f11⟩

theorem tableAt_of {h : Heap} {c P : Addr} {ps : Array Value} (x : CodeHd h c P) (hP : h.get? P = some { cls := .none, data := .fields ps }) : h.TableAt c P ps :=
  by
  refine ex9 (x) fun o vs file tf flags tg inF text tt oh => ?_; (try clear x)
  refine and10 oh fun e1 e2 e3 e4 _ _ _ _ _ _ => ?_
  exact ⟨⟨o, vs, e1, e2, e3, e4⟩, hP⟩
theorem isCode_parts {h : Heap} {c P : Addr} {ps : Array Value} (x : h.IsCode c P ps) : ∃ op, h.get? P = some op ∧ op.data = .fields ps ∧ TriplesOk ps.toList := by
  refine ex10 (x) fun _ _ _ _ _ _ _ _ _ op oh => ?_; (try clear x)
  refine and11 oh fun _ _ _ _ _ _ _ eP hps htr _ => ?_
  exact ⟨op, eP, hps, htr⟩
theorem genCode {M : Model} {A : Around} {E : Value → Shared → Prop} {s : Shared} {env : Env} {c P : Addr} {ps : Array Value} {pos : Pos} {qualname : Str} {scope : Scope} {Q : Value → Shared → Prop} (hc : env.code = .ref c) (hok : s.heap.IsCode c P ps) (htab : s.heap.TableAt c P ps)
    (hQ : ∀ code h' tk ps', Heap.ExtBut P s.heap h' → h'.IsCode c P ps' → h'.TableAt c P ps' → Q code { s with heap := h', toks := tk }) : wpAny M A (genexprCode env pos qualname scope) Q E s := by
  cases hnf : codeAmong pos ps.toList with
  | some cv => exact wpAny_genexprCode_hit hc hok hnf (hQ cv s.heap s.toks ps (Heap.ExtBut.refl _ _) hok htab)
  | none => exact wpAny_genexprCodeX hc hok htab hnf fun c' h' tk e1 _ _ i _ t _ => hQ _ _ _ _ e1 i t
theorem gen_pile {P c f : Addr} {qual : Str} {scope gscope : Scope} {a dx : Addr} {vs : List Value} {elt : Expr} {pos : Pos} {F : Nat → Value → Prop} {x y : Str} {p1 p2 tpos xpos : Pos} {k : Nat} {self : Str} {Q : Value → Shared → Prop} {E : Value → Shared → Prop}
    (hA : Ok 3 X.A) (ha : Kn X.B σ a (isPile dx vs)) (hcode : codeHdIn (KK X.C.w) c P = true)
    (hself : m self = some (.ref a)) (hsl : scope.names.lookup self = some .local) (hsk : scope.kind = .function) (hsd : (self == ("__debug__" : Str)) = false)
    (hgk : gscope.kind = .function) (hco : gscope.isCoroutine = false) (hfree : gscope.names.all (fun z => z.2 != .cell) = true) (h0 : gscope.names.lookup (".0" : Str) = some NameKind.local)
    (hx : gscope.names.lookup x = some .local) (hy : gscope.names.lookup y = some .local) (hxy : x ≠ y) (hdx : (x == ("__debug__" : Str)) = false) (hdy : (y == ("__debug__" : Str)) = false)
    (hclos : closureFor gscope (envX qual scope X.L f (.ref c) []) = pure [])
    (hs : ∀ z, genFold (.Name self xpos) (envX qual scope X.L f (.ref c) []) z = pure z)
    {s : Shared} (S : St X.C X.B X.F X.L m ((P, isTab) :: σ) s)
    (hturn : ∀ (cenv : Env) (h₀ : Heap) (I : Addr) (fp : List Addr), GEnv cenv x y → cenv.scope = gscope → (KK X.C.w).In h₀ → TopRead VW LS X.C.mg X.C.mb h₀ → (∀ b o, s.heap.get? b = some o → b ≠ P → h₀.get? b = some o) → (∀ o, h₀.get? cenv.locals = some o → False) → (∀ o, h₀.get? I = some o → False) →
      (∀ b o, h₀.get? b = some o → b ∈ fp) → QTurn PW X.C.w cenv (.Tuple [.Name x p1, .Name y p2] k tpos) I elt fp [I] (fun i v => vs[i]? = some v) (fun i h => h.IsListIter I a i ∧ SeqAt h a vs) F h₀)
    (hQ : ∀ ga fp wr G T s', St X.C X.B X.F X.L m ((P, isTab) :: σ) s' → (∀ s'', Moved wr G s' s'' → St X.C X.B X.F X.L m ((P, isTab) :: σ) s'') → (∀ b ∈ fp, b < s'.heap.objs.size) → ga ∈ fp →
      WalksS PW X.C.w X.A.in4 ga fp wr G vs.length F T → T 0 s' → (∀ i s, T i s → s.TypeIs (.ref ga) "generator") → Q (.ref ga) s') :
    wpAny (MM X.C) X.A (eval (.GeneratorExp elt [⟨.Tuple [.Name x p1, .Name y p2] k tpos, .Name self xpos, [], 0⟩] gscope pos) (envX qual scope X.L f (.ref c) [])) Q E s := by
  have hroom : X.A.depth < recursionLimit := Nat.lt_of_lt_of_le (by have := hA.dp; (first | lia | omega) : X.A.depth < 900) (by decide)
  have hcell : ∀ z ∈ gscope.names, z.2 ≠ .cell := fun z hz => by have := List.all_eq_true.mp hfree z hz; simpa using this
  refine wpAny_GeneratorExp_make hco hclos hcell h0 hgk hroom ?_ hs
  refine wpAny_Name (wpAny_loadName_local hsk hsl S.ns hself ?_) hsd
  obtain ⟨_, ea, n, rfl⟩ := S.kn (ha.elim .inl fun q => .inr (.tail _ q))
  obtain ⟨hh, g, d, t, os⟩ := s
  refine iter_pile S.world.k ea ?_
  have S₁ : St X.C X.B X.F X.L m ((P, isTab) :: σ) ⟨hh.push { cls := .type "list_iterator", data := .fields #[.ref a, .int 0 0] }, g, d, t, os⟩ := S.grow (fun _ _ e => Heap.get?_push_of_some _ e) S.gens
  refine ⟨S₁.world.t.nolimit, ?_⟩
  obtain ⟨_, eP, ps, rfl, htr⟩ := S₁.kn (.inr (.head _))
  have hcode' := isCode_of (codeHd_of_K S₁.world.k hcode) eP rfl htr
  refine genCode rfl hcode' (tableAt_of (codeHd_of_K S₁.world.k hcode) eP) fun code h₂ tk ps' hext hcode₂ htab₂ => ?_
  refine ex1 (isCode_parts hcode₂) fun op' oh => ?_; refine and3 oh fun eP' hps' htr' => ?_; clear oh
  have S₂ := S₁.ext0 (t := tk) (P' := isTab) htab₂.2 ⟨_, rfl, htr'⟩ hext
  dsimp only at S₂
  refine (builtins_of S₂.world.k).at ?_
  intro h' hn' hs'
  dsimp only at hn' hs' ⊢
  have hsz : h'.objs.size = h₂.objs.size + 1 := by rw [hs'.1, Heap.size_push]
  have keep' : ∀ b o, h₂.get? b = some o → h'.get? b = some o := fun b o e => hs'.extBut b o (Nat.ne_of_lt (Heap.lt_size e)) (Heap.get?_push_of_some _ e)
  have eI : h₂.get? hh.objs.size = some { cls := .type "list_iterator", data := .fields #[.ref a, .int 0 0] } :=
    hext _ _ (fun q => Nat.lt_irrefl hh.objs.size (by have := S.lt _ (.head _); rw [← q] at this; exact this)) (Heap.get?_push_size _ rfl)
  have haP : a ≠ P := S.ne0 ha
  have ea2 : h₂.get? a = some (pileObj dx vs n) := hext _ _ haP (Heap.get?_push_of_some _ ea)
  have haI : a ≠ hh.objs.size := Nat.ne_of_lt (Heap.lt_size ea)
  have hIlt : hh.objs.size < h₂.objs.size := Heap.lt_size eI
  have hsub : ∀ b ∈ [hh.objs.size], b ∈ List.range h₂.objs.size := fun b hb => by rw [List.mem_singleton] at hb; subst hb; exact List.mem_range.mpr hIlt
  have hclt : cStatics < hh.objs.size := let ⟨_, hn, _⟩ := S.world.t.nolimit; hn.lt
  have hclt2 : cStatics < h₂.objs.size := Nat.lt_trans hclt hIlt
  have haC : h'.objs.size ≠ h₂.objs.size := by rw [hsz]; exact Nat.succ_ne_self _
  have haf : h'.objs.size ∉ List.range h₂.objs.size := fun hm => by have := List.mem_range.mp hm; (first | lia | omega)
  let go : Obj := { cls := .type "generator", data := .fields #[.int g.size 0, .str "<genexpr>" (tk + 1), .str ((envX qual scope X.L f (.ref c) []).qual ++ "<genexpr>") (tk + 1 + 1)] }
  have keep₅ : ∀ b o, h₂.get? b = some o → (h'.push go).get? b = some o := fun b o e => Heap.get?_push_of_some _ (keep' b o e)
  let cenv := genEnv gscope [] h₂.objs.size code builtinsNs (envX qual scope X.L f (.ref c) [])
  have W₀ : ∀ A' : Around, A'.handled = none → Walks PW X.C.w A' hh.objs.size (List.range h₂.objs.size) [hh.objs.size] vs.length (fun i v => vs[i]? = some v) (fun i h => h.IsListIter hh.objs.size a i ∧ SeqAt h a vs) := fun A' hA' =>
    (walks_seq hA' hh.objs.size a haI vs).mono_fp fun b hb => by
      simp only [List.mem_cons, List.not_mem_nil, or_false] at hb
      rcases hb with rfl | rfl
      · exact List.mem_range.mpr hIlt
      · exact List.mem_range.mpr (Heap.lt_size ea2)
  have S₃ : St X.C X.B X.F X.L m ((P, isTab) :: σ) ⟨h'.push go, g.push (.fresh (.compStart (.GeneratorExp elt [⟨.Tuple [.Name x p1, .Name y p2] k tpos, .Name self xpos, [], 0⟩] gscope pos) 0 (.ref hh.objs.size) .none cenv)), d, tk + 1 + 1 + 1, os⟩ :=
    S₂.grow keep₅ (S₂.gens.push rfl)
  have WS := WalksS.genexpQ (prog := PW) (w := X.C.w) (A := X.A.in4) hA.hd h'.objs.size g.size h₂.objs.size (List.range h₂.objs.size) [hh.objs.size] (fun _ => true) vs.length F haC haf hsub hroom (List.mem_range.mpr hclt2) (Nat.ne_of_lt hclt2) (fun q => Nat.ne_of_lt hclt (List.mem_singleton.mp q))
  have hlen : (passing (fun _ => true) vs.length 0).length = vs.length := by rw [passing_all, List.length_range]
  rw [hlen] at WS
  have WS' := walks_vals (P' := F) WS fun i v hi ⟨j, hj, hF⟩ => by
    rw [passing_all, List.getElem?_range hi] at hj
    cases hj; exact hF
  have sub0 : ∀ b o, (hideAll hh [P]).get? b = some o → b < hh.objs.size ∧ hh.get? b = some o ∧ b ≠ P := fun b o e => by
    have e1 := of_hideAll _ e
    refine ⟨Heap.lt_size e1, e1, fun q => ?_⟩
    subst q
    rw [hideAll_none [b] (.head _)] at e; cases e
  have wf0 : WF X.C (hideAll hh [P]) := S.wf _ fun b o e => hideAll_get _ (S.keep b o e) fun q => by
    rw [List.mem_singleton] at q
    subst q
    rw [(S.bσ _ (.head _)).1] at e; cases e
  have k0 : ∀ b o, (hideAll hh [P]).get? b = some o → h₂.get? b = some o := fun b o e => hext b o (sub0 b o e).2.2 (Heap.get?_push_of_some _ (sub0 b o e).2.1)
  have q0 := hturn cenv (hideAll hh [P]) hh.objs.size (List.range h₂.objs.size)
    { g := rfl, b := rfl, k := hgk, co := hco, kx := hx, ky := hy, xy := hxy, dx := hdx, dy := hdy } rfl wf0.k wf0.t (fun b o e hb => hideAll_get _ e fun q => hb (List.mem_singleton.mp q))
    (fun o e => Nat.lt_irrefl h₂.objs.size (Nat.lt_trans (sub0 _ _ e).1 hIlt)) (fun o e => Nat.lt_irrefl _ (sub0 _ _ e).1) (fun b o e => List.mem_range.mpr (Heap.lt_size (k0 b o e)))
  have GA : GenAt PW X.C.w X.A.in4 h'.objs.size g.size h₂.objs.size (List.range h₂.objs.size) [hh.objs.size] (fun _ => true) vs.length F 0
      ⟨h'.push go, g.push (.fresh (.compStart (.GeneratorExp elt [⟨.Tuple [.Name x p1, .Name y p2] k tpos, .Name self xpos, [], 0⟩] gscope pos) 0 (.ref hh.objs.size) .none cenv)), d, tk + 1 + 1 + 1, os⟩ :=
    genAtT (cenv := cenv) (A := X.A.in4) (m := fun y => if y = ".0" then some (.ref hh.objs.size) else none) hA.hd W₀ F hco (fun hm => Nat.lt_irrefl _ (List.mem_range.mp hm)) (href := hideAll hh [P]) (fun b hb hw o e => keep₅ b o (k0 b o e)) q0
      ⟨_, _, _, Heap.get?_push_size _ rfl, rfl, rfl, rfl⟩ (Array.getElem?_push_size ..) ⟨⟨_, keep₅ _ _ eI, rfl, rfl⟩, ⟨_, keep₅ _ _ ea2, _, rfl⟩⟩ (hn'.push _) S₃.world.t.nolimit
  refine hQ _ _ _ _ _ _ S₃ (fun s'' hm => S.moved S₃ (fun b o hb e => hm.heap b o (fun q => ?_) e) hm.os (S₃.gens.moved hm.gens)) (fun b hb => ?_) (.head _) WS' GA (fun i s hT => hT.1.typeIs)
  · have hb' : b < hh.objs.size := hb
    rcases List.mem_cons.mp q with rfl | q
    · exact Nat.lt_irrefl _ (Nat.lt_trans hIlt hb')
    · rw [List.mem_singleton] at q; subst q; exact Nat.lt_irrefl _ hb'
  · show b < (h'.push go).objs.size
    rw [Heap.size_push]
    rcases List.mem_cons.mp hb with rfl | hb
    · exact Nat.lt_succ_self _
    · rcases List.mem_cons.mp hb with rfl | hb
      · (first | lia | omega)
      · have := List.mem_range.mp hb; (first | lia | omega)
end
end Mine
end
end
section
open PySem PySem.W PySem.Calls PyProof.Rows PySem.Spec
set_option Elab.async false
set_option linter.unusedVariables false
set_option maxRecDepth 100000
noncomputable section
namespace Mine

theorem str_ext {x y : Str} (h : x.cps.toList = y.cps.toList) : x = y := by
  cases x with | mk a => cases y with | mk b => exact congrArg Str.mk (Array.toList_inj.mp h)
theorem slice_to4 {x : Str} (h : 4 ≤ x.length) : Txt.slice x none (some 4) = ⟨(x.cps.toList.take 4).toArray⟩ := by
  have := slice_closes_toL (x := x) (j := 4) (by decide) (by first | decide | (with_reducible first | exact n0 _ | exact f5 (by assumption) | exact a3 (by assumption) (by assumption) | exact b26 (by assumption) | exact a26 (by assumption)) | (first | lia | omega))
  rw [beq_iff_eq] at this
  rw [this]; rfl
theorem slice_from4 {x : Str} (h : 4 ≤ x.length) : Txt.slice x (some 4) none = ⟨(x.cps.toList.drop 4).toArray⟩ := by
  rw [slice_from_eq (x := x) (i := 4) (b := x.length) (by decide) (by first | decide | (with_reducible first | exact n0 _ | exact f5 (by assumption) | exact a3 (by assumption) (by assumption) | exact b26 (by assumption) | exact a26 (by assumption)) | (first | lia | omega)) rfl]
  congr 2
  rw [List.take_of_length_le]
  · rfl
  · rw [List.length_drop, ← str_length]; simp; (first | lia | omega)
theorem piece_len {x : Str} (h : 4 ≤ x.length) : (Txt.slice x none (some 4)).length + (Txt.slice x (some 4) none).length = x.length := by
  rw [slice_to4 h, slice_from4 h, str_length, str_length, str_length]
  rw [str_length] at h
  simp; (first | lia | omega)
theorem piece_join {x : Str} (h : 4 ≤ x.length) : Txt.join (Str.ofString "") [Txt.slice x none (some 4), Txt.slice x (some 4) none] = x := by
  rw [slice_to4 h, slice_from4 h]
  refine str_ext ?_
  show (⟨(x.cps.toList.take 4).toArray⟩ ++ Str.ofString "" ++ ⟨(x.cps.toList.drop 4).toArray⟩ : Str).cps.toList = _
  rw [str_add_toList, str_add_toList]
  show List.take 4 x.cps.toList ++ [] ++ List.drop 4 x.cps.toList = _
  simp

inductive Pieces (B : PH) (σ : Led) : List Value → List Str → Prop where
  | nil : Pieces B σ [] []
  | cons {T : Addr} {x : Str} {vs : List Value} {xs : List Str} (h : Kn B σ T (isPiece x)) (h4 : 4 ≤ x.length) (h1 : x.length ≤ 1000) (t : Pieces B σ vs xs) : Pieces B σ (.ref T :: vs) (x :: xs)
theorem Pieces.mono {B B' : PH} {σ σ' : Led} {vs : List Value} {xs : List Str} (p : Pieces B σ vs xs) (h : ∀ a P, Kn B σ a P → Kn B' σ' a P) : Pieces B' σ' vs xs := by
  induction p with
  | nil => exact .nil
  | cons k h4 h1 _ ih => exact .cons (h _ _ k) h4 h1 ih
theorem Pieces.at_ {B : PH} {σ : Led} {vs : List Value} {xs : List Str} (p : Pieces B σ vs xs) : ∀ {i : Nat} {v : Value}, vs[i]? = some v → ∃ T x, v = .ref T ∧ xs[i]? = some x ∧ Kn B σ T (isPiece x) ∧ 4 ≤ x.length ∧ x.length ≤ 1000 := by
  induction p with
  | nil => intro i v h; simp at h
  | @cons T x vs xs k h4 h1 _ ih =>
    intro i v h
    cases i with
    | zero => simp at h; subst h; exact ⟨T, x, rfl, rfl, k, h4, h1⟩
    | succ i => exact ih (by simpa using h)
theorem Pieces.len {B : PH} {σ : Led} {vs : List Value} {xs : List Str} (p : Pieces B σ vs xs) : vs.length = xs.length := by
  induction p with
  | nil => rfl
  | cons _ _ _ _ ih => simp [ih]

noncomputable def lenAt (xs : List Str) (i : Nat) : Int := (xs[i]?.map (fun x => (x.length : Int))).getD 0
noncomputable def sumLen (xs : List Str) : Int := (xs.map fun x => (x.length : Int)).sum
theorem preSum_congr {f g : Nat → Int} : ∀ {n : Nat}, (∀ i, i < n → f i = g i) → preSum f n = preSum g n
  | 0, _ => rfl
  | n + 1, h => by rw [preSum, preSum, preSum_congr (n := n) fun i hi => h i (by first | decide | (with_reducible first | exact n0 _ | exact f5 (by assumption) | exact a3 (by assumption) (by assumption) | exact b26 (by assumption) | exact a26 (by assumption)) | (first | lia | omega)), h n (by first | decide | (with_reducible first | exact n0 _ | exact f5 (by assumption) | exact a3 (by assumption) (by assumption) | exact b26 (by assumption) | exact a26 (by assumption)) | (first | lia | omega))]
theorem preSum_take (f : Nat → Int) : ∀ n : Nat, preSum f n = ((List.range n).map f).sum
  | 0 => rfl
  | n + 1 => by rw [preSum, preSum_take f n, List.range_succ]; simp
theorem preSum_len (xs : List Str) : preSum (lenAt xs) xs.length = sumLen xs := by
  rw [preSum_take]
  unfold sumLen
  congr 1
  refine List.ext_getElem? fun i => ?_
  rw [List.getElem?_map, List.getElem?_map]
  by_cases h : i < xs.length
  · rw [List.getElem?_range h]
    simp [lenAt, h]
  · rw [List.getElem?_eq_none (by simp; (first | lia | omega)), List.getElem?_eq_none (by first | decide | (with_reducible first | exact n0 _ | exact f5 (by assumption) | exact a3 (by assumption) (by assumption) | exact b26 (by assumption) | exact a26 (by assumption)) | (first | lia | omega))]; rfl

section
variable {X : Fm} {m : Vars} {σ : Led} {Q : Value → Vars → Led → Prop}
theorem getAttr_pile {a dx : Addr} {vs : List Value} {v : Value} {ex : Bool} {Q : Value → Shared → Prop} {E : Value → Shared → Prop} {s : Shared} (S : St X.C X.B X.F X.L m σ s) (ha : Kn X.B σ a (isPile dx vs)) (hd : Kn X.B σ dx (isDict1 "_initial_size" v)) (hv : handedIn v = true)
    (h : Q v { s with toks := s.toks + 1 }) : wpAny (MM X.C) X.A (getAttr (.ref a) "_initial_size" ex) Q E s := by
  obtain ⟨ox, od, I, ⟨n, rfl⟩, ⟨hh, tk, k, rfl⟩⟩ := S.inst (C := 166) ha hd (fun o ⟨n, e⟩ => by subst e; exact ⟨rfl, rfl, rfl⟩)
  have X₀ := S.world.k
  have hx := I.at_
  obtain ⟨hp, g, d, t, os⟩ := s
  have L0 := I.type (M := model PW X.C.w)
  have L1 := looks_findIn (M := model PW X.C.w) (h := hp) X₀ (t := .ref 166) (name := "__getattribute__") (r := some (.builtin "list.__getattribute__")) (by kernel_rfl)
  have L2 := looks_findIn (M := model PW X.C.w) (h := hp) X₀ (t := .ref 166) (name := "__getattr__") (r := none) (by kernel_rfl)
  have L3 : Looks (model PW X.C.w) hp (Builtin.ObjectAttr.find (.ref a) (.ref 166) "_initial_size") (.value v) := looks_find X₀ I (by rfl)
  unfold getAttr getAttrBy
  refine wpAny_bind (wpAny_mkText (wpAny_holding (wpAny_bind (L0.at (wpAny_bind (L1.at ?_))))))
  show wpAny _ _ (getAttrByItsOwn _ _ _ _ _ _) _ _ _
  unfold getAttrByItsOwn hookBefore callGetattribute boundAndCalled
  refine wpAny_bind (L2.at (wpAny_bind (wpAny_attempt (wpAny_holding ?_))))
  rw [show (ex && onTheHeap (.builtin "list.__getattribute__")) = false by simp [onTheHeap], if_neg (by decide)]
  show wpAny _ _ (bindSpecial (.builtin "list.__getattribute__") (.ref a) >>= _) _ _ _
  refine wpAny_bind (wpAny_of_eq (bind_lga _) ?_)
  refine wpAny_call (codeAny_call_builtin plain_lga entry_lga ?_)
  refine @check_pile (MM X.C) _ _ ⟨hp, g, d, t + 1, os⟩ "list.__getattribute__" "__getattribute__" .slot (.ref a) [.str "_initial_size" t] _ kind_lga (.inr rfl) split_lga (inst_166 X₀ hx) (args_lga _ _) ?_
  unfold Builtin.«object.__getattribute__»
  refine wpAny_bind (wpAny_pure (wpAny_bind (wpAny_pure (wpAny_bind (L0.at (wpAny_bind (L3.at (wpAny_pure ?_))))))))
  show wpAny _ _ (handedOut v) _ _ _
  rw [handedOut_of hv]
  exact wpAny_pure h

theorem pieces_turn {P : Addr} {a dx : Addr} {vs : List Value} {xs : List Str} {s : Shared} {h₀ : Heap} (S : St X.C X.B X.F X.L m ((P, isTab) :: σ) s) (hp : Pieces X.B σ vs xs) (hk : ∀ b o, s.heap.get? b = some o → b ≠ P → h₀.get? b = some o) :
    ∀ (i : Nat) (v : Value), vs[i]? = some v → ∃ x, xs[i]? = some x ∧ 4 ≤ x.length ∧ x.length ≤ 1000 ∧ PairAt h₀ v (Txt.slice x none (some 4)) (Txt.slice x (some 4) none) := fun i v hv => by
  obtain ⟨T, x, oh⟩ := hp.at_ hv; refine and5 oh fun oq0 hx k h4 h1 => ?_; clear oh; subst oq0
  obtain ⟨o, e, t1, t2, n, rfl⟩ := S.kn (k.elim .inl fun q => .inr (.tail _ q))
  exact ⟨x, hx, h4, h1, T, t1, t2, rfl, _, hk _ _ e (S.ne0 k), rfl, n, rfl⟩

theorem wk_len133 {a dx : Addr} {vs : List Value} {xs : List Str} {st : Int} {tk : Tok} (hA : Ok 4 X.A) (ha : Kn X.B σ a (isPile dx vs)) (hd : Kn X.B σ dx (isDict1 "_initial_size" (.int st tk))) (hp : Pieces X.B σ vs xs)
    (h : ∀ t, Q (.int (st + sumLen xs) t) m ((128, isTab) :: σ)) : WK X m ((128, isTab) :: σ) (.call (.ref 133) ⟨[.ref a], []⟩) Q := by
  refine wk_def (σ₁ := [(128, isTab)]) (σ₂ := σ) (n := 3) (binds := [("self", .ref a)]) rfl rfl hA (fun _ _ s _ => BindsTo.of_eq rfl) rfl rfl ?_
  intro X' hC hK hA' _
  have ha' : Kn X'.B [] a (isPile dx vs) := .inl (hK _ _ ha)
  have hd' : Kn X'.B [] dx (isDict1 "_initial_size" (.int st tk)) := .inl (hK _ _ hd)
  have hp' : Pieces X'.B [] vs xs := hp.mono fun a P k => .inl (hK _ _ k)
  refine w_execs_cons (w_return (w_Call (w_builtin rfl (by boot_fast) fun s S => ?_)))
  refine PyProof.Rows.callWith_builtin1 (args_cons (gen_pile (F := fun i y => ∃ t, y = .int (lenAt xs i) t) hA' ha' (by kernel_rfl) rfl rfl rfl (by decide) rfl rfl (by decide) rfl rfl rfl (by decide) (by decide) (by decide) rfl (fun _ => rfl) S ?_ ?_))
  · intro cenv h₀ I fp G hsc X₀ T₀ hk hL hI hfp
    refine turn_len G ?_ X₀ T₀ hL hI hfp fun i v hv => ?_
    · show cenv.scope.names.lookup _ = _
      rw [hsc]; rfl
    · obtain ⟨x, oh⟩ := pieces_turn (a := a) (dx := dx) S hp' hk i v hv; refine and4 oh fun hx h4 h1 pa => ?_; clear oh
      have := piece_len h4
      exact ⟨_, _, pa, by simp only [lenAt, hx]; show _ = ((x.length : Nat) : Int); (first | lia | omega), by (first | lia | omega), by (first | lia | omega)⟩
  · intro ga fp wr G T s' S' back hlt hga W hT hTy
    refine args_cons (Attribute_any_ (wpAny_Name (wpAny_loadName_local rfl rfl S'.ns rfl (getAttr_pile S' (ha'.elim .inl fun q => nomatch q) (hd'.elim .inl fun q => nomatch q) rfl (args_nil ?_))) (by decide)))
    refine call_sum2 (W.in4_1.self 0 _ _ _ (W.in4_1.frame 0 s' s'.heap _ hT (Nat.le_succ _) fun _ _ _ e => e) ⟨_, _, _, _, _, _, _, lenAt xs, rfl, W.in4_1, W.in4_1.frame 0 s' s'.heap _ hT (Nat.le_succ _) fun _ _ _ e => e, hlt, fun i v hF => hF, fun s'' t' hm => ?_⟩)
    refine ⟨_, _, back s'' ⟨hm.heap, hm.gens, hm.drawn, hm.os, Nat.le_trans (Nat.le_succ _) hm.toks⟩, ?_⟩
    rw [hp.len, preSum_len]
    exact h t'
end
end Mine
end
end
section
open PySem PySem.W PySem.Calls PyProof.Rows PySem.Spec
set_option Elab.async false
set_option linter.unusedVariables false
set_option maxRecDepth 100000
noncomputable section
namespace Mine
theorem join_texts0 : ∀ ys : List Str, (Str.join (Str.ofString "") ys).cps.toList = (ys.map (·.cps.toList)).flatten
  | [] => rfl
  | [x] => by show x.cps.toList = _; simp
  | x :: y :: r => by
    have ih := join_texts0 (y :: r)
    show (x ++ Str.ofString "" ++ Str.join (Str.ofString "") (y :: r)).cps.toList = _
    rw [str_add_toList, str_add_toList, ih]
    show x.cps.toList ++ [] ++ _ = _
    simp
theorem join_texts (ys : List Str) : (Txt.join (Str.ofString "") ys).cps.toList = (ys.map (·.cps.toList)).flatten := by
  show (Builtin.Str.glued (Str.ofString "") ys).cps.toList = _
  rw [StrLaws.glued_eq_join]; exact join_texts0 ys
theorem strValues_texts {xs : List Str} {l : List (Str × Tok)} (h : ItemsOf (fun i y => ∃ t, y = .str (xs[i]?.getD (Str.ofString "")) t) (strValues l).toArray xs.length) : l.map (·.1) = xs := by
  have hl : l.length = xs.length := by have := h.1; simpa [strValues] using this
  refine List.ext_getElem (by simpa using hl) fun i h1 h2 => ?_
  obtain ⟨t, e⟩ := h.2 i (.str (l[i]'(by simpa using h1)).1 (l[i]'(by simpa using h1)).2) (by
    have : i < l.length := by simpa using h1
    simp [strValues, this])
  have e1 : xs[i]? = some xs[i] := List.getElem?_eq_getElem h2
  rw [e1] at e
  have e2 : (l[i]'(by simpa using h1)).1 = xs[i] := by injection e
  simpa using e2
theorem Pieces.sum_le {B : PH} {σ : Led} {vs : List Value} {xs : List Str} (p : Pieces B σ vs xs) : (xs.map (·.length)).sum ≤ xs.length * 1000 := by
  induction p with
  | nil => simp
  | cons _ _ h1 _ ih => simp only [List.map_cons, List.sum_cons, List.length_cons, Nat.succ_mul]; (first | lia | omega)
noncomputable def catT (xs : List Str) : Str := Txt.join (Str.ofString "") xs

section
variable {X : Fm} {m : Vars} {σ : Led} {Q : Value → Vars → Led → Prop}
theorem w_len_pile {a dx : Addr} {vs : List Value} {xs : List Str} {st : Int} {tk : Tok} (hA : Ok 5 X.A) (ha : Kn X.B σ a (isPile dx vs)) (hd : Kn X.B σ dx (isDict1 "_initial_size" (.int st tk))) (hp : Pieces X.B σ vs xs) (h0 : 0 ≤ st + sumLen xs) (h1 : st + sumLen xs < 2 ^ 63)
    (h : ∀ t, Q (.int (st + sumLen xs) t) m ((128, isTab) :: σ)) : W X m ((128, isTab) :: σ) (call (.builtin "len") [.ref a]) Q := by
  refine w_call (wk_builtin (b := Builtin.«len») plain_len entry_len fun s S => ?_)
  refine wpAny_of_eq (show checkBuiltinCall "len" ⟨[.ref a], []⟩ = pure () by kernel_rfl) ⟨_, _, S, fun s S => ?_⟩
  obtain ⟨ox, od, I, _, _⟩ := S.inst (C := 166) (ha.elim .inl fun q => .inr (.tail _ q)) (hd.elim .inl fun q => .inr (.tail _ q)) (fun o ⟨n, e⟩ => by subst e; exact ⟨rfl, rfl, rfl⟩)
  unfold Builtin.«len»
  refine wpAny_bind (m := oneArg "len" _) (wpAny_pure ?_)
  refine wpAny_bind (m := callSpecial? (.ref a) (Str.ofString "__len__")) (special_fn S.world.k I (f := 133) (by kernel_rfl) (by kernel_rfl) ?_)
  refine ((w_call (X := X.withA X.A.in1) (wk_len133 hA.in1 ha hd hp fun t => ?_ : WK (X.withA X.A.in1) m ((128, isTab) :: σ) _ fun v m' σ' => ∃ t, v = .int (st + sumLen xs) t ∧ m' = m ∧ σ' = (128, isTab) :: σ))).use (X := X.withA X.A.in1) S fun v m' σ' s' S' q => ?_
  · exact ⟨t, rfl, rfl, rfl⟩
  · obtain ⟨t, oh⟩ := q; refine and3 oh fun oq0 oq1 oq2 => ?_; clear oh; subst oq0; subst oq1; subst oq2
    refine wpAny_bind (wpAny_holding (wpAny_pure ?_))
    refine wpAny_bind (wpAny_letGo ?_)
    show wpAny _ _ (if (st + sumLen xs) < 0 then _ else _) _ _ _
    refine wp_if_neg (by first | decide | (with_reducible first | exact n0 _ | exact f5 (by assumption) | exact a3 (by assumption) (by assumption) | exact b26 (by assumption) | exact a26 (by assumption)) | (first | lia | omega)) ?_
    show wpAny _ _ (if (st + sumLen xs) ≥ 2 ^ 63 then _ else _) _ _ _
    refine wp_if_neg (by first | decide | (with_reducible first | exact n0 _ | exact f5 (by assumption) | exact a3 (by assumption) (by assumption) | exact b26 (by assumption) | exact a26 (by assumption)) | (first | lia | omega)) ?_
    exact wpAny_bind (wpAny_mkInt (wpAny_pure ⟨_, _, S'.toks, h _⟩))

theorem wk_str140 {a dx : Addr} {vs : List Value} {xs : List Str} (hA : Ok 4 X.A) (ha : Kn X.B σ a (isPile dx vs)) (hp : Pieces X.B σ vs xs) (hn : xs.length ≤ 100)
    (h : ∀ t, Q (.str (catT xs) t) m ((135, isTab) :: σ)) : WK X m ((135, isTab) :: σ) (.call (.ref 140) ⟨[.ref a], []⟩) Q := by
  refine wk_def (σ₁ := [(135, isTab)]) (σ₂ := σ) (n := 3) (binds := [("self", .ref a)]) rfl rfl hA (fun _ _ s _ => BindsTo.of_eq rfl) rfl rfl ?_
  intro X' hC hK hA' _
  have ha' : Kn X'.B [] a (isPile dx vs) := .inl (hK _ _ ha)
  have hp' : Pieces X'.B [] vs xs := hp.mono fun a P k => .inl (hK _ _ k)
  refine w_execs_cons (w_return (w_methcall (w_global (v := .str (Str.ofString "") 373) rfl fun s S => GM.join ⟨_, _, S, fun s S => ?_⟩)))
  refine Calls.callWith_builtin rfl (evalArgs_plain (args_cons (rest := []) (gen_pile (F := fun i y => ∃ t, y = .str (xs[i]?.getD (Str.ofString "")) t) hA' ha' (by kernel_rfl) rfl rfl rfl (by decide) rfl rfl (by decide) rfl rfl rfl (by decide) (by decide) (by decide) rfl (fun _ => rfl) S ?_ ?_)))
  · intro cenv h₀ I fp G hsc X₀ T₀ hk hL hI hfp
    refine turn_join G ?_ X₀ T₀ hL hI hfp rfl fun i v hv => ?_
    · show cenv.scope.names.lookup _ = _
      rw [hsc]; rfl
    · obtain ⟨x, oh⟩ := pieces_turn (a := a) (dx := dx) S hp' hk i v hv; refine and4 oh fun hx h4 h1 pa => ?_; clear oh
      have := piece_len h4
      exact ⟨_, _, pa, by rw [hx]; exact piece_join h4, by (first | lia | omega), by (first | lia | omega)⟩
  · intro ga fp wr G T s' S' back hlt hga W hT hTy
    refine args_nil ?_
    have hl := hp.len
    rw [hl] at W
    refine SC.joinGen W.in4_2 hTy hT hlt hga (fun i v ⟨t, e⟩ => ⟨_, _, e⟩) (fun s'' l hm hi => ?_) (by rw [sizeLine_eq]; (first | lia | omega))
    rw [strValues_texts hi]
    refine ⟨joinOk_of ?_, fun t' k => ⟨_, _, (back s'' hm).toks, h t'⟩⟩
    have := hp.sum_le
    rw [show (Str.ofString "").length = 0 from rfl]
    (first | lia | omega)

theorem w_str_pile {a dx : Addr} {vs : List Value} {xs : List Str} {v : Value} (hA : Ok 6 X.A) (ha : Kn X.B σ a (isPile dx vs)) (hd : Kn X.B σ dx (isDict1 "_initial_size" v)) (hp : Pieces X.B σ vs xs) (hn : xs.length ≤ 100)
    (h : ∀ t, Q (.str (catT xs) t) m ((135, isTab) :: σ)) : W X m ((135, isTab) :: σ) (call (.type "str") [.ref a]) Q := fun s S => by
  obtain ⟨ox, od, I, _, _⟩ := S.inst (C := 166) (ha.elim .inl fun q => .inr (.tail _ q)) (hd.elim .inl fun q => .inr (.tail _ q)) (fun o ⟨n, e⟩ => by subst e; exact ⟨rfl, rfl, rfl⟩)
  have hA2 : Ok 4 X.A.in1.in1 := hA.in1.in1
  refine kso_call (Nat.lt_of_lt_of_le (by have := hA2.un; (first | lia | omega) : X.A.in1.in1.units < 9000) (by decide)) S.world.k I (f := 140) (by kernel_rfl) (by kernel_rfl) ?_
  refine (w_call (X := X.withA X.A.in1.in1) (wk_str140 hA2 ha hp hn fun t => ?_ : WK (X.withA X.A.in1.in1) m ((135, isTab) :: σ) _ fun v m' σ' => ∃ t, v = .str (catT xs) t ∧ m' = m ∧ σ' = (135, isTab) :: σ)).use (X := X.withA X.A.in1.in1) S fun v m' σ' s' S' q => ?_
  · exact ⟨t, rfl, rfl, rfl⟩
  · obtain ⟨t, oh⟩ := q; refine and3 oh fun oq0 oq1 oq2 => ?_; clear oh; subst oq0; subst oq1; subst oq2
    exact ⟨_, _, S', h t⟩
end
end Mine
end
end
section
open PySem PySem.W PySem.Calls PyProof.Rows PySem.Spec
set_option Elab.async false
set_option linter.unusedVariables false
set_option maxRecDepth 100000
noncomputable section
namespace Mine

/-! a generator function with a `for` -/
section
variable {prog : Program} {w : World} {A : Around} {R : GenEnd} {Y : Protocol} {n : Nat} {s₀ : Shared} {c : Code} {fs : List Frame} {s : Shared} {env : Env}
  {K : Flow → Sem Fin} {H : Value → Sem Fin} {gd : Bool → Bool} {lv : List Value → List Value}

noncomputable abbrev ownBack (env : Env) (K : Flow → Sem Fin) (H : Value → Sem Fin) (gd : Bool → Bool) (lv : List Value → List Value) : Result → Sem Fin := fun r => ((match r with | .ok f => (.pure f : Sem Flow) | .error e => .raise e).onRaise fun (x : Value) => do
        if (← field x 1) == Value.none then unsupported "frame.own-activation:exception-without-traceback"
        setFlight x env.frame).wrap K H gd lv

theorem seg_For {target iter : Expr} {body orelse : List Stmt} {pos : Pos} (hs : ∀ x, foldedSetIterable iter env x = pure x)
    (h : wpAny (model prog w) (A.over c fs) (eval iter env) (fun x s₁ => wpAny (model prog w) (A.over c fs) (pyIter x) (fun it s₂ => ∀ p,
      Seg (model prog w) A R Y n s₀ (.forLoop target it body orelse env) ((model prog w).den (.forLoop target it body orelse env)) (.ret (ownBack env K H gd lv) none (gd false) (lv []) c p [] :: fs) s₂) (fun _ _ => False) s₁) (fun _ _ => False) s) :
    Seg (model prog w) A R Y n s₀ c ((exec (.For target iter body orelse pos) env).wrap K H gd lv) fs s := by
  rw [exec_For]
  refine seg_bind_wrap (wpAny_standAt ?_)
  refine seg_bind_wrap (wpAny_mono h (fun x s₁ h₁ => ?_) fun _ _ e => e.elim)
  refine seg_bind_wrap (wpAny_of_eq (hs x) ?_)
  refine seg_bind_wrap (wpAny_standAt ?_)
  refine seg_bind_wrap (wpAny_holding (wpAny_mono h₁ (fun it s₂ h₂ => ?_) fun _ _ e => e.elim))
  exact seg_call h₂

theorem seg_If {test : Expr} {b o : List Stmt} {pos : Pos}
    (h : wpAny (model prog w) (A.over c fs) (isTrue test env (eval test env)) (fun t s' => if t = true then Seg (model prog w) A R Y n s₀ c ((execs b env).wrap K H gd lv) fs s' else Seg (model prog w) A R Y n s₀ c ((execs o env).wrap K H gd lv) fs s') (fun _ _ => False) s) :
    Seg (model prog w) A R Y n s₀ c ((exec (.If test b o pos) env).wrap K H gd lv) fs s := by
  rw [exec_If]
  refine seg_bind_wrap (wpAny_standAt ?_)
  refine seg_bind_wrap (wpAny_mono h (fun t s' ht => ?_) fun _ _ e => e.elim)
  cases t with
  | true => exact ht
  | false => exact ht
theorem seg_Return_none {pos : Pos} (h : Seg (model prog w) A R Y n s₀ c (K (.ret .none)) fs s) : Seg (model prog w) A R Y n s₀ c ((exec (.Return none pos) env).wrap K H gd lv) fs s := by
  rw [exec_Return_none]
  exact seg_bind_wrap (wpAny_standAt h)

theorem seg_forLoop {target : Expr} {it : Value} {body orelse : List Stmt}
    (h : wpAny (model prog w) (A.over (.forLoop target it body orelse env) fs) (pyNext it) (fun r s₁ => match r with
      | none => False
      | some v => wpAny (model prog w) (A.over (.forLoop target it body orelse env) fs) (letOwnedTupleGo target it v) (fun _ s₂ => wpAny (model prog w) (A.over (.forLoop target it body orelse env) fs) (assign target env v) (fun _ s₃ =>
        Seg (model prog w) A R Y n s₀ (.forLoop target it body orelse env) ((execs body env).wrap (fun f => match f with
            | .next | .cont => .pure (.again (.forLoop target it body orelse env))
            | .brk => .pure (.done .next)
            | .ret v => .pure (.done (.ret v))) (fun e => (do noteFrame e env; theTreesLotGoes e : Sem Unit).wrap (fun _ => .raise e) .raise id id) id id) fs s₃) (fun _ _ => False) s₂) (fun _ _ => False) s₁) (fun _ _ => False) s) :
    Seg (model prog w) A R Y n s₀ (.forLoop target it body orelse env) ((model prog w).den (.forLoop target it body orelse env)) fs s := by
  show Seg _ A R Y n s₀ _ ((forTurn target it body orelse env).onRaise (fun x => do noteFrame x env; theTreesLotGoes x)) fs s
  unfold forTurn
  rw [Sem.onRaise_eq_wrap]
  refine seg_bind_wrap (wpAny_standAt ?_)
  refine seg_bind_wrap (wpAny_onRaise (wpAny_mono h (fun r s₁ h₁ => ?_) fun _ _ e => e.elim))
  cases r with
  | none => exact h₁.elim
  | some v =>
    dsimp only at h₁ ⊢
    refine seg_bind_wrap (wpAny_mono h₁ (fun _ s₂ h₂ => ?_) fun _ _ e => e.elim)
    refine seg_bind_wrap (wpAny_mono h₂ (fun _ s₃ h₃ => ?_) fun _ _ e => e.elim)
    rw [Sem.bind_eq_wrap', Sem.wrap_wrap]
    rw [Sem.wrap_congr (execs body env) _ _ (K' := fun f => match f with
            | .next | .cont => .pure (.again (.forLoop target it body orelse env))
            | .brk => .pure (.done .next)
            | .ret v => .pure (.done (.ret v))) (H' := (fun e => (do noteFrame e env; theTreesLotGoes e : Sem Unit).wrap (fun _ => .raise e) .raise id id))
        (fun f => by cases f <;> rfl)
        (fun e => by first | exact Sem.bind_eq_wrap _ _ | (show (do noteFrame e env; theTreesLotGoes e : Sem Unit).bind (fun _ => .raise e) = _; rw [Sem.bind_eq_wrap]))]
    exact h₃
end

section
variable {prog : Program} {w : World} {A : Around} {E : Value → Shared → Prop} {s : Shared}
theorem pyNext_genfnQ {a : Addr} {g n : Nat} {gs : GenState} {P : Nat → Shared → Shared → Prop} {Y : Protocol} {Q : Option Value → Shared → Prop} (hh : A.handled = none)
    (hl : s.heap.NoLimit) (hroom : A.depth < recursionLimit)
    (hg : s.heap.IsGen a g) (hgs : s.gens[g]? = some gs)
    (hgo : gs.Goes (model prog w) A.in1 (fun n s₀ r s₁ => r = .ok (.ret .none) ∧ P n s₀ s₁) Y n (.send .none) (s.setGen g .running))
    (hY : ∀ v s₁ gs', gs'.bare = true → Y (n - 1) (s.setGen g .running) v s₁ (fun r' s'' => match n with
        | 0 => False
        | m + 1 => gs'.Goes (model prog w) A.in1 (fun n s₀ r s₁ => r = .ok (.ret .none) ∧ P n s₀ s₁) Y m r' s'') → Q (some v) (s₁.setGen g gs'))
    (hP : ∀ s₁, P n (s.setGen g .running) s₁ → ∀ h', (∀ b o, s₁.heap.get? b = some o → h'.get? b = some o) → Q none { s₁.setGen g .finished with heap := h' }) :
    wpAny (model prog w) A (pyNext (.ref a)) Q E s := by
  unfold pyNext
  refine wpAny_bind (wpAny_attempt (wpAny_callSpecial?_slot (name := Str.ofString "__next__") hg.typeIs slot_gen_next
    (wpAny_call_entry slot_gen_next hg.typeIs entry_gen_next ?_ (args_gen_next _))))
  show wpAny _ _ (Builtin.Generator.genWake (.ref a) (.send .none)) _ _ s
  unfold Builtin.Generator.genWake
  refine wpAny_bind (wpAny_holding (wpAny_genNumber hg (wpAny_bind (wpAny_genState hgs ?_))))
  cases gs with
  | running => exact hgo.elim
  | finished => exact hgo.elim
  | _ =>
    refine wpAny_bind (wpAny_roomToWake hl hroom ?_)
    show wpAny _ _ (.resume g (.send .none) [] _) _ _ s
    refine wpAny_resumeQ hgs hgo (fun x s₁ hx => ?_) (fun v s₁ gs' hb hv => ?_)
    · obtain ⟨rfl, hp⟩ := hx
      show wpAny _ _ (newExc (.type "StopIteration") [] >>= _) _ _ _
      refine wpAny_bind ?_
      simp only [newExc, newTuple]
      refine wpAny_bind (wpAny_newObj_type ?_ (by size_fits))
      refine wpAny_bind (m := firstArgMember _ _) (wpAny_of_eq (a := Value.none) (by first | rfl | (simp only [firstArgMember]; rfl)) ?_)
      refine wpAny_newObj_type ?_ (by size_fits)
      simp only [raiseNew]
      refine wpAny_bind (wpAny_bind (wpAny_handled ?_))
      first | rw [show A.in1.handled = none from hh] | rw [hh]
      refine wpAny_throw ?_
      refine wpAny_bind (wpAny_isInstance (T := "StopIteration") (b := true) ⟨_, Heap.get?_push_size _ rfl, rfl⟩ isSubtype_stop ?_)
      exact wpAny_pure (hP s₁ hp _ fun b o hb => Heap.get?_push_of_some _ (Heap.get?_push_of_some _ hb))
    · exact wpAny_pure ⟨v, rfl, wpAny_pure (hY v s₁ gs' hb hv)⟩
end
end Mine
end
end
section
open PySem PySem.W PySem.Calls PyProof.Rows PySem.Spec
set_option Elab.async false
set_option linter.unusedVariables false
set_option maxRecDepth 100000
noncomputable section
namespace Mine

noncomputable def OwnIt (N1 gl I : Addr) (s₀ : Shared) : Prop := N1 ≤ I ∧ (s₀.heap.get? I = none ∨ ∃ j, s₀.heap.IsListIter I gl j)
noncomputable def gitProto (C N1 gl : Addr) (vs : List Value) (N : Nat) (B : PH) : Protocol := fun n s₀ v s kap =>
  vs[N - 1 - n]? = some v ∧ ∃ I, OwnIt N1 gl I s₀ ∧ GenSince C [I] s₀ s ∧ ∀ s'' : Shared, Sub B s''.heap → (∀ b, b = C ∨ b = I → ∀ o, s.heap.get? b = some o → s''.heap.get? b = some o) → kap (.send .none) s''
noncomputable def gitEnd (C N1 gl : Addr) : Nat → Shared → Shared → Prop := fun n s₀ s₁ => n = 0 ∧ ∃ I, OwnIt N1 gl I s₀ ∧ GenSince C [I] s₀ s₁

structure GitBody (prog : Program) (w : World) (B : PH) (env : Env) (x : Str) (test1 test2 e : Expr) (st : Stmt) : Prop where
  t1 : ∀ (A' : Around) (s : Shared) (m : Vars) (z : Int) (t : Tok) (Q : Bool → Shared → Prop), s.heap.Ns env.locals m → m x = some (.int z t) → Sub B s.heap → (∀ tk, Q (z == 127) { s with toks := tk }) →
    wpAny (model prog w) A' (isTrue test1 env (eval test1 env)) Q (fun _ _ => False) s
  t2 : ∀ (A' : Around) (s : Shared) (m : Vars) (z : Int) (t : Tok) (Q : Bool → Shared → Prop), s.heap.Ns env.locals m → m x = some (.int z t) → Sub B s.heap → (∀ tk, Q (z == 0) { s with toks := tk }) →
    wpAny (model prog w) A' (isTrue test2 env (eval test2 env)) Q (fun _ _ => False) s
  e : ∀ (A' : Around) (s : Shared) (m : Vars) (v : Value) (Q : Value → Shared → Prop) (E : Value → Shared → Prop), s.heap.Ns env.locals m → m x = some v → Q v s → wpAny (model prog w) A' (eval e env) Q E s
  st : ∀ (A' : Around) (s : Shared) (m : Vars) (v : Value) (Q : Flow → Shared → Prop) (E : Value → Shared → Prop), s.heap.Ns env.locals m → m x = some v → (∀ h' tk m', h'.Ns env.locals m' → Heap.SameBut env.locals s.heap h' → Q .next { s with heap := h', toks := tk }) → wpAny (model prog w) A' (exec st env) Q E s
  kx : env.kindOf x = some .local
  cls : (env.scope.kind == .class || (env.scope.kind == .module && env.locals != env.globals)) = false
  co : env.scope.isCoroutine = false
  inter : interactive env = false

theorem GenSince.cons_keep {C I : Addr} {s₀ s : Shared} (h : GenSince C [I] s₀ s) : ∀ b o, b ≠ C → b ≠ I → s₀.heap.get? b = some o → s.heap.get? b = some o := by
  refine ex2 (h) fun h' tk ou0 => ?_; (try clear h); refine and2 (ou0) fun oq2 k => ?_; clear ou0; subst oq2
  exact fun b o h1 h2 e => k b o h1 (by simpa using h2) e

section
variable {prog : Program} {w : World} {A : Around}
theorem seg_git {B : PH} {env : Env} {x : Str} {test1 test2 e : Expr} {st : Stmt} {b2 : List Stmt} {px p1 p2 p3 p4 p5 : Pos} {gl I N1 : Addr} {vs : List Value} {N : Nat} {Kf : Flow → Sem Fin} {Hf : Value → Sem Fin} {c : Code} {p : Pos}
    (G : GitBody prog w B env x test1 test2 e st) (hI : I ≠ env.locals) (hgl : gl ≠ I) (hN1 : N1 ≤ I) (hBC : B env.locals = none) (hBI : B I = none) (hBg : ∃ o, B gl = some o ∧ ∃ n, o.data = .seq vs.toArray n)
    (hv : ∀ i, i < N → ∃ z t, vs[i]? = some (.int z t) ∧ z ≠ 127 ∧ z ≠ 0) (hend : ∃ t, vs[N]? = some (.int 127 t)) (hK : Kf (.ret .none) = .pure (.done (.ret .none))) :
    ∀ (k i : Nat) (s₀ s : Shared) (m : Vars), N - i = k → i ≤ N → s.heap.Ns env.locals m → s.heap.IsListIter I gl i → Sub B s.heap → OwnIt N1 gl I s₀ → GenSince env.locals [I] s₀ s →
      Seg (model prog w) A (fun n s₀ r s₁ => r = .ok (.ret .none) ∧ gitEnd env.locals N1 gl n s₀ s₁) (gitProto env.locals N1 gl vs N B) k s₀
        (.forLoop (.Name x px) (.ref I) [.If test1 [.Return none p1] [] p2, .If test2 b2 [] p3, .Expr (.Yield (some e) p4) p5, st] [] env)
        ((model prog w).den (.forLoop (.Name x px) (.ref I) [.If test1 [.Return none p1] [] p2, .If test2 b2 [] p3, .Expr (.Yield (some e) p4) p5, st] [] env))
        [.ret (ownBack env Kf Hf id id) none false [] c p []] s := by
  intro k
  induction k with
  | zero =>
    intro i s₀ s m hk hi hn hit hB hown hs
    have hin : i = N := by omega
    subst hin
    refine ex1 (hend) fun tz hz => ?_; (try clear hend)
    obtain ⟨og, hog, ng, hdg⟩ := hBg
    refine seg_forLoop (seq_next_item hit ⟨og, hB _ _ hog, ng, hdg⟩ hz fun h₁ hit₁ hs₁ => ?_)
    dsimp only
    refine wpAny_of_eq (rfl : letOwnedTupleGo (.Name x px) (.ref I) (.int 127 tz) = pure ()) ?_
    refine wpAny_assign_Name (wpAny_storeName_local G.kx (hn.at' fun o e => hs₁.extBut _ o hI.symm e) (fun h₂ hn₂ hs₂ => ?_) G.cls)
    have hB₂ : Sub B h₂ := fun b o e => hs₂.extBut b o (fun q => by rw [q, hBC] at e; cases e) (hs₁.extBut b o (fun q => by rw [q, hBI] at e; cases e) (hB b o e))
    refine seg_execs_cons (seg_If (G.t1 _ _ _ 127 tz _ hn₂ (by simp) hB₂ fun tk => ?_))
    simp only [beq_self_eq_true, if_true]
    refine seg_execs_cons (seg_Return_none ?_)
    refine seg_leaf (.ok (.ret .none)) ?_
    show Seg _ A _ _ _ s₀ c (Kf (.ret .none)) [] _
    rw [hK]
    refine seg_end (.ok (.ret .none)) ⟨rfl, rfl, I, hown, ?_⟩
    exact (hs.step (tk := tk) fun b o hC hw e => hs₂.extBut b o hC (hs₁.extBut b o (by simpa using hw) e))
  | succ k ih =>
    intro i s₀ s m hk hi hn hit hB hown hs
    have hlt : i < N := by omega
    refine ex2 (hv i hlt) fun z tz oh => ?_; refine and3 oh fun hz h127 h00 => ?_; clear oh
    obtain ⟨og, hog, ng, hdg⟩ := id hBg
    refine seg_forLoop (seq_next_item hit ⟨og, hB _ _ hog, ng, hdg⟩ hz fun h₁ hit₁ hs₁ => ?_)
    dsimp only
    refine wpAny_of_eq (rfl : letOwnedTupleGo (.Name x px) (.ref I) (.int z tz) = pure ()) ?_
    refine wpAny_assign_Name (wpAny_storeName_local G.kx (hn.at' fun o e => hs₁.extBut _ o hI.symm e) (fun h₂ hn₂ hs₂ => ?_) G.cls)
    have hB₂ : Sub B h₂ := fun b o e => hs₂.extBut b o (fun q => by rw [q, hBC] at e; cases e) (hs₁.extBut b o (fun q => by rw [q, hBI] at e; cases e) (hB b o e))
    have hit₂ : h₂.IsListIter I gl (i + 1) := hit₁.at fun o e => hs₂.extBut I o hI e
    refine seg_execs_cons (seg_If (G.t1 _ _ _ z tz _ hn₂ (by simp) hB₂ fun tk => ?_))
    rw [if_neg (by simpa using h127)]
    refine seg_execs_cons (seg_If (G.t2 _ _ _ z tz _ hn₂ (by simp) hB₂ fun tk' => ?_))
    rw [if_neg (by simpa using h00)]
    refine seg_execs_cons (seg_Expr_Yield rfl rfl rfl (G.e _ _ _ (.int z tz) _ _ hn₂ (by simp) fun kap hkap => ?_) G.co G.inter)
    refine ⟨?_, I, hown, hs.step (tk := tk') fun b o hC hw e => hs₂.extBut b o hC (hs₁.extBut b o (by simpa using hw) e), fun s'' hB'' hkp => hkap .none s'' ?_⟩
    · have : N - 1 - k = i := by omega
      rw [this]; exact hz
    · show Seg _ A _ _ _ s'' _ ((execs [st] env).wrap _ _ _ _) _ s''
      have hn'' : s''.heap.Ns env.locals _ := hn₂.at' fun o e => hkp _ (.inl rfl) o e
      have hit'' : s''.heap.IsListIter I gl (i + 1) := hit₂.at fun o e => hkp _ (.inr rfl) o e
      refine seg_execs_cons (seg_wrap (G.st _ _ _ (.int z tz) _ _ hn'' (by simp) fun h₃ tk₃ m₃ hn₃ hs₃ => ?_))
      refine seg_again rfl ?_
      refine ih (i + 1) s'' _ m₃ (by omega) (by omega) hn₃ (hit''.at fun o e => hs₃.extBut I o hI e) (fun b o e => hs₃.extBut b o (fun q => by rw [q, hBC] at e; cases e) (hB'' b o e)) ⟨hN1, .inr ⟨_, hit''⟩⟩ ?_
      exact (GenSince.refl _ _ _).step fun b o hC _ e => hs₃.extBut b o hC e
theorem seg_gitC {C : Addr} {B : PH} {env : Env} {x : Str} {test1 test2 e : Expr} {st : Stmt} {b2 : List Stmt} {px p1 p2 p3 p4 p5 : Pos} {gl I N1 : Addr} {vs : List Value} {N : Nat} {Kf : Flow → Sem Fin} {Hf : Value → Sem Fin} {c : Code} {p : Pos}
    (hC : env.locals = C) (G : GitBody prog w B env x test1 test2 e st) (hI : I ≠ C) (hgl : gl ≠ I) (hN1 : N1 ≤ I) (hBC : B C = none) (hBI : B I = none) (hBg : ∃ o, B gl = some o ∧ ∃ n, o.data = .seq vs.toArray n)
    (hv : ∀ i, i < N → ∃ z t, vs[i]? = some (.int z t) ∧ z ≠ 127 ∧ z ≠ 0) (hend : ∃ t, vs[N]? = some (.int 127 t)) (hK : Kf (.ret .none) = .pure (.done (.ret .none))) :
    ∀ (k i : Nat) (s₀ s : Shared) (m : Vars), N - i = k → i ≤ N → s.heap.Ns C m → s.heap.IsListIter I gl i → Sub B s.heap → OwnIt N1 gl I s₀ → GenSince C [I] s₀ s →
      Seg (model prog w) A (fun n s₀ r s₁ => r = .ok (.ret .none) ∧ gitEnd C N1 gl n s₀ s₁) (gitProto C N1 gl vs N B) k s₀
        (.forLoop (.Name x px) (.ref I) [.If test1 [.Return none p1] [] p2, .If test2 b2 [] p3, .Expr (.Yield (some e) p4) p5, st] [] env)
        ((model prog w).den (.forLoop (.Name x px) (.ref I) [.If test1 [.Return none p1] [] p2, .If test2 b2 [] p3, .Expr (.Yield (some e) p4) p5, st] [] env))
        [.ret (ownBack env Kf Hf id id) none false [] c p []] s := by
  subst hC
  exact seg_git G hI hgl hN1 hBC hBI hBg hv hend hK
end
end Mine
end
end
section
open PySem PySem.W PySem.Calls PyProof.Rows PySem.Spec
set_option Elab.async false
set_option linter.unusedVariables false
set_option maxRecDepth 100000
noncomputable section
namespace Mine
noncomputable abbrev gitR (C N1 gl : Addr) : GenEnd := fun n s₀ r s₁ => r = .ok (.ret .none) ∧ gitEnd C N1 gl n s₀ s₁
theorem bi_at {B : PH} {h : Heap} {a : Addr} {P : HP} (k : BI B a P) (hB : Sub B h) : ∃ o, h.get? a = some o ∧ P o := let ⟨o, e, p⟩ := k; ⟨o, hB _ _ e, p⟩

section
variable {X : Fm} {m : Vars} {σ : Led}
theorem gi_call {gl : Addr} {vs : List Value} {N : Nat} {s : Shared} {Q : Value → Shared → Prop} {E : Value → Shared → Prop} (hA : Ok 2 X.A) (S : St X.C X.B X.F X.L m σ s) (hg : BI X.B gl (isList vs))
    (hv : ∀ i, i < N → ∃ z t, vs[i]? = some (.int z t) ∧ z ≠ 127 ∧ z ≠ 0) (hend : ∃ t, vs[N]? = some (.int 127 t))
    (hQ : ∀ ga g C N1 s', St X.C X.B X.F X.L m σ s' → s.heap.objs.size ≤ C → C < ga → ga < N1 → N1 = s'.heap.objs.size → s'.heap.IsGen ga g →
      (∃ gs, s'.gens[g]? = some gs ∧ ∀ (A' : Around) s'', Sub X.B s''.heap → (∀ o, s'.heap.get? C = some o → s''.heap.get? C = some o) → N1 ≤ s''.heap.objs.size →
        gs.Goes (MM X.C) A' (gitR C N1 gl) (gitProto C N1 gl vs N X.B) N (.send .none) s'') → Q (.ref ga) s') :
    wpAny (MM X.C) X.A (call (.ref 177) [.ref gl]) Q E s := by
  obtain ⟨hh, g, d, t, os⟩ := s
  refine wpAny_call (codeAny_call_generator (Nat.lt_of_lt_of_le (by have := hA.dp; (first | lia | omega) : X.A.depth < 900) (by decide)) (S.world.k 177 _ rfl) rfl rfl rfl rfl (codeRec_of S.world.k (by rfl)) ?_)
  refine (BindsTo.of_eq (binds := [("grouping", .ref gl)]) rfl) _ _ _ _ ?_
  refine wpAny_newFunctionEnv (by simp) (by simp) (fun h' hns hsb => ?_) rfl
  have hk : ∀ b o, hh.get? b = some o → h'.get? b = some o := fun b o e => hsb.extBut b o (Nat.ne_of_lt (Heap.lt_size e)) (Heap.get?_push_of_some _ e)
  have S1 := S.grow (h' := h') (t := t + 1) (g := g) (d := d) hk S.gens
  refine ⟨S1.world.t.nolimit, ?_⟩
  have hsz : h'.objs.size = hh.objs.size + 1 := by rw [hsb.1, Heap.size_push]
  dsimp only at hns ⊢
  refine hQ h'.objs.size g.size hh.objs.size (h'.objs.size + 1) _ (S1.grow (fun _ _ e => Heap.get?_push_of_some _ e) (S1.gens.push rfl)) (Nat.le_refl _) (by (first | lia | omega)) (Nat.lt_succ_self _) (Heap.size_push ..).symm ⟨_, _, _, Heap.get?_push_size _ rfl, rfl, rfl, rfl⟩ ⟨_, Array.getElem?_push_size .., fun A' s'' hB'' hkC hszg => ⟨rfl, ?_⟩⟩
  have hBN : ∀ b o, X.B b = some o → b < hh.objs.size := fun b o e => Heap.lt_size (S.keep b o e)
  have hBC : X.B hh.objs.size = none := by
    cases q : X.B hh.objs.size with
    | none => rfl
    | some o => exact absurd (hBN _ _ q) (Nat.lt_irrefl _)
  have hn'' : s''.heap.Ns hh.objs.size _ := (hns.push _).at' fun o e => hkC o e
  have bodyOk : ∀ (h : Heap), Sub X.B h → WF X.C h := S.wf
  refine seg_func (seg_execs_cons (seg_wrap (wpAny_Assign_Name (wpAny_Constant_none (wpAny_storeName_local rfl hn'' (fun h₁ hn₁ hs₁ => ?_) rfl)))))
  have hs₁ : Heap.SameBut hh.objs.size s''.heap h₁ := hs₁
  have hB₁ : Sub X.B h₁ := fun b o e => hs₁.extBut b o (fun q => by rw [q, hBC] at e; cases e) (hB'' b o e)
  refine seg_execs_cons (seg_For (fun _ => rfl) (wpAny_Name (wpAny_loadName_local rfl rfl hn₁ (by rfl) (wpAny_pyIter_list (isList_at (bi_at hg hB₁)) fun p => ?_)) (by decide)))
  have hszh : h₁.objs.size = s''.heap.objs.size := hs₁.1
  have hBI : X.B h₁.objs.size = none := by
    cases q : X.B h₁.objs.size with
    | none => rfl
    | some o =>
      have h9 : (h₁.objs.size : Nat) < hh.objs.size := hBN _ _ q
      have h8 : h'.objs.size + 1 ≤ s''.heap.objs.size := hszg
      (first | lia | omega)
  obtain ⟨og, hog, ng, hdg⟩ := hg
  refine seg_gitC (x := "interval") (B := X.B) (C := hh.objs.size) ?_ ?_ ?_ ?_ ?_ ?_ hBI ⟨og, hog, ng, by rw [hdg]⟩ hv hend ?_ N 0 s'' _ _ (Nat.sub_zero _) (Nat.zero_le _) (hn₁.push _) ?_ ?_ ?_ ?_
  · rfl
  · exact
    { t1 := fun A' s m z t Q hn hm hB hQ => wpAny_isTrue_Compare1 (wpAny_Name (wpAny_loadName_local rfl rfl hn hm (Name_function_global rfl rfl (loadGlobal_global (bodyOk _ hB).t.g (mg_of (bodyOk _ hB).k (bodyOk _ hB).t.g rfl) (P.eq_int (wpAny_truthy_bool (hQ _)))) (by decide))) (by decide)) rfl
      t2 := fun A' s m z t Q hn hm hB hQ => wpAny_isTrue_Compare1 (wpAny_Name (wpAny_loadName_local rfl rfl hn hm (wpAny_Constant_int (P.eq_int (wpAny_truthy_bool (hQ _))))) (by decide)) rfl
      e := fun A' s m v Q E hn hm hQ => wpAny_Name (wpAny_loadName_local rfl rfl hn hm hQ) (by decide)
      st := fun A' s m v Q E hn hm hQ => wpAny_Assign_Name (wpAny_Name (wpAny_loadName_local rfl rfl hn hm (wpAny_storeName_local rfl hn (fun h' hn' hs' => hQ h' _ _ hn' hs') rfl)) (by decide)) rfl
      kx := rfl
      cls := rfl
      co := rfl
      inter := rfl }
  · show h₁.objs.size ≠ hh.objs.size; (first | lia | omega)
  · show gl ≠ h₁.objs.size
    have h9 : (gl : Nat) < hh.objs.size := hBN _ _ hog
    intro q
    have h8 : (gl : Nat) = h₁.objs.size := q
    have h7 : (h₁.objs.size : Nat) < hh.objs.size := by rw [← h8]; exact h9
    (first | lia | omega)
  · show h'.objs.size + 1 ≤ h₁.objs.size
    (first | lia | omega)
  · exact hBC
  · rfl
  · exact ⟨_, Heap.get?_push_size _ rfl, rfl, rfl⟩
  · exact fun b o e => Heap.get?_push_of_some _ (hB₁ b o e)
  · refine ⟨?_, .inl ?_⟩
    · show h'.objs.size + 1 ≤ h₁.objs.size
      (first | lia | omega)
    · show s''.heap.get? h₁.objs.size = none
      rw [hszh]; exact get_size_none _
  · refine (GenSince.refl _ _ _).step fun b o hC hI e => Heap.get?_push_of_some _ (hs₁.extBut b o hC e)
end
end Mine
end
end
section
open PySem PySem.W PySem.Calls PyProof.Rows PySem.Spec
set_option Elab.async false
set_option linter.unusedVariables false
set_option maxRecDepth 100000
noncomputable section
namespace Mine
section
variable {prog : Program} {w : World} {A : Around} {E : Value → Shared → Prop} {s : Shared}

noncomputable def GiSt (prog : Program) (w : World) (A : Around) (B : PH) (C N1 gl : Addr) (vs : List Value) (N : Nat) (ga : Addr) (g : Nat) (S : Addr) (i : Nat) (s : Shared) : Prop :=
  s.heap.IsGen ga g ∧ ∃ gs, s.gens[g]? = some gs ∧ ∃ D : List Addr, S ∉ D ∧ ∀ s'' : Shared, Sub B s''.heap → (∀ b ∈ D, ∀ o, s.heap.get? b = some o → s''.heap.get? b = some o) → N1 ≤ s''.heap.objs.size →
    gs.Goes (model prog w) A (gitR C N1 gl) (gitProto C N1 gl vs N B) (N - i) (.send .none) s''
noncomputable def GiKeep (C N1 S : Addr) (s s' : Shared) : Prop := ∀ b o, b ≠ C → (b < N1 ∨ b = S) → s.heap.get? b = some o → s'.heap.get? b = some o

theorem ownIt_ne {N1 gl I S : Addr} {s : Shared} (h : OwnIt N1 gl I s) (hS : ∃ o, s.heap.get? S = some o ∧ o.cls = .type "list") : S ≠ I := by
  rintro rfl
  refine ex1 (hS) fun o ou0 => ?_; (try clear hS); refine and2 (ou0) fun e hc => ?_; clear ou0
  rcases h.2 with h | ⟨j, o', e', hc', _⟩
  · rw [h] at e; cases e
  · rw [e'] at e; cases e
    rw [hc'] at hc
    exact absurd hc (by decide)
theorem gi_since {C N1 gl I S : Addr} {s s₁ : Shared} {g : Nat} (hown : OwnIt N1 gl I s) (hS : ∃ o, s.heap.get? S = some o ∧ o.cls = .type "list") (hs : GenSince C [I] (s.setGen g .running) s₁) : GiKeep C N1 S s s₁ := fun b o hC hb e =>
  GenSince.cons_keep hs b o hC (by
    rcases hb with hb | rfl
    · exact fun q => absurd (q ▸ hb) (Nat.not_lt.mpr hown.1)
    · exact ownIt_ne hown hS) e

theorem gi_next {B : PH} {C N1 gl ga S : Addr} {vs : List Value} {N g i : Nat} {Q : Option Value → Shared → Prop} (hh : A.handled = none) (hl : s.heap.NoLimit) (hroom : A.depth < recursionLimit)
    (hS : ∃ o, s.heap.get? S = some o ∧ o.cls = .type "list") (hSN : N1 ≤ S) (hCg : C < ga) (hg1 : ga < N1) (hBN : ∀ b o, B b = some o → b ≠ C ∧ b < N1) (hB : Sub B s.heap) (hst : GiSt prog w A.in1 B C N1 gl vs N ga g S i s) (hi : i ≤ N)
    (hQ : i < N → ∀ v s', vs[i]? = some v → GiSt prog w A.in1 B C N1 gl vs N ga g S (i + 1) s' → GiKeep C N1 S s s' → GenOnlyQ g s.gens s'.gens → s'.os = s.os → Q (some v) s')
    (hD : i = N → ∀ s', GiKeep C N1 S s s' → GenOnlyQ g s.gens s'.gens → s'.os = s.os → Q none s') :
    wpAny (model prog w) A (pyNext (.ref ga)) Q E s := by
  obtain ⟨hg, gs, hgs, D, hSD, hgo⟩ := hst
  have hsz : N1 ≤ s.heap.objs.size := by obtain ⟨o, e, _⟩ := hS; exact Nat.le_of_lt (Nat.lt_of_le_of_lt hSN (Heap.lt_size e))
  refine pyNext_genfnQ (P := fun n s₀ s₁ => gitEnd C N1 gl n s₀ s₁) hh hl hroom hg hgs (hgo (s.setGen g .running) hB (fun _ _ _ e => e) hsz) (fun v s₁ gs' hb hv => ?_) (fun s₁ hp h' hk => ?_)
  · refine and2 (hv) fun hvi ou0 => ?_; (try clear hv); refine ex1 (ou0) fun I oh => ?_; clear ou0; refine and3 oh fun hown hsin hkap => ?_; clear oh
    have hkeep := gi_since (S := S) (s := s) (g := g) hown hS hsin
    rcases Nat.lt_or_ge i N with hlt | hge
    · refine ex1 (show ∃ k, N - i = k + 1 from ⟨N - i - 1, by (first | lia | omega)⟩) fun k hk => ?_
      rw [hk] at hvi hkap
      have e1 : N - 1 - (k + 1 - 1) = i := by (first | lia | omega)
      rw [e1] at hvi
      refine ex2 (id hsin) fun h₁ tk₁ ou0 => ?_; refine and2 (ou0) fun hs1 _ => ?_; clear ou0
      have hgs1 : s₁.gens = (s.setGen g .running).gens := by rw [hs1]
      have hset : (s₁.setGen g gs').gens[g]? = some gs' := setGen_self (gs := .running) (by rw [hgs1]; exact setGen_self hgs)
      refine hQ hlt v (s₁.setGen g gs') hvi ⟨?_, gs', hset, [C, I], ?_, fun s'' hB'' hkD hsz'' => ?_⟩ hkeep ?_ (by rw [hs1]; rfl)
      · refine ex3 (hg) fun o nm qn ou0 => ?_; (try clear hg); refine and2 (ou0) fun ho r => ?_; clear ou0
        exact ⟨o, nm, qn, hkeep _ _ (Nat.ne_of_gt hCg) (.inl hg1) ho, r⟩
      · intro hm
        rcases List.mem_cons.mp hm with rfl | hm
        · exact absurd (Nat.lt_of_lt_of_le (Nat.lt_trans hCg hg1) hSN) (Nat.lt_irrefl _)
        · exact ownIt_ne hown hS (List.mem_singleton.mp hm)
      · have e2 : N - (i + 1) = k := by (first | lia | omega)
        rw [e2]
        exact hkap s'' hB'' fun b hb o e => hkD b (by rcases hb with rfl | rfl <;> simp) o e
      · refine GenOnlyQ.of ((GenOnly.setGen s g .running).trans ?_) hset hb
        have := GenOnly.setGen s₁ g gs'
        rwa [hgs1] at this
    · have : N - i = 0 := by (first | lia | omega)
      rw [this] at hkap
      exact (hkap s₁ (fun b o e => hkeep b o (hBN b o e).1 (.inl (hBN b o e).2) (hB b o e)) fun _ _ _ e => e).elim
  · refine and2 (hp) fun hn0 ou0 => ?_; (try clear hp); refine ex1 (ou0) fun I ou1 => ?_; clear ou0; refine and2 (ou1) fun hown hsin => ?_; clear ou1
    have hkeep := gi_since (S := S) (s := s) (g := g) hown hS hsin
    refine ex2 (id hsin) fun h₁ tk₁ ou0 => ?_; refine and2 (ou0) fun hs1 _ => ?_; clear ou0
    have hgs1 : s₁.gens = (s.setGen g .running).gens := by rw [hs1]
    refine hD (by (first | lia | omega)) _ (fun b o hC hb e => hk b o (hkeep b o hC hb e)) ?_ (by rw [hs1]; rfl)
    have hset : (s₁.setGen g .finished).gens[g]? = some .finished := setGen_self (gs := .running) (by rw [hgs1]; exact setGen_self hgs)
    refine GenOnlyQ.of ((GenOnly.setGen s g .running).trans ?_) hset rfl
    have := GenOnly.setGen s₁ g .finished
    rwa [hgs1] at this
end
end Mine
end
end
section
open PySem PySem.W PySem.Calls PyProof.Rows PySem.Spec
set_option Elab.async false
set_option linter.unusedVariables false
set_option maxRecDepth 100000
noncomputable section
namespace Mine
section
variable {prog : Program} {w : World} {A : Around} {s : Shared} {B : PH} {C N1 gl ga S : Addr} {vs : List Value} {N g : Nat}
structure GiRel (C N1 : Addr) (g : Nat) (s s' : Shared) : Prop where
  heap : ∀ b o, b ≠ C → b < N1 → s.heap.get? b = some o → s'.heap.get? b = some o
  gens : GenOnlyQ g s.gens s'.gens
  os : s'.os = s.os
noncomputable abbrev lstObj (vs : List Value) (c : Nat) : Obj := { cls := .type "list", dict := none, data := .seq vs.toArray c, slots := #[] }
theorem GiSt.other {i : Nat} (x : GiSt prog w A B C N1 gl vs N ga g S i s) (hne : ga ≠ S) {h' : Heap} {t : Nat} (hk : ∀ b o, b ≠ S → s.heap.get? b = some o → h'.get? b = some o) : GiSt prog w A B C N1 gl vs N ga g S i { s with heap := h', toks := t } := by
  obtain ⟨⟨o, nm, qn, ho, r⟩, gs, hgs, D, hSD, hgo⟩ := x
  exact ⟨⟨o, nm, qn, hk _ _ hne ho, r⟩, gs, hgs, D, hSD, fun s'' hB hD hsz => hgo s'' hB (fun b hb o e => hD b hb o (hk b o (fun q => hSD (q ▸ hb)) e)) hsz⟩

theorem gi_loop {R : Result → Shared → Prop} {res : Value} (hh : A.handled = none) (hl : ∀ h, Sub B h → h.NoLimit) (hroom : A.in1.depth < recursionLimit) (hSN : N1 ≤ S) (hCg : C < ga) (hg1 : ga < N1)
    (hBN : ∀ b o, B b = some o → b ≠ C ∧ b < N1) (hN : N ≤ 1000) (hvs : N ≤ vs.length) :
    ∀ (k i : Nat) (s : Shared) (c : Nat), N - i = k → i ≤ N → GiSt prog w A.in1.in1 B C N1 gl vs N ga g S i s → Sub B s.heap → s.heap.get? S = some (lstObj (vs.take i) c) →
    (∀ s' c', GiRel C N1 g s s' → s'.heap.get? S = some (lstObj (vs.take N) c') → R (.ok (.ret res)) s') →
    codeAny (model prog w) A (.builtin "list.extend.loop" ⟨[.ref S, .ref ga, res], []⟩) R s := by
  have hne : ga ≠ S := fun q => absurd (q ▸ hg1) (Nat.not_lt.mpr hSN)
  have hSC : S ≠ C := fun q => absurd (Nat.lt_of_lt_of_le (Nat.lt_trans hCg hg1) hSN) (by rw [q]; exact Nat.lt_irrefl _)
  intro k
  induction k with
  | zero =>
    intro i s c hk hi hst hB hS hR
    have hin : i = N := by (first | lia | omega)
    subst hin
    refine codeAny_builtin F.entry_extend_loop ?_
    rw [Around.under_plainId F.plain_extend_loop _]
    show wpAny _ A.in1 (pyNext (.ref ga) >>= _) _ _ s
    refine wpAny_bind (gi_next hh (hl _ hB) hroom ⟨_, hS, rfl⟩ hSN hCg hg1 hBN hB hst (Nat.le_refl _) (fun h => absurd h (Nat.lt_irrefl _)) fun _ s' hk hg hos => ?_)
    exact wpAny_pure (hR s' c ⟨fun b o hC hb e => hk b o hC (.inl hb) e, hg, hos⟩ (hk S _ hSC (.inr rfl) hS))
  | succ k ih =>
    intro i s c hk hi hst hB hS hR
    have hlt : i < N := by (first | lia | omega)
    refine codeAny_builtin F.entry_extend_loop ?_
    rw [Around.under_plainId F.plain_extend_loop _]
    show wpAny _ A.in1 (pyNext (.ref ga) >>= _) _ _ s
    refine wpAny_bind (gi_next hh (hl _ hB) hroom ⟨_, hS, rfl⟩ hSN hCg hg1 hBN hB hst hi (fun _ v s' hv hst' hk hg hos => ?_) fun h => absurd h (by first | decide | (with_reducible first | exact n0 _ | exact f5 (by assumption) | exact a3 (by assumption) (by assumption) | exact b26 (by assumption) | exact a26 (by assumption)) | (first | lia | omega)))
    have hS' := hk S _ hSC (.inr rfl) hS
    show wpAny _ A.in1 (updateSeq S (·.push v) >>= _) _ _ _
    refine wpAny_bind ?_
    have hsz : (vs.take i).toArray.size ≤ 1000 := by rw [List.size_toArray, List.length_take]; (first | lia | omega)
    have e1 : (vs.take i).toArray.push v = (vs.take (i + 1)).toArray := by
      rw [List.push_toArray, List.take_add_one, hv]; rfl
    refine ex1 (mapSeq_is (.type "list") none (vs.take i).toArray c (·.push v)) fun n' hn' => ?_
    refine wpAny_updateSeq hS' rfl (wpAny_pure ⟨plainId_quiet F.plain_extend_loop _, ?_⟩) (by rw [sizeLine_eq]; (first | lia | omega)) (by show ((vs.take i).toArray.push v).size ≤ sizeLine + 1; rw [Array.size_push, sizeLine_eq]; (first | lia | omega))
    have hoth : ∀ b o, b ≠ S → s'.heap.get? b = some o → (s'.heap.update S (Obj.mapSeq (·.push v))).get? b = some o := fun b o hb e => (Heap.get?_update_other _ _ (Ne.symm hb)).trans e
    have hB' : Sub B s'.heap := fun b o e => hk b o (hBN b o e).1 (.inl (hBN b o e).2) (hB b o e)
    refine ih (i + 1) _ n' (by first | decide | (with_reducible first | exact n0 _ | exact f5 (by assumption) | exact a3 (by assumption) (by assumption) | exact b26 (by assumption) | exact a26 (by assumption)) | (first | lia | omega)) (by first | decide | (with_reducible first | exact n0 _ | exact f5 (by assumption) | exact a3 (by assumption) (by assumption) | exact b26 (by assumption) | exact a26 (by assumption)) | (first | lia | omega)) (hst'.other hne (t := s'.toks) hoth) (fun b o e => hoth b o (fun q => absurd ((hBN b o e).2) (by rw [q]; exact Nat.not_lt.mpr hSN)) (hB' b o e)) ?_ fun s'' c' hr hS'' => ?_
    · have hu := Heap.get?_update_self (Obj.mapSeq (·.push v)) hS' (by rw [hn']; rfl)
      rw [hn', e1] at hu
      exact hu
    · refine hR s'' c' ⟨fun b o hC hb e => hr.heap b o hC hb (hoth b o (fun q => absurd hb (by rw [q]; exact Nat.not_lt.mpr hSN)) (hk b o hC (.inl hb) e)), hg.trans hr.gens, hr.os.trans hos⟩ hS''
end

section
variable {prog : Program} {w : World} {A : Around} {s : Shared} {B : PH} {C N1 gl ga : Addr} {vs : List Value} {N g : Nat} {E : Value → Shared → Prop}
theorem call_list_gi {Q : Value → Shared → Prop} (hh : A.handled = none) (hl : ∀ h, Sub B h → h.NoLimit) (hroom : A.depth < recursionLimit) (hN1 : N1 = s.heap.objs.size) (hCg : C < ga) (hg1 : ga < N1)
    (hBN : ∀ b o, B b = some o → b ≠ C ∧ b < N1) (hN : N ≤ 1000) (hvs : N ≤ vs.length) (hB : Sub B s.heap) (hst : GiSt prog w A.in1.in1.in1 B C N1 gl vs N ga g s.heap.objs.size 0 s) (hT : s.TypeIs (.ref ga) "generator")
    (hQ : ∀ s' c, GiRel C N1 g s s' → s'.heap.get? s.heap.objs.size = some (lstObj (vs.take N) c) → Q (.ref s.heap.objs.size) s') :
    wpAny (model prog w) A (call (.type "list") [.ref ga]) Q E s := by
  have hne : ga ≠ s.heap.objs.size := fun q => absurd (q ▸ hg1) (by rw [hN1]; exact Nat.lt_irrefl _)
  have hSN : N1 ≤ s.heap.objs.size := Nat.le_of_eq hN1
  refine callType_codes (Q₁ := fun obj s₁ => obj = .ref s.heap.objs.size ∧ s₁ = { s with heap := s.heap.push { cls := .type "list", data := .seq #[] } }) F.called_list (F.typeCall_list_1 _) F.entry_list_init
    (code_list_new _ ⟨rfl, rfl⟩) fun obj s₁ h₁ => ?_
  refine and2 (h₁) fun oq0 oq1 => ?_; (try clear h₁); subst oq0; subst oq1
  have hS : (s.heap.push { cls := .type "list", data := .seq #[] }).get? s.heap.objs.size = some { cls := .type "list", data := .seq #[] } := Heap.get?_push_size _ rfl
  refine ⟨⟨_, hS, rfl⟩, F.args_list_init_2 _ _, ?_⟩
  have hT' : ∀ (h' : Heap), (∀ b o, b ≠ s.heap.objs.size → s.heap.get? b = some o → h'.get? b = some o) → ∀ g d t os, (⟨h', g, d, t, os⟩ : Shared).TypeIs (.ref ga) "generator" := fun h' hk g d t os => by
    refine ex1 (hT) fun o ou0 => ?_; (try clear hT); refine and2 (ou0) fun e hc => ?_; clear ou0
    exact ⟨o, hk _ _ hne e, hc⟩
  show wpAny _ A.in1.in1 (do let old ← Builtin.List.listItems (.ref s.heap.objs.size); Builtin.List.listUpdate (.ref s.heap.objs.size) (fun _ => #[]); letGo old.toList.reverse; Builtin.List.listExtendWith (.ref s.heap.objs.size) (.ref ga) .none) _ _ _
  refine wpAny_bind ?_
  unfold Builtin.List.listItems
  refine wpAny_bind (wpAny_seqItems hS rfl (wpAny_pure ?_))
  show wpAny _ A.in1.in1 (updateSeq s.heap.objs.size (fun _ => #[]) >>= fun _ => letGo (#[] : Array Value).toList.reverse >>= fun _ => Builtin.List.listExtendWith (.ref s.heap.objs.size) (.ref ga) .none) _ _ _
  refine wpAny_bind (wpAny_updateSeq hS rfl ?_)
  have hS₁ := Heap.get?_update_self (Obj.mapSeq (fun _ => (#[] : Array Value))) hS rfl
  have oth₁ : ∀ b o, b ≠ s.heap.objs.size → s.heap.get? b = some o → ((s.heap.push { cls := .type "list", data := .seq #[] }).update s.heap.objs.size (Obj.mapSeq (fun _ => (#[] : Array Value)))).get? b = some o :=
    fun b o hb e => (Heap.get?_update_other _ _ (Ne.symm hb)).trans (Heap.get?_push_of_some _ e)
  refine wpAny_bind (wpAny_letGo ?_)
  unfold Builtin.List.listExtendWith
  refine wpAny_bind (wpAny_typeOf (hT' _ oth₁ _ _ _ _) ?_)
  have h1 : Builtin.List.listSameRef (.ref s.heap.objs.size) (.ref ga) = false := by simp [Builtin.List.listSameRef, Ne.symm hne]
  have h2 : (Value.type "generator" == Value.type "list") = false := by decide
  have h3 : (Value.type "generator" == Value.type "tuple") = false := by decide
  simp only [h1, h2, h3, Bool.or_false, Bool.false_eq_true, if_false]
  have hG₁ := hst.other hne (t := s.toks) oth₁
  refine wpAny_bind (wpAny_pyIter_gen hG₁.1 ?_)
  refine wpAny_bind (wpAny_holding ?_)
  unfold Builtin.List.listLengthHint
  refine wpAny_bind (wpAny_specialOf (hT' _ oth₁ _ _ _ _) F.gen_no_len ?_)
  show wpAny _ A.in1.in1 (specialOf (Value.ref ga) (Str.ofString "__length_hint__") >>= _) _ _ _
  refine wpAny_bind (wpAny_specialOf (hT' _ oth₁ _ _ _ _) F.gen_no_hint ?_)
  refine wpAny_pure ?_
  show wpAny _ A.in1.in1 (rule "list.extend.makes-room" >>= fun _ => Builtin.List.listTouch (.ref s.heap.objs.size) >>= fun _ =>
    again (.builtin "list.extend.loop" ⟨[.ref s.heap.objs.size, .ref ga, .none], []⟩)) _ _ _
  refine wpAny_bind (wpAny_rule ?_)
  refine wpAny_bind ?_
  show wpAny _ A.in1.in1 (updateSeq s.heap.objs.size (·.push .none) >>= fun _ => updateSeq s.heap.objs.size (·.pop)) _ _ _
  refine wpAny_bind (wpAny_updateSeq hS₁ rfl ?_)
  have hS₂ := Heap.get?_update_self (Obj.mapSeq (·.push Value.none)) hS₁ rfl
  refine wpAny_updateSeq (hz := by seq_fits) hS₂ rfl ?_
  have hS₃ := Heap.get?_update_self (Obj.mapSeq (·.pop)) hS₂ rfl
  have oth₃ : ∀ b o, b ≠ s.heap.objs.size → s.heap.get? b = some o → ((((s.heap.push { cls := .type "list", data := .seq #[] }).update s.heap.objs.size (Obj.mapSeq (fun _ => (#[] : Array Value)))).update s.heap.objs.size (Obj.mapSeq (·.push Value.none))).update s.heap.objs.size (Obj.mapSeq (·.pop))).get? b = some o :=
    fun b o hb e => (Heap.get?_update_other _ _ (Ne.symm hb)).trans ((Heap.get?_update_other _ _ (Ne.symm hb)).trans (oth₁ b o hb e))
  refine wpAny_pure ⟨plainId_quiet F.plain_extend_loop _, gi_loop (A := A.in1) hh hl hroom hSN hCg hg1 hBN hN hvs N 0 _ _ (Nat.sub_zero _) (Nat.zero_le _) (hst.other hne (t := s.toks) oth₃)
    (fun b o e => oth₃ b o (fun q => absurd (hBN b o e).2 (by rw [q]; exact Nat.not_lt.mpr hSN)) (hB b o e)) hS₃ fun s' c' hr hS' => ?_⟩
  refine ⟨rfl, hQ s' c' ⟨fun b o hC hb e => hr.heap b o hC hb (oth₃ b o (fun q => absurd hb (by rw [q]; exact Nat.not_lt.mpr hSN)) e), hr.gens, hr.os⟩ hS'⟩
end

section
variable {X : Fm} {m : Vars} {σ : Led}
theorem w_list_gi {arg : Expr} {env : Env} {p1 p2 pg : Pos} {Q : Value → Vars → Led → Prop} (hA : Ok 6 X.A)
    (h : W X m σ (spliced (backTo p1 (starEach [arg] env))) (fun as m' σ' => ∃ gl vs N σ₁, as = [.ref gl] ∧ σ' = (gl, isList vs) :: σ₁ ∧ N ≤ 1000 ∧ N ≤ vs.length ∧ (∀ i, i < N → ∃ z t, vs[i]? = some (.int z t) ∧ z ≠ 127 ∧ z ≠ 0) ∧ (∃ t, vs[N]? = some (.int 127 t)) ∧
      ∀ D, Q (.ref D) m' ((D, isList (vs.take N)) :: σ₁)))
    (hg : autoParam (env.globals = mainGlobals) Mine.dfl0._auto_1) (hk : autoParam (env.scope.kind = .function) Mine.dfl0._auto_1) (hx : autoParam (env.kindOf "_grouping_intervals" = some .globalImplicit) Mine.dfl0._auto_1)
    (he1 : autoParam (eval (.Call (.Name "_grouping_intervals" pg) [arg] [] p1) env = (do callWith p1 (← eval (.Name "_grouping_intervals" pg) env) [] (backTo p1 (starEach [arg] env)) (backToKw p1 (keywordEach [] env)))) Mine.dfl0._auto_1)
    (he2 : autoParam (starEach [arg] env = (false, eval arg env) :: starEach [] env) Mine.dfl0._auto_1)
    (he3 : autoParam (starEach [.Call (.Name "_grouping_intervals" pg) [arg] [] p1] env = (false, eval (.Call (.Name "_grouping_intervals" pg) [arg] [] p1) env) :: starEach [] env) Mine.dfl0._auto_1) :
    W X m σ (callWith p2 (.type "list") [] (backTo p2 (starEach [.Call (.Name "_grouping_intervals" pg) [arg] [] p1] env)) []) Q := fun s S => by
  refine PyProof.Rows.callWith_type1 (args_cons (Call_ (Name_function_global hk hx (loadGlobal_global (by rw [hg]; exact S.world.t.g) (mg_of S.world.k S.world.t.g (v := .ref 177) rfl) ?_) (by decide)) he1) he3) he3 rfl
  refine callWith_K (h₀ := _) S.world.k (by kernel_rfl) (h.use S fun as m' σ' s₁ S₁ q => ⟨S₁.world.k, ?_⟩) he2 rfl
  refine ex4 (q) fun gl vs N σ₁ oh => ?_; (try clear q); refine and7 oh fun oq0 oq1 hN hvs hv hend hQ => ?_; clear oh; subst oq0; subst oq1
  have S₂ : St X.C X.B X.F X.L m' (σ₁ ++ [(gl, isList vs)]) s₁ := S₁.perm (List.perm_append_singleton _ _).symm
  refine ex1 (S₂.frame) fun B' oh => ?_; refine and4 oh fun hB hkn S₃ back => ?_; clear oh
  refine gi_call (X := X.withB B') (hA.le (by first | decide | (with_reducible first | exact n0 _ | exact f5 (by assumption) | exact a3 (by assumption) (by assumption) | exact b26 (by assumption) | exact a26 (by assumption)) | (first | lia | omega))) S₃ (hkn _ _ (.inr (.head _))) hv hend fun ga g C N1 s' S' hC hCg hg1 hN1 hgen hgo => ?_
  refine args_nil ?_
  have hBN : ∀ b o, B' b = some o → b ≠ C ∧ b < N1 := fun b o e => by
    have h1 : (b : Nat) < s₁.heap.objs.size := Heap.lt_size (S₃.keep b o e)
    exact ⟨Nat.ne_of_lt (Nat.lt_of_lt_of_le h1 hC), Nat.lt_trans (Nat.lt_of_lt_of_le h1 hC) (Nat.lt_trans hCg hg1)⟩
  refine ex1 (hgo) fun gs ou0 => ?_; refine and2 (ou0) fun hgs hgo => ?_; clear ou0
  have hnone : s₁.heap.get? s'.heap.objs.size = none := get_ge_none (Nat.le_of_lt (by rw [← hN1]; exact Nat.lt_of_le_of_lt hC (Nat.lt_trans hCg hg1)))
  have hroom : X.A.depth < recursionLimit := Nat.lt_of_lt_of_le (by have := hA.dp; (first | lia | omega) : X.A.depth < 900) (by decide)
  refine call_list_gi (B := B') hA.hd (fun hh hb => (S₃.wf hh hb).t.nolimit) hroom hN1 hCg hg1 hBN hN hvs S'.keep
    ⟨hgen, gs, hgs, [C], ?_, fun s'' hb hD hsz => hgo _ s'' hb (fun o e => hD C (.head _) o e) hsz⟩ hgen.typeIs fun s'' c hr hD => ?_
  · intro q
    rw [List.mem_singleton] at q
    exact absurd (Nat.lt_trans hCg hg1) (by rw [hN1, q]; exact Nat.lt_irrefl _)
  · have S₄ := S₃.moved S' (s'' := s'') (fun b o hb e => hr.heap b o (Nat.ne_of_lt (Nat.lt_of_lt_of_le hb hC)) (Nat.lt_trans (Nat.lt_of_lt_of_le hb hC) (Nat.lt_trans hCg hg1)) e) hr.os (S'.gens.moved hr.gens)
    have S₅ := S₃.add (P := isList (vs.take N)) S₄ hnone hD ⟨c, rfl⟩
    exact ⟨m', _, (back _ _ _ S₅).sub (List.sublist_append_left _ _), hQ _⟩
end
end Mine
end
end
section
open PySem PySem.W PySem.Calls PyProof.Rows PySem.Spec
set_option Elab.async false
set_option linter.unusedVariables false
set_option maxRecDepth 100000
noncomputable section
namespace Mine

theorem St.setAll {C : Cx} {B F : PH} {L : Addr} {m : Vars} {τ τ' σ : Led} {s : Shared} (S : St C B F L m (τ ++ σ) s) (ha : τ'.map (·.1) = τ.map (·.1)) {h' : Heap} {t : Nat} {g : Array GenState} {d : Drawn} (hg : AllBare g)
    (hk : ∀ b o, b ∉ τ.map (·.1) → s.heap.get? b = some o → h'.get? b = some o) (ho : ∀ p ∈ τ', ∃ o, h'.get? p.1 = some o ∧ p.2 o) : St C B F L m (τ' ++ σ) ⟨h', g, d, t, s.os⟩ := by
  have nB : ∀ b, b ∈ τ.map (·.1) → B b = none ∧ F b = none := fun b hb => by
    obtain ⟨p, hp, rfl⟩ := List.mem_map.mp hb
    exact S.bσ p (List.mem_append_left _ hp)
  have hd := List.nodup_cons.mp S.nd
  rw [List.map_append] at hd
  refine { keep := fun b o e => hk b o (fun q => by rw [(nB b q).1] at e; cases e) (S.keep b o e), keepF := fun b o e => hk b o (fun q => by rw [(nB b q).2] at e; cases e) (S.keepF b o e),
           ns := S.ns.at' fun o e => hk _ o (fun q => hd.1 (List.mem_append_left _ q)) e, own := fun p hp => ?_, bL := S.bL, fL := S.fL, bσ := fun p hp => ?_, nd := ?_, wf := S.wf, os := S.os, gens := hg }
  · rcases List.mem_append.mp hp with hp | hp
    · exact ho p hp
    · obtain ⟨o, e, q⟩ := S.own p (List.mem_append_right _ hp)
      refine ⟨o, hk _ _ (fun q' => ?_) e, q⟩
      exact (List.nodup_append.mp hd.2).2.2 _ q' _ (mem_fst hp) rfl
  · rcases List.mem_append.mp hp with hp | hp
    · exact nB _ (ha ▸ mem_fst hp)
    · exact S.bσ p (List.mem_append_right _ hp)
  · have := S.nd
    rw [List.map_append] at this ⊢
    rw [ha]; exact this

section
variable {X : Fm}
theorem St.dropAll {C : Cx} {B F : PH} {L : Addr} {m : Vars} {τ σ : Led} {s : Shared} (S : St C B F L m (τ ++ σ) s) {h' : Heap} {t : Nat}
    (hk : ∀ b o, b ∉ τ.map (·.1) → s.heap.get? b = some o → h'.get? b = some o) : St C B F L m σ { s with heap := h', toks := t } := by
  have nB : ∀ b, b ∈ τ.map (·.1) → B b = none ∧ F b = none := fun b hb => by
    obtain ⟨p, hp, rfl⟩ := List.mem_map.mp hb
    exact S.bσ p (List.mem_append_left _ hp)
  have hd := List.nodup_cons.mp S.nd
  rw [List.map_append] at hd
  refine { keep := fun b o e => hk b o (fun q => by rw [(nB b q).1] at e; cases e) (S.keep b o e), keepF := fun b o e => hk b o (fun q => by rw [(nB b q).2] at e; cases e) (S.keepF b o e),
           ns := S.ns.at' fun o e => hk _ o (fun q => hd.1 (List.mem_append_left _ q)) e, own := fun p hp => ?_, bL := S.bL, fL := S.fL, bσ := fun p hp => S.bσ p (List.mem_append_right _ hp), nd := ?_, wf := S.wf, os := S.os, gens := S.gens }
  · obtain ⟨o, e, q⟩ := S.own p (List.mem_append_right _ hp)
    exact ⟨o, hk _ _ (fun q' => (List.nodup_append.mp hd.2).2.2 _ q' _ (mem_fst hp) rfl) e, q⟩
  · have := S.nd
    rw [List.map_append] at this
    exact (List.sublist_append_right _ _).cons_cons _ |>.nodup this

theorem iter_of_walksR {target : Expr} {I : Addr} {fp wr : List Addr} {n : Nat} {P : Nat → Value → Prop} {St₀ : Nat → Heap → Prop} {its : Nat → Led} {ρ : Led} (hA : X.A.handled = none)
    (Wk : ∀ A' : Around, A'.handled = none → Walks PW X.C.w A' I fp wr n P St₀)
    (hin : ∀ i (h : Heap), (∀ a P, Kn X.B ρ a P → ∃ o, h.get? a = some o ∧ P o) → (∀ p ∈ its i, ∃ o, h.get? p.1 = some o ∧ p.2 o) → St₀ i h)
    (hout : ∀ i (h : Heap), St₀ i h → ∀ p ∈ its i, ∃ o, h.get? p.1 = some o ∧ p.2 o) (hwr : ∀ i, ∀ b ∈ wr, b ∈ (its i).map (·.1)) (ha : ∀ i, (its (i + 1)).map (·.1) = (its i).map (·.1))
    (hgo : ∀ (A' : Around) i v (s : Shared) (Q : Unit → Shared → Prop) (E : Value → Shared → Prop), P i v → St₀ (i + 1) s.heap → Q () s → wpAny (model PW X.C.w) A' (letOwnedTupleGo target (.ref I) v) Q E s) :
    Iter X target I (fun i => its i ++ ρ) n (fun i v τ => P i v ∧ τ = []) where
  item := fun Y hC hYA hB i m σ R hi hR s S => by
    obtain ⟨C, A, B, F, L⟩ := Y
    dsimp only at hC hYA hB S ⊢
    subst hC hYA
    rw [List.append_assoc] at S
    have hB' : ∀ {σ' : Led} {s : Shared} {m : Vars}, St X.C B F L m (σ' ++ (ρ ++ σ)) s → ∀ a P, Kn X.B ρ a P → ∃ o, s.heap.get? a = some o ∧ P o := fun S a P h =>
      h.elim (fun h => let ⟨o, e, p⟩ := hB a P h; ⟨o, S.keep _ _ e, p⟩) fun h => S.own _ (List.mem_append_right _ (List.mem_append_left _ h))
    refine (Wk X.A hA).item i s _ _ hi (hin i _ (hB' S) fun p hp => S.own p (List.mem_append_left _ hp)) fun v h' tk hP hst hk => ?_
    have S' := S.setAll (τ' := its (i + 1)) (ha i) (t := tk) (d := s.drawn) S.gens (fun b o hb e => hk b o (fun q => hb (hwr i b q)) e) (hout _ _ hst)
    refine ⟨m, _, S', v, rfl, fun s₂ S₂ => ?_⟩
    refine hgo X.A i v s₂ _ _ hP (hin (i + 1) _ (hB' S₂) fun p hp => S₂.own p (List.mem_append_left _ hp)) ⟨m, _, S₂, ?_⟩
    have := hR v [] ⟨hP, rfl⟩
    rw [List.append_assoc] at this
    exact this
  self := fun Y hC hYA hB i m σ R hR s S => by
    obtain ⟨C, A, B, F, L⟩ := Y
    dsimp only at hC hYA hB S hR ⊢
    subst hC hYA
    rw [List.append_assoc] at S hR
    have hB' : ∀ a P, Kn X.B ρ a P → ∃ o, s.heap.get? a = some o ∧ P o := fun a P h =>
      h.elim (fun h => let ⟨o, e, p⟩ := hB a P h; ⟨o, S.keep _ _ e, p⟩) fun h => S.own _ (List.mem_append_right _ (List.mem_append_left _ h))
    exact (Wk X.A hA).self i s _ _ (hin i _ hB' fun p hp => S.own p (List.mem_append_left _ hp)) ⟨m, _, S, hR⟩
  done := fun Y hC hYA hB m σ R hR s S => by
    obtain ⟨C, A, B, F, L⟩ := Y
    dsimp only at hC hYA hB S ⊢
    subst hC hYA
    rw [List.append_assoc] at S
    have hB' : ∀ a P, Kn X.B ρ a P → ∃ o, s.heap.get? a = some o ∧ P o := fun a P h =>
      h.elim (fun h => let ⟨o, e, p⟩ := hB a P h; ⟨o, S.keep _ _ e, p⟩) fun h => S.own _ (List.mem_append_right _ (List.mem_append_left _ h))
    refine (Wk X.A hA).done s _ _ (hin n _ hB' fun p hp => S.own p (List.mem_append_left _ hp)) fun h' tk hk => ?_
    exact ⟨m, σ, (S.dropAll (t := tk) fun b o hb e => hk b o (fun q => hb (hwr n b q)) e).sub (List.sublist_append_right _ _), rfl, hR⟩

theorem iter_of_walks {target : Expr} {I : Addr} {fp wr : List Addr} {n : Nat} {P : Nat → Value → Prop} {St₀ : Nat → Heap → Prop} {its : Nat → Led} (hA : X.A.handled = none)
    (Wk : ∀ A' : Around, A'.handled = none → Walks PW X.C.w A' I fp wr n P St₀)
    (hin : ∀ i (h : Heap), (∀ a P, BI X.B a P → ∃ o, h.get? a = some o ∧ P o) → (∀ p ∈ its i, ∃ o, h.get? p.1 = some o ∧ p.2 o) → St₀ i h)
    (hout : ∀ i (h : Heap), St₀ i h → ∀ p ∈ its i, ∃ o, h.get? p.1 = some o ∧ p.2 o) (hwr : ∀ i, ∀ b ∈ wr, b ∈ (its i).map (·.1)) (ha : ∀ i, (its (i + 1)).map (·.1) = (its i).map (·.1))
    (hgo : ∀ (A' : Around) i v (s : Shared) (Q : Unit → Shared → Prop) (E : Value → Shared → Prop), P i v → St₀ (i + 1) s.heap → Q () s → wpAny (model PW X.C.w) A' (letOwnedTupleGo target (.ref I) v) Q E s) :
    Iter X target I its n (fun i v τ => P i v ∧ τ = []) := by
  have T := iter_of_walksR (X := X) (target := target) (I := I) (its := its) (ρ := []) hA Wk (fun i h hB ho => hin i h (fun a P q => hB a P (.inl q)) ho) hout hwr ha hgo
  simp only [List.append_nil] at T
  exact T
noncomputable def isListIter (a : Addr) (i : Nat) : HP := fun o => o.cls = .type "list_iterator" ∧ o.data = .fields #[.ref a, .int i 0]
theorem isListIter_at {h : Heap} {I a : Addr} {i : Nat} : (∃ o, h.get? I = some o ∧ isListIter a i o) ↔ h.IsListIter I a i := Iff.rfl

theorem go_plain {A' : Around} {target : Expr} {I : Addr} {v : Value} {s : Shared} {w : World} {Q : Unit → Shared → Prop} {E : Value → Shared → Prop} {o : Obj} {n : String} (ho : s.heap.get? I = some o) (hc : o.cls = .type n)
    (hn : (["enumerate", "zip", "dict_itemiterator", "dict_reverseitemiterator", "odict_iterator", "itertools.zip_longest", "itertools.pairwise"].contains n) = false) (h : Q () s) : wpAny (model PW w) A' (letOwnedTupleGo target (.ref I) v) Q E s := by
  have key : ∀ A', wpAny (model PW w) A' (match (Value.ref I, v) with
    | (Value.ref r, Value.ref a) => do
      let o ← load r
      match o.cls, o.data with
        | Value.type n, Data.fields vs =>
          if (["enumerate", "zip", "dict_itemiterator", "dict_reverseitemiterator", "odict_iterator", "itertools.zip_longest", "itertools.pairwise"].contains n && vs[0]? == some (rawInt a)) = true then do
            rule "for.unpacks-the-owned-tuple"
            updateField r 0 Value.none
          else pure ()
        | _, _ => pure ()
    | _ => pure ()) Q E s := fun A' => by
    cases v with
    | ref a =>
      dsimp only
      refine wpAny_bind (wpAny_load ho ?_)
      rw [hc]
      cases o.data with
      | fields vs =>
        dsimp only
        rw [hn, Bool.false_and, if_neg (by decide)]
        exact wpAny_pure h
      | _ => exact wpAny_pure h
    | _ => exact wpAny_pure h
  unfold letOwnedTupleGo
  cases target with
  | Tuple => exact key _
  | List => exact key _
  | _ => exact wpAny_pure h

theorem iter_list {target : Expr} {I a : Addr} {vs : List Value} (hA : X.A.handled = none) (ha : BI X.B a (isList vs)) (hne : a ≠ I) :
    Iter X target I (fun i => [(I, isListIter a i)]) vs.length (fun i v τ => vs[i]? = some v ∧ τ = []) := by
  have T := iter_of_walks (X := X) (target := target) (I := I) (its := fun i => [(I, isListIter a i)]) (P := fun i v => vs.toArray[i]? = some v) (n := vs.toArray.size) hA (fun A' hA' => Walks.list hA' I a hne vs.toArray)
    (fun i h hB ho => ⟨isListIter_at.mp (ho _ (.head _)), isList_at (hB _ _ ha)⟩) (fun i h st p hp => by rw [List.mem_singleton] at hp; subst hp; exact st.1) (fun i b hb => by simpa using hb) (fun _ => rfl)
    (fun A' i v s Q E _ st h => by obtain ⟨o, e, hc, _⟩ := st.1; exact go_plain e hc (by decide) h)
  simpa using T

noncomputable def isRangeIt (a n c : Int) : HP := fun o => o = { cls := .type "range_iterator", data := .fields #[rawInt a, rawInt n, rawInt c] }
theorem iter_range {target : Expr} {I : Addr} {a c : Int} {n : Nat} (hA : X.A.handled = none) :
    Iter X target I (fun i => [(I, isRangeIt (a + (i : Nat) * c) ((n : Int) - (i : Nat)) c)]) n (fun i v τ => (∃ t, v = .int (a + i * c) t) ∧ τ = []) :=
  iter_of_walks (X := X) (target := target) (I := I) hA (fun A' hA' => Walks.range hA' I a c n)
    (fun i h hB ho => by obtain ⟨o, e, rfl⟩ := ho _ (.head _); exact e) (fun i h st p hp => by rw [List.mem_singleton] at hp; subst hp; exact ⟨_, st, rfl⟩) (fun i b hb => by simpa using hb) (fun _ => rfl)
    (fun A' i v s Q E _ st h => go_plain st rfl (by decide) h)

variable {m : Vars} {σ : Led} {Q : Value → Vars → Led → Prop}
theorem w_iter_list {a : Addr} {vs : List Value} (ha : Kn X.B σ a (isList vs)) (h : ∀ I, I ≠ a → Q (.ref I) m ((I, isListIter a 0) :: σ)) : W X m σ (pyIter (.ref a)) Q := fun s S => by
  have L := isList_at (S.kn ha)
  obtain ⟨o, e, _⟩ := id L
  exact wpAny_pyIter_list L ⟨m, _, S.push rfl ⟨rfl, rfl⟩, h _ (Ne.symm (Nat.ne_of_lt (Heap.lt_size e)))⟩
noncomputable def isRange (a b c : Int) : HP := fun o => ∃ t u v, o = { cls := .type "range", data := .fields #[.int a t, .int b u, .int c v] }
theorem w_range1 {n : Int} {t : Tok} (h : ∀ r, Q (.ref r) m ((r, isRange 0 n 1) :: σ)) : W X m σ (call (.type "range") [.int n t]) Q := fun s S =>
  call_range_1 ⟨m, _, (S.push (P := isRange 0 n 1) rfl ⟨_, _, _, rfl⟩).toks, h _⟩
theorem w_range2 {a b : Int} {t u : Tok} (h : ∀ r, Q (.ref r) m ((r, isRange a b 1) :: σ)) : W X m σ (call (.type "range") [.int a t, .int b u]) Q := fun s S =>
  call_range_2 ⟨m, _, (S.push (P := isRange a b 1) rfl ⟨_, _, _, rfl⟩).toks, h _⟩
theorem w_iter_range {r : Addr} {a b : Int} {k : Nat} (hr : Kn X.B σ r (isRange a b 1)) (h0 : 0 ≤ a) (h1 : b < 2 ^ 62) (hk : b - a = k) (h : ∀ I, Q (.ref I) m ((I, isRangeIt (a + ((0 : Nat) : Int) * 1) ((k : Int) - ((0 : Nat) : Int)) 1) :: σ)) : W X m σ (pyIter (.ref r)) Q := fun s S => by
  obtain ⟨_, e, t, u, v, rfl⟩ := S.kn hr
  refine wpAny_pyIter_range (a := a) (b := b) (c := 1) (t := t) (u := u) (v := v) e (small_one (by first | decide | (with_reducible first | exact n0 _ | exact f5 (by assumption) | exact a3 (by assumption) (by assumption) | exact b26 (by assumption) | exact a26 (by assumption)) | (first | lia | omega)) (by first | decide | (with_reducible first | exact n0 _ | exact f5 (by assumption) | exact a3 (by assumption) (by assumption) | exact b26 (by assumption) | exact a26 (by assumption)) | (first | lia | omega)) (by first | decide | (with_reducible first | exact n0 _ | exact f5 (by assumption) | exact a3 (by assumption) (by assumption) | exact b26 (by assumption) | exact a26 (by assumption)) | (first | lia | omega)) (by first | decide | (with_reducible first | exact n0 _ | exact f5 (by assumption) | exact a3 (by assumption) (by assumption) | exact b26 (by assumption) | exact a26 (by assumption)) | (first | lia | omega))) ⟨m, _, S.push (P := isRangeIt (a + ((0 : Nat) : Int) * 1) ((k : Int) - ((0 : Nat) : Int)) 1) rfl ?_, h _⟩
  unfold isRangeIt
  rw [rangeSize_one]
  have : (if a < b then b - a else 0) = (k : Int) := by split <;> (first | lia | omega)
  rw [this]
  simp
end
end Mine
end
end
section
open PySem PySem.W PySem.Calls PyProof.Rows PySem.Spec
set_option Elab.async false
set_option linter.unusedVariables false
set_option maxRecDepth 100000
noncomputable section
namespace Mine
noncomputable def isCell0 : HP := fun o => o.data = .cell none
noncomputable abbrev cellsOf (scope : Scope) (L : Addr) : List (Str × Addr) := cellsFrom (L + 1) scope.names []
noncomputable def fullCells (scope : Scope) (binds : List (Str × Value)) (L : Addr) : List (Addr × Value) := (cellsOf scope L).filterMap fun x => (bindC (fun n => scope.names.lookup n) binds (fun _ => none) x.1).map fun v => (x.2, v)
noncomputable def freeCells (scope : Scope) (binds : List (Str × Value)) (L : Addr) : List Addr := (cellsOf scope L).filterMap fun x => if (bindC (fun n => scope.names.lookup n) binds (fun _ => none) x.1).isNone then some x.2 else none

theorem filterMap_split {α β γ : Type} (l : List α) (f : α → Option β) (g : α → γ) (fb : β → γ) (h1 : ∀ x b, f x = some b → g x = fb b) :
    (l.map g).Perm ((l.filterMap fun x => if (f x).isNone then some (g x) else none) ++ (l.filterMap f).map fb) := by
  induction l with
  | nil => exact .nil
  | cons a l ih =>
    rw [List.map_cons, List.filterMap_cons, List.filterMap_cons]
    cases e : f a with
    | none => simp only [Option.isNone_none, if_true]; exact ih.cons _
    | some b =>
      simp only [Option.isNone_some, Bool.false_eq_true, if_false, List.map_cons]
      rw [h1 a b e]
      exact (ih.cons _).trans List.perm_middle.symm

theorem cellsFrom_names : ∀ (names : List (Str × NameKind)) (n k : Nat) (acc acc' : List (Str × Addr)), acc.map (·.1) = acc'.map (·.1) → (cellsFrom n names acc).map (·.1) = (cellsFrom k names acc').map (·.1)
  | [], _, _, _, _, h => h
  | (nm, kd) :: r, n, k, acc, acc', h => by
    unfold cellsFrom
    split
    · exact cellsFrom_names r _ _ _ _ (by simp [h])
    · exact cellsFrom_names r _ _ _ _ h
theorem lookup_of_nodup : ∀ {l : List (Str × Addr)} {nm : Str} {c : Addr}, (l.map (·.1)).Nodup → (nm, c) ∈ l → l.lookup nm = some c
  | (k, v) :: r, nm, c, hd, hm => by
    rw [List.map_cons] at hd
    have hd := List.nodup_cons.mp hd
    rw [List.lookup_cons]
    rcases List.mem_cons.mp hm with e | hm'
    · cases e; simp
    · have hm := hm'
      have : (nm == k) = false := by
        rw [beq_eq_false_iff_ne]
        intro q
        exact hd.1 (List.mem_map.mpr ⟨(nm, c), hm', q⟩)
      rw [this]
      exact lookup_of_nodup hd.2 hm

section
variable {X : Fm} {m : Vars} {Q : Value → Vars → Led → Prop}
theorem wk_defC {σ₁ σ₂ : Led} {f : Addr} {pos : List Value} {name qual : Str} {params : Arguments} {body : List Stmt} {scope : Scope}
    {dV kV doc pm cdv ct oc : Value} {an od : Option Addr} {osl : Array (Option Value)} {binds : List (Str × Value)} {n : Nat}
    (ho : (KK X.C.w).lookup f = some ⟨oc, od, .func (fnX name qual params body scope [] dV kV doc pm an cdv ct), osl⟩) (hcd : codeIn (KK X.C.w) cdv qual = true)
    (hA : Ok (n + 1) X.A) (hbind : bindArgs (fnX name qual params body scope [] dV kV doc pm an cdv ct) ⟨pos, []⟩ = pure binds)
    (hloc : (binds.all fun x => scope.names.lookup x.1 == some .local || scope.names.lookup x.1 == some .cell) = true) (hnm : ((cellsFrom 0 scope.names []).map (·.1)).Nodup)
    (hlk : ∀ L, binds.all (fun x => scope.names.lookup x.1 == some .local || ((cellsOf scope L).lookup x.1).isSome) = true)
    (h : ∀ X' : Fm, X'.C = X.C → (∀ a P, Kn X.B σ₂ a P → BI X'.B a P) → (∀ p ∈ fullCells scope binds X'.L, BI X'.B p.1 (isCell p.2)) → Ok n X'.A → X'.A = X.A.deeper (envX qual scope X'.L f cdv (cellsOf scope X'.L)) →
      W X' (bindL (fun n => scope.names.lookup n) binds (fun _ => none)) ((freeCells scope binds X'.L).map (fun c => (c, isCell0)) ++ σ₁) (execs body (envX qual scope X'.L f cdv (cellsOf scope X'.L))) (fun fl _ σ' => Q (match fl with | .ret v => v | _ => .none) m (σ' ++ σ₂)))
    (hco : autoParam (scope.isCoroutine = false) Mine.dfl0._auto_1) (hgen : autoParam (scope.isGenerator = false) Mine.dfl0._auto_1) (hk : autoParam (scope.kind = .function) Mine.dfl0._auto_1) :
    WK X m (σ₁ ++ σ₂) (.call (.ref f) ⟨pos, []⟩) Q := fun s S => by
  refine codeAny_call_cells (fd := fnX name qual params body scope [] dV kV doc pm an cdv ct) (body := body) (binds := binds) (Nat.lt_of_lt_of_le (by have := hA.dp; omega : X.A.depth < 900) (by decide)) (S.world.k _ _ ho) rfl S.world.t.nolimit (codeRec_of S.world.k hcd) rfl
    hbind rfl (fun x hx => ?_) (fun s₁ x => ?_) hco hgen hk
  · have h1 := List.all_eq_true.mp hloc x hx
    have h2 := List.all_eq_true.mp (hlk s.heap.objs.size) x hx
    simp only [Bool.or_eq_true, beq_iff_eq, Bool.and_eq_true] at h1 h2
    rcases h1 with h1 | h1
    · exact .inl h1
    · rcases h2 with h2 | h2
      · exact .inl h2
      · exact .inr ⟨h1, h2⟩
  · refine ex2 (x.toInCall.same) fun h' tk oq2 => ?_; subst oq2
    have hns := x.toInCall.ns
    refine ex1 (S.hideL (get_size_none _) hns x.toInCall.keep (t := tk)) fun F' oh => ?_; refine and4 oh fun hF hsubF S₁ back2 => ?_; clear oh
    have hsl : ∀ nm c, (nm, c) ∈ cellsOf scope s.heap.objs.size → s.heap.get? c = none := fun nm c hm => get_ge_none (Nat.le_of_lt (x.above nm c hm))
    let cm := bindC (fun n => scope.names.lookup n) binds (fun _ => none)
    let τ : Led := (cellsOf scope s.heap.objs.size).map fun p => (p.2, fun o => o.data = .cell (cm p.1))
    have hap := x.apart
    have S₂ : St X.C X.B F' s.heap.objs.size _ (τ ++ (σ₁ ++ σ₂)) { s with heap := h', toks := tk } := S₁.addAll τ (fun p hp => by
        refine ex1 (List.mem_map.mp hp) fun oq0 oh => ?_; refine and2 (oh) fun hm oq2 => ?_; clear oh; obtain ⟨nm, c⟩ := oq0; subst oq2
        refine x.cell nm c (lookup_of_nodup ?_ hm)
        show ((cellsFrom _ scope.names []).map (·.1)).Nodup
        rw [cellsFrom_names scope.names _ 0 [] [] rfl]; exact hnm) (by
        show (List.map _ (List.map _ _)).Nodup
        rw [List.map_map]
        exact List.pairwise_map.mpr hap) (fun p hp => by
        refine ex1 (List.mem_map.mp hp) fun oq0 oh => ?_; refine and2 (oh) fun hm oq2 => ?_; clear oh; obtain ⟨nm, c⟩ := oq0; subst oq2
        have hn := hsl nm c hm
        exact ⟨none_of S.keep hn, none_of hsubF hn, Nat.ne_of_gt (x.above nm c hm), fun q => by
          refine ex1 (List.mem_map.mp q) fun p' oh => ?_; refine and2 (oh) fun hp' e => ?_; clear oh
          refine ex1 (S.own p' hp') fun o oh => ?_; refine and2 (oh) fun e' _ => ?_; clear oh
          have e : p'.1 = c := e
          rw [e, hn] at e'; cases e'⟩)
    have hτ : τ.Perm ((freeCells scope binds s.heap.objs.size).map (fun c => (c, isCell0)) ++ (fullCells scope binds s.heap.objs.size).map (fun p => (p.1, isCell p.2))) := by
      have hp := filterMap_split (cellsOf scope s.heap.objs.size) (fun x => (cm x.1).map fun v => (x.2, v)) (fun x => ((x.2, fun o => o.data = .cell (cm x.1)) : Addr × HP)) (fun p => (p.1, isCell p.2)) (fun x b e => by
        cases e' : cm x.1 with
        | none => rw [e'] at e; cases e
        | some v => rw [e'] at e; cases e; rfl)
      refine hp.trans (List.Perm.of_eq ?_)
      congr 1
      rw [freeCells, List.map_filterMap]
      congr 1
      funext x
      show _ = Option.map _ (if (cm x.1).isNone = true then some x.2 else none)
      cases e' : cm x.1 with
      | none => simp only [Option.map_none, Option.isNone_none, if_true, Option.map_some]; rfl
      | some v => rfl
    have S₃ := S₂.perm (σ' := ((freeCells scope binds s.heap.objs.size).map (fun c => (c, isCell0)) ++ σ₁) ++ ((fullCells scope binds s.heap.objs.size).map (fun p => (p.1, isCell p.2)) ++ σ₂)) (by
      refine (hτ.append_right _).trans ?_
      rw [List.append_assoc, List.append_assoc, ← List.append_assoc _ σ₁ σ₂, ← List.append_assoc σ₁ _ σ₂]
      exact List.Perm.append_left _ (List.Perm.append_right _ List.perm_append_comm))
    refine ex1 (S₃.frame) fun B' oh => ?_; refine and4 oh fun hB hkn S₄ back => ?_; clear oh
    have ok : Ok n (X.A.deeper (envX qual scope s.heap.objs.size f cdv (cellsOf scope s.heap.objs.size))) := ⟨hA.hd, by have := hA.dp; show X.A.depth + 1 + n ≤ 900; omega, by have := hA.un; show X.A.units + 3 + 20 * n ≤ 9000; omega, by
      have := hA.fr
      show (X.A.frames.map _).isSome = true
      rw [Option.isSome_map]; exact this⟩
    refine (h ⟨X.C, X.A.deeper (envX qual scope s.heap.objs.size f cdv (cellsOf scope s.heap.objs.size)), B', F', s.heap.objs.size⟩ rfl (fun a P k => hkn a P (k.elim .inl fun q => .inr (List.mem_append_right _ q)))
      (fun p hp => hkn _ _ (.inr (List.mem_append_left _ (List.mem_map.mpr ⟨p, hp, rfl⟩)))) ok rfl).use S₄ fun fl m' σ' s' S' q => ⟨m, _, (back2 _ _ _ (back _ _ _ S')).sub ?_, q⟩
    exact List.Sublist.append_left (List.sublist_append_right _ _) _
end
end Mine
end
end
section
open PySem PySem.W PySem.Calls PyProof.Rows PySem.Spec
set_option Elab.async false
set_option linter.unusedVariables false
set_option maxRecDepth 100000
noncomputable section
namespace Mine
theorem St.come {C : Cx} {B F : PH} {L : Addr} {m : Vars} {σ σ' : Led} {s s' : Shared} (S : St C B F L m σ s) (S' : St C B F L m σ' s') (hs : σ'.map (·.1) = σ.map (·.1)) {a : Addr} {o : Obj} {P : HP} (hn : s.heap.get? a = none) (ha : s'.heap.get? a = some o) (hp : P o) : St C B F L m ((a, P) :: σ') s' :=
  S'.addAll [(a, P)] (fun p hp' => by rw [List.mem_singleton] at hp'; subst hp'; exact ⟨o, ha, hp⟩) (by simp) fun p hp' => by
    rw [List.mem_singleton] at hp'; subst hp'
    refine ⟨none_of S.keep hn, none_of S.keepF hn, fun q => ?_, fun q => ?_⟩
    · obtain ⟨o', _, _, e, _⟩ := S.ns
      rw [← (show a = L from q), hn] at e; cases e
    · rw [hs] at q
      obtain ⟨p', hp', e⟩ := List.mem_map.mp q
      obtain ⟨o', e', _⟩ := S.own p' hp'
      rw [e, hn] at e'; cases e'

noncomputable def isZipF (f0 : Value) (TI TO : Addr) : HP := fun o => o = { cls := .type "zip", dict := none, data := .fields #[f0, .bool false, .bool false, .ref TI, .ref TO], slots := #[] }
noncomputable def isPairO (a b : Value) : HP := fun o => o = { cls := .type "tuple", data := .seq #[a, b] }
noncomputable def isPairX : HP := fun o => ∃ a b, o = { cls := .type "tuple", data := .seq #[a, b] }
noncomputable def zipIts (f0 : Value) (z TI TO i1 i2 l1 l2 : Addr) (k : Nat) : Led := [(z, isZipF f0 TI TO), (TI, isPairO (.ref i1) (.ref i2)), (TO, isPairX), (i1, isListIter l1 k), (i2, isListIter l2 k)]

section
variable {X : Fm} {m : Vars} {σ : Led}
theorem w_store_cell {env : Env} {x : Str} {v : Value} {c : Addr} {P : HP} {Q : Unit → Vars → Led → Prop} (hP : ∀ o, P o → ∃ v0, o.data = .cell v0) (h : Q () m ((c, isCell v) :: σ)) (hc : autoParam (env.cells.lookup x = some c) Mine.dfl0._auto_1)
    (hk : autoParam (env.scope.kind = .function) Mine.dfl0._auto_1) (hl : autoParam (env.kindOf x = some .cell) Mine.dfl0._auto_1) : W X m ((c, P) :: σ) (storeName env x v) Q := fun s S => by
  obtain ⟨o, e, p⟩ := S.own _ (.head _)
  obtain ⟨v0, hd⟩ := hP o p
  refine wpAny_storeName_cell hk hl hc ⟨o, e, hd⟩ fun h' hc' hs' => ?_
  obtain ⟨o', e', hd'⟩ := hc'
  exact ⟨m, _, S.set0 (P' := isCell v) (t := s.toks) e' hd' hs', h⟩
theorem w_store_cellK {env : Env} {x : Str} {v : Value} {c : Addr} {P : HP} {Q0 Q : Flow → Vars → Led → Prop} (k : ∀ a m' σ', Q0 a m' σ' → Q a m' σ') (hP : ∀ o, P o → ∃ v0, o.data = .cell v0) (h : Q0 .next m ((c, isCell v) :: σ)) (hc : autoParam (env.cells.lookup x = some c) Mine.dfl0._auto_1)
    (hk : autoParam (env.scope.kind = .function) Mine.dfl0._auto_1) (hl : autoParam (env.kindOf x = some .cell) Mine.dfl0._auto_1) : W X m ((c, P) :: σ) (storeName env x v) (fun _ => Q .next) := w_store_cell hP (k _ _ _ h) hc hk hl
theorem cell0_is : ∀ o, isCell0 o → ∃ v0, o.data = .cell v0 := fun o h => ⟨_, h⟩
theorem cell_is {v : Value} : ∀ o, isCell v o → ∃ v0, o.data = .cell v0 := fun o h => ⟨_, h⟩

end
end Mine
end
end
section
open PySem PySem.W PySem.Calls PyProof.Rows PySem.Spec
set_option Elab.async false
set_option linter.unusedVariables false
set_option maxRecDepth 100000
noncomputable section
namespace Mine
theorem St.comeAll {C : Cx} {B F : PH} {L : Addr} {m : Vars} {σ : Led} {s s' : Shared} (S : St C B F L m σ s) (S' : St C B F L m σ s') (τ : Led) (hn : ∀ p ∈ τ, s.heap.get? p.1 = none) (hd : (τ.map (·.1)).Nodup) (ho : ∀ p ∈ τ, ∃ o, s'.heap.get? p.1 = some o ∧ p.2 o) :
    St C B F L m (τ ++ σ) s' :=
  S'.addAll τ ho hd fun p hp => by
    have hn := hn p hp
    refine ⟨none_of S.keep hn, none_of S.keepF hn, fun q => ?_, fun q => ?_⟩
    · obtain ⟨o', _, _, e, _⟩ := S.ns
      rw [← q, hn] at e; cases e
    · obtain ⟨p', hp', e⟩ := List.mem_map.mp q
      obtain ⟨o', e', _⟩ := S.own p' hp'
      rw [e, hn] at e'; cases e'
section
variable {X : Fm} {m : Vars} {σ : Led}
theorem w_zip {l1 l2 : Addr} {xs ys : List Value} {Q : Value → Vars → Led → Prop} (h1 : Kn X.B σ l1 (isList xs)) (h2 : Kn X.B σ l2 (isList ys)) (h : ∀ z TI TO i1 i2, Q (.ref z) m (zipIts .none z TI TO i1 i2 l1 l2 0 ++ σ)) :
    W X m σ (call (.type "zip") [.ref l1, .ref l2]) Q := fun s S => by
  refine call_zip_2 (isList_at (S.kn h1)) (isList_at (S.kn h2)) fun h' a1 a2 a3 a4 a5 a6 a7 => ?_
  have S' := S.grow (h' := h') (t := s.toks) (g := s.gens) (d := s.drawn) a7 S.gens
  refine ⟨m, _, S.comeAll S' (zipIts .none (s.heap.objs.size + 4) (s.heap.objs.size + 2) (s.heap.objs.size + 3) s.heap.objs.size (s.heap.objs.size + 1) l1 l2 0) (fun p hp => ?_) ?_ (fun p hp => ?_), h _ _ _ _ _⟩
  · refine get_ge_none ?_
    simp only [zipIts, List.mem_cons, List.not_mem_nil, or_false] at hp
    rcases hp with rfl | rfl | rfl | rfl | rfl <;> (dsimp only; (first | lia | omega))
  · generalize (s.heap.objs.size : Nat) = N
    have key : ∀ N : Nat, ([N + 4, N + 2, N + 3, N, N + 1] : List Nat).Nodup := fun N => by
      simp only [List.nodup_cons, List.mem_cons, List.not_mem_nil, or_false, not_or, not_false_eq_true, List.nodup_nil, and_true]
      refine ⟨⟨?_, ?_, ?_, ?_⟩, ⟨?_, ?_, ?_⟩, ⟨?_, ?_⟩, ?_⟩ <;> (first | lia | omega)
    exact key N
  · simp only [zipIts, List.mem_cons, List.not_mem_nil, or_false] at hp
    rcases hp with rfl | rfl | rfl | rfl | rfl
    · exact ⟨_, a1, rfl⟩
    · exact ⟨_, a2, rfl⟩
    · exact ⟨_, a3, _, _, rfl⟩
    · exact a4
    · exact a5
theorem w_iter_zip {z TI TO i1 i2 l1 l2 : Addr} {k : Nat} {Q : Value → Vars → Led → Prop} (h : Q (.ref z) m (zipIts .none z TI TO i1 i2 l1 l2 k ++ σ)) : W X m (zipIts .none z TI TO i1 i2 l1 l2 k ++ σ) (pyIter (.ref z)) Q := fun s S => by
  obtain ⟨_, ez, rfl⟩ := S.own _ (.head _)
  exact wpAny_pyIter_zip ez ⟨m, _, S, h⟩
theorem w_setItem_list {a : Addr} {vs : List Value} {k : Int} {t : Tok} {v : Value} {Q : Unit → Vars → Led → Prop} (h0 : 0 ≤ k) (hfit : k < 2 ^ 63) (hk : k.toNat < vs.length) (hsz : vs.length ≤ sizeLine) (h : Q () m ((a, isList (vs.set k.toNat v)) :: σ)) :
    W X m ((a, isList vs) :: σ) (setItem (.ref a) (.int k t) v) Q := fun s S => by
  obtain ⟨_, ho, n, rfl⟩ := S.own _ (.head _)
  have hT : s.TypeIs (.ref a) "list" := ⟨_, ho, rfl⟩
  unfold setItem
  try with_reducible refine wpAny_holding ?_
  first | refine wpAny_bind (wpAny_pure ?_) | skip
  refine wpAny_bind (wpAny_sequenceKey hT (by decide) ?_)
  refine wpAny_bind (wpAny_callSpecial?_slot (name := Str.ofString "__setitem__") hT slot_list_setitem
    (wpAny_call_entry slot_list_setitem hT entry_list_setitem ?_ (args_list_setitem _ _ _)))
  show wpAny _ _ (Builtin.List.listSubscript? (.int k t) >>= _) _ _ s
  refine wpAny_bind (wpAny_listSubscript_int (fitsIndex_of h0 hfit) ?_)
  clear hfit
  obtain ⟨j, rfl⟩ := Int.eq_ofNat_of_zero_le h0
  have hj : j < vs.toArray.size := by simpa using hk
  have hx' : vs.toArray[j]? = some vs.toArray[j] := Array.getElem?_eq_getElem hj
  show wpAny _ _ ((seqItemAt a j >>= fun r => pure (r.map (j, ·))) >>= _) _ _ s
  refine wpAny_bind (wpAny_bind (wpAny_seqItemAt ho rfl (wpAny_pure ?_)))
  rw [hx']
  show wpAny _ _ (setSeqItemAt a j v >>= _) _ _ s
  obtain ⟨n', hn'⟩ := mapSeq_is (.type "list") none vs.toArray n (·.setIfInBounds j v)
  have fin : ∃ m' σ', St X.C X.B X.F X.L m' σ' { s with heap := s.heap.update a (Obj.mapSeq (·.setIfInBounds j v)) } ∧ Q () m' σ' := ⟨m, _, S.set0 (P' := isList (vs.set j v)) (t := s.toks) (Heap.get?_update_self _ ho (by rw [hn']; rfl)) ⟨n', by rw [hn']; simp⟩ (Heap.SameBut.update ..), h⟩
  refine wpAny_bind (wpAny_setSeqItemAt ho rfl ?_)
  first
    | exact wpAny_bind (wpAny_pure (wpAny_pure ⟨.none, rfl, wpAny_pure fin⟩))
    | exact wpAny_pure ⟨.none, rfl, wpAny_pure fin⟩
end

inductive IntsOf : List Value → List Int → Prop where
  | nil : IntsOf [] []
  | cons {v : Value} {n : Int} {vs : List Value} {ns : List Int} (h : ∃ t, v = .int n t) (t : IntsOf vs ns) : IntsOf (v :: vs) (n :: ns)
theorem IntsOf.len {vs : List Value} {ns : List Int} (h : IntsOf vs ns) : vs.length = ns.length := by
  induction h with
  | nil => rfl
  | cons _ _ ih => simp [ih]
theorem IntsOf.get {vs : List Value} {ns : List Int} (h : IntsOf vs ns) {i : Nat} {n : Int} (hn : ns[i]? = some n) : ∃ t, vs[i]? = some (.int n t) := by
  induction h generalizing i with
  | nil => simp at hn
  | cons hd _ ih =>
    cases i with
    | zero => obtain ⟨t, rfl⟩ := hd; simp at hn; subst hn; exact ⟨t, rfl⟩
    | succ i => exact ih (by simpa using hn)
theorem IntsOf.set {vs : List Value} {ns : List Int} (h : IntsOf vs ns) (i : Nat) (n : Int) (t : Tok) : IntsOf (vs.set i (.int n t)) (ns.set i n) := by
  induction h generalizing i with
  | nil => exact .nil
  | cons hd tl ih =>
    cases i with
    | zero => exact .cons ⟨t, rfl⟩ tl
    | succ i => exact .cons hd (ih i)
theorem IntsOf.append {vs ws : List Value} {ns ms : List Int} (h : IntsOf vs ns) (h' : IntsOf ws ms) : IntsOf (vs ++ ws) (ns ++ ms) := by
  induction h with
  | nil => exact h'
  | cons hd _ ih => exact .cons hd ih
theorem IntsOf.snoc {vs : List Value} {ns : List Int} (h : IntsOf vs ns) (n : Int) (t : Tok) : IntsOf (vs ++ [.int n t]) (ns ++ [n]) := h.append (.cons ⟨t, rfl⟩ .nil)
theorem IntsOf.take {vs : List Value} {ns : List Int} (h : IntsOf vs ns) (k : Nat) : IntsOf (vs.take k) (ns.take k) := by
  induction h generalizing k with
  | nil => simp; exact .nil
  | cons hd _ ih => cases k with
    | zero => exact .nil
    | succ k => exact .cons hd (ih k)
theorem IntsOf.drop {vs : List Value} {ns : List Int} (h : IntsOf vs ns) (k : Nat) : IntsOf (vs.drop k) (ns.drop k) := by
  induction h generalizing k with
  | nil => simp; exact .nil
  | cons hd tl ih => cases k with
    | zero => exact .cons hd tl
    | succ k => exact ih k
end Mine
end
end
section
open PySem PySem.W PySem.Calls PyProof.Rows PySem.Spec
set_option Elab.async false
set_option linter.unusedVariables false
set_option maxRecDepth 100000
noncomputable section
namespace Mine
section
variable {X : Fm}
theorem iter_listR {target : Expr} {I a : Addr} {vs : List Value} {ρ : Led} (hA : X.A.handled = none) (ha : Kn X.B ρ a (isList vs)) (hne : a ≠ I) :
    Iter X target I (fun i => [(I, isListIter a i)] ++ ρ) vs.length (fun i v τ => vs[i]? = some v ∧ τ = []) := by
  have T := iter_of_walksR (X := X) (target := target) (I := I) (ρ := ρ) (its := fun i => [(I, isListIter a i)]) (P := fun i v => vs.toArray[i]? = some v) (n := vs.toArray.size) hA (fun A' hA' => Walks.list hA' I a hne vs.toArray)
    (fun i h hB ho => ⟨isListIter_at.mp (ho _ (.head _)), isList_at (hB _ _ ha)⟩) (fun i h st p hp => by rw [List.mem_singleton] at hp; subst hp; exact st.1) (fun i b hb => by simpa using hb) (fun _ => rfl)
    (fun A' i v s Q E _ st h => by obtain ⟨o, e, hc, _⟩ := st.1; exact go_plain e hc (by decide) h)
  simpa using T

theorem zip_apartR {m : Vars} {C : Cx} {B F : PH} {L : Addr} {s : Shared} {f0 : Value} {z TI TO i1 i2 l1 l2 : Addr} {k : Nat} {xs ys : List Value} {ρ σ : Led} (S : St C B F L m (zipIts f0 z TI TO i1 i2 l1 l2 k ++ (ρ ++ σ)) s) (h1 : Kn B ρ l1 (isList xs)) (h2 : Kn B ρ l2 (isList ys)) : ZipApart z TI TO i1 i2 l1 l2 := by
  have hd := (List.nodup_cons.mp S.nd).2
  have nB : ∀ {l : Addr} {P : HP} {p : Addr × HP}, Kn B ρ l P → p ∈ zipIts f0 z TI TO i1 i2 l1 l2 k → l ≠ p.1 := fun {l P p} h hp q => by
    rcases h with ⟨o, e, _⟩ | h
    · have := (S.bσ p (List.mem_append_left _ hp)).1
      rw [← q, e] at this; cases this
    · rw [List.map_append] at hd
      exact (List.nodup_append.mp hd).2.2 _ (mem_fst hp) _ (mem_fst (p := (l, P)) (List.mem_append_left _ h)) q.symm
  simp only [zipIts, List.cons_append, List.nil_append, List.map_cons] at hd
  refine and2 (List.nodup_cons.mp hd) fun a1 hd => ?_
  refine and2 (List.nodup_cons.mp hd) fun a2 hd => ?_
  refine and2 (List.nodup_cons.mp hd) fun a3 hd => ?_
  refine and2 (List.nodup_cons.mp hd) fun a4 hd => ?_
  simp only [List.mem_cons, not_or] at a1 a2 a3 a4
  exact { TIz := Ne.symm a1.1, TOz := Ne.symm a1.2.1, i1z := Ne.symm a1.2.2.1, i2z := Ne.symm a1.2.2.2.1, TITO := a2.1, TIi1 := a2.2.1, TIi2 := a2.2.2.1, TOi1 := a3.1, TOi2 := a3.2.1, i12 := a4.1,
          l1z := nB h1 (.head _), l1TO := nB h1 (.tail _ (.tail _ (.head _))), l1i1 := nB h1 (.tail _ (.tail _ (.tail _ (.head _)))), l1i2 := nB h1 (.tail _ (.tail _ (.tail _ (.tail _ (.head _))))),
          l2z := nB h2 (.head _), l2TO := nB h2 (.tail _ (.tail _ (.head _))), l2i1 := nB h2 (.tail _ (.tail _ (.tail _ (.head _)))), l2i2 := nB h2 (.tail _ (.tail _ (.tail _ (.tail _ (.head _))))) }

theorem iter_zipR {elts : List Expr} {x1 : Nat} {pos : Pos} {z TI TO i1 i2 l1 l2 : Addr} {xs ys : List Value} {ρ : Led} (hA : X.A.handled = none) (h1 : Kn X.B ρ l1 (isList xs)) (h2 : Kn X.B ρ l2 (isList ys)) (hlen : xs.length = ys.length) :
    Iter X (.Tuple elts x1 pos) z (fun i => zipIts .none z TI TO i1 i2 l1 l2 i ++ ρ) xs.length (fun i v τ => ∃ T x y, v = .ref T ∧ xs[i]? = some x ∧ ys[i]? = some y ∧ τ = [(T, isTup [x, y])]) where
  item := fun Y hC hYA hB i m σ R hi hR s S => by
    obtain ⟨C, A, B, F, L⟩ := Y
    dsimp only at hC hYA hB S ⊢
    subst hC hYA
    rw [List.append_assoc] at S
    have up : ∀ {a : Addr} {P : HP}, Kn X.B ρ a P → Kn B ρ a P := fun h => h.elim (fun h => .inl (hB _ _ h)) .inr
    have D := zip_apartR S (up h1) (up h2)
    have up2 : ∀ {a : Addr} {P : HP}, Kn X.B ρ a P → Kn B (zipIts .none z TI TO i1 i2 l1 l2 i ++ (ρ ++ σ)) a P := fun h => h.elim (fun h => .inl (hB _ _ h)) fun h => .inr (List.mem_append_right _ (List.mem_append_left _ h))
    refine ex1 (S.own _ (.head _)) fun _ oh => ?_; refine and2 (oh) fun ez oq2 => ?_; clear oh; subst oq2
    refine ex1 (S.own _ (.tail _ (.head _))) fun _ oh => ?_; refine and2 (oh) fun eTI oq2 => ?_; clear oh; subst oq2
    obtain ⟨_, eTO, a, b, rfl⟩ := S.own _ (.tail _ (.tail _ (.head _)))
    have e1 := S.own _ (.tail _ (.tail _ (.tail _ (.head _))))
    have e2 := S.own _ (.tail _ (.tail _ (.tail _ (.tail _ (.head _)))))
    have L1 := isList_at (S.kn (up2 h1))
    have L2 := isList_at (S.kn (up2 h2))
    refine ex1 (show ∃ x, xs[i]? = some x from ⟨_, List.getElem?_eq_getElem hi⟩) fun x hx => ?_
    refine ex1 (show ∃ y, ys[i]? = some y from ⟨_, List.getElem?_eq_getElem (hlen ▸ hi)⟩) fun y hy => ?_
    refine wpAny_pyNext_zip_item D ez eTI eTO (isListIter_at.mp e1) (isListIter_at.mp e2) L1 L2 (x := x) (y := y) (by simpa using hx) (by simpa using hy) fun h' a1 a2 a3 a4 a5 a6 a7 => ?_
    have hTI' : h'.get? TI = some { cls := .type "tuple", data := .seq #[.ref i1, .ref i2] } := a7 _ _ D.TIz D.TITO D.TIi1 D.TIi2 eTI
    have S' := S.setAll (τ' := zipIts (rawInt s.heap.objs.size) z TI TO i1 i2 l1 l2 (i + 1)) rfl (h' := h') (t := s.toks) (d := s.drawn) S.gens (fun b o hb e => a7 b o (fun q => hb (by rw [q]; exact .head _)) (fun q => hb (by rw [q]; exact .tail _ (.tail _ (.head _))))
      (fun q => hb (by rw [q]; exact .tail _ (.tail _ (.tail _ (.head _))))) (fun q => hb (by rw [q]; exact .tail _ (.tail _ (.tail _ (.tail _ (.head _)))))) e) (fun p hp => by
        simp only [zipIts, List.mem_cons, List.not_mem_nil, or_false] at hp
        rcases hp with rfl | rfl | rfl | rfl | rfl
        · exact ⟨_, a1, rfl⟩
        · exact ⟨_, hTI', rfl⟩
        · exact ⟨_, a2, _, _, rfl⟩
        · exact a3
        · exact a4)
    have S₂ := S.come S' (P := isTup [x, y]) (by simp only [zipIts, List.map_append, List.map_cons, List.map_nil]) (get_size_none s.heap) a5 ⟨0, rfl⟩
    have S₃ := S₂.perm (σ' := zipIts (rawInt s.heap.objs.size) z TI TO i1 i2 l1 l2 (i + 1) ++ (ρ ++ ((s.heap.objs.size, isTup [x, y]) :: σ))) (by
      refine List.perm_middle.symm.trans (List.Perm.append_left _ ?_)
      exact List.perm_middle.symm)
    refine ⟨m, _, S₃, _, rfl, fun s₂ T₂ => ?_⟩
    refine ex1 (T₂.own (z, isZipF (rawInt s.heap.objs.size) TI TO) (.head _)) fun _ oh => ?_; refine and2 (oh) fun ez2 oq2 => ?_; clear oh; subst oq2
    refine wpAny_letOwnedTupleGo_zip ez2 fun h₃ hz₃ hs₃ => ?_
    have hq := hR (.ref s.heap.objs.size) [(s.heap.objs.size, isTup [x, y])] ⟨_, x, y, rfl, hx, hy, rfl⟩
    rw [List.append_assoc] at hq
    exact ⟨m, _, T₂.set0 (P' := isZipF .none TI TO) (t := s₂.toks) hz₃ rfl hs₃, hq⟩
  self := fun Y hC hYA hB i m σ R hR s S => by
    obtain ⟨C, A, B, F, L⟩ := Y
    dsimp only at hC hYA hB S hR ⊢
    subst hC hYA
    rw [List.append_assoc] at S hR
    refine ex1 (S.own _ (.head _)) fun _ oh => ?_; refine and2 (oh) fun ez oq2 => ?_; clear oh; subst oq2
    exact wpAny_pyIter_zip ez ⟨m, _, S, hR⟩
  done := fun Y hC hYA hB m σ R hR s S => by
    obtain ⟨C, A, B, F, L⟩ := Y
    dsimp only at hC hYA hB S ⊢
    subst hC hYA
    rw [List.append_assoc] at S
    have up : ∀ {a : Addr} {P : HP}, Kn X.B ρ a P → Kn B ρ a P := fun h => h.elim (fun h => .inl (hB _ _ h)) .inr
    have D := zip_apartR S (up h1) (up h2)
    have up2 : ∀ {a : Addr} {P : HP}, Kn X.B ρ a P → Kn B (zipIts .none z TI TO i1 i2 l1 l2 xs.length ++ (ρ ++ σ)) a P := fun h => h.elim (fun h => .inl (hB _ _ h)) fun h => .inr (List.mem_append_right _ (List.mem_append_left _ h))
    refine ex1 (S.own _ (.head _)) fun _ oh => ?_; refine and2 (oh) fun ez oq2 => ?_; clear oh; subst oq2
    refine ex1 (S.own _ (.tail _ (.head _))) fun _ oh => ?_; refine and2 (oh) fun eTI oq2 => ?_; clear oh; subst oq2
    obtain ⟨_, eTO, a, b, rfl⟩ := S.own _ (.tail _ (.tail _ (.head _)))
    have e1 := S.own _ (.tail _ (.tail _ (.tail _ (.head _))))
    have e2 := S.own _ (.tail _ (.tail _ (.tail _ (.tail _ (.head _)))))
    have L1 := isList_at (S.kn (up2 h1))
    have L2 := isList_at (S.kn (up2 h2))
    refine wpAny_pyNext_zip_end hA D ez eTI eTO (isListIter_at.mp e1) (isListIter_at.mp e2) L1 L2 (.inl (by simp)) fun h' hk => ?_
    exact ⟨m, σ, (S.dropAll (t := s.toks) fun b o hb e => hk b o (fun q => hb (by rw [q]; exact .head _)) (fun q => hb (by rw [q]; exact .tail _ (.tail _ (.head _))))
      (fun q => hb (by rw [q]; exact .tail _ (.tail _ (.tail _ (.head _))))) (fun q => hb (by rw [q]; exact .tail _ (.tail _ (.tail _ (.tail _ (.head _)))))) e).sub (List.sublist_append_right _ _), rfl, hR⟩
theorem iter_zip {elts : List Expr} {x1 : Nat} {pos : Pos} {z TI TO i1 i2 l1 l2 : Addr} {xs ys : List Value} (hA : X.A.handled = none) (h1 : BI X.B l1 (isList xs)) (h2 : BI X.B l2 (isList ys)) (hlen : xs.length = ys.length) :
    Iter X (.Tuple elts x1 pos) z (fun i => zipIts .none z TI TO i1 i2 l1 l2 i) xs.length (fun i v τ => ∃ T x y, v = .ref T ∧ xs[i]? = some x ∧ ys[i]? = some y ∧ τ = [(T, isTup [x, y])]) := by
  have T := iter_zipR (X := X) (elts := elts) (x1 := x1) (pos := pos) (z := z) (TI := TI) (TO := TO) (i1 := i1) (i2 := i2) (ρ := []) hA (.inl h1) (.inl h2) hlen
  simp only [List.append_nil] at T
  exact T
end
end Mine
end
end
section
open PySem PySem.W PySem.Calls PyProof.Rows PySem.Spec
set_option Elab.async false
set_option linter.unusedVariables false
set_option maxRecDepth 100000
noncomputable section
namespace Mine

noncomputable def drawnStep (script : List Int) (ns : List Int) (k : Nat) : List Int := ns.set (k % 5) (ns.getD (k % 5) 0 + (script.getD k 0).fmod 1000003)
noncomputable def drawnUpto (script : List Int) (i : Nat) : List Int := (List.range i).foldl (drawnStep script) [20, 7, 51, 4, 69]
noncomputable def drawnOf (script : List Int) : List Int := drawnUpto script (min 25 script.length)
theorem drawnUpto_succ (script : List Int) (i : Nat) : drawnUpto script (i + 1) = drawnStep script (drawnUpto script i) i := by
  unfold drawnUpto; rw [List.range_succ, List.foldl_append]; rfl
theorem drawnUpto_len (script : List Int) (i : Nat) : (drawnUpto script i).length = 5 := by
  induction i with
  | zero => rfl
  | succ i ih => rw [drawnUpto_succ]; unfold drawnStep; rw [List.length_set]; exact ih
theorem drawnUpto_bd (script : List Int) (i : Nat) : ∀ x ∈ drawnUpto script i, 0 ≤ x ∧ x ≤ 69 + i * 1000003 := by
  induction i with
  | zero => intro x hx; simp [drawnUpto] at hx; (first | lia | omega)
  | succ i ih =>
    intro x hx
    rw [drawnUpto_succ] at hx
    unfold drawnStep at hx
    rcases List.mem_or_eq_of_mem_set hx with h | rfl
    · have := ih x h; push_cast; (first | lia | omega)
    · have h5 : i % 5 < (drawnUpto script i).length := by rw [drawnUpto_len]; (first | lia | omega)
      have hm := ih _ (List.getElem_mem h5)
      rw [List.getD_eq_getElem?_getD, List.getElem?_eq_getElem h5]
      have hf := Int.fmod_nonneg_of_pos (script.getD i 0) (show (0 : Int) < 1000003 by decide)
      have hf' := Int.fmod_lt_of_pos (script.getD i 0) (show (0 : Int) < 1000003 by decide)
      simp only [Option.getD_some]
      push_cast
      (first | lia | omega)
theorem drawnOf_len (script : List Int) : (drawnOf script).length = 5 := drawnUpto_len _ _
theorem drawnOf_bd (script : List Int) : ∀ x ∈ drawnOf script, 0 ≤ x ∧ x ≤ 26000000 := fun x hx => by
  have := drawnUpto_bd _ _ x hx
  have h : min 25 script.length ≤ 25 := Nat.min_le_left _ _
  have h2 : ((min 25 script.length : Nat) : Int) ≤ 25 := by exact_mod_cast h
  (first | lia | omega)
theorem ints5 (t1 t2 t3 t4 t5 : Tok) : IntsOf [.int 20 t1, .int 7 t2, .int 51 t3, .int 4 t4, .int 69 t5] [20, 7, 51, 4, 69] := .cons ⟨_, rfl⟩ (.cons ⟨_, rfl⟩ (.cons ⟨_, rfl⟩ (.cons ⟨_, rfl⟩ (.cons ⟨_, rfl⟩ .nil))))

section
variable {X : Fm} {m : Vars} {σ : Led} {Q : Value → Vars → Led → Prop}
theorem wk_drawn {sc : Addr} {vs : List Value} {script : List Int} (hA : Ok 3 X.A) (hs : Kn X.B σ sc (isList vs)) (hi : IntsOf vs script) (hlen : script.length ≤ 100000)
    (h : ∀ D ws, IntsOf ws (drawnOf script) → Q (.ref D) m ((D, isList ws) :: σ)) : WK X m σ (.call (.ref 208) ⟨[.ref sc], []⟩) Q := by
  have hvl := hi.len
  refine wk_def (σ₁ := []) (σ₂ := σ) (n := 2) (binds := [("script", .ref sc)]) rfl rfl hA (fun _ _ s _ => BindsTo.of_eq rfl) rfl rfl ?_
  intro X' hC hK hA' _
  have hs' : BI X'.B sc (isList vs) := hK _ _ hs
  refine w_execs_cons (w_assign_name (w_List ?_))
  repeat (with_reducible first | refine w_execs_cons ?_ | refine w_return ?_ | refine w_assign_name ?_ | refine w_binop ?_ | refine w_compare ?_ | refine w_Call ?_ | refine w_int (fun _ => ?_) | refine w_str (fun _ => ?_) | refine w_cw_builtin ?_ | refine w_cw_type ?_ | refine w_args_nil ?_ | refine w_args_cons ?_ | refine w_List ?_ | refine w_Tuple ?_ | refine w_part_none ?_ | refine w_part_some ?_ | refine w_store_local ?_ | refine w_aug_sub ?_ | refine w_aug_name ?_ | refine w_add (fun _ => ?_) | refine w_sub (fun _ => ?_) | refine w_mod (by k_dflt decide) (fun _ => ?_) | refine w_div (by k_dflt decide) (by k_dflt decide) (fun _ => ?_) | refine w_iadd (fun _ => ?_))
  refine w_newList (szL _ (by simp)) fun D => ?_
  refine w_store_local (w_execs_cons (w_For ?_))
  repeat' (first | (with_reducible first | refine w_execs_cons ?_ | refine w_return ?_ | refine w_assign_name ?_ | refine w_binop ?_ | refine w_compare ?_ | refine w_Call ?_ | refine w_int (fun _ => ?_) | refine w_str (fun _ => ?_) | refine w_cw_builtin ?_ | refine w_cw_type ?_ | refine w_args_nil ?_ | refine w_args_cons ?_ | refine w_List ?_ | refine w_Tuple ?_ | refine w_part_none ?_ | refine w_part_some ?_ | refine w_store_local ?_ | refine w_aug_sub ?_ | refine w_aug_name ?_ | refine w_add (fun _ => ?_) | refine w_sub (fun _ => ?_) | refine w_mod (by k_dflt decide) (fun _ => ?_) | refine w_div (by k_dflt decide) (by k_dflt decide) (fun _ => ?_) | refine w_iadd (fun _ => ?_)) | (with_reducible refine w_builtin (by k_dflt rfl) (by k_dflt boot_fast) ?_))
  refine w_cut_list (a := sc) (vs := vs) (lo := none) (hi := some 25) (st := none) ?_
  repeat' (first | (with_reducible first | refine w_execs_cons ?_ | refine w_return ?_ | refine w_assign_name ?_ | refine w_binop ?_ | refine w_compare ?_ | refine w_Call ?_ | refine w_int (fun _ => ?_) | refine w_str (fun _ => ?_) | refine w_cw_builtin ?_ | refine w_cw_type ?_ | refine w_args_nil ?_ | refine w_args_cons ?_ | refine w_List ?_ | refine w_Tuple ?_ | refine w_part_none ?_ | refine w_part_some ?_ | refine w_store_local ?_ | refine w_aug_sub ?_ | refine w_aug_name ?_ | refine w_add (fun _ => ?_) | refine w_sub (fun _ => ?_) | refine w_mod (by k_dflt decide) (fun _ => ?_) | refine w_div (by k_dflt decide) (by k_dflt decide) (fun _ => ?_) | refine w_iadd (fun _ => ?_)) | (with_reducible refine w_local (by first | assumption | k_dflt rfl) ?_))
  refine ⟨sc, vs, none, some 25, none, rfl, .inl hs', by rw [hvl, sizeLine_eq]; (first | lia | omega), .none, .int _ _, .none, by simp, fun D2 => ?_⟩
  repeat' (first | (with_reducible first | refine w_execs_cons ?_ | refine w_return ?_ | refine w_assign_name ?_ | refine w_binop ?_ | refine w_compare ?_ | refine w_Call ?_ | refine w_int (fun _ => ?_) | refine w_str (fun _ => ?_) | refine w_cw_builtin ?_ | refine w_cw_type ?_ | refine w_args_nil ?_ | refine w_args_cons ?_ | refine w_List ?_ | refine w_Tuple ?_ | refine w_part_none ?_ | refine w_part_some ?_ | refine w_store_local ?_ | refine w_aug_sub ?_ | refine w_aug_name ?_ | refine w_add (fun _ => ?_) | refine w_sub (fun _ => ?_) | refine w_mod (by k_dflt decide) (fun _ => ?_) | refine w_div (by k_dflt decide) (by k_dflt decide) (fun _ => ?_) | refine w_iadd (fun _ => ?_)) | (with_reducible refine w_local (by first | assumption | k_dflt rfl) ?_))
  have e25 : (slicePick vs.toArray none (some 25) none).toList = vs.take 25 := by
    have := slicePick_upto' vs.toArray 25
    rw [show (((25 : Nat) : Int)) = 25 from rfl] at this
    rw [this]
  rw [e25]
  have l25 : (vs.take 25).length = min 25 script.length := by rw [List.length_take, hvl]
  refine w_len_list (.inr (.head _)) (by rw [l25]; (first | lia | omega)) fun t => ?_
  (with_reducible first | refine w_execs_cons ?_ | refine w_return ?_ | refine w_assign_name ?_ | refine w_binop ?_ | refine w_compare ?_ | refine w_Call ?_ | refine w_int (fun _ => ?_) | refine w_str (fun _ => ?_) | refine w_cw_builtin ?_ | refine w_cw_type ?_ | refine w_args_nil ?_ | refine w_args_cons ?_ | refine w_List ?_ | refine w_Tuple ?_ | refine w_part_none ?_ | refine w_part_some ?_ | refine w_store_local ?_ | refine w_aug_sub ?_ | refine w_aug_name ?_ | refine w_add (fun _ => ?_) | refine w_sub (fun _ => ?_) | refine w_mod (by k_dflt decide) (fun _ => ?_) | refine w_div (by k_dflt decide) (by k_dflt decide) (fun _ => ?_) | refine w_iadd (fun _ => ?_))
  rw [l25]
  refine w_range1 fun r => ?_
  refine w_iter_range (.inr (.head _)) (by decide) (by first | decide | (with_reducible first | exact n0 _ | exact f5 (by assumption) | exact a3 (by assumption) (by assumption) | exact b26 (by assumption) | exact a26 (by assumption)) | (first | lia | omega)) (k := min 25 script.length) (by first | decide | (with_reducible first | exact n0 _ | exact f5 (by assumption) | exact a3 (by assumption) (by assumption) | exact b26 (by assumption) | exact a26 (by assumption)) | (first | lia | omega)) fun I => ?_
  refine w_loop (σ := [(r, isRange 0 ((min 25 script.length : Nat) : Int) 1), (D2, isList (vs.take 25)), (D, isList _)]) (its := fun i => [(I, isRangeIt (0 + (i : Nat) * 1) (((min 25 script.length : Nat) : Int) - (i : Nat)) 1)]) (iter_range hA'.hd) (fun i m σ => m "drawn" = some (.ref D) ∧ m "script" = some (.ref sc) ∧ ∃ ws, IntsOf ws (drawnUpto script i) ∧ σ = [(r, isRange 0 ((min 25 script.length : Nat) : Int) 1), (D2, isList (vs.take 25)), (D, isList ws)]) ?_ ?_ ?_
  · exact ⟨rfl, rfl, _, ints5 _ _ _ _ _, rfl⟩
  · rintro F' i v τ m₁ σ₁ hi25 ⟨⟨tv, rfl⟩, rfl⟩ ⟨h1, h2, ws, hws, rfl⟩
    have hi25' : i < 25 ∧ i < script.length := by (first | lia | omega)
    have hwl : ws.length = 5 := by rw [hws.len, drawnUpto_len]
    refine w_store_name (w_store_local ?_)
    have hd : upd m₁ "k" (.int (0 + (i : Int) * 1) tv) "drawn" = some (.ref D) := h1
    have hsc : upd m₁ "k" (.int (0 + (i : Int) * 1) tv) "script" = some (.ref sc) := h2
    have hk : upd m₁ "k" (.int (0 + (i : Int) * 1) tv) "k" = some (.int (0 + (i : Int) * 1) tv) := rfl
    generalize upd m₁ "k" (.int (0 + (i : Int) * 1) tv) = m₂ at hd hsc hk ⊢
    have e0 : (0 + (i : Int) * 1) = (i : Int) := by (first | lia | omega)
    rw [e0] at hk
    have ef : ((i : Int).fmod 5) = ((i % 5 : Nat) : Int) := by rw [Int.fmod_eq_emod_of_nonneg _ (by decide)]; rfl
    have h5 : i % 5 < ws.length := by rw [hwl]; (first | lia | omega)
    have h5' : i % 5 < (drawnUpto script i).length := by rw [drawnUpto_len]; (first | lia | omega)
    refine ex1 (hws.get (List.getElem?_eq_getElem h5')) fun to ho => ?_
    refine ex1 (hi.get (List.getElem?_eq_getElem hi25'.2)) fun ts hsv => ?_
    repeat' (first | (with_reducible first | refine w_execs_cons ?_ | refine w_return ?_ | refine w_assign_name ?_ | refine w_binop ?_ | refine w_compare ?_ | refine w_Call ?_ | refine w_int (fun _ => ?_) | refine w_str (fun _ => ?_) | refine w_cw_builtin ?_ | refine w_cw_type ?_ | refine w_args_nil ?_ | refine w_args_cons ?_ | refine w_List ?_ | refine w_Tuple ?_ | refine w_part_none ?_ | refine w_part_some ?_ | refine w_store_local ?_ | refine w_aug_sub ?_ | refine w_aug_name ?_ | refine w_add (fun _ => ?_) | refine w_sub (fun _ => ?_) | refine w_mod (by k_dflt decide) (fun _ => ?_) | refine w_div (by k_dflt decide) (by k_dflt decide) (fun _ => ?_) | refine w_iadd (fun _ => ?_)) | (with_reducible refine w_local (by first | assumption | k_dflt rfl) ?_))
    rw [ef]
    refine w_getItem_list (vs := ws) (.inr (.tail _ (.tail _ (.head _)))) (by first | decide | (with_reducible first | exact n0 _ | exact f5 (by assumption) | exact a3 (by assumption) (by assumption) | exact b26 (by assumption) | exact a26 (by assumption)) | (first | lia | omega)) (by first | decide | (with_reducible first | exact n0 _ | exact f5 (by assumption) | exact a3 (by assumption) (by assumption) | exact b26 (by assumption) | exact a26 (by assumption)) | (first | lia | omega)) (v := .int _ to) ho ?_
    (with_reducible first | refine w_execs_cons ?_ | refine w_return ?_ | refine w_assign_name ?_ | refine w_binop ?_ | refine w_compare ?_ | refine w_Call ?_ | refine w_int (fun _ => ?_) | refine w_str (fun _ => ?_) | refine w_cw_builtin ?_ | refine w_cw_type ?_ | refine w_args_nil ?_ | refine w_args_cons ?_ | refine w_List ?_ | refine w_Tuple ?_ | refine w_part_none ?_ | refine w_part_some ?_ | refine w_store_local ?_ | refine w_aug_sub ?_ | refine w_aug_name ?_ | refine w_add (fun _ => ?_) | refine w_sub (fun _ => ?_) | refine w_mod (by k_dflt decide) (fun _ => ?_) | refine w_div (by k_dflt decide) (by k_dflt decide) (fun _ => ?_) | refine w_iadd (fun _ => ?_))
    refine w_subscript (w_local hsc (w_local hk (w_item_list (vs := vs) (.inl hs') (by first | decide | (with_reducible first | exact n0 _ | exact f5 (by assumption) | exact a3 (by assumption) (by assumption) | exact b26 (by assumption) | exact a26 (by assumption)) | (first | lia | omega)) (by first | decide | (with_reducible first | exact n0 _ | exact f5 (by assumption) | exact a3 (by assumption) (by assumption) | exact b26 (by assumption) | exact a26 (by assumption)) | (first | lia | omega)) (v := .int _ ts) hsv ?_)))
    (with_reducible first | refine w_execs_cons ?_ | refine w_return ?_ | refine w_assign_name ?_ | refine w_binop ?_ | refine w_compare ?_ | refine w_Call ?_ | refine w_int (fun _ => ?_) | refine w_str (fun _ => ?_) | refine w_cw_builtin ?_ | refine w_cw_type ?_ | refine w_args_nil ?_ | refine w_args_cons ?_ | refine w_List ?_ | refine w_Tuple ?_ | refine w_part_none ?_ | refine w_part_some ?_ | refine w_store_local ?_ | refine w_aug_sub ?_ | refine w_aug_name ?_ | refine w_add (fun _ => ?_) | refine w_sub (fun _ => ?_) | refine w_mod (by k_dflt decide) (fun _ => ?_) | refine w_div (by k_dflt decide) (by k_dflt decide) (fun _ => ?_) | refine w_iadd (fun _ => ?_))
    (with_reducible first | refine w_execs_cons ?_ | refine w_return ?_ | refine w_assign_name ?_ | refine w_binop ?_ | refine w_compare ?_ | refine w_Call ?_ | refine w_int (fun _ => ?_) | refine w_str (fun _ => ?_) | refine w_cw_builtin ?_ | refine w_cw_type ?_ | refine w_args_nil ?_ | refine w_args_cons ?_ | refine w_List ?_ | refine w_Tuple ?_ | refine w_part_none ?_ | refine w_part_some ?_ | refine w_store_local ?_ | refine w_aug_sub ?_ | refine w_aug_name ?_ | refine w_add (fun _ => ?_) | refine w_sub (fun _ => ?_) | refine w_mod (by k_dflt decide) (fun _ => ?_) | refine w_div (by k_dflt decide) (by k_dflt decide) (fun _ => ?_) | refine w_iadd (fun _ => ?_))
    (with_reducible first | refine w_execs_cons ?_ | refine w_return ?_ | refine w_assign_name ?_ | refine w_binop ?_ | refine w_compare ?_ | refine w_Call ?_ | refine w_int (fun _ => ?_) | refine w_str (fun _ => ?_) | refine w_cw_builtin ?_ | refine w_cw_type ?_ | refine w_args_nil ?_ | refine w_args_cons ?_ | refine w_List ?_ | refine w_Tuple ?_ | refine w_part_none ?_ | refine w_part_some ?_ | refine w_store_local ?_ | refine w_aug_sub ?_ | refine w_aug_name ?_ | refine w_add (fun _ => ?_) | refine w_sub (fun _ => ?_) | refine w_mod (by k_dflt decide) (fun _ => ?_) | refine w_div (by k_dflt decide) (by k_dflt decide) (fun _ => ?_) | refine w_iadd (fun _ => ?_))
    refine w_perm bring2 (w_setItem_list (by first | decide | (with_reducible first | exact n0 _ | exact f5 (by assumption) | exact a3 (by assumption) (by assumption) | exact b26 (by assumption) | exact a26 (by assumption)) | (first | lia | omega)) (by first | decide | (with_reducible first | exact n0 _ | exact f5 (by assumption) | exact a3 (by assumption) (by assumption) | exact b26 (by assumption) | exact a26 (by assumption)) | (first | lia | omega)) h5 (by rw [sizeLine_eq]; (first | lia | omega)) ?_)
    refine w_perm bring2.symm (w_execs_nil ⟨hd, hsc, _, ?_, rfl⟩)
    rw [drawnUpto_succ]
    rw [Int.toNat_natCast]
    have e1 : drawnStep script (drawnUpto script i) i = (drawnUpto script i).set (i % 5) ((drawnUpto script i)[i % 5] + (script[i]'hi25'.2).fmod 1000003) := by
      unfold drawnStep
      rw [List.getD_eq_getElem?_getD, List.getD_eq_getElem?_getD, List.getElem?_eq_getElem h5', List.getElem?_eq_getElem hi25'.2]
      rfl
    rw [e1]
    exact hws.set _ _ _
  · rintro m₁ σ₁ ⟨h1, h2, ws, hws, rfl⟩
    refine w_keep (.cons _ (.cons _ (.refl _))) (w_execs_cons (w_return (w_local h1 ?_)))
    exact h D ws hws
end
end Mine
end
end
section
open PySem PySem.W PySem.Calls PyProof.Rows PySem.Spec
set_option Elab.async false
set_option linter.unusedVariables false
set_option maxRecDepth 100000
noncomputable section
namespace Mine

noncomputable def endOf (x : Int) : Str := if (x.fdiv 36).fmod 3 = 0 then Str.ofString "\n" else if (x.fdiv 36).fmod 3 = 1 then Str.ofString "\r" else Str.ofString "\r\n"
noncomputable def written (k x : Int) : Str := Txt.mul (Str.ofString "." ++ endOf x) (1 + x.fmod 3) ++ Txt.mul ⟨#[(97 + k).toNat]⟩ (1 + (x.fdiv 3).fmod 12) ++ endOf x
theorem endOf_len (x : Int) : (endOf x).length ≤ 2 := by
  unfold endOf
  split
  · decide
  · split <;> decide
theorem end_at (x : Int) (t1 t2 t3 : Tok) : ∃ t, ([.str (Str.ofString "\n") t1, .str (Str.ofString "\r") t2, .str (Str.ofString "\r\n") t3] : List Value)[((x.fdiv 36).fmod 3).toNat]? = some (.str (endOf x) t) := by
  have h36 := fmod_bd (x.fdiv 36) (n := 3) (by decide)
  have : (x.fdiv 36).fmod 3 = 0 ∨ (x.fdiv 36).fmod 3 = 1 ∨ (x.fdiv 36).fmod 3 = 2 := by omega
  unfold endOf
  rcases this with e | e | e <;> rw [e]
  · exact ⟨t1, rfl⟩
  · exact ⟨t2, rfl⟩
  · exact ⟨t3, rfl⟩
theorem wk_written {X : Fm} {m : Vars} {σ : Led} {Q : Value → Vars → Led → Prop} (hA : Ok 2 X.A) {k x : Int} {tk tx : Tok} (h0 : 0 ≤ k) (h1 : k < 5) (hx : 0 ≤ x) (h : ∀ t, Q (.str (written k x) t) m σ) :
    WK X m σ (.call (.ref 215) ⟨[.int k tk, .int x tx], []⟩) Q := by
  refine wk_def (σ₁ := []) (σ₂ := σ) (n := 1) (binds := [("k", .int k tk), ("x", .int x tx)]) rfl rfl hA (fun _ _ s _ => BindsTo.of_eq rfl) rfl rfl ?_
  intro X' hC hK hA' _
  have h3 := fmod_bd x (n := 3) (by decide)
  have h12 := fmod_bd (x.fdiv 3) (n := 12) (by decide)
  have h36 := fmod_bd (x.fdiv 36) (n := 3) (by decide)
  have hel := endOf_len x
  have l1 : (Str.ofString "." ++ endOf x).length ≤ 3 := by rw [Str.length_append]; have : (Str.ofString ".").length = 1 := by decide
                                                           omega
  have l3 : (⟨#[(97 + k).toNat]⟩ : Str).length = 1 := rfl
  have m1 := mul_length (Str.ofString "." ++ endOf x) (n := 1 + x.fmod 3) (by first | decide | (with_reducible first | exact n0 _ | exact f5 (by assumption) | exact a3 (by assumption) (by assumption) | exact b26 (by assumption) | exact a26 (by assumption)) | omega)
  have m2 := mul_length ⟨#[(97 + k).toNat]⟩ (n := 1 + (x.fdiv 3).fmod 12) (by first | decide | (with_reducible first | exact n0 _ | exact f5 (by assumption) | exact a3 (by assumption) (by assumption) | exact b26 (by assumption) | exact a26 (by assumption)) | omega)
  have m1' : (Txt.mul (Str.ofString "." ++ endOf x) (1 + x.fmod 3)).length ≤ 9 := by
    rw [m1]
    have : (1 + x.fmod 3).toNat ≤ 3 := by omega
    exact Nat.le_trans (Nat.mul_le_mul this l1) (by decide)
  have m2' : (Txt.mul ⟨#[(97 + k).toNat]⟩ (1 + (x.fdiv 3).fmod 12)).length ≤ 12 := by
    rw [m2, l3]; omega
  refine w_execs_cons (w_assign_name (w_subscript (w_List ?_)))
  repeat (with_reducible first | refine w_execs_cons ?_ | refine w_return ?_ | refine w_assign_name ?_ | refine w_binop ?_ | refine w_compare ?_ | refine w_Call ?_ | refine w_int (fun _ => ?_) | refine w_str (fun _ => ?_) | refine w_cw_builtin ?_ | refine w_cw_type ?_ | refine w_args_nil ?_ | refine w_args_cons ?_ | refine w_List ?_ | refine w_Tuple ?_ | refine w_part_none ?_ | refine w_part_some ?_ | refine w_store_local ?_ | refine w_aug_sub ?_ | refine w_aug_name ?_ | refine w_add (fun _ => ?_) | refine w_sub (fun _ => ?_) | refine w_mod (by k_dflt decide) (fun _ => ?_) | refine w_div (by k_dflt decide) (by k_dflt decide) (fun _ => ?_) | refine w_iadd (fun _ => ?_))
  refine w_newList (szL _ (by simp)) fun D => ?_
  repeat' (first | (with_reducible first | refine w_execs_cons ?_ | refine w_return ?_ | refine w_assign_name ?_ | refine w_binop ?_ | refine w_compare ?_ | refine w_Call ?_ | refine w_int (fun _ => ?_) | refine w_str (fun _ => ?_) | refine w_cw_builtin ?_ | refine w_cw_type ?_ | refine w_args_nil ?_ | refine w_args_cons ?_ | refine w_List ?_ | refine w_Tuple ?_ | refine w_part_none ?_ | refine w_part_some ?_ | refine w_store_local ?_ | refine w_aug_sub ?_ | refine w_aug_name ?_ | refine w_add (fun _ => ?_) | refine w_sub (fun _ => ?_) | refine w_mod (by k_dflt decide) (fun _ => ?_) | refine w_div (by k_dflt decide) (by k_dflt decide) (fun _ => ?_) | refine w_iadd (fun _ => ?_)) | (with_reducible refine w_local (by first | assumption | k_dflt rfl) ?_) | (with_reducible refine w_builtin (by k_dflt rfl) (by k_dflt boot_fast) ?_))
  obtain ⟨te, he⟩ := end_at x _ _ _
  refine w_item_list (.inr (.head _)) (by first | decide | (with_reducible first | exact n0 _ | exact f5 (by assumption) | exact a3 (by assumption) (by assumption) | exact b26 (by assumption) | exact a26 (by assumption)) | omega) (by first | decide | (with_reducible first | exact n0 _ | exact f5 (by assumption) | exact a3 (by assumption) (by assumption) | exact b26 (by assumption) | exact a26 (by assumption)) | omega) he ?_
  refine w_keep (σ' := []) (List.nil_sublist _) ?_
  repeat' (first | (with_reducible first | refine w_execs_cons ?_ | refine w_return ?_ | refine w_assign_name ?_ | refine w_binop ?_ | refine w_compare ?_ | refine w_Call ?_ | refine w_int (fun _ => ?_) | refine w_str (fun _ => ?_) | refine w_cw_builtin ?_ | refine w_cw_type ?_ | refine w_args_nil ?_ | refine w_args_cons ?_ | refine w_List ?_ | refine w_Tuple ?_ | refine w_part_none ?_ | refine w_part_some ?_ | refine w_store_local ?_ | refine w_aug_sub ?_ | refine w_aug_name ?_ | refine w_add (fun _ => ?_) | refine w_sub (fun _ => ?_) | refine w_mod (by k_dflt decide) (fun _ => ?_) | refine w_div (by k_dflt decide) (by k_dflt decide) (fun _ => ?_) | refine w_iadd (fun _ => ?_)) | (with_reducible refine w_local (by first | assumption | k_dflt rfl) ?_) | (with_reducible refine w_builtin (by k_dflt rfl) (by k_dflt boot_fast) ?_) | with_reducible refine w_smul' ?_ (by first | decide | (with_reducible first | exact n0 _ | exact f5 (by assumption) | exact a3 (by assumption) (by assumption) | exact b26 (by assumption) | exact a26 (by assumption)) | omega) (by first | decide | (with_reducible first | exact n0 _ | exact f5 (by assumption) | exact a3 (by assumption) (by assumption) | exact b26 (by assumption) | exact a26 (by assumption)) | omega) (fun _ => ?_) | with_reducible refine w_sadd ?_ (fun _ => ?_) | with_reducible refine w_chr (by first | decide | (with_reducible first | exact n0 _ | exact f5 (by assumption) | exact a3 (by assumption) (by assumption) | exact b26 (by assumption) | exact a26 (by assumption)) | omega) (by first | decide | (with_reducible first | exact n0 _ | exact f5 (by assumption) | exact a3 (by assumption) (by assumption) | exact b26 (by assumption) | exact a26 (by assumption)) | omega) (fun _ => ?_))
  · have : (Str.ofString ".").length = 1 := by decide
    rw [sizeLine_eq]; omega
  · omega
  · rw [l3]; omega
  · rw [sizeLine_eq]; omega
  · rw [Str.length_append, sizeLine_eq]; omega
  · exact h _
end Mine
end
end
section
open PySem PySem.W PySem.Calls PyProof.Rows PySem.Spec
set_option Elab.async false
set_option linter.unusedVariables false
set_option maxRecDepth 100000
noncomputable section
namespace Mine

inductive StrsOf : List Value → List Str → Prop where
  | nil : StrsOf [] []
  | cons {v : Value} {x : Str} {vs : List Value} {xs : List Str} (h : ∃ t, v = .str x t) (t : StrsOf vs xs) : StrsOf (v :: vs) (x :: xs)
theorem StrsOf.len {vs : List Value} {xs : List Str} (h : StrsOf vs xs) : vs.length = xs.length := by
  induction h with
  | nil => rfl
  | cons _ _ ih => simp [ih]
theorem StrsOf.get {vs : List Value} {xs : List Str} (h : StrsOf vs xs) {i : Nat} {x : Str} (hn : xs[i]? = some x) : ∃ t, vs[i]? = some (.str x t) := by
  induction h generalizing i with
  | nil => simp at hn
  | cons hd _ ih =>
    cases i with
    | zero => obtain ⟨t, rfl⟩ := hd; simp at hn; subst hn; exact ⟨t, rfl⟩
    | succ i => exact ih (by simpa using hn)
theorem StrsOf.append {vs ws : List Value} {xs ys : List Str} (h : StrsOf vs xs) (h' : StrsOf ws ys) : StrsOf (vs ++ ws) (xs ++ ys) := by
  induction h with
  | nil => exact h'
  | cons hd _ ih => exact .cons hd ih
theorem StrsOf.snoc {vs : List Value} {xs : List Str} (h : StrsOf vs xs) (x : Str) (t : Tok) : StrsOf (vs ++ [.str x t]) (xs ++ [x]) := h.append (.cons ⟨t, rfl⟩ .nil)

theorem Pieces.append {B : PH} {σ : Led} {vs ws : List Value} {xs ys : List Str} (h : Pieces B σ vs xs) (h' : Pieces B σ ws ys) : Pieces B σ (vs ++ ws) (xs ++ ys) := by
  induction h with
  | nil => exact h'
  | cons k h4 h1 _ ih => exact .cons k h4 h1 ih
theorem Pieces.snoc {B : PH} {σ : Led} {vs : List Value} {xs : List Str} {T : Addr} {x : Str} (h : Pieces B σ vs xs) (k : Kn B σ T (isPiece x)) (h4 : 4 ≤ x.length) (h1 : x.length ≤ 1000) : Pieces B σ (vs ++ [.ref T]) (xs ++ [x]) := h.append (.cons k h4 h1 .nil)
theorem kn_tail {B : PH} {σ : Led} {p : Addr × HP} : ∀ a P, Kn B σ a P → Kn B (p :: σ) a P := fun a P k => k.elim .inl fun q => .inr (.tail _ q)

noncomputable def fwd : Int → List (Int × Int) → Int
  | _, [] => 0
  | p, (w, s) :: r => w * (p + s) + fwd (p + s) r
noncomputable def sumS (l : List (Int × Int)) : Int := (l.map (·.2)).sum
noncomputable def sumW (l : List (Int × Int)) : Int := (l.map (·.1)).sum
theorem sumS_snoc (l : List (Int × Int)) (w s : Int) : sumS (l ++ [(w, s)]) = sumS l + s := by simp [sumS]
theorem sumW_snoc (l : List (Int × Int)) (w s : Int) : sumW (l ++ [(w, s)]) = sumW l + w := by simp [sumW]
theorem fwd_snoc : ∀ (l : List (Int × Int)) (p w s : Int), fwd p (l ++ [(w, s)]) = fwd p l + w * (p + sumS l + s)
  | [], p, w, s => by simp [fwd, sumS]
  | (w', s') :: l, p, w, s => by
    rw [List.cons_append, fwd, fwd, fwd_snoc l (p + s') w s]
    have : sumS ((w', s') :: l) = s' + sumS l := by simp [sumS]
    rw [this, show p + s' + sumS l + s = p + (s' + sumS l) + s by (first | lia | omega)]
    (first | lia | omega)
noncomputable def swapP (l : List (Int × Int)) : List (Int × Int) := l.map fun p => (p.2, p.1)

theorem take_snoc {α : Type} {l : List α} {i : Nat} {x : α} (h : l[i]? = some x) : l.take (i + 1) = l.take i ++ [x] := by
  rw [List.take_add_one, h]; rfl

noncomputable def pairAt (xs : List Str) (ws : List Int) (k : Nat) : Int × Int := (ws.getD k 0, lenAt xs k)
noncomputable def pairsOf (xs : List Str) (ws : List Int) (ns : List Nat) : List (Int × Int) := ns.map (pairAt xs ws)
noncomputable def natsOf (ns : List Nat) : List Int := ns.map fun (k : Nat) => (k : Int)
theorem natsOf_get {ns : List Nat} {i : Nat} {k : Nat} (h : ns[i]? = some k) : (natsOf ns)[i]? = some (k : Int) := by simp [natsOf, h]
noncomputable def textAt (xs : List Str) (k : Nat) : Str := xs.getD k (Str.ofString "")
theorem sumLen_texts (xs : List Str) (ws : List Int) (ns : List Nat) (h : ∀ k ∈ ns, k < xs.length) : sumLen (ns.map (textAt xs)) = sumS (pairsOf xs ws ns) := by
  unfold sumLen sumS pairsOf
  rw [List.map_map, List.map_map]
  congr 1
  refine List.map_congr_left fun k hk => ?_
  show ((textAt xs k).length : Int) = lenAt xs k
  have := h k hk
  simp [textAt, lenAt, this]

theorem slice_rev (a b c d e : Value) : (slicePick [a, b, c, d, e].toArray none none (some (-1))).toList = [e, d, c, b, a] := by
  unfold slicePick
  have h : [a, b, c, d, e].toArray.size = 5 := rfl
  rw [h, show sliceRange (sliceBounds none none (some (-1)) 5).1 (sliceBounds none none (some (-1)) 5).2.1 (sliceBounds none none (some (-1)) 5).2.2 = [4, 3, 2, 1, 0] by decide]
  rfl

structure Letters (xs : List Str) (ws : List Int) : Prop where
  lx : xs.length = 5
  lw : ws.length = 5
  tx : ∀ x ∈ xs, 7 ≤ x.length ∧ x.length ≤ 26
  tw : ∀ w ∈ ws, 1 ≤ w ∧ w ≤ 3
theorem Letters.text {xs : List Str} {ws : List Int} (L : Letters xs ws) {k : Nat} (h : k < 5) : ∃ x, xs[k]? = some x ∧ textAt xs k = x ∧ lenAt xs k = x.length ∧ 7 ≤ x.length ∧ x.length ≤ 26 := by
  have hk : k < xs.length := by rw [L.lx]; exact h
  refine ⟨xs[k], List.getElem?_eq_getElem hk, by simp [textAt, hk], by simp [lenAt, hk], ?_⟩
  exact L.tx _ (List.getElem_mem hk)
theorem Letters.weight {xs : List Str} {ws : List Int} (L : Letters xs ws) {k : Nat} (h : k < 5) : ∃ w, ws[k]? = some w ∧ ws.getD k 0 = w ∧ 1 ≤ w ∧ w ≤ 3 := by
  have hk : k < ws.length := by rw [L.lw]; exact h
  refine ⟨ws[k], List.getElem?_eq_getElem hk, by simp [hk], ?_⟩
  exact L.tw _ (List.getElem_mem hk)
theorem sumS_bd : ∀ (l : List (Int × Int)), (∀ p ∈ l, 0 ≤ p.2 ∧ p.2 ≤ 26) → 0 ≤ sumS l ∧ sumS l ≤ 26 * l.length
  | [], _ => by simp [sumS]
  | p :: l, h => by
    have ih := sumS_bd l fun q hq => h q (.tail _ hq)
    have := h p (.head _)
    have e : sumS (p :: l) = p.2 + sumS l := by simp [sumS]
    rw [e, List.length_cons]
    push_cast
    (first | lia | omega)
theorem pairs_bd {xs : List Str} {ws : List Int} (L : Letters xs ws) {ns : List Nat} (hns : ∀ k ∈ ns, k < 5) : ∀ p ∈ pairsOf xs ws ns, (7 ≤ p.2 ∧ p.2 ≤ 26) ∧ 1 ≤ p.1 ∧ p.1 ≤ 3 := fun p hp => by
  obtain ⟨k, hk, rfl⟩ := List.mem_map.mp hp
  obtain ⟨x, oh⟩ := L.text (hns k hk); refine and5 oh fun _ _ hl h7 h26 => ?_; clear oh
  obtain ⟨w, oh⟩ := L.weight (hns k hk); refine and4 oh fun _ hd h1 h3 => ?_; clear oh
  unfold pairAt
  rw [hl, hd]
  dsimp only
  (first | lia | omega)
theorem sumS_take_bd {xs : List Str} {ws : List Int} (L : Letters xs ws) {ns : List Nat} (hns : ∀ k ∈ ns, k < 5) (hn : ns.length = 5) (i : Nat) : 0 ≤ sumS ((pairsOf xs ws ns).take i) ∧ sumS ((pairsOf xs ws ns).take i) ≤ 130 := by
  have := sumS_bd ((pairsOf xs ws ns).take i) fun p hp => by have := (pairs_bd L hns p (List.mem_of_mem_take hp)).1; (first | lia | omega)
  have hl : ((pairsOf xs ws ns).take i).length ≤ 5 := by rw [List.length_take, pairsOf, List.length_map, hn]; (first | lia | omega)
  (first | lia | omega)
section
variable {X : Fm} {m : Vars} {σ : Led} {Q : Value → Vars → Led → Prop}
theorem w_len_str {x : Str} {t : Tok} (hx : x.length ≤ 16777216) (h : ∀ t, Q (.int x.length t) m σ) : W X m σ (call (.builtin "len") [.str x t]) Q := fun s S => P.len_str (by first | decide | (with_reducible first | exact n0 _ | exact f5 (by assumption) | exact a3 (by assumption) (by assumption) | exact b26 (by assumption) | exact a26 (by assumption)) | (first | lia | omega)) ⟨m, σ, S.toks, h _⟩
end
theorem gi_ints {vs : List Value} {ns : List Int} {n : Int} (h : IntsOf vs ns) (h5 : ns.length = 5) (hb : ∀ z ∈ ns, z ≠ 127 ∧ z ≠ 0) {t1 t2 : Tok} : (∀ i, i < 5 → ∃ z t, (vs ++ [.int 127 t1, .int 1 t2] : List Value)[i]? = some (.int z t) ∧ z ≠ 127 ∧ z ≠ 0) ∧
    (∃ t, (vs ++ [.int 127 t1, .int 1 t2] : List Value)[5]? = some (.int 127 t)) ∧ (vs ++ [.int 127 t1, .int 1 t2] : List Value).take 5 = vs := by
  have hl : vs.length = 5 := by rw [h.len, h5]
  refine ⟨fun i hi => ?_, ⟨t1, ?_⟩, ?_⟩
  · obtain ⟨t, e⟩ := h.get (List.getElem?_eq_getElem (h5 ▸ hi : i < ns.length))
    exact ⟨_, t, by rw [List.getElem?_append_left (by first | decide | (with_reducible first | exact n0 _ | exact f5 (by assumption) | exact a3 (by assumption) (by assumption) | exact b26 (by assumption) | exact a26 (by assumption)) | (first | lia | omega))]; exact e, hb _ (List.getElem_mem _)⟩
  · rw [List.getElem?_append_right (by first | decide | (with_reducible first | exact n0 _ | exact f5 (by assumption) | exact a3 (by assumption) (by assumption) | exact b26 (by assumption) | exact a26 (by assumption)) | (first | lia | omega)), hl]; rfl
  · rw [List.take_append_of_le_length (by first | decide | (with_reducible first | exact n0 _ | exact f5 (by assumption) | exact a3 (by assumption) (by assumption) | exact b26 (by assumption) | exact a26 (by assumption)) | (first | lia | omega)), List.take_of_length_le (by first | decide | (with_reducible first | exact n0 _ | exact f5 (by assumption) | exact a3 (by assumption) (by assumption) | exact b26 (by assumption) | exact a26 (by assumption)) | (first | lia | omega))]
theorem IntsOf.reverse {vs : List Value} {ns : List Int} (h : IntsOf vs ns) : IntsOf vs.reverse ns.reverse := by
  induction h with
  | nil => exact .nil
  | cons hd _ ih => rw [List.reverse_cons, List.reverse_cons]; exact ih.append (.cons hd .nil)
theorem slice_rev5 {vs : List Value} (h : vs.length = 5) : (slicePick vs.toArray none none (some (-1))).toList = vs.reverse := by
  obtain ⟨a, b, c, d, e, rfl⟩ := list5 h
  rw [slice_rev]; rfl
theorem natsOf_rev (ns : List Nat) : (natsOf ns).reverse = natsOf ns.reverse := by unfold natsOf; rw [List.map_reverse]
theorem pairsOf_rev (xs : List Str) (ws : List Int) (ns : List Nat) : pairsOf xs ws ns.reverse = (pairsOf xs ws ns).reverse := by unfold pairsOf; rw [List.map_reverse]
theorem sumW_rev (l : List (Int × Int)) : sumW l.reverse = sumW l := by unfold sumW; rw [List.map_reverse, List.sum_reverse]
theorem sumS_swap (l : List (Int × Int)) : sumS (swapP l) = sumW l := by
  unfold sumS swapP sumW; rw [List.map_map]; rfl
theorem swapP_snoc (l : List (Int × Int)) (w s : Int) : swapP (l ++ [(w, s)]) = swapP l ++ [(s, w)] := by simp [swapP]
end Mine
end
end
section
open PySem PySem.W PySem.Calls PyProof.Rows PySem.Spec
set_option Elab.async false
set_option linter.unusedVariables false
set_option maxRecDepth 100000
noncomputable section
namespace Mine
section
variable {X : Fm} {m : Vars} {σ : Led} {Q : Value → Vars → Led → Prop}
set_option maxHeartbeats 4000000 in
theorem wk_waitings {row tx wt : Addr} {rv tv wv : List Value} {xs : List Str} {ws : List Int} {ns : List Nat} {start : Int} {ts : Tok} (hA : Ok 12 X.A)
    (hr : Kn X.B σ row (isList rv)) (hri : IntsOf rv (natsOf ns)) (ht : Kn X.B σ tx (isList tv)) (hti : StrsOf tv xs) (hw : Kn X.B σ wt (isList wv)) (hwi : IntsOf wv ws) (L : Letters xs ws) (hn : ns.length = 5) (hns : ∀ k ∈ ns, k < 5) (h0 : 0 ≤ start) (h1 : start ≤ 9)
    (h : ∀ D vs, IntsOf vs [fwd start (pairsOf xs ws ns), fwd start (pairsOf xs ws ns), fwd 0 (swapP (pairsOf xs ws ns).reverse) + start * sumW (pairsOf xs ws ns), 10] → Q (.ref D) m ((D, isList vs) :: (128, isTab) :: σ)) :
    WK X m ((128, isTab) :: σ) (.call (.ref 234) ⟨[.ref row, .ref tx, .ref wt, .int start ts], []⟩) Q := by
  refine wk_defC (σ₁ := [(128, isTab)]) (σ₂ := σ) (n := 11) (binds := [("row", .ref row), ("texts", .ref tx), ("weights", .ref wt), ("start", .int start ts)]) rfl rfl hA rfl rfl (by decide) (fun L => rfl) ?_
  intro X' hC hK hF hA' _
  have hr' : BI X'.B row (isList rv) := hK _ _ hr
  have ht' : BI X'.B tx (isList tv) := hK _ _ ht
  have hw' : BI X'.B wt (isList wv) := hK _ _ hw
  have ct : BI X'.B (X'.L + 1) (isCell (.ref tx)) := hF (_, _) (.tail _ (.head _))
  have cw : BI X'.B (X'.L + 1 + 1) (isCell (.ref wt)) := hF (_, _) (.head _)
  clear hF
  change W X' (upd (upd (fun _ => none) "row" (.ref row)) "start" (.int start ts)) [(128, isTab)] _ _
  refine w_gen fun Q0 k0 => ?_
  refine w_execs_cons (w_gen fun Qs1 ks1 => w_assign_name (w_Call (w_global (v := .ref 166) rfl (w_cw_K (by kernel_rfl) (w_args_cons (w_local rfl (w_args_nil (w_call (wk_mk_166 fun pile dx => ?_)))))))))
  refine wk_init (hA'.under.le (by first | decide | (with_reducible first | exact n0 _ | exact f5 (by assumption) | exact a3 (by assumption) (by assumption) | exact b26 (by assumption) | exact a26 (by assumption)) | (first | lia | omega))) ⟨rfl, ?_⟩
  refine w_store_localK ks1 (w_execs_cons (w_gen fun Qs2 ks2 => w_assign_name (w_int fun _ => w_store_localK ks2 ?_)))
  refine w_execs_cons (w_For (w_local rfl (w_iter_list (.inl hr') fun I hI => ?_)))
  have hrl : rv.length = 5 := by rw [hri.len, natsOf, List.length_map, hn]
  have hPl : (pairsOf xs ws ns).length = 5 := by rw [pairsOf, List.length_map, hn]
  have hPi : ∀ {i k : Nat}, ns[i]? = some k → (pairsOf xs ws ns)[i]? = some (pairAt xs ws k) := fun {i k} hk => by simp [pairsOf, hk]
  obtain ⟨J1, hJ1⟩ : ∃ J : Nat → Vars → Led → Prop, J = (fun i m σ => m "pile" = some (.ref pile) ∧ m "row" = some (.ref row) ∧ m "start" = some (.int start ts) ∧ (∃ t, m "by_length" = some (.int (fwd start ((pairsOf xs ws ns).take i)) t)) ∧
      ∃ vs τ, σ = (pile, isPile dx vs) :: (dx, isDict1 "_initial_size" (.int start ts)) :: (128, isTab) :: τ ∧ Pieces X'.B τ vs ((ns.take i).map (textAt xs))) := ⟨_, rfl⟩
  refine w_loop (its := fun i => [(I, isListIter row i)]) (σ := [(pile, isPile dx []), (dx, isDict1 "_initial_size" (.int start ts)), (128, isTab)]) (iter_list hA'.hd hr' (Ne.symm hI))
    J1 ?_ ?_ ?_
  · rw [hJ1]; exact ⟨rfl, rfl, rfl, ⟨_, rfl⟩, [], [], rfl, .nil⟩
  · rintro F' i v τ' m₁ σ₁ hi ⟨hv, rfl⟩ hj
    rw [hJ1] at hj
    refine and5 (hj) fun hp hrow hst oq3 oh => ?_; try clear hj; obtain ⟨tb, hb⟩ := oq3; obtain ⟨vs, τ, rfl, hpc⟩ := oh
    rw [hrl] at hi
    obtain ⟨k, hk⟩ : ∃ k, ns[i]? = some k := ⟨_, List.getElem?_eq_getElem (hn ▸ hi)⟩
    have hk5 : k < 5 := hns k (List.mem_of_getElem? hk)
    obtain ⟨tk, hv'⟩ := hri.get (natsOf_get hk)
    rw [hv] at hv'
    cases hv'
    obtain ⟨x, oh⟩ := L.text hk5; refine and5 oh fun hx hxt hxl hx7 hx26 => ?_; clear oh
    obtain ⟨w, oh⟩ := L.weight hk5; refine and4 oh fun hww hwd hw1 hw3 => ?_; clear oh
    obtain ⟨tx', htx⟩ := hti.get hx
    obtain ⟨tw', htw⟩ := hwi.get hww
    have hvl : vs.length ≤ 5 := by rw [hpc.len, List.length_map, List.length_take]; (first | lia | omega)
    refine w_store_name (w_store_local ?_)
    have g1 : upd m₁ "k" (.int (k : Int) tk) "pile" = some (.ref pile) := hp
    have g2 : upd m₁ "k" (.int (k : Int) tk) "row" = some (.ref row) := hrow
    have g3 : upd m₁ "k" (.int (k : Int) tk) "start" = some (.int start ts) := hst
    have g4 : upd m₁ "k" (.int (k : Int) tk) "by_length" = some _ := hb
    have g5 : upd m₁ "k" (.int (k : Int) tk) "k" = some (.int (k : Int) tk) := rfl
    generalize upd m₁ "k" (.int (k : Int) tk) = m₂ at g1 g2 g3 g4 g5 ⊢
    refine w_execs_cons (w_expr (w_Call (w_global (v := .ref 229) rfl (w_cw_K (by kernel_rfl) ?_))))
    refine w_args_cons (w_local g1 ?_)
    refine w_args_cons (w_subscript (w_cell (.inl ct) (w_local g5 ?_)))
    refine w_item_list (vs := tv) (.inl ht') (by first | decide | (with_reducible first | exact n0 _ | exact f5 (by assumption) | exact a3 (by assumption) (by assumption) | exact b26 (by assumption) | exact a26 (by assumption)) | (first | lia | omega)) (by first | decide | (with_reducible first | exact n0 _ | exact f5 (by assumption) | exact a3 (by assumption) (by assumption) | exact b26 (by assumption) | exact a26 (by assumption)) | (first | lia | omega)) htx (w_args_nil ?_)
    refine w_call (wk_pushed (dx := dx) (vs := vs) (v := .int start ts) (hA'.le (by first | decide | (with_reducible first | exact n0 _ | exact f5 (by assumption) | exact a3 (by assumption) (by assumption) | exact b26 (by assumption) | exact a26 (by assumption)) | (first | lia | omega))) (.inr (.head _)) (by first | decide | (with_reducible first | exact n0 _ | exact f5 (by assumption) | exact a3 (by assumption) (by assumption) | exact b26 (by assumption) | exact a26 (by assumption)) | (first | lia | omega)) (by first | decide | (with_reducible first | exact n0 _ | exact f5 (by assumption) | exact a3 (by assumption) (by assumption) | exact b26 (by assumption) | exact a26 (by assumption)) | (first | lia | omega)) fun T => ⟨fun _ e => (nomatch e), ?_⟩)
    refine w_execs_cons (w_gen fun Qs3 ks3 => w_aug_name (w_load_local g4 ?_))
    refine w_binop (w_subscript (w_cell (.inl cw) (w_local g5 ?_)))
    refine w_item_list (vs := wv) (.inl hw') (by first | decide | (with_reducible first | exact n0 _ | exact f5 (by assumption) | exact a3 (by assumption) (by assumption) | exact b26 (by assumption) | exact a26 (by assumption)) | (first | lia | omega)) (by first | decide | (with_reducible first | exact n0 _ | exact f5 (by assumption) | exact a3 (by assumption) (by assumption) | exact b26 (by assumption) | exact a26 (by assumption)) | (first | lia | omega)) htw ?_
    refine w_Call (w_builtin rfl (by boot_fast) (w_cw_builtin (w_args_cons (w_local g1 (w_args_nil ?_)))))
    have hpc2 : Pieces X'.B ((pile, isPile dx (vs ++ [.ref T])) :: (T, isPiece x) :: (dx, isDict1 "_initial_size" (.int start ts)) :: τ) (vs ++ [.ref T]) ((ns.take (i + 1)).map (textAt xs)) := by
      rw [take_snoc hk, List.map_append, List.map_cons, List.map_nil, hxt]
      exact (hpc.mono fun a P k => kn_tail _ _ (kn_tail _ _ (kn_tail _ _ k))).snoc (.inr (.tail _ (.head _))) (by first | decide | (with_reducible first | exact n0 _ | exact f5 (by assumption) | exact a3 (by assumption) (by assumption) | exact b26 (by assumption) | exact a26 (by assumption)) | (first | lia | omega)) (by first | decide | (with_reducible first | exact n0 _ | exact f5 (by assumption) | exact a3 (by assumption) (by assumption) | exact b26 (by assumption) | exact a26 (by assumption)) | (first | lia | omega))
    have hsum : sumLen ((ns.take (i + 1)).map (textAt xs)) = sumS ((pairsOf xs ws ns).take i) + x.length := by
      rw [sumLen_texts xs ws _ (fun k hk => by rw [L.lx]; exact hns k (List.mem_of_mem_take hk)), show pairsOf xs ws (ns.take (i + 1)) = (pairsOf xs ws ns).take (i + 1) by simp [pairsOf, List.map_take], take_snoc (hPi hk), pairAt, sumS_snoc, hxl]
    have hbd := sumS_take_bd L hns hn i
    refine w_perm bring3 (w_len_pile (hA'.le (by first | decide | (with_reducible first | exact n0 _ | exact f5 (by assumption) | exact a3 (by assumption) (by assumption) | exact b26 (by assumption) | exact a26 (by assumption)) | (first | lia | omega))) (.inr (.head _)) (.inr (.tail _ (.tail _ (.head _)))) hpc2 ?_ ?_ fun tl => ?_)
    · rw [hsum]; (first | lia | omega)
    · rw [hsum]; (first | lia | omega)
    rw [hsum]
    refine w_mul (mulOk_small (by first | decide | (with_reducible first | exact n0 _ | exact f5 (by assumption) | exact a3 (by assumption) (by assumption) | exact b26 (by assumption) | exact a26 (by assumption)) | (first | lia | omega))) fun _ => ?_
    refine w_iadd fun _ => ?_
    have hval : fwd start ((pairsOf xs ws ns).take i) + w * (start + (sumS ((pairsOf xs ws ns).take i) + (x.length : Int))) = fwd start ((pairsOf xs ws ns).take (i + 1)) := by
      rw [take_snoc (hPi hk), pairAt, fwd_snoc, hwd, hxl, show start + (sumS ((pairsOf xs ws ns).take i) + (x.length : Int)) = start + sumS ((pairsOf xs ws ns).take i) + x.length by (first | lia | omega)]
    rw [hval]
    refine w_store_localK ks3 (w_perm (bring1.trans (bring2.cons _)) (w_execs_nil ?_))
    rw [hJ1]
    refine ⟨g1, g2, g3, ⟨_, rfl⟩, _, (T, isPiece x) :: τ, rfl, ?_⟩
    · rw [take_snoc hk, List.map_append, List.map_cons, List.map_nil, hxt]
      exact (hpc.mono kn_tail).snoc (.inr (.head _)) (by first | decide | (with_reducible first | exact n0 _ | exact f5 (by assumption) | exact a3 (by assumption) (by assumption) | exact b26 (by assumption) | exact a26 (by assumption)) | (first | lia | omega)) (by first | decide | (with_reducible first | exact n0 _ | exact f5 (by assumption) | exact a3 (by assumption) (by assumption) | exact b26 (by assumption) | exact a26 (by assumption)) | (first | lia | omega))
  · rintro m₁ σ₁ hj
    rw [hJ1] at hj
    refine and5 (hj) fun hp hrow hst oq3 oh => ?_; try clear hj; obtain ⟨tb, hb⟩ := oq3; obtain ⟨vs, τ, rfl, hpc⟩ := oh
    clear hJ1 J1
    rw [hrl, ← hPl, List.take_length] at hb
    refine w_keep (σ' := [(128, isTab)]) (.cons _ (.cons _ (.cons_cons _ (List.nil_sublist _)))) ?_
    clear hpc vs τ hp
    refine w_execs_cons (w_gen fun Qs4 ks4 => w_assign_name (w_local hst (w_store_localK ks4 ?_)))
    refine w_execs_cons (w_gen fun Qs5 ks5 => w_assign_name (w_int fun _ => w_store_localK ks5 ?_))
    refine w_execs_cons (w_gen fun Qs6 ks6 => w_assign_name (w_Call (w_builtin rfl (by boot_fast) ?_)))
    refine w_list_gi (hA'.le (by first | decide | (with_reducible first | exact n0 _ | exact f5 (by assumption) | exact a3 (by assumption) (by assumption) | exact b26 (by assumption) | exact a26 (by assumption)) | (first | lia | omega))) (w_args_cons (w_binop (w_ListComp rfl (w_local hrow (w_iter_list (.inl hr') fun I2 hI2 => ?_)))))
    refine ⟨I2, fun i => [(I2, isListIter row i)], rv.length, _, [(128, isTab)], rfl, rfl, iter_list hA'.hd hr' (Ne.symm hI2), by rw [hrl, sizeLine_eq]; (first | lia | omega), fun i rs σ => IntsOf rs (((pairsOf xs ws ns).take i).map (·.2)) ∧ σ = [(128, isTab)], ⟨.nil, rfl⟩, ?_, ?_⟩
    · rintro F' C i v τ m₂ rs σ₂ hi hlen ⟨hv, rfl⟩ ⟨hrs, rfl⟩
      rw [hrl] at hi
      obtain ⟨k, hk⟩ : ∃ k, ns[i]? = some k := ⟨_, List.getElem?_eq_getElem (hn ▸ hi)⟩
      have hk5 : k < 5 := hns k (List.mem_of_getElem? hk)
      obtain ⟨tk, hv'⟩ := hri.get (natsOf_get hk)
      rw [hv] at hv'
      cases hv'
      obtain ⟨x, oh⟩ := L.text hk5; refine and5 oh fun hx hxt hxl hx7 hx26 => ?_; clear oh
      obtain ⟨tx', htx⟩ := hti.get hx
      refine w_store_name (w_store_local (w_tests_nil ?_))
      show W _ _ _ _ _
      refine w_Call (w_builtin rfl (by boot_fast) (w_cw_builtin (w_args_cons (w_subscript (w_cell (.inl ct) (w_local rfl ?_))))))
      refine w_item_list (vs := tv) (.inl ht') (by first | decide | (with_reducible first | exact n0 _ | exact f5 (by assumption) | exact a3 (by assumption) (by assumption) | exact b26 (by assumption) | exact a26 (by assumption)) | (first | lia | omega)) (by first | decide | (with_reducible first | exact n0 _ | exact f5 (by assumption) | exact a3 (by assumption) (by assumption) | exact b26 (by assumption) | exact a26 (by assumption)) | (first | lia | omega)) htx (w_args_nil ?_)
      refine w_len_str (by first | decide | (with_reducible first | exact n0 _ | exact f5 (by assumption) | exact a3 (by assumption) (by assumption) | exact b26 (by assumption) | exact a26 (by assumption)) | (first | lia | omega)) fun t => ⟨?_, rfl⟩
      rw [take_snoc (hPi hk), List.map_append, List.map_cons, List.map_nil, pairAt, hxl]
      exact hrs.snoc _ _
    · rintro rs σ' D ⟨hrs, rfl⟩
      rw [hrl, ← hPl, List.take_length] at hrs
      have hl5 : ((pairsOf xs ws ns).map (·.2)).length = 5 := by rw [List.length_map, hPl]
      have hrs5 : rs.length = 5 := by rw [hrs.len, hl5]
      refine w_List (w_args_cons (w_int fun t1 => w_args_cons (w_int fun t2 => w_args_nil (w_newList (szL _ (by simp)) fun E => ?_))))
      refine w_ladd (vs := rs) (ws := [.int 127 t1, .int 1 t2]) (.inr (.tail _ (.head _))) (.inr (.head _)) (by rw [sizeLine_eq]; simp; (first | lia | omega)) fun G => w_args_nil ?_
      have hgi := gi_ints (n := 0) hrs hl5 (fun z hz => by
        obtain ⟨p, hp, rfl⟩ := List.mem_map.mp hz
        have := pairs_bd L hns p hp
        (first | lia | omega)) (t1 := t1) (t2 := t2)
      refine ⟨G, _, 5, _, rfl, rfl, by (first | lia | omega), by simp; (first | lia | omega), hgi.1, hgi.2.1, fun front => ?_⟩
      rw [hgi.2.2]
      refine w_keep (σ' := [(front, isList rs), (128, isTab)]) (.cons_cons _ (.cons _ (.cons _ (.cons_cons _ (List.nil_sublist _))))) ?_
      refine w_store_localK ks6 ?_
      refine w_post_keep (w_perm (List.Perm.swap _ _ _) (w_frame (σ₁ := [(128, isTab)]) (σ₂ := [(front, isList rs)]) fun B' hB' => ?_))
      refine w_gen fun Q1 k1 => ?_
      have hr2 : BI B' row (isList rv) := hB' _ _ (.inl hr')
      have ht2 : BI B' tx (isList tv) := hB' _ _ (.inl ht')
      have hw2 : BI B' wt (isList wv) := hB' _ _ (.inl hw')
      have ct2 : BI B' (X'.L + 1) (isCell (.ref tx)) := hB' _ _ (.inl ct)
      have cw2 : BI B' (X'.L + 1 + 1) (isCell (.ref wt)) := hB' _ _ (.inl cw)
      have hf2 : BI B' front (isList rs) := hB' _ _ (.inr (.head _))
      have hfl : rs.length = 5 := hrs5
      refine w_execs_cons (w_For (w_Call (w_builtin rfl (by boot_fast) (w_cw_type ?_))))
      refine w_args_cons (w_local hrow (w_args_cons (w_local rfl (w_args_nil (w_zip (xs := rv) (ys := rs) (.inl hr2) (.inl hf2) fun z TI TO i1 i2 => ?_)))))
      refine w_iter_zip ?_
      obtain ⟨J2, hJ2⟩ : ∃ J : Nat → Vars → Led → Prop, J = (fun i m σ => m "row" = some (.ref row) ∧ m "start" = some (.int start ts) ∧ (∃ t, m "by_length" = some (.int (fwd start (pairsOf xs ws ns)) t)) ∧ m "front" = some (.ref front) ∧
          (∃ t, m "place" = some (.int (start + sumS ((pairsOf xs ws ns).take i)) t)) ∧ (∃ t, m "by_sizes" = some (.int (fwd start ((pairsOf xs ws ns).take i)) t)) ∧ σ = [(128, isTab)]) := ⟨_, rfl⟩
      refine w_loop (X := X'.withB B') (its := fun i => zipIts .none z TI TO i1 i2 row front i) (σ := [(128, isTab)]) (iter_zip hA'.hd hr2 hf2 (by rw [hrl, hrs5]))
        J2 ?_ ?_ ?_
      · rw [hJ2]
        refine ⟨hrow, hst, ⟨_, hb⟩, rfl, ⟨ts, ?_⟩, ⟨_, rfl⟩, rfl⟩
        show some _ = some _
        simp [sumS]
      · rintro F' i v τ m₂ σ₂ hi ⟨T, xv, yv, rfl, hxv, hyv, rfl⟩ hj
        rw [hJ2] at hj
        refine and7 (hj) fun j1 j2 oq2 j4 oq4 oq5 oq6 => ?_; try clear hj; obtain ⟨t3, j3⟩ := oq2; obtain ⟨t5, j5⟩ := oq4; obtain ⟨t6, j6⟩ := oq5; subst oq6
        rw [hrl] at hi
        obtain ⟨k, hk⟩ : ∃ k, ns[i]? = some k := ⟨_, List.getElem?_eq_getElem (hn ▸ hi)⟩
        have hk5 : k < 5 := hns k (List.mem_of_getElem? hk)
        obtain ⟨tk, hv'⟩ := hri.get (natsOf_get hk)
        rw [hxv] at hv'
        cases hv'
        obtain ⟨x, oh⟩ := L.text hk5; refine and5 oh fun hx hxt hxl hx7 hx26 => ?_; clear oh
        obtain ⟨w, oh⟩ := L.weight hk5; refine and4 oh fun hww hwd hw1 hw3 => ?_; clear oh
        obtain ⟨tw', htw⟩ := hwi.get hww
        obtain ⟨tz, hz⟩ := hrs.get (i := i) (n := (x.length : Int)) (by simp [hPi hk, pairAt, hxl])
        rw [hyv] at hz
        cases hz
        refine w_unpack_tup hA'.hd (.inr (.head _)) rfl rfl (w_inorder_cons (w_store_name (w_store_local (w_inorder_cons (w_store_name (w_store_local (w_inorder_nil ?_)))))))
        refine w_keep (σ' := [(128, isTab)]) (.cons _ (.refl _)) ?_
        have g1 : upd (upd m₂ "k" (.int (k : Int) tk)) "size" (.int (x.length : Int) tz) "row" = some (.ref row) := j1
        have g2 : upd (upd m₂ "k" (.int (k : Int) tk)) "size" (.int (x.length : Int) tz) "start" = some (.int start ts) := j2
        have g3 : upd (upd m₂ "k" (.int (k : Int) tk)) "size" (.int (x.length : Int) tz) "by_length" = some _ := j3
        have g4 : upd (upd m₂ "k" (.int (k : Int) tk)) "size" (.int (x.length : Int) tz) "front" = some _ := j4
        have g5 : upd (upd m₂ "k" (.int (k : Int) tk)) "size" (.int (x.length : Int) tz) "place" = some _ := j5
        have g6 : upd (upd m₂ "k" (.int (k : Int) tk)) "size" (.int (x.length : Int) tz) "by_sizes" = some _ := j6
        have g7 : upd (upd m₂ "k" (.int (k : Int) tk)) "size" (.int (x.length : Int) tz) "k" = some (.int (k : Int) tk) := rfl
        have g8 : upd (upd m₂ "k" (.int (k : Int) tk)) "size" (.int (x.length : Int) tz) "size" = some (.int (x.length : Int) tz) := rfl
        generalize upd (upd m₂ "k" (.int (k : Int) tk)) "size" (.int (x.length : Int) tz) = m₃ at g1 g2 g3 g4 g5 g6 g7 g8 ⊢
        have hP1 : start + sumS ((pairsOf xs ws ns).take i) + (x.length : Int) = start + sumS ((pairsOf xs ws ns).take (i + 1)) := by
          rw [take_snoc (hPi hk), pairAt, sumS_snoc, hxl]; (first | lia | omega)
        have hP2 : fwd start ((pairsOf xs ws ns).take i) + w * (start + sumS ((pairsOf xs ws ns).take (i + 1))) = fwd start ((pairsOf xs ws ns).take (i + 1)) := by
          rw [← hP1, take_snoc (hPi hk), pairAt, fwd_snoc, hwd, hxl]
        refine w_execs_cons (w_gen fun Qs7 ks7 => w_aug_name (w_load_local g5 (w_local g8 (w_iadd fun _ => ?_))))
        rw [hP1]
        refine w_store_localK ks7 (w_execs_cons (w_gen fun Qs8 ks8 => w_aug_name (w_load_local g6 (w_binop (w_subscript (w_cell (.inl cw2) (w_local g7 ?_)))))))
        refine w_item_list (vs := wv) (.inl hw2) (by first | decide | (with_reducible first | exact n0 _ | exact f5 (by assumption) | exact a3 (by assumption) (by assumption) | exact b26 (by assumption) | exact a26 (by assumption)) | (first | lia | omega)) (by first | decide | (with_reducible first | exact n0 _ | exact f5 (by assumption) | exact a3 (by assumption) (by assumption) | exact b26 (by assumption) | exact a26 (by assumption)) | (first | lia | omega)) htw (w_local rfl (w_mul (mulOk_small (by first | decide | (with_reducible first | exact n0 _ | exact f5 (by assumption) | exact a3 (by assumption) (by assumption) | exact b26 (by assumption) | exact a26 (by assumption)) | (first | lia | omega))) fun _ => w_iadd fun _ => ?_))
        rw [hP2]
        exact w_store_localK ks8 (w_execs_nil (by rw [hJ2]; exact ⟨g1, g2, ⟨_, g3⟩, g4, ⟨_, rfl⟩, ⟨_, rfl⟩, rfl⟩))
      · rintro m₂ σ₂ hj
        rw [hJ2] at hj
        refine and7 (hj) fun j1 j2 oq2 j4 oq4 oq5 oq6 => ?_; try clear hj; obtain ⟨t3, j3⟩ := oq2; obtain ⟨t5, j5⟩ := oq4; obtain ⟨t6, j6⟩ := oq5; subst oq6
        clear hJ2 J2
        rw [hrl, ← hPl, List.take_length] at j6
        clear j5 hrow hst hb
        have hrr : IntsOf rv.reverse (natsOf ns.reverse) := by rw [← natsOf_rev]; exact hri.reverse
        have hrrl : rv.reverse.length = 5 := by rw [List.length_reverse, hrl]
        have hnr : ns.reverse.length = 5 := by rw [List.length_reverse, hn]
        have hnsr : ∀ k ∈ ns.reverse, k < 5 := fun k hk => hns k (List.mem_reverse.mp hk)
        have hQl : (pairsOf xs ws ns.reverse).length = 5 := by rw [pairsOf, List.length_map, hnr]
        have hQi : ∀ {i k : Nat}, ns.reverse[i]? = some k → (pairsOf xs ws ns.reverse)[i]? = some (pairAt xs ws k) := fun {i k} hk => by simp only [pairsOf, List.getElem?_map, hk, Option.map_some]
        refine w_execs_cons (w_gen fun Qs9 ks9 => w_assign_name (w_int fun _ => w_store_localK ks9 ?_))
        refine w_execs_cons (w_gen fun Qs10 ks10 => w_assign_name (w_int fun _ => w_store_localK ks10 ?_))
        refine w_execs_cons (w_gen fun Qs11 ks11 => w_assign_name (w_Call (w_builtin rfl (by boot_fast) ?_)))
        refine w_list_gi (X := X'.withB B') (hA'.le (by first | decide | (with_reducible first | exact n0 _ | exact f5 (by assumption) | exact a3 (by assumption) (by assumption) | exact b26 (by assumption) | exact a26 (by assumption)) | (first | lia | omega))) (w_args_cons (w_binop (w_ListComp rfl (w_cut_list (a := row) (vs := rv) (lo := none) (hi := none) (st := some (-1)) ?_))))
        refine w_local j1 (w_part_none (w_part_none (w_part_some (w_unary (w_int fun _ => w_neg_int fun tn => ⟨row, rv, none, none, some (-1), rfl, .inl hr2, by rw [hrl, sizeLine_eq]; (first | lia | omega), .none, .none, .int _ _, by simp, fun R => ?_⟩)))))
        rw [slice_rev5 hrl]
        refine w_iter_list (.inr (.head _)) fun I3 hI3 => ?_
        refine ⟨I3, fun i => [(I3, isListIter R i)] ++ [(R, isList rv.reverse)], rv.reverse.length, _, [(128, isTab)], rfl, rfl, iter_listR hA'.hd (.inr (.head _)) (Ne.symm hI3), by rw [hrrl, sizeLine_eq]; (first | lia | omega), fun i rs σ => IntsOf rs (((pairsOf xs ws ns.reverse).take i).map (·.1)) ∧ σ = [(128, isTab)], ⟨.nil, rfl⟩, ?_, ?_⟩
        · rintro F' C i v τ m₂ rs σ₂ hi hlen ⟨hv, rfl⟩ ⟨hrs, rfl⟩
          rw [hrrl] at hi
          obtain ⟨k, hk⟩ : ∃ k, ns.reverse[i]? = some k := ⟨_, List.getElem?_eq_getElem (hnr ▸ hi)⟩
          have hk5 : k < 5 := hnsr k (List.mem_of_getElem? hk)
          obtain ⟨tk, hv'⟩ := hrr.get (natsOf_get hk)
          rw [hv] at hv'
          cases hv'
          obtain ⟨w, oh⟩ := L.weight hk5; refine and4 oh fun hww hwd hw1 hw3 => ?_; clear oh
          obtain ⟨tw', htw⟩ := hwi.get hww
          refine w_store_name (w_store_local (w_tests_nil ?_))
          show W _ _ _ _ _
          refine w_subscript (w_cell (.inl cw2) (w_local rfl ?_))
          refine w_item_list (vs := wv) (.inl hw2) (by first | decide | (with_reducible first | exact n0 _ | exact f5 (by assumption) | exact a3 (by assumption) (by assumption) | exact b26 (by assumption) | exact a26 (by assumption)) | (first | lia | omega)) (by first | decide | (with_reducible first | exact n0 _ | exact f5 (by assumption) | exact a3 (by assumption) (by assumption) | exact b26 (by assumption) | exact a26 (by assumption)) | (first | lia | omega)) htw ⟨?_, rfl⟩
          rw [take_snoc (hQi hk), List.map_append, List.map_cons, List.map_nil, pairAt, hwd]
          exact hrs.snoc _ _
        · rintro rs σ' D ⟨hrs, rfl⟩
          rw [hrrl, ← hQl, List.take_length] at hrs
          have hl5 : ((pairsOf xs ws ns.reverse).map (·.1)).length = 5 := by rw [List.length_map, hQl]
          have hrs5 : rs.length = 5 := by rw [hrs.len, hl5]
          refine w_List (w_args_cons (w_int fun t1 => w_args_cons (w_int fun t2 => w_args_nil (w_newList (szL _ (by simp)) fun E => ?_))))
          refine w_ladd (vs := rs) (ws := [.int 127 t1, .int 1 t2]) (.inr (.tail _ (.head _))) (.inr (.head _)) (by rw [sizeLine_eq]; simp; (first | lia | omega)) fun G => w_args_nil ?_
          have hgi := gi_ints (n := 0) hrs hl5 (fun z hz => by
            obtain ⟨p, hp, rfl⟩ := List.mem_map.mp hz
            have := pairs_bd L hnsr p hp
            (first | lia | omega)) (t1 := t1) (t2 := t2)
          refine ⟨G, _, 5, _, rfl, rfl, by (first | lia | omega), by simp; (first | lia | omega), hgi.1, hgi.2.1, fun back => ?_⟩
          rw [hgi.2.2]
          refine w_keep (σ' := [(back, isList rs), (128, isTab)]) (.cons_cons _ (.cons _ (.cons _ (.cons_cons _ (List.nil_sublist _))))) ?_
          refine w_store_localK ks11 ?_
          refine w_post_keep (w_perm (List.Perm.swap _ _ _) (w_frame (σ₁ := [(128, isTab)]) (σ₂ := [(back, isList rs)]) fun B3 hB3 => ?_))
          refine w_gen fun Q2 k2 => ?_
          have hr3 : BI B3 row (isList rv) := hB3 _ _ (.inl hr2)
          have ht3 : BI B3 tx (isList tv) := hB3 _ _ (.inl ht2)
          have ct3 : BI B3 (X'.L + 1) (isCell (.ref tx)) := hB3 _ _ (.inl ct2)
          have hf3 := hB3 _ _ (.inl hf2)
          have hb3 : BI B3 back (isList rs) := hB3 _ _ (.inr (.head _))
          refine w_execs_cons (w_For (w_Call (w_builtin rfl (by boot_fast) (w_cw_type ?_))))
          refine w_args_cons (w_cut_list (a := row) (vs := rv) (lo := none) (hi := none) (st := some (-1)) ?_)
          refine w_local j1 (w_part_none (w_part_none (w_part_some (w_unary (w_int fun _ => w_neg_int fun tn => ⟨row, rv, none, none, some (-1), rfl, .inl hr3, by rw [hrl, sizeLine_eq]; (first | lia | omega), .none, .none, .int _ _, by simp, fun R2 => ?_⟩)))))
          rw [slice_rev5 hrl]
          refine w_args_cons (w_local rfl (w_args_nil (w_zip (xs := rv.reverse) (ys := rs) (.inr (.head _)) (.inl hb3) fun z TI TO i1 i2 => ?_)))
          refine w_iter_zip ?_
          obtain ⟨J3, hJ3⟩ : ∃ J : Nat → Vars → Led → Prop, J = (fun i m σ => m "start" = some (.int start ts) ∧ (∃ t, m "by_length" = some (.int (fwd start (pairsOf xs ws ns)) t)) ∧ (∃ t, m "by_sizes" = some (.int (fwd start (pairsOf xs ws ns)) t)) ∧ m "front" = some (.ref front) ∧ m "back" = some (.ref back) ∧
              (∃ t, m "waiting" = some (.int (sumW ((pairsOf xs ws ns.reverse).take i)) t)) ∧ (∃ t, m "by_weights" = some (.int (fwd 0 (swapP ((pairsOf xs ws ns.reverse).take i))) t)) ∧ σ = [(128, isTab)]) := ⟨_, rfl⟩
          refine w_loop (X := (X'.withB B').withB B3) (its := fun i => zipIts .none z TI TO i1 i2 R2 back i ++ [(R2, isList rv.reverse)]) (σ := [(128, isTab)]) (iter_zipR hA'.hd (.inr (.head _)) (.inl hb3) (by rw [hrrl, hrs5]))
            J3 ?_ ?_ ?_
          · rw [hJ3]; exact ⟨j2, ⟨_, j3⟩, ⟨_, j6⟩, j4, rfl, ⟨_, rfl⟩, ⟨_, rfl⟩, rfl⟩
          · rintro F' i v τ m₂ σ₂ hi ⟨T, xv, yv, rfl, hxv, hyv, rfl⟩ hj
            rw [hJ3] at hj
            refine and8 (hj) fun j1 oq1 oq2 j4 j5 oq5 oq6 oq7 => ?_; try clear hj; obtain ⟨t2', j2⟩ := oq1; obtain ⟨t3', j3⟩ := oq2; obtain ⟨t6', j6⟩ := oq5; obtain ⟨t7', j7⟩ := oq6; subst oq7
            rw [hrrl] at hi
            obtain ⟨k, hk⟩ : ∃ k, ns.reverse[i]? = some k := ⟨_, List.getElem?_eq_getElem (hnr ▸ hi)⟩
            have hk5 : k < 5 := hnsr k (List.mem_of_getElem? hk)
            obtain ⟨tk, hv'⟩ := hrr.get (natsOf_get hk)
            rw [hxv] at hv'
            cases hv'
            obtain ⟨x, oh⟩ := L.text hk5; refine and5 oh fun hx hxt hxl hx7 hx26 => ?_; clear oh
            obtain ⟨w, oh⟩ := L.weight hk5; refine and4 oh fun hww hwd hw1 hw3 => ?_; clear oh
            obtain ⟨tx', htx⟩ := hti.get hx
            obtain ⟨tz, hz⟩ := hrs.get (i := i) (n := w) (by simp only [List.getElem?_map, hQi hk, Option.map_some, pairAt, hwd])
            rw [hyv] at hz
            cases hz
            refine w_unpack_tup hA'.hd (.inr (.head _)) rfl rfl (w_inorder_cons (w_store_name (w_store_local (w_inorder_cons (w_store_name (w_store_local (w_inorder_nil ?_)))))))
            refine w_keep (σ' := [(128, isTab)]) (.cons _ (.refl _)) ?_
            have g1 : upd (upd m₂ "k" (.int (k : Int) tk)) "weight" (.int w tz) "start" = some (.int start ts) := j1
            have g2 : upd (upd m₂ "k" (.int (k : Int) tk)) "weight" (.int w tz) "by_length" = some _ := j2
            have g3 : upd (upd m₂ "k" (.int (k : Int) tk)) "weight" (.int w tz) "by_sizes" = some _ := j3
            have g4 : upd (upd m₂ "k" (.int (k : Int) tk)) "weight" (.int w tz) "front" = some _ := j4
            have g5 : upd (upd m₂ "k" (.int (k : Int) tk)) "weight" (.int w tz) "back" = some _ := j5
            have g6 : upd (upd m₂ "k" (.int (k : Int) tk)) "weight" (.int w tz) "waiting" = some _ := j6
            have g7 : upd (upd m₂ "k" (.int (k : Int) tk)) "weight" (.int w tz) "by_weights" = some _ := j7
            have g8 : upd (upd m₂ "k" (.int (k : Int) tk)) "weight" (.int w tz) "k" = some (.int (k : Int) tk) := rfl
            have g9 : upd (upd m₂ "k" (.int (k : Int) tk)) "weight" (.int w tz) "weight" = some (.int w tz) := rfl
            generalize upd (upd m₂ "k" (.int (k : Int) tk)) "weight" (.int w tz) = m₃ at g1 g2 g3 g4 g5 g6 g7 g8 g9 ⊢
            have hP1 : sumW ((pairsOf xs ws ns.reverse).take i) + w = sumW ((pairsOf xs ws ns.reverse).take (i + 1)) := by
              rw [take_snoc (hQi hk), pairAt, sumW_snoc, hwd]
            have hP2 : fwd 0 (swapP ((pairsOf xs ws ns.reverse).take i)) + (x.length : Int) * sumW ((pairsOf xs ws ns.reverse).take (i + 1)) = fwd 0 (swapP ((pairsOf xs ws ns.reverse).take (i + 1))) := by
              rw [← hP1, take_snoc (hQi hk), pairAt, swapP_snoc, fwd_snoc, sumS_swap, hwd, hxl, Int.zero_add]
            refine w_execs_cons (w_gen fun Qs12 ks12 => w_aug_name (w_load_local g6 (w_local g9 (w_iadd fun _ => ?_))))
            rw [hP1]
            refine w_store_localK ks12 (w_execs_cons (w_gen fun Qs13 ks13 => w_aug_name (w_load_local g7 (w_binop ?_))))
            refine w_Call (w_builtin rfl (by boot_fast) (w_cw_builtin (w_args_cons (w_subscript (w_cell (.inl ct3) (w_local g8 ?_))))))
            refine w_item_list (vs := tv) (.inl ht3) (by first | decide | (with_reducible first | exact n0 _ | exact f5 (by assumption) | exact a3 (by assumption) (by assumption) | exact b26 (by assumption) | exact a26 (by assumption)) | (first | lia | omega)) (by first | decide | (with_reducible first | exact n0 _ | exact f5 (by assumption) | exact a3 (by assumption) (by assumption) | exact b26 (by assumption) | exact a26 (by assumption)) | (first | lia | omega)) htx (w_args_nil (w_len_str (by first | decide | (with_reducible first | exact n0 _ | exact f5 (by assumption) | exact a3 (by assumption) (by assumption) | exact b26 (by assumption) | exact a26 (by assumption)) | (first | lia | omega)) fun _ => w_local rfl (w_mul (mulOk_small (by first | decide | (with_reducible first | exact n0 _ | exact f5 (by assumption) | exact a3 (by assumption) (by assumption) | exact b26 (by assumption) | exact a26 (by assumption)) | (first | lia | omega))) fun _ => w_iadd fun _ => ?_)))
            rw [hP2]
            exact w_store_localK ks13 (w_execs_nil (by rw [hJ3]; exact ⟨g1, ⟨_, g2⟩, ⟨_, g3⟩, g4, g5, ⟨_, rfl⟩, ⟨_, rfl⟩, rfl⟩))
          · rintro m₂ σ₂ hj
            rw [hJ3] at hj
            refine and8 (hj) fun j1 oq1 oq2 j4 j5 oq5 oq6 oq7 => ?_; try clear hj; obtain ⟨t2', j2⟩ := oq1; obtain ⟨t3', j3⟩ := oq2; obtain ⟨t6', j6⟩ := oq5; obtain ⟨t7', j7⟩ := oq6; subst oq7
            clear hJ3 J3
            rw [hrrl, ← hQl, List.take_length, pairsOf_rev] at j6 j7
            rw [sumW_rev] at j6
            refine w_execs_cons (w_return (w_List (w_args_cons (w_local j2 (w_args_cons (w_local j3 (w_args_cons (w_binop (w_local j7 (w_binop (w_local j1 (w_local j6 ?_))))))))))))
            refine w_mul (mulOk_small (by first | decide | (with_reducible first | exact n0 _ | exact f5 (by assumption) | exact a3 (by assumption) (by assumption) | exact b26 (by assumption) | exact a26 (by assumption)) | (first | lia | omega))) fun _ => w_add fun _ => w_args_cons (w_binop (w_Call (w_builtin rfl (by boot_fast) (w_cw_builtin (w_args_cons (w_local j4 (w_args_nil ?_)))))))
            refine w_len_list (.inl hf3) (by rw [hfl]; decide) fun _ => w_Call (w_builtin rfl (by boot_fast) (w_cw_builtin (w_args_cons (w_local j5 (w_args_nil ?_)))))
            refine w_len_list (.inl hb3) (by rw [hrs5]; decide) fun _ => w_add fun _ => w_args_nil (w_newList (szL _ (by simp)) fun D' => ?_)
            rw [hfl, hrs5]
            exact k2 _ _ _ ⟨_, List.sublist_append_left _ _, k1 _ _ _ ⟨_, List.sublist_append_left _ _, k0 _ _ _ (h D' _ (.cons ⟨_, rfl⟩ (.cons ⟨_, rfl⟩ (.cons ⟨_, rfl⟩ (.cons ⟨_, rfl⟩ .nil)))))⟩⟩
end
end Mine
end
end
section
open PySem PySem.W PySem.Calls PyProof.Rows PySem.Spec
set_option Elab.async false
set_option linter.unusedVariables false
set_option maxRecDepth 100000
noncomputable section
namespace Mine
theorem IntsOf.items {vs : List Value} {ns : List Int} (h : IntsOf vs ns) : ∃ xs : Array (Int × Tok), vs.toArray = intItems xs ∧ xs.size = ns.length ∧ ∀ i, i < ns.length → numAt xs i = ns.getD i 0 := by
  have : ∃ l : List (Int × Tok), vs = l.map (fun p => Value.int p.1 p.2) ∧ l.map (·.1) = ns := by
    induction h with
    | nil => exact ⟨[], rfl, rfl⟩
    | @cons v n vs ns hd _ ih =>
      obtain ⟨t, rfl⟩ := hd
      obtain ⟨l, rfl, rfl⟩ := ih
      exact ⟨(n, t) :: l, rfl, rfl⟩
  obtain ⟨l, rfl, rfl⟩ := this
  refine ⟨l.toArray, by simp [intItems], by simp, fun i hi => ?_⟩
  have hi' : i < l.length := by simpa using hi
  simp [numAt, hi']
theorem preSum_sum (ns : List Int) (f : Nat → Int) (h : ∀ i, i < ns.length → f i = ns.getD i 0) : preSum f ns.length = ns.sum := by
  rw [preSum_take]
  congr 1
  refine List.ext_getElem? fun i => ?_
  rw [List.getElem?_map]
  by_cases hi : i < ns.length
  · rw [List.getElem?_range hi, List.getElem?_eq_getElem hi]
    simp only [Option.map_some]
    rw [h i hi]; simp [hi]
  · rw [List.getElem?_eq_none (by simp; (first | lia | omega)), List.getElem?_eq_none (by first | decide | (with_reducible first | exact n0 _ | exact f5 (by assumption) | exact a3 (by assumption) (by assumption) | exact b26 (by assumption) | exact a26 (by assumption)) | (first | lia | omega))]; rfl
noncomputable def IsMin (v : Int) (ns : List Int) : Prop := v ∈ ns ∧ ∀ z ∈ ns, v ≤ z
section
variable {X : Fm} {m : Vars} {σ : Led} {Q : Value → Vars → Led → Prop}
theorem w_sum_list {a : Addr} {vs : List Value} {ns : List Int} (hA : X.A.handled = none) (ha : Kn X.B σ a (isList vs)) (hi : IntsOf vs ns) (h : ∀ t, Q (.int ns.sum t) m σ) : W X m σ (call (.builtin "sum") [.ref a]) Q := fun s S => by
  obtain ⟨xs, oh⟩ := hi.items; refine and3 oh fun he hs hn => ?_; clear oh
  have L := isList_at (S.kn ha)
  rw [he] at L
  refine sum_intListG hA L fun h' tk t' hk => ?_
  rw [hs, preSum_sum ns _ hn]
  exact ⟨m, _, S.keeps hk, h _⟩
theorem w_min_list {a : Addr} {vs : List Value} {ns : List Int} (hA : X.A.handled = none) (ha : Kn X.B σ a (isList vs)) (hi : IntsOf vs ns) (hne : 0 < ns.length) (h : ∀ v t, IsMin v ns → Q (.int v t) m σ) : W X m σ (call (.builtin "min") [.ref a]) Q := fun s S => by
  obtain ⟨xs, oh⟩ := hi.items; refine and3 oh fun he hs hn => ?_; clear oh
  have L := isList_at (S.kn ha)
  rw [he] at L
  refine min_intList hA L (by rw [hs]; exact hne) fun v h' tk hv hk => ?_
  obtain ⟨h1, h2⟩ := argBest_lt (numAt xs) (xs.size - 1)
  obtain ⟨t, rfl⟩ := intItems_at hv
  have hlt : argBest (fun i j => decide (numAt xs i < numAt xs j)) (xs.size - 1) < ns.length := by (first | lia | omega)
  refine ⟨m, _, S.keeps hk, h _ _ ⟨?_, fun z hz => ?_⟩⟩
  · rw [hn _ hlt]; simp [hlt]
  · obtain ⟨j, hj, rfl⟩ := List.mem_iff_getElem.mp hz
    have := h2 j (by first | decide | (with_reducible first | exact n0 _ | exact f5 (by assumption) | exact a3 (by assumption) (by assumption) | exact b26 (by assumption) | exact a26 (by assumption)) | (first | lia | omega))
    rwa [hn j hj, List.getD_eq_getElem?_getD, List.getElem?_eq_getElem hj, Option.getD_some] at this
theorem w_min2 {a b : Int} {t u : Tok} (hA : X.A.handled = none) (h : ∀ t, Q (.int (min a b) t) m σ) : W X m σ (call (.builtin "min") [.int a t, .int b u]) Q := fun s S => by
  refine min_two_ints hA fun h' tk hk => ?_
  split
  · rename_i hc
    have := h u
    rw [Int.min_eq_right (by first | decide | (with_reducible first | exact n0 _ | exact f5 (by assumption) | exact a3 (by assumption) (by assumption) | exact b26 (by assumption) | exact a26 (by assumption)) | (first | lia | omega))] at this
    exact ⟨m, _, S.keeps hk, this⟩
  · rename_i hc
    have := h t
    rw [Int.min_eq_left (by first | decide | (with_reducible first | exact n0 _ | exact f5 (by assumption) | exact a3 (by assumption) (by assumption) | exact b26 (by assumption) | exact a26 (by assumption)) | (first | lia | omega))] at this
    exact ⟨m, _, S.keeps hk, this⟩
theorem w_getAppend {a : Addr} {vs : List Value} {pl : Sem Bool} {Q : Value × List Value → Vars → Led → Prop} (ha : Kn X.B σ a (isList vs)) (h : Q (.builtin "list.append", [.ref a]) m σ) : W X m σ (getMethod (.ref a) "append" pl) Q := fun s S => by
  obtain ⟨_, e, n, rfl⟩ := S.kn ha
  exact Calls.getMethod_list_append e rfl rfl ⟨m, _, S, h⟩
end
noncomputable def isCellX : HP := fun o => ∃ v, o.data = .cell v
end Mine
end
end
section
open PySem PySem.W PySem.Calls PyProof.Rows PySem.Spec
set_option Elab.async false
set_option linter.unusedVariables false
set_option maxRecDepth 100000
noncomputable section
namespace Mine

noncomputable def bitOf (c k : Nat) : Bool := c / 2 ^ k % 2 == 1
noncomputable def insideOf (c : Nat) : List Nat := (List.range 5).filter (bitOf c)
noncomputable def wholeOf (S : Nat → Int) (c : Nat) : Int := ((insideOf c).map S).sum
noncomputable def candL (S W : Nat → Int) (l : List Int) (c k : Nat) : Int := l.getD (c - 2 ^ k) 0 + W k * wholeOf S c
noncomputable def leastStep (S W : Nat → Int) (l : List Int) (c : Nat) : List Int := l ++ [(((insideOf c).map (candL S W l c)).min?).getD 0]
noncomputable def leastUpto (S W : Nat → Int) (n : Nat) : List Int := (List.range n).foldl (fun l i => leastStep S W l (i + 1)) [0]
theorem leastUpto_succ (S W : Nat → Int) (n : Nat) : leastUpto S W (n + 1) = leastStep S W (leastUpto S W n) (n + 1) := by
  unfold leastUpto; rw [List.range_succ, List.foldl_append]; rfl
theorem leastUpto_len (S W : Nat → Int) (n : Nat) : (leastUpto S W n).length = n + 1 := by
  induction n with
  | zero => rfl
  | succ n ih => rw [leastUpto_succ]; unfold leastStep; rw [List.length_append, ih]; rfl
theorem isMin_min? {v : Int} {ns : List Int} (h : IsMin v ns) : ns.min?.getD 0 = v := by
  have : ns.min? = some v := List.min?_eq_some_iff.mpr ⟨h.1, h.2⟩
  rw [this]; rfl
theorem bit_val (c k : Nat) : (((c : Int).fdiv ((2 : Int) ^ k)).fmod 2 == 1) = bitOf c k := by
  have e1 : ((2 : Int) ^ k) = ((2 ^ k : Nat) : Int) := by push_cast; rfl
  have e2 : (c : Int).fdiv ((2 ^ k : Nat) : Int) = ((c / 2 ^ k : Nat) : Int) := by rw [Int.fdiv_eq_ediv_of_nonneg _ (Int.natCast_nonneg _)]; push_cast; rfl
  have e3 : (((c / 2 ^ k : Nat) : Int)).fmod 2 = ((c / 2 ^ k % 2 : Nat) : Int) := by rw [Int.fmod_eq_emod_of_nonneg _ (by decide)]; push_cast; rfl
  rw [e1, e2, e3]
  unfold bitOf
  cases h : c / 2 ^ k % 2 == 1 with
  | true => rw [beq_iff_eq.mp h]; rfl
  | false =>
    rw [beq_eq_false_iff_ne] at h ⊢
    (first | lia | omega)
theorem bit_le {c k : Nat} (h : bitOf c k = true) : 2 ^ k ≤ c := by
  unfold bitOf at h
  rw [beq_iff_eq] at h
  rcases Nat.lt_or_ge c (2 ^ k) with hlt | hge
  · rw [Nat.div_eq_of_lt hlt] at h; (first | lia | omega)
  · exact hge
theorem pow_small {i : Nat} (h : i < 5) : 1 ≤ (2 : Int) ^ i ∧ (2 : Int) ^ i ≤ 16 := by
  have : i = 0 ∨ i = 1 ∨ i = 2 ∨ i = 3 ∨ i = 4 := by (first | lia | omega)
  rcases this with rfl | rfl | rfl | rfl | rfl <;> decide
theorem inside_ne {c : Nat} (h0 : 1 ≤ c) (h1 : c < 32) : 0 < (insideOf c).length := by
  have : ∀ c : Fin 32, 1 ≤ c.val → 0 < (insideOf c.val).length := by decide
  exact this ⟨c, h1⟩ h0
theorem inside_lt {c k : Nat} (h : k ∈ insideOf c) : k < 5 ∧ bitOf c k = true := by
  unfold insideOf at h
  rw [List.mem_filter, List.mem_range] at h
  exact h
section
variable {X : Fm} {m : Vars} {σ : Led} {Q : Value → Vars → Led → Prop}
set_option maxHeartbeats 4000000 in
theorem wk_least {sz wt : Addr} {sv wv : List Value} {ss ws : List Int} (hA : Ok 6 X.A) (hs : Kn X.B σ sz (isList sv)) (hsi : IntsOf sv ss) (hw : Kn X.B σ wt (isList wv)) (hwi : IntsOf wv ws) (hsl : ss.length = 5) (hwl : ws.length = 5)
    (hwb : ∀ w ∈ ws, 1 ≤ w ∧ w ≤ 3) (h : ∀ t, Q (.int ((leastUpto (fun k => ss.getD k 0) (fun k => ws.getD k 0) 31).getD 31 0) t) m σ) : WK X m σ (.call (.ref 244) ⟨[.ref sz, .ref wt], []⟩) Q := by
  refine wk_defC (σ₁ := []) (σ₂ := σ) (n := 5) (binds := [("sizes", .ref sz), ("weights", .ref wt)]) rfl rfl hA rfl rfl (by decide) (fun L => rfl) ?_
  intro X' hC hK hF hA' _
  have hs' : BI X'.B sz (isList sv) := hK _ _ hs
  have hw' : BI X'.B wt (isList wv) := hK _ _ hw
  have cs : BI X'.B (X'.L + 1) (isCell (.ref sz)) := hF (_, _) (.tail _ (.head _))
  have cw : BI X'.B (X'.L + 1 + 1) (isCell (.ref wt)) := hF (_, _) (.head _)
  clear hF
  change W X' (fun _ => none) [(X'.L + 1 + 1 + 1 + 1 + 1, isCell0), (X'.L + 1 + 1 + 1 + 1, isCell0), (X'.L + 1 + 1 + 1, isCell0)] _ _
  generalize hS : (fun k => ss.getD k 0) = S at h
  generalize hW : (fun k => ws.getD k 0) = WW at h
  refine w_gen fun Q0 kk0 => ?_
  refine w_execs_cons (w_assign_name (w_List (w_args_cons (w_int fun t0 => w_args_nil (w_newList (szL _ (by simp)) fun D => ?_)))))
  refine w_perm bring3 (w_store_cell cell0_is ?_)
  refine w_execs_cons (w_For (w_Call (w_builtin rfl (by boot_fast) (w_cw_type (w_args_cons (w_int fun _ => w_args_cons (w_int fun _ => w_args_nil (w_range2 fun r => ?_))))))))
  refine w_iter_range (.inr (.head _)) (by decide) (by decide) (k := 31) (by decide) fun I => ?_
  obtain ⟨J1, hJ1⟩ : ∃ J : Nat → Vars → Led → Prop, J = (fun i m σ => ∃ vs P1 P2, IntsOf vs (leastUpto S WW i) ∧ (∀ o, P1 o → ∃ v0, o.data = .cell v0) ∧ (∀ o, P2 o → ∃ v0, o.data = .cell v0) ∧ σ = [(r, isRange 1 32 1), (X'.L + 1 + 1 + 1, isCell (.ref D)), (D, isList vs), (X'.L + 1 + 1 + 1 + 1 + 1, P1), (X'.L + 1 + 1 + 1 + 1, P2)]) := ⟨_, rfl⟩
  refine w_loop (its := fun i => [(I, isRangeIt (1 + (i : Nat) * 1) (((31 : Nat) : Int) - (i : Nat)) 1)]) (σ := [(r, isRange 1 32 1), (X'.L + 1 + 1 + 1, isCell (.ref D)), (D, isList [.int 0 t0]), (X'.L + 1 + 1 + 1 + 1 + 1, isCell0), (X'.L + 1 + 1 + 1 + 1, isCell0)]) (iter_range hA'.hd)
    J1 ?_ ?_ ?_
  · rw [hJ1]; exact ⟨_, _, _, .cons ⟨_, rfl⟩ .nil, cell0_is, cell0_is, rfl⟩
  · rintro F' i0 v τ m₁ σ₁ hi ⟨⟨tv, rfl⟩, rfl⟩ hj
    have hJn := congrFun hJ1 (i0 + 1)
    rw [hJ1] at hj
    obtain ⟨vs, P1, P2, oh⟩ := hj; refine and4 oh fun hvs hP1 hP2 oq3 => ?_; clear oh; subst oq3
    clear hJ1
    have hvl : vs.length = i0 + 1 := by rw [hvs.len, leastUpto_len]
    have e0 : (1 + (i0 : Int) * 1) = ((i0 + 1 : Nat) : Int) := by push_cast; (first | lia | omega)
    rw [e0]
    generalize hc : i0 + 1 = c at *
    refine w_store_name (w_perm bring4 (w_store_cell hP2 (w_gen fun Q1 kk1 => ?_)))
    refine w_execs_cons (w_assign_comp rfl (w_Call (w_builtin rfl (by boot_fast) (w_cw_type (w_args_cons (w_int fun _ => w_args_nil (w_range1 fun r2 => ?_)))))))
    refine w_iter_range (.inr (.head _)) (by decide) (by decide) (k := 5) (by decide) fun I2 => ?_
    obtain ⟨JA, hJA⟩ : ∃ J : Nat → List Value → Led → Prop, J = fun i rs σ => IntsOf rs (natsOf (((List.range 5).take i).filter (bitOf c))) ∧ σ = [(r2, isRange 0 5 1), (X'.L + 1 + 1 + 1 + 1, isCell (.int (c : Int) tv)), (r, isRange 1 32 1), (X'.L + 1 + 1 + 1, isCell (.ref D)), (D, isList vs), (X'.L + 1 + 1 + 1 + 1 + 1, P1)] := ⟨_, rfl⟩
    refine ⟨I2, fun i => [(I2, isRangeIt (0 + (i : Nat) * 1) (((5 : Nat) : Int) - (i : Nat)) 1)], 5, _, [(r2, isRange 0 5 1), (X'.L + 1 + 1 + 1 + 1, isCell (.int (c : Int) tv)), (r, isRange 1 32 1), (X'.L + 1 + 1 + 1, isCell (.ref D)), (D, isList vs), (X'.L + 1 + 1 + 1 + 1 + 1, P1)], rfl, rfl, iter_range hA'.hd, by rw [sizeLine_eq]; (first | lia | omega),
      JA, by rw [hJA]; exact ⟨.nil, rfl⟩, ?_, ?_⟩
    · rintro F2 C k v τ m₂ rs σ₂ hk hlen ⟨⟨tk, rfl⟩, rfl⟩ hj
      rw [hJA] at hj
      obtain ⟨hrs, rfl⟩ := hj
      have ek : (0 + (k : Int) * 1) = (k : Int) := by (first | lia | omega)
      rw [ek]
      have hp := pow_small hk
      refine w_store_name (w_store_local ?_)
      refine w_tests_one (w_true_compare (w_binop (w_binop (w_cell (.inr (.tail _ (.head _))) (w_binop (w_int fun _ => w_local rfl (w_pow (by first | decide | (with_reducible first | exact n0 _ | exact f5 (by assumption) | exact a3 (by assumption) (by assumption) | exact b26 (by assumption) | exact a26 (by assumption)) | (first | lia | omega)) (by first | decide | (with_reducible first | exact n0 _ | exact f5 (by assumption) | exact a3 (by assumption) (by assumption) | exact b26 (by assumption) | exact a26 (by assumption)) | (first | lia | omega)) (by decide) fun _ => ?_)))))))
      rw [Int.toNat_natCast]
      refine w_div (by first | decide | (with_reducible first | exact n0 _ | exact f5 (by assumption) | exact a3 (by assumption) (by assumption) | exact b26 (by assumption) | exact a26 (by assumption)) | (first | lia | omega)) (by first | decide | (with_reducible first | exact n0 _ | exact f5 (by assumption) | exact a3 (by assumption) (by assumption) | exact b26 (by assumption) | exact a26 (by assumption)) | (first | lia | omega)) fun _ => w_int fun _ => w_mod (by decide) fun _ => w_int fun _ => w_eq (w_truthy_bool ?_)
      rw [bit_val]
      have et : ((List.range 5).take (k + 1)) = ((List.range 5).take k) ++ [k] := take_snoc (by rw [List.getElem?_range hk])
      cases hb : bitOf c k with
      | true =>
        rw [if_pos rfl]
        refine w_local rfl ?_
        rw [hJA]
        refine ⟨?_, rfl⟩
        rw [et, List.filter_append, List.filter_cons_of_pos hb, List.filter_nil, natsOf, List.map_append]
        exact hrs.snoc _ _
      | false =>
        rw [if_neg (by decide), hJA]
        refine ⟨?_, rfl⟩
        rw [et, List.filter_append, List.filter_cons_of_neg (by rw [hb]; decide), List.filter_nil, List.append_nil]
        exact hrs
    · rintro rs σ' ins hj F2
      rw [hJA] at hj
      obtain ⟨hrs, rfl⟩ := hj
      clear hJA
      have hrs : IntsOf rs (natsOf (insideOf c)) := hrs
      refine w_store_local ?_
      refine w_post_keep (w_perm (List.perm_append_comm (l₁ := [(ins, isList rs), (r2, isRange 0 5 1)])) (w_frame (X := X'.withF F') (σ₂ := [(ins, isList rs), (r2, isRange 0 5 1)]) fun B' hB' => ?_))
      refine w_gen fun Q2 kk2 => ?_
      have hs2 : BI B' sz (isList sv) := hB' _ _ (.inl hs')
      have hw2 : BI B' wt (isList wv) := hB' _ _ (.inl hw')
      have cs2 : BI B' (X'.L + 1) (isCell (.ref sz)) := hB' _ _ (.inl cs)
      have cw2 : BI B' (X'.L + 1 + 1) (isCell (.ref wt)) := hB' _ _ (.inl cw)
      have hin2 : BI B' ins (isList rs) := hB' _ _ (.inr (.head _))
      have hrl : rs.length = (insideOf c).length := by rw [hrs.len, natsOf, List.length_map]
      have hil : (insideOf c).length ≤ 5 := by unfold insideOf; exact Nat.le_trans (List.length_filter_le _ _) (by simp)
      have hinp := inside_ne (c := c) (by first | decide | (with_reducible first | exact n0 _ | exact f5 (by assumption) | exact a3 (by assumption) (by assumption) | exact b26 (by assumption) | exact a26 (by assumption)) | (first | lia | omega)) (by first | decide | (with_reducible first | exact n0 _ | exact f5 (by assumption) | exact a3 (by assumption) (by assumption) | exact b26 (by assumption) | exact a26 (by assumption)) | (first | lia | omega))
      refine w_execs_cons (w_assign_name (w_Call (w_builtin rfl (by boot_fast) (w_cw_builtin (w_args_cons (w_ListComp rfl (w_local rfl (w_iter_list (.inl hin2) fun I3 hI3 => ?_))))))))
      obtain ⟨JB, hJB⟩ : ∃ J : Nat → List Value → Led → Prop, J = fun i qs σ => IntsOf qs (((insideOf c).take i).map S) ∧ σ = [(X'.L + 1 + 1 + 1 + 1, isCell (.int (c : Int) tv)), (r, isRange 1 32 1), (X'.L + 1 + 1 + 1, isCell (.ref D)), (D, isList vs), (X'.L + 1 + 1 + 1 + 1 + 1, P1)] := ⟨_, rfl⟩
      refine ⟨I3, fun i => [(I3, isListIter ins i)], rs.length, _, [(X'.L + 1 + 1 + 1 + 1, isCell (.int (c : Int) tv)), (r, isRange 1 32 1), (X'.L + 1 + 1 + 1, isCell (.ref D)), (D, isList vs), (X'.L + 1 + 1 + 1 + 1 + 1, P1)], rfl, rfl, iter_list hA'.hd hin2 (Ne.symm hI3), by rw [hrl, sizeLine_eq]; (first | lia | omega),
        JB, by rw [hJB]; exact ⟨.nil, rfl⟩, ?_, ?_⟩
      · rintro F3 C i v τ m₂ qs σ₂ hi hlen ⟨hv, rfl⟩ hj
        rw [hJB] at hj
        obtain ⟨hqs, rfl⟩ := hj
        rw [hrl] at hi
        obtain ⟨k, hk⟩ : ∃ k, (insideOf c)[i]? = some k := ⟨_, List.getElem?_eq_getElem hi⟩
        have hk5 := (inside_lt (List.mem_of_getElem? hk)).1
        obtain ⟨tk, hv'⟩ := hrs.get (natsOf_get hk)
        rw [hv] at hv'
        cases hv'
        obtain ⟨ts, hts⟩ := hsi.get (List.getElem?_eq_getElem (hsl ▸ hk5 : k < ss.length))
        refine w_store_name (w_store_local (w_tests_nil ?_))
        show W _ _ _ _ _
        refine w_subscript (w_cell (.inl cs2) (w_local rfl ?_))
        refine w_item_list (vs := sv) (.inl hs2) (by first | decide | (with_reducible first | exact n0 _ | exact f5 (by assumption) | exact a3 (by assumption) (by assumption) | exact b26 (by assumption) | exact a26 (by assumption)) | (first | lia | omega)) (by first | decide | (with_reducible first | exact n0 _ | exact f5 (by assumption) | exact a3 (by assumption) (by assumption) | exact b26 (by assumption) | exact a26 (by assumption)) | (first | lia | omega)) hts ?_
        rw [hJB]
        refine ⟨?_, rfl⟩
        rw [take_snoc hk, List.map_append, List.map_cons, List.map_nil]
        have : S k = ss[k]'(hsl ▸ hk5) := by rw [← hS]; simp [hsl, hk5]
        rw [this]
        exact hqs.snoc _ _
      · rintro qs σ' E hj
        rw [hJB] at hj
        obtain ⟨hqs, rfl⟩ := hj
        clear hJB
        rw [hrl, List.take_length] at hqs
        refine w_args_nil (w_sum_list hA'.hd (.inr (.head _)) hqs fun tw => ?_)
        have hwhole : ((insideOf c).map S).sum = wholeOf S c := rfl
        rw [hwhole]
        refine w_perm bring5 (w_store_cell hP1 ?_)
        refine w_execs_cons (w_expr (w_methcall (w_cell (.inr (.tail _ (.tail _ (.tail _ (.tail _ (.head _)))))) ?_)))
        refine w_getAppend (vs := vs) (.inr (.tail _ (.tail _ (.tail _ (.tail _ (.tail _ (.head _))))))) (w_cwm_builtin (w_args_cons (w_Call (w_builtin rfl (by boot_fast) (w_cw_builtin ?_)))))
        refine w_args_cons (w_ListComp rfl (w_local rfl (w_iter_list (.inl hin2) fun I4 hI4 => ?_)))
        obtain ⟨JC, hJC⟩ : ∃ J : Nat → List Value → Led → Prop, J = fun i us σ => IntsOf us (((insideOf c).take i).map (candL S WW (leastUpto S WW i0) c)) ∧ σ = [(X'.L + 1 + 1 + 1 + 1 + 1, isCell (.int (wholeOf S c) tw)), (E, isList qs), (X'.L + 1 + 1 + 1 + 1, isCell (.int (c : Int) tv)), (r, isRange 1 32 1), (X'.L + 1 + 1 + 1, isCell (.ref D)), (D, isList vs)] := ⟨_, rfl⟩
        refine ⟨I4, fun i => [(I4, isListIter ins i)], rs.length, _, [(X'.L + 1 + 1 + 1 + 1 + 1, isCell (.int (wholeOf S c) tw)), (E, isList qs), (X'.L + 1 + 1 + 1 + 1, isCell (.int (c : Int) tv)), (r, isRange 1 32 1), (X'.L + 1 + 1 + 1, isCell (.ref D)), (D, isList vs)], rfl, rfl, iter_list hA'.hd hin2 (Ne.symm hI4), by rw [hrl, sizeLine_eq]; (first | lia | omega),
          JC, by rw [hJC]; exact ⟨.nil, rfl⟩, ?_, ?_⟩
        · rintro F3 C i v τ m₂ us σ₂ hi hlen ⟨hv, rfl⟩ hj
          rw [hJC] at hj
          obtain ⟨hus, rfl⟩ := hj
          rw [hrl] at hi
          obtain ⟨k, hk⟩ : ∃ k, (insideOf c)[i]? = some k := ⟨_, List.getElem?_eq_getElem hi⟩
          obtain ⟨hk5, hbit⟩ := inside_lt (List.mem_of_getElem? hk)
          have hble := bit_le hbit
          have hbpos : 1 ≤ 2 ^ k := Nat.one_le_two_pow
          obtain ⟨tk, hv'⟩ := hrs.get (natsOf_get hk)
          rw [hv] at hv'
          cases hv'
          obtain ⟨tw', htw⟩ := hwi.get (List.getElem?_eq_getElem (hwl ▸ hk5 : k < ws.length))
          have hwk := hwb _ (List.getElem_mem (hwl ▸ hk5 : k < ws.length))
          have hjl : c - 2 ^ k < (leastUpto S WW i0).length := by rw [leastUpto_len]; (first | lia | omega)
          obtain ⟨tl, htl⟩ := hvs.get (List.getElem?_eq_getElem hjl)
          have hidx : (c : Int) - (2 : Int) ^ k = ((c - 2 ^ k : Nat) : Int) := by
            have e1 : ((2 : Int) ^ k) = ((2 ^ k : Nat) : Int) := by push_cast; rfl
            rw [e1]; (first | lia | omega)
          have hp := pow_small hk5
          refine w_store_name (w_store_local (w_tests_nil ?_))
          show W _ _ _ _ _
          refine w_binop (w_subscript (w_cell (.inr (.tail _ (.tail _ (.tail _ (.tail _ (.head _)))))) ?_))
          refine w_binop (w_cell (.inr (.tail _ (.tail _ (.head _)))) (w_binop (w_int fun _ => w_local rfl (w_pow (by first | decide | (with_reducible first | exact n0 _ | exact f5 (by assumption) | exact a3 (by assumption) (by assumption) | exact b26 (by assumption) | exact a26 (by assumption)) | (first | lia | omega)) (by first | decide | (with_reducible first | exact n0 _ | exact f5 (by assumption) | exact a3 (by assumption) (by assumption) | exact b26 (by assumption) | exact a26 (by assumption)) | (first | lia | omega)) (by decide) fun _ => ?_))))
          rw [Int.toNat_natCast]
          refine w_sub fun _ => ?_
          rw [hidx]
          refine w_item_list (vs := vs) (.inr (.tail _ (.tail _ (.tail _ (.tail _ (.tail _ (.head _))))))) (by first | decide | (with_reducible first | exact n0 _ | exact f5 (by assumption) | exact a3 (by assumption) (by assumption) | exact b26 (by assumption) | exact a26 (by assumption)) | (first | lia | omega)) (by first | decide | (with_reducible first | exact n0 _ | exact f5 (by assumption) | exact a3 (by assumption) (by assumption) | exact b26 (by assumption) | exact a26 (by assumption)) | (first | lia | omega)) htl ?_
          refine w_binop (w_subscript (w_cell (.inl cw2) (w_local rfl ?_)))
          refine w_item_list (vs := wv) (.inl hw2) (by first | decide | (with_reducible first | exact n0 _ | exact f5 (by assumption) | exact a3 (by assumption) (by assumption) | exact b26 (by assumption) | exact a26 (by assumption)) | (first | lia | omega)) (by first | decide | (with_reducible first | exact n0 _ | exact f5 (by assumption) | exact a3 (by assumption) (by assumption) | exact b26 (by assumption) | exact a26 (by assumption)) | (first | lia | omega)) htw (w_cell (.inr (.head _)) (w_mul (mulOk_small (by first | decide | (with_reducible first | exact n0 _ | exact f5 (by assumption) | exact a3 (by assumption) (by assumption) | exact b26 (by assumption) | exact a26 (by assumption)) | (first | lia | omega))) fun _ => w_add fun _ => ?_))
          rw [hJC]
          refine ⟨?_, rfl⟩
          rw [take_snoc hk, List.map_append, List.map_cons, List.map_nil]
          have e1 : candL S WW (leastUpto S WW i0) c k = (leastUpto S WW i0)[c - 2 ^ k] + (ws[k]'(hwl ▸ hk5)) * wholeOf S c := by
            have ew : WW k = ws[k]'(hwl ▸ hk5) := by rw [← hW]; simp [hwl, hk5]
            unfold candL
            rw [List.getD_eq_getElem?_getD, List.getElem?_eq_getElem hjl, ew]
            rfl
          rw [e1]
          exact hus.snoc _ _
        · rintro us σ' G hj
          rw [hJC] at hj
          obtain ⟨hus, rfl⟩ := hj
          clear hJC
          rw [hrl, List.take_length] at hus
          refine w_args_nil (w_min_list hA'.hd (.inr (.head _)) hus (by rw [List.length_map]; exact hinp) fun v tm hmin => w_args_nil ?_)
          refine w_perm bring6 (w_append (vs := vs) (by rw [hvl, sizeLine_eq]; (first | lia | omega)) ⟨fun _ e => (nomatch e), ?_⟩)
          refine w_perm (bring5.trans (.cons _ (bring5.trans (.cons _ (.cons _ (bring1.trans (.cons _ bring2))))))) (w_execs_nil (kk2 _ _ _ ⟨[(r, isRange 1 32 1), (X'.L + 1 + 1 + 1, isCell (.ref D)), (D, isList (vs ++ [.int v tm])), (X'.L + 1 + 1 + 1 + 1 + 1, isCell (.int (wholeOf S c) tw)), (X'.L + 1 + 1 + 1 + 1, isCell (.int (c : Int) tv))], ?_, kk1 _ _ _ ?_⟩))
          · exact .cons_cons _ (.cons_cons _ (.cons_cons _ (.cons_cons _ (.cons_cons _ (List.nil_sublist _)))))
          · show J1 c _ _
            rw [hJn]
            refine ⟨vs ++ [.int v tm], _, _, ?_, cell_is (v := .int (wholeOf S c) tw), cell_is (v := .int (c : Int) tv), rfl⟩
            rw [← hc, leastUpto_succ, hc]
            unfold leastStep
            rw [isMin_min? hmin]
            exact hvs.snoc _ _
  · rintro m₁ σ₁ hj
    rw [hJ1] at hj
    obtain ⟨vs, P1, P2, oh⟩ := hj; refine and4 oh fun hvs hP1 hP2 oq3 => ?_; clear oh; subst oq3
    clear hJ1
    have h31 : 31 < (leastUpto S WW 31).length := by rw [leastUpto_len]; (first | lia | omega)
    obtain ⟨t31, ht31⟩ := hvs.get (List.getElem?_eq_getElem h31)
    refine w_post_keep (w_execs_cons (w_return (w_subscript (w_cell (.inr (.tail _ (.head _))) (w_int fun _ => ?_)))))
    refine w_item_list (vs := vs) (.inr (.tail _ (.tail _ (.head _)))) (by decide) (by decide) ht31 ⟨[], List.nil_sublist _, kk0 _ _ _ ?_⟩
    have := h t31
    rw [List.getD_eq_getElem?_getD, List.getElem?_eq_getElem h31] at this
    exact this
end
end Mine
end
end
section
open PySem PySem.W PySem.Calls PyProof.Rows PySem.Spec
set_option Elab.async false
set_option linter.unusedVariables false
set_option maxRecDepth 100000
noncomputable section
namespace Mine

noncomputable def sto (ps : List (Int × Int)) (k v : Int) : List (Int × Int) := if ps.any (fun p => p.1 = k) then ps.map (fun p => if p.1 = k then (p.1, v) else p) else ps ++ [(k, v)]
noncomputable def getI (ps : List (Int × Int)) (k : Int) : Option Int := (ps.find? fun p => p.1 = k).map (·.2)
inductive DVals : List (Int × Value) → List (Int × Int) → Prop where
  | nil : DVals [] []
  | cons {k n : Int} {v : Value} {kvs : List (Int × Value)} {ps : List (Int × Int)} (h : ∃ t, v = .int n t) (t : DVals kvs ps) : DVals ((k, v) :: kvs) ((k, n) :: ps)
theorem DVals.len {kvs : List (Int × Value)} {ps : List (Int × Int)} (h : DVals kvs ps) : kvs.length = ps.length := by
  induction h with
  | nil => rfl
  | cons _ _ ih => simp [ih]
theorem DVals.any {kvs : List (Int × Value)} {ps : List (Int × Int)} (h : DVals kvs ps) (k : Int) : kvs.any (fun p => p.1 = k) = ps.any (fun p => p.1 = k) := by
  induction h with
  | nil => rfl
  | cons _ _ ih => simp only [List.any_cons, ih]
theorem DVals.snoc {kvs : List (Int × Value)} {ps : List (Int × Int)} (h : DVals kvs ps) (k n : Int) (t : Tok) : DVals (kvs ++ [(k, .int n t)]) (ps ++ [(k, n)]) := by
  induction h with
  | nil => exact .cons ⟨t, rfl⟩ .nil
  | cons hd _ ih => exact .cons hd ih
theorem DVals.upd {kvs : List (Int × Value)} {ps : List (Int × Int)} (h : DVals kvs ps) (k n : Int) (t : Tok) : DVals (kvs.map fun p => if p.1 = k then (p.1, .int n t) else p) (ps.map fun p => if p.1 = k then (p.1, n) else p) := by
  induction h with
  | nil => exact .nil
  | @cons k' n' v kvs ps hd _ ih =>
    simp only [List.map_cons]
    by_cases hk : k' = k
    · rw [if_pos hk, if_pos hk]; exact .cons ⟨t, rfl⟩ ih
    · rw [if_neg hk, if_neg hk]; exact .cons hd ih
theorem DVals.stored {kvs : List (Int × Value)} {ps : List (Int × Int)} (h : DVals kvs ps) (k n : Int) (t : Tok) : DVals (PySem.stored kvs k (.int n t)) (sto ps k n) := by
  unfold PySem.stored sto
  rw [h.any]
  split
  · exact h.upd k n t
  · exact h.snoc k n t
theorem DVals.value {kvs : List (Int × Value)} {ps : List (Int × Int)} (h : DVals kvs ps) (k : Int) : match getI ps k with | some n => ∃ t, valueAt kvs k = some (.int n t) | none => valueAt kvs k = none := by
  unfold getI valueAt
  induction h with
  | nil => rfl
  | @cons k' n' v kvs ps hd _ ih =>
    obtain ⟨t, rfl⟩ := hd
    simp only [List.find?_cons]
    by_cases hk : k' = k
    · simp only [hk, decide_true, Option.map_some]; exact ⟨t, rfl⟩
    · simp only [hk, decide_false]; exact ih
theorem DVals.get {kvs : List (Int × Value)} {ps : List (Int × Int)} (h : DVals kvs ps) {i : Nat} {k n : Int} (hp : ps[i]? = some (k, n)) : ∃ t, kvs[i]? = some (k, .int n t) := by
  induction h generalizing i with
  | nil => simp at hp
  | cons hd _ ih =>
    cases i with
    | zero => obtain ⟨t, rfl⟩ := hd; simp at hp; obtain ⟨rfl, rfl⟩ := hp; exact ⟨t, rfl⟩
    | succ i => exact ih (by simpa using hp)

noncomputable def isD (w : World) (ps : List (Int × Int)) : HP := fun o => ∃ kvs, o.IsDictOf (intKind PW w) kvs ∧ DVals kvs ps
theorem isD_len {w : World} {ps : List (Int × Int)} {a : Addr} {h : Heap} (x : ∃ o, h.get? a = some o ∧ isD w ps o) : ∃ kvs, h.DictOf (intKind PW w) a kvs ∧ DVals kvs ps := by
  obtain ⟨o, e, kvs, hd, hv⟩ := x
  exact ⟨kvs, Heap.dictOf_iff.mpr ⟨o, e, hd⟩, hv⟩
theorem isInt_int (k : Int) (t : Tok) : Value.isInt k (.int k t) = true := by simp [Value.isInt]

section
variable {X : Fm} {m : Vars} {σ : Led} {env : Env} {pos : Pos} {Q : Value → Vars → Led → Prop}
theorem St.notMods {C : Cx} {B F : PH} {L : Addr} {m : Vars} {σ : Led} {s : Shared} (S : St C B F L m σ s) : (s.heap.objs.size == sysModules) = false := by
  have h : cStatics < s.heap.objs.size := let ⟨_, hn, _⟩ := S.world.t.nolimit; hn.lt
  have h2 : (2 : Nat) < s.heap.objs.size := h
  rw [beq_eq_false_iff_ne]
  intro q
  have q2 : (s.heap.objs.size : Nat) = 1 := q
  (first | lia | omega)
theorem w_Dict_empty (h : ∀ d, (d == sysModules) = false → Q (.ref d) m ((d, isD X.C.w []) :: σ)) : W X m σ (eval (.Dict [] [] pos) env) Q := fun s S =>
  wpAny_Dict_empty ⟨m, _, S.push (P := isD X.C.w []) rfl (by
    obtain ⟨o, e, hd⟩ := Heap.dictOf_iff.mp (Heap.DictOf.new (knd := intKind PW X.C.w) s.heap)
    rw [Heap.get?_push_size _ rfl] at e
    cases e
    exact ⟨[], hd, .nil⟩), h _ S.notMods⟩
theorem w_setItem_dict {d : Addr} {ps : List (Int × Int)} {k n : Int} {t u : Tok} {Q : Unit → Vars → Led → Prop} (hl : ps.length ≤ 1000) (h : Q () m ((d, isD X.C.w (sto ps k n)) :: σ)) : W X m ((d, isD X.C.w ps) :: σ) (setItem (.ref d) (.int k t) (.int n u)) Q := fun s S => by
  obtain ⟨kvs, hd, hv⟩ := isD_len (S.own _ (.head _))
  refine wpAny_setItem_pairs (knd := intKind PW X.C.w) (isInt_int k t) hd (fun h' hd' hs' => ?_) (by rw [hv.len, sizeLine_eq]; (first | lia | omega))
  obtain ⟨o, e, hd''⟩ := Heap.dictOf_iff.mp hd'
  exact ⟨m, _, S.set0 (P' := isD X.C.w (sto ps k n)) (t := s.toks + 1) e ⟨_, hd'', hv.stored k n u⟩ hs', h⟩
theorem w_getItem_dict {d : Addr} {ps : List (Int × Int)} {k n : Int} {t : Tok} (hd : Kn X.B σ d (isD X.C.w ps)) (hg : getI ps k = some n) (h : ∀ t, Q (.int n t) m σ) : W X m σ (getItem (.ref d) (.int k t)) Q := fun s S => by
  obtain ⟨kvs, hd, hv⟩ := isD_len (S.kn hd)
  have := hv.value k
  rw [hg] at this
  obtain ⟨tn, hn⟩ := this
  exact wpAny_getItem_of (knd := intKind PW X.C.w) (isInt_int k t) hd.mapOf hn ⟨m, _, S.toks, h _⟩
theorem w_in_dict {d : Addr} {ps : List (Int × Int)} {k : Int} {t : Tok} (hs : (d == sysModules) = false) (hd : Kn X.B σ d (isD X.C.w ps)) (h : Q (.bool (getI ps k).isSome) m σ) : W X m σ (compareOp .In (.int k t) (.ref d)) Q := fun s S => by
  obtain ⟨kvs, hd, hv⟩ := isD_len (S.kn hd)
  have hvk := hv.value k
  refine wpAny_in_of (knd := intKind PW X.C.w) (isInt_int k t) hs hd.mapOf ?_
  cases hg : getI ps k with
  | none => rw [hg] at h hvk; rw [hvk]; exact ⟨m, _, S.toks, h⟩
  | some n => rw [hg] at h hvk; obtain ⟨tn, hn⟩ := hvk; rw [hn]; exact ⟨m, _, S.toks, h⟩
end
end Mine
end
end
section
open PySem PySem.W PySem.Calls PyProof.Rows PySem.Spec
set_option Elab.async false
set_option linter.unusedVariables false
set_option maxRecDepth 100000
noncomputable section
namespace Mine
theorem entry_items_iter : entryFor table "dict_itemiterator.__iter__" = some Builtin.«dict_keyiterator.__iter__» :=
  entryFor_alias (id' := "dict_keyiterator.__iter__") (by kernel_rfl) (by first | rfl | decide +kernel | (unfold String.splitOn; simp +decide [String.splitOnAux])) (by decide +kernel) (by kernel_rfl)
noncomputable def isDE (w : World) (kvs : List (Int × Value)) (ep : Nat) : HP := fun o => ∃ es, o.ExactDict ∧ o.data = .dict es ep ∧ KeysOf (intKind PW w) es ∧ Pairs (intKind PW w) es.toList kvs ∧ (kvs.map (·.1)).Nodup
noncomputable def isView (T : String) (d : Addr) : HP := fun o => o.cls = .type T ∧ o.data = .fields #[.ref d]
noncomputable def isItemIt (d : Addr) (n ep i : Nat) : HP := fun o => ∃ ok ov, o = { cls := .type "dict_itemiterator", dict := none, data := .fields #[.none, .bool false, .ref d, .int i 0, .int n 0, .int ep 0, ok, ov], slots := #[] }
noncomputable def isItemOut (d : Addr) (n ep i : Nat) (T : Addr) : HP := fun o => ∃ ok ov, o = { cls := .type "dict_itemiterator", dict := none, data := .fields #[rawInt T, .bool false, .ref d, .int i 0, .int n 0, .int ep 0, ok, ov], slots := #[] }
noncomputable def isValIt (d : Addr) (n ep i : Nat) : HP := fun o => o.cls = .type "dict_valueiterator" ∧ o.data = .fields #[.ref d, .int i 0, .int n 0, .int ep 0]

section
variable {X : Fm} {m : Vars} {σ : Led} {env : Env} {pos : Pos} {Q : Value → Vars → Led → Prop}
theorem bi_de {d : Addr} {ps : List (Int × Int)} {w : World} (h : BI X.B d (isD w ps)) : ∃ kvs ep, BI X.B d (isDE w kvs ep) ∧ DVals kvs ps := by
  obtain ⟨o, e, kvs, ⟨es, ep, hr⟩, hv⟩ := h
  exact ⟨kvs, ep, ⟨o, e, es, hr⟩, hv⟩
theorem de_at {w : World} {h : Heap} {d : Addr} {kvs : List (Int × Value)} {ep : Nat} (x : ∃ o, h.get? d = some o ∧ isDE w kvs ep o) : h.DictAt (intKind PW w) d kvs ep := let ⟨o, e, es, r⟩ := x; ⟨o, es, e, r⟩

theorem w_items {o : Expr} {apos : Pos} (h : W X m σ (eval o env) (fun ov m' σ' => ∃ d ps, ov = .ref d ∧ (d == sysModules) = false ∧ Kn X.B σ' d (isD X.C.w ps) ∧ ∀ v, Q (.ref v) m' ((v, isView "dict_items" d) :: σ')))
    {pl : Sem Bool} (he : eval (.Call (.Attribute o "items" apos) [] [] pos) env = (do
      let ov ← eval o env
      standAt apos.atName
      let (f, first) ← holding [ov] (getMethod ov "items" pl)
      callWith pos f first (backTo pos (starEach [] env)) (backToKw pos (keywordEach [] env)))) :
    W X m σ (eval (.Call (.Attribute o "items" apos) [] [] pos) env) Q := by
  refine w_methcall (w_mono h fun ov m' σ' q s S => ?_) he
  refine ex2 (q) fun d ps oh => ?_; (try clear q); refine and4 oh fun oq0 hs hk hq => ?_; clear oh; subst oq0
  refine ex1 (isD_len (S.kn hk)) fun kvs ou0 => ?_; refine and2 (ou0) fun hd hv => ?_; clear ou0
  refine getMethod_builtin hd.typeIs F.plainAttrs_dict F.slot_dict_items F.type_dict_items (fun a e => hd.mapOf.noDict a e) ⟨m', σ', S, fun s S => ?_⟩
  refine ex1 (isD_len (S.kn hk)) fun kvs ou0 => ?_; refine and2 (ou0) fun hd hv => ?_; clear ou0
  exact method_meetsIn F.slot_dict_items F.entry_dict_items rfl (PySem.evalArgs_none ⟨rfl, hd.typeIs, F.args_dict_items_1 _, _, meets_dict_items (intKind PW X.C.w) d hs, ⟨kvs, hd⟩, ⟨m', _, S.push (P := isView "dict_items" d) rfl ⟨rfl, rfl⟩, hq _⟩⟩)
theorem w_values {o : Expr} {apos : Pos} (h : W X m σ (eval o env) (fun ov m' σ' => ∃ d ps, ov = .ref d ∧ (d == sysModules) = false ∧ Kn X.B σ' d (isD X.C.w ps) ∧ ∀ v, Q (.ref v) m' ((v, isView "dict_values" d) :: σ')))
    {pl : Sem Bool} (he : eval (.Call (.Attribute o "values" apos) [] [] pos) env = (do
      let ov ← eval o env
      standAt apos.atName
      let (f, first) ← holding [ov] (getMethod ov "values" pl)
      callWith pos f first (backTo pos (starEach [] env)) (backToKw pos (keywordEach [] env)))) :
    W X m σ (eval (.Call (.Attribute o "values" apos) [] [] pos) env) Q := by
  refine w_methcall (w_mono h fun ov m' σ' q s S => ?_) he
  refine ex2 (q) fun d ps oh => ?_; (try clear q); refine and4 oh fun oq0 hs hk hq => ?_; clear oh; subst oq0
  refine ex1 (isD_len (S.kn hk)) fun kvs ou0 => ?_; refine and2 (ou0) fun hd hv => ?_; clear ou0
  refine getMethod_builtin hd.typeIs F.plainAttrs_dict F.slot_dict_values F.type_dict_values (fun a e => hd.mapOf.noDict a e) ⟨m', σ', S, fun s S => ?_⟩
  refine ex1 (isD_len (S.kn hk)) fun kvs ou0 => ?_; refine and2 (ou0) fun hd hv => ?_; clear ou0
  exact method_meetsIn F.slot_dict_values F.entry_dict_values rfl (PySem.evalArgs_none ⟨rfl, hd.typeIs, F.args_dict_values_1 _, _, meets_dict_values (intKind PW X.C.w) d hs, ⟨kvs, hd⟩, ⟨m', _, S.push (P := isView "dict_values" d) rfl ⟨rfl, rfl⟩, hq _⟩⟩)

theorem w_iter_items {v d : Addr} {kvs : List (Int × Value)} {ep : Nat} (hv : Kn X.B σ v (isView "dict_items" d)) (hd : Kn X.B σ d (isDE X.C.w kvs ep)) (h : ∀ I, I ≠ d → Q (.ref I) m ((I, isItemIt d kvs.length ep 0) :: σ)) : W X m σ (pyIter (.ref v)) Q := fun s S => by
  have D := de_at (S.kn hd)
  refine ex1 (S.kn hv) fun ov oh => ?_; refine and3 oh fun e h1 h2 => ?_; clear oh
  refine wpAny_pyIter_items (knd := intKind PW X.C.w) ⟨ov, e, h1, h2⟩ D ⟨m, _, S.push (P := isItemIt d kvs.length ep 0) rfl ⟨_, _, rfl⟩, h _ ?_⟩
  exact Ne.symm (Nat.ne_of_lt D.lt_size)
theorem w_iter_values {v d : Addr} {kvs : List (Int × Value)} {ep : Nat} (hv : Kn X.B σ v (isView "dict_values" d)) (hd : Kn X.B σ d (isDE X.C.w kvs ep)) (h : ∀ I, I ≠ d → Q (.ref I) m ((I, isValIt d kvs.length ep 0) :: σ)) : W X m σ (pyIter (.ref v)) Q := fun s S => by
  have D := de_at (S.kn hd)
  refine ex1 (S.kn hv) fun ov oh => ?_; refine and3 oh fun e h1 h2 => ?_; clear oh
  refine wpAny_pyIter_values (knd := intKind PW X.C.w) ⟨ov, e, h1, h2⟩ D ⟨m, _, S.push (P := isValIt d kvs.length ep 0) rfl ⟨rfl, rfl⟩, h _ ?_⟩
  exact Ne.symm (Nat.ne_of_lt D.lt_size)

theorem iter_values {target : Expr} {I d : Addr} {kvs : List (Int × Value)} {ep : Nat} (hA : X.A.handled = none) (hd : BI X.B d (isDE X.C.w kvs ep)) (hne : d ≠ I) :
    Iter X target I (fun i => [(I, isValIt d kvs.length ep i)]) kvs.length (fun i v τ => (∃ k, kvs[i]? = some (k, v)) ∧ τ = []) :=
  iter_of_walks (X := X) (target := target) (I := I) (its := fun i => [(I, isValIt d kvs.length ep i)]) hA (fun A' hA' => Walks.dictValues (knd := intKind PW X.C.w) hA' I d hne kvs ep)
    (fun i h hB ho => ⟨ho _ (.head _), de_at (hB _ _ hd)⟩) (fun i h st p hp => by rw [List.mem_singleton] at hp; subst hp; exact st.1) (fun i b hb => by simpa using hb) (fun _ => rfl)
    (fun A' i v s Q E _ st h => by obtain ⟨o, e, hc, _⟩ := st.1; exact go_plain e hc (by decide) h)

theorem iter_items {elts : List Expr} {x1 : Nat} {I d : Addr} {kvs : List (Int × Value)} {ps : List (Int × Int)} {ep : Nat} (hA : X.A.handled = none) (hd : BI X.B d (isDE X.C.w kvs ep)) (hv : DVals kvs ps) (hne : d ≠ I) :
    Iter X (.Tuple elts x1 pos) I (fun i => [(I, isItemIt d kvs.length ep i)]) kvs.length (fun i v τ => ∃ T k n t t', v = .ref T ∧ ps[i]? = some (k, n) ∧ τ = [(T, isTup [.int k t, .int n t'])]) where
  item := fun Y hC hYA hB i m σ R hi hR s S => by
    obtain ⟨C, A, B, F, L⟩ := Y
    dsimp only at hC hYA hB S ⊢
    subst hC hYA
    obtain ⟨_, eI, ok, ov, rfl⟩ := S.own _ (.head _)
    have D := de_at (bi_at (hB _ _ hd) S.keep)
    refine ex1 (show ∃ p, ps[i]? = some p from ⟨_, List.getElem?_eq_getElem (hv.len ▸ hi)⟩) fun oq0 hp => ?_; obtain ⟨k, n⟩ := oq0
    refine ex1 (hv.get hp) fun t' hkv => ?_
    refine wpAny_pyNext_items_item (knd := intKind PW X.C.w) eI D hkv fun key h' hkey heo ht hz hk => ?_
    refine ex1 (Value.isInt_shape hkey) fun t oq1 => ?_; subst oq1
    have S' := S.setAll (τ' := [(I, isItemOut d kvs.length ep (i + 1) s.heap.objs.size)]) rfl (h' := h') (t := s.toks) (d := s.drawn) S.gens (fun b o hb e => hk b o (fun q => hb (by rw [q]; exact .head _)) e)
      (fun p hp => by rw [List.mem_singleton] at hp; subst hp; exact ⟨_, heo, _, _, rfl⟩)
    have S₂ := S.come S' (P := isTup [.int k t, .int n t']) (by simp) (get_size_none s.heap) ht ⟨0, rfl⟩
    refine ⟨m, _, S₂.perm (List.Perm.swap _ _ _), _, rfl, fun s₂ T₂ => ?_⟩
    obtain ⟨_, e2, ok2, ov2, rfl⟩ := T₂.own (I, isItemOut d kvs.length ep (i + 1) s.heap.objs.size) (.head _)
    refine wpAny_letOwnedTupleGo_items e2 fun h₃ hz₃ hs₃ => ?_
    exact ⟨m, _, T₂.set0 (P' := isItemIt d kvs.length ep (i + 1)) (t := s₂.toks) hz₃ ⟨_, _, rfl⟩ hs₃, hR (.ref s.heap.objs.size) [(s.heap.objs.size, isTup [.int k t, .int n t'])] ⟨_, k, n, t, t', rfl, hp, rfl⟩⟩
  self := fun Y hC hYA hB i m σ R hR s S => by
    obtain ⟨C, A, B, F, L⟩ := Y
    dsimp only at hC hYA hB S ⊢
    subst hC hYA
    obtain ⟨_, eI, ok, ov, rfl⟩ := S.own _ (.head _)
    have hT : s.TypeIs (.ref I) "dict_itemiterator" := ⟨_, eI, rfl⟩
    refine wpAny_pyIter_slot hT PySem.F.slot_dict_itemiterator_iter (wpAny_call_entry PySem.F.slot_dict_itemiterator_iter hT entry_items_iter ?_ (PySem.F.args_dict_itemiterator_iter_1 _))
    show wpAny _ _ (ret (.ref I)) _ _ s
    exact wpAny_pure ⟨_, rfl, "dict_itemiterator", _, hT, PySem.F.slot_dict_itemiterator_next.lookup, m, _, S, hR⟩
  done := fun Y hC hYA hB m σ R hR s S => by
    obtain ⟨C, A, B, F, L⟩ := Y
    dsimp only at hC hYA hB S ⊢
    subst hC hYA
    obtain ⟨_, eI, ok, ov, rfl⟩ := S.own _ (.head _)
    have D := de_at (bi_at (hB _ _ hd) S.keep)
    refine wpAny_pyNext_items_end (knd := intKind PW X.C.w) hA eI D (by simp) fun h' hk => ?_
    exact ⟨m, σ, S.dropAll (t := s.toks) fun b o hb e => hk b o (fun q => hb (by rw [q]; exact .head _)) e, rfl, hR⟩
end
end Mine
end
end
section
open PySem PySem.W PySem.Calls PyProof.Rows PySem.Spec
set_option Elab.async false
set_option linter.unusedVariables false
set_option maxRecDepth 100000
noncomputable section
namespace Mine
noncomputable def copyD (t : List (Int × Int)) : List (Int × Int) := t.foldl (fun acc p => sto acc p.1 p.2) []
noncomputable def addStep (acc : List (Int × Int)) (p : Int × Int) : List (Int × Int) := match getI acc p.1 with | some n => sto acc p.1 (n + p.2) | none => sto acc p.1 p.2
noncomputable def addC (t s : List (Int × Int)) : List (Int × Int) := s.foldl addStep (copyD t)
theorem sto_len (ps : List (Int × Int)) (k v : Int) : (sto ps k v).length ≤ ps.length + 1 := by
  unfold sto
  split
  · simp
  · simp
theorem foldl_take {α β : Type} (f : β → α → β) (b : β) (l : List α) {i : Nat} {x : α} (h : l[i]? = some x) : (l.take (i + 1)).foldl f b = f ((l.take i).foldl f b) x := by
  rw [take_snoc h, List.foldl_append]; rfl
theorem copyD_len (t : List (Int × Int)) : ∀ (acc : List (Int × Int)), (t.foldl (fun acc p => sto acc p.1 p.2) acc).length ≤ acc.length + t.length := by
  induction t with
  | nil => intro acc; simp
  | cons p t ih =>
    intro acc
    have := ih (sto acc p.1 p.2)
    have := sto_len acc p.1 p.2
    simp only [List.foldl_cons, List.length_cons]; (first | lia | omega)
theorem addStep_none {acc : List (Int × Int)} {k n : Int} (h : getI acc k = none) : addStep acc (k, n) = sto acc k n := by
  unfold addStep; simp only [h]
theorem addStep_some {acc : List (Int × Int)} {k n n0 : Int} (h : getI acc k = some n0) : addStep acc (k, n) = sto acc k (n0 + n) := by
  unfold addStep; simp only [h]
theorem addStep_len (acc : List (Int × Int)) (p : Int × Int) : (addStep acc p).length ≤ acc.length + 1 := by
  unfold addStep
  split <;> exact sto_len _ _ _
theorem addC_len (s : List (Int × Int)) : ∀ (acc : List (Int × Int)), (s.foldl addStep acc).length ≤ acc.length + s.length := by
  induction s with
  | nil => intro acc; simp
  | cons p s ih =>
    intro acc
    have := ih (addStep acc p)
    have := addStep_len acc p
    simp only [List.foldl_cons, List.length_cons]; (first | lia | omega)

section
variable {X : Fm} {m : Vars} {σ : Led} {Q : Value → Vars → Led → Prop}
theorem w_true_val {env : Env} {e : Expr} {whole : Sem Value} {Q : Bool → Vars → Led → Prop} (h : W X m σ whole (fun v m' σ' => W X m' σ' (truthy v) Q)) (he : autoParam (isTrue e env whole = (do let v ← whole; standAt e.pos; holding [v] (truthy v))) Mine.dfl0._auto_1) :
    W X m σ (isTrue e env whole) Q := by
  rw [he]
  exact w_bind (w_mono h fun v m' σ' q => w_bind (w_standAt (w_holding q)))
theorem w_isinstance_int_tuple {n : Int} {t : Tok} (h : Q (.bool false) m σ) : W X m σ (call (.builtin "isinstance") [.int n t, .type "tuple"]) Q := fun s S => IsiPair.int_tuple ⟨m, _, S.toks, h⟩

theorem wk_count {d : Addr} {ps : List (Int × Int)} (hA : Ok 3 X.A) (hs : (d == sysModules) = false) (hd : Kn X.B σ d (isD X.C.w ps)) (h : ∀ t, Q (.int (ps.map (·.2)).sum t) m σ) : WK X m σ (.call (.ref 87) ⟨[.ref d], []⟩) Q := by
  refine wk_def (σ₁ := []) (σ₂ := σ) (n := 2) (binds := [("callers", .ref d)]) rfl rfl hA (fun _ _ s _ => BindsTo.of_eq rfl) rfl rfl ?_
  intro X' hC hK hA' _
  have hd0 : BI X'.B d (isD X'.C.w ps) := by rw [hC]; exact hK _ _ hd
  refine ex2 (bi_de hd0) fun kvs ep ou0 => ?_; refine and2 (ou0) fun hde hv => ?_; clear ou0
  refine w_execs_cons (w_assign_name (w_int fun t0 => w_store_local ?_))
  refine w_execs_cons (w_For (w_values (w_local rfl ⟨d, ps, rfl, hs, .inl hd0, fun v => ?_⟩) rfl))
  refine w_iter_values (.inr (.head _)) (.inl hde) fun I hI => ?_
  refine w_loop (its := fun i => [(I, isValIt d kvs.length ep i)]) (σ := [(v, isView "dict_values" d)]) (iter_values hA'.hd hde (Ne.symm hI))
    (fun i m σ => (∃ t, m "nc" = some (.int (((ps.take i).map (·.2)).sum) t)) ∧ σ = [(v, isView "dict_values" d)]) ?_ ?_ ?_
  · exact ⟨⟨_, rfl⟩, rfl⟩
  · rintro F' i w τ m₁ σ₁ hi ⟨⟨k, hk⟩, rfl⟩ ⟨⟨t, ht⟩, rfl⟩
    refine ex1 (show ∃ p, ps[i]? = some p from ⟨_, List.getElem?_eq_getElem (hv.len ▸ hi)⟩) fun oq0 hp => ?_; obtain ⟨k', n⟩ := oq0
    refine ex1 (hv.get hp) fun t' hkv => ?_
    rw [hk] at hkv
    cases hkv
    refine w_store_name (w_store_local ?_)
    have hsum : ((ps.take i).map (·.2)).sum + n = ((ps.take (i + 1)).map (·.2)).sum := by
      rw [take_snoc hp, List.map_append, List.sum_append, List.map_cons, List.map_nil, List.sum_cons, List.sum_nil, Int.add_zero]
    refine w_execs_cons (w_aug_name (w_load_local (v := .int _ t) ht (w_local rfl (w_iadd fun _ => ?_))))
    rw [hsum]
    exact w_store_local (w_execs_nil ⟨⟨_, rfl⟩, rfl⟩)
  · rintro m₁ σ₁ ⟨⟨t, ht⟩, rfl⟩
    rw [hv.len, List.take_length] at ht
    refine w_keep (σ' := []) (List.nil_sublist _) (w_execs_cons (w_return (w_local ht ?_)))
    exact h t

theorem wk_addCallers {dt ds : Addr} {pt ps : List (Int × Int)} (hA : Ok 4 X.A) (hst : (dt == sysModules) = false) (hss : (ds == sysModules) = false) (ht : Kn X.B σ dt (isD X.C.w pt)) (hs : Kn X.B σ ds (isD X.C.w ps)) (hlt : pt.length ≤ 400) (hls : ps.length ≤ 400)
    (h : ∀ D, (D == sysModules) = false → Q (.ref D) m ((D, isD X.C.w (addC pt ps)) :: σ)) : WK X m σ (.call (.ref 80) ⟨[.ref dt, .ref ds], []⟩) Q := by
  refine wk_def (σ₁ := []) (σ₂ := σ) (n := 3) (binds := [("target", .ref dt), ("source", .ref ds)]) rfl rfl hA (fun _ _ s _ => BindsTo.of_eq rfl) rfl rfl ?_
  intro X' hC hK hA' _
  have ht0 : BI X'.B dt (isD X'.C.w pt) := by rw [hC]; exact hK _ _ ht
  have hs0 : BI X'.B ds (isD X'.C.w ps) := by rw [hC]; exact hK _ _ hs
  refine ex2 (bi_de ht0) fun kt ept ou0 => ?_; refine and2 (ou0) fun htd hvt => ?_; clear ou0
  refine ex2 (bi_de hs0) fun ks eps ou0 => ?_; refine and2 (ou0) fun hsd hvs => ?_; clear ou0
  refine w_execs_cons (w_assign_name (w_Dict_empty fun D hD => w_store_local ?_))
  refine w_execs_cons (w_For (w_items (w_local rfl ⟨dt, pt, rfl, hst, .inl ht0, fun v => ?_⟩) rfl))
  refine w_iter_items (.inr (.head _)) (.inl htd) fun I hI => ?_
  refine w_loop (its := fun i => [(I, isItemIt dt kt.length ept i)]) (σ := [(v, isView "dict_items" dt), (D, isD X'.C.w [])]) (iter_items hA'.hd htd hvt (Ne.symm hI))
    (fun i m σ => m "new_callers" = some (.ref D) ∧ m "source" = some (.ref ds) ∧ σ = [(v, isView "dict_items" dt), (D, isD X'.C.w ((pt.take i).foldl (fun acc p => sto acc p.1 p.2) []))]) ?_ ?_ ?_
  · exact ⟨rfl, rfl, rfl⟩
  · rintro F' i w τ m₁ σ₁ hi ⟨T, k, n, t, t', rfl, hp, rfl⟩ ⟨j1, j2, rfl⟩
    refine w_unpack_tup hA'.hd (.inr (.head _)) rfl rfl (w_inorder_cons (w_store_name (w_store_local (w_inorder_cons (w_store_name (w_store_local (w_inorder_nil ?_)))))))
    refine w_execs_cons (w_assign_sub (w_local rfl (w_local j1 (w_local rfl ?_))))
    have hl := copyD_len (pt.take i) []
    refine w_perm bring2 (w_setItem_dict (X := X'.withF F') (by simp at hl; (first | lia | omega)) ?_)
    rw [← foldl_take (fun acc (p : Int × Int) => sto acc p.1 p.2) [] pt hp]
    refine w_perm (σ' := [(v, isView "dict_items" dt), (D, _), (T, isTup [.int k t, .int n t'])]) bring2 (w_keep (.cons_cons _ (.cons_cons _ (List.nil_sublist _))) (w_execs_nil ⟨j1, j2, rfl⟩))
  · rintro m₁ σ₁ ⟨j1, j2, rfl⟩
    rw [hvt.len, List.take_length]
    refine w_keep (σ' := [(D, isD X'.C.w (copyD pt))]) (.cons _ (.refl _)) ?_
    have hcl : (copyD pt).length ≤ 400 := by have := copyD_len pt []; unfold copyD; simp at this; (first | lia | omega)
    refine w_execs_cons (w_For (w_items (w_local j2 ⟨ds, ps, rfl, hss, .inl hs0, fun v2 => ?_⟩) rfl))
    refine w_iter_items (.inr (.head _)) (.inl hsd) fun I2 hI2 => ?_
    refine w_loop (its := fun i => [(I2, isItemIt ds ks.length eps i)]) (σ := [(v2, isView "dict_items" ds), (D, isD X'.C.w (copyD pt))]) (iter_items hA'.hd hsd hvs (Ne.symm hI2))
      (fun i m σ => m "new_callers" = some (.ref D) ∧ σ = [(v2, isView "dict_items" ds), (D, isD X'.C.w ((ps.take i).foldl addStep (copyD pt)))]) ?_ ?_ ?_
    · exact ⟨j1, rfl⟩
    · rintro F' i w τ m₂ σ₂ hi ⟨T, k, n, t, t', rfl, hp, rfl⟩ ⟨j1, rfl⟩
      have hl := addC_len (ps.take i) (copyD pt)
      have hl2 : (ps.take i).length ≤ 400 := by rw [List.length_take]; (first | lia | omega)
      have hfold := foldl_take addStep (copyD pt) ps hp
      refine w_unpack_tup hA'.hd (.inr (.head _)) rfl rfl (w_inorder_cons (w_store_name (w_store_local (w_inorder_cons (w_store_name (w_store_local (w_inorder_nil ?_)))))))
      refine w_execs_cons (w_if (w_true_compare (w_local rfl (w_local j1 (w_in_dict (X := X'.withF F') hD (.inr (.tail _ (.tail _ (.head _)))) (w_truthy_bool ?_))))))
      cases hg : getI ((ps.take i).foldl addStep (copyD pt)) k with
      | none =>
        have e1 : addStep ((ps.take i).foldl addStep (copyD pt)) (k, n) = sto ((ps.take i).foldl addStep (copyD pt)) k n := addStep_none hg
        rw [e1] at hfold
        rw [if_neg (by decide)]
        refine w_execs_cons (w_assign_sub (w_local rfl (w_local j1 (w_local rfl ?_))))
        refine w_perm bring2 (w_setItem_dict (X := X'.withF F') (by first | decide | (with_reducible first | exact n0 _ | exact f5 (by assumption) | exact a3 (by assumption) (by assumption) | exact b26 (by assumption) | exact a26 (by assumption)) | (first | lia | omega)) ?_)
        rw [← hfold]
        exact w_perm (σ' := [(v2, isView "dict_items" ds), (D, _), (T, isTup [.int k t, .int n t'])]) bring2 (w_keep (.cons_cons _ (.cons_cons _ (List.nil_sublist _))) (w_execs_nil (w_execs_nil ⟨j1, rfl⟩)))
      | some n0 =>
        have e1 : addStep ((ps.take i).foldl addStep (copyD pt)) (k, n) = sto ((ps.take i).foldl addStep (copyD pt)) k (n0 + n) := addStep_some hg
        rw [e1] at hfold
        rw [if_pos (show (some n0).isSome = true from rfl)]
        refine w_execs_cons (w_if (w_true_val (w_Call (w_builtin rfl (by boot_fast) (w_cw_builtin (w_args_cons (w_local rfl (w_args_cons (w_builtin rfl (by boot_fast) (w_args_nil (w_isinstance_int_tuple (w_truthy_bool ?_))))))))))))
        rw [if_neg (by decide)]
        refine w_execs_cons (w_aug_sub (w_local j1 (w_local rfl (w_getItem_dict (X := X'.withF F') (.inr (.tail _ (.tail _ (.head _)))) hg fun _ => w_local rfl (w_iadd fun _ => ?_)))))
        refine w_perm bring2 (w_setItem_dict (X := X'.withF F') (by first | decide | (with_reducible first | exact n0 _ | exact f5 (by assumption) | exact a3 (by assumption) (by assumption) | exact b26 (by assumption) | exact a26 (by assumption)) | (first | lia | omega)) ?_)
        rw [← hfold]
        exact w_perm (σ' := [(v2, isView "dict_items" ds), (D, _), (T, isTup [.int k t, .int n t'])]) bring2 (w_keep (.cons_cons _ (.cons_cons _ (List.nil_sublist _))) (w_execs_nil (w_execs_nil (w_execs_nil ⟨j1, rfl⟩))))
    · rintro m₂ σ₂ ⟨j1, rfl⟩
      rw [hvs.len, List.take_length]
      refine w_keep (σ' := [(D, isD X'.C.w (addC pt ps))]) (.cons _ (.refl _)) (w_execs_cons (w_return (w_local j1 ?_)))
      rw [hC]
      exact h D hD
end
end Mine
end
end
section
open PySem PySem.W PySem.Calls PyProof.Rows PySem.Spec
set_option Elab.async false
set_option linter.unusedVariables false
set_option maxRecDepth 100000
noncomputable section
namespace Mine
noncomputable def isBook (w : World) (a b c d : Int) (T : Addr) : HP := fun o => ∃ t1 t2 t3 t4, isTup [.int a t1, .int b t2, .int c t3, .int d t4, .ref T] o
section
variable {X : Fm} {m : Vars} {σ : Led} {env : Env} {Q : Value → Vars → Led → Prop}
theorem w_unpack_book {a b c d : Int} {T t : Addr} {elts : List Expr} {k : Nat} {pos : Pos} {Q : Unit → Vars → Led → Prop} (hA : X.A.handled = none) (ht : Kn X.B σ t (isBook X.C.w a b c d T)) (hn : (assignEach elts env).length = 5) (hstar : (assignEach elts env).findIdx? (·.1) = none)
    (h : ∀ t1 t2 t3 t4, W X m σ (assignInOrder ((assignEach elts env).map (·.2)) [.int a t1, .int b t2, .int c t3, .int d t4, .ref T]) Q) : W X m σ (assign (.Tuple elts k pos) env (.ref t)) Q := fun s S => by
  obtain ⟨o, e, t1, t2, t3, t4, hb⟩ := S.kn ht
  exact assign_Tuple_tuple hA (isTup_at ⟨o, e, hb⟩) (by simpa using hn) hstar fun h' he => by
    have S' := S.grow (h' := h') (t := s.toks) (g := s.gens) (d := s.drawn) (fun b o e => he b o (Nat.ne_of_lt (Heap.lt_size e)) e) S.gens
    simpa using h t1 t2 t3 t4 _ S'
theorem wk_addStats {tt ts dt ds : Addr} {a1 a2 a3 a4 b1 b2 b3 b4 : Int} {pt ps : List (Int × Int)} (hA : Ok 6 X.A) (hst : (dt == sysModules) = false) (hss : (ds == sysModules) = false)
    (htt : Kn X.B σ tt (isBook X.C.w a1 a2 a3 a4 dt)) (hts : Kn X.B σ ts (isBook X.C.w b1 b2 b3 b4 ds)) (ht : Kn X.B σ dt (isD X.C.w pt)) (hs : Kn X.B σ ds (isD X.C.w ps)) (hlt : pt.length ≤ 400) (hls : ps.length ≤ 400)
    (h : ∀ R D, (D == sysModules) = false → Q (.ref R) m ((R, isBook X.C.w (b1 + a1) (b2 + a2) (b3 + a3) (b4 + a4) D) :: (D, isD X.C.w (addC pt ps)) :: σ)) : WK X m σ (.call (.ref 73) ⟨[.ref tt, .ref ts], []⟩) Q := by
  refine wk_def (σ₁ := []) (σ₂ := σ) (n := 5) (binds := [("target", .ref tt), ("source", .ref ts)]) rfl rfl hA (fun _ _ s _ => BindsTo.of_eq rfl) rfl rfl ?_
  intro X' hC hK hA' _
  rw [← hC] at htt hts ht hs
  have htt0 := hK _ _ htt
  have hts0 := hK _ _ hts
  have ht0 := hK _ _ ht
  have hs0 := hK _ _ hs
  refine w_execs_cons (w_assign_tup (w_local rfl (w_unpack_book hA'.hd (.inl hts0) rfl rfl fun u1 u2 u3 u4 => ?_)))
  refine w_inorder_cons (w_store_name (w_store_local (w_inorder_cons (w_store_name (w_store_local (w_inorder_cons (w_store_name (w_store_local (w_inorder_cons (w_store_name (w_store_local (w_inorder_cons (w_store_name (w_store_local (w_inorder_nil ?_)))))))))))))))
  refine w_execs_cons (w_assign_tup (w_local rfl (w_unpack_book hA'.hd (.inl htt0) rfl rfl fun v1 v2 v3 v4 => ?_)))
  refine w_inorder_cons (w_store_name (w_store_local (w_inorder_cons (w_store_name (w_store_local (w_inorder_cons (w_store_name (w_store_local (w_inorder_cons (w_store_name (w_store_local (w_inorder_cons (w_store_name (w_store_local (w_inorder_nil ?_)))))))))))))))
  refine w_post_weak (w_execs_cons (w_return (w_Tuple (w_args_cons (w_binop (w_local rfl (w_local rfl (w_add fun _ => ?_))))))))
  refine w_args_cons (w_binop (w_local rfl (w_local rfl (w_add fun _ => w_args_cons (w_binop (w_local rfl (w_local rfl (w_add fun _ => w_args_cons (w_binop (w_local rfl (w_local rfl (w_add fun _ => ?_))))))))))))
  refine w_args_cons (w_Call (w_global (v := .ref 80) rfl (w_cw_K (by kernel_rfl) (w_args_cons (w_local rfl (w_args_cons (w_local rfl (w_args_nil ?_))))))))
  refine w_call (wk_addCallers (hA'.le (by first | decide | (with_reducible first | exact n0 _ | exact f5 (by assumption) | exact a3 (by assumption) (by assumption) | exact b26 (by assumption) | exact a26 (by assumption)) | (first | lia | omega))) hst hss (.inl ht0) (.inl hs0) hlt hls fun D hD => w_args_nil (w_newTuple (szL _ (by simp)) fun R => ?_))
  rw [hC]
  exact ⟨_, .cons (fun o ho => (⟨_, _, _, _, ho⟩ : isBook X.C.w (b1 + a1) (b2 + a2) (b3 + a3) (b4 + a4) D o)) (.cons (fun _ h => h) .nil), h R D hD⟩
end
end Mine
end
end
section
open PySem PySem.W PySem.Calls PyProof.Rows PySem.Spec
set_option Elab.async false
set_option linter.unusedVariables false
set_option maxRecDepth 100000
noncomputable section
namespace Mine
section
variable {X : Fm} {m : Vars} {σ : Led} {env : Env} {Q : Value → Vars → Led → Prop}
theorem instP {C dx : Addr} : ∀ o, o = instObj C dx → o.cls = .ref C ∧ o.dict = some dx ∧ notCls o = true := fun o e => by subst e; exact ⟨rfl, rfl, rfl⟩
theorem wk_mkComp {L0 : Addr} (hA : Ok 6 X.A) (h : ∀ x dx, Q (.ref x) m ((x, (· = instObj 62 dx)) :: (dx, isDict1 "comp_select_list" (.ref L0)) :: σ)) : WK X m σ (.call (.ref 62) ⟨[.ref L0], []⟩) Q := by
  refine wk_make (fI := 52) (by kernel_rfl) (by kernel_rfl) (by kernel_rfl) fun x dx => ?_
  refine wk_def (X := X.withA _) (σ₁ := [(x, (· = instObj 62 dx)), (dx, (· = emptyDict))]) (σ₂ := σ) (n := 3) (binds := [("self", .ref x), ("comp_select_list", .ref L0)]) rfl rfl (hA.under.le (by first | decide | (with_reducible first | exact n0 _ | exact f5 (by assumption) | exact a3 (by assumption) (by assumption) | exact b26 (by assumption) | exact a26 (by assumption)) | (first | lia | omega))) (fun _ _ s _ => BindsTo.of_eq rfl) rfl rfl ?_
  intro X' hC hK hA' _
  refine w_execs_cons (w_assign_attr (w_local rfl (w_local rfl (w_perm (List.Perm.swap _ _ _) (w_setAttr1 (C := 62) (P := (· = instObj 62 dx)) (.inr (.head _)) instP (by kernel_rfl) rfl rfl rfl rfl (fun self => by kernel_rfl) (by kernel_rfl) ?_)))))
  exact w_perm (List.Perm.swap _ _ _) (w_execs_nil ⟨rfl, h x dx⟩)

theorem wk_compare {x dx L0 T lt rt : Addr} {t1 t2 : Tok} {a b : Int} {kl kr : Value} {ta tb : Tok} (hA : Ok 4 X.A) (hx : Kn X.B σ x (· = instObj 62 dx)) (hdx : Kn X.B σ dx (isDict1 "comp_select_list" (.ref L0))) (hL : Kn X.B σ L0 (isList [.ref T])) (hT : Kn X.B σ T (isTup [.int 1 t1, .int (-1) t2]))
    (hl : Kn X.B σ lt (isTup [kl, .int a ta])) (hr : Kn X.B σ rt (isTup [kr, .int b tb])) (h : ∀ t, Q (.int (if a < b then 1 else if a > b then -1 else 0) t) m σ) : WK X m σ (.call (.ref 59) ⟨[.ref x, .ref lt, .ref rt], []⟩) Q := by
  refine wk_def (σ₁ := []) (σ₂ := σ) (n := 3) (binds := [("self", .ref x), ("left", .ref lt), ("right", .ref rt)]) rfl rfl hA (fun _ _ s _ => BindsTo.of_eq rfl) rfl rfl ?_
  intro X' hC hK hA' _
  have hL0 := hK _ _ hL
  have hT0 := hK _ _ hT
  have hl0 := hK _ _ hl
  have hr0 := hK _ _ hr
  refine w_execs_cons (w_For (w_attr (w_local rfl (w_getAttr_val (C := 62) (P := (· = instObj 62 dx)) (D := isDict1 "comp_select_list" (.ref L0)) (.inl (hK _ _ hx)) (.inl (hK _ _ hdx)) instP (by kernel_rfl) (fun o ⟨hh, tk, n, e⟩ => by subst e; rfl) rfl ?_))))
  refine w_iter_list (.inl hL0) fun I hI => ?_
  refine w_loop (its := fun i => [(I, isListIter L0 i)]) (σ := []) (iter_list hA'.hd hL0 (Ne.symm hI)) (fun i m σ => m "left" = some (.ref lt) ∧ m "right" = some (.ref rt) ∧ σ = [] ∧ (i = 1 → ¬ a < b ∧ ¬ a > b)) ?_ ?_ ?_
  · exact ⟨rfl, rfl, rfl, fun h => absurd h (by decide)⟩
  · rintro F' i v τ m₁ σ₁ hi ⟨hv, rfl⟩ ⟨j1, j2, rfl, _⟩
    have hi0 : i = 0 := by simp at hi; exact hi
    subst hi0
    cases hv
    refine w_unpack_tup hA'.hd (.inl hT0) rfl rfl (w_inorder_cons (w_store_name (w_store_local (w_inorder_cons (w_store_name (w_store_local (w_inorder_nil ?_)))))))
    refine w_execs_cons (w_assign_name (w_subscript (w_local j1 (w_local rfl (w_item_tup (.inl hl0) (by decide) (by decide) (j := 1) rfl rfl (w_store_local ?_))))))
    refine w_execs_cons (w_assign_name (w_subscript (w_local j2 (w_local rfl (w_item_tup (.inl hr0) (by decide) (by decide) (j := 1) rfl rfl (w_store_local ?_))))))
    refine w_execs_cons (w_if (w_true_compare (w_local rfl (w_local rfl (w_lt (w_truthy_bool ?_))))))
    by_cases h1 : a < b
    · rw [if_pos (by simpa using h1)]
      refine w_execs_cons (w_return (w_unary (w_local rfl (w_neg_int fun t => ?_))))
      have := h t
      rw [if_pos h1] at this
      exact this
    · rw [if_neg (by simpa using h1)]
      refine w_execs_nil (w_execs_cons (w_if (w_true_compare (w_local rfl (w_local rfl (w_gt (w_truthy_bool ?_)))))))
      by_cases h2 : a > b
      · rw [if_pos (by simpa using h2)]
        refine w_execs_cons (w_return (w_local rfl ?_))
        have := h t2
        rw [if_neg h1, if_pos h2] at this
        exact this
      · rw [if_neg (by simpa using h2)]
        exact w_execs_nil (w_execs_nil ⟨j1, j2, rfl, fun _ => ⟨h1, h2⟩⟩)
  · rintro m₁ σ₁ ⟨j1, j2, rfl, hh⟩
    refine and2 (hh rfl) fun h1 h2 => ?_
    refine w_execs_cons (w_return (w_int fun t => ?_))
    have := h t
    rw [if_neg h1, if_neg h2] at this
    exact this
end
end Mine
end
end
section
open PySem PySem.W PySem.Calls PyProof.Rows PySem.Spec
set_option Elab.async false
set_option linter.unusedVariables false
set_option maxRecDepth 100000
noncomputable section
namespace Mine
structure PS where
  first : Int
  least : Int
  count : Int
  moved : Int
  won : Int
  lost : Int
  gains : List (Int × Int)
noncomputable def pairStep (S W : Nat → Int) (b : Nat) (p : PS) (a : Nat) : PS :=
  if W b * S a > W a * S b then ⟨p.first + W b * S a, p.least + min (W b * S a) (W a * S b), p.count + 1, p.moved + (W a + W b), p.won + W b * S a, p.lost + W a * S b, sto p.gains b ((getI p.gains b).getD 0 + W b * S a - W a * S b)⟩
  else ⟨p.first + W b * S a, p.least + min (W b * S a) (W a * S b), p.count, p.moved, p.won, p.lost, p.gains⟩
noncomputable def pairOwn (S W : Nat → Int) (b : Nat) (p : PS) : PS := ⟨p.first + W b * S b, p.least + W b * S b, p.count, p.moved, p.won, p.lost, p.gains⟩
noncomputable def behindStep (S W : Nat → Int) (p : PS) (b : Nat) : PS := (List.range b).foldl (pairStep S W b) (pairOwn S W b p)
noncomputable def pairsUpto (S W : Nat → Int) (n : Nat) : PS := (List.range n).foldl (behindStep S W) ⟨0, 0, 0, 0, 0, 0, []⟩
theorem pairsUpto_succ (S W : Nat → Int) (n : Nat) : pairsUpto S W (n + 1) = behindStep S W (pairsUpto S W n) n := by
  unfold pairsUpto; rw [List.range_succ, List.foldl_append]; rfl

structure PF (m : Vars) (sz wt G : Addr) (p : PS) : Prop where
  s : m "sizes" = some (.ref sz)
  w : m "weights" = some (.ref wt)
  g : m "gains" = some (.ref G)
  first : ∃ t, m "first" = some (.int p.first t)
  least : ∃ t, m "least" = some (.int p.least t)
  count : ∃ t, m "count" = some (.int p.count t)
  moved : ∃ t, m "moved" = some (.int p.moved t)
  won : ∃ t, m "all_won" = some (.int p.won t)
  lost : ∃ t, m "all_lost" = some (.int p.lost t)

theorem PF.use {m : Vars} {sz wt G : Addr} {p : PS} {R : Prop} (P : PF m sz wt G p) (k : ∀ t4 t5 t6 t7 t8 t9, m "sizes" = some (.ref sz) → m "weights" = some (.ref wt) → m "gains" = some (.ref G) → m "first" = some (.int p.first t4) → m "least" = some (.int p.least t5) →
    m "count" = some (.int p.count t6) → m "moved" = some (.int p.moved t7) → m "all_won" = some (.int p.won t8) → m "all_lost" = some (.int p.lost t9) → R) : R := by
  obtain ⟨p1, p2, p3, ⟨t4, p4⟩, ⟨t5, p5⟩, ⟨t6, p6⟩, ⟨t7, p7⟩, ⟨t8, p8⟩, ⟨t9, p9⟩⟩ := P
  exact k _ _ _ _ _ _ p1 p2 p3 p4 p5 p6 p7 p8 p9

section
variable {X : Fm} {m : Vars} {σ : Led} {env : Env} {Q : Value → Vars → Led → Prop}
theorem w_getMethod_dict {d : Addr} {ps : List (Int × Int)} {pl : Sem Bool} {Q : Value × List Value → Vars → Led → Prop} (hd : Kn X.B σ d (isD X.C.w ps)) (h : Q (.builtin "dict.get", [.ref d]) m σ) : W X m σ (getMethod (.ref d) "get" pl) Q := fun s S => by
  refine ex1 (isD_len (S.kn hd)) fun kvs oh => ?_; refine and2 (oh) fun hd hv => ?_; clear oh
  exact getMethod_builtin hd.typeIs F.plainAttrs_dict F.slot_dict_get F.type_dict_get (fun a e => hd.mapOf.noDict a e) ⟨m, σ, S, h⟩
theorem w_call_get {d : Addr} {ps : List (Int × Int)} {k z : Int} {t u : Tok} (hs : (d == sysModules) = false) (hd : Kn X.B σ d (isD X.C.w ps)) (h : ∀ t, Q (.int ((getI ps k).getD z) t) m σ) : W X m σ (call (.builtin "dict.get") [.ref d, .int k t, .int z u]) Q := fun s S => by
  refine ex1 (isD_len (S.kn hd)) fun kvs oh => ?_; refine and2 (oh) fun hd hv => ?_; clear oh
  have hvk := hv.value k
  refine call_meetsIn F.slot_dict_get hd.typeIs F.entry_dict_get (F.args_dict_get_3 _ _ _) (meets_dict_get_default (intKind PW X.C.w) d (k := k) (key := .int k t) (isInt_int k t) hs (.int z u)) ⟨_, hd.mapOf, ?_⟩
  cases hg : getI ps k with
  | none => rw [hg] at h hvk; rw [hvk]; exact ⟨m, _, S.toks, h u⟩
  | some n => rw [hg] at h hvk; obtain ⟨tn, hn⟩ := hvk; rw [hn]; exact ⟨m, _, S.toks, h tn⟩

set_option maxHeartbeats 4000000 in
theorem wk_pairs {sz wt : Addr} {sv wv : List Value} {ss ws : List Int} (hA : Ok 6 X.A) (hs : Kn X.B σ sz (isList sv)) (hsi : IntsOf sv ss) (hw : Kn X.B σ wt (isList wv)) (hwi : IntsOf wv ws) (hsl : ss.length = 5) (hwl : ws.length = 5)
    (hwb : ∀ w ∈ ws, 1 ≤ w ∧ w ≤ 3) {p : PS} (hp : pairsUpto (fun k => ss.getD k 0) (fun k => ws.getD k 0) 5 = p)
    (h : ∀ R Bk G t1 t2, (G == sysModules) = false → Q (.ref R) m ((R, isTup [.int p.first t1, .int p.least t2, .ref Bk]) :: (Bk, isBook X.C.w p.count p.moved p.won p.lost G) :: (G, isD X.C.w p.gains) :: σ)) : WK X m σ (.call (.ref 251) ⟨[.ref sz, .ref wt], []⟩) Q := by
  refine wk_def (σ₁ := []) (σ₂ := σ) (n := 5) (binds := [("sizes", .ref sz), ("weights", .ref wt)]) rfl rfl hA (fun _ _ s _ => BindsTo.of_eq rfl) rfl rfl ?_
  intro X' hC hK hA' _
  have hs' : BI X'.B sz (isList sv) := hK _ _ hs
  have hw' : BI X'.B wt (isList wv) := hK _ _ hw
  have hSat : ∀ {k : Nat}, k < 5 → ∃ t, sv[k]? = some (.int (ss.getD k 0) t) := fun {k} hk => by
    refine ex1 (hsi.get (List.getElem?_eq_getElem (hsl ▸ hk : k < ss.length))) fun t e => ?_
    exact ⟨t, by rw [e]; simp [hsl, hk]⟩
  have hWat : ∀ {k : Nat}, k < 5 → ∃ t, wv[k]? = some (.int (ws.getD k 0) t) := fun {k} hk => by
    refine ex1 (hwi.get (List.getElem?_eq_getElem (hwl ▸ hk : k < ws.length))) fun t e => ?_
    exact ⟨t, by rw [e]; simp [hwl, hk]⟩
  have hWb : ∀ {k : Nat}, k < 5 → 1 ≤ ws.getD k 0 ∧ ws.getD k 0 ≤ 3 := fun {k} hk => by
    have := hwb _ (List.getElem_mem (hwl ▸ hk : k < ws.length))
    simpa [hwl, hk] using this
  generalize hS : (fun k => ss.getD k 0) = S at hp
  generalize hW : (fun k => ws.getD k 0) = WW at hp
  have hS' : ∀ k, ss.getD k 0 = S k := fun k => by rw [← hS]
  have hW' : ∀ k, ws.getD k 0 = WW k := fun k => by rw [← hW]
  simp only [hS', hW'] at hSat hWat hWb
  refine w_gen fun Q0 kk0 => ?_
  refine w_execs_cons (w_assign_name (w_int fun _ => w_store_local (w_execs_cons (w_assign_name (w_int fun _ => w_store_local (w_execs_cons (w_assign_name (w_int fun _ => w_store_local ?_))))))))
  refine w_execs_cons (w_assign_name (w_int fun _ => w_store_local (w_execs_cons (w_assign_name (w_int fun _ => w_store_local (w_execs_cons (w_assign_name (w_int fun _ => w_store_local ?_))))))))
  refine w_execs_cons (w_assign_name (w_Dict_empty fun G hG => w_store_local ?_))
  refine w_execs_cons (w_For (w_Call (w_builtin rfl (by boot_fast) (w_cw_type (w_args_cons (w_int fun _ => w_args_nil (w_range1 fun r => ?_)))))))
  refine w_iter_range (.inr (.head _)) (by decide) (by decide) (k := 5) (by decide) fun I => ?_
  refine ex1 (show ∃ J : Nat → Vars → Led → Prop, J = (fun i m σ => PF m sz wt G (pairsUpto S WW i) ∧ (pairsUpto S WW i).gains.length ≤ 10 * i ∧ σ = [(r, isRange 0 5 1), (G, isD X'.C.w (pairsUpto S WW i).gains)]) from ⟨_, rfl⟩) fun J1 hJ1 => ?_
  refine w_loop (its := fun i => [(I, isRangeIt (0 + (i : Nat) * 1) (((5 : Nat) : Int) - (i : Nat)) 1)]) (σ := [(r, isRange 0 5 1), (G, isD X'.C.w [])]) (iter_range hA'.hd)
    J1 ?_ ?_ ?_
  · rw [hJ1]; exact ⟨⟨rfl, rfl, rfl, ⟨_, rfl⟩, ⟨_, rfl⟩, ⟨_, rfl⟩, ⟨_, rfl⟩, ⟨_, rfl⟩, ⟨_, rfl⟩⟩, by simp [pairsUpto], rfl⟩
  · rintro F' b v τ m₁ σ₁ hb ⟨⟨tb, rfl⟩, rfl⟩ hj
    have hJn := congrFun hJ1 (b + 1)
    rw [hJ1] at hj
    refine and3 (hj) fun P hgl oq2 => ?_; try clear hj; subst oq2
    clear hJ1
    have e0 : (0 + (b : Int) * 1) = (b : Int) := by (first | lia | omega)
    rw [e0]
    refine ex1 (hSat hb) fun tsb hsb => ?_
    refine ex1 (hWat hb) fun twb hwb' => ?_
    have hWbb := hWb hb
    generalize hp0 : pairsUpto S WW b = p0 at P hgl
    refine P.use fun t4 t5 t6 t7 t8 t9 p1 p2 p3 p4 p5 p6 p7 p8 p9 => ?_; clear P
    refine w_store_name (w_store_local (w_gen fun Q1 kk1 => ?_))
    refine w_execs_cons (w_aug_name (w_load_local p4 (w_binop (w_subscript (w_local p2 (w_local rfl ?_))))))
    refine w_item_list (vs := wv) (.inl hw') (by first | decide | (with_reducible first | exact n0 _ | exact f5 (by assumption) | exact a3 (by assumption) (by assumption) | exact b26 (by assumption) | exact a26 (by assumption)) | (first | lia | omega)) (by first | decide | (with_reducible first | exact n0 _ | exact f5 (by assumption) | exact a3 (by assumption) (by assumption) | exact b26 (by assumption) | exact a26 (by assumption)) | (first | lia | omega)) hwb' (w_subscript (w_local p1 (w_local rfl ?_)))
    refine w_item_list (vs := sv) (.inl hs') (by first | decide | (with_reducible first | exact n0 _ | exact f5 (by assumption) | exact a3 (by assumption) (by assumption) | exact b26 (by assumption) | exact a26 (by assumption)) | (first | lia | omega)) (by first | decide | (with_reducible first | exact n0 _ | exact f5 (by assumption) | exact a3 (by assumption) (by assumption) | exact b26 (by assumption) | exact a26 (by assumption)) | (first | lia | omega)) hsb (w_mul (mulOk_small (by first | decide | (with_reducible first | exact n0 _ | exact f5 (by assumption) | exact a3 (by assumption) (by assumption) | exact b26 (by assumption) | exact a26 (by assumption)) | (first | lia | omega))) fun _ => w_iadd fun _ => w_store_local ?_)
    refine w_execs_cons (w_aug_name (w_load_local p5 (w_binop (w_subscript (w_local p2 (w_local rfl ?_))))))
    refine w_item_list (vs := wv) (.inl hw') (by first | decide | (with_reducible first | exact n0 _ | exact f5 (by assumption) | exact a3 (by assumption) (by assumption) | exact b26 (by assumption) | exact a26 (by assumption)) | (first | lia | omega)) (by first | decide | (with_reducible first | exact n0 _ | exact f5 (by assumption) | exact a3 (by assumption) (by assumption) | exact b26 (by assumption) | exact a26 (by assumption)) | (first | lia | omega)) hwb' (w_subscript (w_local p1 (w_local rfl ?_)))
    refine w_item_list (vs := sv) (.inl hs') (by first | decide | (with_reducible first | exact n0 _ | exact f5 (by assumption) | exact a3 (by assumption) (by assumption) | exact b26 (by assumption) | exact a26 (by assumption)) | (first | lia | omega)) (by first | decide | (with_reducible first | exact n0 _ | exact f5 (by assumption) | exact a3 (by assumption) (by assumption) | exact b26 (by assumption) | exact a26 (by assumption)) | (first | lia | omega)) hsb (w_mul (mulOk_small (by first | decide | (with_reducible first | exact n0 _ | exact f5 (by assumption) | exact a3 (by assumption) (by assumption) | exact b26 (by assumption) | exact a26 (by assumption)) | (first | lia | omega))) fun _ => w_iadd fun _ => w_store_local ?_)
    refine w_execs_cons (w_For (w_Call (w_builtin rfl (by boot_fast) (w_cw_type (w_args_cons (w_local rfl (w_args_nil (w_range1 fun r2 => ?_))))))))
    refine w_iter_range (.inr (.head _)) (by decide) (by first | decide | (with_reducible first | exact n0 _ | exact f5 (by assumption) | exact a3 (by assumption) (by assumption) | exact b26 (by assumption) | exact a26 (by assumption)) | (first | lia | omega)) (k := b) (by first | decide | (with_reducible first | exact n0 _ | exact f5 (by assumption) | exact a3 (by assumption) (by assumption) | exact b26 (by assumption) | exact a26 (by assumption)) | (first | lia | omega)) fun I2 => ?_
    refine ex1 (show ∃ J : Nat → Vars → Led → Prop, J = (fun i m σ => PF m sz wt G ((List.range i).foldl (pairStep S WW b) (pairOwn S WW b p0)) ∧ m "behind" = some (.int (b : Int) tb) ∧ ((List.range i).foldl (pairStep S WW b) (pairOwn S WW b p0)).gains.length ≤ 10 * b + i ∧ σ = [(r2, isRange 0 (b : Int) 1), (r, isRange 0 5 1), (G, isD X'.C.w ((List.range i).foldl (pairStep S WW b) (pairOwn S WW b p0)).gains)]) from ⟨_, rfl⟩) fun J2 hJ2 => ?_
    refine w_loop (its := fun i => [(I2, isRangeIt (0 + (i : Nat) * 1) (((b : Nat) : Int) - (i : Nat)) 1)]) (σ := [(r2, isRange 0 (b : Int) 1), (r, isRange 0 5 1), (G, isD X'.C.w p0.gains)]) (iter_range hA'.hd)
      J2 ?_ ?_ ?_
    · rw [hJ2]; exact ⟨⟨p1, p2, p3, ⟨_, rfl⟩, ⟨_, rfl⟩, ⟨_, p6⟩, ⟨_, p7⟩, ⟨_, p8⟩, ⟨_, p9⟩⟩, rfl, hgl, rfl⟩
    · rintro F2 a v τ m₂ σ₂ ha ⟨⟨ta, rfl⟩, rfl⟩ hj
      have hJm := congrFun hJ2 (a + 1)
      rw [hJ2] at hj
      refine and4 (hj) fun P hbh hgl2 oq3 => ?_; try clear hj; subst oq3
      clear hJ2
      have e1 : (0 + (a : Int) * 1) = (a : Int) := by (first | lia | omega)
      rw [e1]
      have ha5 : a < 5 := by (first | lia | omega)
      refine ex1 (hSat ha5) fun tsa hsa => ?_
      refine ex1 (hWat ha5) fun twa hwa => ?_
      have hWaa := hWb ha5
      have hfold : (List.range (a + 1)).foldl (pairStep S WW b) (pairOwn S WW b p0) = pairStep S WW b ((List.range a).foldl (pairStep S WW b) (pairOwn S WW b p0)) a := by
        rw [List.range_succ, List.foldl_append]; rfl
      generalize (List.range a).foldl (pairStep S WW b) (pairOwn S WW b p0) = q at P hgl2 hfold ⊢
      refine P.use fun u4 u5 u6 u7 u8 u9 q1 q2 q3 q4 q5 q6 q7 q8 q9 => ?_; clear P
      refine w_store_name (w_store_local (w_gen fun Q2 kk2 => ?_))
      refine w_execs_cons (w_assign_name (w_binop (w_subscript (w_local q2 (w_local hbh ?_)))))
      refine w_item_list (vs := wv) (.inl hw') (by first | decide | (with_reducible first | exact n0 _ | exact f5 (by assumption) | exact a3 (by assumption) (by assumption) | exact b26 (by assumption) | exact a26 (by assumption)) | (first | lia | omega)) (by first | decide | (with_reducible first | exact n0 _ | exact f5 (by assumption) | exact a3 (by assumption) (by assumption) | exact b26 (by assumption) | exact a26 (by assumption)) | (first | lia | omega)) hwb' (w_subscript (w_local q1 (w_local rfl ?_)))
      refine w_item_list (vs := sv) (.inl hs') (by first | decide | (with_reducible first | exact n0 _ | exact f5 (by assumption) | exact a3 (by assumption) (by assumption) | exact b26 (by assumption) | exact a26 (by assumption)) | (first | lia | omega)) (by first | decide | (with_reducible first | exact n0 _ | exact f5 (by assumption) | exact a3 (by assumption) (by assumption) | exact b26 (by assumption) | exact a26 (by assumption)) | (first | lia | omega)) hsa (w_mul (mulOk_small (by first | decide | (with_reducible first | exact n0 _ | exact f5 (by assumption) | exact a3 (by assumption) (by assumption) | exact b26 (by assumption) | exact a26 (by assumption)) | (first | lia | omega))) fun _ => w_store_local ?_)
      refine w_execs_cons (w_assign_name (w_binop (w_subscript (w_local q2 (w_local rfl ?_)))))
      refine w_item_list (vs := wv) (.inl hw') (by first | decide | (with_reducible first | exact n0 _ | exact f5 (by assumption) | exact a3 (by assumption) (by assumption) | exact b26 (by assumption) | exact a26 (by assumption)) | (first | lia | omega)) (by first | decide | (with_reducible first | exact n0 _ | exact f5 (by assumption) | exact a3 (by assumption) (by assumption) | exact b26 (by assumption) | exact a26 (by assumption)) | (first | lia | omega)) hwa (w_subscript (w_local q1 (w_local hbh ?_)))
      refine w_item_list (vs := sv) (.inl hs') (by first | decide | (with_reducible first | exact n0 _ | exact f5 (by assumption) | exact a3 (by assumption) (by assumption) | exact b26 (by assumption) | exact a26 (by assumption)) | (first | lia | omega)) (by first | decide | (with_reducible first | exact n0 _ | exact f5 (by assumption) | exact a3 (by assumption) (by assumption) | exact b26 (by assumption) | exact a26 (by assumption)) | (first | lia | omega)) hsb (w_mul (mulOk_small (by first | decide | (with_reducible first | exact n0 _ | exact f5 (by assumption) | exact a3 (by assumption) (by assumption) | exact b26 (by assumption) | exact a26 (by assumption)) | (first | lia | omega))) fun _ => w_store_local ?_)
      refine w_execs_cons (w_aug_name (w_load_local q4 (w_local rfl (w_iadd fun _ => w_store_local ?_))))
      refine w_execs_cons (w_aug_name (w_load_local q5 (w_Call (w_builtin rfl (by boot_fast) (w_cw_builtin (w_args_cons (w_local rfl (w_args_cons (w_local rfl (w_args_nil (w_min2 hA'.hd fun _ => w_iadd fun _ => w_store_local ?_)))))))))))
      refine w_execs_cons (w_if (w_true_compare (w_local rfl (w_local rfl (w_gt (w_truthy_bool ?_))))))
      by_cases hgt : WW b * S a > WW a * S b
      · rw [if_pos (by simpa using hgt)]
        have hstep : pairStep S WW b q a = ⟨q.first + WW b * S a, q.least + min (WW b * S a) (WW a * S b), q.count + 1, q.moved + (WW a + WW b), q.won + WW b * S a, q.lost + WW a * S b, sto q.gains b ((getI q.gains b).getD 0 + WW b * S a - WW a * S b)⟩ := by
          unfold pairStep; rw [if_pos hgt]
        refine w_execs_cons (w_aug_name (w_load_local q6 (w_int fun _ => w_iadd fun _ => w_store_local ?_)))
        refine w_execs_cons (w_aug_name (w_load_local q7 (w_binop (w_subscript (w_local q2 (w_local rfl ?_))))))
        refine w_item_list (vs := wv) (.inl hw') (by first | decide | (with_reducible first | exact n0 _ | exact f5 (by assumption) | exact a3 (by assumption) (by assumption) | exact b26 (by assumption) | exact a26 (by assumption)) | (first | lia | omega)) (by first | decide | (with_reducible first | exact n0 _ | exact f5 (by assumption) | exact a3 (by assumption) (by assumption) | exact b26 (by assumption) | exact a26 (by assumption)) | (first | lia | omega)) hwa (w_subscript (w_local q2 (w_local hbh ?_)))
        refine w_item_list (vs := wv) (.inl hw') (by first | decide | (with_reducible first | exact n0 _ | exact f5 (by assumption) | exact a3 (by assumption) (by assumption) | exact b26 (by assumption) | exact a26 (by assumption)) | (first | lia | omega)) (by first | decide | (with_reducible first | exact n0 _ | exact f5 (by assumption) | exact a3 (by assumption) (by assumption) | exact b26 (by assumption) | exact a26 (by assumption)) | (first | lia | omega)) hwb' (w_add fun _ => w_iadd fun _ => w_store_local ?_)
        refine w_execs_cons (w_aug_name (w_load_local q8 (w_local rfl (w_iadd fun _ => w_store_local ?_))))
        refine w_execs_cons (w_aug_name (w_load_local q9 (w_local rfl (w_iadd fun _ => w_store_local ?_))))
        refine w_execs_cons (w_assign_sub (w_binop (w_binop (w_methcall (w_local q3 (w_getMethod_dict (X := X'.withF F2) (.inr (.tail _ (.tail _ (.head _)))) (w_cwm_builtin ?_)))))))
        refine w_args_cons (w_local hbh (w_args_cons (w_int fun _ => w_args_nil (w_call_get (X := X'.withF F2) hG (.inr (.tail _ (.tail _ (.head _)))) fun _ => w_local rfl (w_add fun _ => w_local rfl (w_sub fun _ => w_local q3 (w_local hbh ?_)))))))
        refine w_perm bring2 (w_setItem_dict (X := X'.withF F2) (by first | decide | (with_reducible first | exact n0 _ | exact f5 (by assumption) | exact a3 (by assumption) (by assumption) | exact b26 (by assumption) | exact a26 (by assumption)) | (first | lia | omega)) (w_perm bring2.symm (w_execs_nil (w_execs_nil (kk2 _ _ _ ?_)))))
        show J2 (a + 1) _ _
        rw [hJm, hfold, hstep]
        refine ⟨⟨q1, q2, q3, ⟨_, rfl⟩, ⟨_, rfl⟩, ⟨_, rfl⟩, ⟨_, rfl⟩, ⟨_, rfl⟩, ⟨_, rfl⟩⟩, hbh, ?_, rfl⟩
        have := sto_len q.gains b ((getI q.gains b).getD 0 + WW b * S a - WW a * S b)
        show (sto q.gains b ((getI q.gains b).getD 0 + WW b * S a - WW a * S b)).length ≤ _
        (first | lia | omega)
      · rw [if_neg (by simpa using hgt)]
        have hstep : pairStep S WW b q a = ⟨q.first + WW b * S a, q.least + min (WW b * S a) (WW a * S b), q.count, q.moved, q.won, q.lost, q.gains⟩ := by
          unfold pairStep; rw [if_neg hgt]
        refine w_execs_nil (w_execs_nil (kk2 _ _ _ ?_))
        show J2 (a + 1) _ _
        rw [hJm, hfold, hstep]
        refine ⟨⟨q1, q2, q3, ⟨_, rfl⟩, ⟨_, rfl⟩, ⟨_, q6⟩, ⟨_, q7⟩, ⟨_, q8⟩, ⟨_, q9⟩⟩, hbh, ?_, rfl⟩
        show q.gains.length ≤ _
        (first | lia | omega)
    · rintro m₂ σ₂ hj
      rw [hJ2] at hj
      refine and4 (hj) fun P _ hgl2 oq3 => ?_; try clear hj; subst oq3
      refine w_keep (σ' := [(r, isRange 0 5 1), (G, _)]) (.cons _ (.refl _)) (w_execs_nil (kk1 _ _ _ ?_))
      show J1 (b + 1) _ _
      rw [hJn]
      refine ⟨?_, ?_, ?_⟩
      · rw [pairsUpto_succ, hp0]; exact P
      · rw [pairsUpto_succ, hp0]; unfold behindStep; (first | lia | omega)
      · rw [pairsUpto_succ, hp0]; rfl
  · rintro m₁ σ₁ hj
    rw [hJ1] at hj
    refine and3 (hj) fun P _ oq2 => ?_; try clear hj; subst oq2
    clear hJ1
    rw [hp] at P ⊢
    refine P.use fun t4 t5 t6 t7 t8 t9 p1 p2 p3 p4 p5 p6 p7 p8 p9 => ?_; clear P
    refine w_keep (σ' := [(G, isD X'.C.w p.gains)]) (.cons _ (.refl _)) (w_post_weak (w_execs_cons (w_return (w_Tuple (w_args_cons (w_local p4 (w_args_cons (w_local p5 (w_args_cons ?_)))))))))
    refine w_Tuple (w_args_cons (w_local p6 (w_args_cons (w_local p7 (w_args_cons (w_local p8 (w_args_cons (w_local p9 (w_args_cons (w_local p3 (w_args_nil (w_newTuple (szL _ (by simp)) fun Bk => ?_))))))))))))
    refine w_args_nil (w_newTuple (szL _ (by simp)) fun R => ?_)
    rw [hC]
    exact ⟨_, .cons (fun _ h => h) (.cons (fun o ho => (⟨_, _, _, _, ho⟩ : isBook X.C.w p.count p.moved p.won p.lost G o)) (.cons (fun _ h => h) .nil)), kk0 _ _ _ (h R Bk G t4 t5 hG)⟩
end
end Mine
end
end
section
open PySem PySem.W PySem.Calls PyProof.Rows PySem.Spec
set_option Elab.async false
set_option linter.unusedVariables false
set_option maxRecDepth 100000
noncomputable section
namespace Mine
section
variable {X : Fm} {m : Vars} {σ : Led} {env : Env} {pos : Pos} {Q : Value → Vars → Led → Prop}
theorem w_Dict_one {k v : Expr} (h : ∀ d, (d == sysModules) = false → W X m ((d, isD X.C.w []) :: σ) (eval k env) (fun kv m' σ' => W X m' σ' (eval v env) (fun vv m'' σ'' => ∃ kn t n t' σ₁, kv = .int kn t ∧ vv = .int n t' ∧ σ'' = (d, isD X.C.w []) :: σ₁ ∧ Q (.ref d) m'' ((d, isD X.C.w [(kn, n)]) :: σ₁)))) :
    W X m σ (eval (.Dict [some k] [v] pos) env) Q := fun s S => by
  have S1 : St X.C X.B X.F X.L m ((s.heap.objs.size, isD X.C.w []) :: σ) { s with heap := s.heap.push { cls := .type "dict", data := .dict #[] } } := S.push (P := isD X.C.w []) rfl (by
    refine ex1 (Heap.dictOf_iff.mp (Heap.DictOf.new (knd := intKind PW X.C.w) s.heap)) fun o ou0 => ?_; refine and2 (ou0) fun e hd => ?_; clear ou0
    rw [Heap.get?_push_size _ rfl] at e
    cases e
    exact ⟨[], hd, .nil⟩)
  refine wpAny_Dict_pairs (knd := intKind PW X.C.w) (pairs := [(eval k env, eval v env >>= fun x => standAt pos >>= fun _ => pure x)]) rfl (by simp) (by simp) ?_
  refine evalPairs_cons ((h _ S.notMods).use S1 fun kv m' σ' s₁ S₁ q => ?_)
  refine wpAny_bind (q.use S₁ fun vv m'' σ'' s₂ S₂ q => ?_)
  refine wpAny_bind (wpAny_standAt (wpAny_pure (evalPairs_nil ?_)))
  refine ex5 (q) fun kn t n t' σ₁ oh => ?_; (try clear q); refine and4 oh fun oq0 oq1 oq2 hq => ?_; clear oh; subst oq0; subst oq1; subst oq2
  refine ex1 (isD_len (S₂.own _ (.head _))) fun kvs ou0 => ?_; refine and2 (ou0) fun hd hv => ?_; clear ou0
  cases hv
  refine ⟨[(kn, .int n t')], ⟨isInt_int kn t, rfl, trivial⟩, hd, fun h' hd' hs' => ?_⟩
  refine ex1 (Heap.dictOf_iff.mp hd') fun o ou0 => ?_; refine and2 (ou0) fun e hd'' => ?_; clear ou0
  exact ⟨m'', _, S₂.set0 (P' := isD X.C.w [(kn, n)]) (t := _) e ⟨_, hd'', .cons ⟨t', rfl⟩ .nil⟩ hs', hq⟩
theorem w_eq_empty {a b : Addr} {vs : List Value} (hA : X.A.units < cLine) (ha : Kn X.B σ a (isList vs)) (hb : Kn X.B σ b (isList [])) (h : Q (.bool (decide (vs = []))) m σ) : W X m σ (compareOp .Eq (.ref a) (.ref b)) Q := fun s S => by
  have La := isList_at (S.kn ha)
  have Lb := isList_at (S.kn hb)
  by_cases hv : vs = []
  · subst hv
    exact SeqAt.eq_listAt (e := fun _ => true) La Lb rfl hA (fun j h1 _ => absurd h1 (Nat.not_lt_zero _)) ⟨m, σ, S, h⟩
  · rw [decide_eq_false hv] at h
    refine SeqAt.eq_list_lengthsAt La Lb ?_ hA ⟨m, σ, S, h⟩
    rw [bne_iff_ne]
    simpa using hv
noncomputable def isCard (k c : Int) : HP := fun o => ∃ t1 t2, isTup [.int k t1, .int c t2] o
end
structure RS where
  row : List Nat
  c : Int
  m : Int
  wo : Int
  lo : Int
  g : List (Int × Int)
noncomputable def wholeT (xs : List Str) : Int := xs.foldl (fun n x => n * (x.length : Int)) 1
noncomputable def cardV (xs : List Str) (ws : List Int) (k : Nat) : Int := ws.getD k 0 * (wholeT xs).fdiv (lenAt xs k)
noncomputable def isWrong (card : Nat → Int) (row : List Nat) (s : Nat) : Bool := decide (card (row.getD (s - 1) 0) < card (row.getD s 0))
noncomputable def wrongOf (card : Nat → Int) (row : List Nat) : List Nat := ((List.range 4).map (· + 1)).filter (isWrong card row)
noncomputable def swapAt (row : List Nat) (p : Nat) : List Nat := row.take (p - 1) ++ [row.getD p 0, row.getD (p - 1) 0] ++ row.drop (p + 1)
noncomputable def pickOf (turn : Int) (i : Nat) (wr : List Nat) : Nat := wr.getD ((turn + i).fmod wr.length).toNat 0
noncomputable def runMove (S W : Nat → Int) (st : RS) (p : Nat) : RS :=
  let a := st.row.getD (p - 1) 0
  let b := st.row.getD p 0
  ⟨swapAt st.row p, 1 + st.c, (W a + W b) + st.m, W b * S a + st.wo, W a * S b + st.lo, addC st.g [((b : Int), W b * S a - W a * S b)]⟩
noncomputable def runStep (S W card : Nat → Int) (turn : Int) (st : RS) (i : Nat) : RS := if wrongOf card st.row = [] then st else runMove S W st (pickOf turn i (wrongOf card st.row))
noncomputable def runUpto (S W card : Nat → Int) (turn : Int) (n : Nat) : RS := (List.range n).foldl (runStep S W card turn) ⟨[0, 1, 2, 3, 4], 0, 0, 0, 0, []⟩
theorem runUpto_succ (S W card : Nat → Int) (turn : Int) (n : Nat) : runUpto S W card turn (n + 1) = runStep S W card turn (runUpto S W card turn n) n := by
  unfold runUpto; rw [List.range_succ, List.foldl_append]; rfl
theorem runUpto_stop {S W card : Nat → Int} {turn : Int} {n : Nat} (h : wrongOf card (runUpto S W card turn n).row = []) : ∀ k, runUpto S W card turn (n + k) = runUpto S W card turn n
  | 0 => rfl
  | k + 1 => by
    rw [← Nat.add_assoc, runUpto_succ, runUpto_stop h k]
    unfold runStep
    rw [if_pos h]
theorem wrong_bd {card : Nat → Int} {row : List Nat} {p : Nat} (h : p ∈ wrongOf card row) : 1 ≤ p ∧ p ≤ 4 := by
  unfold wrongOf at h
  refine and2 (List.mem_filter.mp h) fun h1 _ => ?_
  refine ex1 (List.mem_map.mp h1) fun q ou0 => ?_; refine and2 (ou0) fun hq oq2 => ?_; clear ou0; subst oq2
  have := List.mem_range.mp hq
  (first | lia | omega)
theorem pick_mem {turn : Int} {i : Nat} {wr : List Nat} (h : wr ≠ []) : pickOf turn i wr ∈ wr := by
  have hl : 0 < wr.length := List.length_pos_iff.mpr h
  have h1 := Int.fmod_nonneg_of_pos (turn + i) (show (0 : Int) < wr.length by (first | lia | omega))
  have h2 := Int.fmod_lt_of_pos (turn + i) (show (0 : Int) < wr.length by (first | lia | omega))
  have hlt : ((turn + i).fmod wr.length).toNat < wr.length := by (first | lia | omega)
  unfold pickOf
  rw [List.getD_eq_getElem?_getD, List.getElem?_eq_getElem hlt]
  exact List.getElem_mem hlt
theorem swap_len {row : List Nat} {p : Nat} (hl : row.length = 5) (h1 : 1 ≤ p) (h4 : p ≤ 4) : (swapAt row p).length = 5 := by
  unfold swapAt; simp [hl]; (first | lia | omega)
theorem swap_lt {row : List Nat} {p : Nat} (hr : ∀ k ∈ row, k < 5) : ∀ k ∈ swapAt row p, k < 5 := fun k hk => by
  have hd : ∀ j, row.getD j 0 < 5 := fun j => by
    rw [List.getD_eq_getElem?_getD]
    by_cases hj : j < row.length
    · rw [List.getElem?_eq_getElem hj]; exact hr _ (List.getElem_mem hj)
    · rw [List.getElem?_eq_none (by (first | lia | omega))]; decide
  unfold swapAt at hk
  rcases List.mem_append.mp hk with hk | hk
  · rcases List.mem_append.mp hk with hk | hk
    · exact hr k (List.mem_of_mem_take hk)
    · simp only [List.mem_cons, List.not_mem_nil, or_false] at hk
      rcases hk with rfl | rfl <;> exact hd _
  · exact hr k (List.mem_of_mem_drop hk)
theorem addC_one (t : List (Int × Int)) (p : Int × Int) : (addC t [p]).length ≤ t.length + 1 := by
  have l1 := addC_len [p] (copyD t)
  have l2 := copyD_len t []
  unfold copyD at l1
  simp only [List.length_cons, List.length_nil] at l1 l2
  unfold addC copyD
  (first | lia | omega)
theorem runUpto_ok (S W card : Nat → Int) (turn : Int) : ∀ n, (runUpto S W card turn n).row.length = 5 ∧ (∀ k ∈ (runUpto S W card turn n).row, k < 5) ∧ (runUpto S W card turn n).g.length ≤ n
  | 0 => ⟨rfl, fun k hk => by simp [runUpto] at hk; (first | lia | omega), Nat.le_refl _⟩
  | n + 1 => by
    refine and3 (runUpto_ok S W card turn n) fun h1 h2 h3 => ?_
    rw [runUpto_succ]
    unfold runStep
    split
    · exact ⟨h1, h2, by (first | lia | omega)⟩
    · rename_i hw
      have hb := wrong_bd (pick_mem (turn := turn) (i := n) hw)
      refine ⟨swap_len h1 hb.1 hb.2, swap_lt h2, ?_⟩
      exact Nat.le_trans (addC_one _ _) (by (first | lia | omega))
end Mine
end
end
section
open PySem PySem.W PySem.Calls PyProof.Rows PySem.Spec
set_option Elab.async false
set_option linter.unusedVariables false
set_option maxRecDepth 100000
noncomputable section
namespace Mine
inductive RefsOf (B : PH) (σ : Led) : List Value → List HP → Prop where
  | nil : RefsOf B σ [] []
  | cons {T : Addr} {P : HP} {vs : List Value} {Ps : List HP} (h : Kn B σ T P) (t : RefsOf B σ vs Ps) : RefsOf B σ (.ref T :: vs) (P :: Ps)
theorem RefsOf.mono {B B' : PH} {σ σ' : Led} {vs : List Value} {Ps : List HP} (p : RefsOf B σ vs Ps) (h : ∀ a P, Kn B σ a P → Kn B' σ' a P) : RefsOf B' σ' vs Ps := by
  induction p with
  | nil => exact .nil
  | cons k _ ih => exact .cons (h _ _ k) ih
theorem RefsOf.append {B : PH} {σ : Led} {vs ws : List Value} {Ps Qs : List HP} (h : RefsOf B σ vs Ps) (h' : RefsOf B σ ws Qs) : RefsOf B σ (vs ++ ws) (Ps ++ Qs) := by
  induction h with
  | nil => exact h'
  | cons k _ ih => exact .cons k ih
theorem RefsOf.snoc {B : PH} {σ : Led} {vs : List Value} {Ps : List HP} {T : Addr} {P : HP} (h : RefsOf B σ vs Ps) (k : Kn B σ T P) : RefsOf B σ (vs ++ [.ref T]) (Ps ++ [P]) := h.append (.cons k .nil)
theorem RefsOf.get {B : PH} {σ : Led} {vs : List Value} {Ps : List HP} (h : RefsOf B σ vs Ps) {i : Nat} {P : HP} (hp : Ps[i]? = some P) : ∃ T, vs[i]? = some (.ref T) ∧ Kn B σ T P := by
  induction h generalizing i with
  | nil => simp at hp
  | cons k _ ih =>
    cases i with
    | zero => simp at hp; subst hp; exact ⟨_, rfl, k⟩
    | succ i => exact ih (by simpa using hp)
theorem Pieces.take {B : PH} {σ : Led} {vs : List Value} {xs : List Str} (h : Pieces B σ vs xs) (k : Nat) : Pieces B σ (vs.take k) (xs.take k) := by
  induction h generalizing k with
  | nil => simp; exact .nil
  | cons k4 h4 h1 _ ih => cases k with
    | zero => exact .nil
    | succ k => exact .cons k4 h4 h1 (ih k)
theorem Pieces.drop {B : PH} {σ : Led} {vs : List Value} {xs : List Str} (h : Pieces B σ vs xs) (k : Nat) : Pieces B σ (vs.drop k) (xs.drop k) := by
  induction h generalizing k with
  | nil => simp; exact .nil
  | cons k4 h4 h1 tl ih => cases k with
    | zero => exact .cons k4 h4 h1 tl
    | succ k => exact ih k
noncomputable abbrev noB : PH := fun _ => none
theorem wholeT_bd : ∀ (l : List Str) (n : Int) (j : Nat), (∀ x ∈ l, 1 ≤ x.length ∧ x.length ≤ 26) → 1 ≤ n → n ≤ 26 ^ j → 1 ≤ l.foldl (fun n x => n * (x.length : Int)) n ∧ l.foldl (fun n x => n * (x.length : Int)) n ≤ 26 ^ (j + l.length)
  | [], n, j, _, h1, h2 => ⟨h1, h2⟩
  | x :: l, n, j, h, h1, h2 => by
    have hx := h x (.head _)
    have e1 : 1 ≤ n * (x.length : Int) := by
      have : (1 : Int) * 1 ≤ n * (x.length : Int) := Int.mul_le_mul h1 (by first | decide | (with_reducible first | exact n0 _ | exact f5 (by assumption) | exact a3 (by assumption) (by assumption) | exact b26 (by assumption) | exact a26 (by assumption)) | (first | lia | omega)) (by decide) (by first | decide | (with_reducible first | exact n0 _ | exact f5 (by assumption) | exact a3 (by assumption) (by assumption) | exact b26 (by assumption) | exact a26 (by assumption)) | (first | lia | omega))
      simpa using this
    have e2 : n * (x.length : Int) ≤ 26 ^ (j + 1) := by
      rw [Int.pow_succ]
      exact Int.mul_le_mul h2 (by first | decide | (with_reducible first | exact n0 _ | exact f5 (by assumption) | exact a3 (by assumption) (by assumption) | exact b26 (by assumption) | exact a26 (by assumption)) | (first | lia | omega)) (by first | decide | (with_reducible first | exact n0 _ | exact f5 (by assumption) | exact a3 (by assumption) (by assumption) | exact b26 (by assumption) | exact a26 (by assumption)) | (first | lia | omega)) (by exact Int.le_of_lt (Int.pow_pos (by decide)))
    have := wholeT_bd l (n * (x.length : Int)) (j + 1) (fun y hy => h y (.tail _ hy)) e1 e2
    simp only [List.foldl_cons, List.length_cons]
    rw [show j + (l.length + 1) = j + 1 + l.length by (first | lia | omega)]
    exact this

section
variable {X : Fm} {m : Vars} {σ : Led} {env : Env} {Q : Value → Vars → Led → Prop}
theorem wc_perm {c : Code} {σ' : Led} {Q : Flow → Vars → Led → Prop} (hp : σ.Perm σ') (h : WC X m σ' c Q) : WC X m σ c Q := fun s S => h s (S.perm hp)
theorem wc_mono {c : Code} {Q Q' : Flow → Vars → Led → Prop} (h : WC X m σ c Q) (hQ : ∀ fl m' σ', Q fl m' σ' → Q' fl m' σ') : WC X m σ c Q' := fun s S => codeAny_mono (h s S) fun r s' hr => by
  cases r with
  | ok f => obtain ⟨m', σ', S', q⟩ := hr; exact ⟨m', σ', S', hQ _ _ _ q⟩
  | error e => exact hr
theorem w_load_cell {x : Str} {v : Value} {c : Addr} (hv : Kn X.B σ c (isCell v)) (h : Q v m σ) (hc : autoParam (env.cells.lookup x = some c) Mine.dfl0._auto_1) (hk : autoParam (env.scope.kind = .function) Mine.dfl0._auto_1)
    (hl : autoParam (env.kindOf x = some .cell) Mine.dfl0._auto_1) : W X m σ (loadName env x) Q :=
  fun s S => wpAny_loadName_cell hk hl hc (S.kn hv) ⟨m, σ, S, h⟩

theorem w_piece0 {value slice : Expr} {T : Addr} {x : Str} {t : Tok} (ht : Kn X.B σ T (isPiece x)) (h : ∀ t, Q (.str (Txt.slice x none (some 4)) t) m σ)
    (hs : autoParam (subscripted slice false (.ref T) (.int 0 t) = operate [.ref T, .int 0 t] (getItem (.ref T) (.int 0 t))) Mine.dfl2._auto_1) : W X m σ (subscriptTail value slice (.ref T) (.int 0 t)) Q := fun s S => by
  obtain ⟨o, e, t1, t2, ho⟩ := S.kn ht
  have I := isTup_at ⟨o, e, ho⟩
  exact tail_any I.typeIs slot_tuple_getitem.lookup (getItem_tuple I (by decide) (by decide) (j := 0) rfl rfl ⟨m, σ, S, h t1⟩) hs
theorem w_piece1 {value slice : Expr} {T : Addr} {x : Str} {t : Tok} (ht : Kn X.B σ T (isPiece x)) (h : ∀ t, Q (.str (Txt.slice x (some 4) none) t) m σ)
    (hs : autoParam (subscripted slice false (.ref T) (.int 1 t) = operate [.ref T, .int 1 t] (getItem (.ref T) (.int 1 t))) Mine.dfl2._auto_1) : W X m σ (subscriptTail value slice (.ref T) (.int 1 t)) Q := fun s S => by
  obtain ⟨o, e, t1, t2, ho⟩ := S.kn ht
  have I := isTup_at ⟨o, e, ho⟩
  exact tail_any I.typeIs slot_tuple_getitem.lookup (getItem_tuple I (by decide) (by decide) (j := 1) rfl rfl ⟨m, σ, S, h t2⟩) hs

set_option maxHeartbeats 16000000 in
theorem wk_run {tx wt : Addr} {tv wv : List Value} {xs : List Str} {ws : List Int} {start turn : Int} {ts tt : Tok} (hA : Ok 20 X.A)
    (ht : Kn X.B σ tx (isList tv)) (hti : StrsOf tv xs) (hw : Kn X.B σ wt (isList wv)) (hwi : IntsOf wv ws) (L : Letters xs ws) (R : RS) (hR : runUpto (lenAt xs) (fun k => ws.getD k 0) (cardV xs ws) turn 11 = R)
    (h : ∀ Tp ra pile dx bk D rv vs τ, IntsOf rv (natsOf R.row) → Pieces noB τ vs (R.row.map (textAt xs)) → (D == sysModules) = false →
      Q (.ref Tp) m ((Tp, isTup [.ref ra, .ref pile, .ref bk]) :: (ra, isList rv) :: (pile, isPile dx vs) :: (dx, isDict1 "_initial_size" (.int start ts)) :: (bk, isBook X.C.w R.c R.m R.wo R.lo D) :: (D, isD X.C.w R.g) :: (τ ++ σ))) :
    WK X m σ (.call (.ref 239) ⟨[.ref tx, .ref wt, .int start ts, .int turn tt], []⟩) Q := by
  refine wk_defC (σ₁ := []) (σ₂ := σ) (n := 19) (binds := [("texts", .ref tx), ("weights", .ref wt), ("start", .int start ts), ("turn", .int turn tt)]) rfl rfl hA rfl rfl (by decide) (fun L => rfl) ?_
  intro X' hC hK hF hA' _
  have ht' : BI X'.B tx (isList tv) := hK _ _ ht
  have hw' : BI X'.B wt (isList wv) := hK _ _ hw
  have ct : BI X'.B (X'.L + 1) (isCell (.ref tx)) := hF (_, _) (.tail _ (.head _))
  have cw : BI X'.B (X'.L + 1 + 1) (isCell (.ref wt)) := hF (_, _) (.head _)
  clear hF
  change W X' (upd (upd (fun _ => none) "start" (.int start ts)) "turn" (.int turn tt)) [(X'.L + 1 + 1 + 1 + 1 + 1 + 1, isCell0), (X'.L + 1 + 1 + 1 + 1 + 1, isCell0), (X'.L + 1 + 1 + 1 + 1, isCell0), (X'.L + 1 + 1 + 1, isCell0)] _ _
  refine w_gen fun Q0 kk0 => ?_
  have htl : tv.length = 5 := by rw [hti.len, L.lx]
  refine w_execs_cons (w_gen fun Qs1 ks1 => w_assign_name (w_int fun _ => w_perm bring3 (w_store_cellK ks1 cell0_is ?_)))
  refine w_execs_cons (w_For (w_cell (.inl ct) (w_iter_list (.inl ht') fun I hI => ?_)))
  refine ex1 (show ∃ J : Nat → Vars → Led → Prop, J = (fun i m σ => m "start" = some (.int start ts) ∧ m "turn" = some (.int turn tt) ∧ ∃ t, σ = [(X'.L + 1 + 1 + 1, isCell (.int (wholeT (xs.take i)) t)), (X'.L + 1 + 1 + 1 + 1 + 1 + 1, isCell0), (X'.L + 1 + 1 + 1 + 1 + 1, isCell0), (X'.L + 1 + 1 + 1 + 1, isCell0)]) from ⟨_, rfl⟩) fun J1 hJ1 => ?_
  refine w_loop (its := fun i => [(I, isListIter tx i)]) (σ := [(X'.L + 1 + 1 + 1, isCell (.int 1 _)), (X'.L + 1 + 1 + 1 + 1 + 1 + 1, isCell0), (X'.L + 1 + 1 + 1 + 1 + 1, isCell0), (X'.L + 1 + 1 + 1 + 1, isCell0)]) (iter_list hA'.hd ht' (Ne.symm hI))
    J1 ?_ ?_ ?_
  · rw [hJ1]; exact ⟨rfl, rfl, _, rfl⟩
  · rintro F' i v τ m₁ σ₁ hi ⟨hv, rfl⟩ hj
    rw [hJ1] at hj
    refine and3 (hj) fun j1 j2 oh => ?_; try clear hj; refine ex1 (oh) fun t0 oq1 => ?_; (try clear oh); subst oq1
    rw [htl] at hi
    refine ex1 (L.text hi) fun x oh => ?_; refine and5 oh fun hx hxt hxl hx7 hx26 => ?_; clear oh
    refine ex1 (hti.get hx) fun tx' htx => ?_
    rw [hv] at htx
    cases htx
    have hfold : wholeT (xs.take i) * (x.length : Int) = wholeT (xs.take (i + 1)) := (foldl_take (fun n (x : Str) => n * (x.length : Int)) 1 xs hx).symm
    have hb := wholeT_bd (xs.take i) 1 0 (fun y hy => by have := L.tx y (List.mem_of_mem_take hy); (first | lia | omega)) (by decide) (by decide)
    have hb2 : (26 : Int) ^ (0 + (xs.take i).length) ≤ 26 ^ 5 := by
      have : 0 + (xs.take i).length ≤ 5 := by rw [List.length_take, L.lx]; (first | lia | omega)
      generalize 0 + (xs.take i).length = k at this
      have : k = 0 ∨ k = 1 ∨ k = 2 ∨ k = 3 ∨ k = 4 ∨ k = 5 := by (first | lia | omega)
      rcases this with rfl | rfl | rfl | rfl | rfl | rfl <;> decide
    refine w_store_name (w_store_local ?_)
    refine w_execs_cons (w_gen fun Qs2 ks2 => w_aug_name (w_load_cell (.inr (.head _)) (w_Call (w_builtin rfl (by boot_fast) (w_cw_builtin (w_args_cons (w_local rfl (w_args_nil (w_len_str (by first | decide | (with_reducible first | exact n0 _ | exact f5 (by assumption) | exact a3 (by assumption) (by assumption) | exact b26 (by assumption) | exact a26 (by assumption)) | (first | lia | omega)) fun _ => ?_)))))))))
    refine w_imul (mulOk_small ?_) fun _ => ?_
    · have h5 : (26 : Int) ^ 5 = 11881376 := by decide
      have hb3 : 1 ≤ wholeT (xs.take i) ∧ wholeT (xs.take i) ≤ 11881376 := ⟨hb.1, by have := hb.2; unfold wholeT; (first | lia | omega)⟩
      (first | lia | omega)
    rw [hfold]
    exact w_store_cellK ks2 cell_is (w_execs_nil (by rw [hJ1]; exact ⟨j1, j2, _, rfl⟩))
  · rintro m₁ σ₁ hj
    rw [hJ1] at hj
    refine and3 (hj) fun j1 j2 oh => ?_; try clear hj; refine ex1 (oh) fun t0 oq1 => ?_; (try clear oh); subst oq1
    clear hJ1 J1
    have hfull : xs.take tv.length = xs := List.take_of_length_le (by rw [htl, L.lx]; exact Nat.le_refl _)
    rw [hfull]
    refine w_post_keep (w_perm (List.perm_append_comm (l₁ := [((X'.L + 1 + 1 + 1), isCell (.int (wholeT xs) t0))])) (w_frame (σ₂ := [((X'.L + 1 + 1 + 1), isCell (.int (wholeT xs) t0))]) fun B1 hB1 => ?_))
    refine w_gen fun Q1 kk1 => ?_
    have ht1 : BI B1 tx (isList tv) := hB1 _ _ (.inl ht')
    have hw1 : BI B1 wt (isList wv) := hB1 _ _ (.inl hw')
    have ct1 : BI B1 (X'.L + 1) (isCell (.ref tx)) := hB1 _ _ (.inl ct)
    have cw1 : BI B1 (X'.L + 1 + 1) (isCell (.ref wt)) := hB1 _ _ (.inl cw)
    have ch1 : BI B1 (X'.L + 1 + 1 + 1) (isCell (.int (wholeT xs) t0)) := hB1 _ _ (.inr (.head _))
    refine w_execs_cons (w_gen fun Qs3 ks3 => w_assign_name (w_ListComp rfl (w_Call (w_builtin rfl (by boot_fast) (w_cw_type (w_args_cons (w_int fun _ => w_args_nil (w_range1 fun r => ?_))))))))
    refine w_iter_range (.inr (.head _)) (by decide) (by decide) (k := 5) (by decide) fun I2 => ?_
    refine ex1 (show ∃ J : Nat → List Value → Led → Prop, J = fun i rs σ => ∃ τ, σ = (r, isRange 0 5 1) :: ((X'.L + 1 + 1 + 1 + 1 + 1 + 1), isCell0) :: ((X'.L + 1 + 1 + 1 + 1 + 1), isCell0) :: ((X'.L + 1 + 1 + 1 + 1), isCell0) :: τ ∧ RefsOf noB τ rs ((List.range i).map (fun (k : Nat) => isCard (k : Int) (cardV xs ws k))) from ⟨_, rfl⟩) fun J2 hJ2 => ?_
    refine ⟨I2, fun i => [(I2, isRangeIt (0 + (i : Nat) * 1) (((5 : Nat) : Int) - (i : Nat)) 1)], 5, _, [(r, isRange 0 5 1), ((X'.L + 1 + 1 + 1 + 1 + 1 + 1), isCell0), ((X'.L + 1 + 1 + 1 + 1 + 1), isCell0), ((X'.L + 1 + 1 + 1 + 1), isCell0)], rfl, rfl, iter_range hA'.hd, by rw [sizeLine_eq]; (first | lia | omega),
      J2, by rw [hJ2]; exact ⟨[], rfl, .nil⟩, ?_, ?_⟩
    · rintro F2 C k v τ0 m₂ rs σ₂ hk hlen ⟨⟨tk, rfl⟩, rfl⟩ hj
      rw [hJ2] at hj
      refine ex1 (hj) fun τ ou0 => ?_; (try clear hj); refine and2 (ou0) fun oq1 hrs => ?_; clear ou0; subst oq1
      have ek : (0 + (k : Int) * 1) = (k : Int) := by (first | lia | omega)
      rw [ek]
      refine ex1 (L.text hk) fun x oh => ?_; refine and5 oh fun hx hxt hxl hx7 hx26 => ?_; clear oh
      refine ex1 (L.weight hk) fun w oh => ?_; refine and4 oh fun hww hwd hw1' hw3 => ?_; clear oh
      refine ex1 (hti.get hx) fun tx' htx => ?_
      refine ex1 (hwi.get hww) fun tw' htw => ?_
      refine w_store_name (w_store_local (w_tests_nil ?_))
      show W _ _ _ _ _
      refine w_post_weak (w_post_perm (w_Tuple (w_args_cons (w_local rfl (w_args_cons (w_binop (w_subscript (w_cell (.inl cw1) (w_local rfl ?_)))))))))
      refine w_item_list (vs := wv) (.inl hw1) (by first | decide | (with_reducible first | exact n0 _ | exact f5 (by assumption) | exact a3 (by assumption) (by assumption) | exact b26 (by assumption) | exact a26 (by assumption)) | (first | lia | omega)) (by first | decide | (with_reducible first | exact n0 _ | exact f5 (by assumption) | exact a3 (by assumption) (by assumption) | exact b26 (by assumption) | exact a26 (by assumption)) | (first | lia | omega)) htw (w_binop (w_cell (.inl ch1) ?_))
      refine w_Call (w_builtin rfl (by boot_fast) (w_cw_builtin (w_args_cons (w_subscript (w_cell (.inl ct1) (w_local rfl ?_))))))
      refine w_item_list (vs := tv) (.inl ht1) (by first | decide | (with_reducible first | exact n0 _ | exact f5 (by assumption) | exact a3 (by assumption) (by assumption) | exact b26 (by assumption) | exact a26 (by assumption)) | (first | lia | omega)) (by first | decide | (with_reducible first | exact n0 _ | exact f5 (by assumption) | exact a3 (by assumption) (by assumption) | exact b26 (by assumption) | exact a26 (by assumption)) | (first | lia | omega)) htx (w_args_nil (w_len_str (by first | decide | (with_reducible first | exact n0 _ | exact f5 (by assumption) | exact a3 (by assumption) (by assumption) | exact b26 (by assumption) | exact a26 (by assumption)) | (first | lia | omega)) fun _ => w_div (by first | decide | (with_reducible first | exact n0 _ | exact f5 (by assumption) | exact a3 (by assumption) (by assumption) | exact b26 (by assumption) | exact a26 (by assumption)) | (first | lia | omega)) (by first | decide | (with_reducible first | exact n0 _ | exact f5 (by assumption) | exact a3 (by assumption) (by assumption) | exact b26 (by assumption) | exact a26 (by assumption)) | (first | lia | omega)) fun _ => w_mul (mulOk_small (by first | decide | (with_reducible first | exact n0 _ | exact f5 (by assumption) | exact a3 (by assumption) (by assumption) | exact b26 (by assumption) | exact a26 (by assumption)) | (first | lia | omega))) fun tc => ?_))
      have hcv : w * (wholeT xs).fdiv (x.length : Int) = cardV xs ws k := by unfold cardV; rw [hwd, hxl]
      rw [hcv]
      refine w_args_nil (w_newTuple (szL _ (by simp)) fun T => ?_)
      refine ⟨_, bring4.symm, (r, isRange 0 5 1) :: ((X'.L + 1 + 1 + 1 + 1 + 1 + 1), isCell0) :: ((X'.L + 1 + 1 + 1 + 1 + 1), isCell0) :: ((X'.L + 1 + 1 + 1 + 1), isCell0) :: (T, isCard (k : Int) (cardV xs ws k)) :: τ, ?_, ?_⟩
      · refine .cons (fun _ h => h) (.cons (fun _ h => h) (.cons (fun _ h => h) (.cons (fun _ h => h) (.cons (fun o ho => (⟨_, _, ho⟩ : isCard (k : Int) (cardV xs ws k) o)) (LedLE.refl _)))))
      · rw [hJ2]
        refine ⟨(T, isCard (k : Int) (cardV xs ws k)) :: τ, rfl, ?_⟩
        rw [List.range_succ, List.map_append]
        exact (hrs.mono kn_tail).snoc (.inr (.head _))
    · rintro rs σ' D hj
      rw [hJ2] at hj
      refine ex1 (hj) fun τ ou0 => ?_; (try clear hj); refine and2 (ou0) fun oq1 hrs => ?_; clear ou0; subst oq1
      clear hJ2 J2
      refine w_perm bring4 (w_store_cellK ks3 cell0_is ?_)
      refine w_post_keep (w_perm (bring3.trans (.cons _ bring3)) (w_frame (X := X'.withB B1) (σ₁ := [((X'.L + 1 + 1 + 1 + 1 + 1 + 1), isCell0), ((X'.L + 1 + 1 + 1 + 1 + 1), isCell0)]) (σ₂ := ((X'.L + 1 + 1 + 1 + 1), isCell (.ref D)) :: (D, isList rs) :: (r, isRange 0 5 1) :: τ) fun B2 hB2 => ?_))
      refine w_gen fun Q2 kk2 => ?_
      have ht2 : BI B2 tx (isList tv) := hB2 _ _ (.inl ht1)
      have hw2 : BI B2 wt (isList wv) := hB2 _ _ (.inl hw1)
      have ct2 : BI B2 (X'.L + 1) (isCell (.ref tx)) := hB2 _ _ (.inl ct1)
      have cw2 : BI B2 (X'.L + 1 + 1) (isCell (.ref wt)) := hB2 _ _ (.inl cw1)
      have cd2 : BI B2 (X'.L + 1 + 1 + 1 + 1) (isCell (.ref D)) := hB2 _ _ (.inr (.head _))
      have hD2 : BI B2 D (isList rs) := hB2 _ _ (.inr (.tail _ (.head _)))
      have hcards : ∀ {k : Nat}, k < 5 → ∃ T t1 t2, rs[k]? = some (.ref T) ∧ BI B2 T (isTup [.int (k : Int) t1, .int (cardV xs ws k) t2]) := fun {k} hk => by
        obtain ⟨T, hT, hk2⟩ := hrs.get (i := k) (P := isCard (k : Int) (cardV xs ws k)) (by rw [List.getElem?_map, List.getElem?_range hk]; rfl)
        obtain ⟨o, e, t1, t2, ho⟩ := hB2 T _ (hk2.elim (fun ⟨o, e, _⟩ => nomatch e) fun q => .inr (.tail _ (.tail _ (.tail _ q))))
        exact ⟨T, t1, t2, hT, o, e, ho⟩
      clear hrs
      refine w_execs_cons (w_gen fun Qs4 ks4 => w_assign_name (w_Call (w_global (v := .ref 62) rfl (w_cw_K (by kernel_rfl) (w_args_cons (w_List (w_args_cons (w_Tuple (w_args_cons (w_int fun a1 => ?_))))))))))
      refine w_args_cons (w_unary (w_int fun _ => w_neg_int fun a2 => w_args_nil (w_newTuple (szL _ (by simp)) fun T0 => w_args_nil (w_newList (szL _ (by simp)) fun L0 => w_args_nil ?_))))
      refine w_call (wk_mkComp (X := (X'.withB B1).withB B2) (hA'.le (by first | decide | (with_reducible first | exact n0 _ | exact f5 (by assumption) | exact a3 (by assumption) (by assumption) | exact b26 (by assumption) | exact a26 (by assumption)) | (first | lia | omega))) fun x dxc => ?_)
      refine w_perm bring5 (w_store_cellK ks4 cell0_is ?_)
      refine w_post_keep (w_perm bring5 (w_frame (X := (X'.withB B1).withB B2) (σ₁ := [((X'.L + 1 + 1 + 1 + 1 + 1 + 1), isCell0)]) fun B3 hB3 => ?_))
      refine w_gen fun Q3 kk3 => ?_
      have ht3 : BI B3 tx (isList tv) := hB3 _ _ (.inl ht2)
      have hw3' : BI B3 wt (isList wv) := hB3 _ _ (.inl hw2)
      have ct3 : BI B3 (X'.L + 1) (isCell (.ref tx)) := hB3 _ _ (.inl ct2)
      have cw3 : BI B3 (X'.L + 1 + 1) (isCell (.ref wt)) := hB3 _ _ (.inl cw2)
      have cd3 : BI B3 (X'.L + 1 + 1 + 1 + 1) (isCell (.ref D)) := hB3 _ _ (.inl cd2)
      have hD3 : BI B3 D (isList rs) := hB3 _ _ (.inl hD2)
      have cp3 : BI B3 (X'.L + 1 + 1 + 1 + 1 + 1) (isCell (.ref x)) := hB3 _ _ (.inr (.head _))
      have hx3 : BI B3 x (· = instObj 62 dxc) := hB3 _ _ (.inr (.tail _ (.head _)))
      have hdx3 : BI B3 dxc (isDict1 "comp_select_list" (.ref L0)) := hB3 _ _ (.inr (.tail _ (.tail _ (.head _))))
      have hL03 : BI B3 L0 (isList [.ref T0]) := hB3 _ _ (.inr (.tail _ (.tail _ (.tail _ (.head _)))))
      have hT03 : BI B3 T0 (isTup [.int 1 a1, .int (-1) a2]) := hB3 _ _ (.inr (.tail _ (.tail _ (.tail _ (.tail _ (.head _))))))
      have hcards3 : ∀ {k : Nat}, k < 5 → ∃ T t1 t2, rs[k]? = some (.ref T) ∧ BI B3 T (isTup [.int (k : Int) t1, .int (cardV xs ws k) t2]) := fun {k} hk => by
        refine ex3 (hcards hk) fun T t1 t2 ou0 => ?_; refine and2 (ou0) fun h1 h2 => ?_; clear ou0
        exact ⟨T, t1, t2, h1, hB3 _ _ (.inl h2)⟩
      clear hcards
      refine w_execs_cons (w_gen fun Qs5 ks5 => w_assign_name (w_List (w_args_cons (w_int fun z0 => w_args_cons (w_int fun z1 => w_args_cons (w_int fun z2 => w_args_cons (w_int fun z3 => w_args_cons (w_int fun z4 => w_args_nil (w_newList (szL _ (by simp)) fun ra0 => ?_)))))))))
      refine w_perm (.swap _ _ _) (w_store_cellK ks5 cell0_is ?_)
      refine w_execs_cons (w_gen fun Qs6 ks6 => w_assign_name (w_Call (w_global (v := .ref 166) rfl (w_cw_K (by kernel_rfl) (w_args_cons (w_local j1 (w_args_nil (w_call (wk_mk_166 fun pile dx => ?_)))))))))
      refine wk_init (hA'.under.le (by first | decide | (with_reducible first | exact n0 _ | exact f5 (by assumption) | exact a3 (by assumption) (by assumption) | exact b26 (by assumption) | exact a26 (by assumption)) | (first | lia | omega))) ⟨rfl, ?_⟩
      refine w_store_localK ks6 ?_
      have hr0 : IntsOf [.int 0 z0, .int 1 z1, .int 2 z2, .int 3 z3, .int 4 z4] (natsOf [0, 1, 2, 3, 4]) := .cons ⟨_, rfl⟩ (.cons ⟨_, rfl⟩ (.cons ⟨_, rfl⟩ (.cons ⟨_, rfl⟩ (.cons ⟨_, rfl⟩ .nil))))
      generalize hrv0 : ([.int 0 z0, .int 1 z1, .int 2 z2, .int 3 z3, .int 4 z4] : List Value) = rv0 at hr0 ⊢
      have hrv0l : rv0.length = 5 := by rw [hr0.len]; rfl
      refine w_execs_cons (w_frame (X := ((X'.withB B1).withB B2).withB B3) (σ₁ := [(pile, isPile dx []), (dx, isDict1 "_initial_size" (.int start ts)), ((X'.L + 1 + 1 + 1 + 1 + 1 + 1), isCell (.ref ra0))]) (σ₂ := [(ra0, isList rv0)]) fun B4 hB4 => ?_)
      have hra4 : BI B4 ra0 (isList rv0) := hB4 _ _ (.inr (.head _))
      refine w_For (w_cell (.inr (.tail _ (.tail _ (.head _)))) (w_iter_list (.inl hra4) fun I5 hI5 => ?_))
      refine ex1 (show ∃ J : Nat → Vars → Led → Prop, J = (fun i m σ => m "start" = some (.int start ts) ∧ m "turn" = some (.int turn tt) ∧ m "pile" = some (.ref pile) ∧ ∃ vs τ, σ = (pile, isPile dx vs) :: (dx, isDict1 "_initial_size" (.int start ts)) :: ((X'.L + 1 + 1 + 1 + 1 + 1 + 1), isCell (.ref ra0)) :: τ ∧ Pieces noB τ vs ((List.range i).map (textAt xs))) from ⟨_, rfl⟩) fun J3 hJ3 => ?_
      refine w_loop (its := fun i => [(I5, isListIter ra0 i)]) (σ := [(pile, isPile dx []), (dx, isDict1 "_initial_size" (.int start ts)), ((X'.L + 1 + 1 + 1 + 1 + 1 + 1), isCell (.ref ra0))]) (iter_list hA'.hd hra4 (Ne.symm hI5))
        J3 ?_ ?_ ?_
      · rw [hJ3]; exact ⟨j1, j2, rfl, [], [], rfl, .nil⟩
      · rintro F' k v τ' m₂ σ₂ hi ⟨hv, rfl⟩ hj
        rw [hJ3] at hj
        refine and4 (hj) fun i1 i2 i3 oh => ?_; try clear hj; refine ex2 (oh) fun vs τ ou0 => ?_; (try clear oh); refine and2 (ou0) fun oq2 hpc => ?_; clear ou0; subst oq2
        rw [hrv0l] at hi
        obtain ⟨tk, hv'⟩ := hr0.get (i := k) (n := (k : Int)) (by
          have : k = 0 ∨ k = 1 ∨ k = 2 ∨ k = 3 ∨ k = 4 := by (first | lia | omega)
          rcases this with rfl | rfl | rfl | rfl | rfl <;> rfl)
        rw [hv] at hv'
        cases hv'
        refine ex1 (L.text hi) fun x oh => ?_; refine and5 oh fun hx hxt hxl hx7 hx26 => ?_; clear oh
        refine ex1 (hti.get hx) fun tx' htx => ?_
        have hvl : vs.length ≤ 5 := by rw [hpc.len, List.length_map, List.length_range]; (first | lia | omega)
        refine w_store_name (w_store_local ?_)
        refine w_execs_cons (w_expr (w_Call (w_global (v := .ref 229) rfl (w_cw_K (by kernel_rfl) ?_))))
        refine w_args_cons (w_local i3 (w_args_cons (w_subscript (w_cell (.inl (hB4 _ _ (.inl ct3))) (w_local rfl ?_)))))
        refine w_item_list (vs := tv) (.inl (hB4 _ _ (.inl ht3))) (by first | decide | (with_reducible first | exact n0 _ | exact f5 (by assumption) | exact a3 (by assumption) (by assumption) | exact b26 (by assumption) | exact a26 (by assumption)) | (first | lia | omega)) (by first | decide | (with_reducible first | exact n0 _ | exact f5 (by assumption) | exact a3 (by assumption) (by assumption) | exact b26 (by assumption) | exact a26 (by assumption)) | (first | lia | omega)) htx (w_args_nil ?_)
        refine w_call (wk_pushed (dx := dx) (vs := vs) (v := .int start ts) (hA'.le (by first | decide | (with_reducible first | exact n0 _ | exact f5 (by assumption) | exact a3 (by assumption) (by assumption) | exact b26 (by assumption) | exact a26 (by assumption)) | (first | lia | omega))) (.inr (.head _)) (by first | decide | (with_reducible first | exact n0 _ | exact f5 (by assumption) | exact a3 (by assumption) (by assumption) | exact b26 (by assumption) | exact a26 (by assumption)) | (first | lia | omega)) (by first | decide | (with_reducible first | exact n0 _ | exact f5 (by assumption) | exact a3 (by assumption) (by assumption) | exact b26 (by assumption) | exact a26 (by assumption)) | (first | lia | omega)) fun T => ⟨fun _ e => (nomatch e), ?_⟩)
        refine w_perm (.cons _ bring2.symm) (w_execs_nil ?_)
        rw [hJ3]
        refine ⟨i1, i2, i3, vs ++ [.ref T], (T, isPiece x) :: τ, rfl, ?_⟩
        · rw [List.range_succ, List.map_append, List.map_cons, List.map_nil, hxt]
          exact (hpc.mono kn_tail).snoc (.inr (.head _)) (by first | decide | (with_reducible first | exact n0 _ | exact f5 (by assumption) | exact a3 (by assumption) (by assumption) | exact b26 (by assumption) | exact a26 (by assumption)) | (first | lia | omega)) (by first | decide | (with_reducible first | exact n0 _ | exact f5 (by assumption) | exact a3 (by assumption) (by assumption) | exact b26 (by assumption) | exact a26 (by assumption)) | (first | lia | omega))
      · rintro m₂ σ₂ hj
        rw [hJ3] at hj
        refine and4 (hj) fun i1 i2 i3 oh => ?_; try clear hj; refine ex2 (oh) fun vs τ ou0 => ?_; (try clear oh); refine and2 (ou0) fun oq2 hpc => ?_; clear ou0; subst oq2
        clear hJ3 J3
        have hrange : (List.range rv0.length).map (textAt xs) = ([0, 1, 2, 3, 4] : List Nat).map (textAt xs) := by rw [hrv0l]; rfl
        rw [hrange] at hpc
        refine w_execs_cons (w_gen fun Qs7 ks7 => w_assign_name (w_Tuple (w_args_cons (w_int fun b1 => w_args_cons (w_int fun b2 => w_args_cons (w_int fun b3 => w_args_cons (w_int fun b4 => ?_)))))))
        refine w_args_cons (w_Dict_empty fun bd0 hbd0 => w_args_nil (w_newTuple (szL _ (by simp)) fun bk0 => w_store_localK ks7 ?_))
        refine w_weak (.cons (fun o ho => (⟨_, _, _, _, ho⟩ : isBook X'.C.w 0 0 0 0 bd0 o)) (LedLE.refl _)) ?_
        refine w_perm (.cons _ (.cons _ (.cons _ (.cons _ (.cons _ (List.perm_append_singleton _ _)))))) ?_
        refine w_execs_cons (w_For (w_Call (w_builtin rfl (by boot_fast) (w_cw_type (w_args_cons (w_int fun _ => w_args_nil (w_range1 fun r11 => ?_)))))))
        refine w_iter_range (.inr (.head _)) (by decide) (by decide) (k := 11) (by decide) fun I6 => ?_
        obtain ⟨Q4, hQ4⟩ : ∃ Q : Flow → Vars → Led → Prop, Q = fun fl m σ => fl = .next ∧ m "pile" = some (.ref pile) ∧ ∃ bk bd ra rv vs τ, m "book" = some (.ref bk) ∧ (bd == sysModules) = false ∧ IntsOf rv (natsOf R.row) ∧ Pieces noB τ vs (R.row.map (textAt xs)) ∧
          σ = (r11, isRange 0 11 1) :: (bk, isBook X'.C.w R.c R.m R.wo R.lo bd) :: (bd, isD X'.C.w R.g) :: (pile, isPile dx vs) :: (dx, isDict1 "_initial_size" (.int start ts)) :: ((X'.L + 1 + 1 + 1 + 1 + 1 + 1), isCell (.ref ra)) :: (ra, isList rv) :: τ := ⟨_, rfl⟩
        refine wc_mono (Q := Q4) ?_ ?_
        · obtain ⟨J4, hJ4⟩ : ∃ J : Nat → Vars → Led → Prop, J = (fun i m σ => m "turn" = some (.int turn tt) ∧ m "pile" = some (.ref pile) ∧ ∃ bk bd ra rv vs τ, m "book" = some (.ref bk) ∧ (bd == sysModules) = false ∧ IntsOf rv (natsOf (runUpto (lenAt xs) (fun k => ws.getD k 0) (cardV xs ws) turn i).row) ∧ Pieces noB τ vs ((runUpto (lenAt xs) (fun k => ws.getD k 0) (cardV xs ws) turn i).row.map (textAt xs)) ∧
              σ = (r11, isRange 0 11 1) :: (bk, isBook X'.C.w (runUpto (lenAt xs) (fun k => ws.getD k 0) (cardV xs ws) turn i).c (runUpto (lenAt xs) (fun k => ws.getD k 0) (cardV xs ws) turn i).m (runUpto (lenAt xs) (fun k => ws.getD k 0) (cardV xs ws) turn i).wo (runUpto (lenAt xs) (fun k => ws.getD k 0) (cardV xs ws) turn i).lo bd) ::
                (bd, isD X'.C.w (runUpto (lenAt xs) (fun k => ws.getD k 0) (cardV xs ws) turn i).g) :: (pile, isPile dx vs) :: (dx, isDict1 "_initial_size" (.int start ts)) :: ((X'.L + 1 + 1 + 1 + 1 + 1 + 1), isCell (.ref ra)) :: (ra, isList rv) :: τ) := ⟨_, rfl⟩
          refine w_loop (X := ((X'.withB B1).withB B2).withB B3) (its := fun i => [(I6, isRangeIt (0 + (i : Nat) * 1) (((11 : Nat) : Int) - (i : Nat)) 1)]) (σ := (r11, isRange 0 11 1) :: (bk0, isBook X'.C.w 0 0 0 0 bd0) :: (bd0, isD X'.C.w []) :: (pile, isPile dx vs) :: (dx, isDict1 "_initial_size" (.int start ts)) :: ((X'.L + 1 + 1 + 1 + 1 + 1 + 1), isCell (.ref ra0)) :: (ra0, isList rv0) :: τ) (iter_range hA'.hd)
            J4 ?_ ?_ ?_
          · rw [hJ4]; exact ⟨i2, i3, bk0, bd0, ra0, rv0, vs, τ, rfl, hbd0, hr0, hpc, rfl⟩
          · rintro F' i v τ' m₄ σ₄ hi ⟨⟨ti, rfl⟩, rfl⟩ hj
            have hJ5 := congrFun hJ4 (i + 1)
            rw [hJ4] at hj
            refine and3 (hj) fun n1 n2 ou0 => ?_; (try clear hj); refine ex6 (ou0) fun bk bd ra rv vs τ oh => ?_; clear ou0; refine and5 oh fun n3 hbd hrv hpc hσ => ?_; clear oh
            clear hJ4
            have ei : (0 + (i : Int) * 1) = (i : Int) := by (first | lia | omega)
            rw [ei]
            refine and3 (runUpto_ok (lenAt xs) (fun k => ws.getD k 0) (cardV xs ws) turn i) fun hrl hr5 hgl => ?_
            have hstop := runUpto_stop (S := lenAt xs) (W := fun k => ws.getD k 0) (card := cardV xs ws) (turn := turn) (n := i)
            have hnext := runUpto_succ (lenAt xs) (fun k => ws.getD k 0) (cardV xs ws) turn i
            generalize hst : runUpto (lenAt xs) (fun k => ws.getD k 0) (cardV xs ws) turn i = st at hrv hpc hrl hr5 hgl hstop hnext hσ
            have mbk : (bk, isBook X'.C.w st.c st.m st.wo st.lo bd) ∈ σ₄ := by rw [hσ]; exact .tail _ (.head _)
            have mbd : (bd, isD X'.C.w st.g) ∈ σ₄ := by rw [hσ]; exact .tail _ (.tail _ (.head _))
            have mce : ((X'.L + 1 + 1 + 1 + 1 + 1 + 1), isCell (.ref ra)) ∈ σ₄ := by rw [hσ]; exact .tail _ (.tail _ (.tail _ (.tail _ (.tail _ (.head _)))))
            have mra : (ra, isList rv) ∈ σ₄ := by rw [hσ]; exact .tail _ (.tail _ (.tail _ (.tail _ (.tail _ (.tail _ (.head _))))))
            have hrvl : rv.length = 5 := by rw [hrv.len, natsOf, List.length_map, hrl]
            have hrat : ∀ {j : Nat}, j < 5 → ∃ t, rv[j]? = some (.int ((st.row.getD j 0 : Nat) : Int) t) := fun {j} hj => by
              have hj' : j < st.row.length := by (first | lia | omega)
              refine ex1 (hrv.get (natsOf_get (List.getElem?_eq_getElem hj'))) fun t e => ?_
              exact ⟨t, by rw [e, List.getD_eq_getElem?_getD, List.getElem?_eq_getElem hj']; rfl⟩
            have hr5' : ∀ {j : Nat}, j < 5 → st.row.getD j 0 < 5 := fun {j} hj => by
              have hj' : j < st.row.length := by (first | lia | omega)
              rw [List.getD_eq_getElem?_getD, List.getElem?_eq_getElem hj']
              exact hr5 _ (List.getElem_mem hj')
            refine w_store_name (w_store_local (w_post_keep (w_gen fun Q5 kk5 => ?_)))
            refine w_execs_cons (w_gen fun Qs8 ks8 => w_assign_comp rfl (w_Call (w_builtin rfl (by boot_fast) (w_cw_type (w_args_cons (w_int fun _ => w_args_cons (w_int fun _ => w_args_nil (w_range2 fun r12 => ?_))))))))
            refine w_iter_range (.inr (.head _)) (by decide) (by decide) (k := 4) (by decide) fun I7 => ?_
            refine ex1 (show ∃ J : Nat → List Value → Led → Prop, J = fun i rs σ => IntsOf rs (natsOf ((((List.range 4).take i).map (· + 1)).filter (isWrong (cardV xs ws) st.row))) ∧ σ = (r12, isRange 1 5 1) :: σ₄ from ⟨_, rfl⟩) fun JW hJW => ?_
            refine ⟨I7, fun i => [(I7, isRangeIt (1 + (i : Nat) * 1) (((4 : Nat) : Int) - (i : Nat)) 1)], 4, _, (r12, isRange 1 5 1) :: σ₄, rfl, rfl, iter_range hA'.hd, by rw [sizeLine_eq]; (first | lia | omega),
              JW, by rw [hJW]; exact ⟨.nil, rfl⟩, ?_, ?_⟩
            · rintro F2 C j v τ0 m₅ rs σ₅ hj hlen ⟨⟨tj, rfl⟩, rfl⟩ hjw
              rw [hJW] at hjw
              refine and2 (hjw) fun hrs oq1 => ?_; (try clear hjw); subst oq1
              have ej : (1 + (j : Int) * 1) = ((j + 1 : Nat) : Int) := by push_cast; (first | lia | omega)
              rw [ej]
              refine ex1 (hrat (j := j) (by first | decide | (with_reducible first | exact n0 _ | exact f5 (by assumption) | exact a3 (by assumption) (by assumption) | exact b26 (by assumption) | exact a26 (by assumption)) | (first | lia | omega))) fun u1 hu1 => ?_
              refine ex1 (hrat (j := j + 1) (by first | decide | (with_reducible first | exact n0 _ | exact f5 (by assumption) | exact a3 (by assumption) (by assumption) | exact b26 (by assumption) | exact a26 (by assumption)) | (first | lia | omega))) fun u2 hu2 => ?_
              refine ex3 (hcards3 (hr5' (j := j) (by first | decide | (with_reducible first | exact n0 _ | exact f5 (by assumption) | exact a3 (by assumption) (by assumption) | exact b26 (by assumption) | exact a26 (by assumption)) | (first | lia | omega)))) fun T1 c1 c2 ou0 => ?_; refine and2 (ou0) fun hT1 hB1' => ?_; clear ou0
              refine ex3 (hcards3 (hr5' (j := j + 1) (by first | decide | (with_reducible first | exact n0 _ | exact f5 (by assumption) | exact a3 (by assumption) (by assumption) | exact b26 (by assumption) | exact a26 (by assumption)) | (first | lia | omega)))) fun T2 c3 c4 ou0 => ?_; refine and2 (ou0) fun hT2 hB2' => ?_; clear ou0
              have hk1 := hr5' (j := j) (by first | decide | (with_reducible first | exact n0 _ | exact f5 (by assumption) | exact a3 (by assumption) (by assumption) | exact b26 (by assumption) | exact a26 (by assumption)) | (first | lia | omega))
              have hk2 := hr5' (j := j + 1) (by first | decide | (with_reducible first | exact n0 _ | exact f5 (by assumption) | exact a3 (by assumption) (by assumption) | exact b26 (by assumption) | exact a26 (by assumption)) | (first | lia | omega))
              refine w_store_name (w_store_local (w_tests_one (w_true_compare (w_methcall (w_cell (.inl cp3) ?_)))))
              refine w_getMethod_fn (C := 62) (f := 59) (P := (· = instObj 62 dxc)) (D := isDict1 "comp_select_list" (.ref L0)) (.inl hx3) (.inl hdx3) instP (fun o ⟨hh, tk, n, e⟩ => by subst e; rfl) (by kernel_rfl) (by kernel_rfl) (by kernel_rfl) (by kernel_rfl) (w_cwm_K (by kernel_rfl) ?_)
              refine w_args_cons (w_subscript (w_cell (.inl cd3) (w_subscript (w_cell (.inr (.tail _ mce))  (w_binop (w_local rfl (w_int fun _ => w_sub fun _ => ?_)))))))
              have es : (((j + 1 : Nat) : Int) - 1) = (j : Int) := by push_cast; (first | lia | omega)
              rw [es]
              refine w_item_list (vs := rv) (.inr (.tail _ mra)) (by first | decide | (with_reducible first | exact n0 _ | exact f5 (by assumption) | exact a3 (by assumption) (by assumption) | exact b26 (by assumption) | exact a26 (by assumption)) | (first | lia | omega)) (by first | decide | (with_reducible first | exact n0 _ | exact f5 (by assumption) | exact a3 (by assumption) (by assumption) | exact b26 (by assumption) | exact a26 (by assumption)) | (first | lia | omega)) hu1 ?_
              refine w_item_list (.inl hD3) (by first | decide | (with_reducible first | exact n0 _ | exact f5 (by assumption) | exact a3 (by assumption) (by assumption) | exact b26 (by assumption) | exact a26 (by assumption)) | (first | lia | omega)) (by first | decide | (with_reducible first | exact n0 _ | exact f5 (by assumption) | exact a3 (by assumption) (by assumption) | exact b26 (by assumption) | exact a26 (by assumption)) | (first | lia | omega)) hT1 ?_
              refine w_args_cons (w_subscript (w_cell (.inl cd3) (w_subscript (w_cell (.inr (.tail _ mce))  (w_local rfl ?_)))))
              refine w_item_list (vs := rv) (.inr (.tail _ mra)) (by first | decide | (with_reducible first | exact n0 _ | exact f5 (by assumption) | exact a3 (by assumption) (by assumption) | exact b26 (by assumption) | exact a26 (by assumption)) | (first | lia | omega)) (by first | decide | (with_reducible first | exact n0 _ | exact f5 (by assumption) | exact a3 (by assumption) (by assumption) | exact b26 (by assumption) | exact a26 (by assumption)) | (first | lia | omega)) hu2 ?_
              refine w_item_list (.inl hD3) (by first | decide | (with_reducible first | exact n0 _ | exact f5 (by assumption) | exact a3 (by assumption) (by assumption) | exact b26 (by assumption) | exact a26 (by assumption)) | (first | lia | omega)) (by first | decide | (with_reducible first | exact n0 _ | exact f5 (by assumption) | exact a3 (by assumption) (by assumption) | exact b26 (by assumption) | exact a26 (by assumption)) | (first | lia | omega)) hT2 (w_args_nil ?_)
              refine w_call (wk_compare (hA'.le (by first | decide | (with_reducible first | exact n0 _ | exact f5 (by assumption) | exact a3 (by assumption) (by assumption) | exact b26 (by assumption) | exact a26 (by assumption)) | (first | lia | omega))) (.inl hx3) (.inl hdx3) (.inl hL03) (.inl hT03) (.inl hB1') (.inl hB2') fun t => w_int fun _ => w_gt (w_truthy_bool ?_))
              have hdec : decide ((if cardV xs ws (st.row.getD j 0) < cardV xs ws (st.row.getD (j + 1) 0) then (1 : Int) else if cardV xs ws (st.row.getD j 0) > cardV xs ws (st.row.getD (j + 1) 0) then -1 else 0) > 0) = isWrong (cardV xs ws) st.row (j + 1) := by
                unfold isWrong
                rw [show j + 1 - 1 = j from rfl]
                by_cases hlt : cardV xs ws (st.row.getD j 0) < cardV xs ws (st.row.getD (j + 1) 0)
                · rw [if_pos hlt, decide_eq_true hlt]; rfl
                · rw [if_neg hlt, decide_eq_false hlt]
                  by_cases hgt : cardV xs ws (st.row.getD j 0) > cardV xs ws (st.row.getD (j + 1) 0)
                  · rw [if_pos hgt]; rfl
                  · rw [if_neg hgt]; rfl
              rw [hdec]
              have et : (((List.range 4).take (j + 1)).map (· + 1)) = (((List.range 4).take j).map (· + 1)) ++ [j + 1] := by
                rw [take_snoc (List.getElem?_range hj), List.map_append]; rfl
              cases hw : isWrong (cardV xs ws) st.row (j + 1) with
              | true =>
                rw [if_pos rfl]
                refine w_local rfl ?_
                rw [hJW]
                refine ⟨?_, rfl⟩
                rw [et, List.filter_append, List.filter_cons_of_pos hw, List.filter_nil, natsOf, List.map_append]
                exact hrs.snoc _ _
              | false =>
                rw [if_neg (by decide), hJW]
                refine ⟨?_, rfl⟩
                rw [et, List.filter_append, List.filter_cons_of_neg (by rw [hw]; decide), List.filter_nil, List.append_nil]
                exact hrs
            · rintro rs σ' wl hjw F2
              rw [hJW] at hjw
              refine and2 (hjw) fun hrs oq1 => ?_; (try clear hjw); subst oq1
              clear hJW JW
              have hrs : IntsOf rs (natsOf (wrongOf (cardV xs ws) st.row)) := hrs
              generalize hwr : wrongOf (cardV xs ws) st.row = wr at hrs
              have hrl2 : rs.length = wr.length := by rw [hrs.len, natsOf, List.length_map]
              refine w_store_localK ks8 ?_
              refine w_keep (σ' := (wl, isList rs) :: σ₄) (.cons_cons _ (.cons _ (.refl _))) ?_
              refine w_execs_cons (w_if (w_true_compare (w_local rfl (w_List (w_args_nil (w_newList (szL _ (by simp)) fun el => ?_))))))
              refine w_eq_empty (Nat.lt_of_lt_of_le (by have := hA'.un; show X'.A.units < 9000; (first | lia | omega)) (by decide)) (.inr (.tail _ (.head _))) (.inr (.head _)) (w_truthy_bool ?_)
              by_cases hne : wr = []
              · have hrse : rs = [] := by rw [← List.length_eq_zero_iff, hrl2, hne]; rfl
                rw [if_pos (by simpa using hrse)]
                have hRst : R = st := by
                  rw [← hR, show (11 : Nat) = i + (11 - i) by (first | lia | omega)]
                  exact hstop (by rw [hwr]; exact hne) _
                refine w_execs_cons (w_break (kk5 _ _ _ ⟨_, .cons _ (.cons _ (.refl _)), ?_⟩))
                show Q4 _ _ _
                rw [hQ4, hRst]
                exact ⟨rfl, n2, bk, bd, ra, rv, vs, τ, n3, hbd, hrv, hpc, hσ⟩
              · have hrse : rs ≠ [] := fun q => hne (by rw [← List.length_eq_zero_iff, ← hrl2, q]; rfl)
                rw [if_neg (by simpa using hrse)]
                refine w_execs_nil ?_
                refine w_keep (σ' := (wl, isList rs) :: σ₄) (.cons _ (.refl _)) ?_
                have hmem := pick_mem (turn := turn) (i := i) hne
                have hbd4 := wrong_bd (card := cardV xs ws) (row := st.row) (by rw [hwr]; exact hmem)
                have hlen0 : 0 < wr.length := List.length_pos_iff.mpr hne
                have hf1 := Int.fmod_nonneg_of_pos (turn + i) (show (0 : Int) < wr.length by (first | lia | omega))
                have hf2 := Int.fmod_lt_of_pos (turn + i) (show (0 : Int) < wr.length by (first | lia | omega))
                have hflt : ((turn + i).fmod wr.length).toNat < wr.length := by (first | lia | omega)
                have hpick : wr[((turn + i).fmod wr.length).toNat]? = some (pickOf turn i wr) := by
                  unfold pickOf
                  rw [List.getD_eq_getElem?_getD, List.getElem?_eq_getElem hflt]; rfl
                refine ex1 (hrs.get (natsOf_get hpick)) fun tp htp => ?_
                have hstep : runUpto (lenAt xs) (fun k => ws.getD k 0) (cardV xs ws) turn (i + 1) = runMove (lenAt xs) (fun k => ws.getD k 0) st (pickOf turn i wr) := by
                  rw [hnext]; unfold runStep; rw [hwr, if_neg hne]
                generalize pickOf turn i wr = p at hbd4 htp hstep
                have hwll : wr.length ≤ 4 := by
                  rw [← hwr]; unfold wrongOf
                  exact Nat.le_trans (List.length_filter_le _ _) (by simp)
                refine w_execs_cons (w_gen fun Qs9 ks9 => w_assign_name (w_subscript (w_local rfl (w_binop (w_binop (w_local n1 (w_local rfl (w_add fun _ => ?_))))))))
                refine w_Call (w_builtin rfl (by boot_fast) (w_cw_builtin (w_args_cons (w_local rfl (w_args_nil (w_len_list (.inr (.head _)) (by rw [hrl2]; (first | lia | omega)) fun _ => ?_))))))
                rw [hrl2]
                refine w_mod (by first | decide | (with_reducible first | exact n0 _ | exact f5 (by assumption) | exact a3 (by assumption) (by assumption) | exact b26 (by assumption) | exact a26 (by assumption)) | (first | lia | omega)) fun _ => w_item_list (vs := rs) (.inr (.head _)) hf1 (by first | decide | (with_reducible first | exact n0 _ | exact f5 (by assumption) | exact a3 (by assumption) (by assumption) | exact b26 (by assumption) | exact a26 (by assumption)) | (first | lia | omega)) htp (w_store_localK ks9 ?_)
                refine w_keep (σ' := σ₄) (.cons _ (.refl _)) ?_
                have ep1 : (p : Int) - 1 = ((p - 1 : Nat) : Int) := by (first | lia | omega)
                refine ex1 (hrat (j := p - 1) (by first | decide | (with_reducible first | exact n0 _ | exact f5 (by assumption) | exact a3 (by assumption) (by assumption) | exact b26 (by assumption) | exact a26 (by assumption)) | (first | lia | omega))) fun ua hua => ?_
                refine ex1 (hrat (j := p) (by first | decide | (with_reducible first | exact n0 _ | exact f5 (by assumption) | exact a3 (by assumption) (by assumption) | exact b26 (by assumption) | exact a26 (by assumption)) | (first | lia | omega))) fun ub hub => ?_
                have ha5 := hr5' (j := p - 1) (by first | decide | (with_reducible first | exact n0 _ | exact f5 (by assumption) | exact a3 (by assumption) (by assumption) | exact b26 (by assumption) | exact a26 (by assumption)) | (first | lia | omega))
                have hb5 := hr5' (j := p) (by first | decide | (with_reducible first | exact n0 _ | exact f5 (by assumption) | exact a3 (by assumption) (by assumption) | exact b26 (by assumption) | exact a26 (by assumption)) | (first | lia | omega))
                generalize hav : st.row.getD (p - 1) 0 = a at hua ha5
                generalize hbv : st.row.getD p 0 = b at hub hb5
                refine ex1 (L.text ha5) fun xa oh => ?_; refine and5 oh fun hxa hxat hxal hxa7 hxa26 => ?_; clear oh
                refine ex1 (L.text hb5) fun xb oh => ?_; refine and5 oh fun hxb hxbt hxbl hxb7 hxb26 => ?_; clear oh
                refine ex1 (L.weight ha5) fun wa oh => ?_; refine and4 oh fun hwwa hwda hwa1 hwa3 => ?_; clear oh
                refine ex1 (L.weight hb5) fun wb oh => ?_; refine and4 oh fun hwwb hwdb hwb1 hwb3 => ?_; clear oh
                refine ex1 (hti.get hxa) fun txa htxa => ?_
                refine ex1 (hti.get hxb) fun txb htxb => ?_
                refine ex1 (hwi.get hwwa) fun twa htwa => ?_
                refine ex1 (hwi.get hwwb) fun twb htwb => ?_
                refine w_execs_cons (w_gen fun Qs10 ks10 => w_assign_name (w_subscript (w_cell (.inr mce) (w_binop (w_local rfl (w_int fun _ => w_sub fun _ => ?_))))))
                rw [ep1]
                refine w_item_list (vs := rv) (.inr mra) (by first | decide | (with_reducible first | exact n0 _ | exact f5 (by assumption) | exact a3 (by assumption) (by assumption) | exact b26 (by assumption) | exact a26 (by assumption)) | (first | lia | omega)) (by first | decide | (with_reducible first | exact n0 _ | exact f5 (by assumption) | exact a3 (by assumption) (by assumption) | exact b26 (by assumption) | exact a26 (by assumption)) | (first | lia | omega)) hua (w_store_localK ks10 ?_)
                refine w_execs_cons (w_gen fun Qs11 ks11 => w_assign_name (w_subscript (w_cell (.inr mce) (w_local rfl ?_))))
                refine w_item_list (vs := rv) (.inr mra) (by first | decide | (with_reducible first | exact n0 _ | exact f5 (by assumption) | exact a3 (by assumption) (by assumption) | exact b26 (by assumption) | exact a26 (by assumption)) | (first | lia | omega)) (by first | decide | (with_reducible first | exact n0 _ | exact f5 (by assumption) | exact a3 (by assumption) (by assumption) | exact b26 (by assumption) | exact a26 (by assumption)) | (first | lia | omega)) hub (w_store_localK ks11 ?_)
                refine w_execs_cons (w_gen fun Qs12 ks12 => w_assign_name (w_binop (w_subscript (w_cell (.inl cw3) (w_local rfl ?_)))))
                refine w_item_list (vs := wv) (.inl hw3') (by first | decide | (with_reducible first | exact n0 _ | exact f5 (by assumption) | exact a3 (by assumption) (by assumption) | exact b26 (by assumption) | exact a26 (by assumption)) | (first | lia | omega)) (by first | decide | (with_reducible first | exact n0 _ | exact f5 (by assumption) | exact a3 (by assumption) (by assumption) | exact b26 (by assumption) | exact a26 (by assumption)) | (first | lia | omega)) htwb (w_Call (w_builtin rfl (by boot_fast) (w_cw_builtin (w_args_cons (w_subscript (w_cell (.inl ct3) (w_local rfl ?_)))))))
                refine w_item_list (vs := tv) (.inl ht3) (by first | decide | (with_reducible first | exact n0 _ | exact f5 (by assumption) | exact a3 (by assumption) (by assumption) | exact b26 (by assumption) | exact a26 (by assumption)) | (first | lia | omega)) (by first | decide | (with_reducible first | exact n0 _ | exact f5 (by assumption) | exact a3 (by assumption) (by assumption) | exact b26 (by assumption) | exact a26 (by assumption)) | (first | lia | omega)) htxa (w_args_nil (w_len_str (by first | decide | (with_reducible first | exact n0 _ | exact f5 (by assumption) | exact a3 (by assumption) (by assumption) | exact b26 (by assumption) | exact a26 (by assumption)) | (first | lia | omega)) fun _ => w_mul (mulOk_small (by first | decide | (with_reducible first | exact n0 _ | exact f5 (by assumption) | exact a3 (by assumption) (by assumption) | exact b26 (by assumption) | exact a26 (by assumption)) | (first | lia | omega))) fun tw1 => w_store_localK ks12 ?_))
                refine w_execs_cons (w_gen fun Qs13 ks13 => w_assign_name (w_binop (w_subscript (w_cell (.inl cw3) (w_local rfl ?_)))))
                refine w_item_list (vs := wv) (.inl hw3') (by first | decide | (with_reducible first | exact n0 _ | exact f5 (by assumption) | exact a3 (by assumption) (by assumption) | exact b26 (by assumption) | exact a26 (by assumption)) | (first | lia | omega)) (by first | decide | (with_reducible first | exact n0 _ | exact f5 (by assumption) | exact a3 (by assumption) (by assumption) | exact b26 (by assumption) | exact a26 (by assumption)) | (first | lia | omega)) htwa (w_Call (w_builtin rfl (by boot_fast) (w_cw_builtin (w_args_cons (w_subscript (w_cell (.inl ct3) (w_local rfl ?_)))))))
                refine w_item_list (vs := tv) (.inl ht3) (by first | decide | (with_reducible first | exact n0 _ | exact f5 (by assumption) | exact a3 (by assumption) (by assumption) | exact b26 (by assumption) | exact a26 (by assumption)) | (first | lia | omega)) (by first | decide | (with_reducible first | exact n0 _ | exact f5 (by assumption) | exact a3 (by assumption) (by assumption) | exact b26 (by assumption) | exact a26 (by assumption)) | (first | lia | omega)) htxb (w_args_nil (w_len_str (by first | decide | (with_reducible first | exact n0 _ | exact f5 (by assumption) | exact a3 (by assumption) (by assumption) | exact b26 (by assumption) | exact a26 (by assumption)) | (first | lia | omega)) fun _ => w_mul (mulOk_small (by first | decide | (with_reducible first | exact n0 _ | exact f5 (by assumption) | exact a3 (by assumption) (by assumption) | exact b26 (by assumption) | exact a26 (by assumption)) | (first | lia | omega))) fun tw2 => w_store_localK ks13 ?_))
                refine w_execs_cons (w_gen fun Qs14 ks14 => w_assign_name (w_Call (w_global (v := .ref 73) rfl (w_cw_K (by kernel_rfl) (w_args_cons (w_local n3 (w_args_cons (w_Tuple (w_args_cons (w_int fun _ => ?_))))))))))
                refine w_args_cons (w_binop (w_subscript (w_cell (.inl cw3) (w_local rfl ?_))))
                refine w_item_list (vs := wv) (.inl hw3') (by first | decide | (with_reducible first | exact n0 _ | exact f5 (by assumption) | exact a3 (by assumption) (by assumption) | exact b26 (by assumption) | exact a26 (by assumption)) | (first | lia | omega)) (by first | decide | (with_reducible first | exact n0 _ | exact f5 (by assumption) | exact a3 (by assumption) (by assumption) | exact b26 (by assumption) | exact a26 (by assumption)) | (first | lia | omega)) htwa (w_subscript (w_cell (.inl cw3) (w_local rfl ?_)))
                refine w_item_list (vs := wv) (.inl hw3') (by first | decide | (with_reducible first | exact n0 _ | exact f5 (by assumption) | exact a3 (by assumption) (by assumption) | exact b26 (by assumption) | exact a26 (by assumption)) | (first | lia | omega)) (by first | decide | (with_reducible first | exact n0 _ | exact f5 (by assumption) | exact a3 (by assumption) (by assumption) | exact b26 (by assumption) | exact a26 (by assumption)) | (first | lia | omega)) htwb (w_add fun _ => w_args_cons (w_local rfl (w_args_cons (w_local rfl ?_))))
                refine w_args_cons (w_Dict_one fun d0 hd0 => w_local rfl (w_binop (w_local rfl (w_local rfl (w_sub fun tsub => ⟨_, _, _, _, _, rfl, rfl, rfl, ?_⟩)))))
                refine w_args_nil (w_newTuple (szL _ (by simp)) fun tb => w_args_nil ?_)
                refine w_weak (.cons (fun o ho => (⟨_, _, _, _, ho⟩ : isBook X'.C.w 1 (wa + wb) (wb * (xa.length : Int)) (wa * (xb.length : Int)) d0 o)) (LedLE.refl _)) ?_
                refine w_call (wk_addStats (X := (((X'.withB B1).withB B2).withB B3).withF F') (pt := st.g) (ps := [(((b : Nat) : Int), wb * (xa.length : Int) - wa * (xb.length : Int))]) (hA'.le (by first | decide | (with_reducible first | exact n0 _ | exact f5 (by assumption) | exact a3 (by assumption) (by assumption) | exact b26 (by assumption) | exact a26 (by assumption)) | (first | lia | omega))) hbd hd0 (.inr (.tail _ (.tail _ mbk))) (.inr (.head _)) (.inr (.tail _ (.tail _ mbd))) (.inr (.tail _ (.head _))) (by first | decide | (with_reducible first | exact n0 _ | exact f5 (by assumption) | exact a3 (by assumption) (by assumption) | exact b26 (by assumption) | exact a26 (by assumption)) | (first | lia | omega)) (by simp) fun Rb Db hDb => w_store_localK ks14 ?_)
                have hmove : runMove (lenAt xs) (fun k => ws.getD k 0) st p = ⟨swapAt st.row p, 1 + st.c, (wa + wb) + st.m, wb * (xa.length : Int) + st.wo, wa * (xb.length : Int) + st.lo, addC st.g [(((b : Nat) : Int), wb * (xa.length : Int) - wa * (xb.length : Int))]⟩ := by
                  unfold runMove
                  simp only [hav, hbv, hwda, hwdb, hxal, hxbl]
                rw [hmove] at hstep
                clear hmove
                subst hσ
                generalize 1 + st.c = nc at hstep ⊢
                generalize (wa + wb) + st.m = nm at hstep ⊢
                generalize wb * (xa.length : Int) + st.wo = nw at hstep ⊢
                generalize wa * (xb.length : Int) + st.lo = nl at hstep ⊢
                generalize addC st.g [(((b : Nat) : Int), wb * (xa.length : Int) - wa * (xb.length : Int))] = ng at hstep ⊢
                refine w_keep (σ' := (Rb, isBook X'.C.w nc nm nw nl Db) :: (Db, isD X'.C.w ng) :: (r11, isRange 0 11 1) :: (pile, isPile dx vs) :: (dx, isDict1 "_initial_size" (.int start ts)) :: ((X'.L + 1 + 1 + 1 + 1 + 1 + 1), isCell (.ref ra)) :: (ra, isList rv) :: τ)
                  (.cons_cons _ (.cons_cons _ (.cons _ (.cons _ (.cons_cons _ (.cons _ (.cons _ (.refl _)))))))) ?_
                have hvl : vs.length = 5 := by rw [hpc.len, List.length_map, hrl]
                refine w_execs_cons (w_gen fun Qs15 ks15 => w_assign_name (w_methcall (w_local n2 (w_getMethod_fnL (f := 119) (C := 166) (P := isPile dx vs) (.inr (.tail _ (.tail _ (.tail _ (.head _))))) (.inr (.tail _ (.tail _ (.tail _ (.tail _ (.head _)))))) pileP (iniD (by decide)) (by kernel_rfl) (by kernel_rfl) (by kernel_rfl) (by kernel_rfl) (w_cwm_K (by kernel_rfl) ?_)))))
                refine w_args_cons (w_binop (w_local rfl (w_int fun _ => w_sub fun _ => ?_)))
                rw [ep1]
                refine w_args_nil (w_perm bring3 (w_call (wk_pop_from (dx := dx) (vs := vs) (hA'.le (by first | decide | (with_reducible first | exact n0 _ | exact f5 (by assumption) | exact a3 (by assumption) (by assumption) | exact b26 (by assumption) | exact a26 (by assumption)) | (first | lia | omega))) (by first | decide | (with_reducible first | exact n0 _ | exact f5 (by assumption) | exact a3 (by assumption) (by assumption) | exact b26 (by assumption) | exact a26 (by assumption)) | (first | lia | omega)) (by first | decide | (with_reducible first | exact n0 _ | exact f5 (by assumption) | exact a3 (by assumption) (by assumption) | exact b26 (by assumption) | exact a26 (by assumption)) | (first | lia | omega)) (by first | decide | (with_reducible first | exact n0 _ | exact f5 (by assumption) | exact a3 (by assumption) (by assumption) | exact b26 (by assumption) | exact a26 (by assumption)) | (first | lia | omega)) fun tk => w_store_localK ks15 ?_)))
                rw [Int.toNat_natCast]
                have hdl : (vs.drop (p - 1)).length = 5 - (p - 1) := by rw [List.length_drop, hvl]
                have hpd := hpc.drop (p - 1)
                refine ex1 (show ∃ v, (vs.drop (p - 1))[0]? = some v from ⟨_, List.getElem?_eq_getElem (by first | decide | (with_reducible first | exact n0 _ | exact f5 (by assumption) | exact a3 (by assumption) (by assumption) | exact b26 (by assumption) | exact a26 (by assumption)) | (first | lia | omega))⟩) fun T0' hT0' => ?_
                refine ex1 (show ∃ v, (vs.drop (p - 1))[1]? = some v from ⟨_, List.getElem?_eq_getElem (by first | decide | (with_reducible first | exact n0 _ | exact f5 (by assumption) | exact a3 (by assumption) (by assumption) | exact b26 (by assumption) | exact a26 (by assumption)) | (first | lia | omega))⟩) fun T1' hT1' => ?_
                refine w_execs_cons (w_For (w_binop (w_List (w_args_cons (w_subscript (w_local rfl (w_int fun _ => ?_)))))))
                refine w_item_list (vs := vs.drop (p - 1)) (.inr (.tail _ (.head _))) (by decide) (by decide) hT1' (w_args_cons (w_subscript (w_local rfl (w_int fun _ => ?_))))
                refine w_item_list (vs := vs.drop (p - 1)) (.inr (.tail _ (.head _))) (by decide) (by decide) hT0' (w_args_nil (w_newList (szL _ (by simp)) fun l2 => ?_))
                refine w_cut_list (a := tk) (vs := vs.drop (p - 1)) (lo := some 2) (hi := none) (st := none) (w_local rfl (w_part_some (w_int fun _ => w_part_none (w_part_none ⟨tk, vs.drop (p - 1), some 2, none, none, rfl, .inr (.tail _ (.tail _ (.head _))), by rw [hdl, sizeLine_eq]; (first | lia | omega), .int _ _, .none, .none, by simp, fun l3 => ?_⟩))))
                have hcut : (slicePick (vs.drop (p - 1)).toArray (some 2) none none).toList = (vs.drop (p - 1)).drop 2 := by
                  have := slicePick_from' (vs.drop (p - 1)).toArray 2
                  rw [show (((2 : Nat) : Int)) = 2 from rfl] at this
                  rw [this]
                rw [hcut]
                refine w_ladd (vs := [T1', T0']) (ws := (vs.drop (p - 1)).drop 2) (.inr (.tail _ (.head _))) (.inr (.head _)) (by rw [sizeLine_eq]; simp; (first | lia | omega)) fun PL => ?_
                have hpv : Pieces noB τ ([T1', T0'] ++ (vs.drop (p - 1)).drop 2) ([textAt xs b, textAt xs a] ++ (st.row.drop (p + 1)).map (textAt xs)) := by
                  refine ex2 (hpd.at_ hT1') fun A1 y1 oh => ?_; refine and5 oh fun hA1 hy1 ky1 k41 k11 => ?_; clear oh
                  refine ex2 (hpd.at_ hT0') fun A0 y0 oh => ?_; refine and5 oh fun hA0 hy0 ky0 k40 k10 => ?_; clear oh
                  have q1 : ((st.row.map (textAt xs)).drop (p - 1))[1]? = some (textAt xs b) := by
                    rw [List.getElem?_drop, show p - 1 + 1 = p by (first | lia | omega), List.getElem?_map, List.getElem?_eq_getElem (by (first | lia | omega) : p < st.row.length), ← hbv, List.getD_eq_getElem?_getD, List.getElem?_eq_getElem (by (first | lia | omega) : p < st.row.length)]; rfl
                  have q0 : ((st.row.map (textAt xs)).drop (p - 1))[0]? = some (textAt xs a) := by
                    rw [List.getElem?_drop, Nat.add_zero, List.getElem?_map, List.getElem?_eq_getElem (by (first | lia | omega) : p - 1 < st.row.length), ← hav, List.getD_eq_getElem?_getD, List.getElem?_eq_getElem (by (first | lia | omega) : p - 1 < st.row.length)]; rfl
                  rw [hy1] at q1
                  rw [hy0] at q0
                  cases q1
                  cases q0
                  subst hA1 hA0
                  have q2 := hpd.drop 2
                  rw [List.drop_drop, List.drop_drop, show p - 1 + 2 = p + 1 by (first | lia | omega), ← List.map_drop] at q2
                  rw [List.drop_drop, show p - 1 + 2 = p + 1 by (first | lia | omega)]
                  exact (Pieces.cons ky1 k41 k11 (.cons ky0 k40 k10 .nil)).append q2
                generalize ([T1', T0'] ++ (vs.drop (p - 1)).drop 2) = pv at hpv ⊢
                generalize hpx : ([textAt xs b, textAt xs a] ++ (st.row.drop (p + 1)).map (textAt xs)) = pxs at hpv
                refine w_iter_list (.inr (.head _)) fun I8 hI8 => ?_
                have hpl : pv.length ≤ 5 := by rw [hpv.len, ← hpx]; simp; (first | lia | omega)
                refine wc_perm (.cons _ (.cons _ (bring2.trans (.cons _ (List.perm_append_comm (l₁ := [(l3, _), (l2, _), (tk, _), (Rb, _), (Db, _), (r11, _), (dx, _), ((X'.L + 1 + 1 + 1 + 1 + 1 + 1), _), (ra, _)]) (l₂ := τ)))))) ?_
                refine ex1 (show ∃ r : Led, [(l3, isList ((vs.drop (p - 1)).drop 2)), (l2, isList [T1', T0']), (tk, isList (vs.drop (p - 1))), (Rb, isBook X'.C.w nc nm nw nl Db), (Db, isD X'.C.w ng), (r11, isRange 0 11 1), (dx, isDict1 "_initial_size" (.int start ts)), ((X'.L + 1 + 1 + 1 + 1 + 1 + 1), isCell (.ref ra)), (ra, isList rv)] = r from ⟨_, rfl⟩) fun ρ hρ => ?_
                have mdx : (dx, isDict1 "_initial_size" (.int start ts)) ∈ ρ := by rw [← hρ]; exact .tail _ (.tail _ (.tail _ (.tail _ (.tail _ (.tail _ (.head _))))))
                obtain ⟨J6, hJ6⟩ : ∃ J : Nat → Vars → Led → Prop, J = (fun j m σ => m "pile" = some (.ref pile) ∧ m "turn" = some (.int turn tt) ∧ m "book" = some (.ref Rb) ∧ m "place" = some (.int (p : Int) tp) ∧ (∃ t, m "behind" = some (.int (b : Int) t)) ∧ (∃ t, m "ahead" = some (.int (a : Int) t)) ∧
                    ∃ us τ2, σ = (pile, isPile dx us) :: (τ2 ++ ρ) ∧
                      Pieces noB τ2 us ((st.row.take (p - 1)).map (textAt xs) ++ pxs.take j) ∧ (∀ q ∈ τ, q ∈ τ2)) := ⟨_, rfl⟩
                rw [hρ]
                refine w_loop (its := fun i => [(I8, isListIter PL i)] ++ [(PL, isList pv)]) (iter_listR hA'.hd (.inr (.head _)) (Ne.symm hI8))
                  J6 ?_ ?_ ?_
                · rw [hJ6]
                  refine ⟨n2, n1, rfl, rfl, ⟨_, rfl⟩, ⟨_, rfl⟩, vs.take (p - 1), τ, rfl, ?_, fun _ hq => hq⟩
                  rw [List.take_zero, List.append_nil, List.map_take]
                  exact hpc.take _
                · rintro F8 j v τ'' m₆ σ₆ hj ⟨hv, rfl⟩ hj6
                  rw [hJ6] at hj6
                  refine and7 (hj6) fun e1 e2 e3 e4 oq4 oq5 ou0 => ?_; (try clear hj6); refine ex2 (ou0) fun us τ2 oh => ?_; clear ou0; obtain ⟨t5, e5⟩ := oq4; obtain ⟨t6, e6⟩ := oq5; refine and3 oh fun oq0 hus hsub => ?_; clear oh; subst oq0
                  refine ex2 (hpv.at_ hv) fun T xx oh => ?_; refine and5 oh fun oq0 hxx hk h4 h1000 => ?_; clear oh; subst oq0
                  have hkm : (T, isPiece xx) ∈ τ2 := hsub _ (hk.elim (fun ⟨o, e, _⟩ => nomatch e) id)
                  have hul : us.length ≤ 1000 := by rw [hus.len]; simp; (first | lia | omega)
                  refine w_store_name (w_store_local ?_)
                  refine w_execs_cons (w_expr (w_methcall (w_local e1 (w_getMethod_fnL (f := 111) (C := 166) (P := isPile dx us) (.inr (.head _)) (.inr (.tail _ (List.mem_append_right _ mdx))) pileP (iniD (by decide)) (by kernel_rfl) (by kernel_rfl) (by kernel_rfl) (by kernel_rfl) (w_cwm_K (by kernel_rfl) ?_)))))
                  refine w_args_cons (w_subscript (w_local rfl (w_int fun _ => w_piece0 (.inr (.tail _ (List.mem_append_left _ hkm))) fun _ => ?_)))
                  refine w_args_cons (w_subscript (w_local rfl (w_int fun _ => w_piece1 (.inr (.tail _ (List.mem_append_left _ hkm))) fun _ => w_args_nil ?_)))
                  refine w_call (wk_push (dx := dx) (vs := us) (v := .int start ts) (hA'.le (by first | decide | (with_reducible first | exact n0 _ | exact f5 (by assumption) | exact a3 (by assumption) (by assumption) | exact b26 (by assumption) | exact a26 (by assumption)) | (first | lia | omega))) (.inr (List.mem_append_right _ mdx)) hul fun t => ⟨fun _ e => (nomatch e), ?_⟩)
                  refine w_weak (.cons (fun _ h => h) (.cons (fun o ho => (⟨_, _, ho⟩ : isPiece xx o)) (LedLE.refl _))) ?_
                  refine w_execs_nil ?_
                  rw [hJ6]
                  refine ⟨e1, e2, e3, e4, ⟨_, e5⟩, ⟨_, e6⟩, us ++ [.ref t], (t, isPiece xx) :: τ2, rfl, ?_, fun q hq => .tail _ (hsub q hq)⟩
                  rw [take_snoc hxx, ← List.append_assoc]
                  exact (hus.mono kn_tail).snoc (.inr (.head _)) h4 h1000
                · rintro m₆ σ₆ hj6
                  rw [hJ6] at hj6
                  refine and7 (hj6) fun e1 e2 e3 e4 oq4 oq5 ou0 => ?_; (try clear hj6); refine ex2 (ou0) fun us τ2 oh => ?_; clear ou0; obtain ⟨t5, e5⟩ := oq4; obtain ⟨t6, e6⟩ := oq5; refine and3 oh fun oq0 hus _ => ?_; clear oh; subst oq0
                  clear hJ6 J6 mdx
                  subst hρ
                  rw [hpv.len, List.take_length] at hus
                  refine w_perm (.cons _ List.perm_append_comm) ?_
                  refine w_keep (σ' := (pile, isPile dx us) :: (Rb, isBook X'.C.w nc nm nw nl Db) :: (Db, isD X'.C.w ng) :: (r11, isRange 0 11 1) :: (dx, isDict1 "_initial_size" (.int start ts)) :: ((X'.L + 1 + 1 + 1 + 1 + 1 + 1), isCell (.ref ra)) :: (ra, isList rv) :: τ2)
                    (.cons_cons _ (.cons _ (.cons _ (.cons _ (.refl _))))) ?_
                  refine w_perm (bring3.trans (.cons _ bring2.symm)) ?_
                  have ep2 : (p : Int) + 1 = ((p + 1 : Nat) : Int) := by push_cast; rfl
                  refine w_execs_cons (w_gen fun Qs16 ks16 => w_assign_name (w_binop (w_binop (w_cut_list (a := ra) (vs := rv) (lo := none) (hi := some ((p - 1 : Nat) : Int)) (st := none) (w_cell (.inr (.tail _ (.tail _ (.tail _ (.tail _ (.tail _ (.head _))))))) (w_part_none (w_part_some (w_binop (w_local e4 (w_int fun _ => w_sub fun _ => ?_))))))))))
                  rw [ep1]
                  refine w_part_none ⟨ra, rv, none, some ((p - 1 : Nat) : Int), none, rfl, .inr (.tail _ (.tail _ (.tail _ (.tail _ (.tail _ (.tail _ (.head _))))))), by rw [hrvl, sizeLine_eq]; (first | lia | omega), .none, .int _ _, .none, by simp, fun c1 => ?_⟩
                  rw [slicePick_upto' rv.toArray (p - 1)]
                  refine w_List (w_args_cons (w_local e5 (w_args_cons (w_local e6 (w_args_nil (w_newList (szL _ (by simp)) fun e2' => ?_))))))
                  refine w_ladd (vs := rv.take (p - 1)) (ws := [.int (b : Int) t5, .int (a : Int) t6]) (.inr (.tail _ (.head _))) (.inr (.head _)) (by rw [sizeLine_eq, List.length_take]; simp; (first | lia | omega)) fun G1 => ?_
                  refine w_cut_list (a := ra) (vs := rv) (lo := some ((p + 1 : Nat) : Int)) (hi := none) (st := none) (w_cell (.inr (.tail _ (.tail _ (.tail _ (.tail _ (.tail _ (.tail _ (.tail _ (.tail _ (.head _)))))))))) (w_part_some (w_binop (w_local e4 (w_int fun _ => w_add fun _ => ?_)))))
                  rw [ep2]
                  refine w_part_none (w_part_none ⟨ra, rv, some ((p + 1 : Nat) : Int), none, none, rfl, .inr (.tail _ (.tail _ (.tail _ (.tail _ (.tail _ (.tail _ (.tail _ (.tail _ (.tail _ (.head _)))))))))), by rw [hrvl, sizeLine_eq]; (first | lia | omega), .int _ _, .none, .none, by simp, fun c2 => ?_⟩)
                  rw [slicePick_from' rv.toArray (p + 1)]
                  refine w_ladd (vs := rv.take (p - 1) ++ [.int (b : Int) t5, .int (a : Int) t6]) (ws := rv.drop (p + 1)) (.inr (.tail _ (.head _))) (.inr (.head _)) (by rw [sizeLine_eq, List.length_append, List.length_take, List.length_drop]; simp; (first | lia | omega)) fun G => ?_
                  refine w_keep (σ' := (G, isList (rv.take (p - 1) ++ [.int (b : Int) t5, .int (a : Int) t6] ++ rv.drop (p + 1))) :: (r11, isRange 0 11 1) :: (Rb, isBook X'.C.w nc nm nw nl Db) :: (Db, isD X'.C.w ng) :: (pile, isPile dx us) :: (dx, isDict1 "_initial_size" (.int start ts)) :: ((X'.L + 1 + 1 + 1 + 1 + 1 + 1), isCell (.ref ra)) :: τ2)
                    (.cons_cons _ (.cons _ (.cons _ (.cons _ (.cons _ (.cons_cons _ (.cons_cons _ (.cons_cons _ (.cons_cons _ (.cons_cons _ (.cons_cons _ (.cons _ (.refl _))))))))))))) ?_
                  refine w_perm bring6 (w_store_cellK ks16 cell_is ?_)
                  refine w_perm (bring2.trans (.cons _ (bring2.trans (.cons _ (bring2.trans (.cons _ (bring2.trans (.cons _ bring2)))))))) (w_execs_nil (kk5 _ _ _ ⟨_, .refl _, ?_⟩))
                  show J4 (i + 1) _ _
                  rw [hJ5, hstep]
                  refine ⟨e2, e1, Rb, Db, G, _, us, τ2, e3, hDb, ?_, ?_, rfl⟩
                  · have := ((hrv.take (p - 1)).append (.cons ⟨t5, rfl⟩ (.cons ⟨t6, rfl⟩ .nil) : IntsOf [.int (b : Int) t5, .int (a : Int) t6] [(b : Int), (a : Int)])).append (hrv.drop (p + 1))
                    have e9 : natsOf (swapAt st.row p) = (natsOf st.row).take (p - 1) ++ [(b : Int), (a : Int)] ++ (natsOf st.row).drop (p + 1) := by
                      unfold swapAt natsOf
                      rw [hav, hbv]
                      simp [List.map_take, List.map_drop]
                    show IntsOf _ (natsOf (swapAt st.row p))
                    rw [e9]; exact this
                  · have e9 : (swapAt st.row p).map (textAt xs) = (st.row.take (p - 1)).map (textAt xs) ++ pxs := by
                      unfold swapAt
                      rw [hav, hbv, ← hpx]
                      simp
                    show Pieces noB τ2 us ((swapAt st.row p).map (textAt xs))
                    rw [e9]; exact hus
          · rintro m₅ σ₅ hj
            rw [hJ4] at hj
            refine and3 (hj) fun n1 n2 ou0 => ?_; (try clear hj); refine ex6 (ou0) fun bk bd ra rv vs τ oh => ?_; clear ou0; refine and5 oh fun n3 hbd hrv hpc oq4 => ?_; clear oh; subst oq4
            rw [hQ4]
            rw [hR] at hrv hpc ⊢
            exact ⟨rfl, n2, bk, bd, ra, rv, vs, τ, n3, hbd, hrv, hpc, rfl⟩
        · rintro fl m₃ σ₃ hq
          rw [hQ4] at hq
          refine and3 (hq) fun oq0 k1 ou0 => ?_; (try clear hq); refine ex6 (ou0) fun bk bd ra rv vs τ oh => ?_; clear ou0; subst oq0; refine and5 oh fun k2 hbd hrv hpc oq4 => ?_; clear oh; subst oq4
          clear hQ4 Q4
          refine w_perm (bring6.trans (.cons _ (bring3.trans (.cons _ (bring3.trans (.cons _ (bring1.trans (.cons _ (bring1.trans (.cons _ bring1)))))))))) ?_
          refine w_execs_cons (w_return (w_Tuple (w_args_cons (w_cell (.inr (.tail _ (.tail _ (.tail _ (.tail _ (.tail _ (.head _))))))) (w_args_cons (w_local k1 (w_args_cons (w_local k2 (w_args_nil (w_newTuple (szL _ (by simp)) fun Tp => ?_))))))))))
          refine kk3 _ _ _ ⟨(Tp, isTup [.ref ra, .ref pile, .ref bk]) :: (ra, isList rv) :: (pile, isPile dx vs) :: (dx, isDict1 "_initial_size" (.int start ts)) :: (bk, isBook X'.C.w R.c R.m R.wo R.lo bd) :: (bd, isD X'.C.w R.g) :: τ, ?_, kk2 _ _ _ ⟨_, List.sublist_append_left _ _, kk1 _ _ _ ⟨_, List.sublist_append_left _ _, kk0 _ _ _ ?_⟩⟩⟩
          · exact .cons_cons _ (.cons_cons _ (.cons_cons _ (.cons_cons _ (.cons_cons _ (.cons_cons _ (.cons _ (.cons _ (List.sublist_append_left _ _))))))))
          · rw [hC]
            exact h Tp ra pile dx bk bd rv vs τ hrv hpc hbd
end
end Mine
end
end
section
set_option Elab.async false
set_option linter.unusedVariables false
set_option maxRecDepth 100000
noncomputable section
namespace Mine

theorem perm_sum {l l' : List Int} (h : l.Perm l') : l.sum = l'.sum := by
  induction h with
  | nil => rfl
  | cons x p ih => simp only [List.sum_cons, ih]
  | swap x y l => simp only [List.sum_cons]; (first | lia | omega)
  | trans _ _ ih1 ih2 => exact ih1.trans ih2
/-! The plain law: rows by exchanges of neighbours -/
noncomputable def colS (f : Nat → Nat → Int) (x : Nat) (r : List Nat) : Int := (r.map fun y => if y < x then f y x else 0).sum
noncomputable def inv (f : Nat → Nat → Int) : List Nat → Int
  | [] => 0
  | x :: r => colS f x r + inv f r
theorem colS_perm (f : Nat → Nat → Int) (x : Nat) {r r' : List Nat} (h : r.Perm r') : colS f x r = colS f x r' := by
  unfold colS
  exact perm_sum (h.map _)
theorem inv_swap (f : Nat → Nat → Int) (a b : Nat) (hab : a < b) (r : List Nat) : ∀ l : List Nat, inv f (l ++ b :: a :: r) = inv f (l ++ a :: b :: r) + f a b
  | [] => by
    simp only [List.nil_append, inv, colS, List.map_cons, List.sum_cons]
    rw [if_pos hab, if_neg (by (first | lia | omega))]
    first | ac_rfl | (simp only [Int.zero_add, Int.add_zero, Int.mul_zero, Int.sub_eq_add_neg, Int.neg_add, Int.neg_neg]; ac_rfl) | (first | lia | omega)
  | x :: l => by
    simp only [List.cons_append, inv]
    rw [inv_swap f a b hab r l, colS_perm f x (show (l ++ b :: a :: r).Perm (l ++ a :: b :: r) from List.Perm.append_left _ (List.Perm.swap _ _ _))]
    first | ac_rfl | (simp only [Int.zero_add, Int.add_zero, Int.mul_zero, Int.sub_eq_add_neg, Int.neg_add, Int.neg_neg]; ac_rfl) | (first | lia | omega)

noncomputable def psum (h : Nat → Nat → Int) : List Nat → Int
  | [] => 0
  | x :: r => (r.map (h x)).sum + psum h r
theorem psum_perm {h : Nat → Nat → Int} (hs : ∀ x y, h x y = h y x) {r r' : List Nat} (p : r.Perm r') : psum h r = psum h r' := by
  induction p with
  | nil => rfl
  | cons x p ih => simp only [psum, ih]; rw [perm_sum (p.map (h x))]
  | swap x y l => simp only [psum, List.map_cons, List.sum_cons]; rw [hs x y]; (first | lia | omega)
  | trans _ _ ih1 ih2 => exact ih1.trans ih2

section
variable (S W : Nat → Int)
noncomputable def Bet (x y : Nat) : Prop := W x * S y > W y * S x
noncomputable def Fair (row : List Nat) : Prop := row.Pairwise fun x y => y < x → Bet S W x y
noncomputable def Sorted (row : List Nat) : Prop := row.Pairwise fun x y => ¬ Bet S W y x
variable {S W}
theorem fair_swap {l r : List Nat} {a b : Nat} (h : Fair S W (l ++ a :: b :: r)) (hb : Bet S W b a) : Fair S W (l ++ b :: a :: r) := by
  unfold Fair at h ⊢
  rw [List.pairwise_append] at h ⊢
  obtain ⟨h1, h2, h3⟩ := h
  rw [List.pairwise_cons, List.pairwise_cons] at h2
  refine ⟨h1, ?_, fun x hx y hy => h3 x hx y (by simp only [List.mem_cons] at hy ⊢; rcases hy with h | h | h <;> simp [h])⟩
  rw [List.pairwise_cons, List.pairwise_cons]
  refine ⟨fun y hy hlt => ?_, fun y hy => h2.1 y (.tail _ hy), h2.2.2⟩
  rcases List.mem_cons.mp hy with rfl | hy
  · exact hb
  · exact h2.2.1 y hy hlt
theorem fair_lt {l r : List Nat} {a b : Nat} (h : Fair S W (l ++ a :: b :: r)) (hb : Bet S W b a) (hne : a ≠ b) : a < b := by
  unfold Fair at h
  rw [List.pairwise_append] at h
  have := (List.pairwise_cons.mp h.2.1).1 b (.head _)
  rcases Nat.lt_trichotomy a b with h | h | h
  · exact h
  · exact absurd h hne
  · have h1 := this h
    unfold Bet at hb h1
    first | ac_rfl | (simp only [Int.zero_add, Int.add_zero, Int.mul_zero, Int.sub_eq_add_neg, Int.neg_add, Int.neg_neg]; ac_rfl) | (first | lia | omega)

theorem bet_trans {x y z : Nat} (sx : 0 < S x) (sy : 0 < S y) (sz : 0 < S z) (wy : 0 < W y) (h1 : ¬ Bet S W y x) (h2 : ¬ Bet S W z y) : ¬ Bet S W z x := by
  unfold Bet at *
  have e1 : W y * S x ≤ W x * S y := by (first | lia | omega)
  have e2 : W z * S y ≤ W y * S z := by (first | lia | omega)
  intro h3
  have p1 : (W z * S y) * (W y * S x) ≤ (W y * S z) * (W x * S y) := Int.mul_le_mul e2 e1 (Int.le_of_lt (Int.mul_pos wy sx)) (Int.le_of_lt (Int.mul_pos wy sz))
  have p2 : (W x * S z) * (W y * S y) < (W z * S x) * (W y * S y) := Int.mul_lt_mul_of_pos_right h3 (Int.mul_pos wy sy)
  have q1 : (W z * S y) * (W y * S x) = (W z * S x) * (W y * S y) := by ac_rfl
  have q2 : (W y * S z) * (W x * S y) = (W x * S z) * (W y * S y) := by ac_rfl
  rw [q1, q2] at p1
  first | ac_rfl | (simp only [Int.zero_add, Int.add_zero, Int.mul_zero, Int.sub_eq_add_neg, Int.neg_add, Int.neg_neg]; ac_rfl) | (first | lia | omega)
theorem sorted_of_adj : ∀ {row : List Nat}, (∀ k ∈ row, 0 < S k ∧ 0 < W k) → (∀ i, i + 1 < row.length → ¬ Bet S W (row.getD (i + 1) 0) (row.getD i 0)) → Sorted S W row
  | [], _, _ => .nil
  | [x], _, _ => List.pairwise_singleton _ _
  | x :: y :: r, hp, h => by
    have ih := sorted_of_adj (row := y :: r) (fun k hk => hp k (.tail _ hk)) fun i hi => by
      have := h (i + 1) (by simpa using hi)
      simpa using this
    have h0 : ¬ Bet S W y x := by simpa using h 0 (by simp)
    refine List.pairwise_cons.mpr ⟨fun z hz => ?_, ih⟩
    rcases List.mem_cons.mp hz with rfl | hz
    · exact h0
    · exact bet_trans (hp x (.head _)).1 (hp y (.tail _ (.head _))).1 (hp z (.tail _ (.tail _ hz))).1 (hp y (.tail _ (.head _))).2 h0 ((List.pairwise_cons.mp ih).1 z hz)

noncomputable def share (S W : Nat → Int) (f : Nat → Nat → Int) (x y : Nat) : Int := if y < x then (if W x * S y > W y * S x then f y x else 0) else if x < y then (if W y * S x > W x * S y then f x y else 0) else 0
theorem share_symm (f : Nat → Nat → Int) (x y : Nat) : share S W f x y = share S W f y x := by
  unfold share
  rcases Nat.lt_trichotomy x y with h | h | h
  · rw [if_neg (show ¬ y < x by (first | lia | omega)), if_pos h, if_pos h]
  · subst h; rfl
  · rw [if_pos h, if_neg (show ¬ x < y by (first | lia | omega)), if_pos h]
theorem inv_done (f : Nat → Nat → Int) : ∀ {row : List Nat}, Fair S W row → Sorted S W row → row.Nodup → inv f row = psum (share S W f) row
  | [], _, _, _ => rfl
  | x :: r, hf, hs, hd => by
    have hf' := List.pairwise_cons.mp hf
    have hs' := List.pairwise_cons.mp hs
    have hd' := List.nodup_cons.mp hd
    simp only [inv, psum]
    rw [inv_done f hf'.2 hs'.2 hd'.2]
    congr 1
    unfold colS
    congr 1
    refine List.map_congr_left fun y hy => ?_
    have hne : y ≠ x := fun q => hd'.1 (q ▸ hy)
    unfold share
    by_cases hlt : y < x
    · rw [if_pos hlt, if_pos hlt]
      have := hf'.1 y hy hlt
      unfold Bet at this
      rw [if_pos this]
    · rw [if_neg hlt, if_neg hlt, if_pos (by (first | lia | omega))]
      have := hs'.1 y hy
      unfold Bet at this
      rw [if_neg this]
end
end Mine
end
end
section
set_option Elab.async false
set_option linter.unusedVariables false
set_option maxRecDepth 100000
noncomputable section
namespace Mine

theorem split_at {row : List Nat} {p : Nat} (hl : row.length = 5) (h1 : 1 ≤ p) (h4 : p ≤ 4) : row = row.take (p - 1) ++ row.getD (p - 1) 0 :: row.getD p 0 :: row.drop (p + 1) := by
  have e1 : row.drop (p - 1) = row.getD (p - 1) 0 :: row.drop p := by
    have hlt : p - 1 < row.length := by (first | lia | omega)
    rw [List.drop_eq_getElem_cons hlt, show p - 1 + 1 = p by (first | lia | omega)]
    simp [hlt]
  have e2 : row.drop p = row.getD p 0 :: row.drop (p + 1) := by
    have hlt : p < row.length := by (first | lia | omega)
    rw [List.drop_eq_getElem_cons hlt]
    simp [hlt]
  rw [← e2, ← e1, List.take_append_drop]
theorem swapAt_eq (row : List Nat) (p : Nat) : swapAt row p = row.take (p - 1) ++ row.getD p 0 :: row.getD (p - 1) 0 :: row.drop (p + 1) := by
  unfold swapAt; simp

section
variable (S W : Nat → Int)
noncomputable def fw (q : Int) : List Nat → Int
  | [] => 0
  | k :: r => W k * (q + S k) + fw (q + S k) r
variable {S W}
theorem fw_swap (a b : Nat) (r : List Nat) : ∀ (l : List Nat) (q : Int), fw S W q (l ++ b :: a :: r) = fw S W q (l ++ a :: b :: r) - (W b * S a - W a * S b)
  | [], q => by
    simp only [List.nil_append, fw]
    rw [show q + S b + S a = q + S a + S b by (first | lia | omega)]
    have e1 : W a * (q + S a + S b) = W a * (q + S a) + W a * S b := Int.mul_add _ _ _
    have e2 : W b * (q + S a + S b) = W b * (q + S b) + W b * S a := by rw [show q + S a + S b = q + S b + S a by (first | lia | omega)]; exact Int.mul_add _ _ _
    rw [e1, e2]
    first | ac_rfl | (simp only [Int.zero_add, Int.add_zero, Int.mul_zero, Int.sub_eq_add_neg, Int.neg_add, Int.neg_neg]; ac_rfl) | (first | lia | omega)
  | x :: l, q => by
    simp only [List.cons_append, fw]
    rw [fw_swap a b r l]
    first | ac_rfl | (simp only [Int.zero_add, Int.add_zero, Int.mul_zero, Int.sub_eq_add_neg, Int.neg_add, Int.neg_neg]; ac_rfl) | (first | lia | omega)
end

/-! tables -/
noncomputable def Keys (g : List (Int × Int)) : Prop := (g.map (·.1)).Nodup
theorem getI_cons (k v : Int) (g : List (Int × Int)) (j : Int) : getI ((k, v) :: g) j = if k = j then some v else getI g j := by
  unfold getI
  rw [List.find?_cons]
  by_cases h : k = j
  · rw [if_pos h]; simp [h]
  · rw [if_neg h]; simp [h]
theorem any_iff (g : List (Int × Int)) (k : Int) : g.any (fun p => p.1 = k) = (getI g k).isSome := by
  induction g with
  | nil => rfl
  | cons p g ih =>
    obtain ⟨j, v⟩ := p
    rw [List.any_cons, getI_cons, ih]
    by_cases h : j = k
    · rw [if_pos h]; simp [h]
    · rw [if_neg h]; simp [h]
theorem getI_upd (g : List (Int × Int)) (k v j : Int) : getI (g.map fun p => if p.1 = k then (p.1, v) else p) j = if k = j then (getI g j).map (fun _ => v) else getI g j := by
  induction g with
  | nil => unfold getI; simp
  | cons p g ih =>
    obtain ⟨i, u⟩ := p
    rw [List.map_cons, getI_cons]
    by_cases h : i = k
    · subst h
      rw [if_pos rfl, getI_cons, ih]
      by_cases hj : i = j
      · rw [if_pos hj, if_pos hj, if_pos hj]; rfl
      · rw [if_neg hj, if_neg hj, if_neg hj, if_neg hj] <;> rfl
    · rw [if_neg h, getI_cons, ih]
      by_cases hj : k = j
      · subst hj
        rw [if_neg h, if_pos rfl, if_neg h, if_pos rfl]
      · rw [if_neg hj, if_neg hj]
theorem getI_snoc (g : List (Int × Int)) (k v j : Int) : getI (g ++ [(k, v)]) j = match getI g j with | some u => some u | none => if k = j then some v else none := by
  induction g with
  | nil => rw [List.nil_append, getI_cons]; rfl
  | cons p g ih =>
    obtain ⟨i, u⟩ := p
    rw [List.cons_append, getI_cons, getI_cons, ih]
    by_cases h : i = j
    · rw [if_pos h, if_pos h]
    · rw [if_neg h, if_neg h]
theorem getI_sto (g : List (Int × Int)) (k v j : Int) : getI (sto g k v) j = if k = j then some v else getI g j := by
  unfold sto
  rw [any_iff]
  cases hk : getI g k with
  | some u =>
    simp only [Option.isSome_some, if_true]
    rw [getI_upd]
    by_cases h : k = j
    · subst h; rw [if_pos rfl, if_pos rfl, hk]; rfl
    · rw [if_neg h, if_neg h]
  | none =>
    simp only [Option.isSome_none, Bool.false_eq_true, if_false]
    rw [getI_snoc]
    by_cases h : k = j
    · subst h; rw [hk]
    · rw [if_neg h]
      cases getI g j <;> simp [h]
theorem mem_keys {g : List (Int × Int)} {k : Int} : k ∈ g.map (·.1) ↔ (getI g k).isSome = true := by
  rw [← any_iff, List.any_eq_true]
  constructor
  · intro h
    obtain ⟨p, hp, rfl⟩ := List.mem_map.mp h
    exact ⟨p, hp, by simp⟩
  · rintro ⟨p, hp, h⟩
    exact List.mem_map.mpr ⟨p, hp, by simpa using h⟩
theorem keys_upd (g : List (Int × Int)) (k v : Int) : (g.map fun p => if p.1 = k then (p.1, v) else p).map (·.1) = g.map (·.1) := by
  rw [List.map_map]
  refine List.map_congr_left fun p _ => ?_
  show (if p.1 = k then (p.1, v) else p).1 = p.1
  split <;> rfl
theorem sto_keys {g : List (Int × Int)} (h : Keys g) (k v : Int) : Keys (sto g k v) := by
  unfold Keys sto at *
  rw [any_iff]
  cases hk : getI g k with
  | some u => simp only [Option.isSome_some, if_true]; rw [keys_upd]; exact h
  | none =>
    simp only [Option.isSome_none, Bool.false_eq_true, if_false]
    rw [List.map_append, List.nodup_append]
    refine ⟨h, by simp, fun a ha b hb q => ?_⟩
    simp at hb
    subst hb
    subst q
    have := mem_keys.mp ha
    rw [hk] at this
    cases this
theorem sum_upd {g : List (Int × Int)} (h : Keys g) (k v : Int) : ((g.map fun p => if p.1 = k then (p.1, v) else p).map (·.2)).sum = (g.map (·.2)).sum + (match getI g k with | some u => v - u | none => 0) := by
  induction g with
  | nil => rfl
  | cons p g ih =>
    obtain ⟨i, u⟩ := p
    have h' : i ∉ g.map (·.1) ∧ (g.map (·.1)).Nodup := List.nodup_cons.mp h
    have ih := ih h'.2
    rw [List.map_cons, List.map_cons, List.map_cons, List.sum_cons, List.sum_cons, ih, getI_cons]
    by_cases hi : i = k
    · subst hi
      have : getI g i = none := by
        cases hg : getI g i with
        | none => rfl
        | some u => exact absurd (mem_keys.mpr (by rw [hg]; rfl)) h'.1
      rw [this, if_pos rfl, if_pos rfl]
      show v + ((g.map (·.2)).sum + 0) = u + (g.map (·.2)).sum + (v - u)
      first | ac_rfl | (simp only [Int.zero_add, Int.add_zero, Int.mul_zero, Int.sub_eq_add_neg, Int.neg_add, Int.neg_neg]; ac_rfl) | (first | lia | omega)
    · rw [if_neg hi, if_neg hi]
      dsimp only
      first | ac_rfl | (simp only [Int.zero_add, Int.add_zero, Int.mul_zero, Int.sub_eq_add_neg, Int.neg_add, Int.neg_neg]; ac_rfl) | (first | lia | omega)
theorem sum_sto {g : List (Int × Int)} (h : Keys g) (k v : Int) : ((sto g k v).map (·.2)).sum = (g.map (·.2)).sum + (v - (getI g k).getD 0) := by
  unfold sto
  rw [any_iff]
  cases hk : getI g k with
  | some u =>
    simp only [Option.isSome_some, if_true]
    rw [sum_upd h, hk]; rfl
  | none =>
    simp only [Option.isSome_none, Bool.false_eq_true, if_false]
    rw [List.map_append, List.sum_append]
    simp
theorem copy_getI (t : List (Int × Int)) : Keys t → Keys (copyD t) ∧ ∀ j, getI (copyD t) j = getI t j := by
  have key : ∀ (t acc : List (Int × Int)), Keys acc → Keys t → (∀ k ∈ t.map (·.1), getI acc k = none) → Keys (t.foldl (fun acc p => sto acc p.1 p.2) acc) ∧ ∀ j, getI (t.foldl (fun acc p => sto acc p.1 p.2) acc) j = match getI acc j with | some u => some u | none => getI t j := by
    intro t
    induction t with
    | nil => intro acc ha _ _; exact ⟨ha, fun j => by simp only [List.foldl_nil]; cases getI acc j <;> rfl⟩
    | cons p t ih =>
      obtain ⟨i, u⟩ := p
      intro acc ha ht hn
      have ht' : i ∉ t.map (·.1) ∧ (t.map (·.1)).Nodup := List.nodup_cons.mp ht
      have hi := hn i (.head _)
      obtain ⟨h1, h2⟩ := ih (sto acc i u) (sto_keys ha i u) ht'.2 (fun k hk => by
        rw [getI_sto, if_neg (fun (q : i = k) => ht'.1 (by rw [q]; exact hk))]
        exact hn k (.tail _ hk))
      refine ⟨h1, fun j => ?_⟩
      rw [List.foldl_cons, h2, getI_sto, getI_cons]
      by_cases hj : i = j
      · subst hj; rw [if_pos rfl, if_pos rfl, hi]
      · rw [if_neg hj, if_neg hj]
  intro h
  have := key t [] (by unfold Keys; simp) h (fun k _ => rfl)
  exact ⟨this.1, fun j => by rw [copyD, this.2]; rfl⟩
theorem addC_one_getI {t : List (Int × Int)} (h : Keys t) (k d : Int) : Keys (addC t [(k, d)]) ∧ (∀ j, getI (addC t [(k, d)]) j = if k = j then some ((getI t k).getD 0 + d) else getI t j) := by
  obtain ⟨h1, h2⟩ := copy_getI t h
  have e : addC t [(k, d)] = sto (copyD t) k ((getI (copyD t) k).getD 0 + d) := by
    show addStep (copyD t) (k, d) = _
    cases hg : getI (copyD t) k with
    | some n => rw [addStep_some hg]; rfl
    | none => rw [addStep_none hg]; simp
  rw [e]
  refine ⟨sto_keys h1 _ _, fun j => ?_⟩
  rw [getI_sto, h2, h2]
end Mine
end
end
section
set_option Elab.async false
set_option linter.unusedVariables false
set_option maxRecDepth 100000
noncomputable section
namespace Mine
noncomputable def cntF (k : Nat) (a b : Nat) : Int := if b = k then 1 else 0
noncomputable def gainF (S W : Nat → Int) (a b : Nat) : Int := W b * S a - W a * S b
noncomputable def valF (S W : Nat → Int) (k : Nat) (a b : Nat) : Int := if b = k then gainF S W a b else 0
theorem colS_cnt (S W : Nat → Int) (k x : Nat) : ∀ r : List Nat, 0 ≤ colS (cntF k) x r ∧ (colS (cntF k) x r = 0 → colS (valF S W k) x r = 0)
  | [] => by simp [colS]
  | y :: r => by
    obtain ⟨h1, h2⟩ := colS_cnt S W k x r
    have e1 : colS (cntF k) x (y :: r) = (if y < x then cntF k y x else 0) + colS (cntF k) x r := by simp [colS]
    have e2 : colS (valF S W k) x (y :: r) = (if y < x then valF S W k y x else 0) + colS (valF S W k) x r := by simp [colS]
    rw [e1, e2]
    unfold cntF valF at *
    by_cases hy : y < x
    · rw [if_pos hy, if_pos hy]
      by_cases hx : x = k
      · rw [if_pos hx, if_pos hx]; constructor
        · (first | lia | omega)
        · intro h; (first | lia | omega)
      · rw [if_neg hx, if_neg hx]; constructor
        · (first | lia | omega)
        · intro h; have := h2 (by (first | lia | omega)); (first | lia | omega)
    · rw [if_neg hy, if_neg hy]; constructor
      · (first | lia | omega)
      · intro h; have := h2 (by (first | lia | omega)); (first | lia | omega)
theorem inv_cnt (S W : Nat → Int) (k : Nat) : ∀ row : List Nat, 0 ≤ inv (cntF k) row ∧ (inv (cntF k) row = 0 → inv (valF S W k) row = 0)
  | [] => by simp [inv]
  | x :: r => by
    obtain ⟨h1, h2⟩ := inv_cnt S W k r
    obtain ⟨g1, g2⟩ := colS_cnt S W k x r
    simp only [inv]
    refine ⟨by (first | lia | omega), fun h => ?_⟩
    rw [g2 (by (first | lia | omega)), h2 (by (first | lia | omega))]; rfl

structure RInv (S W : Nat → Int) (st : RS) : Prop where
  perm : st.row.Perm [0, 1, 2, 3, 4]
  fair : Fair S W st.row
  c : st.c = inv (fun _ _ => 1) st.row
  m : st.m = inv (fun a b => W a + W b) st.row
  wo : st.wo = inv (fun a b => W b * S a) st.row
  lo : st.lo = inv (fun a b => W a * S b) st.row
  fw : fw S W 0 st.row = fw S W 0 [0, 1, 2, 3, 4] - inv (gainF S W) st.row
  keys : Keys st.g
  nat : ∀ j, getI st.g j ≠ none → ∃ k : Nat, j = k
  get : ∀ k : Nat, getI st.g k = if inv (cntF k) st.row = 0 then none else some (inv (valF S W k) st.row)
  sum : (st.g.map (·.2)).sum = inv (gainF S W) st.row

theorem rinv_start (S W : Nat → Int) : RInv S W ⟨[0, 1, 2, 3, 4], 0, 0, 0, 0, []⟩ := by
  have h0 : ∀ f, inv f [0, 1, 2, 3, 4] = 0 := fun f => by simp [inv, colS]
  refine { perm := .refl _, fair := ?_, c := (h0 _).symm, m := (h0 _).symm, wo := (h0 _).symm, lo := (h0 _).symm, fw := by show fw S W 0 [0, 1, 2, 3, 4] = _; rw [h0]; (first | lia | omega), keys := by unfold Keys; simp, nat := fun j h => absurd rfl h, get := fun k => by rw [h0]; rfl, sum := by rw [h0]; rfl }
  have : ([0, 1, 2, 3, 4] : List Nat).Pairwise (fun x y => x < y) := by decide
  exact this.imp fun h h' => absurd h' (by (first | lia | omega))

theorem addC_sum {t : List (Int × Int)} (h : Keys t) (k d : Int) : ((addC t [(k, d)]).map (·.2)).sum = ((copyD t).map (·.2)).sum + d := by
  obtain ⟨h1, h2⟩ := copy_getI t h
  have e : addC t [(k, d)] = sto (copyD t) k ((getI (copyD t) k).getD 0 + d) := by
    show addStep (copyD t) (k, d) = _
    cases hg : getI (copyD t) k with
    | some n => rw [addStep_some hg]; rfl
    | none => rw [addStep_none hg]; simp
  rw [e, sum_sto h1]
  first | ac_rfl | (simp only [Int.zero_add, Int.add_zero, Int.mul_zero, Int.sub_eq_add_neg, Int.neg_add, Int.neg_neg]; ac_rfl) | (first | lia | omega)
theorem copyD_id : ∀ (t acc : List (Int × Int)), Keys (acc ++ t) → t.foldl (fun acc p => sto acc p.1 p.2) acc = acc ++ t
  | [], acc, _ => by simp
  | (i, u) :: t, acc, h => by
    have hn : getI acc i = none := by
      cases hg : getI acc i with
      | none => rfl
      | some v =>
        exfalso
        unfold Keys at h
        rw [List.map_append, List.nodup_append] at h
        exact h.2.2 i (mem_keys.mpr (by rw [hg]; rfl)) i (by simp) rfl
    have hs : sto acc i u = acc ++ [(i, u)] := by
      unfold sto
      rw [any_iff, hn]; rfl
    rw [List.foldl_cons, hs, copyD_id t (acc ++ [(i, u)]) (by rw [List.append_assoc]; exact h), List.append_assoc]
    rfl

theorem rinv_move {S W : Nat → Int} {st : RS} (I : RInv S W st) {p : Nat} (h1 : 1 ≤ p) (h4 : p ≤ 4) (hb : Bet S W (st.row.getD p 0) (st.row.getD (p - 1) 0)) : RInv S W (runMove S W st p) := by
  have hl : st.row.length = 5 := by rw [I.perm.length_eq]; rfl
  have hsplit := split_at hl h1 h4
  have hsw := swapAt_eq st.row p
  unfold runMove
  generalize st.row.getD (p - 1) 0 = a at hb hsplit hsw ⊢
  generalize st.row.getD p 0 = b at hb hsplit hsw ⊢
  generalize st.row.take (p - 1) = l at hsplit hsw
  generalize st.row.drop (p + 1) = r at hsplit hsw
  dsimp only
  rw [hsw]
  have hnd : st.row.Nodup := I.perm.nodup_iff.mpr (by decide)
  have hab : a ≠ b := by
    rw [hsplit, List.nodup_append] at hnd
    have := (List.nodup_cons.mp hnd.2.1).1
    intro q; exact this (by rw [q]; exact .head _)
  have hfair := I.fair
  rw [hsplit] at hfair
  have hlt := fair_lt hfair hb hab
  have hinv : ∀ f, inv f (l ++ b :: a :: r) = inv f st.row + f a b := fun f => by rw [inv_swap f a b hlt, ← hsplit]
  have hgk := addC_one_getI I.keys (b : Int) (W b * S a - W a * S b)
  refine { perm := ?_, fair := fair_swap hfair hb, c := ?_, m := ?_, wo := ?_, lo := ?_, fw := ?_, keys := hgk.1, nat := fun j hj => ?_, get := fun k => ?_, sum := ?_ }
  · have hp := I.perm
    rw [hsplit] at hp
    exact (List.Perm.append_left _ (List.Perm.swap _ _ _)).trans hp
  · show 1 + st.c = _
    rw [hinv, I.c]; (first | lia | omega)
  · show W a + W b + st.m = _
    rw [hinv, I.m]; (first | lia | omega)
  · show W b * S a + st.wo = _
    rw [hinv, I.wo]; (first | lia | omega)
  · show W a * S b + st.lo = _
    rw [hinv, I.lo]; (first | lia | omega)
  · show fw S W 0 (l ++ b :: a :: r) = _
    rw [fw_swap, ← hsplit, I.fw, hinv]
    unfold gainF; (first | lia | omega)
  · have hj2 := hj
    dsimp only at hj2
    rw [hgk.2] at hj2
    by_cases h : (b : Int) = j
    · exact ⟨b, h.symm⟩
    · rw [if_neg h] at hj2; exact I.nat j hj2
  · show getI (addC st.g [((b : Int), W b * S a - W a * S b)]) k = _
    rw [hgk.2, hinv, hinv]
    obtain ⟨c1, c2⟩ := inv_cnt S W k st.row
    by_cases h : (b : Int) = k
    · have hbk : b = k := by exact_mod_cast h
      subst hbk
      have e1 : cntF b a b = 1 := if_pos rfl
      have e2 : valF S W b a b = gainF S W a b := if_pos rfl
      rw [if_pos rfl, I.get, e1, e2, if_neg (show inv (cntF b) st.row + 1 ≠ 0 by (first | lia | omega))]
      by_cases hz : inv (cntF b) st.row = 0
      · rw [if_pos hz]
        have := c2 hz
        show some (0 + _) = some (inv (valF S W b) st.row + _)
        rw [this]; rfl
      · rw [if_neg hz]; rfl
    · have hbk : b ≠ k := fun q => h (by rw [q])
      have e1 : cntF k a b = 0 := if_neg hbk
      have e2 : valF S W k a b = 0 := if_neg hbk
      rw [if_neg h, I.get, e1, e2, Int.add_zero, Int.add_zero]
  · show ((addC st.g [((b : Int), W b * S a - W a * S b)]).map (·.2)).sum = _
    rw [addC_sum I.keys, hinv]
    have : copyD st.g = st.g := by
      have := copyD_id st.g [] (by simpa using I.keys)
      simpa [copyD] using this
    rw [this, I.sum]
    rfl
end Mine
end
end
section
open PySem PySem.W PySem.Calls PyProof.Rows PySem.Spec
set_option Elab.async false
set_option linter.unusedVariables false
set_option maxRecDepth 100000
noncomputable section
namespace Mine
theorem whole_from : ∀ (xs : List Str) (n : Int), xs.foldl (fun n x => n * (x.length : Int)) n = n * wholeT xs
  | [], n => by simp [wholeT]
  | x :: xs, n => by
    have e : wholeT (x :: xs) = (1 * (x.length : Int)) * wholeT xs := whole_from xs _
    rw [List.foldl_cons, whole_from xs, e]
    rw [Int.one_mul, Int.mul_assoc]
theorem whole_cons (x : Str) (xs : List Str) : wholeT (x :: xs) = (x.length : Int) * wholeT xs := by
  have e : wholeT (x :: xs) = (1 * (x.length : Int)) * wholeT xs := whole_from xs _
  rw [e, Int.one_mul]
theorem whole_dvd {x : Str} : ∀ {xs : List Str}, x ∈ xs → ((x.length : Int) ∣ wholeT xs)
  | y :: xs, h => by
    rw [whole_cons]
    rcases List.mem_cons.mp h with rfl | h
    · exact ⟨_, rfl⟩
    · exact Int.dvd_trans (whole_dvd h) ⟨(y.length : Int), Int.mul_comm _ _⟩
theorem whole_pos : ∀ {xs : List Str}, (∀ x ∈ xs, 7 ≤ x.length ∧ x.length ≤ 26) → 0 < wholeT xs
  | [], _ => by decide
  | y :: xs, h => by
    rw [whole_cons]
    have := (h y (.head _)).1
    exact Int.mul_pos (by (first | lia | omega)) (whole_pos fun x hx => h x (.tail _ hx))
theorem card_lt {xs : List Str} {ws : List Int} (L : Letters xs ws) {a b : Nat} (ha : a < 5) (hb : b < 5) : cardV xs ws a < cardV xs ws b ↔ Bet (lenAt xs) (fun k => ws.getD k 0) b a := by
  refine ex1 (L.text ha) fun x oh => ?_; refine and5 oh fun hx _ hlx h7 _ => ?_; clear oh
  refine ex1 (L.text hb) fun y oh => ?_; refine and5 oh fun hy _ hly h7' _ => ?_; clear oh
  have hmx : x ∈ xs := List.mem_of_getElem? hx
  have hmy : y ∈ xs := List.mem_of_getElem? hy
  have hT := whole_pos L.tx
  refine ex1 (whole_dvd hmx) fun q hq => ?_
  refine ex1 (whole_dvd hmy) fun r hr => ?_
  unfold cardV Bet
  rw [hlx, hly]
  have px : (0 : Int) < x.length := by (first | lia | omega)
  have py : (0 : Int) < y.length := by (first | lia | omega)
  generalize (x.length : Int) = sa at *
  generalize (y.length : Int) = sb at *
  generalize wholeT xs = T at *
  dsimp only
  generalize ws.getD a 0 = wa
  generalize ws.getD b 0 = wb
  have e1 : T.fdiv sa = q := by rw [hq, Int.mul_fdiv_cancel_left _ (by (first | lia | omega))]
  have e2 : T.fdiv sb = r := by rw [hr, Int.mul_fdiv_cancel_left _ (by (first | lia | omega))]
  rw [e1, e2]
  have f1 : (wa * q) * (sa * sb) = (wa * sb) * T := by rw [hq]; ac_rfl
  have f2 : (wb * r) * (sa * sb) = (wb * sa) * T := by rw [hr]; ac_rfl
  constructor
  · intro h
    have := Int.mul_lt_mul_of_pos_right h (Int.mul_pos px py)
    rw [f1, f2] at this
    exact Int.lt_of_mul_lt_mul_right this (Int.le_of_lt hT)
  · intro h
    have := Int.mul_lt_mul_of_pos_right h hT
    rw [← f1, ← f2] at this
    exact Int.lt_of_mul_lt_mul_right this (Int.le_of_lt (Int.mul_pos px py))

theorem colS_le (x : Nat) : ∀ r : List Nat, colS (fun _ _ => 1) x r ≤ (r.map fun _ => (1 : Int)).sum
  | [] => by simp [colS]
  | y :: r => by
    have := colS_le x r
    have e : colS (fun _ _ => 1) x (y :: r) = (if y < x then 1 else 0) + colS (fun _ _ => 1) x r := by simp [colS]
    rw [e]
    simp only [List.map_cons, List.sum_cons]
    split <;> (first | lia | omega)
theorem inv_le : ∀ r : List Nat, inv (fun _ _ => 1) r ≤ psum (fun _ _ => 1) r
  | [] => Int.le_refl _
  | x :: r => by
    have h1 := colS_le x r
    have h2 := inv_le r
    simp only [inv, psum]
    first | ac_rfl | (simp only [Int.zero_add, Int.add_zero, Int.mul_zero, Int.sub_eq_add_neg, Int.neg_add, Int.neg_neg]; ac_rfl) | (first | lia | omega)
section
variable {xs : List Str} {ws : List Int}
theorem wrong_bet (L : Letters xs ws) {row : List Nat} (hl : row.length = 5) (h5 : ∀ k ∈ row, k < 5) {p : Nat} : p ∈ wrongOf (cardV xs ws) row ↔ 1 ≤ p ∧ p ≤ 4 ∧ Bet (lenAt xs) (fun k => ws.getD k 0) (row.getD p 0) (row.getD (p - 1) 0) := by
  have hd : ∀ j, row.getD j 0 < 5 := fun j => by
    rw [List.getD_eq_getElem?_getD]
    by_cases hj : j < row.length
    · rw [List.getElem?_eq_getElem hj]; exact h5 _ (List.getElem_mem hj)
    · rw [List.getElem?_eq_none (by (first | lia | omega))]; decide
  unfold wrongOf
  rw [List.mem_filter]
  unfold isWrong
  rw [decide_eq_true_iff, card_lt L (hd _) (hd _)]
  constructor
  · rintro ⟨h1, h2⟩
    refine ex1 (List.mem_map.mp h1) fun q oh => ?_; refine and2 (oh) fun hq oq2 => ?_; clear oh; subst oq2
    have := List.mem_range.mp hq
    exact ⟨by (first | lia | omega), by (first | lia | omega), h2⟩
  · rintro ⟨h1, h2, h3⟩
    exact ⟨List.mem_map.mpr ⟨p - 1, List.mem_range.mpr (by (first | lia | omega)), by (first | lia | omega)⟩, h3⟩
theorem run_inv (L : Letters xs ws) (turn : Int) : ∀ n, RInv (lenAt xs) (fun k => ws.getD k 0) (runUpto (lenAt xs) (fun k => ws.getD k 0) (cardV xs ws) turn n)
  | 0 => rinv_start _ _
  | n + 1 => by
    have I := run_inv L turn n
    refine and3 (runUpto_ok (lenAt xs) (fun k => ws.getD k 0) (cardV xs ws) turn n) fun h1 h2 _ => ?_
    rw [runUpto_succ]
    unfold runStep
    split
    · exact I
    · rename_i hw
      refine and3 ((wrong_bet L h1 h2).mp (pick_mem (turn := turn) (i := n) hw)) fun p1 p4 pb => ?_
      exact rinv_move I p1 p4 pb
theorem run_count (L : Letters xs ws) (turn : Int) : ∀ n : Nat, wrongOf (cardV xs ws) (runUpto (lenAt xs) (fun k => ws.getD k 0) (cardV xs ws) turn n).row = [] ∨ (runUpto (lenAt xs) (fun k => ws.getD k 0) (cardV xs ws) turn n).c = n
  | 0 => .inr rfl
  | n + 1 => by
    rcases run_count L turn n with h | h
    · exact .inl (by rw [runUpto_stop h 1]; exact h)
    · rw [runUpto_succ]
      unfold runStep
      split
      · rename_i hw; exact .inl hw
      · right
        show 1 + _ = _
        rw [h]; (first | lia | omega)
theorem run_done (L : Letters xs ws) (turn : Int) : wrongOf (cardV xs ws) (runUpto (lenAt xs) (fun k => ws.getD k 0) (cardV xs ws) turn 11).row = [] := by
  rcases run_count L turn 11 with h | h
  · exact h
  · exfalso
    have I := run_inv L turn 11
    have h1 := inv_le (runUpto (lenAt xs) (fun k => ws.getD k 0) (cardV xs ws) turn 11).row
    rw [← I.c, h, psum_perm (fun _ _ => rfl) I.perm] at h1
    exact absurd h1 (by decide)
theorem run_sorted (L : Letters xs ws) (turn : Int) : Sorted (lenAt xs) (fun k => ws.getD k 0) (runUpto (lenAt xs) (fun k => ws.getD k 0) (cardV xs ws) turn 11).row := by
  refine and3 (runUpto_ok (lenAt xs) (fun k => ws.getD k 0) (cardV xs ws) turn 11) fun h1 h2 _ => ?_
  have hd := run_done L turn
  refine sorted_of_adj (fun k hk => ?_) fun i hi hb => ?_
  · refine ex1 (L.text (h2 k hk)) fun x oh => ?_; refine and5 oh fun _ _ hlx h7 _ => ?_; clear oh
    refine ex1 (L.weight (h2 k hk)) fun w oh => ?_; refine and4 oh fun _ hw h1 _ => ?_; clear oh
    rw [hlx, hw]
    first | ac_rfl | (simp only [Int.zero_add, Int.add_zero, Int.mul_zero, Int.sub_eq_add_neg, Int.neg_add, Int.neg_neg]; ac_rfl) | (first | lia | omega)
  · have : i + 1 ∈ wrongOf (cardV xs ws) (runUpto (lenAt xs) (fun k => ws.getD k 0) (cardV xs ws) turn 11).row := (wrong_bet L h1 h2).mpr ⟨by (first | lia | omega), by (first | lia | omega), hb⟩
    rw [hd] at this
    cases this
theorem run_told (L : Letters xs ws) (turn : Int) (f : Nat → Nat → Int) : inv f (runUpto (lenAt xs) (fun k => ws.getD k 0) (cardV xs ws) turn 11).row = psum (share (lenAt xs) (fun k => ws.getD k 0) f) [0, 1, 2, 3, 4] := by
  have I := run_inv L turn 11
  rw [inv_done f I.fair (run_sorted L turn) (I.perm.nodup_iff.mpr (by decide)), psum_perm (share_symm f) I.perm]
end
end Mine
end
end
section
open PySem PySem.W PySem.Calls PyProof.Rows PySem.Spec
set_option Elab.async false
set_option linter.unusedVariables false
set_option maxRecDepth 100000
noncomputable section
namespace Mine
section
variable {S W : Nat → Int}
noncomputable def bit (S W : Nat → Int) (b a : Nat) (v : Int) : Int := if W b * S a > W a * S b then v else 0
theorem pf_first (p : PS) (b a : Nat) : (pairStep S W b p a).first = p.first + W b * S a := by unfold pairStep; split <;> rfl
theorem pf_least (p : PS) (b a : Nat) : (pairStep S W b p a).least = p.least + (W b * S a - bit S W b a (W b * S a - W a * S b)) := by
  unfold pairStep bit
  split
  · dsimp only; (first | lia | omega)
  · dsimp only; (first | lia | omega)
theorem pf_count (p : PS) (b a : Nat) : (pairStep S W b p a).count = p.count + bit S W b a 1 := by unfold pairStep bit; split <;> simp
theorem pf_moved (p : PS) (b a : Nat) : (pairStep S W b p a).moved = p.moved + bit S W b a (W a + W b) := by unfold pairStep bit; split <;> simp
theorem pf_won (p : PS) (b a : Nat) : (pairStep S W b p a).won = p.won + bit S W b a (W b * S a) := by unfold pairStep bit; split <;> simp
theorem pf_lost (p : PS) (b a : Nat) : (pairStep S W b p a).lost = p.lost + bit S W b a (W a * S b) := by unfold pairStep bit; split <;> simp
theorem pu_five : pairsUpto S W 5 = behindStep S W (behindStep S W (behindStep S W (behindStep S W (behindStep S W ⟨0, 0, 0, 0, 0, 0, []⟩ 0) 1) 2) 3) 4 := rfl
theorem bs0 (p : PS) : behindStep S W p 0 = pairOwn S W 0 p := rfl
theorem bs1 (p : PS) : behindStep S W p 1 = pairStep S W 1 (pairOwn S W 1 p) 0 := rfl
theorem bs2 (p : PS) : behindStep S W p 2 = pairStep S W 2 (pairStep S W 2 (pairOwn S W 2 p) 0) 1 := rfl
theorem bs3 (p : PS) : behindStep S W p 3 = pairStep S W 3 (pairStep S W 3 (pairStep S W 3 (pairOwn S W 3 p) 0) 1) 2 := rfl
theorem bs4 (p : PS) : behindStep S W p 4 = pairStep S W 4 (pairStep S W 4 (pairStep S W 4 (pairStep S W 4 (pairOwn S W 4 p) 0) 1) 2) 3 := rfl
theorem share_lt (f : Nat → Nat → Int) {x y : Nat} (h : x < y) : share S W f x y = bit S W y x (f x y) := by
  unfold share bit
  rw [if_neg (by (first | lia | omega)), if_pos h]
theorem psum_five (f : Nat → Nat → Int) : psum (share S W f) [0, 1, 2, 3, 4] = bit S W 1 0 (f 0 1) + bit S W 2 0 (f 0 2) + bit S W 3 0 (f 0 3) + bit S W 4 0 (f 0 4) + bit S W 2 1 (f 1 2) + bit S W 3 1 (f 1 3) + bit S W 4 1 (f 1 4) + bit S W 3 2 (f 2 3) + bit S W 4 2 (f 2 4) + bit S W 4 3 (f 3 4) := by
  simp only [psum, List.map_cons, List.map_nil, List.sum_cons, List.sum_nil]
  rw [share_lt f (show 0 < 1 by decide), share_lt f (show 0 < 2 by decide), share_lt f (show 0 < 3 by decide), share_lt f (show 0 < 4 by decide), share_lt f (show 1 < 2 by decide), share_lt f (show 1 < 3 by decide), share_lt f (show 1 < 4 by decide), share_lt f (show 2 < 3 by decide), share_lt f (show 2 < 4 by decide), share_lt f (show 3 < 4 by decide)]
  first | ac_rfl | (simp only [Int.zero_add, Int.add_zero, Int.mul_zero, Int.sub_eq_add_neg, Int.neg_add, Int.neg_neg]; ac_rfl) | (first | lia | omega)
theorem pu_count : (pairsUpto S W 5).count = psum (share S W fun _ _ => 1) [0, 1, 2, 3, 4] := by
  rw [psum_five, pu_five, bs0, bs1, bs2, bs3, bs4]
  simp only [pf_count, pairOwn]
  first | ac_rfl | (simp only [Int.zero_add, Int.add_zero, Int.mul_zero, Int.sub_eq_add_neg, Int.neg_add, Int.neg_neg]; ac_rfl) | (first | lia | omega)
theorem pu_moved : (pairsUpto S W 5).moved = psum (share S W fun a b => W a + W b) [0, 1, 2, 3, 4] := by
  rw [psum_five, pu_five, bs0, bs1, bs2, bs3, bs4]
  simp only [pf_moved, pairOwn]
  first | ac_rfl | (simp only [Int.zero_add, Int.add_zero, Int.mul_zero, Int.sub_eq_add_neg, Int.neg_add, Int.neg_neg]; ac_rfl) | (first | lia | omega)
theorem pu_won : (pairsUpto S W 5).won = psum (share S W fun a b => W b * S a) [0, 1, 2, 3, 4] := by
  rw [psum_five, pu_five, bs0, bs1, bs2, bs3, bs4]
  simp only [pf_won, pairOwn]
  first | ac_rfl | (simp only [Int.zero_add, Int.add_zero, Int.mul_zero, Int.sub_eq_add_neg, Int.neg_add, Int.neg_neg]; ac_rfl) | (first | lia | omega)
theorem pu_lost : (pairsUpto S W 5).lost = psum (share S W fun a b => W a * S b) [0, 1, 2, 3, 4] := by
  rw [psum_five, pu_five, bs0, bs1, bs2, bs3, bs4]
  simp only [pf_lost, pairOwn]
  first | ac_rfl | (simp only [Int.zero_add, Int.add_zero, Int.mul_zero, Int.sub_eq_add_neg, Int.neg_add, Int.neg_neg]; ac_rfl) | (first | lia | omega)
theorem fw_five (q : Int) : fw S W q [0, 1, 2, 3, 4] = W 0 * q + W 0 * S 0 + (W 1 * q + W 1 * S 0 + W 1 * S 1) + (W 2 * q + W 2 * S 0 + W 2 * S 1 + W 2 * S 2) + (W 3 * q + W 3 * S 0 + W 3 * S 1 + W 3 * S 2 + W 3 * S 3) + (W 4 * q + W 4 * S 0 + W 4 * S 1 + W 4 * S 2 + W 4 * S 3 + W 4 * S 4) := by
  simp only [fw, Int.mul_add]
  first | ac_rfl | (simp only [Int.zero_add, Int.add_zero, Int.mul_zero, Int.sub_eq_add_neg, Int.neg_add, Int.neg_neg]; ac_rfl) | (first | lia | omega)
theorem pu_first : (pairsUpto S W 5).first = fw S W 0 [0, 1, 2, 3, 4] := by
  rw [fw_five, pu_five, bs0, bs1, bs2, bs3, bs4]
  simp only [pf_first, pairOwn]
  first | ac_rfl | (simp only [Int.zero_add, Int.add_zero, Int.mul_zero, Int.sub_eq_add_neg, Int.neg_add, Int.neg_neg]; ac_rfl) | (first | lia | omega)
theorem pu_least : (pairsUpto S W 5).least = (pairsUpto S W 5).first - psum (share S W (gainF S W)) [0, 1, 2, 3, 4] := by
  rw [psum_five, pu_five, bs0, bs1, bs2, bs3, bs4]
  simp only [pf_least, pf_first, pairOwn, gainF]
  first | ac_rfl | (simp only [Int.zero_add, Int.add_zero, Int.mul_zero, Int.sub_eq_add_neg, Int.neg_add, Int.neg_neg]; ac_rfl) | (first | lia | omega)

structure GInv (S W : Nat → Int) (c v : Nat → Int) (g : List (Int × Int)) : Prop where
  keys : Keys g
  nat : ∀ j, getI g j ≠ none → ∃ k : Nat, j = k
  cn : ∀ k, 0 ≤ c k ∧ (c k = 0 → v k = 0)
  get : ∀ k : Nat, getI g k = if c k = 0 then none else some (v k)
theorem ginv_step {c v : Nat → Int} {p : PS} (I : GInv S W c v p.gains) (b a : Nat) : GInv S W (fun k => c k + bit S W b a (cntF k a b)) (fun k => v k + bit S W b a (valF S W k a b)) (pairStep S W b p a).gains := by
  unfold pairStep bit
  by_cases h : W b * S a > W a * S b
  · simp only [if_pos h]
    refine { keys := sto_keys I.keys _ _, nat := fun j hj => ?_, cn := fun k => ?_, get := fun k => ?_ }
    · rw [getI_sto] at hj
      by_cases hb : (b : Int) = j
      · exact ⟨b, hb.symm⟩
      · rw [if_neg hb] at hj; exact I.nat j hj
    · obtain ⟨c1, c2⟩ := I.cn k
      by_cases hb : b = k
      · have e1 : cntF k a b = 1 := if_pos hb
        rw [e1]; exact ⟨by (first | lia | omega), fun q => by (first | lia | omega)⟩
      · have e1 : cntF k a b = 0 := if_neg hb
        have e2 : valF S W k a b = 0 := if_neg hb
        rw [e1, e2]; exact ⟨by (first | lia | omega), fun q => by rw [c2 (by (first | lia | omega))]; rfl⟩
    · obtain ⟨c1, c2⟩ := I.cn k
      rw [getI_sto]
      by_cases hb : b = k
      · subst hb
        have e1 : cntF b a b = 1 := if_pos rfl
        have e2 : valF S W b a b = gainF S W a b := if_pos rfl
        rw [if_pos rfl, e1, e2, if_neg (show c b + 1 ≠ 0 by (first | lia | omega)), I.get]
        unfold gainF
        by_cases hz : c b = 0
        · rw [if_pos hz, c2 hz]
          show some (0 + W b * S a - W a * S b) = some (0 + (W b * S a - W a * S b))
          congr 1; (first | lia | omega)
        · rw [if_neg hz]
          show some (v b + W b * S a - W a * S b) = some (v b + (W b * S a - W a * S b))
          congr 1; (first | lia | omega)
      · have e1 : cntF k a b = 0 := if_neg hb
        have e2 : valF S W k a b = 0 := if_neg hb
        rw [if_neg (fun q => hb (by exact_mod_cast q)), e1, e2, Int.add_zero, Int.add_zero, I.get]
  · simp only [if_neg h, Int.add_zero]
    exact I
theorem ginv_own {c v : Nat → Int} {p : PS} (I : GInv S W c v p.gains) (b : Nat) : GInv S W c v (pairOwn S W b p).gains := I
theorem pu_gains : GInv S W (fun k => psum (share S W (cntF k)) [0, 1, 2, 3, 4]) (fun k => psum (share S W (valF S W k)) [0, 1, 2, 3, 4]) (pairsUpto S W 5).gains := by
  have I0 : GInv S W (fun _ => 0) (fun _ => 0) (PS.mk 0 0 0 0 0 0 []).gains := { keys := by unfold Keys; simp, nat := fun j h => absurd rfl h, cn := fun _ => ⟨Int.le_refl _, fun _ => rfl⟩, get := fun _ => rfl }
  have I1 := ginv_step (ginv_own (ginv_own I0 0) 1) 1 0
  have I2 := ginv_step (ginv_step (ginv_own I1 2) 2 0) 2 1
  have I3 := ginv_step (ginv_step (ginv_step (ginv_own I2 3) 3 0) 3 1) 3 2
  have I4 := ginv_step (ginv_step (ginv_step (ginv_step (ginv_own I3 4) 4 0) 4 1) 4 2) 4 3
  rw [pu_five, bs0, bs1, bs2, bs3, bs4]
  have e : ∀ f : Nat → Nat → Nat → Int, (fun k => psum (share S W (f k)) [0, 1, 2, 3, 4]) = fun k => 0 + bit S W 1 0 (f k 0 1) + bit S W 2 0 (f k 0 2) + bit S W 2 1 (f k 1 2) + bit S W 3 0 (f k 0 3) + bit S W 3 1 (f k 1 3) + bit S W 3 2 (f k 2 3) + bit S W 4 0 (f k 0 4) + bit S W 4 1 (f k 1 4) + bit S W 4 2 (f k 2 4) + bit S W 4 3 (f k 3 4) := fun f => by
    funext k; rw [psum_five]; (first | lia | omega)
  rw [e cntF, e (valF S W)]
  exact I4
theorem keys_perm {g g' : List (Int × Int)} (h : Keys g) (h' : Keys g') (e : ∀ j, getI g j = getI g' j) : g.length = g'.length := by
  have : (g.map (·.1)).Perm (g'.map (·.1)) := (List.perm_ext_iff_of_nodup h h').mpr fun k => by rw [mem_keys, mem_keys, e]
  have := this.length_eq
  simpa using this
end
theorem book_eq {xs : List Str} {ws : List Int} (L : Letters xs ws) (turn : Int) {R : RS} {p : PS} (hR : runUpto (lenAt xs) (fun k => ws.getD k 0) (cardV xs ws) turn 11 = R) (hp : pairsUpto (lenAt xs) (fun k => ws.getD k 0) 5 = p) :
    R.c = p.count ∧ R.m = p.moved ∧ R.wo = p.won ∧ R.lo = p.lost ∧ (∀ j, getI R.g j = getI p.gains j) ∧ Keys R.g ∧ Keys p.gains ∧ R.g.length = p.gains.length ∧ (R.g.map (·.2)).sum = p.first - p.least ∧ fw (lenAt xs) (fun k => ws.getD k 0) 0 R.row = p.least := by
  have I := run_inv L turn 11
  have T := fun f => run_told L turn f
  rw [hR] at I
  rw [hR] at T
  have G := pu_gains (S := lenAt xs) (W := fun k => ws.getD k 0)
  have hl := pu_least (S := lenAt xs) (W := fun k => ws.getD k 0)
  have hf := pu_first (S := lenAt xs) (W := fun k => ws.getD k 0)
  have g1 := pu_count (S := lenAt xs) (W := fun k => ws.getD k 0)
  have g2 := pu_moved (S := lenAt xs) (W := fun k => ws.getD k 0)
  have g3 := pu_won (S := lenAt xs) (W := fun k => ws.getD k 0)
  have g4 := pu_lost (S := lenAt xs) (W := fun k => ws.getD k 0)
  rw [hp] at G hl hf g1 g2 g3 g4
  have hget : ∀ j, getI R.g j = getI p.gains j := fun j => by
    by_cases hj : ∃ k : Nat, j = k
    · obtain ⟨k, rfl⟩ := hj
      rw [I.get, G.get, T, T]
    · have h1 : getI R.g j = none := by
        cases h : getI R.g j with
        | none => rfl
        | some v => exact absurd (I.nat j (by rw [h]; simp)) hj
      have h2 : getI p.gains j = none := by
        cases h : getI p.gains j with
        | none => rfl
        | some v => exact absurd (G.nat j (by rw [h]; simp)) hj
      rw [h1, h2]
  refine ⟨?_, ?_, ?_, ?_, hget, I.keys, G.keys, keys_perm I.keys G.keys hget, ?_, ?_⟩
  · rw [I.c, T, g1]
  · rw [I.m, T, g2]
  · rw [I.wo, T, g3]
  · rw [I.lo, T, g4]
  · rw [I.sum, T]; (first | lia | omega)
  · rw [I.fw, T]; (first | lia | omega)
end Mine
end
end
section
open PySem PySem.W PySem.Calls PyProof.Rows PySem.Spec
set_option Elab.async false
set_option linter.unusedVariables false
set_option maxRecDepth 100000
noncomputable section
namespace Mine
/-! The least by masks -/
section
variable (S W : Nat → Int)
noncomputable def minP (x y : Nat) : Int := min (W x * S y) (W y * S x)
noncomputable def hal (l : List Nat) : Int := (l.map fun k => W k * S k).sum + psum (minP S W) l
variable {S W}
theorem minP_symm (x y : Nat) : minP S W x y = minP S W y x := by unfold minP; (first | lia | omega)
theorem hal_perm {l l' : List Nat} (h : l.Perm l') : hal S W l = hal S W l' := by
  unfold hal
  rw [perm_sum (h.map _), psum_perm minP_symm h]
theorem hal_cons (k : Nat) (l : List Nat) : hal S W (k :: l) = hal S W l + W k * S k + (l.map (minP S W k)).sum := by
  unfold hal
  simp only [psum, List.map_cons, List.sum_cons]
  first | ac_rfl | (simp only [Int.zero_add, Int.add_zero, Int.mul_zero, Int.sub_eq_add_neg, Int.neg_add, Int.neg_neg]; ac_rfl) | (first | lia | omega)
theorem min_sum_le (k : Nat) : ∀ l : List Nat, (l.map (minP S W k)).sum ≤ W k * (l.map S).sum
  | [] => by simp
  | y :: l => by
    have := min_sum_le k l
    simp only [List.map_cons, List.sum_cons, Int.mul_add]
    have : minP S W k y ≤ W k * S y := by unfold minP; (first | lia | omega)
    first | ac_rfl | (simp only [Int.zero_add, Int.add_zero, Int.mul_zero, Int.sub_eq_add_neg, Int.neg_add, Int.neg_neg]; ac_rfl) | (first | lia | omega)
theorem min_sum_eq (k : Nat) : ∀ l : List Nat, (∀ j ∈ l, W k * S j ≤ W j * S k) → (l.map (minP S W k)).sum = W k * (l.map S).sum
  | [], _ => by simp
  | y :: l, h => by
    have ih := min_sum_eq k l fun j hj => h j (.tail _ hj)
    have hy := h y (.head _)
    simp only [List.map_cons, List.sum_cons, Int.mul_add]
    have : minP S W k y = W k * S y := by unfold minP; (first | lia | omega)
    first | ac_rfl | (simp only [Int.zero_add, Int.add_zero, Int.mul_zero, Int.sub_eq_add_neg, Int.neg_add, Int.neg_neg]; ac_rfl) | (first | lia | omega)
theorem last_exists : ∀ {l : List Nat}, l ≠ [] → (∀ k ∈ l, 0 < S k ∧ 0 < W k) → ∃ k ∈ l, ∀ j ∈ l, W k * S j ≤ W j * S k
  | [x], _, _ => ⟨x, .head _, fun j hj => by rw [List.mem_singleton.mp hj]; exact Int.le_refl _⟩
  | x :: y :: l, _, hp => by
    refine ex1 (last_exists (l := y :: l) (by simp) fun k hk => hp k (.tail _ hk)) fun k oh => ?_; refine and2 (oh) fun hk h => ?_; clear oh
    by_cases hx : W k * S x ≤ W x * S k
    · exact ⟨k, .tail _ hk, fun j hj => by
        rcases List.mem_cons.mp hj with rfl | hj
        · exact hx
        · exact h j hj⟩
    · refine ⟨x, .head _, fun j hj => ?_⟩
      rcases List.mem_cons.mp hj with rfl | hj
      · exact Int.le_refl _
      · have hj' := h j hj
        have n1 : ¬ Bet S W k j := by unfold Bet; (first | lia | omega)
        have n2 : ¬ Bet S W x k := by unfold Bet; (first | lia | omega)
        have := bet_trans (hp j (.tail _ hj)).1 (hp k (.tail _ hk)).1 (hp x (.head _)).1 (hp k (.tail _ hk)).2 n1 n2
        unfold Bet at this
        first | ac_rfl | (simp only [Int.zero_add, Int.add_zero, Int.mul_zero, Int.sub_eq_add_neg, Int.neg_add, Int.neg_neg]; ac_rfl) | (first | lia | omega)
theorem inside_erase : ∀ c : Fin 32, ∀ k ∈ insideOf c.val, (k :: insideOf (c.val - 2 ^ k)).Perm (insideOf c.val) ∧ c.val - 2 ^ k < c.val := by decide
theorem least_hal (hp : ∀ k, k < 5 → 0 < S k ∧ 0 < W k) : ∀ n, n < 32 → ∀ c, c ≤ n → (leastUpto S W n).getD c 0 = hal S W (insideOf c)
  | 0, _, c, hc => by
    have : c = 0 := by (first | lia | omega)
    subst this
    rfl
  | n + 1, hn, c, hc => by
    have ih := least_hal hp n (by (first | lia | omega))
    have hl := leastUpto_len S W n
    rw [leastUpto_succ]
    unfold leastStep
    rcases Nat.lt_or_ge c (n + 1) with h | h
    · have e : ((leastUpto S W n) ++ [((insideOf (n + 1)).map (candL S W (leastUpto S W n) (n + 1))).min?.getD 0]).getD c 0 = (leastUpto S W n).getD c 0 := by
        rw [List.getD_eq_getElem?_getD, List.getElem?_append_left (by (first | lia | omega)), List.getD_eq_getElem?_getD]
      rw [e]; exact ih c (by (first | lia | omega))
    · have : c = n + 1 := by (first | lia | omega)
      subst this
      have e : ∀ v : Int, ((leastUpto S W n) ++ [v]).getD (n + 1) 0 = v := fun v => by
        rw [List.getD_eq_getElem?_getD, List.getElem?_append_right (by (first | lia | omega)), hl]; simp
      rw [e]
      have hE := inside_erase ⟨n + 1, hn⟩
      dsimp only at hE
      have hcand : ∀ k ∈ insideOf (n + 1), candL S W (leastUpto S W n) (n + 1) k = hal S W (insideOf (n + 1 - 2 ^ k)) + W k * S k + W k * ((insideOf (n + 1 - 2 ^ k)).map S).sum := fun k hk => by
        refine and2 (hE k hk) fun h1 h2 => ?_
        unfold candL wholeOf
        rw [ih _ (by (first | lia | omega)), perm_sum (h1.symm.map S), List.map_cons, List.sum_cons, Int.mul_add]
        first | ac_rfl | (simp only [Int.zero_add, Int.add_zero, Int.mul_zero, Int.sub_eq_add_neg, Int.neg_add, Int.neg_neg]; ac_rfl) | (first | lia | omega)
      have hne : insideOf (n + 1) ≠ [] := fun q => by
        have := inside_ne (c := n + 1) (by (first | lia | omega)) hn
        rw [q] at this; cases this
      refine ex1 (last_exists hne fun k hk => hp k (inside_lt hk).1) fun k oh => ?_; refine and2 (oh) fun hk hlast => ?_; clear oh
      refine isMin_min? ⟨List.mem_map.mpr ⟨k, hk, ?_⟩, fun v hv => ?_⟩
      · refine and2 (hE k hk) fun h1 _ => ?_
        rw [hcand k hk, ← hal_perm h1, hal_cons, min_sum_eq k _ fun j hj => hlast j (h1.subset (.tail _ hj))]
      · refine ex1 (List.mem_map.mp hv) fun j oh => ?_; refine and2 (oh) fun hj oq2 => ?_; clear oh; subst oq2
        refine and2 (hE j hj) fun h1 _ => ?_
        rw [hcand j hj, ← hal_perm h1, hal_cons]
        have := min_sum_le (S := S) (W := W) j (insideOf (n + 1 - 2 ^ j))
        first | ac_rfl | (simp only [Int.zero_add, Int.add_zero, Int.mul_zero, Int.sub_eq_add_neg, Int.neg_add, Int.neg_neg]; ac_rfl) | (first | lia | omega)
theorem pu_hal : (pairsUpto S W 5).least = hal S W [0, 1, 2, 3, 4] := by
  have e : ∀ a b, minP S W a b = W b * S a - bit S W b a (W b * S a - W a * S b) := fun a b => by
    unfold minP bit
    split <;> (first | lia | omega)
  rw [pu_five, bs0, bs1, bs2, bs3, bs4]
  unfold hal
  simp only [psum, List.map_cons, List.map_nil, List.sum_cons, List.sum_nil, pf_least, pairOwn, e]
  first | ac_rfl | (simp only [Int.zero_add, Int.add_zero, Int.mul_zero, Int.sub_eq_add_neg, Int.neg_add, Int.neg_neg]; ac_rfl) | (first | lia | omega)
theorem least_pairs (hp : ∀ k, k < 5 → 0 < S k ∧ 0 < W k) : (leastUpto S W 31).getD 31 0 = (pairsUpto S W 5).least := by
  rw [least_hal hp 31 (by decide) 31 (by decide), pu_hal]
  rfl

/-! The places -/
noncomputable def bef (S W : Nat → Int) (k j : Nat) : Bool := decide (W j * S k > W k * S j) || (decide (W j * S k = W k * S j) && decide (j < k))
noncomputable def rankOf (S W : Nat → Int) (k : Nat) : Int := (((List.range 5).filter fun j => decide (W j * S k > W k * S j)).length : Int) + (((List.range k).filter fun j => decide (W j * S k = W k * S j)).length : Int)
theorem countP_or (p q : Nat → Bool) : ∀ l : List Nat, (∀ x ∈ l, ¬ (p x = true ∧ q x = true)) → l.countP (fun x => p x || q x) = l.countP p + l.countP q
  | [], _ => rfl
  | x :: l, h => by
    have ih := countP_or p q l fun y hy => h y (.tail _ hy)
    have hx := h x (.head _)
    rw [List.countP_cons, List.countP_cons, List.countP_cons, ih]
    cases hp : p x <;> cases hq : q x <;> simp [hp, hq] at hx ⊢ <;> (first | lia | omega)
theorem countP_below (b : Nat → Bool) (k : Nat) : ∀ n, (List.range n).countP (fun j => b j && decide (j < k)) = (List.range (min n k)).countP b
  | 0 => by simp
  | n + 1 => by
    rw [List.range_succ, List.countP_append, countP_below b k n]
    rcases Nat.lt_or_ge n k with h | h
    · rw [show min (n + 1) k = n + 1 by (first | lia | omega), show min n k = n by (first | lia | omega), List.range_succ, List.countP_append]
      simp [h, List.countP_cons]
    · rw [show min (n + 1) k = k by (first | lia | omega), show min n k = k by (first | lia | omega)]
      simp [List.countP_cons, show ¬ n < k by (first | lia | omega)]
theorem rank_countP {k : Nat} (h : k < 5) : rankOf S W k = (([0, 1, 2, 3, 4] : List Nat).countP (bef S W k) : Int) := by
  unfold rankOf
  rw [← List.countP_eq_length_filter, ← List.countP_eq_length_filter]
  have e : List.countP (bef S W k) [0, 1, 2, 3, 4] = (List.range 5).countP (fun j => decide (W j * S k > W k * S j)) + (List.range 5).countP (fun j => decide (W j * S k = W k * S j) && decide (j < k)) := by
    refine countP_or _ _ _ fun x _ q => ?_
    simp only [Bool.and_eq_true, decide_eq_true_eq] at q
    first | ac_rfl | (simp only [Int.zero_add, Int.add_zero, Int.mul_zero, Int.sub_eq_add_neg, Int.neg_add, Int.neg_neg]; ac_rfl) | (first | lia | omega)
  rw [e, countP_below, show min 5 k = k by (first | lia | omega)]
  push_cast
  rfl
noncomputable def Bef2 (S W : Nat → Int) (x y : Nat) : Prop := bef S W y x = true ∧ bef S W x y = false
theorem ranks {row : List Nat} (hperm : row.Perm [0, 1, 2, 3, 4]) (hb : row.Pairwise (Bef2 S W)) : ∀ (r l : List Nat), row = l ++ r → r.map (rankOf S W) = (List.range' l.length r.length).map fun (i : Nat) => (i : Int)
  | [], l, _ => rfl
  | k :: r, l, e => by
    have ih := ranks hperm hb r (l ++ [k]) (by rw [e, List.append_assoc]; rfl)
    rw [List.map_cons, ih, show (k :: r).length = r.length + 1 from rfl, List.range'_succ, List.map_cons, show (l ++ [k]).length = l.length + 1 by simp]
    congr 1
    have hk : k < 5 := by
      have : k ∈ ([0, 1, 2, 3, 4] : List Nat) := hperm.subset (by rw [e]; simp)
      simp at this; (first | lia | omega)
    rw [rank_countP hk, ← hperm.countP_eq, e, List.countP_append, List.countP_cons]
    rw [e, List.pairwise_append] at hb
    refine and3 (hb) fun h1 h2 h3 => ?_; try clear hb
    have h4 := (List.pairwise_cons.mp h2).1
    rw [List.countP_eq_length.mpr (fun a ha => (h3 a ha k (.head _)).1), List.countP_eq_zero.mpr (fun a ha => by rw [(h4 a ha).2]; simp)]
    have : bef S W k k = false := by
      unfold bef
      simp
    rw [this]
    simp
theorem rank_row {row : List Nat} (hperm : row.Perm [0, 1, 2, 3, 4]) (hf : Fair S W row) (hs : Sorted S W row) : row.map (rankOf S W) = [0, 1, 2, 3, 4] := by
  have hd : row.Nodup := hperm.nodup_iff.mpr (by decide)
  have hb : row.Pairwise (Bef2 S W) := by
    unfold Fair at hf
    unfold Sorted at hs
    unfold List.Nodup at hd
    refine ((hf.and hs).and hd).imp fun {x y} h => ?_
    refine and2 (h) fun oq0 h3 => ?_; try clear h; obtain ⟨h1, h2⟩ := oq0
    unfold Bef2 bef
    unfold Bet at h1 h2
    rcases Nat.lt_or_ge y x with h | h
    · have := h1 h
      constructor
      · simp only [Bool.or_eq_true, Bool.and_eq_true, decide_eq_true_eq]; left; (first | lia | omega)
      · simp only [Bool.or_eq_false_iff, Bool.and_eq_false_iff, decide_eq_false_iff_not]; (first | lia | omega)
    · have hlt : x < y := by (first | lia | omega)
      constructor
      · simp only [Bool.or_eq_true, Bool.and_eq_true, decide_eq_true_eq]; (first | lia | omega)
      · simp only [Bool.or_eq_false_iff, Bool.and_eq_false_iff, decide_eq_false_iff_not]; (first | lia | omega)
  have := ranks hperm hb row [] rfl
  rw [this, hperm.length_eq]
  rfl

/-! The waitings -/
theorem fwd_fw (xs : List Str) (ws : List Int) : ∀ (ns : List Nat) (q : Int), fwd q (pairsOf xs ws ns) = fw (lenAt xs) (fun k => ws.getD k 0) q ns
  | [], q => rfl
  | k :: ns, q => by
    show ws.getD k 0 * (q + lenAt xs k) + fwd (q + lenAt xs k) (pairsOf xs ws ns) = _
    rw [fwd_fw xs ws ns]; rfl
theorem fwd_shift : ∀ (l : List (Int × Int)) (q p : Int), fwd (q + p) l = fwd p l + q * sumW l
  | [], q, p => by simp [fwd, sumW]
  | (w, s) :: l, q, p => by
    have e : sumW ((w, s) :: l) = w + sumW l := by simp [sumW]
    rw [fwd, fwd, Int.add_assoc, fwd_shift l, e, Int.mul_add, Int.mul_add q, Int.mul_comm q w]
    first | ac_rfl | (simp only [Int.zero_add, Int.add_zero, Int.mul_zero, Int.sub_eq_add_neg, Int.neg_add, Int.neg_neg]; ac_rfl) | (first | lia | omega)
theorem fwd_rev : ∀ (l : List (Int × Int)), fwd 0 (swapP l.reverse) = fwd 0 l
  | [] => rfl
  | (w, s) :: l => by
    have e1 : swapP ((w, s) :: l).reverse = swapP l.reverse ++ [(s, w)] := by simp [swapP]
    have e2 : fwd 0 ((w, s) :: l) = w * (0 + s) + fwd (s + 0) l := by rw [fwd, Int.add_comm 0 s, Int.add_zero]
    rw [e1, fwd_snoc, fwd_rev l, sumS_swap, sumW_rev, e2, fwd_shift, Int.mul_add, Int.mul_add, Int.mul_add, Int.mul_comm s w]
    first | ac_rfl | (simp only [Int.zero_add, Int.add_zero, Int.mul_zero, Int.sub_eq_add_neg, Int.neg_add, Int.neg_neg]; ac_rfl) | (first | lia | omega)
theorem sumW_row {xs : List Str} {ws : List Int} (hw : ws.length = 5) {row : List Nat} (hperm : row.Perm [0, 1, 2, 3, 4]) : sumW (pairsOf xs ws row) = ws.sum := by
  have e : sumW (pairsOf xs ws row) = (row.map fun k => ws.getD k 0).sum := by unfold sumW pairsOf; rw [List.map_map]; rfl
  rw [e, perm_sum (hperm.map _)]
  refine ex5 (list5 hw) fun a b c d f oq5 => ?_; subst oq5
  rfl
end
end Mine
end
end
section
open PySem PySem.W PySem.Calls PySem.Spec
set_option Elab.async false
set_option linter.unusedVariables false
set_option maxRecDepth 100000
noncomputable section
namespace Mine
open PySem.Sre
/-! The matching machine, run -/
noncomputable def stepN : Nat → M → M
  | 0, m => m
  | n + 1, m => stepN n m.step
theorem stepN_add : ∀ (a b : Nat) (m : M), stepN (a + b) m = stepN b (stepN a m)
  | 0, b, m => by rw [Nat.zero_add]; rfl
  | a + 1, b, m => by rw [Nat.succ_add]; exact stepN_add a b m.step
theorem step_done {m : M} (h : m.outcome.isSome = true) : m.step = m := by unfold M.step; rw [if_pos h]
theorem stepN_done {m : M} (h : m.outcome.isSome = true) : ∀ n, stepN n m = m
  | 0 => rfl
  | n + 1 => by unfold stepN; rw [step_done h]; exact stepN_done h n
theorem runFor_stepN : ∀ (n : Nat) (m : M), m.runFor n = stepN n m
  | 0, _ => rfl
  | n + 1, m => by
    unfold M.runFor
    split
    · rename_i h; rw [stepN_done h]
    · exact runFor_stepN n m.step
noncomputable def Ends (k : Nat) (m r : M) : Prop := r.outcome.isSome = true ∧ ∃ j, j ≤ k ∧ stepN j m = r
theorem Ends.more {k j : Nat} {m m' r : M} (h : stepN j m = m') (e : Ends k m' r) : Ends (j + k) m r := by
  obtain ⟨h1, i, h2, h3⟩ := e
  exact ⟨h1, j + i, by (first | lia | omega), by rw [stepN_add, h, h3]⟩
theorem Ends.le {k j : Nat} {m r : M} (e : Ends k m r) (h : k ≤ j) : Ends j m r := by
  obtain ⟨h1, i, h2, h3⟩ := e
  exact ⟨h1, i, by (first | lia | omega), h3⟩
theorem Ends.at {k n : Nat} {m r : M} (e : Ends k m r) (h : k ≤ n) : stepN n m = r := by
  obtain ⟨h1, i, h2, h3⟩ := e
  obtain ⟨d, rfl⟩ : ∃ d, n = i + d := ⟨n - i, by (first | lia | omega)⟩
  rw [stepN_add, h3, stepN_done h1]
theorem Ends.back {k j : Nat} {m r : M} (e : Ends k m r) : Ends (k - j) (stepN j m) r := by
  obtain ⟨h1, i, h2, h3⟩ := e
  rcases Nat.lt_or_ge i j with h | h
  · obtain ⟨d, rfl⟩ : ∃ d, j = i + d := ⟨j - i, by (first | lia | omega)⟩
    exact ⟨h1, 0, Nat.zero_le _, by rw [stepN_add, h3, stepN_done h1]; rfl⟩
  · obtain ⟨d, rfl⟩ : ∃ d, i = j + d := ⟨i - j, by (first | lia | omega)⟩
    exact ⟨h1, d, by (first | lia | omega), by rw [← stepN_add, h3]⟩

/-! The first code: a dot at a line's head -/
noncomputable def code1 : Array Nat := #[14, 4, 0, 1, 1, 6, 1, 16, 46, 1]
noncomputable def at1 (x : Array Nat) (s p h pc : Nat) (b : Bool) (sn : Seen) : M :=
  { code := code1, text := x, lim := x.size, start := s, lastStart := x.size, pc := pc, pos := p, handed := h, outermost := b, marks := #[], frames := [{ wait := .nextStart, pc := 5, pos := s, outermost := b }], weight := 1, seen := sn }
noncomputable def said1 (x : Array Nat) (s p h pc : Nat) (b a : Bool) (sn : Seen) : M :=
  { code := code1, text := x, lim := x.size, start := s, lastStart := x.size, pc := pc, pos := p, handed := h, outermost := b, marks := #[], frames := [{ wait := .nextStart, pc := 5, pos := s, outermost := b }], weight := 1, seen := sn, answer := some a }
noncomputable def last1 (x : Array Nat) (s h : Nat) (b a : Bool) (sn : Seen) (o : Option Sre.Outcome) : M :=
  { code := code1, text := x, lim := x.size, start := s, lastStart := x.size, pc := 5, pos := s, handed := h, outermost := b, marks := #[], frames := [], weight := 0, seen := sn, answer := some a, outcome := o }
noncomputable def bol (x : Array Nat) (s : Nat) : Bool := s == 0 || x.getD (s - 1) 0 == 10
noncomputable def hit1 (x : Array Nat) (s : Nat) : Bool := bol x s && (decide (s < x.size) && x.getD s 0 == 46)
theorem step1_at (x : Array Nat) (s h : Nat) (b : Bool) (sn : Seen) : (at1 x s s h 5 b sn).step = if bol x s = true then at1 x s s h 7 b ((sn.add 6).add 44) else said1 x s s h 5 b false ((sn.add 6).add 44) := rfl
theorem step1_lit (x : Array Nat) (s h : Nat) (b : Bool) (sn : Seen) : (at1 x s s h 7 b sn).step = if s ≥ x.size then said1 x s s h 7 b false (sn.add 16) else if (x.getD s 0 == 46) = true then at1 x s (s + 1) h 9 b (sn.add 16) else said1 x s s h 7 b false (sn.add 16) := by
  have e : (at1 x s s h 7 b sn).step = if s ≥ x.size then said1 x s s h 7 b false (sn.add 16) else match accepts code1 7 (x.getD s 0) (sn.add 16) with
      | .error why => (at1 x s s h 7 b (sn.add 16)).stick why
      | .ok (false, seen) => said1 x s s h 7 b false seen
      | .ok (true, seen) => at1 x s (s + 1) h 9 b seen := rfl
  rw [e]
  by_cases hs : s ≥ x.size
  · rw [if_pos hs, if_pos hs]
  · rw [if_neg hs, if_neg hs, show accepts code1 7 (x.getD s 0) (sn.add 16) = .ok (x.getD s 0 == 46, sn.add 16) from rfl]
    cases x.getD s 0 == 46 <;> rfl
theorem step1_ok (x : Array Nat) (s h : Nat) (b : Bool) (sn : Seen) : stepN 3 (at1 x s (s + 1) h 9 b sn) = last1 x s (s + 1) b true (sn.add 1) (some .matched) := by
  cases b <;> rfl
theorem step1_no (x : Array Nat) (s p h pc : Nat) (b : Bool) (sn : Seen) (hs : s < x.size) : (said1 x s p h pc b false sn).step = at1 x (s + 1) (s + 1) (s + 1) 5 false sn := by
  have : (said1 x s p h pc b false sn).step = if s < x.size then at1 x (s + 1) (s + 1) (s + 1) 5 false sn else last1 x s h b false sn none := rfl
  rw [this, if_pos hs]
theorem step1_end (x : Array Nat) (p h pc : Nat) (b : Bool) (sn : Seen) : stepN 2 (said1 x x.size p h pc b false sn) = last1 x x.size h b false sn (some .failed) := by
  have : (said1 x x.size p h pc b false sn).step = if x.size < x.size then at1 x (x.size + 1) (x.size + 1) (x.size + 1) 5 false sn else last1 x x.size h b false sn none := rfl
  show M.step (M.step _) = _
  rw [this, if_neg (Nat.lt_irrefl _)]
  rfl
theorem try1 (x : Array Nat) (s h : Nat) (b : Bool) (sn : Seen) : (hit1 x s = true → ∃ sn', Ends 5 (at1 x s s h 5 b sn) (last1 x s (s + 1) b true sn' (some .matched))) ∧ (hit1 x s = false → ∃ j p pc sn', j ≤ 2 ∧ stepN j (at1 x s s h 5 b sn) = said1 x s p h pc b false sn') := by
  unfold hit1
  have h1 := step1_at x s h b sn
  cases hb : bol x s with
  | false =>
    rw [hb] at h1
    exact ⟨fun q => by simp at q, fun _ => ⟨1, s, 5, _, by decide, h1⟩⟩
  | true =>
    rw [hb, if_pos rfl] at h1
    have h2 := step1_lit x s h b ((sn.add 6).add 44)
    by_cases hs : s < x.size
    · rw [if_neg (show ¬ s ≥ x.size by (first | lia | omega))] at h2
      cases hc : x.getD s 0 == 46 with
      | true =>
        rw [hc, if_pos rfl] at h2
        refine ⟨fun _ => ⟨((((sn.add 6).add 44).add 16).add 1), rfl, 5, Nat.le_refl _, ?_⟩, fun q => by simp [hs] at q⟩
        show stepN 3 (M.step (M.step _)) = _
        rw [h1, h2]
        exact step1_ok x s h b _
      | false =>
        rw [hc] at h2
        exact ⟨fun q => by simp at q, fun _ => ⟨2, s, 7, _, by decide, by show M.step (M.step _) = _; rw [h1, h2]; rfl⟩⟩
    · rw [if_pos (show s ≥ x.size by (first | lia | omega))] at h2
      exact ⟨fun q => by simp [hs] at q, fun _ => ⟨2, s, 7, _, by decide, by show M.step (M.step _) = _; rw [h1, h2]⟩⟩
theorem scan1 (x : Array Nat) : ∀ (n s h : Nat) (b : Bool) (sn : Seen), s + n = x.size →
    (∃ t, s ≤ t ∧ t < x.size ∧ hit1 x t = true ∧ (∀ u, s ≤ u → u < t → hit1 x u = false) ∧ ∃ r : M, Ends (5 * (n + 1)) (at1 x s s h 5 b sn) r ∧ r.outcome = some .matched ∧ r.start = t ∧ r.handed = t + 1) ∨
    ((∀ u, s ≤ u → u < x.size → hit1 x u = false) ∧ ∃ r : M, Ends (5 * (n + 1)) (at1 x s s h 5 b sn) r ∧ r.outcome = some .failed)
  | 0, s, h, b, sn, hn => by
    have hs : s = x.size := by (first | lia | omega)
    have hf : hit1 x s = false := by unfold hit1; simp [hs]
    obtain ⟨j, p, pc, sn', hj, e⟩ := (try1 x s h b sn).2 hf
    right
    subst hs
    exact ⟨fun u h1 h2 => by (first | lia | omega), _, Ends.le (Ends.more e ⟨rfl, 2, Nat.le_refl _, step1_end x p h pc b sn'⟩) (by (first | lia | omega)), rfl⟩
  | n + 1, s, h, b, sn, hn => by
    cases hf : hit1 x s with
    | true =>
      obtain ⟨sn', e⟩ := (try1 x s h b sn).1 hf
      exact .inl ⟨s, Nat.le_refl _, by (first | lia | omega), hf, fun u h1 h2 => by (first | lia | omega), _, e.le (by (first | lia | omega)), rfl, rfl, rfl⟩
    | false =>
      obtain ⟨j, p, pc, sn', hj, e⟩ := (try1 x s h b sn).2 hf
      have e2 : stepN (j + 1) (at1 x s s h 5 b sn) = at1 x (s + 1) (s + 1) (s + 1) 5 false sn' := by
        rw [stepN_add, e]
        exact step1_no x s p h pc b sn' (by (first | lia | omega))
      rcases scan1 x n (s + 1) (s + 1) false sn' (by (first | lia | omega)) with ⟨t, h1, h2, h3, h4, r, h5, h6⟩ | ⟨h4, r, h5, h6⟩
      · refine .inl ⟨t, by (first | lia | omega), h2, h3, fun u q1 q2 => ?_, r, Ends.le (Ends.more e2 h5) (by (first | lia | omega)), h6⟩
        rcases Nat.lt_or_ge s u with q | q
        · exact h4 u (by (first | lia | omega)) q2
        · rw [show u = s by (first | lia | omega)]; exact hf
      · refine .inr ⟨fun u q1 q2 => ?_, r, Ends.le (Ends.more e2 h5) (by (first | lia | omega)), h6⟩
        rcases Nat.lt_or_ge s u with q | q
        · exact h4 u (by (first | lia | omega)) q2
        · rw [show u = s by (first | lia | omega)]; exact hf
theorem search1 (x : Array Nat) (s : Nat) (hs : s ≤ x.size) :
    (∃ t, s ≤ t ∧ t < x.size ∧ hit1 x t = true ∧ (∀ u, s ≤ u → u < t → hit1 x u = false) ∧ ∃ r : M, Ends (5 * (x.size + 1)) (forSearch code1 x 0 s x.size false) r ∧ r.outcome = some .matched ∧ r.start = t ∧ r.handed = t + 1) ∨
    ((∀ u, s ≤ u → u < x.size → hit1 x u = false) ∧ ∃ r : M, Ends (5 * (x.size + 1)) (forSearch code1 x 0 s x.size false) r ∧ r.outcome = some .failed) := by
  by_cases h : s < x.size
  · have e : forSearch code1 x 0 s x.size false = at1 x s s s 5 true (({} : Seen).add 14) := by
      have : forSearch code1 x 0 s x.size false = if (decide (s > x.size) || decide (x.size - s < 1)) = true then _ else at1 x s s s 5 true (({} : Seen).add 14) := rfl
      rw [this, if_neg (by simp; (first | lia | omega))]
    rw [e]
    rcases scan1 x (x.size - s) s s true _ (by (first | lia | omega)) with ⟨t, h1, h2, h3, h4, r, h5, h6⟩ | ⟨h4, r, h5, h6⟩
    · exact .inl ⟨t, h1, h2, h3, h4, r, h5.le (by (first | lia | omega)), h6⟩
    · exact .inr ⟨h4, r, h5.le (by (first | lia | omega)), h6⟩
  · right
    refine ⟨fun u h1 h2 => by (first | lia | omega), { forSearch code1 x 0 s x.size false with outcome := some .failed }, ⟨rfl, 1, by (first | lia | omega), ?_⟩, rfl⟩
    have : forSearch code1 x 0 s x.size false = if (decide (s > x.size) || decide (x.size - s < 1)) = true then { code := code1, text := x, lim := x.size, start := s, pc := 5, pos := s, handed := s, marks := #[], seen := ({} : Seen).add 14, answer := some false } else at1 x s s s 5 true (({} : Seen).add 14) := rfl
    rw [this, if_pos (by simp; (first | lia | omega))]
    rfl
end Mine
end
end
section
open PySem PySem.W PySem.Calls PySem.Spec
set_option Elab.async false
set_option linter.unusedVariables false
set_option maxRecDepth 100000
noncomputable section
namespace Mine
open PySem.Sre
/-! The second code: a line's end -/
noncomputable def code2 : Array Nat := #[14, 9, 4, 1, 2, 16, 10, 16, 13, 0, 7, 7, 16, 13, 16, 10, 15, 18, 5, 16, 10, 15, 13, 11, 16, 13, 5, 5, 0, 16, 10, 1, 15, 2, 0, 1]
noncomputable def q2 (x : Array Nat) (s p h pc : Nat) (o : Bool) (fr : List Sre.Frame) (w : Nat) (sn : Seen) (a : Option Bool) (oc : Option Sre.Outcome) : M :=
  { code := code2, text := x, lim := x.size, start := s, lastStart := x.size, pc := pc, pos := p, handed := h, outermost := o, marks := #[], frames := fr, weight := w, seen := sn, answer := a, outcome := oc }
noncomputable def f0 (s : Nat) : Sre.Frame := { wait := .nextStart, pc := 10, pos := s, outermost := true }
noncomputable def fb (s pc : Nat) : Sre.Frame := { wait := .nextBranch, pc := pc, pos := s, outermost := true }
noncomputable def fl (p : Nat) : Sre.Frame := { wait := .lookNot, pc := 26, pos := p, outermost := true }
section
variable (x : Array Nat) (s p h : Nat) (o : Bool) (fr : List Sre.Frame) (w : Nat) (sn : Seen)
theorem lit12 : (q2 x s p h 12 o fr w sn none none).step = if p ≥ x.size then q2 x s p h 12 o fr w (sn.add 16) (some false) none else if (x.getD p 0 == 13) = true then q2 x s (p + 1) h 14 o fr w (sn.add 16) none none else q2 x s p h 12 o fr w (sn.add 16) (some false) none := by
  have e : (q2 x s p h 12 o fr w sn none none).step = if p ≥ x.size then q2 x s p h 12 o fr w (sn.add 16) (some false) none else match accepts code2 12 (x.getD p 0) (sn.add 16) with
      | .error why => (q2 x s p h 12 o fr w (sn.add 16) none none).stick why
      | .ok (false, seen) => q2 x s p h 12 o fr w seen (some false) none
      | .ok (true, seen) => q2 x s (p + 1) h (12 + 2) o fr w seen none none := rfl
  rw [e]
  by_cases hs : p ≥ x.size
  · rw [if_pos hs, if_pos hs]
  · rw [if_neg hs, if_neg hs, show accepts code2 12 (x.getD p 0) (sn.add 16) = .ok (x.getD p 0 == 13, sn.add 16) from rfl]
    cases x.getD p 0 == 13 <;> rfl
theorem lit14 : (q2 x s p h 14 o fr w sn none none).step = if p ≥ x.size then q2 x s p h 14 o fr w (sn.add 16) (some false) none else if (x.getD p 0 == 10) = true then q2 x s (p + 1) h 16 o fr w (sn.add 16) none none else q2 x s p h 14 o fr w (sn.add 16) (some false) none := by
  have e : (q2 x s p h 14 o fr w sn none none).step = if p ≥ x.size then q2 x s p h 14 o fr w (sn.add 16) (some false) none else match accepts code2 14 (x.getD p 0) (sn.add 16) with
      | .error why => (q2 x s p h 14 o fr w (sn.add 16) none none).stick why
      | .ok (false, seen) => q2 x s p h 14 o fr w seen (some false) none
      | .ok (true, seen) => q2 x s (p + 1) h (14 + 2) o fr w seen none none := rfl
  rw [e]
  by_cases hs : p ≥ x.size
  · rw [if_pos hs, if_pos hs]
  · rw [if_neg hs, if_neg hs, show accepts code2 14 (x.getD p 0) (sn.add 16) = .ok (x.getD p 0 == 10, sn.add 16) from rfl]
    cases x.getD p 0 == 10 <;> rfl
theorem lit19 : (q2 x s p h 19 o fr w sn none none).step = if p ≥ x.size then q2 x s p h 19 o fr w (sn.add 16) (some false) none else if (x.getD p 0 == 10) = true then q2 x s (p + 1) h 21 o fr w (sn.add 16) none none else q2 x s p h 19 o fr w (sn.add 16) (some false) none := by
  have e : (q2 x s p h 19 o fr w sn none none).step = if p ≥ x.size then q2 x s p h 19 o fr w (sn.add 16) (some false) none else match accepts code2 19 (x.getD p 0) (sn.add 16) with
      | .error why => (q2 x s p h 19 o fr w (sn.add 16) none none).stick why
      | .ok (false, seen) => q2 x s p h 19 o fr w seen (some false) none
      | .ok (true, seen) => q2 x s (p + 1) h (19 + 2) o fr w seen none none := rfl
  rw [e]
  by_cases hs : p ≥ x.size
  · rw [if_pos hs, if_pos hs]
  · rw [if_neg hs, if_neg hs, show accepts code2 19 (x.getD p 0) (sn.add 16) = .ok (x.getD p 0 == 10, sn.add 16) from rfl]
    cases x.getD p 0 == 10 <;> rfl
theorem lit24 : (q2 x s p h 24 o fr w sn none none).step = if p ≥ x.size then q2 x s p h 24 o fr w (sn.add 16) (some false) none else if (x.getD p 0 == 13) = true then q2 x s (p + 1) h 26 o fr w (sn.add 16) none none else q2 x s p h 24 o fr w (sn.add 16) (some false) none := by
  have e : (q2 x s p h 24 o fr w sn none none).step = if p ≥ x.size then q2 x s p h 24 o fr w (sn.add 16) (some false) none else match accepts code2 24 (x.getD p 0) (sn.add 16) with
      | .error why => (q2 x s p h 24 o fr w (sn.add 16) none none).stick why
      | .ok (false, seen) => q2 x s p h 24 o fr w seen (some false) none
      | .ok (true, seen) => q2 x s (p + 1) h (24 + 2) o fr w seen none none := rfl
  rw [e]
  by_cases hs : p ≥ x.size
  · rw [if_pos hs, if_pos hs]
  · rw [if_neg hs, if_neg hs, show accepts code2 24 (x.getD p 0) (sn.add 16) = .ok (x.getD p 0 == 13, sn.add 16) from rfl]
    cases x.getD p 0 == 13 <;> rfl
theorem lit29 : (q2 x s p h 29 o fr w sn none none).step = if p ≥ x.size then q2 x s p h 29 o fr w (sn.add 16) (some false) none else if (x.getD p 0 == 10) = true then q2 x s (p + 1) h 31 o fr w (sn.add 16) none none else q2 x s p h 29 o fr w (sn.add 16) (some false) none := by
  have e : (q2 x s p h 29 o fr w sn none none).step = if p ≥ x.size then q2 x s p h 29 o fr w (sn.add 16) (some false) none else match accepts code2 29 (x.getD p 0) (sn.add 16) with
      | .error why => (q2 x s p h 29 o fr w (sn.add 16) none none).stick why
      | .ok (false, seen) => q2 x s p h 29 o fr w seen (some false) none
      | .ok (true, seen) => q2 x s (p + 1) h (29 + 2) o fr w seen none none := rfl
  rw [e]
  by_cases hs : p ≥ x.size
  · rw [if_pos hs, if_pos hs]
  · rw [if_neg hs, if_neg hs, show accepts code2 29 (x.getD p 0) (sn.add 16) = .ok (x.getD p 0 == 10, sn.add 16) from rfl]
    cases x.getD p 0 == 10 <;> rfl
theorem jump16 : (q2 x s p h 16 o fr w sn none none).step = q2 x s p h 35 o fr w (sn.add 15) none none := rfl
theorem jump21 : (q2 x s p h 21 o fr w sn none none).step = q2 x s p h 35 o fr w (sn.add 15) none none := rfl
theorem jump32 : (q2 x s p h 32 o fr w sn none none).step = q2 x s p h 35 o fr w (sn.add 15) none none := rfl
theorem succ35 : (q2 x s p h 35 true fr w sn none none).step = q2 x s p p 35 true fr w (sn.add 1) (some true) none := rfl
theorem resB (t k pc : Nat) : (q2 x s p h pc o [fb t k, f0 t] 2 sn (some true) none).step = q2 x s t h k true [f0 t] 1 sn (some true) none := rfl
theorem res0 (t pc : Nat) : (q2 x s p h pc o [f0 t] 1 sn (some true) none).step = q2 x s t h 10 true [] 0 sn (some true) none := rfl
theorem fin2 (pc : Nat) : (q2 x s p h pc o [] 0 sn (some true) none).step = q2 x s p h pc o [] 0 sn (some true) (some .matched) := rfl
theorem resL (t pc : Nat) : (q2 x s p h pc o [fl (t + 1), fb t 23, f0 t] 3 sn (some false) none).step = q2 x s (t + 1) h 32 true [fb t 23, f0 t] 2 sn none none := rfl
end
theorem Ends.one {k : Nat} {m m' r : M} (h : m.step = m') (e : Ends k m' r) : Ends (k + 1) m r := by
  obtain ⟨h1, i, h2, h3⟩ := e
  exact ⟨h1, i + 1, by (first | lia | omega), by rw [stepN, h, h3]⟩
theorem Ends.zero {r : M} (h : r.outcome.isSome = true) : Ends 0 r r := ⟨h, 0, Nat.le_refl _, rfl⟩
noncomputable def is2 (x : Array Nat) (s : Nat) : Bool := x.getD s 0 == 10 || x.getD s 0 == 13
noncomputable def end2 (x : Array Nat) (s : Nat) : Nat := if x.getD s 0 = 13 ∧ s + 1 < x.size ∧ x.getD (s + 1) 0 = 10 then s + 2 else s + 1
theorem try2 (x : Array Nat) (s h : Nat) (sn : Seen) (hs : s < x.size) (hi : is2 x s = true) : ∃ sn', Ends 20 (q2 x s s h 10 true [f0 s] 1 sn none none) (q2 x s s (end2 x s) 10 true [] 0 sn' (some true) (some .matched)) := by
  have b1 : (q2 x s s h 10 true [f0 s] 1 sn none none).step = q2 x s s s 12 true [fb s 11, f0 s] 2 (sn.add 7) none none := rfl
  have b2 := lit12 x s s s true [fb s 11, f0 s] 2 (sn.add 7)
  rw [if_neg (by (first | lia | omega))] at b2
  by_cases h13 : x.getD s 0 = 13
  · rw [if_pos (by rw [h13]; rfl)] at b2
    have b3 := lit14 x s (s + 1) s true [fb s 11, f0 s] 2 ((sn.add 7).add 16)
    by_cases hlf : s + 1 < x.size ∧ x.getD (s + 1) 0 = 10
    · rw [if_neg (by (first | lia | omega)), if_pos (by rw [hlf.2]; rfl)] at b3
      have he : end2 x s = s + 2 := by unfold end2; rw [if_pos ⟨h13, hlf⟩]
      rw [he]
      exact ⟨_, (Ends.one (b1) (Ends.one (b2) (Ends.one (b3) (Ends.one (jump16 ..) (Ends.one (succ35 ..) (Ends.one (resB ..) (Ends.one (res0 ..) (Ends.one (fin2 ..) (Ends.zero rfl))))))))).le (by decide)⟩
    · have b3' : (q2 x s (s + 1) s 14 true [fb s 11, f0 s] 2 ((sn.add 7).add 16) none none).step = q2 x s (s + 1) s 14 true [fb s 11, f0 s] 2 (((sn.add 7).add 16).add 16) (some false) none := by
        rw [b3]
        by_cases hg : s + 1 ≥ x.size
        · rw [if_pos hg]
        · rw [if_neg hg, if_neg (by rw [beq_iff_eq]; exact fun q => hlf ⟨by (first | lia | omega), q⟩)]
      have b4 : (q2 x s (s + 1) s 14 true [fb s 11, f0 s] 2 (((sn.add 7).add 16).add 16) (some false) none).step = q2 x s s s 19 true [fb s 18, f0 s] 2 (((sn.add 7).add 16).add 16) none none := rfl
      have b5 := lit19 x s s s true [fb s 18, f0 s] 2 (((sn.add 7).add 16).add 16)
      rw [if_neg (by (first | lia | omega)), if_neg (by rw [h13]; decide)] at b5
      have b6 : (q2 x s s s 19 true [fb s 18, f0 s] 2 ((((sn.add 7).add 16).add 16).add 16) (some false) none).step = q2 x s s s 24 true [fb s 23, f0 s] 2 ((((sn.add 7).add 16).add 16).add 16) none none := rfl
      have b7 := lit24 x s s s true [fb s 23, f0 s] 2 ((((sn.add 7).add 16).add 16).add 16)
      rw [if_neg (by (first | lia | omega)), if_pos (by rw [h13]; rfl)] at b7
      have b8 : (q2 x s (s + 1) s 26 true [fb s 23, f0 s] 2 (((((sn.add 7).add 16).add 16).add 16).add 16) none none).step = q2 x s (s + 1) (s + 1) 29 false [fl (s + 1), fb s 23, f0 s] 3 ((((((sn.add 7).add 16).add 16).add 16).add 16).add 5) none none := rfl
      have b9 := lit29 x s (s + 1) (s + 1) false [fl (s + 1), fb s 23, f0 s] 3 ((((((sn.add 7).add 16).add 16).add 16).add 16).add 5)
      have b9' : (q2 x s (s + 1) (s + 1) 29 false [fl (s + 1), fb s 23, f0 s] 3 ((((((sn.add 7).add 16).add 16).add 16).add 16).add 5) none none).step = q2 x s (s + 1) (s + 1) 29 false [fl (s + 1), fb s 23, f0 s] 3 (((((((sn.add 7).add 16).add 16).add 16).add 16).add 5).add 16) (some false) none := by
        rw [b9]
        by_cases hg : s + 1 ≥ x.size
        · rw [if_pos hg]
        · rw [if_neg hg, if_neg (by rw [beq_iff_eq]; exact fun q => hlf ⟨by (first | lia | omega), q⟩)]
      have he : end2 x s = s + 1 := by unfold end2; rw [if_neg (fun q => hlf q.2)]
      rw [he]
      exact ⟨_, (Ends.one (b1) (Ends.one (b2) (Ends.one (b3') (Ends.one (b4) (Ends.one (b5) (Ends.one (b6) (Ends.one (b7) (Ends.one (b8) (Ends.one (b9') (Ends.one (resL ..) (Ends.one (jump32 ..) (Ends.one (succ35 ..) (Ends.one (resB ..) (Ends.one (res0 ..) (Ends.one (fin2 ..) (Ends.zero rfl)))))))))))))))).le (by decide)⟩
  · have h10 : x.getD s 0 = 10 := by
      unfold is2 at hi
      rw [Bool.or_eq_true, beq_iff_eq, beq_iff_eq] at hi
      exact hi.resolve_right h13
    rw [if_neg (by rw [h10]; decide)] at b2
    have b4 : (q2 x s s s 12 true [fb s 11, f0 s] 2 ((sn.add 7).add 16) (some false) none).step = q2 x s s s 19 true [fb s 18, f0 s] 2 ((sn.add 7).add 16) none none := rfl
    have b5 := lit19 x s s s true [fb s 18, f0 s] 2 ((sn.add 7).add 16)
    rw [if_neg (by (first | lia | omega)), if_pos (by rw [h10]; rfl)] at b5
    have he : end2 x s = s + 1 := by unfold end2; rw [if_neg (fun q => h13 q.1)]
    rw [he]
    exact ⟨_, (Ends.one (b1) (Ends.one (b2) (Ends.one (b4) (Ends.one (b5) (Ends.one (jump21 ..) (Ends.one (succ35 ..) (Ends.one (resB ..) (Ends.one (res0 ..) (Ends.one (fin2 ..) (Ends.zero rfl)))))))))).le (by decide)⟩
theorem inSet2 (c : Nat) (sn : Seen) : inSet code2 c code2.size 5 true sn = if (c == 10) = true then .ok (true, sn.add 16) else if (c == 13) = true then .ok (true, (sn.add 16).add 16) else .ok (false, ((sn.add 16).add 16).add 0) := rfl
theorem admitted2 (m : M) (hc : m.code = code2) (hl : m.lim = m.text.size) : ∀ (n s : Nat) (sn : Seen), s + n = m.text.size →
    (∃ t sn', s ≤ t ∧ t < m.text.size ∧ is2 m.text t = true ∧ (∀ u, s ≤ u → u < t → is2 m.text u = false) ∧ m.admitted (n + 1) s sn = .ok (some t, sn')) ∨ ((∀ u, s ≤ u → u < m.text.size → is2 m.text u = false) ∧ ∃ sn', m.admitted (n + 1) s sn = .ok (none, sn'))
  | 0, s, sn, hn => by
    right
    refine ⟨fun u h1 h2 => by (first | lia | omega), sn, ?_⟩
    unfold M.admitted
    rw [if_pos (by (first | lia | omega))]
  | n + 1, s, sn, hn => by
    have e : ∀ r sn1, inSet m.code (m.text.getD s 0) m.code.size 5 true sn = .ok (r, sn1) → m.admitted (n + 1 + 1) s sn = if r = true then .ok (some s, sn1) else m.admitted (n + 1) (s + 1) sn1 := fun r sn1 h => by
      rw [M.admitted, if_neg (by (first | lia | omega)), h]
      cases r <;> rfl
    have h2 := inSet2 (m.text.getD s 0) sn
    cases hi : is2 m.text s with
    | true =>
      left
      have : ∃ sn1, inSet m.code (m.text.getD s 0) m.code.size 5 true sn = .ok (true, sn1) := by
        rw [hc, h2]
        unfold is2 at hi
        by_cases h10 : (m.text.getD s 0 == 10) = true
        · rw [if_pos h10]; exact ⟨_, rfl⟩
        · rw [if_neg h10]
          rw [(by simpa using h10 : (m.text.getD s 0 == 10) = false), Bool.false_or] at hi
          rw [if_pos hi]; exact ⟨_, rfl⟩
      obtain ⟨sn1, h3⟩ := this
      exact ⟨s, sn1, Nat.le_refl _, by (first | lia | omega), hi, fun u q1 q2 => by (first | lia | omega), by rw [e _ _ h3, if_pos rfl]⟩
    | false =>
      have : ∃ sn1, inSet m.code (m.text.getD s 0) m.code.size 5 true sn = .ok (false, sn1) := by
        rw [hc, h2]
        unfold is2 at hi
        rw [Bool.or_eq_false_iff] at hi
        rw [if_neg (by rw [hi.1]; decide), if_neg (by rw [hi.2]; decide)]
        exact ⟨_, rfl⟩
      obtain ⟨sn1, h3⟩ := this
      rw [e _ _ h3, if_neg (by decide)]
      have up : ∀ (t : Nat), (∀ u, s + 1 ≤ u → u < t → is2 m.text u = false) → ∀ u, s ≤ u → u < t → is2 m.text u = false := fun t h u q1 q2 => by
        rcases Nat.lt_or_ge s u with q | q
        · exact h u (by (first | lia | omega)) q2
        · rw [show u = s by (first | lia | omega)]; exact hi
      rcases admitted2 m hc hl n (s + 1) sn1 (by (first | lia | omega)) with ⟨t, sn', g1, g2, g3, g4, g5⟩ | ⟨g4, sn', g5⟩
      · exact .inl ⟨t, sn', by (first | lia | omega), g2, g3, up t g4, g5⟩
      · exact .inr ⟨up _ g4, sn', g5⟩
theorem search2 (x : Array Nat) (s : Nat) (hs : s ≤ x.size) :
    (∃ t, s ≤ t ∧ t < x.size ∧ is2 x t = true ∧ (∀ u, s ≤ u → u < t → is2 x u = false) ∧ ∃ r : M, Ends 20 (forSearch code2 x 0 s x.size false) r ∧ r.outcome = some .matched ∧ r.start = t ∧ r.handed = end2 x t) ∨
    ((∀ u, s ≤ u → u < x.size → is2 x u = false) ∧ ∃ r : M, Ends 20 (forSearch code2 x 0 s x.size false) r ∧ r.outcome = some .failed) := by
  have e0 : forSearch code2 x 0 s x.size false = if (decide (s > x.size) || decide (x.size - s < 1)) = true then { code := code2, text := x, lim := x.size, start := s, pc := 10, pos := s, handed := s, marks := #[], seen := ({} : Seen).add 14, answer := some false } else match (q2 x s s s 10 true [] 0 (({} : Seen).add 14) none none).admitted (x.size + 1 - s) s (({} : Seen).add 14) with
      | .ok (some t, sn) => q2 x t t t 10 true [f0 t] 1 sn none none
      | .ok (none, sn) => q2 x s s s 10 true [] 0 sn (some false) none
      | .error why => (q2 x s s s 10 true [] 0 (({} : Seen).add 14) none none).stick why := rfl
  by_cases h : s < x.size
  · rw [if_neg (by simp; (first | lia | omega)), show x.size + 1 - s = (x.size - s) + 1 by (first | lia | omega)] at e0
    rcases admitted2 (q2 x s s s 10 true [] 0 (({} : Seen).add 14) none none) rfl rfl (x.size - s) s (({} : Seen).add 14) (show s + (x.size - s) = x.size by (first | lia | omega)) with ⟨t, sn', g1, g2, g3, g4, g5⟩ | ⟨g4, sn', g5⟩
    · left
      rw [g5] at e0
      rw [e0]
      obtain ⟨sn2, g6⟩ := try2 x t t sn' g2 g3
      exact ⟨t, g1, g2, g3, g4, _, g6, rfl, rfl, rfl⟩
    · right
      rw [g5] at e0
      rw [e0]
      exact ⟨g4, q2 x s s s 10 true [] 0 sn' (some false) (some .failed), ⟨rfl, 1, by decide, rfl⟩, rfl⟩
  · right
    rw [if_pos (by simp; (first | lia | omega))] at e0
    rw [e0]
    exact ⟨fun u h1 h2 => by (first | lia | omega), { code := code2, text := x, lim := x.size, start := s, pc := 10, pos := s, handed := s, marks := #[], seen := ({} : Seen).add 14, answer := some false, outcome := some .failed }, ⟨rfl, 1, by decide, rfl⟩, rfl⟩
end Mine
end
end
section
open PySem PySem.W PySem.Calls PySem.Spec
set_option Elab.async false
set_option linter.unusedVariables false
set_option maxRecDepth 100000
noncomputable section
namespace Mine
open PySem.Sre
/-! What the two searches, repeated, make of a text -/
noncomputable def quoteD : Bool → List Nat → List Nat
  | _, [] => []
  | b, c :: r => if (b && c == 46) = true then 46 :: 46 :: quoteD false r else c :: quoteD (c == 10) r
noncomputable def fixE : List Nat → List Nat
  | [] => []
  | [c] => if (c == 10 || c == 13) = true then [13, 10] else [c]
  | c :: d :: r => if (c == 13 && d == 10) = true then 13 :: 10 :: fixE r else if (c == 10 || c == 13) = true then 13 :: 10 :: fixE (d :: r) else c :: fixE (d :: r)
theorem drop_at {x : Array Nat} {s : Nat} (h : s < x.size) : x.toList.drop s = x.getD s 0 :: x.toList.drop (s + 1) := by
  rw [List.drop_eq_getElem_cons (by simpa using h)]
  congr 1
  simp [h]
noncomputable def cut (x : Array Nat) (s t : Nat) : List Nat := (x.toList.drop s).take (t - s)
theorem cut_self (x : Array Nat) (s : Nat) : cut x s s = [] := by unfold cut; simp
theorem cut_cons {x : Array Nat} {s t : Nat} (h : s < t) (h' : s < x.size) : cut x s t = x.getD s 0 :: cut x (s + 1) t := by
  unfold cut
  rw [drop_at h', show t - s = (t - (s + 1)) + 1 by (first | lia | omega), List.take_succ_cons]
theorem bol_succ (x : Array Nat) (s : Nat) : bol x (s + 1) = (x.getD s 0 == 10) := by unfold bol; simp
theorem quote_walk (x : Array Nat) : ∀ (n s t : Nat), s + n = t → t ≤ x.size → (∀ u, s ≤ u → u < t → hit1 x u = false) → quoteD (bol x s) (x.toList.drop s) = cut x s t ++ quoteD (bol x t) (x.toList.drop t)
  | 0, s, t, h, _, _ => by
    have : s = t := by (first | lia | omega)
    subst this
    rw [cut_self]; rfl
  | n + 1, s, t, h, ht, hu => by
    have ih := quote_walk x n (s + 1) t (by (first | lia | omega)) ht fun u h1 h2 => hu u (by (first | lia | omega)) h2
    have hs : s < x.size := by (first | lia | omega)
    have h0 := hu s (Nat.le_refl _) (by (first | lia | omega))
    unfold hit1 at h0
    rw [decide_eq_true hs, Bool.true_and] at h0
    rw [drop_at hs, cut_cons (by (first | lia | omega)) hs, quoteD, if_neg (by rw [h0]; decide), ← bol_succ, ih]
    rfl
theorem quote_hit {x : Array Nat} {s t : Nat} (h : s ≤ t) (ht : t < x.size) (hh : hit1 x t = true) (hu : ∀ u, s ≤ u → u < t → hit1 x u = false) : quoteD (bol x s) (x.toList.drop s) = cut x s t ++ (46 :: 46 :: quoteD (bol x (t + 1)) (x.toList.drop (t + 1))) := by
  rw [quote_walk x (t - s) s t (by (first | lia | omega)) (by (first | lia | omega)) hu]
  congr 1
  unfold hit1 at hh
  rw [decide_eq_true ht, Bool.true_and] at hh
  have h46 : x.getD t 0 = 46 := by
    have h2 := hh
    rw [Bool.and_eq_true, beq_iff_eq] at h2
    exact h2.2
  rw [drop_at ht, quoteD, if_pos hh, bol_succ, h46]
  rfl
theorem quote_none {x : Array Nat} {s : Nat} (h : s ≤ x.size) (hu : ∀ u, s ≤ u → u < x.size → hit1 x u = false) : quoteD (bol x s) (x.toList.drop s) = cut x s x.size := by
  rw [quote_walk x (x.size - s) s x.size (by (first | lia | omega)) (Nat.le_refl _) hu]
  have : x.toList.drop x.size = [] := List.drop_eq_nil_of_le (by simp)
  rw [this]
  simp [quoteD]
theorem fix_skip {c : Nat} (h : (c == 10 || c == 13) = false) (r : List Nat) : fixE (c :: r) = c :: fixE r := by
  rw [Bool.or_eq_false_iff] at h
  cases r with
  | nil => simp [fixE, h.1, h.2]
  | cons d r => rw [fixE, if_neg (by simp [h.2]), if_neg (by simp [h.1, h.2])]
theorem fix_walk (x : Array Nat) : ∀ (n s t : Nat), s + n = t → t ≤ x.size → (∀ u, s ≤ u → u < t → is2 x u = false) → fixE (x.toList.drop s) = cut x s t ++ fixE (x.toList.drop t)
  | 0, s, t, h, _, _ => by
    have : s = t := by (first | lia | omega)
    subst this
    rw [cut_self]; rfl
  | n + 1, s, t, h, ht, hu => by
    have ih := fix_walk x n (s + 1) t (by (first | lia | omega)) ht fun u h1 h2 => hu u (by (first | lia | omega)) h2
    have hs : s < x.size := by (first | lia | omega)
    have h0 := hu s (Nat.le_refl _) (by (first | lia | omega))
    unfold is2 at h0
    rw [drop_at hs, cut_cons (by (first | lia | omega)) hs, fix_skip h0, ih]
    rfl
theorem fix_at {x : Array Nat} {t : Nat} (ht : t < x.size) (hh : is2 x t = true) : fixE (x.toList.drop t) = 13 :: 10 :: fixE (x.toList.drop (end2 x t)) := by
  unfold is2 at hh
  by_cases h1 : t + 1 < x.size
  · rw [drop_at ht, drop_at h1, fixE]
    by_cases hc : x.getD t 0 = 13 ∧ t + 1 < x.size ∧ x.getD (t + 1) 0 = 10
    · have he : end2 x t = t + 2 := by unfold end2; rw [if_pos hc]
      rw [if_pos (by simp only [hc.1, hc.2.2]; decide), he]
    · have he : end2 x t = t + 1 := by unfold end2; rw [if_neg hc]
      rw [if_neg (by intro q; rw [Bool.and_eq_true, beq_iff_eq, beq_iff_eq] at q; exact hc ⟨q.1, h1, q.2⟩), if_pos hh, he, drop_at h1]
  · have he : end2 x t = t + 1 := by unfold end2; rw [if_neg (fun q => h1 q.2.1)]
    have hn : x.toList.drop (t + 1) = [] := List.drop_eq_nil_of_le (by simp; (first | lia | omega))
    rw [he, drop_at ht, hn]
    show (if (x.getD t 0 == 10 || x.getD t 0 == 13) = true then [13, 10] else [x.getD t 0]) = _
    rw [if_pos hh]; rfl
theorem fix_hit {x : Array Nat} {s t : Nat} (h : s ≤ t) (ht : t < x.size) (hh : is2 x t = true) (hu : ∀ u, s ≤ u → u < t → is2 x u = false) : fixE (x.toList.drop s) = cut x s t ++ (13 :: 10 :: fixE (x.toList.drop (end2 x t))) := by
  rw [fix_walk x (t - s) s t (by (first | lia | omega)) (by (first | lia | omega)) hu, fix_at ht hh]
theorem fix_none {x : Array Nat} {s : Nat} (h : s ≤ x.size) (hu : ∀ u, s ≤ u → u < x.size → is2 x u = false) : fixE (x.toList.drop s) = cut x s x.size := by
  rw [fix_walk x (x.size - s) s x.size (by (first | lia | omega)) (Nat.le_refl _) hu]
  have : x.toList.drop x.size = [] := List.drop_eq_nil_of_le (by simp)
  rw [this]
  simp [fixE]
theorem end2_le {x : Array Nat} {t : Nat} (h : t < x.size) : t < end2 x t ∧ end2 x t ≤ x.size := by
  unfold end2
  by_cases hc : x.getD t 0 = 13 ∧ t + 1 < x.size ∧ x.getD (t + 1) 0 = 10
  · rw [if_pos hc]; (first | lia | omega)
  · rw [if_neg hc]; (first | lia | omega)
end Mine
end
end
section
open PySem PySem.W PySem.Calls PyProof.Rows PySem.Spec
set_option Elab.async false
set_option linter.unusedVariables false
set_option maxRecDepth 100000
noncomputable section
namespace Mine
/-! The letters' own texts -/
noncomputable def cpsL (s : Str) : List Nat := s.cps.toList
theorem cpsL_append (a b : Str) : cpsL (a ++ b) = cpsL a ++ cpsL b := by
  show (a.cps ++ b.cps).toList = _
  rw [Array.toList_append]; rfl
theorem foldl_app : ∀ (l : List (Array Nat)) (acc : Array Nat), (l.foldl (· ++ ·) acc).toList = acc.toList ++ (l.map Array.toList).flatten
  | [], acc => by simp
  | a :: l, acc => by rw [List.foldl_cons, foldl_app l, Array.toList_append, List.map_cons, List.flatten_cons, List.append_assoc]
theorem cpsL_mul (x : Str) {n : Int} (h : 1 ≤ n) : cpsL (Txt.mul x n) = (List.replicate n.toNat (cpsL x)).flatten := by
  unfold Txt.mul
  rw [if_neg (by (first | lia | omega))]
  split
  · rename_i hc
    rw [Bool.or_eq_true, beq_iff_eq, beq_iff_eq] at hc
    rcases hc with rfl | hc
    · show cpsL x = (cpsL x ++ [] : List Nat); rw [List.append_nil]
    · have : cpsL x = [] := by
        unfold cpsL
        exact List.eq_nil_of_length_eq_zero (by rw [Array.length_toList]; exact hc)
      rw [this]
      simp
  · show (List.foldl (· ++ ·) #[] _).toList = _
    rw [foldl_app]
    simp [cpsL]
theorem fix_lf (r : List Nat) : fixE (10 :: r) = 13 :: 10 :: fixE r := by
  cases r <;> rfl
theorem fix_crlf (r : List Nat) : fixE (13 :: 10 :: r) = 13 :: 10 :: fixE r := rfl
theorem fix_cr {r : List Nat} (h : r.head? ≠ some 10) : fixE (13 :: r) = 13 :: 10 :: fixE r := by
  cases r with
  | nil => rfl
  | cons d r =>
    rw [fixE, if_neg (by intro q; rw [Bool.and_eq_true, beq_iff_eq, beq_iff_eq] at q; exact h (by rw [q.2]; rfl)), if_pos (by decide)]
noncomputable def IsEnd (e : List Nat) : Prop := e = [10] ∨ e = [13] ∨ e = [13, 10]
theorem fix_end {e r : List Nat} (he : IsEnd e) (h : r.head? ≠ some 10) : fixE (e ++ r) = 13 :: 10 :: fixE r := by
  rcases he with rfl | rfl | rfl
  · exact fix_lf r
  · exact fix_cr h
  · exact fix_crlf r
theorem fix_letters {c : Nat} (hc : (c == 10 || c == 13) = false) (r : List Nat) : ∀ m, fixE (List.replicate m c ++ r) = List.replicate m c ++ fixE r
  | 0 => rfl
  | m + 1 => by
    rw [List.replicate_succ, List.cons_append, fix_skip hc, fix_letters hc r m]; rfl
theorem head_rows {e r : List Nat} (h : r.head? ≠ some 10) : ∀ n, ((List.replicate n (46 :: e)).flatten ++ r).head? ≠ some 10
  | 0 => h
  | n + 1 => by rw [List.replicate_succ]; simp
theorem fix_rows {e r : List Nat} (he : IsEnd e) (h : r.head? ≠ some 10) : ∀ n, fixE ((List.replicate n (46 :: e)).flatten ++ r) = (List.replicate n [46, 13, 10]).flatten ++ fixE r
  | 0 => rfl
  | n + 1 => by
    rw [List.replicate_succ, List.flatten_cons, List.append_assoc, List.cons_append, fix_skip (by decide), fix_end he (head_rows h n), fix_rows he h n]
    rfl
noncomputable def fixedL (n m c : Nat) : List Nat := (List.replicate n [46, 13, 10]).flatten ++ (List.replicate m c ++ [13, 10])
noncomputable def sentL (n m c : Nat) : List Nat := (List.replicate n [46, 46, 13, 10]).flatten ++ (List.replicate m c ++ [13, 10])
theorem fix_letter {e r : List Nat} (he : IsEnd e) (h : r.head? ≠ some 10) {c : Nat} (hc : (c == 10 || c == 13) = false) (n m : Nat) : fixE ((List.replicate n (46 :: e)).flatten ++ (List.replicate (m + 1) c ++ e) ++ r) = fixedL n (m + 1) c ++ fixE r := by
  have hh : (List.replicate (m + 1) c ++ (e ++ r)).head? ≠ some 10 := by
    rw [List.replicate_succ]
    intro q
    simp at q
    rw [q] at hc
    cases hc
  rw [List.append_assoc, List.append_assoc, fix_rows he hh, fix_letters hc, fix_end he h]
  unfold fixedL
  simp
theorem quote_rows (r : List Nat) : ∀ n, quoteD true ((List.replicate n [46, 13, 10]).flatten ++ r) = (List.replicate n [46, 46, 13, 10]).flatten ++ quoteD true r
  | 0 => rfl
  | n + 1 => by
    rw [List.replicate_succ, List.flatten_cons, List.append_assoc, List.replicate_succ, List.flatten_cons, List.append_assoc]
    show 46 :: 46 :: 13 :: 10 :: quoteD true ((List.replicate n [46, 13, 10]).flatten ++ r) = _
    rw [quote_rows r n]; rfl
theorem quote_letters {c : Nat} (hc : (c == 46) = false) (h10 : (c == 10) = false) (r : List Nat) : ∀ (m : Nat) (b : Bool), quoteD b (List.replicate (m + 1) c ++ r) = List.replicate (m + 1) c ++ quoteD false r
  | 0, b => by
    show quoteD b (c :: r) = c :: quoteD false r
    rw [quoteD, if_neg (by rw [hc, Bool.and_false]; decide), h10]
  | m + 1, b => by
    rw [List.replicate_succ, List.cons_append, quoteD, if_neg (by rw [hc, Bool.and_false]; decide), h10, quote_letters hc h10 r m]; rfl
theorem quote_letter {c : Nat} (hc : (c == 46) = false) (h10 : (c == 10) = false) (n m : Nat) (r : List Nat) : quoteD true (fixedL n (m + 1) c ++ r) = sentL n (m + 1) c ++ quoteD true r := by
  unfold fixedL sentL
  rw [List.append_assoc, List.append_assoc, quote_rows, List.append_assoc, quote_letters hc h10]
  simp [quoteD]
theorem end_is (x : Int) : IsEnd (cpsL (endOf x)) := by
  unfold endOf
  split
  · left; decide
  · split
    · right; left; decide
    · right; right; decide
noncomputable def rowsOf (x : Int) : Nat := (1 + x.fmod 3).toNat
noncomputable def lettersOf (x : Int) : Nat := ((x.fdiv 3).fmod 12).toNat
theorem written_cps {k x : Int} (hx : 0 ≤ x) : cpsL (written k x) = (List.replicate (rowsOf x) (46 :: cpsL (endOf x))).flatten ++ (List.replicate (lettersOf x + 1) (97 + k).toNat ++ cpsL (endOf x)) := by
  have h3 := fmod_bd x (n := 3) (by decide)
  have h12 := fmod_bd (x.fdiv 3) (n := 12) (by decide)
  unfold written rowsOf
  rw [cpsL_append, cpsL_append, cpsL_mul _ (by (first | lia | omega)), cpsL_mul _ (by (first | lia | omega)), cpsL_append, show cpsL (Str.ofString ".") = [46] by decide, show cpsL ⟨#[(97 + k).toNat]⟩ = [(97 + k).toNat] from rfl, show (1 + (x.fdiv 3).fmod 12).toNat = lettersOf x + 1 by unfold lettersOf; (first | lia | omega), List.append_assoc]
  congr 2
  simp
theorem sent_cps {k x : Int} (hx : 0 ≤ x) : cpsL (asSent k x) = sentL (rowsOf x) (lettersOf x + 1) (97 + k).toNat := by
  have h3 := fmod_bd x (n := 3) (by decide)
  have h12 := fmod_bd (x.fdiv 3) (n := 12) (by decide)
  unfold asSent rowsOf sentL
  rw [cpsL_append, cpsL_append, cpsL_mul _ (by (first | lia | omega)), cpsL_mul _ (by (first | lia | omega)), show cpsL (Str.ofString "..\r\n") = [46, 46, 13, 10] by decide, show cpsL (Str.ofString "\r\n") = [13, 10] by decide, show cpsL ⟨#[(97 + k).toNat]⟩ = [(97 + k).toNat] from rfl, show (1 + (x.fdiv 3).fmod 12).toNat = lettersOf x + 1 by unfold lettersOf; (first | lia | omega), List.append_assoc]
  congr 2
  simp
noncomputable def fixedOf (k x : Int) : List Nat := fixedL (rowsOf x) (lettersOf x + 1) (97 + k).toNat
theorem fix_written {k x : Int} (h0 : 0 ≤ k) (h5 : k < 5) (hx : 0 ≤ x) {r : List Nat} (h : r.head? ≠ some 10) : fixE (cpsL (written k x) ++ r) = fixedOf k x ++ fixE r := by
  rw [written_cps hx]
  exact fix_letter (end_is x) h (by rw [Bool.or_eq_false_iff, beq_eq_false_iff_ne, beq_eq_false_iff_ne]; (first | lia | omega)) _ _
theorem quote_fixed {k x : Int} (h0 : 0 ≤ k) (h5 : k < 5) (hx : 0 ≤ x) (r : List Nat) : quoteD true (fixedOf k x ++ r) = cpsL (asSent k x) ++ quoteD true r := by
  rw [sent_cps hx]
  exact quote_letter (by rw [beq_eq_false_iff_ne]; (first | lia | omega)) (by rw [beq_eq_false_iff_ne]; (first | lia | omega)) _ _ _
theorem head_written {k x : Int} (hx : 0 ≤ x) (r : List Nat) : (cpsL (written k x) ++ r).head? ≠ some 10 := by
  have h3 := fmod_bd x (n := 3) (by decide)
  rw [written_cps hx, show rowsOf x = (rowsOf x - 1) + 1 by unfold rowsOf; (first | lia | omega), List.replicate_succ]
  simp
theorem sent_line (xs : List (Int × Int)) (h : ∀ p ∈ xs, 0 ≤ p.1 ∧ p.1 < 5 ∧ 0 ≤ p.2) : fixE ((xs.map fun p => cpsL (written p.1 p.2)).flatten) = (xs.map fun p => fixedOf p.1 p.2).flatten ∧ quoteD true ((xs.map fun p => fixedOf p.1 p.2).flatten) = (xs.map fun p => cpsL (asSent p.1 p.2)).flatten ∧ ((xs.map fun p => cpsL (written p.1 p.2)).flatten).head? ≠ some 10 := by
  induction xs with
  | nil => exact ⟨rfl, rfl, by simp⟩
  | cons p xs ih =>
    obtain ⟨h1, h2, h3⟩ := ih fun q hq => h q (.tail _ hq)
    obtain ⟨k0, k5, x0⟩ := h p (.head _)
    refine ⟨?_, ?_, ?_⟩
    · rw [List.map_cons, List.flatten_cons, fix_written k0 k5 x0 h3, h1]; rfl
    · rw [List.map_cons, List.flatten_cons, quote_fixed k0 k5 x0, h2]; rfl
    · rw [List.map_cons, List.flatten_cons]; exact head_written x0 _
end Mine
end
end
section
open PySem PySem.W PySem.Calls PyProof.Rows PySem.Spec
set_option Elab.async false
set_option linter.unusedVariables false
set_option maxRecDepth 100000
noncomputable section
namespace Mine
open PySem.Builtin.Re
theorem Ends.uniq {k n : Nat} {m r : Sre.M} (e : Ends k m r) (h : (stepN n m).outcome.isSome = true) : stepN n m = r := by
  have h1 := e.at (n := n + k) (by omega)
  rw [stepN_add, stepN_done h] at h1
  exact h1
section
variable {M : Model} {A : Around} {E : Value → Shared → Prop} {s : Shared}
theorem wpAny_reDrive {Q : Sre.M → Shared → Prop} {r : Sre.M} (N : Nat) : ∀ (K : Nat) (m : Sre.M), 0 < N → K ≤ 4 * N → Ends K m r → Q r s → wpAny M A (reDrive N m) Q E s := by
  induction N with
  | zero => intro K m h0; exact absurd h0 (Nat.lt_irrefl _)
  | succ N ih =>
    intro K m _ hK e h
    unfold reDrive
    show wpAny M A (if (m.runFor reTurnSteps).outcome.isSome = true then pure (m.runFor reTurnSteps) else (do rule "sre.turn"; reDrive N (m.runFor reTurnSteps))) _ _ _
    rw [show m.runFor reTurnSteps = stepN 4 m from runFor_stepN 4 m]
    by_cases hs : (stepN 4 m).outcome.isSome = true
    · rw [if_pos hs]
      refine wpAny_pure ?_
      rw [e.uniq hs]; exact h
    · rw [if_neg hs]
      refine wpAny_bind (wpAny_rule ?_)
      have hN : 0 < N := by
        rcases Nat.eq_zero_or_pos N with q | q
        · exfalso
          subst q
          have := e.at (n := 4) (by omega)
          exact hs (by rw [this]; exact e.1)
        · exact q
      exact ih (K - 4) _ hN (by omega) e.back h
theorem wpAny_reRun {Q : Option Sre.M → Shared → Prop} {m r : Sre.M} {K : Nat} (e : Ends K m r) (hK : K ≤ 1000000) (h : (r.outcome = some .matched → Q (some r) s) ∧ (r.outcome = some .failed → Q none s)) (ho : r.outcome = some .matched ∨ r.outcome = some .failed) : wpAny M A (reRunToEnd m) Q E s := by
  unfold reRunToEnd
  refine wpAny_bind (wpAny_reDrive (r := r) (2 ^ 64) K m (by decide) (by have : (1000000 : Nat) ≤ 4 * 2 ^ 64 := by decide
                                                                         omega) e ?_)
  refine wpAny_bind (wpAny_forIn_list _ (fun _ _ s' => s' = s) _ (fun i rest b s₁ q => ?_) (fun b s₁ q => ?_) _ _ rfl)
  · subst q
    by_cases hi : r.seen.has i = true
    · rw [if_pos hi]; exact wpAny_bind (wpAny_rule (wpAny_pure rfl))
    · rw [if_neg hi]; exact wpAny_pure rfl
  · subst q
    rcases ho with q | q
    · rw [q]; exact wpAny_pure (h.1 q)
    · rw [q]; exact wpAny_pure (h.2 q)
end
end Mine
end
end
section
open PySem PySem.W PySem.Calls PyProof.Rows PySem.Spec
set_option Elab.async false
set_option linter.unusedVariables false
set_option maxRecDepth 100000
noncomputable section
namespace Mine
open PySem.Builtin.Re
variable {w : World} {h : Heap}
theorem whole_str (X : (KK w).In h) (x : Str) (t : Tok) : Looks (model PW w) h (reWholeTarget (.ref 187) (.str x t)) ⟨.ref 187, .str x t, code2, x.cps, 0, 0, 0, x.cps.size⟩ := Looks.of_peek X (by kernel_rfl)
theorem whole_bytes (X : (KK w).In h) (b : Array UInt8) (t : Tok) : Looks (model PW w) h (reWholeTarget (.ref 182) (.bytes b t)) ⟨.ref 182, .bytes b t, code1, b.map (·.toNat), 1, 0, 0, (b.map (·.toNat)).size⟩ := Looks.of_peek X (by kernel_rfl)
theorem lit_str (X : (KK w).In h) (x : Str) (t : Tok) : Looks (model PW w) h (reLiteralCannotBeTurned (.str x t)) () := Looks.of_peek X (by kernel_rfl)
theorem lit_bytes (X : (KK w).In h) (b : Array UInt8) (t : Tok) : Looks (model PW w) h (reLiteralCannotBeTurned (.bytes b t)) () := Looks.of_peek X (by kernel_rfl)
end Mine
end
end
section
open PySem PySem.W PySem.Calls PyProof.Rows PySem.Spec
set_option Elab.async false
set_option linter.unusedVariables false
set_option maxRecDepth 100000
noncomputable section
namespace Mine
open PySem.Builtin.Re
theorem entry_subloop : entryFor table "re.Pattern.sub.loop" = some Builtin.«re.Pattern.sub.loop» := entryFor_of_tree (by kernel_rfl)
theorem plain_subloop : plainId "re.Pattern.sub.loop" = true := by decide +kernel
theorem find_str {M : Model} {A : Around} {E : Value → Shared → Prop} {s : Shared} {x : Array Nat} {p v : Value} {at_ : Nat} {Q : Option Sre.M → Shared → Prop} (hx : x.size ≤ 10000) (hs : at_ ≤ x.size)
    (h : (∀ t r, at_ ≤ t → t < x.size → is2 x t = true → (∀ u, at_ ≤ u → u < t → is2 x u = false) → r.start = t → r.handed = end2 x t → Q (some r) s) ∧ ((∀ u, at_ ≤ u → u < x.size → is2 x u = false) → Q none s)) :
    wpAny M A (reNextFound ⟨p, v, code2, x, 0, 0, 0, x.size⟩ at_ false) Q E s := by
  show wpAny M A (reRunToEnd (Sre.forSearch code2 x 0 at_ x.size false)) Q E s
  rcases search2 x at_ hs with ⟨t, h1, h2, h3, h4, r, h5, h6, h7, h8⟩ | ⟨h4, r, h5, h6⟩
  · exact wpAny_reRun h5 (by decide) ⟨fun _ => h.1 t r h1 h2 h3 h4 h7 h8, fun q => by rw [h6] at q; cases q⟩ (.inl h6)
  · exact wpAny_reRun h5 (by decide) ⟨fun q => (by rw [h6] at q; cases q), fun _ => h.2 h4⟩ (.inr h6)
theorem find_bytes {M : Model} {A : Around} {E : Value → Shared → Prop} {s : Shared} {x : Array Nat} {p v : Value} {at_ : Nat} {Q : Option Sre.M → Shared → Prop} (hx : x.size ≤ 10000) (hs : at_ ≤ x.size)
    (h : (∀ t r, at_ ≤ t → t < x.size → hit1 x t = true → (∀ u, at_ ≤ u → u < t → hit1 x u = false) → r.start = t → r.handed = t + 1 → Q (some r) s) ∧ ((∀ u, at_ ≤ u → u < x.size → hit1 x u = false) → Q none s)) :
    wpAny M A (reNextFound ⟨p, v, code1, x, 1, 0, 0, x.size⟩ at_ false) Q E s := by
  show wpAny M A (reRunToEnd (Sre.forSearch code1 x 0 at_ x.size false)) Q E s
  rcases search1 x at_ hs with ⟨t, h1, h2, h3, h4, r, h5, h6, h7, h8⟩ | ⟨h4, r, h5, h6⟩
  · exact wpAny_reRun h5 (by omega) ⟨fun _ => h.1 t r h1 h2 h3 h4 h7 h8, fun q => by rw [h6] at q; cases q⟩ (.inl h6)
  · exact wpAny_reRun h5 (by omega) ⟨fun q => (by rw [h6] at q; cases q), fun _ => h.2 h4⟩ (.inr h6)
end Mine
end
end
section
open PySem PySem.W PySem.Calls PyProof.Rows PySem.Spec
set_option Elab.async false
set_option linter.unusedVariables false
set_option maxRecDepth 100000
noncomputable section
namespace Mine
open PySem.Builtin.Re
noncomputable def flatL (l : List (Str × Tok)) : List Nat := (l.map fun p => cpsL p.1).flatten
theorem flat_snoc (l : List (Str × Tok)) (x : Str) (t : Tok) : flatL (l ++ [(x, t)]) = flatL l ++ cpsL x := by unfold flatL; simp
theorem glued_empty : ∀ l : List Str, cpsL (Txt.join Str.empty l) = (l.map cpsL).flatten := by
  intro l
  show cpsL (Builtin.Str.glued Str.empty l) = _
  rw [StrLaws.glued_eq_join]
  induction l with
  | nil => rfl
  | cons x r ih =>
    cases r with
    | nil => show cpsL x = cpsL x ++ []; rw [List.append_nil]
    | cons y r =>
      show cpsL (x ++ Str.empty ++ Str.join Str.empty (y :: r)) = _
      rw [cpsL_append, cpsL_append, ih, show cpsL Str.empty = [] from rfl, List.append_nil]
      rfl
theorem strVals_snoc (l : List (Str × Tok)) (x : Str) (t : Tok) : strValues (l ++ [(x, t)]) = strValues l ++ [.str x t] := by unfold strValues; simp
section
variable {C : Cx} {B F : PH} {Lc : Addr} {m : Vars} {σ : Led} {A : Around} {R : Result → Shared → Prop} {E : Value → Shared → Prop}
theorem push_piece {Q : Unit → Shared → Prop} {s : Shared} {L : Addr} {l : List (Str × Tok)} {x : Str} {t : Tok} (S : St C B F Lc m ((L, isList (strValues l)) :: σ) s) (hl : l.length ≤ 3000)
    (h : ∀ s', St C B F Lc m ((L, isList (strValues (l ++ [(x, t)]))) :: σ) s' → Q () s') : wpAny (MM C) A (updateSeq L (·.push (.str x t))) Q E s := by
  obtain ⟨_, ho, n, rfl⟩ := S.own _ (.head _)
  have hlen : (strValues l).length = l.length := by unfold strValues; simp
  refine wpAny_updateSeq ho rfl (h _ ?_) (by rw [sizeLine_eq]; simp [hlen]; omega) (by rw [sizeLine_eq]; simp [hlen]; omega)
  refine S.set0 (t := s.toks) (Heap.get?_update_self _ ho rfl) ⟨n + 1, ?_⟩ (Heap.SameBut.update ..)
  rw [strVals_snoc]
  simp [Obj.mapSeq]
end
end Mine
end
end
section
open PySem PySem.W PySem.Calls PyProof.Rows PySem.Spec
set_option Elab.async false
set_option linter.unusedVariables false
set_option maxRecDepth 100000
noncomputable section
namespace Mine
open PySem.Builtin.Re
theorem cut_str (x : Array Nat) (a b : Nat) : cpsL ⟨x.extract a b⟩ = cut x a b := by
  unfold cpsL cut
  show (x.extract a b).toList = _
  rw [Array.toList_extract]
section
variable {C : Cx} {B F : PH} {Lc : Addr} {m : Vars} {σ : Led} {A : Around} {R : Result → Shared → Prop} {E : Value → Shared → Prop}
theorem push_cut {β : Type} {Q : β → Shared → Prop} {s : Shared} {L : Addr} {l : List (Str × Tok)} {x : Array Nat} {a q : Nat} {K : Unit → Sem β} (S : St C B F Lc m ((L, isList (strValues l)) :: σ) s) (hl : l.length ≤ 2500) (hq : a ≤ q) (hx : x.size ≤ 1000)
    (hp : ∀ p ∈ l, p.1.length ≤ 1000) (h : ∀ s1 l1, St C B F Lc m ((L, isList (strValues l1)) :: σ) s1 → l1.length ≤ l.length + 1 → (∀ p ∈ l1, p.1.length ≤ 1000) → flatL l1 = flatL l ++ cut x a q → wpAny (MM C) A (K ()) Q E s1) :
    wpAny (MM C) A (if a < q then (reSlice x 0 a q >>= fun v => updateSeq L (·.push v) >>= K) else K ()) Q E s := by
  by_cases hd : a < q
  · refine wp_if_pos hd ?_
    refine wpAny_bind ?_
    show wpAny (MM C) A (mkStr ⟨x.extract a q⟩) _ _ _
    have hsz : (⟨x.extract a q⟩ : Str).length ≤ 1000 := by show (x.extract a q).size ≤ _; rw [Array.size_extract]; (first | lia | omega)
    refine wpAny_mkStr ?_ (by rw [sizeLine_eq]; (first | lia | omega))
    refine wpAny_bind (push_piece S.toks (by (first | lia | omega)) fun s1 S1 => ?_)
    refine h _ _ S1 (by simp) (fun p hpp => ?_) ?_
    · rcases List.mem_append.mp hpp with hpp | hpp
      · exact hp p hpp
      · rw [List.mem_singleton.mp hpp]; exact hsz
    · rw [flat_snoc, cut_str]
  · refine wp_if_neg hd ?_
    have : a = q := by (first | lia | omega)
    subst this
    exact h s l S (by (first | lia | omega)) hp (by rw [cut_self, List.append_nil])
noncomputable def loopStr (x : Str) (t : Tok) (u : Tok) (n done : Nat) (L : Addr) : Code := .builtin "re.Pattern.sub.loop" ⟨[.ref 187, .str x t, .str (Str.ofString "\r\n") u, rawInt 0, rawInt 0, rawInt n, rawInt done, rawInt done, .bool false, .ref L, .bool false], []⟩
theorem loop_str (x : Str) (t u : Tok) (hx : x.length ≤ 1000) (L : Addr)
    (hR : ∀ y t' s' l, cpsL y = fixE (cpsL x) → St C B F Lc m ((L, isList (strValues l)) :: σ) s' → R (.ok (.ret (.str y t'))) s') :
    ∀ (k done n : Nat) (l : List (Str × Tok)) (s : Shared), done + k = x.length → l.length ≤ 2 * done → (∀ p ∈ l, p.1.length ≤ 1000) → flatL l ++ fixE (x.cps.toList.drop done) = fixE (cpsL x) →
      St C B F Lc m ((L, isList (strValues l)) :: σ) s → codeAny (MM C) A (loopStr x t u n done L) R s := by
  intro k
  induction k using Nat.strongRecOn with
  | _ k ih =>
    intro done n l s hk hl hp hf S
    have hxs : x.cps.size = x.length := rfl
    unfold loopStr
    refine codeAny_builtin entry_subloop ?_
    rw [Around.under_plainId plain_subloop _]
    show wpAny (MM C) A.in1 (reWholeTarget (.ref 187) (.str x t) >>= fun tg => _) _ _ s
    refine wpAny_bind ((whole_str S.world.k x t).here ?_)
    dsimp only
    refine wp_if_pos (by decide) ?_
    refine wpAny_bind ((lit_str S.world.k _ u).here ?_)
    refine wpAny_bind ?_
    rw [if_neg (by simp), Int.toNat_natCast]
    refine find_str (by (first | lia | omega)) (by (first | lia | omega)) ⟨fun q r h1 h2 h3 h4 h5 h6 => ?_, fun h4 => ?_⟩
    · have he := end2_le h2
      dsimp only
      rw [h5, h6]
      refine push_cut S (by (first | lia | omega)) h1 hx hp fun s1 l1 S1 hl1 hp1 hf1 => ?_
      refine wp_if_pos (by decide) ?_
      refine wpAny_bind (wpAny_pure ?_)
      refine wp_if_pos (by rfl) ?_
      refine wpAny_bind (push_piece S1 (by (first | lia | omega)) fun s2 S2 => ?_)
      refine wpAny_pure ⟨plainId_quiet plain_subloop _, ?_⟩
      have hlen : (l1 ++ [(Str.ofString "\r\n", u)]).length = l1.length + 1 := by simp
      have hgo := ih (x.length - end2 x.cps q) (by (first | lia | omega)) (end2 x.cps q) (n + 1) (l1 ++ [(Str.ofString "\r\n", u)]) s2 (by (first | lia | omega)) (by (first | lia | omega)) (fun p hpp => by
        rcases List.mem_append.mp hpp with hpp | hpp
        · exact hp1 p hpp
        · rw [List.mem_singleton.mp hpp]; exact (by decide : (Str.ofString "\r\n").length ≤ 1000)) (by
        rw [flat_snoc, ← hf, fix_hit h1 h2 h3 h4, hf1, show cpsL (Str.ofString "\r\n") = [13, 10] by decide]
        simp only [List.append_assoc]; rfl) S2
      unfold loopStr at hgo
      rw [show (end2 x.cps q == q) = false by rw [beq_eq_false_iff_ne]; (first | lia | omega)]
      exact hgo
    · dsimp only
      refine push_cut S (by (first | lia | omega)) (by (first | lia | omega)) hx hp fun s1 l1 S1 hl1 hp1 hf1 => ?_
      have hfin : flatL l1 = fixE (cpsL x) := by rw [hf1, ← hf, fix_none (by (first | lia | omega)) h4]
      have hemp : (⟨x.cps.extract 0 0⟩ : Str) = Str.empty := Str.ext' (by show x.cps.extract 0 0 = #[]; simp)
      refine wpAny_bind ?_
      show wpAny (MM C) A.in1 (mkStr ⟨x.cps.extract 0 0⟩) _ _ _
      rw [hemp]
      refine wpAny_mkStr ?_ (by decide)
      have S2 := S1.toks (t := s1.toks + 1)
      obtain ⟨_, ho, nn, rfl⟩ := S2.own _ (.head _)
      refine wpAny_bind (wpAny_seqItems ho rfl ?_)
      by_cases he : ((some (strValues l1).toArray).getD #[]).isEmpty = true
      · refine wp_if_pos he ?_
        refine wpAny_bind (wpAny_pure ?_)
        refine wp_if_neg (by decide) ?_
        refine wpAny_pure (hR _ _ _ l1 ?_ S2)
        have hz : l1 = [] := by
          have : (strValues l1) = [] := by simpa using he
          unfold strValues at this
          simpa using this
        rw [← hfin, hz]; rfl
      · refine wp_if_neg he ?_
        refine wpAny_bind ?_
        refine SC.join (l := l1) (texts := l1.map (·.1)) (isList_at ⟨_, ho, nn, rfl⟩) rfl ?_ (fun t' k => ?_)
        · unfold JoinOk
          rw [StrLaws.joinFits (B := 1000) (fun y hy => by obtain ⟨p, hpp, rfl⟩ := List.mem_map.mp hy; exact hp1 p hpp) (by rw [List.length_map, show Str.empty.length = 0 from rfl]; (first | lia | omega))]
          rfl
        · refine wp_if_neg (by decide) ?_
          refine wpAny_pure (hR _ _ _ l1 ?_ S2.toks)
          rw [glued_empty, List.map_map]
          exact hfin
end
end Mine
end
end
section
open PySem PySem.W PySem.Calls PyProof.Rows PySem.Spec
set_option Elab.async false
set_option linter.unusedVariables false
set_option maxRecDepth 100000
noncomputable section
namespace Mine
open Builtin
section
variable {b : Array UInt8} {t : Tok}
theorem take_eq {id : String} : Bytes.takeBufferQuiet? id (.bytes b t) 0 = pure (some (b, none)) := by
  have e : Bytes.takeBuffer? id (.bytes b t) 0 = pure (some (b, none)) := by
    unfold Bytes.takeBuffer?
    rw [KBy.special_eq KBy.look_buffer, KBy.own_buffer]
    show (do return (← Bytes.buffer? id (.bytes b t) (full := (0 : Int) == Bytes.fullReadOnly)).map (·, none) : Sem _) = _
    rw [show Bytes.buffer? id (.bytes b t) (full := (0 : Int) == Bytes.fullReadOnly) = pure (some b) by
      unfold Bytes.buffer?
      rw [KBy.special_eq KBy.look_buffer, KBy.own_buffer, KBy.own_release]
      kernel_rfl]
    rfl
  unfold Bytes.takeBufferQuiet?
  rw [e]
  rfl
end
theorem slot_bytes_join : Slot "bytes" "join" "bytes.join" :=
  .of (owner := "bytes") (n := "join") (by rw [typeLookup_type, builtinLookup_eq_fast]; kernel_rfl) (by decide +kernel) (by decide +kernel) (by decide +kernel)
    (by first | exact .inl (by decide +kernel) | exact .inr (by decide +kernel)) (by rw [isSubtype_type]; kernel_rfl)
theorem entry_bytes_join : entryFor table "bytes.join" = some Builtin.«bytes.join» := entryFor_of_tree (by kernel_rfl)
theorem args_bytes_join (a b : Value) : argsOk "bytes.join" ⟨[a, b], []⟩ := by
  unfold argsOk; rw [signature?_of (id := "bytes.join") (n := ['n', 'i', 'o', 'j']) (o := ['s', 'e', 't', 'y', 'b']) (by kernel_rfl) FB.owner_bytes]; kernel_rfl
noncomputable def bytesValues (l : List (Array UInt8 × Tok)) : List Value := l.map fun p => .bytes p.1 p.2
noncomputable def flatB (l : List (Array UInt8 × Tok)) : Array UInt8 := (l.map fun p => p.1.toList).flatten.toArray
theorem letGo_all {M : Model} {A : Around} {E : Value → Shared → Prop} {s : Shared} {Q : Unit → Shared → Prop} (keep : List Value) (h : Q () s) : ∀ l : List (Value × Option Value), (∀ p ∈ l, p.2 = none) → wpAny M A (Bytes.joinLetGo l keep) Q E s
  | [], _ => wpAny_pure h
  | (x, w) :: rest, hn => by
    have : w = none := hn _ (.head _)
    subst this
    unfold Bytes.joinLetGo
    exact wpAny_bind (wpAny_letGo (letGo_all keep h rest fun p hp => hn p (.tail _ hp)))
end Mine
end
end
section
open PySem PySem.W PySem.Calls PyProof.Rows PySem.Spec
set_option Elab.async false
set_option linter.unusedVariables false
set_option maxRecDepth 100000
noncomputable section
namespace Mine
open Builtin
section
variable {prog : Program} {w : World} {A : Around} {E : Value → Shared → Prop} {s : Shared}
theorem joined_from : ∀ (ps : List (Array UInt8)) (k : Nat) (acc : Array UInt8), ((ps.zipIdx k).foldl (fun out (x : Array UInt8 × Nat) => (if x.2 > 0 then out ++ (#[] : Array UInt8) else out) ++ x.1) acc).toList = acc.toList ++ (ps.map Array.toList).flatten
  | [], _, _ => by simp
  | p :: ps, k, acc => by
    rw [List.zipIdx_cons, List.foldl_cons, joined_from ps]
    simp
theorem joined_flat (l : List (Array UInt8 × Tok)) : Bytes.joined #[] (l.map (·.1)) = flatB l := by
  apply Array.toList_inj.mp
  have h1 := joined_from (l.map (fun p => p.1)) 0 #[]
  have h2 : (Bytes.joined #[] (l.map (fun p => p.1))).toList = (#[] : Array UInt8).toList ++ ((l.map (fun p => p.1)).map Array.toList).flatten := h1
  rw [h2]
  unfold flatB
  simp [List.map_map, Function.comp_def]
theorem sum_sizes : ∀ (l : List (Array UInt8 × Tok)) (n : Nat), (∀ p ∈ l, p.1.size ≤ 1000) → (l.map (·.1)).foldl (fun x1 (x2 : Array UInt8) => x1 + x2.size) n ≤ n + 1000 * l.length
  | [], n, _ => by simp
  | p :: l, n, h => by
    have := sum_sizes l (n + p.1.size) fun q hq => h q (.tail _ hq)
    have h1 := h p (.head _)
    rw [List.map_cons, List.foldl_cons, List.length_cons]
    (first | lia | omega)
theorem flat_size : ∀ (l : List (Array UInt8 × Tok)), (∀ p ∈ l, p.1.size ≤ 1000) → (flatB l).size ≤ 1000 * l.length
  | [], _ => by simp [flatB]
  | p :: l, h => by
    have := flat_size l fun q hq => h q (.tail _ hq)
    have h1 := h p (.head _)
    have e : (flatB (p :: l)).size = p.1.size + (flatB l).size := by unfold flatB; simp
    rw [e, List.length_cons]
    (first | lia | omega)
theorem meets_join_bytes (L : Addr) (l : List (Array UInt8 × Tok)) (t : Tok) {R : Result → Shared → Prop} (hl : s.heap.IsList L (bytesValues l).toArray) (hsz : ∀ p ∈ l, p.1.size ≤ 1000) (hn : l.length ≤ 3000)
    (h : ∀ t' k, R (.ok (.ret (.bytes (flatB l) t'))) { s with toks := k }) :
    wpAny (model prog w) A («bytes.join» ⟨[.bytes #[] t, .ref L], []⟩) (fun fin s' => ∃ v, fin = .done (.ret v) ∧ R (.ok (.ret v)) s') (fun e s' => R (.error e) s') s := by
  have hT := hl.typeIs
  obtain ⟨o, ho, hc, n, hd⟩ := hl
  show wpAny _ _ (Bytes.joinM .bytes _) _ _ s
  unfold Bytes.joinM
  refine wpAny_bind (wpAny_pure ?_)
  dsimp only
  refine wp_if_pos (by decide) ?_
  refine wpAny_bind ?_
  unfold Bytes.joinItems
  refine wpAny_bind (wpAny_typeOf hT ?_)
  refine wp_if_pos (by decide) ?_
  refine wpAny_pure ?_
  refine wpAny_bind (wpAny_seqItems ho hd ?_)
  dsimp only
  refine wp_if_pos (by decide) ?_
  rcases l with _ | ⟨p, _ | ⟨p2, r⟩⟩
  · refine wpAny_bind ?_
    rw [Std.Legacy.Range.forIn_eq_forIn_range']
    refine wpAny_pure ?_
    show wpAny (model prog w) A (Bytes.payload (.bytes #[] t) >>= fun sep => _) _ _ _
    refine wpAny_bind (wpAny_of_eq (show Bytes.payload (.bytes #[] t) = pure #[] from rfl) ?_)
    refine wpAny_bind ?_
    show wpAny (model prog w) A (mkBytes (flatB [])) _ _ _
    refine wpAny_mkBytes ?_ (by decide)
    refine wpAny_bind (wpAny_holding (wpAny_point ?_))
    refine wpAny_bind (letGo_all _ ?_ _ (fun p hp => nomatch hp))
    exact wpAny_pure ⟨_, rfl, h _ _⟩
  · show wpAny (model prog w) A (typeOf (.bytes p.1 p.2) >>= fun ty => _) _ _ s
    refine wpAny_bind (wpAny_typeOf (typeIs_bytes s p.1 p.2) ?_)
    refine wp_if_pos (by decide) ?_
    refine wpAny_bind (wpAny_rule (wpAny_pure ⟨_, rfl, ?_⟩))
    have := h p.2 s.toks
    have e : flatB [p] = p.1 := by unfold flatB; simp
    rw [e] at this
    exact this
  · refine wpAny_bind ?_
    generalize hl0 : p :: p2 :: r = l at *
    rw [Std.Legacy.Range.forIn_eq_forIn_range']
    refine wpAny_forIn_list _ (fun rest b s' => s' = s ∧ ∃ j, rest = List.range' j (l.length - j) ∧ b.1.toList = (l.take j).map (·.1) ∧ b.2 = (l.take j).map (fun p => (Value.bytes p.1 p.2, none))) _ (fun i rest b s₁ q => ?_) (fun b s₁ q => ?_) _ _ ⟨rfl, 0, ?_, rfl, rfl⟩
    · obtain ⟨rfl, j, oh⟩ := q; refine and3 oh fun hr hb1 hb2 => ?_; clear oh
      have hlt : j < l.length := by
        rcases Nat.lt_or_ge j l.length with g | g
        · exact g
        · rw [show l.length - j = 0 by (first | lia | omega)] at hr; cases hr
      rw [show l.length - j = (l.length - (j + 1)) + 1 by (first | lia | omega), List.range'_succ] at hr
      obtain ⟨rfl, rfl⟩ := List.cons.inj hr
      have hx : (bytesValues l).toArray.getD i .none = .bytes l[i].1 l[i].2 := by
        simp [bytesValues, hlt]
      refine wpAny_bind (wpAny_seqItems ho hd ?_)
      dsimp only
      have hany : (b.2.any fun x => x.1.onHeap) = false := by
        rw [hb2, List.any_eq_false]
        intro p hp
        obtain ⟨_, _, rfl⟩ := List.mem_map.mp hp
        show ¬ (false = true)
        decide
      rw [if_neg (by rw [hany]; decide), hx]
      refine wpAny_bind (wpAny_holding (wpAny_of_eq take_eq ?_))
      dsimp only
      refine wpAny_bind (wpAny_seqItems ho hd ?_)
      dsimp only
      refine wp_if_neg (by simp) ?_
      refine wpAny_pure ⟨rfl, i + 1, rfl, ?_, ?_⟩
      · rw [Array.toList_push, hb1, List.take_add_one, List.getElem?_eq_getElem hlt, List.map_append]; rfl
      · dsimp only
        rw [hb2, List.take_add_one, List.getElem?_eq_getElem hlt, List.map_append]; rfl
    · obtain ⟨rfl, j, oh⟩ := q; refine and3 oh fun hr hb1 hb2 => ?_; clear oh
      have hj : l.length ≤ j := by
        have := congrArg List.length hr
        simp at this
        (first | lia | omega)
      rw [List.take_of_length_le hj] at hb1 hb2
      show wpAny (model prog w) A (Bytes.payload (.bytes #[] t) >>= fun sep => _) _ _ _
      refine wpAny_bind (wpAny_of_eq (show Bytes.payload (.bytes #[] t) = pure #[] from rfl) ?_)
      have htl : Bytes.tooLong (Array.foldl (fun x1 x2 => x1 + x2.size) ((#[] : Array UInt8).size * (b.1.size - 1)) b.1) = false := by
        refine KBy.tooLong_not ?_
        rw [← Array.foldl_toList, hb1]
        have := sum_sizes l ((#[] : Array UInt8).size * (b.1.size - 1)) hsz
        have e0 : (#[] : Array UInt8).size * (b.1.size - 1) = 0 := by simp
        (first | lia | omega)
      refine wp_if_neg (by rw [htl]; decide) ?_
      have hjn : Bytes.joined #[] b.1.toList = flatB l := by rw [hb1]; exact joined_flat l
      rw [hjn]
      refine wpAny_bind ?_
      show wpAny (model prog w) A (mkBytes (flatB l)) _ _ _
      refine wpAny_mkBytes ?_ ?_
      · refine wpAny_bind (wpAny_holding (wpAny_point ?_))
        refine wpAny_bind (letGo_all _ ?_ _ (fun p hp => ?_))
        · exact wpAny_pure ⟨_, rfl, h _ _⟩
        · rw [hb2] at hp
          obtain ⟨_, _, rfl⟩ := List.mem_map.mp hp
          rfl
      · have := flat_size l hsz
        rw [sizeLine_eq]; (first | lia | omega)
    · simp [Std.Legacy.Range.size, bytesValues]
end
end Mine
end
end
section
open PySem PySem.W PySem.Calls PyProof.Rows PySem.Spec
set_option Elab.async false
set_option linter.unusedVariables false
set_option maxRecDepth 100000
noncomputable section
namespace Mine
open PySem.Builtin.Re
noncomputable def natA (b : Array UInt8) : Array Nat := b.map (·.toNat)
noncomputable def natL (b : Array UInt8) : List Nat := (natA b).toList
theorem natA_size (b : Array UInt8) : (natA b).size = b.size := Array.size_map ..
noncomputable def sliceB (x : Array UInt8) (a b : Nat) : Array UInt8 := ((natA x).extract a b).map (·.toUInt8)
theorem toNat_u8 : ∀ l : List Nat, (∀ n ∈ l, n < 256) → l.map ((fun (b : UInt8) => b.toNat) ∘ fun n => n.toUInt8) = l := fun l => by
  induction l with
  | nil => intro _; rfl
  | cons n l ih =>
    intro h
    rw [List.map_cons, ih fun m hm => h m (.tail _ hm)]
    congr 1
    have := h n (.head _)
    show n.toUInt8.toNat = n
    simp [Nat.toUInt8]
    (first | lia | omega)
theorem natA_lt (x : Array UInt8) : ∀ n ∈ (natA x).toList, n < 256 := fun n hn => by
  unfold natA at hn
  rw [Array.toList_map] at hn
  refine ex1 (List.mem_map.mp hn) fun b oh => ?_; refine and2 (oh) fun _ oq2 => ?_; clear oh; subst oq2
  exact b.toNat_lt
theorem cut_bytes (x : Array UInt8) (a b : Nat) : natL (sliceB x a b) = cut (natA x) a b := by
  unfold natL sliceB cut
  conv => lhs; unfold natA
  rw [Array.toList_map, Array.toList_map, List.map_map]
  change (((natA x).extract a b).toList.map ((fun (b : UInt8) => b.toNat) ∘ fun n => n.toUInt8)) = _
  rw [Array.toList_extract]
  exact toNat_u8 _ fun n hn => natA_lt x n (List.mem_of_mem_drop (List.mem_of_mem_take hn))
theorem slice_size (x : Array UInt8) (a b : Nat) : (sliceB x a b).size ≤ x.size := by
  unfold sliceB
  rw [Array.size_map, Array.size_extract, natA_size]; (first | lia | omega)
noncomputable def flatN (l : List (Array UInt8 × Tok)) : List Nat := (l.map fun p => natL p.1).flatten
theorem flatN_snoc (l : List (Array UInt8 × Tok)) (x : Array UInt8) (t : Tok) : flatN (l ++ [(x, t)]) = flatN l ++ natL x := by unfold flatN; simp
theorem natL_flat (l : List (Array UInt8 × Tok)) : natL (flatB l) = flatN l := by
  induction l with
  | nil => simp [natL, natA, flatB, flatN]
  | cons p l ih =>
    have e : flatB (p :: l) = p.1 ++ flatB l := by unfold flatB; simp
    rw [e]
    unfold natL natA at *
    rw [Array.map_append, Array.toList_append, ih]
    unfold flatN
    rw [List.map_cons, List.flatten_cons]; rfl
theorem bytesVals_snoc (l : List (Array UInt8 × Tok)) (x : Array UInt8) (t : Tok) : bytesValues (l ++ [(x, t)]) = bytesValues l ++ [.bytes x t] := by unfold bytesValues; simp
section
variable {prog : Program} {w : World} {A : Around} {E : Value → Shared → Prop} {s : Shared}
theorem call_join_bytes {Q : Value → Shared → Prop} {L : Addr} {l : List (Array UInt8 × Tok)} {t : Tok} (hl : s.heap.IsList L (bytesValues l).toArray) (hsz : ∀ p ∈ l, p.1.size ≤ 1000) (hn : l.length ≤ 3000)
    (h : ∀ t' k, Q (.bytes (flatB l) t') { s with toks := k }) : wpAny (model prog w) A (call (.builtin "bytes.join") [.bytes #[] t, .ref L]) Q E s :=
  call_meets slot_bytes_join (typeIs_bytes _ _ _) entry_bytes_join (args_bytes_join _ _) (S := fun A R s => s.heap.IsList L (bytesValues l).toArray ∧ ∀ t' k, R (.ok (.ret (.bytes (flatB l) t'))) { s with toks := k })
    (fun prog w A R s hS => wpAny_mono (meets_join_bytes L l t hS.1 hsz hn hS.2) (fun fin s' q => by obtain ⟨v, rfl, q⟩ := q; exact q) fun _ _ q => q) ⟨hl, h⟩
end
section
variable {C : Cx} {B F : PH} {Lc : Addr} {m : Vars} {σ : Led} {A : Around} {R : Result → Shared → Prop} {E : Value → Shared → Prop}
theorem push_pieceB {Q : Unit → Shared → Prop} {s : Shared} {L : Addr} {l : List (Array UInt8 × Tok)} {x : Array UInt8} {t : Tok} (S : St C B F Lc m ((L, isList (bytesValues l)) :: σ) s) (hl : l.length ≤ 3000)
    (h : ∀ s', St C B F Lc m ((L, isList (bytesValues (l ++ [(x, t)]))) :: σ) s' → Q () s') : wpAny (MM C) A (updateSeq L (·.push (.bytes x t))) Q E s := by
  obtain ⟨_, ho, n, rfl⟩ := S.own _ (.head _)
  have hlen : (bytesValues l).length = l.length := by unfold bytesValues; simp
  refine wpAny_updateSeq ho rfl (h _ ?_) (by rw [sizeLine_eq]; simp [hlen]; (first | lia | omega)) (by rw [sizeLine_eq]; simp [hlen]; (first | lia | omega))
  refine S.set0 (t := s.toks) (Heap.get?_update_self _ ho rfl) ⟨n + 1, ?_⟩ (Heap.SameBut.update ..)
  rw [bytesVals_snoc]
  simp [Obj.mapSeq]
theorem push_cutB {β : Type} {Q : β → Shared → Prop} {s : Shared} {L : Addr} {l : List (Array UInt8 × Tok)} {x : Array UInt8} {a q : Nat} {K : Unit → Sem β} (S : St C B F Lc m ((L, isList (bytesValues l)) :: σ) s) (hl : l.length ≤ 2500) (hq : a ≤ q) (hx : x.size ≤ 1000)
    (hp : ∀ p ∈ l, p.1.size ≤ 1000) (h : ∀ s1 l1, St C B F Lc m ((L, isList (bytesValues l1)) :: σ) s1 → l1.length ≤ l.length + 1 → (∀ p ∈ l1, p.1.size ≤ 1000) → flatN l1 = flatN l ++ cut (natA x) a q → wpAny (MM C) A (K ()) Q E s1) :
    wpAny (MM C) A (if a < q then (reSlice (natA x) 1 a q >>= fun v => updateSeq L (·.push v) >>= K) else K ()) Q E s := by
  by_cases hd : a < q
  · refine wp_if_pos hd ?_
    refine wpAny_bind ?_
    show wpAny (MM C) A (mkBytes (sliceB x a q)) _ _ _
    have hsz := slice_size x a q
    refine wpAny_mkBytes ?_ (by rw [sizeLine_eq]; (first | lia | omega))
    refine wpAny_bind (push_pieceB S.toks (by (first | lia | omega)) fun s1 S1 => ?_)
    refine h _ _ S1 (by simp) (fun p hpp => ?_) ?_
    · rcases List.mem_append.mp hpp with hpp | hpp
      · exact hp p hpp
      · rw [List.mem_singleton.mp hpp]; exact Nat.le_trans hsz hx
    · rw [flatN_snoc, cut_bytes]
  · refine wp_if_neg hd ?_
    have : a = q := by (first | lia | omega)
    subst this
    exact h s l S (by (first | lia | omega)) hp (by rw [cut_self, List.append_nil])
noncomputable def loopBytes (x : Array UInt8) (t : Tok) (u : Tok) (n done : Nat) (L : Addr) : Code := .builtin "re.Pattern.sub.loop" ⟨[.ref 182, .bytes x t, .bytes #[46, 46] u, rawInt 0, rawInt 0, rawInt n, rawInt done, rawInt done, .bool false, .ref L, .bool false], []⟩
theorem loop_bytes (x : Array UInt8) (t u : Tok) (hx : x.size ≤ 1000) (L : Addr)
    (hR : ∀ y t' s' l, natL y = quoteD true (natL x) → St C B F Lc m ((L, isList (bytesValues l)) :: σ) s' → R (.ok (.ret (.bytes y t'))) s') :
    ∀ (k done n : Nat) (l : List (Array UInt8 × Tok)) (s : Shared), done + k = x.size → l.length ≤ 2 * done → (∀ p ∈ l, p.1.size ≤ 1000) → flatN l ++ quoteD (bol (natA x) done) ((natA x).toList.drop done) = quoteD true (natL x) →
      St C B F Lc m ((L, isList (bytesValues l)) :: σ) s → codeAny (MM C) A (loopBytes x t u n done L) R s := by
  intro k
  induction k using Nat.strongRecOn with
  | _ k ih =>
    intro done n l s hk hl hp hf S
    have hxs := natA_size x
    unfold loopBytes
    refine codeAny_builtin entry_subloop ?_
    rw [Around.under_plainId plain_subloop _]
    show wpAny (MM C) A.in1 (reWholeTarget (.ref 182) (.bytes x t) >>= fun tg => _) _ _ s
    refine wpAny_bind ((whole_bytes S.world.k x t).here ?_)
    rw [show Array.map (fun (b : UInt8) => b.toNat) x = natA x from rfl]
    dsimp only
    refine wp_if_pos (by decide) ?_
    refine wpAny_bind ((lit_bytes S.world.k _ u).here ?_)
    refine wpAny_bind ?_
    rw [if_neg (by simp), Int.toNat_natCast]
    refine find_bytes (by (first | lia | omega)) (by (first | lia | omega)) ⟨fun q r h1 h2 h3 h4 h5 h6 => ?_, fun h4 => ?_⟩
    · dsimp only
      rw [h5, h6]
      refine push_cutB S (by (first | lia | omega)) h1 hx hp fun s1 l1 S1 hl1 hp1 hf1 => ?_
      refine wp_if_pos (by decide) ?_
      refine wpAny_bind (wpAny_pure ?_)
      refine wp_if_pos (by rfl) ?_
      refine wpAny_bind (push_pieceB S1 (by (first | lia | omega)) fun s2 S2 => ?_)
      refine wpAny_pure ⟨plainId_quiet plain_subloop _, ?_⟩
      have hlen : (l1 ++ [((#[46, 46] : Array UInt8), u)]).length = l1.length + 1 := by simp
      have hgo := ih (x.size - (q + 1)) (by (first | lia | omega)) (q + 1) (n + 1) (l1 ++ [(#[46, 46], u)]) s2 (by (first | lia | omega)) (by (first | lia | omega)) (fun p hpp => by
        rcases List.mem_append.mp hpp with hpp | hpp
        · exact hp1 p hpp
        · rw [List.mem_singleton.mp hpp]; exact (by decide : (#[46, 46] : Array UInt8).size ≤ 1000)) (by
        rw [flatN_snoc, ← hf, quote_hit h1 h2 h3 h4, hf1, show natL #[46, 46] = [46, 46] by simp [natL, natA]]
        simp only [List.append_assoc]; rfl) S2
      unfold loopBytes at hgo
      rw [show (q + 1 == q) = false by rw [beq_eq_false_iff_ne]; (first | lia | omega)]
      exact hgo
    · dsimp only
      refine push_cutB S (by (first | lia | omega)) (by (first | lia | omega)) hx hp fun s1 l1 S1 hl1 hp1 hf1 => ?_
      have hfin : flatN l1 = quoteD true (natL x) := by rw [hf1, ← hf, quote_none (by (first | lia | omega)) h4]
      refine wpAny_bind ?_
      show wpAny (MM C) A.in1 (mkBytes (sliceB x 0 0)) _ _ _
      rw [show sliceB x 0 0 = #[] by unfold sliceB; simp]
      refine wpAny_mkBytes ?_ (by decide)
      have S2 := S1.toks (t := s1.toks + 1)
      obtain ⟨_, ho, nn, rfl⟩ := S2.own _ (.head _)
      refine wpAny_bind (wpAny_seqItems ho rfl ?_)
      by_cases he : ((some (bytesValues l1).toArray).getD #[]).isEmpty = true
      · refine wp_if_pos he ?_
        refine wpAny_bind (wpAny_pure ?_)
        refine wp_if_neg (by decide) ?_
        refine wpAny_pure (hR _ _ _ l1 ?_ S2)
        have hz : l1 = [] := by
          have : (bytesValues l1) = [] := by simpa using he
          unfold bytesValues at this
          simpa using this
        rw [← hfin, hz]; simp [natL, natA, flatN]
      · refine wp_if_neg he ?_
        refine wpAny_bind ?_
        refine call_join_bytes (l := l1) (isList_at ⟨_, ho, nn, rfl⟩) hp1 (by (first | lia | omega)) (fun t' k => ?_)
        refine wp_if_neg (by decide) ?_
        refine wpAny_pure (hR _ _ _ l1 ?_ S2.toks)
        rw [natL_flat]
        exact hfin
end
end Mine
end
end
section
open PySem PySem.W PySem.Calls PyProof.Rows PySem.Spec
set_option Elab.async false
set_option linter.unusedVariables false
set_option maxRecDepth 100000
noncomputable section
namespace Mine
open PySem.Builtin.Re
theorem plainAttrs_rep : PlainAttrs "re.Pattern" :=
  ⟨⟨"object.__getattribute__", by rw [typeLookup_type, builtinLookup_eq_fast]; kernel_rfl, by decide +kernel⟩, by rw [typeLookup_type, builtinLookup_eq_fast]; kernel_rfl⟩
theorem slot_rep_sub : Slot "re.Pattern" "sub" "re.Pattern.sub" :=
  .of (owner := "re.Pattern") (n := "sub") (by rw [typeLookup_type, builtinLookup_eq_fast]; kernel_rfl) (by decide +kernel) (by decide +kernel) (by decide +kernel)
    (by first | exact .inl (by decide +kernel) | exact .inr (by decide +kernel)) (by rw [isSubtype_type]; kernel_rfl)
theorem type_rep_sub : typeOf (.builtin "re.Pattern.sub") = pure (.type "method_descriptor") := by show builtinType _ = _; rw [builtinType_eq_fast]; kernel_rfl
theorem entry_rep_sub : entryFor table "re.Pattern.sub" = some Builtin.«re.Pattern.sub» := entryFor_of_tree (by kernel_rfl)
theorem args_rep_sub (a b c : Value) : argsOk "re.Pattern.sub" ⟨[a, b, c], []⟩ := by unfold argsOk; kernel_rfl
theorem named_sub (b c : Value) : reNamed "re.Pattern.sub" "sub" ["repl", "string", "count"] 2 [b, c] [] = pure [some b, some c, none] := by kernel_rfl
theorem called_str (x : Str) (t : Tok) : specialOf (.str x t) "__call__" = pure none := by
  show (typeOf (.str x t) >>= fun ty => typeLookup ty "__call__") = _
  show typeLookup (.type "str") "__call__" = _
  rw [typeLookup_type, builtinLookup_eq_fast]; kernel_rfl
theorem called_bytes (x : Array UInt8) (t : Tok) : specialOf (.bytes x t) "__call__" = pure none := by
  show typeLookup (.type "bytes") "__call__" = _
  rw [typeLookup_type, builtinLookup_eq_fast]; kernel_rfl
section
variable {w : World} {h : Heap}
theorem rep_187 (X : (KK w).In h) : ∃ o, h.get? 187 = some o ∧ o.cls = .type "re.Pattern" ∧ o.dict = none := ⟨_, X 187 _ rfl, rfl, rfl⟩
theorem rep_182 (X : (KK w).In h) : ∃ o, h.get? 182 = some o ∧ o.cls = .type "re.Pattern" ∧ o.dict = none := ⟨_, X 182 _ rfl, rfl, rfl⟩
end
section
variable {X : Fm} {m : Vars} {σ : Led}
theorem w_subMethod {a : Addr} {pl : Sem Bool} {Q : Value × List Value → Vars → Led → Prop} (ha : a = 187 ∨ a = 182) (h : Q (.builtin "re.Pattern.sub", [.ref a]) m σ) : W X m σ (getMethod (.ref a) "sub" pl) Q := fun s S => by
  have hk : ∃ o, s.heap.get? a = some o ∧ o.cls = .type "re.Pattern" ∧ o.dict = none := by
    rcases ha with rfl | rfl
    · exact rep_187 S.world.k
    · exact rep_182 S.world.k
  obtain ⟨o, oh⟩ := hk; refine and3 oh fun e hc hd => ?_; clear oh
  exact getMethod_builtin (T := "re.Pattern") ⟨o, e, hc⟩ plainAttrs_rep slot_rep_sub type_rep_sub (fun b hb => by cases hb; exact ⟨o, e, hd⟩) ⟨m, σ, S, h⟩
end
end Mine
end
end
section
open PySem PySem.W PySem.Calls PyProof.Rows PySem.Spec
set_option Elab.async false
set_option linter.unusedVariables false
set_option maxRecDepth 100000
noncomputable section
namespace Mine
open PySem.Builtin
theorem natL_append (a b : Array UInt8) : natL (a ++ b) = natL a ++ natL b := by
  unfold natL natA
  rw [Array.map_append, Array.toList_append]
theorem natL_one (n : Nat) (h : n < 256) : natL #[n.toUInt8] = [n] := by
  have : n.toUInt8.toNat = n := by
    simp [Nat.toUInt8]
    (first | lia | omega)
  unfold natL natA
  rw [Array.toList_map, show (#[n.toUInt8] : Array UInt8).toList = [n.toUInt8] from rfl, List.map_cons, List.map_nil, this]
theorem natL_nil : natL #[] = [] := by simp [natL, natA]
theorem asc_fold : ∀ (l : List Nat) (acc : Array UInt8), (∀ c ∈ l, c < 128) → natL (l.foldl (fun acc y => acc ++ (_codecs.asciiCodec.bytesOf y).toArray) acc) = natL acc ++ l
  | [], acc, _ => by simp
  | c :: l, acc, h => by
    have hc := h c (.head _)
    rw [List.foldl_cons, asc_fold l _ fun d hd => h d (.tail _ hd), natL_append]
    rw [show (_codecs.asciiCodec.bytesOf c).toArray = #[c.toUInt8] from rfl, natL_one c (by (first | lia | omega))]
    simp
section
variable {M : Model} {A : Around} {E : Value → Shared → Prop} {s : Shared}
theorem wpAny_ascii {Q : Array UInt8 → Shared → Prop} {id : String} {errors : Option Str} {self : Value} {x : Str} (hx : ∀ c ∈ x.cps.toList, c < 128) (hsz : x.length ≤ 1000) (h : ∀ y : Array UInt8, natL y = cpsL x → Q y s) :
    wpAny M A (_codecs.encodeNarrow id _codecs.asciiCodec errors self x) Q E s := by
  unfold _codecs.encodeNarrow
  extract_lets
  refine wpAny_bind ?_
  rw [Std.Legacy.Range.forIn_eq_forIn_range']
  have hxs : x.cps.size = x.length := rfl
  refine wpAny_forIn_list _ (fun rest b s' => s' = s ∧ ∃ j, rest = List.range' j (x.length - j) ∧ ((j = 0 ∧ b.1 = 0 ∧ b.2.1 = #[]) ∨ (b.1 = x.length ∧ natL b.2.1 = cpsL x))) _ (fun i rest b s₁ q => ?_) (fun b s₁ q => ?_) _ _ ⟨rfl, 0, ?_, .inl ⟨rfl, rfl, rfl⟩⟩
  · refine and2 (q) fun oq0 ou0 => ?_; (try clear q); refine ex1 (ou0) fun j ou1 => ?_; clear ou0; refine and2 (ou1) fun hr hb => ?_; clear ou1; subst oq0
    have hlt : j < x.length := by
      rcases Nat.lt_or_ge j x.length with g | g
      · exact g
      · rw [show x.length - j = 0 by (first | lia | omega)] at hr; cases hr
    rw [show x.length - j = (x.length - (j + 1)) + 1 by (first | lia | omega), List.range'_succ] at hr
    refine and2 (List.cons.inj hr) fun oq0 oq1 => ?_; subst oq0; subst oq1
    obtain ⟨bi, bo, bst⟩ := b
    dsimp only at hb ⊢
    rcases hb with ⟨rfl, rfl, rfl⟩ | ⟨rfl, hb⟩
    · refine wp_if_neg (by simp) ?_
      have hlt0 : 0 < x.cps.size := hlt
      have h0 : x.cps[0]? = some x.cps[0] := Array.getElem?_eq_getElem hlt0
      rw [h0]
      dsimp only
      have hbad : ∀ c, c ∈ x.cps.toList → _codecs.asciiCodec.bad c = false := fun c hc => by
        have := hx c hc
        show decide (c ≥ 128) = false
        rw [decide_eq_false_iff_not]; (first | lia | omega)
      refine wp_if_pos (by rw [hbad _ (Array.mem_toList_iff.mpr (Array.getElem_mem hlt0))]; rfl) ?_
      have hex : x.cps.extract 0 = x.cps := by simp
      have hn : Array.findIdx? _codecs.asciiCodec.bad x.cps = none := by
        rw [Array.findIdx?_eq_none_iff]
        intro c hc
        exact hbad c (by simpa using hc)
      rw [hex, hn]
      refine wpAny_pure ⟨rfl, 1, rfl, .inr ⟨?_, ?_⟩⟩
      · show 0 + x.cps.size = _; (first | lia | omega)
      · show natL (Array.foldl _ #[] (x.cps.extract 0 x.cps.size)) = _
        rw [Array.extract_size, ← Array.foldl_toList, asc_fold _ _ hx, natL_nil]; rfl
    · have hbl : bo.size ≤ 1000 := by
        have := congrArg List.length hb
        unfold natL cpsL at this
        rw [Array.length_toList, Array.length_toList, natA_size] at this
        (first | lia | omega)
      refine wp_if_neg (by rw [sizeLine_eq]; (first | lia | omega)) ?_
      have h0 : x.cps[x.length]? = none := by simp [hxs]
      rw [h0]
      dsimp only
      exact wpAny_pure (wpAny_pure (h _ hb))
  · refine and2 (q) fun oq0 ou0 => ?_; (try clear q); refine ex1 (ou0) fun j ou1 => ?_; clear ou0; refine and2 (ou1) fun hr hb => ?_; clear ou1; subst oq0
    have hj : x.length ≤ j := by
      have := congrArg List.length hr
      simp at this
      (first | lia | omega)
    dsimp only
    refine wpAny_pure (h _ ?_)
    rcases hb with ⟨rfl, hb1, hb2⟩ | ⟨_, hb⟩
    · rw [hb2]
      have : x.cps.toList = [] := List.eq_nil_of_length_eq_zero (by rw [Array.length_toList]; (first | lia | omega))
      unfold cpsL
      rw [this, natL_nil]
    · exact hb
  · simp [Std.Legacy.Range.size]
theorem encode_tree1 (x : Str) (t u : Tok) : «str.encode» ⟨[.str x t, .str (Str.ofString "ascii") u], []⟩ = (do ret (← (do mkBytes (← _codecs.encodeNarrow "str.encode" _codecs.asciiCodec none (.str x t) x)))) := by kernel_rfl
end
end Mine
end
end
section
open PySem PySem.W PySem.Calls PyProof.Rows PySem.Spec
set_option Elab.async false
set_option linter.unusedVariables false
set_option maxRecDepth 100000
noncomputable section
namespace Mine
open PySem.Builtin
section
variable {M : Model} {A : Around} {E : Value → Shared → Prop} {s : Shared}
theorem wpAny_runAscii {Q : Array Nat × Nat → Shared → Prop} {id : String} {b : Array UInt8} (hb : ∀ n ∈ natL b, n < 128) (hsz : b.size ≤ 1000) (h : ∀ (out : Array Nat) n, out.toList = natL b → Q (out, n) s) :
    wpAny M A (_codecs.runDecoder id _codecs.asciiDecoder none true b 0 []) Q E s := by
  unfold _codecs.runDecoder
  extract_lets
  refine wpAny_bind ?_
  rw [Std.Legacy.Range.forIn_eq_forIn_range']
  have hnl : (natL b).length = b.size := by unfold natL; rw [Array.length_toList, natA_size]
  refine wpAny_forIn_list _ (fun rest q s' => s' = s ∧ ∃ j, rest = List.range' j (b.size - j) ∧ j ≤ b.size ∧ q.1 = j ∧ q.2.1.toList = (natL b).take j) _ (fun i rest q s₁ hq => ?_) (fun q s₁ hq => ?_) _ _ ⟨rfl, 0, ?_, Nat.zero_le _, rfl, rfl⟩
  · obtain ⟨rfl, j, oh⟩ := hq; refine and4 oh fun hr hj h1 h2 => ?_; clear oh
    have hlt : j < b.size := by
      rcases Nat.lt_or_ge j b.size with g | g
      · exact g
      · rw [show b.size - j = 0 by (first | lia | omega)] at hr; cases hr
    rw [show b.size - j = (b.size - (j + 1)) + 1 by (first | lia | omega), List.range'_succ] at hr
    obtain ⟨rfl, rfl⟩ := List.cons.inj hr
    obtain ⟨p, out, st⟩ := q
    dsimp only at h1 h2 ⊢
    subst h1
    have hos : out.size ≤ 1000 := by
      have := congrArg List.length h2
      rw [Array.length_toList, List.length_take] at this
      (first | lia | omega)
    rw [if_neg (by rw [sizeLine_eq]; (first | lia | omega)), if_neg (by (first | lia | omega))]
    have hget : (natL b)[p]? = some (b.getD p 0).toNat := by
      unfold natL natA
      simp [hlt]
    have hc := hb _ (List.mem_of_getElem? hget)
    have hf : _codecs.asciiDecoder.find true b p = .text [(b.getD p 0).toNat] (p + 1) := by
      show (if (b.getD p 0).toNat < 128 then _codecs.Found.char (b.getD p 0).toNat (p + 1) else _) = _
      rw [if_pos hc]; rfl
    rw [hf]
    dsimp only
    refine wpAny_pure ⟨rfl, p + 1, rfl, hlt, rfl, ?_⟩
    rw [take_snoc hget, ← h2]
    simp
  · obtain ⟨rfl, j, oh⟩ := hq; refine and4 oh fun hr hj h1 h2 => ?_; clear oh
    have hj2 : b.size ≤ j := by
      have := congrArg List.length hr
      simp at this
      (first | lia | omega)
    dsimp only
    refine wpAny_pure (h _ _ ?_)
    rw [h2, List.take_of_length_le (by (first | lia | omega))]
  · simp [Std.Legacy.Range.size]
theorem ascii_road {id : String} {b : Array UInt8} : _codecs.decodeRoad id b (Str.ofString "ascii") none [] = (_codecs.runDecoder id _codecs.asciiDecoder none true b 0 [] >>= fun r => mkStr ⟨r.1⟩) := by kernel_rfl
theorem decode_tree {c : UInt8} {cs : List UInt8} {t u : Tok} : «bytes.decode» ⟨[.bytes (c :: cs).toArray t, .str (Str.ofString "ascii") u], []⟩ = (mkStr (Str.ofString "utf-8") >>= fun _ => mkStr (Str.ofString "ascii") >>= fun e => mkStr (Str.ofString "bytes.decode") >>= fun d =>
    call (.builtin "_codecs.decode.text") [.bytes (c :: cs).toArray t, e, .none, d] >>= fun v => ret v) := by kernel_rfl
end
section
variable {prog : Program} {w : World} {A : Around} {E : Value → Shared → Prop} {s : Shared}
theorem meets_asciiText {b : Array UInt8} {t t1 t2 : Tok} {d : Str} (hb : ∀ n ∈ natL b, n < 128) (hsz : b.size ≤ 1000) :
    Meets («_codecs.decode.text» ⟨[.bytes b t, .str (Str.ofString "ascii") t1, .none, .str d t2], []⟩) (fun _ R s => ∀ x t' k, cpsL x = natL b → R (.ok (.ret (.str x t'))) { s with toks := k }) := by
  refine .of_wp fun prog w A R s h => ?_
  show wpAny _ _ (Bytes.bytesLike _ (.bytes b t) >>= fun r => _) _ _ s
  refine wpAny_bind (wpAny_of_eq KBd.like_eq ?_)
  refine wpAny_bind (wpAny_of_eq KBd.held_eq ?_)
  show wpAny _ _ (_codecs.decodeRoad _ b (Str.ofString "ascii") none [] >>= fun v => _) _ _ s
  rw [ascii_road]
  refine wpAny_bind (wpAny_bind (wpAny_runAscii hb hsz fun out n ho => ?_))
  refine wpAny_mkStr (wpAny_pure ⟨_, rfl, h ⟨out⟩ _ _ ho⟩) ?_
  have := congrArg List.length ho
  unfold natL at this
  rw [Array.length_toList, Array.length_toList, natA_size] at this
  show out.size ≤ _
  rw [sizeLine_eq]; (first | lia | omega)
theorem meets_decodeA {b : Array UInt8} {t u : Tok} (hb : ∀ n ∈ natL b, n < 128) (hsz : b.size ≤ 1000) (hne : b ≠ #[]) :
    Meets («bytes.decode» ⟨[.bytes b t, .str (Str.ofString "ascii") u], []⟩) (fun _ R s => ∀ x t' k, cpsL x = natL b → R (.ok (.ret (.str x t'))) { s with toks := k }) := by
  obtain ⟨l⟩ := b
  cases l with
  | nil => exact absurd rfl hne
  | cons c cs =>
    refine .of_wp fun prog w A R s h => ?_
    rw [decode_tree]
    refine wpAny_bind (wpAny_mkStr ?_ (by decide))
    refine wpAny_bind (wpAny_mkStr ?_ (by decide))
    refine wpAny_bind (wpAny_mkStr ?_ (by decide))
    exact wpAny_bind (call_function_meets KBd.kind_text KBd.plain_text KBd.entry_text (KBd.args_text _ _ _ _) (meets_asciiText hb hsz) fun x t' k hx => wpAny_pure ⟨_, rfl, h _ _ _ hx⟩)
theorem args_bytes_decode_2 (a b : Value) : argsOk "bytes.decode" ⟨[a, b], []⟩ := by
  unfold argsOk; rw [signature?_of (id := "bytes.decode") (n := ['e', 'd', 'o', 'c', 'e', 'd']) (o := ['s', 'e', 't', 'y', 'b']) (by kernel_rfl) FB.owner_bytes]; kernel_rfl
theorem args_str_encode_2 (a b : Value) : argsOk "str.encode" ⟨[a, b], []⟩ := by
  unfold argsOk; rw [signature?_of (id := "str.encode") (n := ['e', 'd', 'o', 'c', 'n', 'e']) (o := ['r', 't', 's']) (by kernel_rfl) F.owner_str]; kernel_rfl
theorem meets_encodeA {x : Str} {t u : Tok} (hx : ∀ c ∈ cpsL x, c < 128) (hsz : x.length ≤ 1000) :
    Meets («str.encode» ⟨[.str x t, .str (Str.ofString "ascii") u], []⟩) (fun _ R s => ∀ y t' k, natL y = cpsL x → R (.ok (.ret (.bytes y t'))) { s with toks := k }) := by
  refine .of_wp fun prog w A R s h => ?_
  rw [encode_tree1]
  refine wpAny_bind (wpAny_bind (wpAny_ascii hx hsz fun y hy => ?_))
  refine wpAny_mkBytes (wpAny_pure ⟨_, rfl, h y _ _ hy⟩) ?_
  have := congrArg List.length hy
  unfold natL cpsL at this
  rw [Array.length_toList, Array.length_toList, natA_size] at this
  have hxs : x.cps.size = x.length := rfl
  rw [sizeLine_eq]; (first | lia | omega)
end
section
variable {X : Fm} {m : Vars} {σ : Led}
theorem w_encodeMethod {x : Str} {t : Tok} {pl : Sem Bool} {Q : Value × List Value → Vars → Led → Prop} (h : Q (.builtin "str.encode", [.str x t]) m σ) : W X m σ (getMethod (.str x t) "encode" pl) Q := fun s S =>
  getMethod_builtin (typeIs_str _ _ _) F.plainAttrs_str F.slot_str_encode F.type_str_encode (fun _ e => nomatch e) ⟨m, σ, S, h⟩
theorem w_decodeMethod {x : Array UInt8} {t : Tok} {pl : Sem Bool} {Q : Value × List Value → Vars → Led → Prop} (h : Q (.builtin "bytes.decode", [.bytes x t]) m σ) : W X m σ (getMethod (.bytes x t) "decode" pl) Q := fun s S =>
  KBd.method ⟨m, σ, S, h⟩
theorem w_encode {x : Str} {t u : Tok} {Q : Value → Vars → Led → Prop} (hx : ∀ c ∈ cpsL x, c < 128) (hsz : x.length ≤ 1000) (h : ∀ y t', natL y = cpsL x → Q (.bytes y t') m σ) : W X m σ (call (.builtin "str.encode") [.str x t, .str (Str.ofString "ascii") u]) Q := fun s S =>
  call_meets F.slot_str_encode (typeIs_str _ _ _) F.entry_str_encode (args_str_encode_2 _ _) (meets_encodeA hx hsz) fun y t' k hy => ⟨m, σ, S.toks, h y t' hy⟩
theorem w_decode {b : Array UInt8} {t u : Tok} {Q : Value → Vars → Led → Prop} (hb : ∀ n ∈ natL b, n < 128) (hsz : b.size ≤ 1000) (hne : b ≠ #[]) (h : ∀ x t', cpsL x = natL b → Q (.str x t') m σ) : W X m σ (call (.builtin "bytes.decode") [.bytes b t, .str (Str.ofString "ascii") u]) Q := fun s S =>
  call_meets FB.slot_bytes_decode (typeIs_bytes _ _ _) FB.entry_bytes_decode (args_bytes_decode_2 _ _) (meets_decodeA hb hsz hne) fun x t' k hx => ⟨m, σ, S.toks, h x t' hx⟩
end
end Mine
end
end
section
open PySem PySem.W PySem.Calls PyProof.Rows PySem.Spec
set_option Elab.async false
set_option linter.unusedVariables false
set_option maxRecDepth 100000
noncomputable section
namespace Mine
open PySem.Builtin.Re PySem.Builtin
section
variable {X : Fm} {m : Vars} {σ : Led}
theorem w_sub_str {x : Str} {t u : Tok} {Q : Value → Vars → Led → Prop} (hx : x.length ≤ 1000) (h : ∀ y t', cpsL y = fixE (cpsL x) → Q (.str y t') m σ) :
    W X m σ (call (.builtin "re.Pattern.sub") [.ref 187, .str (Str.ofString "\r\n") u, .str x t]) Q := fun s S => by
  refine ex1 (rep_187 S.world.k) fun o oh => ?_; refine and3 oh fun e hc hd => ?_; clear oh
  refine wpAny_call (codeAny_call_builtin slot_rep_sub.plain entry_rep_sub (slot_rep_sub.check _ _ _ _ _ _ _ _ ⟨o, e, hc⟩ (args_rep_sub _ _ _) ?_))
  show wpAny _ _ (reSubstitute "re.Pattern.sub" "sub" false _) _ _ s
  unfold reSubstitute
  dsimp only
  refine wpAny_bind (wpAny_of_eq (named_sub _ _) ?_)
  dsimp only
  refine wpAny_bind (wpAny_pure ?_)
  refine wpAny_bind (wpAny_of_eq (called_str _ _) ?_)
  refine wp_if_neg (by decide) ?_
  refine wpAny_bind (wpAny_of_eq (show asStr? (.str (Str.ofString "\r\n") u) = pure (some (Str.ofString "\r\n")) from rfl) ?_)
  refine wpAny_bind (wpAny_pure ?_)
  rw [if_neg (by decide), if_pos (by decide +kernel)]
  refine wpAny_bind (wpAny_pure ?_)
  dsimp only
  refine wpAny_bind (wpAny_holding ((whole_str S.world.k x t).here ?_))
  refine wp_if_neg (by decide) ?_
  have S1 := S.push (o := { cls := .type "list", data := .seq ([] : List Value).toArray }) (P := isList (strValues [])) rfl ⟨0, rfl⟩
  refine wpAny_bind (wpAny_newObj_type ?_ (by show ([] : List Value).toArray.size ≤ sizeLine; exact Nat.zero_le _))
  refine wpAny_pure ⟨plainId_quiet plain_subloop _, ?_⟩
  have key := loop_str (C := X.C) (B := X.B) (F := X.F) (Lc := X.L) (m := m) (σ := σ) (A := X.A) (R := wants (fun v s' => ∃ m' σ', St X.C X.B X.F X.L m' σ' s' ∧ Q v m' σ') (fun _ _ => False)) x t u hx s.heap.objs.size
    (fun y t' s' l hy S' => ⟨m, σ, S'.sub (List.sublist_cons_self _ _), h y t' hy⟩) x.length 0 0 [] _ (by (first | lia | omega)) (Nat.zero_le _) (fun p hp => nomatch hp) rfl S1
  exact key
theorem w_sub_bytes {x : Array UInt8} {t u : Tok} {Q : Value → Vars → Led → Prop} (hx : x.size ≤ 1000) (h : ∀ y t', natL y = quoteD true (natL x) → Q (.bytes y t') m σ) :
    W X m σ (call (.builtin "re.Pattern.sub") [.ref 182, .bytes #[46, 46] u, .bytes x t]) Q := fun s S => by
  refine ex1 (rep_182 S.world.k) fun o oh => ?_; refine and3 oh fun e hc hd => ?_; clear oh
  refine wpAny_call (codeAny_call_builtin slot_rep_sub.plain entry_rep_sub (slot_rep_sub.check _ _ _ _ _ _ _ _ ⟨o, e, hc⟩ (args_rep_sub _ _ _) ?_))
  show wpAny _ _ (reSubstitute "re.Pattern.sub" "sub" false _) _ _ s
  unfold reSubstitute
  dsimp only
  refine wpAny_bind (wpAny_of_eq (named_sub _ _) ?_)
  dsimp only
  refine wpAny_bind (wpAny_pure ?_)
  refine wpAny_bind (wpAny_of_eq (called_bytes _ _) ?_)
  refine wp_if_neg (by decide) ?_
  refine wpAny_bind (wpAny_of_eq (show asStr? (.bytes #[46, 46] u) = pure none from rfl) ?_)
  dsimp only
  refine wpAny_bind (wpAny_of_eq (show Bytes.bufferQuiet? "re.Pattern.sub" (.bytes #[46, 46] u) = pure (some #[46, 46]) from KBy.quiet_eq) ?_)
  dsimp only
  refine wpAny_bind (wpAny_pure ?_)
  rw [if_neg (by decide), if_pos (by decide +kernel)]
  refine wpAny_bind (wpAny_pure ?_)
  dsimp only
  refine wpAny_bind (wpAny_holding ((whole_bytes S.world.k x t).here ?_))
  refine wp_if_neg (by decide) ?_
  have S1 := S.push (o := { cls := .type "list", data := .seq ([] : List Value).toArray }) (P := isList (bytesValues [])) rfl ⟨0, rfl⟩
  refine wpAny_bind (wpAny_newObj_type ?_ (by show ([] : List Value).toArray.size ≤ sizeLine; exact Nat.zero_le _))
  refine wpAny_pure ⟨plainId_quiet plain_subloop _, ?_⟩
  have key := loop_bytes (C := X.C) (B := X.B) (F := X.F) (Lc := X.L) (m := m) (σ := σ) (A := X.A) (R := wants (fun v s' => ∃ m' σ', St X.C X.B X.F X.L m' σ' s' ∧ Q v m' σ') (fun _ _ => False)) x t u hx s.heap.objs.size
    (fun y t' s' l hy S' => ⟨m, σ, S'.sub (List.sublist_cons_self _ _), h y t' hy⟩) x.size 0 0 [] _ (by (first | lia | omega)) (Nat.zero_le _) (fun p hp => nomatch hp) rfl S1
  exact key
end
end Mine
end
end
section
open PySem PySem.W PySem.Calls PyProof.Rows PySem.Spec
set_option Elab.async false
set_option linter.unusedVariables false
set_option maxRecDepth 100000
noncomputable section
namespace Mine
section
variable {X : Fm} {m : Vars} {σ : Led} {Q : Value → Vars → Led → Prop}
theorem w_bytes {env : Env} {pos : Pos} {x : List UInt8} {k : Nat} (h : ∀ t, Q (.bytes x.toArray t) m σ) : W X m σ (eval (.Constant (.bytes x) k pos) env) Q := fun s S => Constant_bytes ⟨m, σ, S.toks, h _⟩
theorem wk_quote {x : Array UInt8} {t : Tok} (hA : Ok 2 X.A) (hx : x.size ≤ 1000) (h : ∀ y t', natL y = quoteD true (natL x) → Q (.bytes y t') m σ) : WK X m σ (.call (.ref 194) ⟨[.bytes x t], []⟩) Q := by
  refine wk_def (σ₁ := []) (σ₂ := σ) (n := 1) (binds := [("bindata", .bytes x t)]) rfl rfl hA (fun _ _ s _ => BindsTo.of_eq rfl) rfl rfl ?_
  intro X' hC hK hA' _
  refine w_execs_cons (w_return (w_methcall (w_global (v := .ref 182) rfl (w_subMethod (.inr rfl) (w_cwm_builtin (w_args_cons (w_bytes fun u => w_args_cons ?_)))))))
  refine w_local rfl (w_args_nil ?_)
  exact w_sub_bytes hx fun y t' hy => h y t' hy
theorem wk_fix {x : Str} {t : Tok} (hA : Ok 2 X.A) (hx : x.length ≤ 1000) (h : ∀ y t', cpsL y = fixE (cpsL x) → Q (.str y t') m σ) : WK X m σ (.call (.ref 201) ⟨[.str x t], []⟩) Q := by
  refine wk_def (σ₁ := []) (σ₂ := σ) (n := 1) (binds := [("data", .str x t)]) rfl rfl hA (fun _ _ s _ => BindsTo.of_eq rfl) rfl rfl ?_
  intro X' hC hK hA' _
  refine w_execs_cons (w_return (w_methcall (w_global (v := .ref 187) rfl (w_subMethod (.inl rfl) (w_cwm_builtin (w_args_cons ?_))))))
  refine w_global (v := .str (Str.ofString "\r\n") _) rfl (w_args_cons ?_)
  refine w_local rfl (w_args_nil ?_)
  exact w_sub_str hx fun y t' hy => h y t' hy
end
end Mine
end
end
section
open PySem PySem.W PySem.Calls PyProof.Rows PySem.Spec
set_option Elab.async false
set_option linter.unusedVariables false
set_option maxRecDepth 100000
noncomputable section
namespace Mine
open PySem.SeqAt
inductive BytesOf : List Value → List (Array UInt8) → Prop where
  | nil : BytesOf [] []
  | cons {v : Value} {x : Array UInt8} {vs : List Value} {xs : List (Array UInt8)} (h : ∃ t, v = .bytes x t) (t : BytesOf vs xs) : BytesOf (v :: vs) (x :: xs)
theorem BytesOf.len {vs : List Value} {xs : List (Array UInt8)} (h : BytesOf vs xs) : vs.length = xs.length := by
  induction h with
  | nil => rfl
  | cons _ _ ih => simp [ih]
theorem BytesOf.get {vs : List Value} {xs : List (Array UInt8)} (h : BytesOf vs xs) {i : Nat} {x : Array UInt8} (hn : xs[i]? = some x) : ∃ t, vs[i]? = some (.bytes x t) := by
  induction h generalizing i with
  | nil => simp at hn
  | cons hd _ ih =>
    cases i with
    | zero => obtain ⟨t, rfl⟩ := hd; simp at hn; subst hn; exact ⟨t, rfl⟩
    | succ i => exact ih (by simpa using hn)
theorem BytesOf.append {vs ws : List Value} {xs ys : List (Array UInt8)} (h : BytesOf vs xs) (h' : BytesOf ws ys) : BytesOf (vs ++ ws) (xs ++ ys) := by
  induction h with
  | nil => exact h'
  | cons hd _ ih => exact .cons hd ih
theorem BytesOf.snoc {vs : List Value} {xs : List (Array UInt8)} (h : BytesOf vs xs) (x : Array UInt8) (t : Tok) : BytesOf (vs ++ [.bytes x t]) (xs ++ [x]) := h.append (.cons ⟨t, rfl⟩ .nil)
theorem all_true (n : Nat) : ((List.range n).all fun _ => true) = true := by rw [List.all_eq_true]; intro _ _; rfl
theorem natL_inj {a b : Array UInt8} (h : natL a = natL b) : a = b := by
  unfold natL natA at h
  rw [Array.toList_map, Array.toList_map] at h
  apply Array.toList_inj.mp
  have := (List.map_inj_right (f := fun (b : UInt8) => b.toNat) (fun x y e => UInt8.toNat_inj.mp e)).mp h
  exact this
theorem IntsOf.are {vs : List Value} {ns : List Int} (h : IntsOf vs ns) : IntsAre vs ns := by
  induction h with
  | nil => exact .nil
  | cons hd _ ih => obtain ⟨t, rfl⟩ := hd; exact .cons _ t ih
section
variable {X : Fm} {m : Vars} {σ : Led} {Q : Value → Vars → Led → Prop}
theorem Ok.room {n : Nat} {A : Around} (h : Ok n A) : A.units < cLine := by
  have := h.un
  have h2 : (9000 : Nat) < cLine := by decide
  (first | lia | omega)
theorem Ok.room64 {n : Nat} {A : Around} (h : Ok n A) : A.units + 64 < cLine := by
  have := h.un
  have h2 : (9064 : Nat) < cLine := by decide
  (first | lia | omega)
theorem w_bne {x y : Array UInt8} {t u : Tok} (h : Q (.bool (x.toList != y.toList)) m σ) : W X m σ (compareOp .NotEq (.bytes x t) (.bytes y u)) Q := fun s S => PySem.W.ne_bytes ⟨m, σ, S, h⟩
theorem w_ne_ints {a b : Addr} {vs us : List Value} {ns : List Int} {n : Nat} (hA : Ok n X.A) (ha : Kn X.B σ a (isList vs)) (hb : Kn X.B σ b (isList us)) (hv : IntsOf vs ns) (hu : IntsOf us ns) (h : Q (.bool false) m σ) :
    W X m σ (compareOp .NotEq (.ref a) (.ref b)) Q := fun s S =>
  ke_ne_ints (isList_at (S.kn ha)) (isList_at (S.kn hb)) hv.are hu.are hA.room64 (by simpa using (⟨m, σ, S, h⟩ : ∃ m' σ', St X.C X.B X.F X.L m' σ' s ∧ Q (.bool false) m' σ'))
theorem w_ne_blists {a b : Addr} {vs us : List Value} {xs : List (Array UInt8)} {n : Nat} (hA : Ok n X.A) (ha : Kn X.B σ a (isList vs)) (hb : Kn X.B σ b (isList us)) (hv : BytesOf vs xs) (hu : BytesOf us xs) (h : Q (.bool false) m σ) :
    W X m σ (compareOp .NotEq (.ref a) (.ref b)) Q := fun s S => by
  have La := isList_at (S.kn ha)
  have Lb := isList_at (S.kn hb)
  show wpAny _ _ (richCompare .NotEq (.ref a) (.ref b)) _ _ _
  refine RcNeAt.lists (e := fun _ => true) La Lb (by simp [hv.len, hu.len]) hA.room (fun j h1 h2 => ?_) PW X.C.w _ _ ?_
  · have hj : j < xs.length := by simpa [hv.len] using h1
    refine ex1 (hv.get (List.getElem?_eq_getElem hj)) fun t1 e1 => ?_
    refine ex1 (hu.get (List.getElem?_eq_getElem hj)) fun t2 e2 => ?_
    have g1 : vs.toArray[j] = .bytes xs[j] t1 := by
      have : vs.toArray[j]? = some (.bytes xs[j] t1) := by simpa using e1
      rw [Array.getElem?_eq_getElem h1] at this
      exact Option.some.inj this
    have g2 : us.toArray[j] = .bytes xs[j] t2 := by
      have : us.toArray[j]? = some (.bytes xs[j] t2) := by simpa using e2
      rw [Array.getElem?_eq_getElem h2] at this
      exact Option.some.inj this
    rw [g1, g2]
    exact fun prog w E Q hq => PySem.W.eqBool_bytes (by simpa using hq)
  · rw [all_true]
    exact (⟨m, σ, S, h⟩ : ∃ m' σ', St X.C X.B X.F X.L m' σ' s ∧ Q (.bool false) m' σ')

theorem pairs_any {w w' : World} {p p' : Program} {es : List DictEntry} {kvs : List (Int × Value)} (h : Pairs (intKind p w) es kvs) : Pairs (intKind p' w') es kvs := by
  induction h with
  | nil => exact .nil
  | cons h1 h2 _ ih => exact .cons h1 h2 ih
theorem dictOf_any {w w' : World} {p p' : Program} {h : Heap} {a : Addr} {kvs : List (Int × Value)} (d : h.DictOf (intKind p w) a kvs) : h.DictOf (intKind p' w') a kvs := by
  refine ex3 (d) fun o es ep oh => ?_; (try clear d); refine and6 oh fun h1 h2 h3 h4 h5 h6 => ?_; clear oh
  exact ⟨o, es, ep, h1, h2, h3, h4, pairs_any h5, h6⟩
theorem valueAt_int {kvs : List (Int × Value)} {ps : List (Int × Int)} (h : DVals kvs ps) {k n : Int} (hg : getI ps k = some n) : ∃ t, valueAt kvs k = some (.int n t) := by
  have := h.value k
  rw [hg] at this
  exact this
theorem hits_of {A : Around} {s : Shared} {kb : List (Int × Value)} {pb : List (Int × Int)} (hb : DVals kb pb) : ∀ {ka : List (Int × Value)} {pa : List (Int × Int)}, DVals ka pa → (∀ p ∈ pa, getI pb p.1 = some p.2) → KeqHits A s kb ka true
  | _, _, .nil, _ => .nil
  | _, _, .cons (k := k) (n := n) hd t, h => by
    refine ex1 (hd) fun tv oq1 => ?_; (try clear hd); subst oq1
    refine ex1 (valueAt_int hb (h (k, n) (.head _))) fun ty hy => ?_
    have r := hits_of (A := A) (s := s) hb t fun p hp => h p (.tail _ hp)
    have e := EqAt.int_int (A := A) (s := s) n tv n ty
    rw [beq_self_eq_true] at e
    exact .hit hy e r
theorem dict_at {A : Around} {s : Shared} {w : World} {a b : Addr} {ka kb : List (Int × Value)} {pa pb : List (Int × Int)} (ha : (a == sysModules) = false) (hb : (b == sysModules) = false) (hu : A.units < cLine) (da : s.heap.DictOf (intKind PW w) a ka) (db : s.heap.DictOf (intKind PW w) b kb)
    (va : DVals ka pa) (vb : DVals kb pb) (hl : pa.length = pb.length) (he : ∀ p ∈ pa, getI pb p.1 = some p.2) : EqAt A s (.ref a) (.ref b) true := by
  by_cases hab : a = b
  · subst hab; exact EqAt.same _
  · refine EqAt.of_refs hab fun prog w' E Q hq => ?_
    have hl' : ka.length = kb.length := by rw [va.len, vb.len, hl]
    refine keq_eq (knd := intKind prog w') ha hb (dictOf_any da) (dictOf_any db) hu (fun _ => hits_of vb va he) ?_
    rw [hl']
    simpa using hq
theorem w_ne_books {ta tb da db : Addr} {a b c d : Int} {pa pb : List (Int × Int)} {n : Nat} (hA : Ok n X.A) (hsa : (da == sysModules) = false) (hsb : (db == sysModules) = false) (ha : Kn X.B σ ta (isBook X.C.w a b c d da)) (hb : Kn X.B σ tb (isBook X.C.w a b c d db))
    (hda : Kn X.B σ da (isD X.C.w pa)) (hdb : Kn X.B σ db (isD X.C.w pb)) (hl : pa.length = pb.length) (he : ∀ p ∈ pa, getI pb p.1 = some p.2) (h : Q (.bool false) m σ) :
    W X m σ (compareOp .NotEq (.ref ta) (.ref tb)) Q := fun s S => by
  obtain ⟨_, e1, u1, u2, u3, u4, r1⟩ := S.kn ha
  obtain ⟨_, e2, v1, v2, v3, v4, r2⟩ := S.kn hb
  have Ta := isTup_at ⟨_, e1, r1⟩
  have Tb := isTup_at ⟨_, e2, r2⟩
  refine ex1 (isD_len (S.kn hda)) fun ka ou0 => ?_; refine and2 (ou0) fun ga va => ?_; clear ou0
  refine ex1 (isD_len (S.kn hdb)) fun kb ou0 => ?_; refine and2 (ou0) fun gb vb => ?_; clear ou0
  have hu : X.A.in1.units < cLine := by
    have := hA.un
    have h2 : (9001 : Nat) < cLine := by decide
    show X.A.units + 1 < cLine
    (first | lia | omega)
  show wpAny _ _ (richCompare .NotEq (.ref ta) (.ref tb)) _ _ _
  refine RcNeAt.tuples (e := fun _ => true) Ta Tb hA.room (fun j h1 h2 => ?_) PW X.C.w _ _ ?_
  · have hI : ∀ (x : Int) (t u : Tok), EqAt X.A.in1 s (.int x t) (.int x u) true := fun x t u => by
      have e := EqAt.int_int (A := X.A.in1) (s := s) x t x u
      rw [beq_self_eq_true] at e
      exact e
    have hj : j < 5 := h1
    match j, hj with
    | 0, _ => exact hI _ _ _
    | 1, _ => exact hI _ _ _
    | 2, _ => exact hI _ _ _
    | 3, _ => exact hI _ _ _
    | 4, _ => exact dict_at hsa hsb hu ga gb va vb hl he
  · rw [all_true]
    exact (⟨m, σ, S, h⟩ : ∃ m' σ', St X.C X.B X.F X.L m' σ' s ∧ Q (.bool false) m' σ')
end
end Mine
end
end
section
open PySem PySem.W PySem.Calls PyProof.Rows PySem.Spec
set_option Elab.async false
set_option linter.unusedVariables false
set_option maxRecDepth 100000
noncomputable section
namespace Mine
/-! the law's own parts, cut -/
noncomputable def fnAt (w : World) (a : Addr) : Option FuncData := match (KK w).lookup a with
  | some ⟨_, _, .func fd, _⟩ => some fd
  | _ => none
noncomputable def lawFn (w : World) : FuncData := (fnAt w 256).getD default
noncomputable def lawBody (w : World) : List Stmt := match (lawFn w).body with
  | .stmts b => b
  | _ => []
noncomputable def lawRest (w : World) (n : Nat) : List Stmt := (lawBody w).drop n
noncomputable def lawScope (w : World) : Scope := (lawFn w).scope
noncomputable def lawCode (w : World) : Value := (lawFn w).code
noncomputable def lawEnv (w : World) (L : Addr) : Env := envX "law" (lawScope w) L 256 (lawCode w) (cellsOf (lawScope w) L)
section
variable {X : Fm} {m : Vars} {σ : Led}
noncomputable def QT (fl : Flow) (_ : Vars) (σ : Led) : Prop := (match fl with | .ret v => v | _ => Value.none) = .bool true ∧ (128, isTab) ∈ σ ∧ (135, isTab) ∈ σ
theorem w_keepB {σ₁ σ₂ : Led} {t : Sem Flow} (h : ∀ B' : PH, (∀ a P, Kn X.B σ₂ a P → BI B' a P) → W (X.withB B') m σ₁ t QT) : W X m (σ₁ ++ σ₂) t QT :=
  w_frame fun B' hB' => w_mono (h B' hB') fun fl m' σ' q => ⟨q.1, List.mem_append_left _ q.2.1, List.mem_append_left _ q.2.2⟩
theorem go_range5 {σ₃ : Led} {I : Addr} {target elt : Expr} {ce : Addr → Env} {K : Addr → List Value → Led → Prop} (hA : X.A.handled = none) (J : Nat → List Value → Prop) (h0 : J 0 [])
    (step : ∀ (F' : PH) C i tk m₁ rs, i < 5 → rs.length ≤ i → J i rs → W ⟨X.C, X.A, X.B, F', C⟩ m₁ σ₃ (assign target (ce C) (.int (i : Int) tk)) (fun _ m₂ σ₂ => W ⟨X.C, X.A, X.B, F', C⟩ m₂ σ₂ (testsOf [] (ce C))
      (fun ok m₃ σ' => if ok = true then W ⟨X.C, X.A, X.B, F', C⟩ m₃ σ' (eval elt (ce C)) (fun y _ σ₄ => σ₄ = σ₃ ∧ J (i + 1) (rs ++ [y])) else σ' = σ₃ ∧ J (i + 1) rs)))
    (done : ∀ rs D, J 5 rs → K D rs σ₃) : CompGo X m ((I, isRangeIt (0 + ((0 : Nat) : Int) * 1) (((5 : Nat) : Int) - ((0 : Nat) : Int)) 1) :: σ₃) (.ref I) target elt [] ce K := by
  refine ⟨I, fun i => [(I, isRangeIt (0 + (i : Nat) * 1) (((5 : Nat) : Int) - (i : Nat)) 1)], 5, _, σ₃, rfl, rfl, iter_range hA, by rw [sizeLine_eq]; (first | lia | omega), fun i rs σ => σ = σ₃ ∧ J i rs, ⟨rfl, h0⟩, ?_, ?_⟩
  · rintro F2 C i v τ m₂ rs σ₂ hi hl ⟨⟨tk, rfl⟩, rfl⟩ ⟨rfl, hJ⟩
    have ek : (0 + (i : Int) * 1) = (i : Int) := by (first | lia | omega)
    rw [ek]
    exact step F2 C i tk m₂ rs hi hl hJ
  · rintro rs σ' D ⟨rfl, hJ⟩
    exact done rs D hJ
theorem go_list {σ₃ : Led} {I a : Addr} {vs : List Value} {target elt : Expr} {ce : Addr → Env} {K : Addr → List Value → Led → Prop} (hA : X.A.handled = none) (ha : BI X.B a (isList vs)) (hne : I ≠ a) (hsz : vs.length ≤ 1000) (J : Nat → List Value → Prop) (h0 : J 0 [])
    (step : ∀ (F' : PH) C i v m₁ rs, i < vs.length → vs[i]? = some v → rs.length ≤ i → J i rs → W ⟨X.C, X.A, X.B, F', C⟩ m₁ σ₃ (assign target (ce C) v) (fun _ m₂ σ₂ => W ⟨X.C, X.A, X.B, F', C⟩ m₂ σ₂ (testsOf [] (ce C))
      (fun ok m₃ σ' => if ok = true then W ⟨X.C, X.A, X.B, F', C⟩ m₃ σ' (eval elt (ce C)) (fun y _ σ₄ => σ₄ = σ₃ ∧ J (i + 1) (rs ++ [y])) else σ' = σ₃ ∧ J (i + 1) rs)))
    (done : ∀ rs D, J vs.length rs → K D rs σ₃) : CompGo X m ((I, isListIter a 0) :: σ₃) (.ref I) target elt [] ce K := by
  refine ⟨I, fun i => [(I, isListIter a i)], vs.length, _, σ₃, rfl, rfl, iter_list hA ha (Ne.symm hne), by rw [sizeLine_eq]; (first | lia | omega), fun i rs σ => σ = σ₃ ∧ J i rs, ⟨rfl, h0⟩, ?_, ?_⟩
  · rintro F2 C i v τ m₂ rs σ₂ hi hl ⟨hv, rfl⟩ ⟨rfl, hJ⟩
    exact step F2 C i v m₂ rs hi hv hl hJ
  · rintro rs σ' D ⟨rfl, hJ⟩
    exact done rs D hJ
end
/-! what the law builds, plainly -/
noncomputable def bytesOf (l : List Nat) : Array UInt8 := (l.map Nat.toUInt8).toArray
theorem natL_bytesOf {l : List Nat} (h : ∀ n ∈ l, n < 256) : natL (bytesOf l) = l := by
  unfold natL natA bytesOf
  rw [Array.toList_map, List.map_map]
  exact toNat_u8 l h
theorem eq_bytesOf {y : Array UInt8} {l : List Nat} (h : natL y = l) : y = bytesOf l := by
  refine natL_inj ?_
  rw [natL_bytesOf, h]
  rw [← h]
  exact natA_lt y
theorem bytesOf_size (l : List Nat) : (bytesOf l).size = l.length := by unfold bytesOf; simp
structure Five (ds : List Int) : Prop where
  len : ds.length = 5
  bd : ∀ x ∈ ds, 0 ≤ x ∧ x ≤ 26000000
noncomputable def dAt (ds : List Int) (k : Nat) : Int := ds.getD k 0
noncomputable def textOf (ds : List Int) (k : Nat) : Str := asSent (k : Int) (dAt ds k)
noncomputable def textsOf (ds : List Int) : List Str := (List.range 5).map (textOf ds)
noncomputable def weightsOf (ds : List Int) : List Int := ds.map fun x => 1 + x.fmod 3
noncomputable def fixOf (ds : List Int) (k : Nat) : List Nat := fixedOf (k : Int) (dAt ds k)
noncomputable def fixedBs (ds : List Int) : List (Array UInt8) := (List.range 5).map fun k => bytesOf (fixOf ds k)
noncomputable def sentBs (ds : List Int) : List (Array UInt8) := (List.range 5).map fun k => bytesOf (cpsL (textOf ds k))
noncomputable def sizesOf (ds : List Int) : List Int := (textsOf ds).map fun x => (x.length : Int)
theorem Five.at_ {ds : List Int} (h : Five ds) {k : Nat} (hk : k < 5) : ds[k]? = some (dAt ds k) ∧ 0 ≤ dAt ds k ∧ dAt ds k ≤ 26000000 := by
  have hl : k < ds.length := by rw [h.len]; exact hk
  have e : ds[k]? = some (dAt ds k) := by unfold dAt; simp [hl]
  have := h.bd _ (List.mem_of_getElem? e)
  exact ⟨e, this.1, this.2⟩
theorem rows_bd (x : Int) : 1 ≤ rowsOf x ∧ rowsOf x ≤ 3 := by
  have h3 := fmod_bd x (n := 3) (by decide)
  unfold rowsOf; (first | lia | omega)
theorem lets_bd (x : Int) : lettersOf x ≤ 11 := by
  have h12 := fmod_bd (x.fdiv 3) (n := 12) (by decide)
  unfold lettersOf; (first | lia | omega)
theorem sentL_len (n m c : Nat) : (sentL n m c).length = 4 * n + m + 2 := by
  unfold sentL; simp [List.length_flatten]; (first | lia | omega)
theorem fixedL_len (n m c : Nat) : (fixedL n m c).length = 3 * n + m + 2 := by
  unfold fixedL; simp [List.length_flatten]; (first | lia | omega)
theorem rep_lt {r : List Nat} {b : Nat} (h : ∀ c ∈ r, c < b) (n : Nat) : ∀ c ∈ (List.replicate n r).flatten, c < b := fun c hc => by
  obtain ⟨l, hl, hc⟩ := List.mem_flatten.mp hc
  rw [(List.mem_replicate.mp hl).2] at hc
  exact h c hc
theorem sentL_lt {n m c : Nat} (h : c < 128) : ∀ d ∈ sentL n m c, d < 128 := fun d hd => by
  unfold sentL at hd
  rcases List.mem_append.mp hd with hd | hd
  · exact rep_lt (by decide) n d hd
  · rcases List.mem_append.mp hd with hd | hd
    · rw [(List.mem_replicate.mp hd).2]; exact h
    · exact (by decide : ∀ d ∈ [13, 10], d < 128) d hd
theorem fixedL_lt {n m c : Nat} (h : c < 128) : ∀ d ∈ fixedL n m c, d < 128 := fun d hd => by
  unfold fixedL at hd
  rcases List.mem_append.mp hd with hd | hd
  · exact rep_lt (by decide) n d hd
  · rcases List.mem_append.mp hd with hd | hd
    · rw [(List.mem_replicate.mp hd).2]; exact h
    · exact (by decide : ∀ d ∈ [13, 10], d < 128) d hd
section
variable {ds : List Int} (h : Five ds) {k : Nat} (hk : k < 5)
include h hk
theorem text_cps : cpsL (textOf ds k) = sentL (rowsOf (dAt ds k)) (lettersOf (dAt ds k) + 1) (97 + (k : Int)).toNat := sent_cps (h.at_ hk).2.1
theorem text_len : ((textOf ds k).length : Int) = 4 * rowsOf (dAt ds k) + (lettersOf (dAt ds k) + 1) + 2 := by
  have e : (textOf ds k).length = (cpsL (textOf ds k)).length := by unfold cpsL; rw [Array.length_toList]; rfl
  rw [e, text_cps h hk, sentL_len]; push_cast; rfl
theorem text_bd : 7 ≤ (textOf ds k).length ∧ (textOf ds k).length ≤ 26 := by
  have e := text_len h hk
  have r := rows_bd (dAt ds k)
  have l := lets_bd (dAt ds k)
  (first | lia | omega)
theorem text_asc : ∀ c ∈ cpsL (textOf ds k), c < 128 := by
  rw [text_cps h hk]; exact sentL_lt (by first | decide | (with_reducible first | exact n0 _ | exact f5 (by assumption) | exact a3 (by assumption) (by assumption) | exact b26 (by assumption) | exact a26 (by assumption)) | (first | lia | omega))
theorem fix_asc : ∀ c ∈ fixOf ds k, c < 128 := fixedL_lt (by first | decide | (with_reducible first | exact n0 _ | exact f5 (by assumption) | exact a3 (by assumption) (by assumption) | exact b26 (by assumption) | exact a26 (by assumption)) | (first | lia | omega))
theorem fix_len : ((fixOf ds k).length : Int) = 3 * rowsOf (dAt ds k) + (lettersOf (dAt ds k) + 1) + 2 := by
  unfold fixOf fixedOf
  rw [fixedL_len]; push_cast; rfl
theorem fix_bd : (fixOf ds k).length ≤ 23 := by
  have e := fix_len h hk
  have r := rows_bd (dAt ds k)
  have l := lets_bd (dAt ds k)
  (first | lia | omega)
theorem weight_at : (weightsOf ds)[k]? = some (rowsOf (dAt ds k) : Int) := by
  obtain ⟨e, _, _⟩ := h.at_ hk
  unfold weightsOf
  rw [List.getElem?_map, e]
  have h3 := fmod_bd (dAt ds k) (n := 3) (by decide)
  show some _ = some _
  congr 1
  unfold rowsOf
  show 1 + (dAt ds k).fmod 3 = _
  (first | lia | omega)
theorem text_at : (textsOf ds)[k]? = some (textOf ds k) := by
  unfold textsOf; rw [List.getElem?_map, List.getElem?_range hk]; rfl
end
theorem five_letters {ds : List Int} (h : Five ds) : Letters (textsOf ds) (weightsOf ds) where
  lx := by unfold textsOf; simp
  lw := by unfold weightsOf; rw [List.length_map, h.len]
  tx := fun x hx => by
    unfold textsOf at hx
    obtain ⟨k, hk, rfl⟩ := List.mem_map.mp hx
    exact text_bd h (List.mem_range.mp hk)
  tw := fun w hw => by
    unfold weightsOf at hw
    obtain ⟨x, _, rfl⟩ := List.mem_map.mp hw
    have h3 := fmod_bd x (n := 3) (by decide)
    (first | lia | omega)
theorem drawn_five (script : List Int) : Five (drawnOf script) := ⟨drawnOf_len script, drawnOf_bd script⟩
theorem written_fix {ds : List Int} (h : Five ds) {k : Nat} (hk : k < 5) : fixE (cpsL (written (k : Int) (dAt ds k))) = fixOf ds k := by
  have e := fix_written (k := (k : Int)) (x := dAt ds k) (by first | decide | (with_reducible first | exact n0 _ | exact f5 (by assumption) | exact a3 (by assumption) (by assumption) | exact b26 (by assumption) | exact a26 (by assumption)) | (first | lia | omega)) (by first | decide | (with_reducible first | exact n0 _ | exact f5 (by assumption) | exact a3 (by assumption) (by assumption) | exact b26 (by assumption) | exact a26 (by assumption)) | (first | lia | omega)) (h.at_ hk).2.1 (r := []) (by simp)
  rw [List.append_nil] at e
  rw [e]
  show _ ++ [] = _
  rw [List.append_nil]; rfl
theorem fix_quote {ds : List Int} (h : Five ds) {k : Nat} (hk : k < 5) : quoteD true (fixOf ds k) = cpsL (textOf ds k) := by
  have e := quote_fixed (k := (k : Int)) (x := dAt ds k) (by first | decide | (with_reducible first | exact n0 _ | exact f5 (by assumption) | exact a3 (by assumption) (by assumption) | exact b26 (by assumption) | exact a26 (by assumption)) | (first | lia | omega)) (by first | decide | (with_reducible first | exact n0 _ | exact f5 (by assumption) | exact a3 (by assumption) (by assumption) | exact b26 (by assumption) | exact a26 (by assumption)) | (first | lia | omega)) (h.at_ hk).2.1 []
  rw [List.append_nil] at e
  unfold fixOf
  rw [e]
  show _ ++ [] = _
  rw [List.append_nil]; rfl
theorem written_len {ds : List Int} (h : Five ds) {k : Nat} (hk : k < 5) : (written (k : Int) (dAt ds k)).length ≤ 30 := by
  have e : (written (k : Int) (dAt ds k)).length = (cpsL (written (k : Int) (dAt ds k))).length := by unfold cpsL; rw [Array.length_toList]; rfl
  have he : (cpsL (endOf (dAt ds k))).length ≤ 2 := by
    have := endOf_len (dAt ds k)
    have e2 : (cpsL (endOf (dAt ds k))).length = (endOf (dAt ds k)).length := by unfold cpsL; rw [Array.length_toList]; rfl
    (first | lia | omega)
  rw [e, written_cps (h.at_ hk).2.1]
  have r := rows_bd (dAt ds k)
  have l := lets_bd (dAt ds k)
  simp only [List.length_append, List.length_flatten, List.map_replicate, List.sum_replicate_nat, List.length_cons, List.length_replicate]
  have : rowsOf (dAt ds k) * ((cpsL (endOf (dAt ds k))).length + 1) ≤ 3 * 3 := Nat.mul_le_mul r.2 (by first | decide | (with_reducible first | exact n0 _ | exact f5 (by assumption) | exact a3 (by assumption) (by assumption) | exact b26 (by assumption) | exact a26 (by assumption)) | (first | lia | omega))
  (first | lia | omega)
end Mine
end
end
section
open PySem PySem.W PySem.Calls PyProof.Rows PySem.Spec
set_option Elab.async false
set_option linter.unusedVariables false
set_option maxRecDepth 100000
noncomputable section
namespace Mine
section
variable {X : Fm} {m : Vars} {σ : Led}
theorem law_a {sc : Addr} {vs : List Value} {script : List Int} (hA : Ok 24 X.A) (hs : BI X.B sc (isList vs)) (hi : IntsOf vs script) (hlen : script.length ≤ 100000) (hm : m "script" = some (.ref sc))
    (h : ∀ (B' : PH) (m' : Vars) D ws, (∀ a P, BI X.B a P → BI B' a P) → BI B' (X.L + 1) (isCell (.ref D)) → BI B' D (isList ws) → IntsOf ws (drawnOf script) → (∃ t, m' "turn" = some (.int (drawnOf script).sum t)) → (∃ t, m' "start" = some (.int ((drawnOf script).sum.fmod 10) t)) →
      W (X.withB B') m' σ (execs (lawRest X.C.w 3) (lawEnv X.C.w X.L)) QT) :
    W X m ((X.L + 1, isCell0) :: σ) (execs (lawRest X.C.w 0) (lawEnv X.C.w X.L)) QT := by
  unfold lawEnv
  conv in lawScope _ => whnf
  conv in lawScope _ => whnf
  conv in lawRest _ _ => whnf
  refine w_execs_cons (w_assign_name (w_Call (w_global (v := .ref 208) rfl (w_cw_K (by kernel_rfl) (w_args_cons (w_local hm (w_args_nil (w_call ?_))))))))
  refine wk_drawn (hA.le (by first | decide | (with_reducible first | exact n0 _ | exact f5 (by assumption) | exact a3 (by assumption) (by assumption) | exact b26 (by assumption) | exact a26 (by assumption)) | (first | lia | omega))) (.inl hs) hi hlen fun D ws hws => ?_
  refine w_perm (List.Perm.swap _ _ _) (w_store_cell cell0_is ?_)
  refine w_perm (List.perm_append_comm (l₁ := [(X.L + 1, isCell (.ref D)), (D, isList ws)])) (w_keepB fun B' hB' => ?_)
  have hD : BI B' D (isList ws) := hB' _ _ (.inr (.tail _ (.head _)))
  have hc : BI B' (X.L + 1) (isCell (.ref D)) := hB' _ _ (.inr (.head _))
  refine w_execs_cons (w_assign_name (w_Call (w_builtin rfl (by boot_fast) (w_cw_builtin (w_args_cons (w_cell (.inl hc) (w_args_nil ?_)))))))
  refine w_sum_list hA.hd (.inl hD) hws fun t1 => ?_
  refine w_store_local (w_execs_cons (w_assign_name (w_binop (w_local rfl (w_int fun _ => w_mod (by k_dflt decide) fun t2 => ?_)))))
  refine w_store_local ?_
  exact h B' _ D ws (fun a P k => hB' _ _ (.inl k)) hc hD hws ⟨_, rfl⟩ ⟨_, rfl⟩
end
end Mine
end
end
section
open PySem PySem.W PySem.Calls PyProof.Rows PySem.Spec
set_option Elab.async false
set_option linter.unusedVariables false
set_option maxRecDepth 100000
set_option maxHeartbeats 4000000
noncomputable section
namespace Mine
theorem fixed_take {ds : List Int} {i : Nat} (hi : i < 5) : (fixedBs ds).take (i + 1) = (fixedBs ds).take i ++ [bytesOf (fixOf ds i)] := by
  refine take_snoc ?_
  unfold fixedBs
  rw [List.getElem?_map, List.getElem?_range hi]; rfl
theorem sent_take {ds : List Int} {i : Nat} (hi : i < 5) : (sentBs ds).take (i + 1) = (sentBs ds).take i ++ [bytesOf (cpsL (textOf ds i))] := by
  refine take_snoc ?_
  unfold sentBs
  rw [List.getElem?_map, List.getElem?_range hi]; rfl
theorem texts_take {ds : List Int} {i : Nat} (hi : i < 5) : (textsOf ds).take (i + 1) = (textsOf ds).take i ++ [textOf ds i] := by
  refine take_snoc ?_
  unfold textsOf
  rw [List.getElem?_map, List.getElem?_range hi]; rfl
theorem fixed_len5 (ds : List Int) : (fixedBs ds).length = 5 := by unfold fixedBs; simp
theorem sent_len5 (ds : List Int) : (sentBs ds).length = 5 := by unfold sentBs; simp
theorem texts_len5 (ds : List Int) : (textsOf ds).length = 5 := by unfold textsOf; simp
theorem cps_len (x : Str) : (cpsL x).length = x.length := by unfold cpsL; rw [Array.length_toList]; rfl
section
variable {X : Fm} {m : Vars} {σ : Led}
theorem law_b {D : Addr} {ws : List Value} {ds : List Int} (hA : Ok 24 X.A) (h5 : Five ds) (hc : BI X.B (X.L + 1) (isCell (.ref D))) (hD : BI X.B D (isList ws)) (hws : IntsOf ws ds)
    (h : ∀ (B' : PH) E vs, (∀ a P, BI X.B a P → BI B' a P) → BI B' (X.L + 1 + 1 + 1) (isCell (.ref E)) → BI B' E (isList vs) → BytesOf vs (fixedBs ds) →
      W (X.withB B') m σ (execs (lawRest X.C.w 4) (lawEnv X.C.w X.L)) QT) :
    W X m ((X.L + 1 + 1 + 1, isCell0) :: σ) (execs (lawRest X.C.w 3) (lawEnv X.C.w X.L)) QT := by
  unfold lawEnv
  conv in lawScope _ => whnf
  conv in lawScope _ => whnf
  conv in lawRest _ _ => whnf
  refine w_execs_cons (w_assign_name (w_ListComp rfl (w_Call (w_builtin rfl (by boot_fast) (w_cw_type (w_args_cons (w_int fun _ => w_args_nil (w_range1 fun r => ?_))))))))
  refine w_iter_range (.inr (.head _)) (by decide) (by decide) (k := 5) (by decide) fun I => ?_
  refine go_range5 (σ₃ := (r, isRange 0 5 1) :: (X.L + 1 + 1 + 1, isCell0) :: σ) hA.hd (fun i rs => BytesOf rs ((fixedBs ds).take i)) .nil ?_ ?_
  · intro F2 C i tk m₁ rs hi hl hJ
    obtain ⟨hx, hx0, _⟩ := h5.at_ hi
    obtain ⟨tx, hx⟩ := hws.get hx
    refine w_store_name (w_store_local (w_tests_nil ?_))
    show W _ _ _ _ _
    refine w_methcall (w_Call (w_global (v := .ref 201) rfl (w_cw_K (by kernel_rfl) (w_args_cons (w_Call (w_global (v := .ref 215) rfl (w_cw_K (by kernel_rfl) ?_)))))))
    refine w_args_cons (w_local rfl (w_args_cons (w_subscript (w_cell (.inl hc) (w_local rfl ?_)))))
    refine w_item_list (vs := ws) (.inl hD) (by first | decide | (with_reducible first | exact n0 _ | exact f5 (by assumption) | exact a3 (by assumption) (by assumption) | exact b26 (by assumption) | exact a26 (by assumption)) | (first | lia | omega)) (by first | decide | (with_reducible first | exact n0 _ | exact f5 (by assumption) | exact a3 (by assumption) (by assumption) | exact b26 (by assumption) | exact a26 (by assumption)) | (first | lia | omega)) hx (w_args_nil (w_call ?_))
    refine wk_written (X := ⟨X.C, X.A, X.B, F2, C⟩) (k := (i : Int)) (hA.le (by first | decide | (with_reducible first | exact n0 _ | exact f5 (by assumption) | exact a3 (by assumption) (by assumption) | exact b26 (by assumption) | exact a26 (by assumption)) | (first | lia | omega))) (by first | decide | (with_reducible first | exact n0 _ | exact f5 (by assumption) | exact a3 (by assumption) (by assumption) | exact b26 (by assumption) | exact a26 (by assumption)) | (first | lia | omega)) (by first | decide | (with_reducible first | exact n0 _ | exact f5 (by assumption) | exact a3 (by assumption) (by assumption) | exact b26 (by assumption) | exact a26 (by assumption)) | (first | lia | omega)) hx0 fun t => ?_
    refine w_args_nil (w_call ?_)
    refine wk_fix (hA.le (by first | decide | (with_reducible first | exact n0 _ | exact f5 (by assumption) | exact a3 (by assumption) (by assumption) | exact b26 (by assumption) | exact a26 (by assumption)) | (first | lia | omega))) (by have := written_len h5 hi; (first | lia | omega)) fun y t' hy => ?_
    rw [written_fix h5 hi] at hy
    refine w_encodeMethod (w_cwm_builtin (w_args_cons (w_str fun u => w_args_nil ?_)))
    refine w_encode (by rw [hy]; exact fix_asc h5 hi) (by have := fix_bd h5 hi; rw [← hy, cps_len] at this; (first | lia | omega)) fun z t'' hz => ⟨rfl, ?_⟩
    rw [fixed_take hi, ← hy, ← eq_bytesOf hz]
    exact hJ.snoc _ _
  · intro rs E hrs
    rw [List.take_of_length_le (by rw [fixed_len5]; exact Nat.le_refl _)] at hrs
    refine w_perm bring2 (w_store_cell cell0_is ?_)
    refine w_perm (List.perm_append_comm (l₁ := [(X.L + 1 + 1 + 1, isCell (.ref E)), (E, isList rs), (r, isRange 0 5 1)])) (w_keepB fun B' hB' => ?_)
    exact h B' E rs (fun a P k => hB' _ _ (.inl k)) (hB' _ _ (.inr (.head _))) (hB' _ _ (.inr (.tail _ (.head _)))) hrs
end
end Mine
end
end
section
open PySem PySem.W PySem.Calls PyProof.Rows PySem.Spec
set_option Elab.async false
set_option linter.unusedVariables false
set_option maxRecDepth 100000
set_option maxHeartbeats 4000000
noncomputable section
namespace Mine
theorem fixed_at {ds : List Int} {i : Nat} (hi : i < 5) : (fixedBs ds)[i]? = some (bytesOf (fixOf ds i)) := by
  unfold fixedBs
  rw [List.getElem?_map, List.getElem?_range hi]; rfl
theorem sent_at {ds : List Int} {i : Nat} (hi : i < 5) : (sentBs ds)[i]? = some (bytesOf (cpsL (textOf ds i))) := by
  unfold sentBs
  rw [List.getElem?_map, List.getElem?_range hi]; rfl
section
variable {X : Fm} {m : Vars} {σ : Led}
theorem law_c {D : Addr} {vs : List Value} {ds : List Int} (hA : Ok 24 X.A) (h5 : Five ds) (hc : BI X.B (X.L + 1 + 1 + 1) (isCell (.ref D))) (hD : BI X.B D (isList vs)) (hv : BytesOf vs (fixedBs ds))
    (h : ∀ (B' : PH) E us, (∀ a P, BI X.B a P → BI B' a P) → BI B' (X.L + 1 + 1 + 1 + 1) (isCell (.ref E)) → BI B' E (isList us) → BytesOf us (sentBs ds) →
      W (X.withB B') m σ (execs (lawRest X.C.w 5) (lawEnv X.C.w X.L)) QT) :
    W X m ((X.L + 1 + 1 + 1 + 1, isCell0) :: σ) (execs (lawRest X.C.w 4) (lawEnv X.C.w X.L)) QT := by
  unfold lawEnv
  conv in lawScope _ => whnf
  conv in lawScope _ => whnf
  conv in lawRest _ _ => whnf
  have hvl : vs.length = 5 := by rw [hv.len, fixed_len5]
  refine w_execs_cons (w_assign_name (w_ListComp rfl (w_cell (.inl hc) (w_iter_list (.inl hD) fun I hI => ?_))))
  refine go_list (σ₃ := (X.L + 1 + 1 + 1 + 1, isCell0) :: σ) hA.hd hD hI (by first | decide | (with_reducible first | exact n0 _ | exact f5 (by assumption) | exact a3 (by assumption) (by assumption) | exact b26 (by assumption) | exact a26 (by assumption)) | (first | lia | omega)) (fun i rs => BytesOf rs ((sentBs ds).take i)) .nil ?_ ?_
  · intro F2 C i v m₁ rs hi hx hl hJ
    rw [hvl] at hi
    obtain ⟨tb, hb⟩ := hv.get (fixed_at hi)
    rw [hx] at hb
    cases hb
    refine w_store_name (w_store_local (w_tests_nil ?_))
    show W _ _ _ _ _
    refine w_Call (w_global (v := .ref 194) rfl (w_cw_K (by kernel_rfl) (w_args_cons (w_local rfl (w_args_nil (w_call ?_))))))
    refine wk_quote (hA.le (by first | decide | (with_reducible first | exact n0 _ | exact f5 (by assumption) | exact a3 (by assumption) (by assumption) | exact b26 (by assumption) | exact a26 (by assumption)) | (first | lia | omega))) (by rw [bytesOf_size]; have := fix_bd h5 hi; (first | lia | omega)) fun y t' hy => ⟨rfl, ?_⟩
    rw [natL_bytesOf (fun n hn => by have := fix_asc h5 hi n hn; (first | lia | omega)), fix_quote h5 hi] at hy
    rw [sent_take hi, ← eq_bytesOf hy]
    exact hJ.snoc _ _
  · intro rs E hrs
    rw [hvl, List.take_of_length_le (by rw [sent_len5]; exact Nat.le_refl _)] at hrs
    refine w_perm bring1 (w_store_cell cell0_is ?_)
    refine w_perm (List.perm_append_comm (l₁ := [(X.L + 1 + 1 + 1 + 1, isCell (.ref E)), (E, isList rs)])) (w_keepB fun B' hB' => ?_)
    exact h B' E rs (fun a P k => hB' _ _ (.inl k)) (hB' _ _ (.inr (.head _))) (hB' _ _ (.inr (.tail _ (.head _)))) hrs
theorem law_d {D : Addr} {ws : List Value} {ds : List Int} (hA : Ok 24 X.A) (h5 : Five ds) (hc : BI X.B (X.L + 1) (isCell (.ref D))) (hD : BI X.B D (isList ws)) (hws : IntsOf ws ds)
    (h : ∀ (B' : PH) E vs, (∀ a P, BI X.B a P → BI B' a P) → BI B' (X.L + 1 + 1 + 1 + 1 + 1) (isCell (.ref E)) → BI B' E (isList vs) → StrsOf vs (textsOf ds) →
      W (X.withB B') m σ (execs (lawRest X.C.w 6) (lawEnv X.C.w X.L)) QT) :
    W X m ((X.L + 1 + 1 + 1 + 1 + 1, isCell0) :: σ) (execs (lawRest X.C.w 5) (lawEnv X.C.w X.L)) QT := by
  unfold lawEnv
  conv in lawScope _ => whnf
  conv in lawScope _ => whnf
  conv in lawRest _ _ => whnf
  refine w_execs_cons (w_assign_name (w_ListComp rfl (w_Call (w_builtin rfl (by boot_fast) (w_cw_type (w_args_cons (w_int fun _ => w_args_nil (w_range1 fun r => ?_))))))))
  refine w_iter_range (.inr (.head _)) (by decide) (by decide) (k := 5) (by decide) fun I => ?_
  refine go_range5 (σ₃ := (r, isRange 0 5 1) :: (X.L + 1 + 1 + 1 + 1 + 1, isCell0) :: σ) hA.hd (fun i rs => StrsOf rs ((textsOf ds).take i)) .nil ?_ ?_
  · intro F2 C i tk m₁ rs hi hl hJ
    obtain ⟨hx, hx0, _⟩ := h5.at_ hi
    obtain ⟨tx, hx⟩ := hws.get hx
    refine w_store_name (w_store_local (w_tests_nil ?_))
    show W _ _ _ _ _
    refine w_Call (w_global (v := .ref 222) rfl (w_cw_K (by kernel_rfl) ?_))
    refine w_args_cons (w_local rfl (w_args_cons (w_subscript (w_cell (.inl hc) (w_local rfl ?_)))))
    refine w_item_list (vs := ws) (.inl hD) (by first | decide | (with_reducible first | exact n0 _ | exact f5 (by assumption) | exact a3 (by assumption) (by assumption) | exact b26 (by assumption) | exact a26 (by assumption)) | (first | lia | omega)) (by first | decide | (with_reducible first | exact n0 _ | exact f5 (by assumption) | exact a3 (by assumption) (by assumption) | exact b26 (by assumption) | exact a26 (by assumption)) | (first | lia | omega)) hx (w_args_nil ?_)
    refine as_sent_spec (X := ⟨X.C, X.A, X.B, F2, C⟩) (k := (i : Int)) (hA.le (by first | decide | (with_reducible first | exact n0 _ | exact f5 (by assumption) | exact a3 (by assumption) (by assumption) | exact b26 (by assumption) | exact a26 (by assumption)) | (first | lia | omega))) (by first | decide | (with_reducible first | exact n0 _ | exact f5 (by assumption) | exact a3 (by assumption) (by assumption) | exact b26 (by assumption) | exact a26 (by assumption)) | (first | lia | omega)) (by first | decide | (with_reducible first | exact n0 _ | exact f5 (by assumption) | exact a3 (by assumption) (by assumption) | exact b26 (by assumption) | exact a26 (by assumption)) | (first | lia | omega)) hx0 fun t => ⟨rfl, ?_⟩
    rw [texts_take hi]
    exact hJ.snoc _ _
  · intro rs E hrs
    rw [List.take_of_length_le (by rw [texts_len5]; exact Nat.le_refl _)] at hrs
    refine w_perm bring2 (w_store_cell cell0_is ?_)
    refine w_perm (List.perm_append_comm (l₁ := [(X.L + 1 + 1 + 1 + 1 + 1, isCell (.ref E)), (E, isList rs), (r, isRange 0 5 1)])) (w_keepB fun B' hB' => ?_)
    exact h B' E rs (fun a P k => hB' _ _ (.inl k)) (hB' _ _ (.inr (.head _))) (hB' _ _ (.inr (.tail _ (.head _)))) hrs
end
end Mine
end
end
section
open PySem PySem.W PySem.Calls PyProof.Rows PySem.Spec
set_option Elab.async false
set_option linter.unusedVariables false
set_option maxRecDepth 100000
set_option maxHeartbeats 4000000
noncomputable section
namespace Mine
section
variable {X : Fm} {m : Vars} {σ : Led}
theorem w_len_bytes {x : Array UInt8} {t : Tok} {Q : Value → Vars → Led → Prop} (hx : x.size ≤ 16777216) (h : ∀ t, Q (.int x.size t) m σ) : W X m σ (call (.builtin "len") [.bytes x t]) Q := fun s S =>
  PySem.W.len_bytes (by first | decide | (with_reducible first | exact n0 _ | exact f5 (by assumption) | exact a3 (by assumption) (by assumption) | exact b26 (by assumption) | exact a26 (by assumption)) | (first | lia | omega)) ⟨m, σ, S.toks, h _⟩
theorem law_e {D E : Addr} {vs us : List Value} {ds : List Int} (hA : Ok 24 X.A) (h5 : Five ds) (hs : BI X.B (X.L + 1 + 1 + 1 + 1) (isCell (.ref D))) (hD : BI X.B D (isList us)) (hu : BytesOf us (sentBs ds))
    (ht : BI X.B (X.L + 1 + 1 + 1 + 1 + 1) (isCell (.ref E))) (hE : BI X.B E (isList vs)) (hv : StrsOf vs (textsOf ds))
    (h : W X m σ (execs (lawRest X.C.w 7) (lawEnv X.C.w X.L)) QT) :
    W X m σ (execs (lawRest X.C.w 6) (lawEnv X.C.w X.L)) QT := by
  unfold lawEnv
  conv in lawScope _ => whnf
  conv in lawScope _ => whnf
  conv in lawRest _ _ => whnf
  have hvl : vs.length = 5 := by rw [hv.len, texts_len5]
  refine w_execs_cons (w_if (w_true_compare (w_cell (.inl hs) (w_ListComp rfl (w_cell (.inl ht) (w_iter_list (.inl hE) fun I hI => ?_))))))
  refine go_list (σ₃ := σ) hA.hd hE hI (by first | decide | (with_reducible first | exact n0 _ | exact f5 (by assumption) | exact a3 (by assumption) (by assumption) | exact b26 (by assumption) | exact a26 (by assumption)) | (first | lia | omega)) (fun i rs => BytesOf rs ((sentBs ds).take i)) .nil ?_ ?_
  · intro F2 C i v m₁ rs hi hx hl hJ
    rw [hvl] at hi
    obtain ⟨tb, hb⟩ := hv.get (text_at (ds := ds) h5 hi)
    rw [hx] at hb
    cases hb
    refine w_store_name (w_store_local (w_tests_nil ?_))
    show W _ _ _ _ _
    refine w_methcall (w_local rfl (w_encodeMethod (w_cwm_builtin (w_args_cons (w_str fun u => w_args_nil ?_)))))
    refine w_encode (text_asc h5 hi) (by have := text_bd h5 hi; (first | lia | omega)) fun z t'' hz => ⟨rfl, ?_⟩
    rw [sent_take hi, ← eq_bytesOf hz]
    exact hJ.snoc _ _
  · intro rs G hrs
    rw [hvl, List.take_of_length_le (by rw [sent_len5]; exact Nat.le_refl _)] at hrs
    refine w_ne_blists hA (.inl hD) (.inr (.head _)) hu hrs (w_truthy_bool ?_)
    refine w_execs_nil ?_
    exact w_keep (.cons _ (.refl _)) h
theorem law_f {D : Addr} {us : List Value} {ds : List Int} (hA : Ok 24 X.A) (h5 : Five ds) (hs : BI X.B (X.L + 1 + 1 + 1 + 1) (isCell (.ref D))) (hD : BI X.B D (isList us)) (hu : BytesOf us (sentBs ds))
    (h : ∀ (B' : PH) E vs, (∀ a P, BI X.B a P → BI B' a P) → BI B' E (isList vs) → StrsOf vs (textsOf ds) →
      W (X.withB B') (upd m "told" (.ref E)) σ (execs (lawRest X.C.w 8) (lawEnv X.C.w X.L)) QT) :
    W X m σ (execs (lawRest X.C.w 7) (lawEnv X.C.w X.L)) QT := by
  unfold lawEnv
  conv in lawScope _ => whnf
  conv in lawScope _ => whnf
  conv in lawRest _ _ => whnf
  have hul : us.length = 5 := by rw [hu.len, sent_len5]
  refine w_execs_cons (w_assign_comp rfl (w_cell (.inl hs) (w_iter_list (.inl hD) fun I hI => ?_)))
  refine go_list (σ₃ := σ) hA.hd hD hI (by first | decide | (with_reducible first | exact n0 _ | exact f5 (by assumption) | exact a3 (by assumption) (by assumption) | exact b26 (by assumption) | exact a26 (by assumption)) | (first | lia | omega)) (fun i rs => StrsOf rs ((textsOf ds).take i)) .nil ?_ ?_
  · intro F2 C i v m₁ rs hi hx hl hJ
    rw [hul] at hi
    obtain ⟨tb, hb⟩ := hu.get (sent_at hi)
    rw [hx] at hb
    cases hb
    have hn : natL (bytesOf (cpsL (textOf ds i))) = cpsL (textOf ds i) := natL_bytesOf fun n hn => by have := text_asc h5 hi n hn; (first | lia | omega)
    have hl2 := text_bd h5 hi
    refine w_store_name (w_store_local (w_tests_nil ?_))
    show W _ _ _ _ _
    refine w_methcall (w_local rfl (w_decodeMethod (w_cwm_builtin (w_args_cons (w_str fun u => w_args_nil ?_)))))
    refine w_decode (by rw [hn]; exact text_asc h5 hi) (by rw [bytesOf_size, cps_len]; (first | lia | omega)) (fun e => ?_) fun y t' hy => ⟨rfl, ?_⟩
    · have := congrArg Array.size e
      rw [bytesOf_size, cps_len] at this
      have h0 : (#[] : Array UInt8).size = 0 := rfl
      (first | lia | omega)
    · rw [hn] at hy
      have : y = textOf ds i := str_ext hy
      rw [texts_take hi, this]
      exact hJ.snoc _ _
  · intro rs G hrs F'
    rw [hul, List.take_of_length_le (by rw [texts_len5]; exact Nat.le_refl _)] at hrs
    refine w_store_local ?_
    refine w_perm (List.perm_append_comm (l₁ := [(G, isList rs)])) (w_keepB fun B' hB' => ?_)
    exact h B' G rs (fun a P k => hB' _ _ (.inl k)) (hB' _ _ (.inr (.head _))) hrs
theorem law_g {D E : Addr} {vs us : List Value} {ds : List Int} (hA : Ok 24 X.A) (h5 : Five ds) (hs : BI X.B (X.L + 1 + 1 + 1 + 1) (isCell (.ref D))) (hD : BI X.B D (isList us)) (hu : BytesOf us (sentBs ds))
    (hf : BI X.B (X.L + 1 + 1 + 1) (isCell (.ref E))) (hE : BI X.B E (isList vs)) (hv : BytesOf vs (fixedBs ds))
    (h : ∀ (B' : PH) E ws, (∀ a P, BI X.B a P → BI B' a P) → BI B' E (isList ws) → IntsOf ws (weightsOf ds) →
      W (X.withB B') (upd m "gained" (.ref E)) σ (execs (lawRest X.C.w 9) (lawEnv X.C.w X.L)) QT) :
    W X m σ (execs (lawRest X.C.w 8) (lawEnv X.C.w X.L)) QT := by
  unfold lawEnv
  conv in lawScope _ => whnf
  conv in lawScope _ => whnf
  conv in lawRest _ _ => whnf
  have hwl : (weightsOf ds).length = 5 := (five_letters h5).lw
  refine w_execs_cons (w_assign_comp rfl (w_Call (w_builtin rfl (by boot_fast) (w_cw_type (w_args_cons (w_int fun _ => w_args_nil (w_range1 fun r => ?_)))))))
  refine w_iter_range (.inr (.head _)) (by decide) (by decide) (k := 5) (by decide) fun I => ?_
  refine go_range5 (σ₃ := (r, isRange 0 5 1) :: σ) hA.hd (fun i rs => IntsOf rs ((weightsOf ds).take i)) .nil ?_ ?_
  · intro F2 C i tk m₁ rs hi hl hJ
    obtain ⟨t1, e1⟩ := hu.get (sent_at hi)
    obtain ⟨t2, e2⟩ := hv.get (fixed_at hi)
    have b1 := text_bd h5 hi
    have b2 := fix_bd h5 hi
    have l1 := text_len h5 hi
    have l2 := fix_len h5 hi
    refine w_store_name (w_store_local (w_tests_nil ?_))
    show W _ _ _ _ _
    refine w_binop (w_Call (w_builtin rfl (by boot_fast) (w_cw_builtin (w_args_cons (w_subscript (w_cell (.inl hs) (w_local rfl ?_)))))))
    refine w_item_list (vs := us) (.inl hD) (by first | decide | (with_reducible first | exact n0 _ | exact f5 (by assumption) | exact a3 (by assumption) (by assumption) | exact b26 (by assumption) | exact a26 (by assumption)) | (first | lia | omega)) (by first | decide | (with_reducible first | exact n0 _ | exact f5 (by assumption) | exact a3 (by assumption) (by assumption) | exact b26 (by assumption) | exact a26 (by assumption)) | (first | lia | omega)) e1 (w_args_nil ?_)
    refine w_len_bytes (by rw [bytesOf_size, cps_len]; (first | lia | omega)) fun t3 => ?_
    refine w_Call (w_builtin rfl (by boot_fast) (w_cw_builtin (w_args_cons (w_subscript (w_cell (.inl hf) (w_local rfl ?_))))))
    refine w_item_list (vs := vs) (.inl hE) (by first | decide | (with_reducible first | exact n0 _ | exact f5 (by assumption) | exact a3 (by assumption) (by assumption) | exact b26 (by assumption) | exact a26 (by assumption)) | (first | lia | omega)) (by first | decide | (with_reducible first | exact n0 _ | exact f5 (by assumption) | exact a3 (by assumption) (by assumption) | exact b26 (by assumption) | exact a26 (by assumption)) | (first | lia | omega)) e2 (w_args_nil ?_)
    refine w_len_bytes (by rw [bytesOf_size]; (first | lia | omega)) fun t4 => w_sub fun t5 => ⟨rfl, ?_⟩
    have e : ((bytesOf (cpsL (textOf ds i))).size : Int) - ((bytesOf (fixOf ds i)).size : Int) = (rowsOf (dAt ds i) : Int) := by
      rw [bytesOf_size, bytesOf_size, cps_len, l1, l2]; (first | lia | omega)
    rw [e, take_snoc (weight_at h5 hi)]
    exact hJ.snoc _ _
  · intro rs G hrs F'
    rw [List.take_of_length_le (by first | decide | (with_reducible first | exact n0 _ | exact f5 (by assumption) | exact a3 (by assumption) (by assumption) | exact b26 (by assumption) | exact a26 (by assumption)) | (first | lia | omega))] at hrs
    refine w_store_local ?_
    refine w_perm (List.perm_append_comm (l₁ := [(G, isList rs), (r, isRange 0 5 1)])) (w_keepB fun B' hB' => ?_)
    exact h B' G rs (fun a P k => hB' _ _ (.inl k)) (hB' _ _ (.inr (.head _))) hrs
end
end Mine
end
end
section
open PySem PySem.W PySem.Calls PyProof.Rows PySem.Spec
set_option Elab.async false
set_option linter.unusedVariables false
set_option maxRecDepth 100000
set_option maxHeartbeats 4000000
noncomputable section
namespace Mine
theorem sizes_at {ds : List Int} {i : Nat} (hi : i < 5) : (sizesOf ds)[i]? = some ((textOf ds i).length : Int) := by
  unfold sizesOf textsOf
  rw [List.getElem?_map, List.getElem?_map, List.getElem?_range hi]; rfl
theorem sizes_len5 (ds : List Int) : (sizesOf ds).length = 5 := by unfold sizesOf textsOf; simp
section
variable {X : Fm} {m : Vars} {σ : Led}
theorem law_h {E : Addr} {vs : List Value} {ds : List Int} (hA : Ok 24 X.A) (h5 : Five ds) (ht : BI X.B (X.L + 1 + 1 + 1 + 1 + 1) (isCell (.ref E))) (hE : BI X.B E (isList vs)) (hv : StrsOf vs (textsOf ds))
    (h : ∀ (B' : PH) E us, (∀ a P, BI X.B a P → BI B' a P) → BI B' (X.L + 1 + 1 + 1 + 1 + 1 + 1) (isCell (.ref E)) → BI B' E (isList us) → IntsOf us (sizesOf ds) →
      W (X.withB B') m σ (execs (lawRest X.C.w 10) (lawEnv X.C.w X.L)) QT) :
    W X m ((X.L + 1 + 1 + 1 + 1 + 1 + 1, isCell0) :: σ) (execs (lawRest X.C.w 9) (lawEnv X.C.w X.L)) QT := by
  unfold lawEnv
  conv in lawScope _ => whnf
  conv in lawScope _ => whnf
  conv in lawRest _ _ => whnf
  have hvl : vs.length = 5 := by rw [hv.len, texts_len5]
  refine w_execs_cons (w_assign_name (w_ListComp rfl (w_cell (.inl ht) (w_iter_list (.inl hE) fun I hI => ?_))))
  refine go_list (σ₃ := (X.L + 1 + 1 + 1 + 1 + 1 + 1, isCell0) :: σ) hA.hd hE hI (by first | decide | (with_reducible first | exact n0 _ | exact f5 (by assumption) | exact a3 (by assumption) (by assumption) | exact b26 (by assumption) | exact a26 (by assumption)) | (first | lia | omega)) (fun i rs => IntsOf rs ((sizesOf ds).take i)) .nil ?_ ?_
  · intro F2 C i v m₁ rs hi hx hl hJ
    rw [hvl] at hi
    obtain ⟨tb, hb⟩ := hv.get (text_at (ds := ds) h5 hi)
    rw [hx] at hb
    cases hb
    have hl2 := text_bd h5 hi
    refine w_store_name (w_store_local (w_tests_nil ?_))
    show W _ _ _ _ _
    refine w_Call (w_builtin rfl (by boot_fast) (w_cw_builtin (w_args_cons (w_local rfl (w_args_nil (w_len_str (by first | decide | (with_reducible first | exact n0 _ | exact f5 (by assumption) | exact a3 (by assumption) (by assumption) | exact b26 (by assumption) | exact a26 (by assumption)) | (first | lia | omega)) fun t => ⟨rfl, ?_⟩))))))
    rw [take_snoc (sizes_at hi)]
    exact hJ.snoc _ _
  · intro rs G hrs
    rw [hvl, List.take_of_length_le (by rw [sizes_len5]; exact Nat.le_refl _)] at hrs
    refine w_perm bring1 (w_store_cell cell0_is ?_)
    refine w_perm (List.perm_append_comm (l₁ := [(X.L + 1 + 1 + 1 + 1 + 1 + 1, isCell (.ref G)), (G, isList rs)])) (w_keepB fun B' hB' => ?_)
    exact h B' G rs (fun a P k => hB' _ _ (.inl k)) (hB' _ _ (.inr (.head _))) (hB' _ _ (.inr (.tail _ (.head _)))) hrs
theorem law_i {D : Addr} {ws : List Value} {ds : List Int} {st : Int} {ts : Tok} (hA : Ok 24 X.A) (h5 : Five ds) (hc : BI X.B (X.L + 1) (isCell (.ref D))) (hD : BI X.B D (isList ws)) (hws : IntsOf ws ds) (hm : m "start" = some (.int st ts)) (h0 : 0 ≤ st) (h9 : st ≤ 9)
    (h : ∀ (B' : PH) E us t, (∀ a P, BI X.B a P → BI B' a P) → BI B' (X.L + 1 + 1 + 1 + 1 + 1 + 1 + 1) (isCell (.ref E)) → BI B' E (isList us) → IntsOf us (weightsOf ds) →
      W (X.withB B') (upd m "early" (.int (st * (weightsOf ds).sum) t)) σ (execs (lawRest X.C.w 12) (lawEnv X.C.w X.L)) QT) :
    W X m ((X.L + 1 + 1 + 1 + 1 + 1 + 1 + 1, isCell0) :: σ) (execs (lawRest X.C.w 10) (lawEnv X.C.w X.L)) QT := by
  unfold lawEnv
  conv in lawScope _ => whnf
  conv in lawScope _ => whnf
  conv in lawRest _ _ => whnf
  have hvl : ws.length = 5 := by rw [hws.len, h5.len]
  have hwl : (weightsOf ds).length = 5 := (five_letters h5).lw
  refine w_execs_cons (w_assign_name (w_ListComp rfl (w_cell (.inl hc) (w_iter_list (.inl hD) fun I hI => ?_))))
  refine go_list (σ₃ := (X.L + 1 + 1 + 1 + 1 + 1 + 1 + 1, isCell0) :: σ) hA.hd hD hI (by first | decide | (with_reducible first | exact n0 _ | exact f5 (by assumption) | exact a3 (by assumption) (by assumption) | exact b26 (by assumption) | exact a26 (by assumption)) | (first | lia | omega)) (fun i rs => IntsOf rs ((weightsOf ds).take i)) .nil ?_ ?_
  · intro F2 C i v m₁ rs hi hx hl hJ
    rw [hvl] at hi
    obtain ⟨hdx, _, _⟩ := h5.at_ hi
    obtain ⟨tb, hb⟩ := hws.get hdx
    rw [hx] at hb
    cases hb
    refine w_store_name (w_store_local (w_tests_nil ?_))
    show W _ _ _ _ _
    refine w_binop (w_int fun _ => w_binop (w_local rfl (w_int fun _ => w_mod (by k_dflt decide) fun _ => w_add fun t => ⟨rfl, ?_⟩)))
    have hw : (weightsOf ds)[i]? = some (1 + (dAt ds i).fmod 3) := by unfold weightsOf; rw [List.getElem?_map, hdx]; rfl
    rw [take_snoc hw]
    exact hJ.snoc _ _
  · intro rs G hrs
    rw [hvl, List.take_of_length_le (by first | decide | (with_reducible first | exact n0 _ | exact f5 (by assumption) | exact a3 (by assumption) (by assumption) | exact b26 (by assumption) | exact a26 (by assumption)) | (first | lia | omega))] at hrs
    refine w_perm bring1 (w_store_cell cell0_is ?_)
    refine w_perm (List.perm_append_comm (l₁ := [(X.L + 1 + 1 + 1 + 1 + 1 + 1 + 1, isCell (.ref G)), (G, isList rs)])) (w_keepB fun B' hB' => ?_)
    have hc' : BI B' (X.L + 1 + 1 + 1 + 1 + 1 + 1 + 1) (isCell (.ref G)) := hB' _ _ (.inr (.head _))
    have hG : BI B' G (isList rs) := hB' _ _ (.inr (.tail _ (.head _)))
    refine w_execs_cons (w_assign_name (w_binop (w_local hm (w_Call (w_builtin rfl (by boot_fast) (w_cw_builtin (w_args_cons (w_cell (.inl hc') (w_args_nil ?_)))))))))
    refine w_sum_list hA.hd (.inl hG) hrs fun t1 => w_mul (mulOk_small (by first | decide | (with_reducible first | exact n0 _ | exact f5 (by assumption) | exact a3 (by assumption) (by assumption) | exact b26 (by assumption) | exact a26 (by assumption)) | (first | lia | omega))) fun t2 => w_store_local ?_
    exact h B' G rs t2 (fun a P k => hB' _ _ (.inl k)) hc' hG hrs
end
end Mine
end
end
section
open PySem PySem.W PySem.Calls PyProof.Rows PySem.Spec
set_option Elab.async false
set_option linter.unusedVariables false
set_option maxRecDepth 100000
set_option maxHeartbeats 4000000
noncomputable section
namespace Mine
noncomputable abbrev SA (ds : List Int) : Nat → Int := lenAt (textsOf ds)
noncomputable abbrev WA (ds : List Int) : Nat → Int := fun k => (weightsOf ds).getD k 0
theorem sizes_S (ds : List Int) : (fun k => (sizesOf ds).getD k 0) = SA ds := by
  funext k
  unfold SA lenAt sizesOf
  rw [List.getD_eq_getElem?_getD, List.getElem?_map]
noncomputable def waitOf (ds : List Int) (st : Int) (row : List Nat) : Int := fw (SA ds) (WA ds) 0 row + st * (weightsOf ds).sum
theorem wait_told {ds : List Int} (h5 : Five ds) {row : List Nat} (hperm : row.Perm [0, 1, 2, 3, 4]) (st : Int) :
    fwd st (pairsOf (textsOf ds) (weightsOf ds) row) = waitOf ds st row ∧ fwd 0 (swapP (pairsOf (textsOf ds) (weightsOf ds) row).reverse) + st * sumW (pairsOf (textsOf ds) (weightsOf ds) row) = waitOf ds st row := by
  have e1 := fwd_shift (pairsOf (textsOf ds) (weightsOf ds) row) st 0
  have e2 := fwd_fw (textsOf ds) (weightsOf ds) row 0
  have e3 : sumW (pairsOf (textsOf ds) (weightsOf ds) row) = (weightsOf ds).sum := sumW_row (five_letters h5).lw hperm
  rw [Int.add_zero] at e1
  rw [fwd_rev, e1, e2, e3]
  exact ⟨rfl, rfl⟩
noncomputable def psOf (ds : List Int) : PS := pairsUpto (SA ds) (WA ds) 5
theorem first_wait (ds : List Int) (st : Int) : (psOf ds).first + st * (weightsOf ds).sum = waitOf ds st [0, 1, 2, 3, 4] := by
  unfold waitOf psOf
  rw [pu_first]
section
variable {X : Fm} {m : Vars} {σ : Led}
theorem law_j {C D : Addr} {sv wv : List Value} {ds : List Int} (hA : Ok 24 X.A) (h5 : Five ds) (hs : BI X.B (X.L + 1 + 1 + 1 + 1 + 1 + 1) (isCell (.ref C))) (hC : BI X.B C (isList sv)) (hsv : IntsOf sv (sizesOf ds))
    (hw : BI X.B (X.L + 1 + 1 + 1 + 1 + 1 + 1 + 1) (isCell (.ref D))) (hD : BI X.B D (isList wv)) (hwv : IntsOf wv (weightsOf ds))
    (h : ∀ (B' : PH) Bk G t1 t2, (∀ a P, BI X.B a P → BI B' a P) → BI B' Bk (isBook X.C.w (psOf ds).count (psOf ds).moved (psOf ds).won (psOf ds).lost G) → BI B' G (isD X.C.w (psOf ds).gains) → (G == sysModules) = false →
      W (X.withB B') (upd (upd (upd m "first" (.int (psOf ds).first t1)) "least" (.int (psOf ds).least t2)) "due" (.ref Bk)) σ (execs (lawRest X.C.w 13) (lawEnv X.C.w X.L)) QT) :
    W X m σ (execs (lawRest X.C.w 12) (lawEnv X.C.w X.L)) QT := by
  unfold lawEnv
  conv in lawScope _ => whnf
  conv in lawScope _ => whnf
  conv in lawRest _ _ => whnf
  have hps : pairsUpto (fun k => (sizesOf ds).getD k 0) (fun k => (weightsOf ds).getD k 0) 5 = psOf ds := by rw [sizes_S]; rfl
  refine w_execs_cons (w_assign_tup (w_Call (w_global (v := .ref 251) rfl (w_cw_K (by kernel_rfl) (w_args_cons (w_cell (.inl hs) (w_args_cons (w_cell (.inl hw) (w_args_nil (w_call ?_))))))))))
  refine wk_pairs (hA.le (by first | decide | (with_reducible first | exact n0 _ | exact f5 (by assumption) | exact a3 (by assumption) (by assumption) | exact b26 (by assumption) | exact a26 (by assumption)) | (first | lia | omega))) (.inl hC) hsv (.inl hD) hwv (sizes_len5 ds) (five_letters h5).lw (five_letters h5).tw hps fun Rt Bk G t1 t2 hG => ?_
  refine w_unpack_tup hA.hd (.inr (.head _)) rfl rfl ?_
  refine w_inorder_cons (w_store_name (w_store_local (w_inorder_cons (w_store_name (w_store_local (w_inorder_cons (w_store_name (w_store_local (w_inorder_nil ?_)))))))))
  refine w_perm (List.perm_append_comm (l₁ := [(Rt, isTup [.int (psOf ds).first t1, .int (psOf ds).least t2, .ref Bk]), (Bk, isBook X.C.w (psOf ds).count (psOf ds).moved (psOf ds).won (psOf ds).lost G), (G, isD X.C.w (psOf ds).gains)])) (w_keepB fun B' hB' => ?_)
  exact h B' Bk G t1 t2 (fun a P k => hB' _ _ (.inl k)) (hB' _ _ (.inr (.tail _ (.head _)))) (hB' _ _ (.inr (.tail _ (.tail _ (.head _))))) hG
theorem law_k {T G : Addr} {tv wv : List Value} {ds : List Int} {st : Int} {ts t1 t2 : Tok} (hA : Ok 24 X.A) (h5 : Five ds) (h0 : 0 ≤ st) (h9 : st ≤ 9) (m1 : m "told" = some (.ref T)) (m2 : m "gained" = some (.ref G)) (m3 : m "start" = some (.int st ts)) (m4 : m "first" = some (.int (psOf ds).first t1)) (m5 : m "early" = some (.int (st * (weightsOf ds).sum) t2))
    (hT : BI X.B T (isList tv)) (htv : StrsOf tv (textsOf ds)) (hG : BI X.B G (isList wv)) (hwv : IntsOf wv (weightsOf ds))
    (h : ∀ (B' : PH) E bv, (∀ a P, BI X.B a P → BI B' a P) → BI B' E (isList bv) → IntsOf bv [waitOf ds st [0, 1, 2, 3, 4], waitOf ds st [0, 1, 2, 3, 4], waitOf ds st [0, 1, 2, 3, 4], 10] →
      W (X.withB B') (upd m "before" (.ref E)) ((128, isTab) :: σ) (execs (lawRest X.C.w 15) (lawEnv X.C.w X.L)) QT) :
    W X m ((128, isTab) :: σ) (execs (lawRest X.C.w 13) (lawEnv X.C.w X.L)) QT := by
  unfold lawEnv
  conv in lawScope _ => whnf
  conv in lawScope _ => whnf
  conv in lawRest _ _ => whnf
  have hW := wait_told h5 (.refl [0, 1, 2, 3, 4]) st
  refine w_execs_cons (w_assign_name (w_Call (w_global (v := .ref 234) rfl (w_cw_K (by kernel_rfl) ?_))))
  refine w_args_cons (w_List (w_args_cons (w_int fun u0 => w_args_cons (w_int fun u1 => w_args_cons (w_int fun u2 => w_args_cons (w_int fun u3 => w_args_cons (w_int fun u4 => w_args_nil (w_newList (szL _ (by simp)) fun RW => ?_))))))))
  refine w_args_cons (w_local m1 (w_args_cons (w_local m2 (w_args_cons (w_local m3 (w_args_nil (w_call ?_)))))))
  refine wk_perm (List.Perm.swap _ _ _) ?_
  refine wk_waitings (xs := textsOf ds) (ws := weightsOf ds) (ns := [0, 1, 2, 3, 4]) (hA.le (by first | decide | (with_reducible first | exact n0 _ | exact f5 (by assumption) | exact a3 (by assumption) (by assumption) | exact b26 (by assumption) | exact a26 (by assumption)) | (first | lia | omega))) (.inr (.head _)) (.cons ⟨_, rfl⟩ (.cons ⟨_, rfl⟩ (.cons ⟨_, rfl⟩ (.cons ⟨_, rfl⟩ (.cons ⟨_, rfl⟩ .nil))))) (.inl hT) htv (.inl hG) hwv (five_letters h5) rfl (by decide) h0 h9 fun E bv hbv => ?_
  rw [hW.1, hW.2] at hbv
  refine w_store_local ?_
  refine w_keep (σ' := [(E, isList bv)] ++ ((128, isTab) :: σ)) (.cons_cons _ (.cons_cons _ (.cons _ (.refl _)))) ?_
  refine w_perm (List.perm_append_comm (l₁ := [(E, isList bv)])) (w_keepB fun B' hB' => ?_)
  have hE : BI B' E (isList bv) := hB' _ _ (.inr (.head _))
  refine w_execs_cons (w_if (w_true_compare (w_local rfl (w_List (w_args_cons (w_binop (w_local m4 (w_local m5 (w_add fun u5 => ?_)))))))))
  refine w_args_cons (w_binop (w_local m4 (w_local m5 (w_add fun u6 => w_args_cons (w_binop (w_local m4 (w_local m5 (w_add fun u7 => w_args_cons (w_int fun u8 => w_args_nil (w_newList (szL _ (by simp)) fun Z => ?_))))))))))
  rw [first_wait]
  refine w_ne_ints hA (.inl hE) (.inr (.head _)) hbv (.cons ⟨_, rfl⟩ (.cons ⟨_, rfl⟩ (.cons ⟨_, rfl⟩ (.cons ⟨_, rfl⟩ .nil)))) (w_truthy_bool (w_execs_nil ?_))
  refine w_keep (.cons _ (.refl _)) ?_
  exact h B' E bv (fun a P k => hB' _ _ (.inl k)) hE hbv
end
end Mine
end
end
section
open PySem PySem.W PySem.Calls PyProof.Rows PySem.Spec
set_option Elab.async false
set_option linter.unusedVariables false
set_option maxRecDepth 100000
set_option maxHeartbeats 4000000
noncomputable section
namespace Mine
noncomputable def rsOf (ds : List Int) : RS := runUpto (SA ds) (WA ds) (cardV (textsOf ds) (weightsOf ds)) ds.sum 11
section
variable {X : Fm} {m : Vars} {σ : Led}
theorem law_l {T G : Addr} {tv wv : List Value} {ds : List Int} {st : Int} {ts tt : Tok} (hA : Ok 24 X.A) (h5 : Five ds) (m1 : m "told" = some (.ref T)) (m2 : m "gained" = some (.ref G)) (m3 : m "start" = some (.int st ts)) (m4 : m "turn" = some (.int ds.sum tt))
    (hT : BI X.B T (isList tv)) (htv : StrsOf tv (textsOf ds)) (hG : BI X.B G (isList wv)) (hwv : IntsOf wv (weightsOf ds))
    (h : ∀ (B' : PH) ra pile dx bk D rv vs, (∀ a P, BI X.B a P → BI B' a P) → BI B' ra (isList rv) → IntsOf rv (natsOf (rsOf ds).row) → BI B' pile (isPile dx vs) → BI B' dx (isDict1 "_initial_size" (.int st ts)) →
      BI B' bk (isBook X.C.w (rsOf ds).c (rsOf ds).m (rsOf ds).wo (rsOf ds).lo D) → BI B' D (isD X.C.w (rsOf ds).g) → (D == sysModules) = false → Pieces B' [] vs ((rsOf ds).row.map (textAt (textsOf ds))) →
      W (X.withB B') (upd (upd (upd m "row" (.ref ra)) "pile" (.ref pile)) "book" (.ref bk)) σ (execs (lawRest X.C.w 16) (lawEnv X.C.w X.L)) QT) :
    W X m σ (execs (lawRest X.C.w 15) (lawEnv X.C.w X.L)) QT := by
  unfold lawEnv
  conv in lawScope _ => whnf
  conv in lawScope _ => whnf
  conv in lawRest _ _ => whnf
  refine w_execs_cons (w_assign_tup (w_Call (w_global (v := .ref 239) rfl (w_cw_K (by kernel_rfl) (w_args_cons (w_local m1 (w_args_cons (w_local m2 (w_args_cons (w_local m3 (w_args_cons (w_local m4 (w_args_nil (w_call ?_))))))))))))))
  refine wk_run (hA.le (by first | decide | (with_reducible first | exact n0 _ | exact f5 (by assumption) | exact a3 (by assumption) (by assumption) | exact b26 (by assumption) | exact a26 (by assumption)) | (first | lia | omega))) (.inl hT) htv (.inl hG) hwv (five_letters h5) (rsOf ds) rfl fun Tp ra pile dx bk D rv vs τ hrv hpc hD => ?_
  refine w_unpack_tup hA.hd (.inr (.head _)) rfl rfl ?_
  refine w_inorder_cons (w_store_name (w_store_local (w_inorder_cons (w_store_name (w_store_local (w_inorder_cons (w_store_name (w_store_local (w_inorder_nil ?_)))))))))
  refine w_perm (List.perm_append_comm (l₁ := [(Tp, isTup [.ref ra, .ref pile, .ref bk]), (ra, isList rv), (pile, isPile dx vs), (dx, isDict1 "_initial_size" (.int st ts)), (bk, isBook X.C.w (rsOf ds).c (rsOf ds).m (rsOf ds).wo (rsOf ds).lo D), (D, isD X.C.w (rsOf ds).g)] ++ τ)) (w_keepB fun B' hB' => ?_)
  refine h B' ra pile dx bk D rv vs (fun a P k => hB' _ _ (.inl k)) (hB' _ _ (.inr (.tail _ (.head _)))) hrv (hB' _ _ (.inr (.tail _ (.tail _ (.head _))))) (hB' _ _ (.inr (.tail _ (.tail _ (.tail _ (.head _))))))
    (hB' _ _ (.inr (.tail _ (.tail _ (.tail _ (.tail _ (.head _))))))) (hB' _ _ (.inr (.tail _ (.tail _ (.tail _ (.tail _ (.tail _ (.head _)))))))) hD (hpc.mono fun a P k => ?_)
  exact .inl (hB' _ _ (.inr (k.elim (fun ⟨o, e, _⟩ => nomatch e) fun q => .tail _ (.tail _ (.tail _ (.tail _ (.tail _ (.tail _ q))))))))
end
end Mine
end
end
section
open PySem PySem.W PySem.Calls PyProof.Rows PySem.Spec
set_option Elab.async false
set_option linter.unusedVariables false
set_option maxRecDepth 100000
set_option maxHeartbeats 4000000
noncomputable section
namespace Mine
theorem W_at {ds : List Int} (h5 : Five ds) {k : Nat} (hk : k < 5) : (weightsOf ds)[k]? = some (WA ds k) ∧ 1 ≤ WA ds k ∧ WA ds k ≤ 3 := by
  refine ex1 ((five_letters h5).weight hk) fun w oh => ?_; refine and4 oh fun e d h1 h3 => ?_; clear oh
  exact ⟨by rw [e]; congr 1; exact d.symm, by show 1 ≤ (weightsOf ds).getD k 0; (first | lia | omega), by show (weightsOf ds).getD k 0 ≤ 3; (first | lia | omega)⟩
theorem S_at {ds : List Int} (h5 : Five ds) {k : Nat} (hk : k < 5) : (sizesOf ds)[k]? = some (SA ds k) ∧ 7 ≤ SA ds k ∧ SA ds k ≤ 26 := by
  have e := sizes_at (ds := ds) hk
  have b := text_bd h5 hk
  have e2 : SA ds k = ((textOf ds k).length : Int) := by
    rw [← sizes_S]
    show (sizesOf ds).getD k 0 = _
    rw [List.getD_eq_getElem?_getD, e]; rfl
  rw [e2]
  exact ⟨e, by (first | lia | omega), by (first | lia | omega)⟩
section
variable {X : Fm} {m : Vars} {σ : Led}
theorem go_rangeN {σ₃ : Led} {n : Nat} {I : Addr} {target elt : Expr} {ifs : List Expr} {ce : Addr → Env} {K : Addr → List Value → Led → Prop} (hA : X.A.handled = none) (hn : n ≤ 1000) (J : Nat → List Value → Prop) (h0 : J 0 [])
    (step : ∀ (F' : PH) C i tk m₁ rs, i < n → rs.length ≤ i → J i rs → W ⟨X.C, X.A, X.B, F', C⟩ m₁ σ₃ (assign target (ce C) (.int (i : Int) tk)) (fun _ m₂ σ₂ => W ⟨X.C, X.A, X.B, F', C⟩ m₂ σ₂ (testsOf ifs (ce C))
      (fun ok m₃ σ' => if ok = true then W ⟨X.C, X.A, X.B, F', C⟩ m₃ σ' (eval elt (ce C)) (fun y _ σ₄ => σ₄ = σ₃ ∧ J (i + 1) (rs ++ [y])) else σ' = σ₃ ∧ J (i + 1) rs)))
    (done : ∀ rs D, J n rs → K D rs σ₃) : CompGo X m ((I, isRangeIt (0 + ((0 : Nat) : Int) * 1) ((n : Int) - ((0 : Nat) : Int)) 1) :: σ₃) (.ref I) target elt ifs ce K := by
  refine ⟨I, fun i => [(I, isRangeIt (0 + (i : Nat) * 1) ((n : Int) - (i : Nat)) 1)], n, _, σ₃, rfl, rfl, iter_range hA, by rw [sizeLine_eq]; (first | lia | omega), fun i rs σ => σ = σ₃ ∧ J i rs, ⟨rfl, h0⟩, ?_, ?_⟩
  · rintro F2 C i v τ m₂ rs σ₂ hi hl ⟨⟨tk, rfl⟩, rfl⟩ ⟨rfl, hJ⟩
    have ek : (0 + (i : Int) * 1) = (i : Int) := by (first | lia | omega)
    rw [ek]
    exact step F2 C i tk m₂ rs hi hl hJ
  · rintro rs σ' D ⟨rfl, hJ⟩
    exact done rs D hJ
theorem filter_snoc (p : Nat → Bool) (i : Nat) : ((List.range (i + 1)).filter p).length = ((List.range i).filter p).length + (if p i = true then 1 else 0) := by
  rw [List.range_succ, List.filter_append, List.length_append]
  by_cases h : p i = true
  · simp [h]
  · simp [h]
noncomputable abbrev betP (ds : List Int) (k : Nat) : Nat → Bool := fun j => decide (WA ds j * SA ds k > WA ds k * SA ds j)
noncomputable abbrev likP (ds : List Int) (k : Nat) : Nat → Bool := fun j => decide (WA ds j * SA ds k = WA ds k * SA ds j)
theorem law_m {C D ra : Addr} {sv wv rv : List Value} {ds : List Int} {row : List Nat} (hA : Ok 24 X.A) (h5 : Five ds) (hs : BI X.B (X.L + 1 + 1 + 1 + 1 + 1 + 1) (isCell (.ref C))) (hC : BI X.B C (isList sv)) (hsv : IntsOf sv (sizesOf ds))
    (hw : BI X.B (X.L + 1 + 1 + 1 + 1 + 1 + 1 + 1) (isCell (.ref D))) (hD : BI X.B D (isList wv)) (hwv : IntsOf wv (weightsOf ds)) (hra : BI X.B ra (isList rv)) (hrv : IntsOf rv (natsOf row)) (hl : row.length = 5) (hr5 : ∀ k ∈ row, k < 5)
    (m1 : m "row" = some (.ref ra))
    (h : ∀ (B' : PH) m' Sd qv, (∀ x : Str, x ≠ "stand" → x ≠ "better" → x ≠ "alike" → m' x = m x) → m' "stand" = some (.ref Sd) → (∀ a P, BI X.B a P → BI B' a P) → BI B' Sd (isList qv) → IntsOf qv (row.map (rankOf (SA ds) (WA ds))) →
      W (X.withB B') m' σ (execs (lawRest X.C.w 18) (lawEnv X.C.w X.L)) QT) :
    W X m ((X.L + 1 + 1, isCell0) :: σ) (execs (lawRest X.C.w 16) (lawEnv X.C.w X.L)) QT := by
  unfold lawEnv
  conv in lawScope _ => whnf
  conv in lawScope _ => whnf
  conv in lawRest _ _ => whnf
  have hrl : rv.length = 5 := by rw [hrv.len, natsOf, List.length_map, hl]
  refine w_execs_cons (w_assign_name (w_List (w_args_nil (w_newList (szL _ (by simp)) fun Sd => w_store_local ?_))))
  refine w_execs_cons (w_For (w_local m1 (w_iter_list (.inl hra) fun I hI => ?_)))
  refine ex1 (show ∃ J : Nat → Vars → Led → Prop, J = (fun i m' σ' => (∀ x : Str, x ≠ "stand" → x ≠ "better" → x ≠ "alike" → m' x = m x) ∧ m' "stand" = some (.ref Sd) ∧ ∃ qv P, IntsOf qv ((row.take i).map (rankOf (SA ds) (WA ds))) ∧ (∀ o, P o → ∃ v0, o.data = .cell v0) ∧ σ' = (Sd, isList qv) :: (X.L + 1 + 1, P) :: σ) from ⟨_, rfl⟩) fun J1 hJ1 => ?_
  refine w_loop (its := fun i => [(I, isListIter ra i)]) (σ := (Sd, isList []) :: (X.L + 1 + 1, isCell0) :: σ) (iter_list hA.hd hra (Ne.symm hI))
    J1 ?_ ?_ ?_
  · rw [hJ1]
    refine ⟨fun x hx _ _ => ?_, rfl, [], isCell0, .nil, cell0_is, rfl⟩
    show (if x = Str.ofString "stand" then _ else _) = _
    rw [if_neg hx]
  · rintro F' i v τ' m₁ σ₁ hi ⟨hv, rfl⟩ hj
    have hJn := congrFun hJ1 (i + 1)
    rw [hJ1] at hj
    refine and3 (hj) fun hm hst ou0 => ?_; (try clear hj); refine ex2 (ou0) fun qv P oh => ?_; clear ou0; refine and3 oh fun hqv hP oq2 => ?_; clear oh; subst oq2
    clear hJ1
    rw [hrl] at hi
    refine ex1 (show ∃ k, row[i]? = some k from ⟨_, List.getElem?_eq_getElem (hl ▸ hi)⟩) fun k hk => ?_
    have hk5 : k < 5 := hr5 k (List.mem_of_getElem? hk)
    refine ex1 (hrv.get (natsOf_get hk)) fun tk hv' => ?_
    rw [hv] at hv'
    cases hv'
    refine and3 (W_at h5 hk5) fun ewk wk1 wk3 => ?_
    refine and3 (S_at h5 hk5) fun esk sk7 sk26 => ?_
    refine ex1 (hwv.get ewk) fun twk ewk => ?_
    refine ex1 (hsv.get esk) fun tsk esk => ?_
    have hql : qv.length ≤ 5 := by rw [hqv.len, List.length_map, List.length_take]; (first | lia | omega)
    refine w_store_name (w_perm (List.Perm.swap _ _ _) (w_store_cell hP (w_gen fun Q1 kk1 => ?_)))
    refine w_execs_cons (w_assign_comp rfl (w_Call (w_builtin rfl (by boot_fast) (w_cw_type (w_args_cons (w_int fun _ => w_args_nil (w_range1 fun r2 => ?_)))))))
    refine w_iter_range (.inr (.head _)) (by decide) (by decide) (k := 5) (by decide) fun I2 => ?_
    refine go_rangeN (X := X.withF F') (n := 5) (σ₃ := (r2, isRange 0 5 1) :: (X.L + 1 + 1, isCell (.int (k : Int) tk)) :: (Sd, isList qv) :: σ) hA.hd (by decide) (fun i rs => rs.length = ((List.range i).filter (betP ds k)).length) rfl ?_ ?_
    · intro F2 Cc j tj m₂ rs hj hlj hJ
      refine and3 (W_at h5 hj) fun ewj wj1 wj3 => ?_
      refine and3 (S_at h5 hj) fun esj sj7 sj26 => ?_
      refine ex1 (hwv.get ewj) fun twj ewj => ?_
      refine ex1 (hsv.get esj) fun tsj esj => ?_
      refine w_store_name (w_store_local ?_)
      refine w_tests_one (w_true_compare (w_binop (w_subscript (w_cell (.inl hw) (w_local rfl ?_)))))
      refine w_item_list (vs := wv) (.inl hD) (by first | decide | (with_reducible first | exact n0 _ | exact f5 (by assumption) | exact a3 (by assumption) (by assumption) | exact b26 (by assumption) | exact a26 (by assumption)) | (first | lia | omega)) (by first | decide | (with_reducible first | exact n0 _ | exact f5 (by assumption) | exact a3 (by assumption) (by assumption) | exact b26 (by assumption) | exact a26 (by assumption)) | (first | lia | omega)) ewj (w_subscript (w_cell (.inl hs) (w_cell (.inr (.tail _ (.head _))) ?_)))
      refine w_item_list (vs := sv) (.inl hC) (by first | decide | (with_reducible first | exact n0 _ | exact f5 (by assumption) | exact a3 (by assumption) (by assumption) | exact b26 (by assumption) | exact a26 (by assumption)) | (first | lia | omega)) (by first | decide | (with_reducible first | exact n0 _ | exact f5 (by assumption) | exact a3 (by assumption) (by assumption) | exact b26 (by assumption) | exact a26 (by assumption)) | (first | lia | omega)) esk (w_mul (mulOk_small (by first | decide | (with_reducible first | exact n0 _ | exact f5 (by assumption) | exact a3 (by assumption) (by assumption) | exact b26 (by assumption) | exact a26 (by assumption)) | (first | lia | omega))) fun _ => w_binop (w_subscript (w_cell (.inl hw) (w_cell (.inr (.tail _ (.head _))) ?_))))
      refine w_item_list (vs := wv) (.inl hD) (by first | decide | (with_reducible first | exact n0 _ | exact f5 (by assumption) | exact a3 (by assumption) (by assumption) | exact b26 (by assumption) | exact a26 (by assumption)) | (first | lia | omega)) (by first | decide | (with_reducible first | exact n0 _ | exact f5 (by assumption) | exact a3 (by assumption) (by assumption) | exact b26 (by assumption) | exact a26 (by assumption)) | (first | lia | omega)) ewk (w_subscript (w_cell (.inl hs) (w_local rfl ?_)))
      refine w_item_list (vs := sv) (.inl hC) (by first | decide | (with_reducible first | exact n0 _ | exact f5 (by assumption) | exact a3 (by assumption) (by assumption) | exact b26 (by assumption) | exact a26 (by assumption)) | (first | lia | omega)) (by first | decide | (with_reducible first | exact n0 _ | exact f5 (by assumption) | exact a3 (by assumption) (by assumption) | exact b26 (by assumption) | exact a26 (by assumption)) | (first | lia | omega)) esj (w_mul (mulOk_small (by first | decide | (with_reducible first | exact n0 _ | exact f5 (by assumption) | exact a3 (by assumption) (by assumption) | exact b26 (by assumption) | exact a26 (by assumption)) | (first | lia | omega))) fun _ => w_gt (w_truthy_bool ?_))
      have hf := filter_snoc (betP ds k) j
      by_cases hb : WA ds j * SA ds k > WA ds k * SA ds j
      · rw [decide_eq_true hb, if_pos rfl]
        rw [if_pos (decide_eq_true hb)] at hf
        exact w_local rfl ⟨rfl, by rw [List.length_append, hJ, hf]; rfl⟩
      · rw [decide_eq_false hb, if_neg (by decide)]
        rw [if_neg (by rw [betP, decide_eq_false hb]; decide)] at hf
        exact ⟨rfl, by rw [hJ, hf]; rfl⟩
    · intro bs Bd hbs F2
      have hbl : bs.length ≤ 5 := by rw [hbs]; exact Nat.le_trans (List.length_filter_le _ _) (by simp)
      refine w_store_local ?_
      refine w_execs_cons (w_assign_comp rfl (w_Call (w_builtin rfl (by boot_fast) (w_cw_type (w_args_cons (w_cell (.inr (.tail _ (.tail _ (.head _)))) (w_args_nil (w_range1 fun r3 => ?_))))))))
      refine w_iter_range (.inr (.head _)) (by decide) (by first | decide | (with_reducible first | exact n0 _ | exact f5 (by assumption) | exact a3 (by assumption) (by assumption) | exact b26 (by assumption) | exact a26 (by assumption)) | (first | lia | omega)) (k := k) (by first | decide | (with_reducible first | exact n0 _ | exact f5 (by assumption) | exact a3 (by assumption) (by assumption) | exact b26 (by assumption) | exact a26 (by assumption)) | (first | lia | omega)) fun I3 => ?_
      refine go_rangeN (X := X.withF F') (n := k) (σ₃ := (r3, isRange 0 (k : Int) 1) :: (Bd, isList bs) :: (r2, isRange 0 5 1) :: (X.L + 1 + 1, isCell (.int (k : Int) tk)) :: (Sd, isList qv) :: σ) hA.hd (by first | decide | (with_reducible first | exact n0 _ | exact f5 (by assumption) | exact a3 (by assumption) (by assumption) | exact b26 (by assumption) | exact a26 (by assumption)) | (first | lia | omega)) (fun i rs => rs.length = ((List.range i).filter (likP ds k)).length) rfl ?_ ?_
      · intro F2 Cc j tj m₂ rs hj hlj hJ
        have hj5 : j < 5 := by (first | lia | omega)
        refine and3 (W_at h5 hj5) fun ewj wj1 wj3 => ?_
        refine and3 (S_at h5 hj5) fun esj sj7 sj26 => ?_
        refine ex1 (hwv.get ewj) fun twj ewj => ?_
        refine ex1 (hsv.get esj) fun tsj esj => ?_
        refine w_store_name (w_store_local ?_)
        refine w_tests_one (w_true_compare (w_binop (w_subscript (w_cell (.inl hw) (w_local rfl ?_)))))
        refine w_item_list (vs := wv) (.inl hD) (by first | decide | (with_reducible first | exact n0 _ | exact f5 (by assumption) | exact a3 (by assumption) (by assumption) | exact b26 (by assumption) | exact a26 (by assumption)) | (first | lia | omega)) (by first | decide | (with_reducible first | exact n0 _ | exact f5 (by assumption) | exact a3 (by assumption) (by assumption) | exact b26 (by assumption) | exact a26 (by assumption)) | (first | lia | omega)) ewj (w_subscript (w_cell (.inl hs) (w_cell (.inr (.tail _ (.tail _ (.tail _ (.head _))))) ?_)))
        refine w_item_list (vs := sv) (.inl hC) (by first | decide | (with_reducible first | exact n0 _ | exact f5 (by assumption) | exact a3 (by assumption) (by assumption) | exact b26 (by assumption) | exact a26 (by assumption)) | (first | lia | omega)) (by first | decide | (with_reducible first | exact n0 _ | exact f5 (by assumption) | exact a3 (by assumption) (by assumption) | exact b26 (by assumption) | exact a26 (by assumption)) | (first | lia | omega)) esk (w_mul (mulOk_small (by first | decide | (with_reducible first | exact n0 _ | exact f5 (by assumption) | exact a3 (by assumption) (by assumption) | exact b26 (by assumption) | exact a26 (by assumption)) | (first | lia | omega))) fun _ => w_binop (w_subscript (w_cell (.inl hw) (w_cell (.inr (.tail _ (.tail _ (.tail _ (.head _))))) ?_))))
        refine w_item_list (vs := wv) (.inl hD) (by first | decide | (with_reducible first | exact n0 _ | exact f5 (by assumption) | exact a3 (by assumption) (by assumption) | exact b26 (by assumption) | exact a26 (by assumption)) | (first | lia | omega)) (by first | decide | (with_reducible first | exact n0 _ | exact f5 (by assumption) | exact a3 (by assumption) (by assumption) | exact b26 (by assumption) | exact a26 (by assumption)) | (first | lia | omega)) ewk (w_subscript (w_cell (.inl hs) (w_local rfl ?_)))
        refine w_item_list (vs := sv) (.inl hC) (by first | decide | (with_reducible first | exact n0 _ | exact f5 (by assumption) | exact a3 (by assumption) (by assumption) | exact b26 (by assumption) | exact a26 (by assumption)) | (first | lia | omega)) (by first | decide | (with_reducible first | exact n0 _ | exact f5 (by assumption) | exact a3 (by assumption) (by assumption) | exact b26 (by assumption) | exact a26 (by assumption)) | (first | lia | omega)) esj (w_mul (mulOk_small (by first | decide | (with_reducible first | exact n0 _ | exact f5 (by assumption) | exact a3 (by assumption) (by assumption) | exact b26 (by assumption) | exact a26 (by assumption)) | (first | lia | omega))) fun _ => w_eq (w_truthy_bool ?_))
        have hf := filter_snoc (likP ds k) j
        by_cases hb : WA ds j * SA ds k = WA ds k * SA ds j
        · rw [beq_iff_eq.mpr hb, if_pos rfl]
          rw [if_pos (decide_eq_true hb)] at hf
          exact w_local rfl ⟨rfl, by rw [List.length_append, hJ, hf]; rfl⟩
        · rw [beq_eq_false_iff_ne.mpr hb, if_neg (by decide)]
          rw [if_neg (by rw [likP, decide_eq_false hb]; decide)] at hf
          exact ⟨rfl, by rw [hJ, hf]; rfl⟩
      · intro as Ad has F3
        have hal : as.length ≤ 5 := by rw [has]; exact Nat.le_trans (List.length_filter_le _ _) (by simp; (first | lia | omega))
        refine w_store_local ?_
        have g1 : upd (upd m₁ "better" (.ref Bd)) "alike" (.ref Ad) "stand" = some (.ref Sd) := hst
        have g2 : upd (upd m₁ "better" (.ref Bd)) "alike" (.ref Ad) "better" = some (.ref Bd) := rfl
        have g3 : upd (upd m₁ "better" (.ref Bd)) "alike" (.ref Ad) "alike" = some (.ref Ad) := rfl
        have g4 : ∀ x : Str, x ≠ "stand" → x ≠ "better" → x ≠ "alike" → upd (upd m₁ "better" (.ref Bd)) "alike" (.ref Ad) x = m x := fun x h1 h2 h3 => by
          show (if x = Str.ofString "alike" then _ else if x = Str.ofString "better" then _ else _) = _
          rw [if_neg h3, if_neg h2]; exact hm x h1 h2 h3
        generalize upd (upd m₁ "better" (.ref Bd)) "alike" (.ref Ad) = m₃ at g1 g2 g3 g4 ⊢
        refine w_execs_cons (w_expr (w_methcall (w_local g1 (w_getAppend (.inr (.tail _ (.tail _ (.tail _ (.tail _ (.tail _ (.head _))))))) (w_cwm_builtin (w_args_cons (w_binop (w_Call (w_builtin rfl (by boot_fast) (w_cw_builtin (w_args_cons (w_local g2 (w_args_nil ?_)))))))))))) )
        refine w_len_list (vs := bs) (.inr (.tail _ (.tail _ (.head _)))) (by first | decide | (with_reducible first | exact n0 _ | exact f5 (by assumption) | exact a3 (by assumption) (by assumption) | exact b26 (by assumption) | exact a26 (by assumption)) | (first | lia | omega)) fun t1 => w_Call (w_builtin rfl (by boot_fast) (w_cw_builtin (w_args_cons (w_local g3 (w_args_nil ?_)))))
        refine w_len_list (vs := as) (.inr (.head _)) (by first | decide | (with_reducible first | exact n0 _ | exact f5 (by assumption) | exact a3 (by assumption) (by assumption) | exact b26 (by assumption) | exact a26 (by assumption)) | (first | lia | omega)) fun t2 => w_add fun t3 => w_args_nil ?_
        refine w_perm bring5 (w_append (by rw [sizeLine_eq]; (first | lia | omega)) ⟨fun _ e => (nomatch e), ?_⟩)
        refine w_keep (σ' := (Sd, isList (qv ++ [.int ((bs.length : Int) + (as.length : Int)) t3])) :: (X.L + 1 + 1, isCell (.int (k : Int) tk)) :: σ) (.cons_cons _ (.cons _ (.cons _ (.cons _ (.cons _ (.cons_cons _ (.refl _))))))) ?_
        refine w_execs_nil (kk1 _ _ _ ?_)
        show J1 (i + 1) _ _
        rw [hJn]
        refine ⟨g4, g1, _, _, ?_, cell_is, rfl⟩
        have hrk : (bs.length : Int) + (as.length : Int) = rankOf (SA ds) (WA ds) k := by rw [hbs, has]; rfl
        rw [hrk, take_snoc hk, List.map_append, List.map_cons, List.map_nil]
        exact hqv.snoc _ _
  · rintro m₁ σ₁ hj
    rw [hJ1] at hj
    refine and3 (hj) fun hm hst ou0 => ?_; (try clear hj); refine ex2 (ou0) fun qv P oh => ?_; clear ou0; refine and3 oh fun hqv hP oq2 => ?_; clear oh; subst oq2
    clear hJ1
    rw [hrl, ← hl, List.take_length] at hqv
    refine w_keep (σ' := [(Sd, isList qv)] ++ σ) (.cons_cons _ (.cons _ (.refl _))) ?_
    refine w_perm (List.perm_append_comm (l₁ := [(Sd, isList qv)])) (w_keepB fun B' hB' => ?_)
    exact h B' m₁ Sd qv hm hst (fun a P k => hB' _ _ (.inl k)) (hB' _ _ (.inr (.head _))) hqv
end
end Mine
end
end
section
open PySem PySem.W PySem.Calls PyProof.Rows PySem.Spec
set_option Elab.async false
set_option linter.unusedVariables false
set_option maxRecDepth 100000
set_option maxHeartbeats 4000000
noncomputable section
namespace Mine
theorem keys_get {g : List (Int × Int)} (h : Keys g) : ∀ p ∈ g, getI g p.1 = some p.2 := by
  induction g with
  | nil => intro p hp; cases hp
  | cons q g ih =>
    intro p hp
    unfold Keys at h
    rw [List.map_cons] at h
    obtain ⟨hn, hd⟩ := List.nodup_cons.mp h
    rcases List.mem_cons.mp hp with rfl | hp
    · unfold getI; simp
    · have hne : q.1 ≠ p.1 := fun e => hn (by rw [e]; exact List.mem_map.mpr ⟨p, hp, rfl⟩)
      have := ih hd p hp
      unfold getI at this ⊢
      rw [List.find?_cons]
      simp only [hne, decide_false]
      exact this
structure RowOk (ds : List Int) : Prop where
  perm : (rsOf ds).row.Perm [0, 1, 2, 3, 4]
  rank : (rsOf ds).row.map (rankOf (SA ds) (WA ds)) = [0, 1, 2, 3, 4]
  len : (rsOf ds).row.length = 5
  lt : ∀ k ∈ (rsOf ds).row, k < 5
theorem row_ok {ds : List Int} (h5 : Five ds) : RowOk ds := by
  have I := run_inv (five_letters h5) ds.sum 11
  have hs := run_sorted (five_letters h5) ds.sum
  obtain ⟨h1, h2, _⟩ := runUpto_ok (SA ds) (WA ds) (cardV (textsOf ds) (weightsOf ds)) ds.sum 11
  exact ⟨I.perm, rank_row I.perm I.fair hs, h1, h2⟩
theorem book_ok {ds : List Int} (h5 : Five ds) : (rsOf ds).c = (psOf ds).count ∧ (rsOf ds).m = (psOf ds).moved ∧ (rsOf ds).wo = (psOf ds).won ∧ (rsOf ds).lo = (psOf ds).lost ∧ (∀ j, getI (rsOf ds).g j = getI (psOf ds).gains j) ∧ Keys (rsOf ds).g ∧ Keys (psOf ds).gains ∧ (rsOf ds).g.length = (psOf ds).gains.length ∧
    ((rsOf ds).g.map (·.2)).sum = (psOf ds).first - (psOf ds).least ∧ fw (SA ds) (WA ds) 0 (rsOf ds).row = (psOf ds).least := book_eq (five_letters h5) ds.sum (R := rsOf ds) rfl (p := psOf ds) rfl
section
variable {X : Fm} {m : Vars} {σ : Led}
theorem law_n {Sd bk D due G : Addr} {qv : List Value} {ds : List Int} (hA : Ok 24 X.A) (h5 : Five ds) (m1 : m "stand" = some (.ref Sd)) (m2 : m "book" = some (.ref bk)) (m3 : m "due" = some (.ref due))
    (hS : BI X.B Sd (isList qv)) (hqv : IntsOf qv ((rsOf ds).row.map (rankOf (SA ds) (WA ds)))) (hb : BI X.B bk (isBook X.C.w (rsOf ds).c (rsOf ds).m (rsOf ds).wo (rsOf ds).lo D)) (hD : BI X.B D (isD X.C.w (rsOf ds).g)) (sD : (D == sysModules) = false)
    (hd : BI X.B due (isBook X.C.w (psOf ds).count (psOf ds).moved (psOf ds).won (psOf ds).lost G)) (hG : BI X.B G (isD X.C.w (psOf ds).gains)) (sG : (G == sysModules) = false)
    (h : W X m σ (execs (lawRest X.C.w 19) (lawEnv X.C.w X.L)) QT) :
    W X m σ (execs (lawRest X.C.w 18) (lawEnv X.C.w X.L)) QT := by
  unfold lawEnv
  conv in lawScope _ => whnf
  conv in lawScope _ => whnf
  conv in lawRest _ _ => whnf
  refine and10 (book_ok h5) fun b1 b2 b3 b4 b5 b6 b7 b8 _ _ => ?_
  rw [(row_ok h5).rank] at hqv
  rw [b1, b2, b3, b4] at hb
  refine w_execs_cons (w_if (w_true_or (w_true_compare (w_local m1 (w_List (w_args_cons (w_int fun u0 => w_args_cons (w_int fun u1 => w_args_cons (w_int fun u2 => w_args_cons (w_int fun u3 => w_args_cons (w_int fun u4 => w_args_nil (w_newList (szL _ (by simp)) fun Z => ?_))))))))))))
  refine w_ne_ints hA (.inl hS) (.inr (.head _)) hqv (.cons ⟨_, rfl⟩ (.cons ⟨_, rfl⟩ (.cons ⟨_, rfl⟩ (.cons ⟨_, rfl⟩ (.cons ⟨_, rfl⟩ .nil))))) (w_truthy_bool ?_)
  refine w_true_or (w_true_compare (w_local m2 (w_local m3 ?_)))
  refine w_ne_books hA sD sG (.inl hb) (.inl hd) (.inl hD) (.inl hG) b8 (fun p hp => by rw [← b5]; exact keys_get b6 p hp) (w_truthy_bool ?_)
  refine w_true_or_nil ?_
  refine w_execs_nil ?_
  exact w_keep (.cons _ (.refl _)) h
end
end Mine
end
end
section
open PySem PySem.W PySem.Calls PyProof.Rows PySem.Spec
set_option Elab.async false
set_option linter.unusedVariables false
set_option maxRecDepth 100000
set_option maxHeartbeats 4000000
noncomputable section
namespace Mine
theorem StrsOf.vals {vs : List Value} {xs : List Str} (h : StrsOf vs xs) : ∃ l : List (Str × Tok), vs = strValues l ∧ l.map (·.1) = xs := by
  induction h with
  | nil => exact ⟨[], rfl, rfl⟩
  | @cons v x vs xs hd _ ih =>
    obtain ⟨t, rfl⟩ := hd
    obtain ⟨l, rfl, rfl⟩ := ih
    exact ⟨(x, t) :: l, rfl, rfl⟩
theorem cps_cat (xs : List Str) : cpsL (catT xs) = (xs.map cpsL).flatten := join_texts xs
theorem flat_le {b : Nat} : ∀ l : List (List Nat), (∀ x ∈ l, x.length ≤ b) → l.flatten.length ≤ b * l.length
  | [], _ => by simp
  | x :: l, h => by
    have := flat_le l fun y hy => h y (.tail _ hy)
    have h1 := h x (.head _)
    rw [List.flatten_cons, List.length_append, List.length_cons, Nat.mul_add]
    (first | lia | omega)
noncomputable abbrev rowOf (ds : List Int) : List Nat := (rsOf ds).row
noncomputable def wrOf (ds : List Int) (k : Nat) : Str := written (k : Int) (dAt ds k)
noncomputable def wholeOf2 (ds : List Int) : Str := catT ((rowOf ds).map (wrOf ds))
noncomputable def plainOf (ds : List Int) : Str := catT ((rowOf ds).map (textOf ds))
noncomputable def fixRow (ds : List Int) : List Nat := ((rowOf ds).map (fixOf ds)).flatten
section
variable {ds : List Int} (h5 : Five ds)
include h5
theorem line_ok : fixE (cpsL (wholeOf2 ds)) = fixRow ds ∧ quoteD true (fixRow ds) = cpsL (plainOf ds) := by
  have h := sent_line ((rowOf ds).map fun (k : Nat) => (((k : Nat) : Int), dAt ds k)) fun p hp => by
    obtain ⟨k, hk, rfl⟩ := List.mem_map.mp hp
    have hk5 := (row_ok h5).lt k hk
    exact ⟨by show (0 : Int) ≤ (k : Int); (first | lia | omega), by show (k : Int) < 5; (first | lia | omega), (h5.at_ hk5).2.1⟩
  rw [List.map_map, List.map_map, List.map_map] at h
  unfold wholeOf2 plainOf fixRow
  rw [cps_cat, cps_cat, List.map_map, List.map_map]
  exact ⟨h.1, h.2.1⟩
theorem whole_len : (wholeOf2 ds).length ≤ 150 := by
  rw [← cps_len]
  unfold wholeOf2
  rw [cps_cat]
  have := flat_le (b := 30) (((rowOf ds).map (wrOf ds)).map cpsL) fun x hx => by
    rw [List.map_map] at hx
    obtain ⟨k, hk, rfl⟩ := List.mem_map.mp hx
    show (cpsL (wrOf ds k)).length ≤ 30
    rw [cps_len]
    exact written_len h5 ((row_ok h5).lt k hk)
  rw [List.length_map, List.length_map, (row_ok h5).len] at this
  exact this
theorem fixRow_len : (fixRow ds).length ≤ 115 := by
  unfold fixRow
  have := flat_le (b := 23) ((rowOf ds).map (fixOf ds)) fun x hx => by
    obtain ⟨k, hk, rfl⟩ := List.mem_map.mp hx
    exact fix_bd h5 ((row_ok h5).lt k hk)
  rw [List.length_map, (row_ok h5).len] at this
  exact this
theorem fixRow_asc : ∀ c ∈ fixRow ds, c < 128 := fun c hc => by
  unfold fixRow at hc
  obtain ⟨l, hl, hc⟩ := List.mem_flatten.mp hc
  obtain ⟨k, hk, rfl⟩ := List.mem_map.mp hl
  exact fix_asc h5 ((row_ok h5).lt k hk) c hc
theorem plain_len : (plainOf ds).length ≤ 130 := by
  rw [← cps_len]
  unfold plainOf
  rw [cps_cat]
  have := flat_le (b := 26) (((rowOf ds).map (textOf ds)).map cpsL) fun x hx => by
    rw [List.map_map] at hx
    obtain ⟨k, hk, rfl⟩ := List.mem_map.mp hx
    show (cpsL (textOf ds k)).length ≤ 26
    rw [cps_len]
    exact (text_bd h5 ((row_ok h5).lt k hk)).2
  rw [List.length_map, List.length_map, (row_ok h5).len] at this
  exact this
theorem plain_asc : ∀ c ∈ cpsL (plainOf ds), c < 128 := fun c hc => by
  unfold plainOf at hc
  rw [cps_cat, List.map_map] at hc
  obtain ⟨l, hl, hc⟩ := List.mem_flatten.mp hc
  obtain ⟨k, hk, rfl⟩ := List.mem_map.mp hl
  exact text_asc h5 ((row_ok h5).lt k hk) c hc
end
section
variable {X : Fm} {m : Vars} {σ : Led}
theorem w_join {D : Addr} {vs : List Value} {xs : List Str} {t : Tok} {Q : Value → Vars → Led → Prop} (hD : Kn X.B σ D (isList vs)) (hv : StrsOf vs xs) (hb : ∀ x ∈ xs, x.length ≤ 100) (hn : xs.length ≤ 100) (h : ∀ t', Q (.str (catT xs) t') m σ) :
    W X m σ (call (.builtin "str.join") [.str (Str.ofString "") t, .ref D]) Q := fun s S => by
  obtain ⟨l, rfl, hl⟩ := hv.vals
  refine SC.join (l := l) (texts := xs) (isList_at (S.kn hD)) hl ?_ (fun t' k => ⟨m, σ, S.toks, h t'⟩)
  unfold JoinOk
  rw [StrLaws.joinFits (B := 100) hb (by rw [show (Str.ofString "").length = 0 from rfl]; (first | lia | omega))]
  rfl
theorem w_joinMethod {x : Str} {t : Tok} {pl : Sem Bool} {Q : Value × List Value → Vars → Led → Prop} (h : Q (.builtin "str.join", [.str x t]) m σ) : W X m σ (getMethod (.str x t) "join" pl) Q := fun s S =>
  getMethod_builtin (typeIs_str _ _ _) F.plainAttrs_str F.slot_str_join F.type_str_join (fun _ e => nomatch e) ⟨m, σ, S, h⟩
theorem law_o {D E ra : Addr} {ws tv rv : List Value} {ds : List Int} (hA : Ok 24 X.A) (h5 : Five ds) (hc : BI X.B (X.L + 1) (isCell (.ref D))) (hD : BI X.B D (isList ws)) (hws : IntsOf ws ds)
    (ht : BI X.B (X.L + 1 + 1 + 1 + 1 + 1) (isCell (.ref E))) (hE : BI X.B E (isList tv)) (htv : StrsOf tv (textsOf ds)) (m1 : m "row" = some (.ref ra)) (hra : BI X.B ra (isList rv)) (hrv : IntsOf rv (natsOf (rowOf ds)))
    (h : ∀ t1 t2, W X (upd (upd m "whole" (.str (wholeOf2 ds) t1)) "plain" (.str (plainOf ds) t2)) σ (execs (lawRest X.C.w 21) (lawEnv X.C.w X.L)) QT) :
    W X m σ (execs (lawRest X.C.w 19) (lawEnv X.C.w X.L)) QT := by
  unfold lawEnv
  conv in lawScope _ => whnf
  conv in lawScope _ => whnf
  conv in lawRest _ _ => whnf
  have ro := row_ok h5
  have hrl : rv.length = 5 := by rw [hrv.len, natsOf, List.length_map, ro.len]
  refine w_execs_cons (w_assign_name (w_methcall (w_str fun t0 => w_joinMethod (w_cwm_builtin (w_args_cons (w_ListComp rfl (w_local m1 (w_iter_list (.inl hra) fun I hI => ?_))))))))
  refine go_list (σ₃ := σ) hA.hd hra hI (by first | decide | (with_reducible first | exact n0 _ | exact f5 (by assumption) | exact a3 (by assumption) (by assumption) | exact b26 (by assumption) | exact a26 (by assumption)) | (first | lia | omega)) (fun i rs => StrsOf rs (((rowOf ds).take i).map (wrOf ds))) .nil ?_ ?_
  · intro F2 C i v m₁ rs hi hx hl hJ
    rw [hrl] at hi
    obtain ⟨k, hk⟩ : ∃ k, (rowOf ds)[i]? = some k := ⟨_, List.getElem?_eq_getElem (ro.len ▸ hi)⟩
    have hk5 : k < 5 := ro.lt k (List.mem_of_getElem? hk)
    obtain ⟨tk, hv'⟩ := hrv.get (natsOf_get hk)
    rw [hx] at hv'
    cases hv'
    obtain ⟨hdx, hx0, _⟩ := h5.at_ hk5
    obtain ⟨tx, hdx⟩ := hws.get hdx
    refine w_store_name (w_store_local (w_tests_nil ?_))
    show W _ _ _ _ _
    refine w_Call (w_global (v := .ref 215) rfl (w_cw_K (by kernel_rfl) ?_))
    refine w_args_cons (w_local rfl (w_args_cons (w_subscript (w_cell (.inl hc) (w_local rfl ?_)))))
    refine w_item_list (vs := ws) (.inl hD) (by first | decide | (with_reducible first | exact n0 _ | exact f5 (by assumption) | exact a3 (by assumption) (by assumption) | exact b26 (by assumption) | exact a26 (by assumption)) | (first | lia | omega)) (by first | decide | (with_reducible first | exact n0 _ | exact f5 (by assumption) | exact a3 (by assumption) (by assumption) | exact b26 (by assumption) | exact a26 (by assumption)) | (first | lia | omega)) hdx (w_args_nil (w_call ?_))
    refine wk_written (X := ⟨X.C, X.A, X.B, F2, C⟩) (k := (k : Int)) (hA.le (by first | decide | (with_reducible first | exact n0 _ | exact f5 (by assumption) | exact a3 (by assumption) (by assumption) | exact b26 (by assumption) | exact a26 (by assumption)) | (first | lia | omega))) (by first | decide | (with_reducible first | exact n0 _ | exact f5 (by assumption) | exact a3 (by assumption) (by assumption) | exact b26 (by assumption) | exact a26 (by assumption)) | (first | lia | omega)) (by first | decide | (with_reducible first | exact n0 _ | exact f5 (by assumption) | exact a3 (by assumption) (by assumption) | exact b26 (by assumption) | exact a26 (by assumption)) | (first | lia | omega)) hx0 fun t => ⟨rfl, ?_⟩
    rw [take_snoc hk, List.map_append, List.map_cons, List.map_nil]
    exact hJ.snoc _ _
  · intro rs G hrs
    rw [hrl, ← ro.len, List.take_length] at hrs
    refine w_args_nil (w_join (.inr (.head _)) hrs (fun x hx => ?_) (by rw [List.length_map, ro.len]; decide) fun t1 => ?_)
    · obtain ⟨k, hk, rfl⟩ := List.mem_map.mp hx
      have := written_len h5 (ro.lt k hk)
      show (written (k : Int) (dAt ds k)).length ≤ 100
      (first | lia | omega)
    refine w_store_local (w_keep (.cons _ (.refl _)) ?_)
    refine w_execs_cons (w_assign_name (w_methcall (w_str fun t0 => w_joinMethod (w_cwm_builtin (w_args_cons (w_ListComp rfl (w_local m1 (w_iter_list (.inl hra) fun I hI => ?_))))))))
    refine go_list (σ₃ := σ) hA.hd hra hI (by first | decide | (with_reducible first | exact n0 _ | exact f5 (by assumption) | exact a3 (by assumption) (by assumption) | exact b26 (by assumption) | exact a26 (by assumption)) | (first | lia | omega)) (fun i rs => StrsOf rs (((rowOf ds).take i).map (textOf ds))) .nil ?_ ?_
    · intro F2 C i v m₁ rs hi hx hl hJ
      rw [hrl] at hi
      obtain ⟨k, hk⟩ : ∃ k, (rowOf ds)[i]? = some k := ⟨_, List.getElem?_eq_getElem (ro.len ▸ hi)⟩
      have hk5 : k < 5 := ro.lt k (List.mem_of_getElem? hk)
      obtain ⟨tk, hv'⟩ := hrv.get (natsOf_get hk)
      rw [hx] at hv'
      cases hv'
      obtain ⟨tx, hdx⟩ := htv.get (text_at (ds := ds) h5 hk5)
      refine w_store_name (w_store_local (w_tests_nil ?_))
      show W _ _ _ _ _
      refine w_subscript (w_cell (.inl ht) (w_local rfl ?_))
      refine w_item_list (vs := tv) (.inl hE) (by first | decide | (with_reducible first | exact n0 _ | exact f5 (by assumption) | exact a3 (by assumption) (by assumption) | exact b26 (by assumption) | exact a26 (by assumption)) | (first | lia | omega)) (by first | decide | (with_reducible first | exact n0 _ | exact f5 (by assumption) | exact a3 (by assumption) (by assumption) | exact b26 (by assumption) | exact a26 (by assumption)) | (first | lia | omega)) hdx ⟨rfl, ?_⟩
      rw [take_snoc hk, List.map_append, List.map_cons, List.map_nil]
      exact hJ.snoc _ _
    · intro rs G hrs
      rw [hrl, ← ro.len, List.take_length] at hrs
      refine w_args_nil (w_join (.inr (.head _)) hrs (fun x hx => ?_) (by rw [List.length_map, ro.len]; decide) fun t2 => ?_)
      · obtain ⟨k, hk, rfl⟩ := List.mem_map.mp hx
        have := text_bd h5 (ro.lt k hk)
        (first | lia | omega)
      exact w_store_local (w_keep (.cons _ (.refl _)) (h t1 t2))
theorem law_p {ds : List Int} {t1 t2 : Tok} (hA : Ok 24 X.A) (h5 : Five ds) (m1 : m "whole" = some (.str (wholeOf2 ds) t1)) (m2 : m "plain" = some (.str (plainOf ds) t2))
    (h : W X m σ (execs (lawRest X.C.w 22) (lawEnv X.C.w X.L)) QT) :
    W X m σ (execs (lawRest X.C.w 21) (lawEnv X.C.w X.L)) QT := by
  unfold lawEnv
  conv in lawScope _ => whnf
  conv in lawScope _ => whnf
  conv in lawRest _ _ => whnf
  obtain ⟨l1, l2⟩ := line_ok h5
  refine w_execs_cons (w_if (w_true_compare (w_Call (w_global (v := .ref 194) rfl (w_cw_K (by kernel_rfl) (w_args_cons (w_methcall (w_Call (w_global (v := .ref 201) rfl (w_cw_K (by kernel_rfl) (w_args_cons (w_local m1 (w_args_nil (w_call ?_))))))))))))))
  refine wk_fix (hA.le (by first | decide | (with_reducible first | exact n0 _ | exact f5 (by assumption) | exact a3 (by assumption) (by assumption) | exact b26 (by assumption) | exact a26 (by assumption)) | (first | lia | omega))) (by have := whole_len h5; (first | lia | omega)) fun y t' hy => ?_
  rw [l1] at hy
  refine w_encodeMethod (w_cwm_builtin (w_args_cons (w_str fun u => w_args_nil ?_)))
  refine w_encode (by rw [hy]; exact fixRow_asc h5) (by have := fixRow_len h5; rw [← hy, cps_len] at this; (first | lia | omega)) fun z t'' hz => w_args_nil (w_call ?_)
  rw [hy] at hz
  have hzs : z.size ≤ 115 := by
    have := fixRow_len h5
    rw [← hz] at this
    unfold natL at this
    rw [Array.length_toList, natA_size] at this
    exact this
  refine wk_quote (hA.le (by first | decide | (with_reducible first | exact n0 _ | exact f5 (by assumption) | exact a3 (by assumption) (by assumption) | exact b26 (by assumption) | exact a26 (by assumption)) | (first | lia | omega))) (by first | decide | (with_reducible first | exact n0 _ | exact f5 (by assumption) | exact a3 (by assumption) (by assumption) | exact b26 (by assumption) | exact a26 (by assumption)) | (first | lia | omega)) fun q t3 hq => ?_
  rw [hz, l2] at hq
  refine w_methcall (w_local m2 (w_encodeMethod (w_cwm_builtin (w_args_cons (w_str fun u => w_args_nil ?_)))))
  refine w_encode (plain_asc h5) (by have := plain_len h5; (first | lia | omega)) fun r t4 hr => ?_
  have e : q = r := natL_inj (hq.trans hr.symm)
  subst e
  refine w_bne ?_
  rw [show (q.toList != q.toList) = false by simp]
  exact w_truthy_bool (w_execs_nil h)
end
end Mine
end
end
section
open PySem PySem.W PySem.Calls PyProof.Rows PySem.Spec
set_option Elab.async false
set_option linter.unusedVariables false
set_option maxRecDepth 100000
set_option maxHeartbeats 4000000
noncomputable section
namespace Mine
section
variable {ds : List Int} (h5 : Five ds)
include h5
theorem textAt_of {k : Nat} (hk : k < 5) : textAt (textsOf ds) k = textOf ds k := by
  unfold textAt
  rw [List.getD_eq_getElem?_getD, text_at h5 hk]; rfl
theorem pile_texts : (rowOf ds).map (textAt (textsOf ds)) = (rowOf ds).map (textOf ds) := List.map_congr_left fun k hk => textAt_of h5 ((row_ok h5).lt k hk)
theorem pile_sum : sumLen ((rowOf ds).map (textAt (textsOf ds))) = (sizesOf ds).sum := by
  rw [pile_texts h5]
  unfold sumLen
  rw [List.map_map, perm_sum ((row_ok h5).perm.map _)]
  unfold sizesOf textsOf
  rw [List.map_map]
  rfl
theorem sizes_bd : 0 ≤ (sizesOf ds).sum ∧ (sizesOf ds).sum ≤ 130 := by
  have h : ∀ l : List Int, (∀ x ∈ l, 0 ≤ x ∧ x ≤ 26) → 0 ≤ l.sum ∧ l.sum ≤ 26 * l.length := fun l => by
    induction l with
    | nil => intro _; simp
    | cons x l ih =>
      intro h
      have := ih fun y hy => h y (.tail _ hy)
      have h1 := h x (.head _)
      rw [List.sum_cons, List.length_cons]
      push_cast
      (first | lia | omega)
  have := h (sizesOf ds) fun x hx => by
    unfold sizesOf textsOf at hx
    rw [List.map_map] at hx
    obtain ⟨k, hk, rfl⟩ := List.mem_map.mp hx
    have := text_bd h5 (List.mem_range.mp hk)
    show 0 ≤ ((textOf ds k).length : Int) ∧ ((textOf ds k).length : Int) ≤ 26
    (first | lia | omega)
  rw [sizes_len5] at this
  exact this
end
section
variable {X : Fm} {m : Vars} {σ : Led}
theorem law_q {pile dx C : Addr} {vs sv : List Value} {ds : List Int} {st : Int} {ts tq t2 : Tok} (hA : Ok 24 X.A) (h5 : Five ds) (h0 : 0 ≤ st) (h9 : st ≤ 9) (m1 : m "pile" = some (.ref pile)) (m2 : m "plain" = some (.str (plainOf ds) t2)) (m3 : m "start" = some (.int st tq))
    (hp : BI X.B pile (isPile dx vs)) (hd : BI X.B dx (isDict1 "_initial_size" (.int st ts))) (hpc : Pieces X.B [] vs ((rowOf ds).map (textAt (textsOf ds))))
    (hs : BI X.B (X.L + 1 + 1 + 1 + 1 + 1 + 1) (isCell (.ref C))) (hC : BI X.B C (isList sv)) (hsv : IntsOf sv (sizesOf ds))
    (h : W X m ((128, isTab) :: (135, isTab) :: σ) (execs (lawRest X.C.w 24) (lawEnv X.C.w X.L)) QT) :
    W X m ((128, isTab) :: (135, isTab) :: σ) (execs (lawRest X.C.w 22) (lawEnv X.C.w X.L)) QT := by
  unfold lawEnv
  conv in lawScope _ => whnf
  conv in lawScope _ => whnf
  conv in lawRest _ _ => whnf
  have ro := row_ok h5
  have hx : ∀ σ' : Led, Pieces X.B σ' vs ((rowOf ds).map (textAt (textsOf ds))) := fun σ' => hpc.mono fun a P k => k.elim .inl fun q => nomatch q
  have hvl : vs.length = 5 := by rw [hpc.len, List.length_map, ro.len]
  have hsum := pile_sum h5
  have hbd := sizes_bd h5
  refine w_execs_cons (w_if (w_true_compare (w_Call (w_builtin rfl (by boot_fast) (w_cw_type (w_args_cons (w_local m1 (w_args_nil ?_))))))))
  refine w_perm (List.Perm.swap _ _ _) (w_str_pile (hA.le (by first | decide | (with_reducible first | exact n0 _ | exact f5 (by assumption) | exact a3 (by assumption) (by assumption) | exact b26 (by assumption) | exact a26 (by assumption)) | (first | lia | omega))) (.inl hp) (.inl hd) (hx _) (by rw [List.length_map, ro.len]; decide) fun t => w_local m2 (w_sne ?_))
  rw [pile_texts h5, show (catT ((rowOf ds).map (textOf ds)) != plainOf ds) = false by rw [bne_eq_false_iff_eq]; rfl]
  refine w_truthy_bool (w_execs_nil ?_)
  refine w_execs_cons (w_if (w_true_or (w_true_compare (w_methcall (w_local m1 (w_getMethod_fnL (f := 163) (C := 166) (P := isPile dx vs) (.inl hp) (.inl hd) pileP (iniD (by decide)) (by kernel_rfl) (by kernel_rfl) (by kernel_rfl) (by kernel_rfl) (w_cwm_K0 (by kernel_rfl) (w_call ?_))))))))
  refine wk_part_count (dx := dx) (vs := vs) (hA.le (by first | decide | (with_reducible first | exact n0 _ | exact f5 (by assumption) | exact a3 (by assumption) (by assumption) | exact b26 (by assumption) | exact a26 (by assumption)) | (first | lia | omega))) (.inl hp) fun t3 => w_int fun _ => w_ne ?_
  rw [hvl, show (((5 : Nat) : Int) != 5) = false by decide]
  refine w_truthy_bool ?_
  refine w_true_or (w_true_compare (w_Call (w_builtin rfl (by boot_fast) (w_cw_builtin (w_args_cons (w_local m1 (w_args_nil ?_)))))))
  refine w_perm (List.Perm.swap _ _ _) (w_len_pile (hA.le (by first | decide | (with_reducible first | exact n0 _ | exact f5 (by assumption) | exact a3 (by assumption) (by assumption) | exact b26 (by assumption) | exact a26 (by assumption)) | (first | lia | omega))) (.inl hp) (.inl hd) (hx _) (by first | decide | (with_reducible first | exact n0 _ | exact f5 (by assumption) | exact a3 (by assumption) (by assumption) | exact b26 (by assumption) | exact a26 (by assumption)) | (first | lia | omega)) (by first | decide | (with_reducible first | exact n0 _ | exact f5 (by assumption) | exact a3 (by assumption) (by assumption) | exact b26 (by assumption) | exact a26 (by assumption)) | (first | lia | omega)) fun t4 => ?_)
  refine w_binop (w_local m3 (w_Call (w_builtin rfl (by boot_fast) (w_cw_builtin (w_args_cons (w_cell (.inl hs) (w_args_nil ?_)))))))
  refine w_sum_list hA.hd (.inl hC) hsv fun t5 => w_add fun t6 => w_ne ?_
  rw [hsum, show (st + (sizesOf ds).sum != st + (sizesOf ds).sum) = false by simp]
  exact w_truthy_bool (w_true_or_nil (w_execs_nil h))
end
end Mine
end
end
section
open PySem PySem.W PySem.Calls PyProof.Rows PySem.Spec
set_option Elab.async false
set_option linter.unusedVariables false
set_option maxRecDepth 100000
set_option maxHeartbeats 4000000
noncomputable section
namespace Mine
theorem last_wait {ds : List Int} (h5 : Five ds) (st : Int) : waitOf ds st (rowOf ds) = (psOf ds).least + st * (weightsOf ds).sum := by
  refine and10 (book_ok h5) fun _ _ _ _ _ _ _ _ _ b10 => ?_
  unfold waitOf
  rw [b10]
theorem least_ok {ds : List Int} (h5 : Five ds) : (leastUpto (fun k => (sizesOf ds).getD k 0) (fun k => (weightsOf ds).getD k 0) 31).getD 31 0 = (psOf ds).least := by
  rw [sizes_S]
  exact least_pairs fun k hk => ⟨by have := (S_at h5 hk).2.1; (first | lia | omega), by have := (W_at h5 hk).2.1; show 0 < WA ds k; (first | lia | omega)⟩
section
variable {X : Fm} {m : Vars} {σ : Led}
theorem w_item_book {value slice : Expr} {bk D : Addr} {a b c d : Int} {t : Tok} {Q : Value → Vars → Led → Prop} (hb : Kn X.B σ bk (isBook X.C.w a b c d D)) (h : Q (.ref D) m σ)
    (hs : autoParam (subscripted slice false (.ref bk) (.int 4 t) = operate [.ref bk, .int 4 t] (getItem (.ref bk) (.int 4 t))) Mine.dfl2._auto_1) : W X m σ (subscriptTail value slice (.ref bk) (.int 4 t)) Q := fun s S => by
  obtain ⟨o, e, t1, t2, t3, t4, ho⟩ := S.kn hb
  have I := isTup_at ⟨o, e, ho⟩
  exact tail_any I.typeIs slot_tuple_getitem.lookup (getItem_tuple I (by decide) (by decide) (j := 4) rfl rfl ⟨m, σ, S, h⟩) hs
theorem law_r {ra T G C D bk gd E : Addr} {rv tv wv sv uv bv : List Value} {ds : List Int} {st : Int} {ts t1 t2 : Tok} (hA : Ok 24 X.A) (h5 : Five ds) (h0 : 0 ≤ st) (h9 : st ≤ 9)
    (m1 : m "row" = some (.ref ra)) (m2 : m "told" = some (.ref T)) (m3 : m "gained" = some (.ref G)) (m4 : m "start" = some (.int st ts)) (m5 : m "early" = some (.int (st * (weightsOf ds).sum) t1)) (m6 : m "least" = some (.int (psOf ds).least t2)) (m7 : m "book" = some (.ref bk)) (m8 : m "before" = some (.ref E))
    (hra : BI X.B ra (isList rv)) (hrv : IntsOf rv (natsOf (rowOf ds))) (hT : BI X.B T (isList tv)) (htv : StrsOf tv (textsOf ds)) (hG : BI X.B G (isList wv)) (hwv : IntsOf wv (weightsOf ds))
    (hs : BI X.B (X.L + 1 + 1 + 1 + 1 + 1 + 1) (isCell (.ref C))) (hC : BI X.B C (isList sv)) (hsv : IntsOf sv (sizesOf ds)) (hw : BI X.B (X.L + 1 + 1 + 1 + 1 + 1 + 1 + 1) (isCell (.ref D))) (hD : BI X.B D (isList uv)) (huv : IntsOf uv (weightsOf ds))
    (hb : BI X.B bk (isBook X.C.w (rsOf ds).c (rsOf ds).m (rsOf ds).wo (rsOf ds).lo gd)) (hg : BI X.B gd (isD X.C.w (rsOf ds).g)) (sg : (gd == sysModules) = false)
    (hE : BI X.B E (isList bv)) (hbv : IntsOf bv [waitOf ds st [0, 1, 2, 3, 4], waitOf ds st [0, 1, 2, 3, 4], waitOf ds st [0, 1, 2, 3, 4], 10])
    (hm : (135, isTab) ∈ σ) :
    W X m ((128, isTab) :: σ) (execs (lawRest X.C.w 24) (lawEnv X.C.w X.L)) QT := by
  unfold lawEnv
  conv in lawScope _ => whnf
  conv in lawScope _ => whnf
  conv in lawRest _ _ => whnf
  have ro := row_ok h5
  have hW := wait_told h5 ro.perm st
  have hlw := last_wait h5 st
  have hfw := first_wait ds st
  refine w_execs_cons (w_assign_name (w_Call (w_global (v := .ref 234) rfl (w_cw_K (by kernel_rfl) ?_))))
  refine w_args_cons (w_local m1 (w_args_cons (w_local m2 (w_args_cons (w_local m3 (w_args_cons (w_local m4 (w_args_nil (w_call ?_)))))))))
  refine wk_waitings (xs := textsOf ds) (ws := weightsOf ds) (ns := rowOf ds) (hA.le (by first | decide | (with_reducible first | exact n0 _ | exact f5 (by assumption) | exact a3 (by assumption) (by assumption) | exact b26 (by assumption) | exact a26 (by assumption)) | (first | lia | omega))) (.inl hra) hrv (.inl hT) htv (.inl hG) hwv (five_letters h5) ro.len ro.lt h0 h9 fun F av hav => ?_
  rw [hW.1, hW.2] at hav
  refine w_store_local ?_
  refine w_perm (List.perm_append_comm (l₁ := [(F, isList av)])) (w_keepB fun B' hB' => ?_)
  have hF : BI B' F (isList av) := hB' _ _ (.inr (.head _))
  have up : ∀ a P, BI X.B a P → BI B' a P := fun a P k => hB' _ _ (.inl k)
  refine w_execs_cons (w_if (w_true_compare (w_local rfl (w_List (w_args_cons (w_binop (w_Call (w_global (v := .ref 244) rfl (w_cw_K (by kernel_rfl) (w_args_cons (w_cell (.inl (up _ _ hs)) (w_args_cons (w_cell (.inl (up _ _ hw)) (w_args_nil (w_call ?_)))))))))))))))
  refine wk_least (hA.le (by first | decide | (with_reducible first | exact n0 _ | exact f5 (by assumption) | exact a3 (by assumption) (by assumption) | exact b26 (by assumption) | exact a26 (by assumption)) | (first | lia | omega))) (.inl (up _ _ hC)) hsv (.inl (up _ _ hD)) huv (sizes_len5 ds) (five_letters h5).lw (five_letters h5).tw fun t3 => ?_
  rw [least_ok h5]
  refine w_local m5 (w_add fun t4 => ?_)
  refine w_args_cons (w_binop (w_local m6 (w_local m5 (w_add fun t5 => ?_))))
  refine w_args_cons (w_binop (w_local m6 (w_local m5 (w_add fun t6 => w_args_cons (w_int fun t7 => w_args_nil (w_newList (szL _ (by simp)) fun Z => ?_))))))
  rw [← hlw]
  refine w_ne_ints hA (.inl hF) (.inr (.head _)) hav (.cons ⟨_, rfl⟩ (.cons ⟨_, rfl⟩ (.cons ⟨_, rfl⟩ (.cons ⟨_, rfl⟩ .nil)))) (w_truthy_bool (w_execs_nil ?_))
  obtain ⟨ta, ea⟩ := hav.get (i := 0) (n := waitOf ds st (rowOf ds)) rfl
  obtain ⟨tb, eb⟩ := hbv.get (i := 0) (n := waitOf ds st [0, 1, 2, 3, 4]) rfl
  refine w_execs_cons (w_return (w_compare (w_Call (w_global (v := .ref 87) rfl (w_cw_K (by kernel_rfl) (w_args_cons (w_subscript (w_local m7 (w_int fun _ => ?_)))))))))
  refine w_item_book (.inl (up _ _ hb)) (w_args_nil (w_call ?_))
  refine wk_count (hA.le (by first | decide | (with_reducible first | exact n0 _ | exact f5 (by assumption) | exact a3 (by assumption) (by assumption) | exact b26 (by assumption) | exact a26 (by assumption)) | (first | lia | omega))) sg (.inl (up _ _ hg)) fun t8 => ?_
  refine w_binop (w_subscript (w_local m8 (w_int fun _ => ?_)))
  refine w_item_list (vs := bv) (.inl (up _ _ hE)) (by decide) (by decide) eb (w_subscript (w_local rfl (w_int fun _ => ?_)))
  refine w_item_list (vs := av) (.inl hF) (by decide) (by decide) ea (w_sub fun t9 => w_eq ?_)
  refine and10 (book_ok h5) fun _ _ _ _ _ _ _ _ b9 _ => ?_
  rw [b9, hlw, ← hfw]
  rw [show ((psOf ds).first - (psOf ds).least == (psOf ds).first + st * (weightsOf ds).sum - ((psOf ds).least + st * (weightsOf ds).sum)) = true by rw [beq_iff_eq]; (first | lia | omega)]
  exact ⟨rfl, .tail _ (.head _), .tail _ (.tail _ hm)⟩
end
end Mine
end
end
section
open PySem PySem.W PySem.Calls PyProof.Rows PySem.Spec
set_option Elab.async false
set_option linter.unusedVariables false
set_option maxRecDepth 100000
set_option maxHeartbeats 4000000
noncomputable section
namespace Mine
section
variable {X : Fm} {m : Vars} {σ : Led}
theorem law_body {sc : Addr} {vs : List Value} {script : List Int} (hA : Ok 24 X.A) (hs : BI X.B sc (isList vs)) (hi : IntsOf vs script) (hlen : script.length ≤ 100000) (hm : m "script" = some (.ref sc)) :
    W X m [(X.L + 1 + 1 + 1 + 1 + 1 + 1 + 1, isCell0), (X.L + 1 + 1 + 1 + 1 + 1 + 1, isCell0), (X.L + 1 + 1 + 1 + 1 + 1, isCell0), (X.L + 1 + 1 + 1 + 1, isCell0), (X.L + 1 + 1 + 1, isCell0), (X.L + 1 + 1, isCell0), (X.L + 1, isCell0), (128, isTab), (135, isTab)]
      (execs (lawRest X.C.w 0) (lawEnv X.C.w X.L)) QT := by
  have h5 := drawn_five script
  with_reducible refine w_perm bring6 (law_a hA hs hi hlen hm fun B1 ma D ws u1 c1 d1 hws ⟨tt, mt⟩ ⟨ts, ms⟩ => ?_)
  generalize drawnOf script = ds at h5 hws mt ms
  have hst := fmod_bd ds.sum (n := 10) (by decide)
  generalize hst0 : ds.sum.fmod 10 = st at ms hst
  have h9 : st ≤ 9 := by omega
  with_reducible refine w_perm bring4 (law_b (X := X.withB B1) hA h5 c1 d1 hws fun B2 Fx fv u2 c2 d2 hfv => ?_)
  with_reducible refine w_perm bring3 (law_c (X := X.withB B2) hA h5 c2 d2 hfv fun B3 Sn sn u3 c3 d3 hsn => ?_)
  with_reducible refine w_perm bring2 (law_d (X := X.withB B3) hA h5 (u3 _ _ (u2 _ _ c1)) (u3 _ _ (u2 _ _ d1)) hws fun B4 Tx tv u4 c4 d4 htv => ?_)
  with_reducible refine law_e (X := X.withB B4) hA h5 (u4 _ _ c3) (u4 _ _ d3) hsn c4 d4 htv ?_
  with_reducible refine law_f (X := X.withB B4) hA h5 (u4 _ _ c3) (u4 _ _ d3) hsn fun B5 To to u5 d5 hto => ?_
  with_reducible refine law_g (X := X.withB B5) hA h5 (u5 _ _ (u4 _ _ c3)) (u5 _ _ (u4 _ _ d3)) hsn (u5 _ _ (u4 _ _ (u3 _ _ c2))) (u5 _ _ (u4 _ _ (u3 _ _ d2))) hfv fun B6 Gn gv u6 d6 hgv => ?_
  with_reducible refine w_perm bring1 (law_h (X := X.withB B6) hA h5 (u6 _ _ (u5 _ _ c4)) (u6 _ _ (u5 _ _ d4)) htv fun B7 Sz sv u7 c7 d7 hsv => ?_)
  have c1' : BI B7 (X.L + 1) (isCell (.ref D)) := u7 _ _ (u6 _ _ (u5 _ _ (u4 _ _ (u3 _ _ (u2 _ _ c1)))))
  have d1' : BI B7 D (isList ws) := u7 _ _ (u6 _ _ (u5 _ _ (u4 _ _ (u3 _ _ (u2 _ _ d1)))))
  have c4' := u7 _ _ (u6 _ _ (u5 _ _ c4))
  have d4' := u7 _ _ (u6 _ _ (u5 _ _ d4))
  have d5' := u7 _ _ (u6 _ _ d5)
  have d6' := u7 _ _ d6
  have ms' : upd (upd ma "told" (.ref To)) "gained" (.ref Gn) "start" = some (.int st ts) := ms
  with_reducible refine law_i (X := X.withB B7) (m := upd (upd ma "told" (.ref To)) "gained" (.ref Gn)) (st := st) (ts := ts) hA h5 c1' d1' hws ms' hst.1 h9 fun B8 Wt wv te u8 c8 d8 hwv => ?_
  with_reducible refine law_j (X := X.withB B8) hA h5 (u8 _ _ c7) (u8 _ _ d7) hsv c8 d8 hwv fun B9 Bk G t1 t2 u9 e1 e2 e3 => ?_
  generalize hma : upd (upd (upd (upd (upd (upd ma "told" (.ref To)) "gained" (.ref Gn)) "early" (.int (st * (weightsOf ds).sum) te)) "first" (.int (psOf ds).first t1)) "least" (.int (psOf ds).least t2)) "due" (.ref Bk) = mb
  have n1 : mb "told" = some (.ref To) := by rw [← hma]; rfl
  have n2 : mb "gained" = some (.ref Gn) := by rw [← hma]; rfl
  have n3 : mb "early" = some (.int (st * (weightsOf ds).sum) te) := by rw [← hma]; rfl
  have n4 : mb "first" = some (.int (psOf ds).first t1) := by rw [← hma]; rfl
  have n5 : mb "least" = some (.int (psOf ds).least t2) := by rw [← hma]; rfl
  have n6 : mb "due" = some (.ref Bk) := by rw [← hma]; rfl
  have n7 : mb "start" = some (.int st ts) := by rw [← hma]; exact ms
  have n8 : mb "turn" = some (.int ds.sum tt) := by rw [← hma]; exact mt
  clear hma
  have d5b := u9 _ _ (u8 _ _ d5')
  have d6b := u9 _ _ (u8 _ _ d6')
  with_reducible refine w_perm bring1 (law_k (X := X.withB B9) hA h5 hst.1 h9 n1 n2 n7 n4 n3 d5b hto d6b hgv fun B10 Bf bv u10 d10 hbv => ?_)
  have n1' : upd mb "before" (.ref Bf) "told" = _ := n1
  have n2' : upd mb "before" (.ref Bf) "gained" = _ := n2
  have n7' : upd mb "before" (.ref Bf) "start" = _ := n7
  have n8' : upd mb "before" (.ref Bf) "turn" = _ := n8
  with_reducible refine law_l (X := X.withB B10) (m := upd mb "before" (.ref Bf)) hA h5 n1' n2' n7' n8' (u10 _ _ d5b) hto (u10 _ _ d6b) hgv fun B11 ra pile dx bk Dg rv pv u11 f1 hrv f2 f3 f4 f5 f6 f7 => ?_
  have ro := row_ok h5
  have c7b := u11 _ _ (u10 _ _ (u9 _ _ (u8 _ _ c7)))
  have d7b := u11 _ _ (u10 _ _ (u9 _ _ (u8 _ _ d7)))
  have c8b := u11 _ _ (u10 _ _ (u9 _ _ c8))
  have d8b := u11 _ _ (u10 _ _ (u9 _ _ d8))
  generalize hmc : upd (upd (upd (upd mb "before" (.ref Bf)) "row" (.ref ra)) "pile" (.ref pile)) "book" (.ref bk) = mc
  have p1 : mc "told" = some (.ref To) := by rw [← hmc]; exact n1
  have p2 : mc "gained" = some (.ref Gn) := by rw [← hmc]; exact n2
  have p3 : mc "early" = some (.int (st * (weightsOf ds).sum) te) := by rw [← hmc]; exact n3
  have p5 : mc "least" = some (.int (psOf ds).least t2) := by rw [← hmc]; exact n5
  have p6 : mc "due" = some (.ref Bk) := by rw [← hmc]; exact n6
  have p7 : mc "start" = some (.int st ts) := by rw [← hmc]; exact n7
  have p8 : mc "before" = some (.ref Bf) := by rw [← hmc]; rfl
  have p9 : mc "row" = some (.ref ra) := by rw [← hmc]; rfl
  have p10 : mc "pile" = some (.ref pile) := by rw [← hmc]; rfl
  have p11 : mc "book" = some (.ref bk) := by rw [← hmc]; rfl
  clear hmc n1 n2 n3 n4 n5 n6 n7 n8
  with_reducible refine w_perm bring1 (law_m (X := X.withB B11) hA h5 c7b d7b hsv c8b d8b hwv f1 hrv ro.len ro.lt p9 fun B12 md Sd qv q1 q2 u12 q3 q4 => ?_)
  have r1 := (q1 "told" (by decide) (by decide) (by decide)).trans p1
  have r2 := (q1 "gained" (by decide) (by decide) (by decide)).trans p2
  have r3 := (q1 "early" (by decide) (by decide) (by decide)).trans p3
  have r5 := (q1 "least" (by decide) (by decide) (by decide)).trans p5
  have r6 := (q1 "due" (by decide) (by decide) (by decide)).trans p6
  have r7 := (q1 "start" (by decide) (by decide) (by decide)).trans p7
  have r8 := (q1 "before" (by decide) (by decide) (by decide)).trans p8
  have r9 := (q1 "row" (by decide) (by decide) (by decide)).trans p9
  have r10 := (q1 "pile" (by decide) (by decide) (by decide)).trans p10
  have r11 := (q1 "book" (by decide) (by decide) (by decide)).trans p11
  clear p1 p2 p3 p5 p6 p7 p8 p9 p10 p11
  have e1' := u12 _ _ (u11 _ _ (u10 _ _ e1))
  have e2' := u12 _ _ (u11 _ _ (u10 _ _ e2))
  with_reducible refine law_n (X := X.withB B12) hA h5 q2 r11 r6 q3 q4 (u12 _ _ f4) (u12 _ _ f5) f6 e1' e2' e3 ?_
  have c1b : BI B12 (X.L + 1) (isCell (.ref D)) := u12 _ _ (u11 _ _ (u10 _ _ (u9 _ _ (u8 _ _ c1'))))
  have d1b : BI B12 D (isList ws) := u12 _ _ (u11 _ _ (u10 _ _ (u9 _ _ (u8 _ _ d1'))))
  have c4b := u12 _ _ (u11 _ _ (u10 _ _ (u9 _ _ (u8 _ _ c4'))))
  have d4b := u12 _ _ (u11 _ _ (u10 _ _ (u9 _ _ (u8 _ _ d4'))))
  with_reducible refine law_o (X := X.withB B12) hA h5 c1b d1b hws c4b d4b htv r9 (u12 _ _ f1) hrv fun t3 t4 => ?_
  have w1 : upd (upd md "whole" (.str (wholeOf2 ds) t3)) "plain" (.str (plainOf ds) t4) "whole" = some (.str (wholeOf2 ds) t3) := rfl
  have w2 : upd (upd md "whole" (.str (wholeOf2 ds) t3)) "plain" (.str (plainOf ds) t4) "plain" = some (.str (plainOf ds) t4) := rfl
  with_reducible refine law_p (X := X.withB B12) hA h5 w1 w2 ?_
  have r1' : upd (upd md "whole" (.str (wholeOf2 ds) t3)) "plain" (.str (plainOf ds) t4) "told" = _ := r1
  have r2' : upd (upd md "whole" (.str (wholeOf2 ds) t3)) "plain" (.str (plainOf ds) t4) "gained" = _ := r2
  have r3' : upd (upd md "whole" (.str (wholeOf2 ds) t3)) "plain" (.str (plainOf ds) t4) "early" = _ := r3
  have r5' : upd (upd md "whole" (.str (wholeOf2 ds) t3)) "plain" (.str (plainOf ds) t4) "least" = _ := r5
  have r7' : upd (upd md "whole" (.str (wholeOf2 ds) t3)) "plain" (.str (plainOf ds) t4) "start" = _ := r7
  have r8' : upd (upd md "whole" (.str (wholeOf2 ds) t3)) "plain" (.str (plainOf ds) t4) "before" = _ := r8
  have r9' : upd (upd md "whole" (.str (wholeOf2 ds) t3)) "plain" (.str (plainOf ds) t4) "row" = _ := r9
  have r10' : upd (upd md "whole" (.str (wholeOf2 ds) t3)) "plain" (.str (plainOf ds) t4) "pile" = _ := r10
  have r11' : upd (upd md "whole" (.str (wholeOf2 ds) t3)) "plain" (.str (plainOf ds) t4) "book" = _ := r11
  have f7' : Pieces B12 [] pv ((rowOf ds).map (textAt (textsOf ds))) := f7.mono fun a P k => k.elim (fun q => .inl (u12 _ _ q)) fun q => nomatch q
  with_reducible refine law_q (X := X.withB B12) (m := upd (upd md "whole" (.str (wholeOf2 ds) t3)) "plain" (.str (plainOf ds) t4)) (ts := ts) hA h5 hst.1 h9 r10' w2 r7' (u12 _ _ f2) (u12 _ _ f3) f7' (u12 _ _ c7b) (u12 _ _ d7b) hsv ?_
  with_reducible exact law_r (X := X.withB B12) (m := upd (upd md "whole" (.str (wholeOf2 ds) t3)) "plain" (.str (plainOf ds) t4)) hA h5 hst.1 h9 r9' r1' r2' r7' r3' r5' r11' r8' (u12 _ _ f1) hrv (u12 _ _ (u11 _ _ (u10 _ _ d5b))) hto (u12 _ _ (u11 _ _ (u10 _ _ d6b))) hgv (u12 _ _ c7b) (u12 _ _ d7b) hsv (u12 _ _ c8b) (u12 _ _ d8b) hwv (u12 _ _ f4) (u12 _ _ f5) f6 (u12 _ _ (u11 _ _ d10)) hbv (List.Mem.head _)
end
end Mine
end
end
section
open PySem PySem.W PySem.Calls PyProof.Rows PySem.Spec
set_option Elab.async false
set_option linter.unusedVariables false
set_option maxRecDepth 100000
set_option maxHeartbeats 4000000
noncomputable section
namespace Mine
theorem top_defC {C : Cx} {B : PH} {A : Around} {s : Shared} {Q : Value → Led → Prop} {σ₁ : Led} {f : Addr} {pos : List Value} {name qual : Str} {params : Arguments} {body : List Stmt} {scope : Scope}
    {dV kV doc pm cdv ct oc : Value} {an od : Option Addr} {osl : Array (Option Value)} {binds : List (Str × Value)} {n : Nat}
    (ho : (KK C.w).lookup f = some ⟨oc, od, .func (fnX name qual params body scope [] dV kV doc pm an cdv ct), osl⟩) (hcd : codeIn (KK C.w) cdv qual = true)
    (hA : Ok (n + 1) A) (hbind : bindArgs (fnX name qual params body scope [] dV kV doc pm an cdv ct) ⟨pos, []⟩ = pure binds)
    (hloc : (binds.all fun x => scope.names.lookup x.1 == some .local || scope.names.lookup x.1 == some .cell) = true) (hnm : ((cellsFrom 0 scope.names []).map (·.1)).Nodup)
    (hlk : ∀ L, binds.all (fun x => scope.names.lookup x.1 == some .local || ((cellsOf scope L).lookup x.1).isSome) = true)
    (keep : Sub B s.heap) (wf : ∀ h, Sub B h → WF C h) (hos : s.os = C.os) (hg : AllBare s.gens) (own : ∀ p ∈ σ₁, ∃ o, s.heap.get? p.1 = some o ∧ p.2 o) (hbσ : ∀ p ∈ σ₁, B p.1 = none) (hnd : (σ₁.map (·.1)).Nodup)
    (h : ∀ X' : Fm, X'.C = C → (∀ a P, BI B a P → BI X'.B a P) → Ok n X'.A → X'.A = A.deeper (envX qual scope X'.L f cdv (cellsOf scope X'.L)) →
      W X' (bindL (fun n => scope.names.lookup n) binds (fun _ => none)) ((freeCells scope binds X'.L).map (fun c => (c, isCell0)) ++ σ₁) (execs body (envX qual scope X'.L f cdv (cellsOf scope X'.L))) (fun fl _ σ' => Q (match fl with | .ret v => v | _ => .none) σ'))
    (hco : autoParam (scope.isCoroutine = false) Mine.dfl0._auto_1) (hgen : autoParam (scope.isGenerator = false) Mine.dfl0._auto_1) (hk : autoParam (scope.kind = .function) Mine.dfl0._auto_1) :
    codeAny (MM C) A (.call (.ref f) ⟨pos, []⟩) (fun r s' => match r with | .ok (.ret v) => ∃ L m σ', St C B (fun _ => none) L m σ' s' ∧ Q v σ' | _ => False) s := by
  have world : WF C s.heap := wf _ keep
  refine codeAny_call_cells (fd := fnX name qual params body scope [] dV kV doc pm an cdv ct) (body := body) (binds := binds) (Nat.lt_of_lt_of_le (by have := hA.dp; omega : A.depth < 900) (by decide)) (world.k _ _ ho) rfl world.t.nolimit (codeRec_of world.k hcd) rfl
    hbind rfl (fun x hx => ?_) (fun s₁ x => ?_) hco hgen hk
  · have h1 := List.all_eq_true.mp hloc x hx
    have h2 := List.all_eq_true.mp (hlk s.heap.objs.size) x hx
    simp only [Bool.or_eq_true, beq_iff_eq, Bool.and_eq_true] at h1 h2
    rcases h1 with h1 | h1
    · exact .inl h1
    · rcases h2 with h2 | h2
      · exact .inl h2
      · exact .inr ⟨h1, h2⟩
  · refine ex2 (x.toInCall.same) fun h' tk oq2 => ?_; subst oq2
    have hns := x.toInCall.ns
    have own2 : ∀ p ∈ σ₁, ∃ o, h'.get? p.1 = some o ∧ p.2 o := fun p hp => let ⟨o, e, q⟩ := own p hp; ⟨o, x.toInCall.keep _ _ e, q⟩
    have nd2 : (s.heap.objs.size :: σ₁.map (·.1)).Nodup := by
      refine List.nodup_cons.mpr ⟨fun q => ?_, hnd⟩
      refine ex1 (List.mem_map.mp q) fun p ou0 => ?_; refine and2 (ou0) fun hp e => ?_; clear ou0
      refine ex1 (own p hp) fun o ou0 => ?_; refine and2 (ou0) fun e' _ => ?_; clear ou0
      rw [e, get_size_none] at e'; cases e'
    have S₁ : St C B (fun _ => none) s.heap.objs.size _ σ₁ { s with heap := h', toks := tk } :=
      { keep := fun b o e => x.toInCall.keep b o (keep b o e), keepF := fun b o e => (nomatch e), ns := hns, own := own2, bL := none_of keep (get_size_none _), fL := rfl, bσ := fun p hp => ⟨hbσ p hp, rfl⟩, nd := nd2, wf := wf, os := hos, gens := hg }
    have hsl : ∀ nm c, (nm, c) ∈ cellsOf scope s.heap.objs.size → s.heap.get? c = none := fun nm c hm => get_ge_none (Nat.le_of_lt (x.above nm c hm))
    let cm := bindC (fun n => scope.names.lookup n) binds (fun _ => none)
    let τ : Led := (cellsOf scope s.heap.objs.size).map fun p => (p.2, fun o => o.data = .cell (cm p.1))
    have hap := x.apart
    have S₂ : St C B (fun _ => none) s.heap.objs.size _ (τ ++ σ₁) { s with heap := h', toks := tk } := S₁.addAll τ (fun p hp => by
        refine ex1 (List.mem_map.mp hp) fun oq0 ou0 => ?_; refine and2 (ou0) fun hm oq2 => ?_; clear ou0; obtain ⟨nm, c⟩ := oq0; subst oq2
        refine x.cell nm c (lookup_of_nodup ?_ hm)
        show ((cellsFrom _ scope.names []).map (·.1)).Nodup
        rw [cellsFrom_names scope.names _ 0 [] [] rfl]; exact hnm) (by
        show (List.map _ (List.map _ _)).Nodup
        rw [List.map_map]
        exact List.pairwise_map.mpr hap) (fun p hp => by
        refine ex1 (List.mem_map.mp hp) fun oq0 ou0 => ?_; refine and2 (ou0) fun hm oq2 => ?_; clear ou0; obtain ⟨nm, c⟩ := oq0; subst oq2
        have hn := hsl nm c hm
        exact ⟨none_of keep hn, rfl, Nat.ne_of_gt (x.above nm c hm), fun q => by
          refine ex1 (List.mem_map.mp q) fun p' ou0 => ?_; refine and2 (ou0) fun hp' e => ?_; clear ou0
          refine ex1 (own p' hp') fun o ou0 => ?_; refine and2 (ou0) fun e' _ => ?_; clear ou0
          have e : p'.1 = c := e
          rw [e, hn] at e'; cases e'⟩)
    have hτ : τ.Perm ((freeCells scope binds s.heap.objs.size).map (fun c => (c, isCell0)) ++ (fullCells scope binds s.heap.objs.size).map (fun p => (p.1, isCell p.2))) := by
      have hp := filterMap_split (cellsOf scope s.heap.objs.size) (fun x => (cm x.1).map fun v => (x.2, v)) (fun x => ((x.2, fun o => o.data = .cell (cm x.1)) : Addr × HP)) (fun p => (p.1, isCell p.2)) (fun x b e => by
        cases e' : cm x.1 with
        | none => rw [e'] at e; cases e
        | some v => rw [e'] at e; cases e; rfl)
      refine hp.trans (List.Perm.of_eq ?_)
      congr 1
      rw [freeCells, List.map_filterMap]
      congr 1
      funext x
      show _ = Option.map _ (if (cm x.1).isNone = true then some x.2 else none)
      cases e' : cm x.1 with
      | none => simp only [Option.map_none, Option.isNone_none, if_true, Option.map_some]; rfl
      | some v => rfl
    have S₃ := S₂.perm (σ' := ((freeCells scope binds s.heap.objs.size).map (fun c => (c, isCell0)) ++ σ₁) ++ (fullCells scope binds s.heap.objs.size).map (fun p => (p.1, isCell p.2))) (by
      refine (hτ.append_right _).trans ?_
      rw [List.append_assoc, List.append_assoc]
      exact List.Perm.append_left _ List.perm_append_comm)
    refine ex1 (S₃.frame) fun B' oh => ?_; refine and4 oh fun hB hkn S₄ back => ?_; clear oh
    have ok : Ok n (A.deeper (envX qual scope s.heap.objs.size f cdv (cellsOf scope s.heap.objs.size))) := ⟨hA.hd, by have := hA.dp; show A.depth + 1 + n ≤ 900; omega, by have := hA.un; show A.units + 3 + 20 * n ≤ 9000; omega, by
      have := hA.fr
      show (A.frames.map _).isSome = true
      rw [Option.isSome_map]; exact this⟩
    refine (h ⟨C, A.deeper (envX qual scope s.heap.objs.size f cdv (cellsOf scope s.heap.objs.size)), B', fun _ => none, s.heap.objs.size⟩ rfl (fun a P k => hkn a P (.inl k)) ok rfl).use S₄ fun fl m' σ' s' S' q => ⟨_, m', _, (back _ _ _ S').sub (List.sublist_append_left _ _), q⟩
theorem law_top {C : Cx} {B : PH} {A : Around} {s : Shared} {sc : Addr} {vs : List Value} {script : List Int} (hA : Ok 25 A) (keep : Sub B s.heap) (wf : ∀ h, Sub B h → WF C h) (hos : s.os = C.os) (hg : AllBare s.gens) (n1 : B 128 = none) (n2 : B 135 = none)
    (o1 : ∃ o, s.heap.get? 128 = some o ∧ isTab o) (o2 : ∃ o, s.heap.get? 135 = some o ∧ isTab o) (hs : BI B sc (isList vs)) (hi : IntsOf vs script) (hlen : script.length ≤ 100000) :
    codeAny (MM C) A (.call (.ref 256) ⟨[.ref sc], []⟩) (fun r s' => match r with
      | .ok (.ret v) => v = .bool true ∧ Sub B s'.heap ∧ s'.os = C.os ∧ AllBare s'.gens ∧ (∃ o, s'.heap.get? 128 = some o ∧ isTab o) ∧ (∃ o, s'.heap.get? 135 = some o ∧ isTab o)
      | _ => False) s := by
  refine codeAny_mono (top_defC (Q := fun v σ' => v = .bool true ∧ (128, isTab) ∈ σ' ∧ (135, isTab) ∈ σ') (σ₁ := [(128, isTab), (135, isTab)]) (n := 24) (binds := [("script", .ref sc)]) rfl rfl hA rfl rfl (by decide) (fun L => rfl) keep wf hos hg ?_ ?_ (by decide) ?_) ?_
  · intro p hp
    simp only [List.mem_cons, List.not_mem_nil, or_false] at hp
    rcases hp with rfl | rfl
    · exact o1
    · exact o2
  · intro p hp
    simp only [List.mem_cons, List.not_mem_nil, or_false] at hp
    rcases hp with rfl | rfl
    · exact n1
    · exact n2
  · intro X' hC hK hA' _
    refine w_mono ?_ fun fl m' σ' (q : QT fl m' σ') => q
    exact law_body (X := X') (m := upd (fun _ => none) "script" (.ref sc)) hA' (hK _ _ hs) hi hlen rfl
  · rintro (e | (_ | _ | _ | v)) s' q
    · exact q
    · exact q
    · exact q
    · exact q
    · refine ex3 (q) fun L m σ' oh => ?_; (try clear q); refine and4 oh fun S oq1 h1 h2 => ?_; clear oh; subst oq1
      exact ⟨rfl, S.keep, S.os, S.gens, S.own _ h1, S.own _ h2⟩
end Mine
end
end
section
open PySem PySem.W PySem.Calls PyProof.Rows PySem.Spec
set_option Elab.async false
set_option linter.unusedVariables false
set_option maxRecDepth 100000
set_option maxHeartbeats 4000000
noncomputable section
namespace Mine
theorem lookup_filter (p : Addr → Bool) {a : Addr} {o : Obj} : ∀ {l : Frag}, (l.filter fun q => p q.1).lookup a = some o → p a = true ∧ l.lookup a = some o
  | [], h => nomatch h
  | (b, x) :: l, h => by
    rw [List.filter_cons] at h
    by_cases hb : p b = true
    · rw [if_pos hb] at h
      rw [List.lookup_cons] at h ⊢
      by_cases hab : (a == b) = true
      · rw [hab] at h ⊢
        have : a = b := by simpa using hab
        subst this
        exact ⟨hb, h⟩
      · have hab : (a == b) = false := by simpa using hab
        rw [hab] at h ⊢
        exact lookup_filter p h
    · rw [if_neg hb] at h
      refine and2 (lookup_filter p h) fun h1 h2 => ?_
      refine ⟨h1, ?_⟩
      rw [List.lookup_cons]
      have hab : (a == b) = false := by
        rw [beq_eq_false_iff_ne]
        rintro rfl
        exact hb h1
      rw [hab]
      exact h2
noncomputable def outer (a : Addr) : Bool := !(Nat.beq a 128 || Nat.beq a 135)
theorem outer_of {b : Addr} (h1 : b ≠ 128) (h2 : b ≠ 135) : outer b = true := by
  have g1 : Nat.beq b 128 = false := by
    cases h : Nat.beq b 128 with
    | false => rfl
    | true => exact absurd (Nat.eq_of_beq_eq_true h) h1
  have g2 : Nat.beq b 135 = false := by
    cases h : Nat.beq b 135 with
    | false => rfl
    | true => exact absurd (Nat.eq_of_beq_eq_true h) h2
  unfold outer
  rw [g1, g2]; rfl
theorem kk_in {w : World} {h : Heap} (X : (hd.heap_39 w.params).In h) : (KK w).In h := fun a o e => X a o (lookup_filter outer e).2
theorem are_of {vs : List Value} {ns : List Int} (h : IntsAre vs ns) : IntsOf vs ns := by
  induction h with
  | nil => exact .nil
  | cons n t _ ih => exact .cons ⟨t, rfl⟩ ih
theorem well_list {P : Params} {h : Heap} {a : Addr} {xs : List WData} (w : Well P h (.ref a) (.list xs)) : ∃ vs : List Value, h.get? a = some { cls := .type "list", data := .seq vs.toArray } := by
  cases w with
  | list e _ => exact ⟨_, e⟩
theorem caller_ok : Ok 25 callerA := ⟨rfl, by decide, by decide, rfl⟩
noncomputable def allBut (h : Heap) : PH := fun a => if outer a = true then h.get? a else none
theorem allBut_some {h : Heap} {a : Addr} {o : Obj} (ho : outer a = true) (e : h.get? a = some o) : allBut h a = some o := by unfold allBut; rw [if_pos ho]; exact e
theorem allBut_sub (h : Heap) : Sub (allBut h) h := fun a o e => by
  unfold allBut at e
  split at e
  · exact e
  · cases e
theorem ns_at {h h' : Heap} {a : Addr} {m : Vars} (ha : outer a = true) (hs : Sub (allBut h) h') (n : h.Ns a m) : h'.Ns a m := n.at' fun o e => hs a o (allBut_some ha e)
theorem law_call {w : World} {s₁ : Shared} {mg mb : Vars} {fa sc : Addr} {vs : List Value} {script : List Int} (T : TopRead VW LS mg mb s₁.heap) (KX : (hd.heap_39 w.params).In s₁.heap) (hg : s₁.gens = #[]) (hfa : mg "law" = some (.ref fa))
    (hsc : s₁.heap.get? sc = some { cls := .type "list", data := .seq vs.toArray }) (hi : IntsAre vs script) (hlen : script.length ≤ 63) :
    wpAny (model PW w) callerA (call (.ref fa) [.ref sc]) (fun v s' => v = .bool true ∧ OldK s₁.heap s'.heap ∧ s'.os = s₁.os ∧ AllBare s'.gens) (fun _ _ => False) s₁ := by
  have KN := kk_in KX
  have e256 : fa = 256 := by
    have := mg_of (n := "law") (v := .ref 256) KN T.g rfl
    rw [hfa] at this
    cases this
    rfl
  subst e256
  have t1 : s₁.heap.get? 128 = some { cls := .none, data := .fields #[] } := KX 128 _ rfl
  have t2 : s₁.heap.get? 135 = some { cls := .none, data := .fields #[] } := KX 135 _ rfl
  have c1 : isCodeTable s₁.heap 128 := ⟨132, _, _, KX 132 _ rfl, rfl, rfl, rfl⟩
  have c2 : isCodeTable s₁.heap 135 := ⟨139, _, _, KX 139 _ rfl, rfl, rfl, rfl⟩
  have hso : outer sc = true := by
    cases h : outer sc with
    | true => rfl
    | false =>
      exfalso
      have : sc = 128 ∨ sc = 135 := by
        by_cases q : sc = 128
        · exact .inl q
        · by_cases q2 : sc = 135
          · exact .inr q2
          · rw [outer_of q q2] at h; cases h
      rcases this with rfl | rfl
      · rw [t1] at hsc; cases hsc
      · rw [t2] at hsc; cases hsc
  refine wpAny_call (codeAny_mono (law_top (C := ⟨w, s₁.os, mg, mb⟩) (B := allBut s₁.heap) (A := callerA) (vs := vs) caller_ok (allBut_sub _) (fun h hs => ⟨fun a o e => hs a o (allBut_some ?_ (KN a o e)), ?_⟩) rfl (.of_eq hg) rfl rfl
    ⟨_, t1, #[], rfl, trivial⟩ ⟨_, t2, #[], rfl, trivial⟩ ⟨_, allBut_some hso hsc, 0, rfl⟩ (are_of hi) (by (first | lia | omega))) fun r s' q => ?_)
  · exact (lookup_filter outer e).1
  · refine ex1 (T.nolimit) fun mc ou0 => ?_; refine and2 (ou0) fun n hm => ?_; clear ou0
    exact ⟨ns_at (by decide) hs T.g, ns_at (by decide) hs T.b, ⟨mc, ns_at (by decide) hs n, hm⟩, T.builtins, T.free⟩
  · rcases r with e | (_ | _ | _ | v)
    · exact q
    · exact q
    · exact q
    · exact q
    · refine and6 (q) fun hv hk hos hgs oq4 oq5 => ?_; try clear q; obtain ⟨x1, y1, p1, rfl, _⟩ := oq4; obtain ⟨x2, y2, p2, rfl, _⟩ := oq5
      have key : ∀ b o, s₁.heap.get? b = some o → outer b = true ∨ (b = 128 ∧ o = { cls := .none, data := .fields #[] }) ∨ (b = 135 ∧ o = { cls := .none, data := .fields #[] }) := fun b o e => by
        by_cases h1 : b = 128
        · subst h1; rw [t1] at e; exact .inr (.inl ⟨rfl, (Option.some.inj e).symm⟩)
        · by_cases h2 : b = 135
          · subst h2; rw [t2] at e; exact .inr (.inr ⟨rfl, (Option.some.inj e).symm⟩)
          · exact .inl (outer_of h1 h2)
      refine ⟨hv, ⟨fun b o e => ?_, fun b o e => ?_⟩, hos, hgs⟩
      · rcases key b o e with h | ⟨rfl, rfl⟩ | ⟨rfl, rfl⟩
        · exact .inl (hk b o (allBut_some h e))
        · exact .inr (.inl ⟨c1, rfl, #[], p1, rfl, by rw [y1]; simp⟩)
        · exact .inr (.inl ⟨c2, rfl, #[], p2, rfl, by rw [y2]; simp⟩)
      · rcases key b o e with h | ⟨rfl, rfl⟩ | ⟨rfl, rfl⟩
        · exact ⟨o, hk b o (allBut_some h e)⟩
        · exact ⟨_, y1⟩
        · exact ⟨_, y2⟩
end Mine
end
end
open PySem PySem.W PyProof.Rows
set_option Elab.async false
set_option maxRecDepth 100000 in
set_option maxHeartbeats 8000000 in
theorem PySem.Challenge.cw_xh0009_01_holds : PySem.Challenge.rw_xh0009_01.Holds := by
  refine Mine.hd ?_
  intro w s₀ s₁ mg mb G Y fa o pm cd doc dV kV ho hd' hcd hD hmg hg args vals as hpre hlay hrd hwl hlo
  have hsh := (pre_splitW hpre).1
  have hcond := (pre_splitW hpre).2
  wrow_hasAll hsh hlay
  wrow_readAll hrd hwl hlo
  clear hpre
  w_cond hcond
  rename_i script _ _ _ _ _ _ _ sc vs _ hL _ w1 _ hI _ hlen _
  obtain ⟨us, hus⟩ := Mine.well_list (xs := ofPys (script.map PyData.int)) w1
  have hvs : us.toArray = vs.toArray := by
    obtain ⟨_, e, _, n, hd⟩ := hL
    rw [hus] at e
    cases e
    cases hd
    rfl
  rw [hvs] at hus
  have KX : (Mine.hd.heap_39 w.params).In s₁.heap := kIn_of Y
  refine Ground.open G ?_
  intro T _ _ _ _
  refine wpAny_mono (Mine.law_call (script := script) (topRead_of T) KX hg hmg hus hI (by omega)) (fun v s' q => ?_) fun _ _ q => q.elim
  obtain ⟨rfl, hk, hos, hgs⟩ := q
  exact ⟨.inl ⟨.bool true, .bool true, [], rfl, fun _ => rfl, .bool true, (by wrow_post), fun _ => ⟨List.nodup_nil, fun a ha => nomatch ha⟩⟩, hk, hos, hgs⟩

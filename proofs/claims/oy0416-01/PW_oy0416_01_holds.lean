import PyProof.Rows.All
import Wide.All
import OpenK.AllK
import Wide.FinOn
import PySem.Challenge.RW_oy0416_01
set_option Elab.async false
local macro_rules | `(tactic| walk_at $s:str) => `(tactic| k_extra $s)
local macro_rules | `(tactic| k_upd) => `(tactic| k_extra "own k_upd")
local macro_rules | `(tactic| k_room) => `(tactic| k_extra "own k_room")
local macro_rules | `(tactic| k_enter) => `(tactic| k_extra "own k_enter")
theorem Mine.in2 {α0 : Sort u0} {α1 : Sort u1} {p : α0 → α1 → Prop} (x0 : α0) (x1 : α1) (h : p x0 x1) : ∃ x0 : α0, ∃ x1 : α1, p x0 x1 := ⟨x0, x1, h⟩
theorem Mine.in3 {α0 : Sort u0} {α1 : Sort u1} {α2 : Sort u2} {p : α0 → α1 → α2 → Prop} (x0 : α0) (x1 : α1) (x2 : α2) (h : p x0 x1 x2) : ∃ x0 : α0, ∃ x1 : α1, ∃ x2 : α2, p x0 x1 x2 := ⟨x0, x1, x2, h⟩
theorem Mine.in4 {α0 : Sort u0} {α1 : Sort u1} {α2 : Sort u2} {α3 : Sort u3} {p : α0 → α1 → α2 → α3 → Prop} (x0 : α0) (x1 : α1) (x2 : α2) (x3 : α3) (h : p x0 x1 x2 x3) : ∃ x0 : α0, ∃ x1 : α1, ∃ x2 : α2, ∃ x3 : α3, p x0 x1 x2 x3 := ⟨x0, x1, x2, x3, h⟩
theorem Mine.in5 {α0 : Sort u0} {α1 : Sort u1} {α2 : Sort u2} {α3 : Sort u3} {α4 : Sort u4} {p : α0 → α1 → α2 → α3 → α4 → Prop} (x0 : α0) (x1 : α1) (x2 : α2) (x3 : α3) (x4 : α4) (h : p x0 x1 x2 x3 x4) : ∃ x0 : α0, ∃ x1 : α1, ∃ x2 : α2, ∃ x3 : α3, ∃ x4 : α4, p x0 x1 x2 x3 x4 := ⟨x0, x1, x2, x3, x4, h⟩
theorem Mine.in6 {α0 : Sort u0} {α1 : Sort u1} {α2 : Sort u2} {α3 : Sort u3} {α4 : Sort u4} {α5 : Sort u5} {p : α0 → α1 → α2 → α3 → α4 → α5 → Prop} (x0 : α0) (x1 : α1) (x2 : α2) (x3 : α3) (x4 : α4) (x5 : α5) (h : p x0 x1 x2 x3 x4 x5) : ∃ x0 : α0, ∃ x1 : α1, ∃ x2 : α2, ∃ x3 : α3, ∃ x4 : α4, ∃ x5 : α5, p x0 x1 x2 x3 x4 x5 := ⟨x0, x1, x2, x3, x4, x5, h⟩
theorem Mine.in7 {α0 : Sort u0} {α1 : Sort u1} {α2 : Sort u2} {α3 : Sort u3} {α4 : Sort u4} {α5 : Sort u5} {α6 : Sort u6} {p : α0 → α1 → α2 → α3 → α4 → α5 → α6 → Prop} (x0 : α0) (x1 : α1) (x2 : α2) (x3 : α3) (x4 : α4) (x5 : α5) (x6 : α6) (h : p x0 x1 x2 x3 x4 x5 x6) : ∃ x0 : α0, ∃ x1 : α1, ∃ x2 : α2, ∃ x3 : α3, ∃ x4 : α4, ∃ x5 : α5, ∃ x6 : α6, p x0 x1 x2 x3 x4 x5 x6 := ⟨x0, x1, x2, x3, x4, x5, x6, h⟩
theorem Mine.in8 {α0 : Sort u0} {α1 : Sort u1} {α2 : Sort u2} {α3 : Sort u3} {α4 : Sort u4} {α5 : Sort u5} {α6 : Sort u6} {α7 : Sort u7} {p : α0 → α1 → α2 → α3 → α4 → α5 → α6 → α7 → Prop} (x0 : α0) (x1 : α1) (x2 : α2) (x3 : α3) (x4 : α4) (x5 : α5) (x6 : α6) (x7 : α7) (h : p x0 x1 x2 x3 x4 x5 x6 x7) : ∃ x0 : α0, ∃ x1 : α1, ∃ x2 : α2, ∃ x3 : α3, ∃ x4 : α4, ∃ x5 : α5, ∃ x6 : α6, ∃ x7 : α7, p x0 x1 x2 x3 x4 x5 x6 x7 := ⟨x0, x1, x2, x3, x4, x5, x6, x7, h⟩
theorem Mine.in9 {α0 : Sort u0} {α1 : Sort u1} {α2 : Sort u2} {α3 : Sort u3} {α4 : Sort u4} {α5 : Sort u5} {α6 : Sort u6} {α7 : Sort u7} {α8 : Sort u8} {p : α0 → α1 → α2 → α3 → α4 → α5 → α6 → α7 → α8 → Prop} (x0 : α0) (x1 : α1) (x2 : α2) (x3 : α3) (x4 : α4) (x5 : α5) (x6 : α6) (x7 : α7) (x8 : α8) (h : p x0 x1 x2 x3 x4 x5 x6 x7 x8) : ∃ x0 : α0, ∃ x1 : α1, ∃ x2 : α2, ∃ x3 : α3, ∃ x4 : α4, ∃ x5 : α5, ∃ x6 : α6, ∃ x7 : α7, ∃ x8 : α8, p x0 x1 x2 x3 x4 x5 x6 x7 x8 := ⟨x0, x1, x2, x3, x4, x5, x6, x7, x8, h⟩
theorem Mine.in11 {α0 : Sort u0} {α1 : Sort u1} {α2 : Sort u2} {α3 : Sort u3} {α4 : Sort u4} {α5 : Sort u5} {α6 : Sort u6} {α7 : Sort u7} {α8 : Sort u8} {α9 : Sort u9} {α10 : Sort u10} {p : α0 → α1 → α2 → α3 → α4 → α5 → α6 → α7 → α8 → α9 → α10 → Prop} (x0 : α0) (x1 : α1) (x2 : α2) (x3 : α3) (x4 : α4) (x5 : α5) (x6 : α6) (x7 : α7) (x8 : α8) (x9 : α9) (x10 : α10) (h : p x0 x1 x2 x3 x4 x5 x6 x7 x8 x9 x10) : ∃ x0 : α0, ∃ x1 : α1, ∃ x2 : α2, ∃ x3 : α3, ∃ x4 : α4, ∃ x5 : α5, ∃ x6 : α6, ∃ x7 : α7, ∃ x8 : α8, ∃ x9 : α9, ∃ x10 : α10, p x0 x1 x2 x3 x4 x5 x6 x7 x8 x9 x10 := ⟨x0, x1, x2, x3, x4, x5, x6, x7, x8, x9, x10, h⟩
theorem Mine.ex1 {α0 : Sort u0} {p : α0 → Prop} {G : Prop} (h : ∃ x0 : α0, p x0) (g : ∀ x0, p x0 → G) : G := h.elim g
theorem Mine.ex2 {α0 : Sort u0} {α1 : Sort u1} {p : α0 → α1 → Prop} {G : Prop} (h : ∃ x0 : α0, ∃ x1 : α1, p x0 x1) (g : ∀ x0 x1, p x0 x1 → G) : G := h.elim fun x0 h => Mine.ex1 h (g x0)
theorem Mine.ex3 {α0 : Sort u0} {α1 : Sort u1} {α2 : Sort u2} {p : α0 → α1 → α2 → Prop} {G : Prop} (h : ∃ x0 : α0, ∃ x1 : α1, ∃ x2 : α2, p x0 x1 x2) (g : ∀ x0 x1 x2, p x0 x1 x2 → G) : G := h.elim fun x0 h => Mine.ex2 h (g x0)
theorem Mine.ex4 {α0 : Sort u0} {α1 : Sort u1} {α2 : Sort u2} {α3 : Sort u3} {p : α0 → α1 → α2 → α3 → Prop} {G : Prop} (h : ∃ x0 : α0, ∃ x1 : α1, ∃ x2 : α2, ∃ x3 : α3, p x0 x1 x2 x3) (g : ∀ x0 x1 x2 x3, p x0 x1 x2 x3 → G) : G := h.elim fun x0 h => Mine.ex3 h (g x0)
theorem Mine.ex5 {α0 : Sort u0} {α1 : Sort u1} {α2 : Sort u2} {α3 : Sort u3} {α4 : Sort u4} {p : α0 → α1 → α2 → α3 → α4 → Prop} {G : Prop} (h : ∃ x0 : α0, ∃ x1 : α1, ∃ x2 : α2, ∃ x3 : α3, ∃ x4 : α4, p x0 x1 x2 x3 x4) (g : ∀ x0 x1 x2 x3 x4, p x0 x1 x2 x3 x4 → G) : G := h.elim fun x0 h => Mine.ex4 h (g x0)
theorem Mine.ex6 {α0 : Sort u0} {α1 : Sort u1} {α2 : Sort u2} {α3 : Sort u3} {α4 : Sort u4} {α5 : Sort u5} {p : α0 → α1 → α2 → α3 → α4 → α5 → Prop} {G : Prop} (h : ∃ x0 : α0, ∃ x1 : α1, ∃ x2 : α2, ∃ x3 : α3, ∃ x4 : α4, ∃ x5 : α5, p x0 x1 x2 x3 x4 x5) (g : ∀ x0 x1 x2 x3 x4 x5, p x0 x1 x2 x3 x4 x5 → G) : G := h.elim fun x0 h => Mine.ex5 h (g x0)
theorem Mine.ex7 {α0 : Sort u0} {α1 : Sort u1} {α2 : Sort u2} {α3 : Sort u3} {α4 : Sort u4} {α5 : Sort u5} {α6 : Sort u6} {p : α0 → α1 → α2 → α3 → α4 → α5 → α6 → Prop} {G : Prop} (h : ∃ x0 : α0, ∃ x1 : α1, ∃ x2 : α2, ∃ x3 : α3, ∃ x4 : α4, ∃ x5 : α5, ∃ x6 : α6, p x0 x1 x2 x3 x4 x5 x6) (g : ∀ x0 x1 x2 x3 x4 x5 x6, p x0 x1 x2 x3 x4 x5 x6 → G) : G := h.elim fun x0 h => Mine.ex6 h (g x0)
theorem Mine.ex8 {α0 : Sort u0} {α1 : Sort u1} {α2 : Sort u2} {α3 : Sort u3} {α4 : Sort u4} {α5 : Sort u5} {α6 : Sort u6} {α7 : Sort u7} {p : α0 → α1 → α2 → α3 → α4 → α5 → α6 → α7 → Prop} {G : Prop} (h : ∃ x0 : α0, ∃ x1 : α1, ∃ x2 : α2, ∃ x3 : α3, ∃ x4 : α4, ∃ x5 : α5, ∃ x6 : α6, ∃ x7 : α7, p x0 x1 x2 x3 x4 x5 x6 x7) (g : ∀ x0 x1 x2 x3 x4 x5 x6 x7, p x0 x1 x2 x3 x4 x5 x6 x7 → G) : G := h.elim fun x0 h => Mine.ex7 h (g x0)
theorem Mine.ex9 {α0 : Sort u0} {α1 : Sort u1} {α2 : Sort u2} {α3 : Sort u3} {α4 : Sort u4} {α5 : Sort u5} {α6 : Sort u6} {α7 : Sort u7} {α8 : Sort u8} {p : α0 → α1 → α2 → α3 → α4 → α5 → α6 → α7 → α8 → Prop} {G : Prop} (h : ∃ x0 : α0, ∃ x1 : α1, ∃ x2 : α2, ∃ x3 : α3, ∃ x4 : α4, ∃ x5 : α5, ∃ x6 : α6, ∃ x7 : α7, ∃ x8 : α8, p x0 x1 x2 x3 x4 x5 x6 x7 x8) (g : ∀ x0 x1 x2 x3 x4 x5 x6 x7 x8, p x0 x1 x2 x3 x4 x5 x6 x7 x8 → G) : G := h.elim fun x0 h => Mine.ex8 h (g x0)
theorem Mine.ex10 {α0 : Sort u0} {α1 : Sort u1} {α2 : Sort u2} {α3 : Sort u3} {α4 : Sort u4} {α5 : Sort u5} {α6 : Sort u6} {α7 : Sort u7} {α8 : Sort u8} {α9 : Sort u9} {p : α0 → α1 → α2 → α3 → α4 → α5 → α6 → α7 → α8 → α9 → Prop} {G : Prop} (h : ∃ x0 : α0, ∃ x1 : α1, ∃ x2 : α2, ∃ x3 : α3, ∃ x4 : α4, ∃ x5 : α5, ∃ x6 : α6, ∃ x7 : α7, ∃ x8 : α8, ∃ x9 : α9, p x0 x1 x2 x3 x4 x5 x6 x7 x8 x9) (g : ∀ x0 x1 x2 x3 x4 x5 x6 x7 x8 x9, p x0 x1 x2 x3 x4 x5 x6 x7 x8 x9 → G) : G := h.elim fun x0 h => Mine.ex9 h (g x0)
theorem Mine.ex11 {α0 : Sort u0} {α1 : Sort u1} {α2 : Sort u2} {α3 : Sort u3} {α4 : Sort u4} {α5 : Sort u5} {α6 : Sort u6} {α7 : Sort u7} {α8 : Sort u8} {α9 : Sort u9} {α10 : Sort u10} {p : α0 → α1 → α2 → α3 → α4 → α5 → α6 → α7 → α8 → α9 → α10 → Prop} {G : Prop} (h : ∃ x0 : α0, ∃ x1 : α1, ∃ x2 : α2, ∃ x3 : α3, ∃ x4 : α4, ∃ x5 : α5, ∃ x6 : α6, ∃ x7 : α7, ∃ x8 : α8, ∃ x9 : α9, ∃ x10 : α10, p x0 x1 x2 x3 x4 x5 x6 x7 x8 x9 x10) (g : ∀ x0 x1 x2 x3 x4 x5 x6 x7 x8 x9 x10, p x0 x1 x2 x3 x4 x5 x6 x7 x8 x9 x10 → G) : G := h.elim fun x0 h => Mine.ex10 h (g x0)
theorem Mine.ex12 {α0 : Sort u0} {α1 : Sort u1} {α2 : Sort u2} {α3 : Sort u3} {α4 : Sort u4} {α5 : Sort u5} {α6 : Sort u6} {α7 : Sort u7} {α8 : Sort u8} {α9 : Sort u9} {α10 : Sort u10} {α11 : Sort u11} {p : α0 → α1 → α2 → α3 → α4 → α5 → α6 → α7 → α8 → α9 → α10 → α11 → Prop} {G : Prop} (h : ∃ x0 : α0, ∃ x1 : α1, ∃ x2 : α2, ∃ x3 : α3, ∃ x4 : α4, ∃ x5 : α5, ∃ x6 : α6, ∃ x7 : α7, ∃ x8 : α8, ∃ x9 : α9, ∃ x10 : α10, ∃ x11 : α11, p x0 x1 x2 x3 x4 x5 x6 x7 x8 x9 x10 x11) (g : ∀ x0 x1 x2 x3 x4 x5 x6 x7 x8 x9 x10 x11, p x0 x1 x2 x3 x4 x5 x6 x7 x8 x9 x10 x11 → G) : G := h.elim fun x0 h => Mine.ex11 h (g x0)
theorem Mine.ex13 {α0 : Sort u0} {α1 : Sort u1} {α2 : Sort u2} {α3 : Sort u3} {α4 : Sort u4} {α5 : Sort u5} {α6 : Sort u6} {α7 : Sort u7} {α8 : Sort u8} {α9 : Sort u9} {α10 : Sort u10} {α11 : Sort u11} {α12 : Sort u12} {p : α0 → α1 → α2 → α3 → α4 → α5 → α6 → α7 → α8 → α9 → α10 → α11 → α12 → Prop} {G : Prop} (h : ∃ x0 : α0, ∃ x1 : α1, ∃ x2 : α2, ∃ x3 : α3, ∃ x4 : α4, ∃ x5 : α5, ∃ x6 : α6, ∃ x7 : α7, ∃ x8 : α8, ∃ x9 : α9, ∃ x10 : α10, ∃ x11 : α11, ∃ x12 : α12, p x0 x1 x2 x3 x4 x5 x6 x7 x8 x9 x10 x11 x12) (g : ∀ x0 x1 x2 x3 x4 x5 x6 x7 x8 x9 x10 x11 x12, p x0 x1 x2 x3 x4 x5 x6 x7 x8 x9 x10 x11 x12 → G) : G := h.elim fun x0 h => Mine.ex12 h (g x0)
theorem Mine.an1 {p0 G : Prop} (h : p0) (g : p0 → G) : G := g h
theorem Mine.an2 {p0 p1 G : Prop} (h : p0 ∧ p1) (g : p0 → p1 → G) : G := Mine.an1 h.2 (g h.1)
theorem Mine.an3 {p0 p1 p2 G : Prop} (h : p0 ∧ p1 ∧ p2) (g : p0 → p1 → p2 → G) : G := Mine.an2 h.2 (g h.1)
theorem Mine.an4 {p0 p1 p2 p3 G : Prop} (h : p0 ∧ p1 ∧ p2 ∧ p3) (g : p0 → p1 → p2 → p3 → G) : G := Mine.an3 h.2 (g h.1)
theorem Mine.an5 {p0 p1 p2 p3 p4 G : Prop} (h : p0 ∧ p1 ∧ p2 ∧ p3 ∧ p4) (g : p0 → p1 → p2 → p3 → p4 → G) : G := Mine.an4 h.2 (g h.1)
theorem Mine.an6 {p0 p1 p2 p3 p4 p5 G : Prop} (h : p0 ∧ p1 ∧ p2 ∧ p3 ∧ p4 ∧ p5) (g : p0 → p1 → p2 → p3 → p4 → p5 → G) : G := Mine.an5 h.2 (g h.1)
theorem Mine.an7 {p0 p1 p2 p3 p4 p5 p6 G : Prop} (h : p0 ∧ p1 ∧ p2 ∧ p3 ∧ p4 ∧ p5 ∧ p6) (g : p0 → p1 → p2 → p3 → p4 → p5 → p6 → G) : G := Mine.an6 h.2 (g h.1)
theorem Mine.an8 {p0 p1 p2 p3 p4 p5 p6 p7 G : Prop} (h : p0 ∧ p1 ∧ p2 ∧ p3 ∧ p4 ∧ p5 ∧ p6 ∧ p7) (g : p0 → p1 → p2 → p3 → p4 → p5 → p6 → p7 → G) : G := Mine.an7 h.2 (g h.1)
theorem Mine.an9 {p0 p1 p2 p3 p4 p5 p6 p7 p8 G : Prop} (h : p0 ∧ p1 ∧ p2 ∧ p3 ∧ p4 ∧ p5 ∧ p6 ∧ p7 ∧ p8) (g : p0 → p1 → p2 → p3 → p4 → p5 → p6 → p7 → p8 → G) : G := Mine.an8 h.2 (g h.1)
theorem Mine.an10 {p0 p1 p2 p3 p4 p5 p6 p7 p8 p9 G : Prop} (h : p0 ∧ p1 ∧ p2 ∧ p3 ∧ p4 ∧ p5 ∧ p6 ∧ p7 ∧ p8 ∧ p9) (g : p0 → p1 → p2 → p3 → p4 → p5 → p6 → p7 → p8 → p9 → G) : G := Mine.an9 h.2 (g h.1)
theorem Mine.an11 {p0 p1 p2 p3 p4 p5 p6 p7 p8 p9 p10 G : Prop} (h : p0 ∧ p1 ∧ p2 ∧ p3 ∧ p4 ∧ p5 ∧ p6 ∧ p7 ∧ p8 ∧ p9 ∧ p10) (g : p0 → p1 → p2 → p3 → p4 → p5 → p6 → p7 → p8 → p9 → p10 → G) : G := Mine.an10 h.2 (g h.1)
theorem Mine.an12 {p0 p1 p2 p3 p4 p5 p6 p7 p8 p9 p10 p11 G : Prop} (h : p0 ∧ p1 ∧ p2 ∧ p3 ∧ p4 ∧ p5 ∧ p6 ∧ p7 ∧ p8 ∧ p9 ∧ p10 ∧ p11) (g : p0 → p1 → p2 → p3 → p4 → p5 → p6 → p7 → p8 → p9 → p10 → p11 → G) : G := Mine.an11 h.2 (g h.1)
theorem Mine.xa0_2  {p0 p1 : Prop} {G : Prop} (h : p0 ∧ p1) (g : p0 → p1 → G) : G := Mine.an2 h g
theorem Mine.xa0_3  {p0 p1 p2 : Prop} {G : Prop} (h : p0 ∧ p1 ∧ p2) (g : p0 → p1 → p2 → G) : G := Mine.an3 h g
theorem Mine.xa0_4  {p0 p1 p2 p3 : Prop} {G : Prop} (h : p0 ∧ p1 ∧ p2 ∧ p3) (g : p0 → p1 → p2 → p3 → G) : G := Mine.an4 h g
theorem Mine.xa0_5  {p0 p1 p2 p3 p4 : Prop} {G : Prop} (h : p0 ∧ p1 ∧ p2 ∧ p3 ∧ p4) (g : p0 → p1 → p2 → p3 → p4 → G) : G := Mine.an5 h g
theorem Mine.xa0_6  {p0 p1 p2 p3 p4 p5 : Prop} {G : Prop} (h : p0 ∧ p1 ∧ p2 ∧ p3 ∧ p4 ∧ p5) (g : p0 → p1 → p2 → p3 → p4 → p5 → G) : G := Mine.an6 h g
theorem Mine.xa0_7  {p0 p1 p2 p3 p4 p5 p6 : Prop} {G : Prop} (h : p0 ∧ p1 ∧ p2 ∧ p3 ∧ p4 ∧ p5 ∧ p6) (g : p0 → p1 → p2 → p3 → p4 → p5 → p6 → G) : G := Mine.an7 h g
theorem Mine.xa1_1 {α0 : Sort u0} {p0 : α0 → Prop} {G : Prop} (h : ∃ x0 : α0, p0 x0) (g : ∀ x0, p0 x0 → G) : G := Mine.ex1 h fun x0 h => Mine.an1 h (g x0)
theorem Mine.xa1_2 {α0 : Sort u0} {p0 p1 : α0 → Prop} {G : Prop} (h : ∃ x0 : α0, p0 x0 ∧ p1 x0) (g : ∀ x0, p0 x0 → p1 x0 → G) : G := Mine.ex1 h fun x0 h => Mine.an2 h (g x0)
theorem Mine.xa1_3 {α0 : Sort u0} {p0 p1 p2 : α0 → Prop} {G : Prop} (h : ∃ x0 : α0, p0 x0 ∧ p1 x0 ∧ p2 x0) (g : ∀ x0, p0 x0 → p1 x0 → p2 x0 → G) : G := Mine.ex1 h fun x0 h => Mine.an3 h (g x0)
theorem Mine.xa1_4 {α0 : Sort u0} {p0 p1 p2 p3 : α0 → Prop} {G : Prop} (h : ∃ x0 : α0, p0 x0 ∧ p1 x0 ∧ p2 x0 ∧ p3 x0) (g : ∀ x0, p0 x0 → p1 x0 → p2 x0 → p3 x0 → G) : G := Mine.ex1 h fun x0 h => Mine.an4 h (g x0)
theorem Mine.xa1_5 {α0 : Sort u0} {p0 p1 p2 p3 p4 : α0 → Prop} {G : Prop} (h : ∃ x0 : α0, p0 x0 ∧ p1 x0 ∧ p2 x0 ∧ p3 x0 ∧ p4 x0) (g : ∀ x0, p0 x0 → p1 x0 → p2 x0 → p3 x0 → p4 x0 → G) : G := Mine.ex1 h fun x0 h => Mine.an5 h (g x0)
theorem Mine.xa1_6 {α0 : Sort u0} {p0 p1 p2 p3 p4 p5 : α0 → Prop} {G : Prop} (h : ∃ x0 : α0, p0 x0 ∧ p1 x0 ∧ p2 x0 ∧ p3 x0 ∧ p4 x0 ∧ p5 x0) (g : ∀ x0, p0 x0 → p1 x0 → p2 x0 → p3 x0 → p4 x0 → p5 x0 → G) : G := Mine.ex1 h fun x0 h => Mine.an6 h (g x0)
theorem Mine.xa2_1 {α0 : Sort u0} {α1 : Sort u1} {p0 : α0 → α1 → Prop} {G : Prop} (h : ∃ x0 : α0, ∃ x1 : α1, p0 x0 x1) (g : ∀ x0 x1, p0 x0 x1 → G) : G := Mine.ex2 h fun x0 x1 h => Mine.an1 h (g x0 x1)
theorem Mine.xa2_2 {α0 : Sort u0} {α1 : Sort u1} {p0 p1 : α0 → α1 → Prop} {G : Prop} (h : ∃ x0 : α0, ∃ x1 : α1, p0 x0 x1 ∧ p1 x0 x1) (g : ∀ x0 x1, p0 x0 x1 → p1 x0 x1 → G) : G := Mine.ex2 h fun x0 x1 h => Mine.an2 h (g x0 x1)
theorem Mine.xa2_3 {α0 : Sort u0} {α1 : Sort u1} {p0 p1 p2 : α0 → α1 → Prop} {G : Prop} (h : ∃ x0 : α0, ∃ x1 : α1, p0 x0 x1 ∧ p1 x0 x1 ∧ p2 x0 x1) (g : ∀ x0 x1, p0 x0 x1 → p1 x0 x1 → p2 x0 x1 → G) : G := Mine.ex2 h fun x0 x1 h => Mine.an3 h (g x0 x1)
theorem Mine.xa2_4 {α0 : Sort u0} {α1 : Sort u1} {p0 p1 p2 p3 : α0 → α1 → Prop} {G : Prop} (h : ∃ x0 : α0, ∃ x1 : α1, p0 x0 x1 ∧ p1 x0 x1 ∧ p2 x0 x1 ∧ p3 x0 x1) (g : ∀ x0 x1, p0 x0 x1 → p1 x0 x1 → p2 x0 x1 → p3 x0 x1 → G) : G := Mine.ex2 h fun x0 x1 h => Mine.an4 h (g x0 x1)
theorem Mine.xa2_5 {α0 : Sort u0} {α1 : Sort u1} {p0 p1 p2 p3 p4 : α0 → α1 → Prop} {G : Prop} (h : ∃ x0 : α0, ∃ x1 : α1, p0 x0 x1 ∧ p1 x0 x1 ∧ p2 x0 x1 ∧ p3 x0 x1 ∧ p4 x0 x1) (g : ∀ x0 x1, p0 x0 x1 → p1 x0 x1 → p2 x0 x1 → p3 x0 x1 → p4 x0 x1 → G) : G := Mine.ex2 h fun x0 x1 h => Mine.an5 h (g x0 x1)
theorem Mine.xa2_10 {α0 : Sort u0} {α1 : Sort u1} {p0 p1 p2 p3 p4 p5 p6 p7 p8 p9 : α0 → α1 → Prop} {G : Prop} (h : ∃ x0 : α0, ∃ x1 : α1, p0 x0 x1 ∧ p1 x0 x1 ∧ p2 x0 x1 ∧ p3 x0 x1 ∧ p4 x0 x1 ∧ p5 x0 x1 ∧ p6 x0 x1 ∧ p7 x0 x1 ∧ p8 x0 x1 ∧ p9 x0 x1) (g : ∀ x0 x1, p0 x0 x1 → p1 x0 x1 → p2 x0 x1 → p3 x0 x1 → p4 x0 x1 → p5 x0 x1 → p6 x0 x1 → p7 x0 x1 → p8 x0 x1 → p9 x0 x1 → G) : G := Mine.ex2 h fun x0 x1 h => Mine.an10 h (g x0 x1)
theorem Mine.xa3_1 {α0 : Sort u0} {α1 : Sort u1} {α2 : Sort u2} {p0 : α0 → α1 → α2 → Prop} {G : Prop} (h : ∃ x0 : α0, ∃ x1 : α1, ∃ x2 : α2, p0 x0 x1 x2) (g : ∀ x0 x1 x2, p0 x0 x1 x2 → G) : G := Mine.ex3 h fun x0 x1 x2 h => Mine.an1 h (g x0 x1 x2)
theorem Mine.xa3_2 {α0 : Sort u0} {α1 : Sort u1} {α2 : Sort u2} {p0 p1 : α0 → α1 → α2 → Prop} {G : Prop} (h : ∃ x0 : α0, ∃ x1 : α1, ∃ x2 : α2, p0 x0 x1 x2 ∧ p1 x0 x1 x2) (g : ∀ x0 x1 x2, p0 x0 x1 x2 → p1 x0 x1 x2 → G) : G := Mine.ex3 h fun x0 x1 x2 h => Mine.an2 h (g x0 x1 x2)
theorem Mine.xa3_3 {α0 : Sort u0} {α1 : Sort u1} {α2 : Sort u2} {p0 p1 p2 : α0 → α1 → α2 → Prop} {G : Prop} (h : ∃ x0 : α0, ∃ x1 : α1, ∃ x2 : α2, p0 x0 x1 x2 ∧ p1 x0 x1 x2 ∧ p2 x0 x1 x2) (g : ∀ x0 x1 x2, p0 x0 x1 x2 → p1 x0 x1 x2 → p2 x0 x1 x2 → G) : G := Mine.ex3 h fun x0 x1 x2 h => Mine.an3 h (g x0 x1 x2)
theorem Mine.xa3_4 {α0 : Sort u0} {α1 : Sort u1} {α2 : Sort u2} {p0 p1 p2 p3 : α0 → α1 → α2 → Prop} {G : Prop} (h : ∃ x0 : α0, ∃ x1 : α1, ∃ x2 : α2, p0 x0 x1 x2 ∧ p1 x0 x1 x2 ∧ p2 x0 x1 x2 ∧ p3 x0 x1 x2) (g : ∀ x0 x1 x2, p0 x0 x1 x2 → p1 x0 x1 x2 → p2 x0 x1 x2 → p3 x0 x1 x2 → G) : G := Mine.ex3 h fun x0 x1 x2 h => Mine.an4 h (g x0 x1 x2)
theorem Mine.xa3_11 {α0 : Sort u0} {α1 : Sort u1} {α2 : Sort u2} {p0 p1 p2 p3 p4 p5 p6 p7 p8 p9 p10 : α0 → α1 → α2 → Prop} {G : Prop} (h : ∃ x0 : α0, ∃ x1 : α1, ∃ x2 : α2, p0 x0 x1 x2 ∧ p1 x0 x1 x2 ∧ p2 x0 x1 x2 ∧ p3 x0 x1 x2 ∧ p4 x0 x1 x2 ∧ p5 x0 x1 x2 ∧ p6 x0 x1 x2 ∧ p7 x0 x1 x2 ∧ p8 x0 x1 x2 ∧ p9 x0 x1 x2 ∧ p10 x0 x1 x2) (g : ∀ x0 x1 x2, p0 x0 x1 x2 → p1 x0 x1 x2 → p2 x0 x1 x2 → p3 x0 x1 x2 → p4 x0 x1 x2 → p5 x0 x1 x2 → p6 x0 x1 x2 → p7 x0 x1 x2 → p8 x0 x1 x2 → p9 x0 x1 x2 → p10 x0 x1 x2 → G) : G := Mine.ex3 h fun x0 x1 x2 h => Mine.an11 h (g x0 x1 x2)
theorem Mine.xa4_1 {α0 : Sort u0} {α1 : Sort u1} {α2 : Sort u2} {α3 : Sort u3} {p0 : α0 → α1 → α2 → α3 → Prop} {G : Prop} (h : ∃ x0 : α0, ∃ x1 : α1, ∃ x2 : α2, ∃ x3 : α3, p0 x0 x1 x2 x3) (g : ∀ x0 x1 x2 x3, p0 x0 x1 x2 x3 → G) : G := Mine.ex4 h fun x0 x1 x2 x3 h => Mine.an1 h (g x0 x1 x2 x3)
theorem Mine.xa4_2 {α0 : Sort u0} {α1 : Sort u1} {α2 : Sort u2} {α3 : Sort u3} {p0 p1 : α0 → α1 → α2 → α3 → Prop} {G : Prop} (h : ∃ x0 : α0, ∃ x1 : α1, ∃ x2 : α2, ∃ x3 : α3, p0 x0 x1 x2 x3 ∧ p1 x0 x1 x2 x3) (g : ∀ x0 x1 x2 x3, p0 x0 x1 x2 x3 → p1 x0 x1 x2 x3 → G) : G := Mine.ex4 h fun x0 x1 x2 x3 h => Mine.an2 h (g x0 x1 x2 x3)
theorem Mine.xa4_3 {α0 : Sort u0} {α1 : Sort u1} {α2 : Sort u2} {α3 : Sort u3} {p0 p1 p2 : α0 → α1 → α2 → α3 → Prop} {G : Prop} (h : ∃ x0 : α0, ∃ x1 : α1, ∃ x2 : α2, ∃ x3 : α3, p0 x0 x1 x2 x3 ∧ p1 x0 x1 x2 x3 ∧ p2 x0 x1 x2 x3) (g : ∀ x0 x1 x2 x3, p0 x0 x1 x2 x3 → p1 x0 x1 x2 x3 → p2 x0 x1 x2 x3 → G) : G := Mine.ex4 h fun x0 x1 x2 x3 h => Mine.an3 h (g x0 x1 x2 x3)
theorem Mine.xa4_4 {α0 : Sort u0} {α1 : Sort u1} {α2 : Sort u2} {α3 : Sort u3} {p0 p1 p2 p3 : α0 → α1 → α2 → α3 → Prop} {G : Prop} (h : ∃ x0 : α0, ∃ x1 : α1, ∃ x2 : α2, ∃ x3 : α3, p0 x0 x1 x2 x3 ∧ p1 x0 x1 x2 x3 ∧ p2 x0 x1 x2 x3 ∧ p3 x0 x1 x2 x3) (g : ∀ x0 x1 x2 x3, p0 x0 x1 x2 x3 → p1 x0 x1 x2 x3 → p2 x0 x1 x2 x3 → p3 x0 x1 x2 x3 → G) : G := Mine.ex4 h fun x0 x1 x2 x3 h => Mine.an4 h (g x0 x1 x2 x3)
theorem Mine.xa4_5 {α0 : Sort u0} {α1 : Sort u1} {α2 : Sort u2} {α3 : Sort u3} {p0 p1 p2 p3 p4 : α0 → α1 → α2 → α3 → Prop} {G : Prop} (h : ∃ x0 : α0, ∃ x1 : α1, ∃ x2 : α2, ∃ x3 : α3, p0 x0 x1 x2 x3 ∧ p1 x0 x1 x2 x3 ∧ p2 x0 x1 x2 x3 ∧ p3 x0 x1 x2 x3 ∧ p4 x0 x1 x2 x3) (g : ∀ x0 x1 x2 x3, p0 x0 x1 x2 x3 → p1 x0 x1 x2 x3 → p2 x0 x1 x2 x3 → p3 x0 x1 x2 x3 → p4 x0 x1 x2 x3 → G) : G := Mine.ex4 h fun x0 x1 x2 x3 h => Mine.an5 h (g x0 x1 x2 x3)
theorem Mine.xa4_9 {α0 : Sort u0} {α1 : Sort u1} {α2 : Sort u2} {α3 : Sort u3} {p0 p1 p2 p3 p4 p5 p6 p7 p8 : α0 → α1 → α2 → α3 → Prop} {G : Prop} (h : ∃ x0 : α0, ∃ x1 : α1, ∃ x2 : α2, ∃ x3 : α3, p0 x0 x1 x2 x3 ∧ p1 x0 x1 x2 x3 ∧ p2 x0 x1 x2 x3 ∧ p3 x0 x1 x2 x3 ∧ p4 x0 x1 x2 x3 ∧ p5 x0 x1 x2 x3 ∧ p6 x0 x1 x2 x3 ∧ p7 x0 x1 x2 x3 ∧ p8 x0 x1 x2 x3) (g : ∀ x0 x1 x2 x3, p0 x0 x1 x2 x3 → p1 x0 x1 x2 x3 → p2 x0 x1 x2 x3 → p3 x0 x1 x2 x3 → p4 x0 x1 x2 x3 → p5 x0 x1 x2 x3 → p6 x0 x1 x2 x3 → p7 x0 x1 x2 x3 → p8 x0 x1 x2 x3 → G) : G := Mine.ex4 h fun x0 x1 x2 x3 h => Mine.an9 h (g x0 x1 x2 x3)
theorem Mine.xa5_1 {α0 : Sort u0} {α1 : Sort u1} {α2 : Sort u2} {α3 : Sort u3} {α4 : Sort u4} {p0 : α0 → α1 → α2 → α3 → α4 → Prop} {G : Prop} (h : ∃ x0 : α0, ∃ x1 : α1, ∃ x2 : α2, ∃ x3 : α3, ∃ x4 : α4, p0 x0 x1 x2 x3 x4) (g : ∀ x0 x1 x2 x3 x4, p0 x0 x1 x2 x3 x4 → G) : G := Mine.ex5 h fun x0 x1 x2 x3 x4 h => Mine.an1 h (g x0 x1 x2 x3 x4)
theorem Mine.xa5_2 {α0 : Sort u0} {α1 : Sort u1} {α2 : Sort u2} {α3 : Sort u3} {α4 : Sort u4} {p0 p1 : α0 → α1 → α2 → α3 → α4 → Prop} {G : Prop} (h : ∃ x0 : α0, ∃ x1 : α1, ∃ x2 : α2, ∃ x3 : α3, ∃ x4 : α4, p0 x0 x1 x2 x3 x4 ∧ p1 x0 x1 x2 x3 x4) (g : ∀ x0 x1 x2 x3 x4, p0 x0 x1 x2 x3 x4 → p1 x0 x1 x2 x3 x4 → G) : G := Mine.ex5 h fun x0 x1 x2 x3 x4 h => Mine.an2 h (g x0 x1 x2 x3 x4)
theorem Mine.xa5_6 {α0 : Sort u0} {α1 : Sort u1} {α2 : Sort u2} {α3 : Sort u3} {α4 : Sort u4} {p0 p1 p2 p3 p4 p5 : α0 → α1 → α2 → α3 → α4 → Prop} {G : Prop} (h : ∃ x0 : α0, ∃ x1 : α1, ∃ x2 : α2, ∃ x3 : α3, ∃ x4 : α4, p0 x0 x1 x2 x3 x4 ∧ p1 x0 x1 x2 x3 x4 ∧ p2 x0 x1 x2 x3 x4 ∧ p3 x0 x1 x2 x3 x4 ∧ p4 x0 x1 x2 x3 x4 ∧ p5 x0 x1 x2 x3 x4) (g : ∀ x0 x1 x2 x3 x4, p0 x0 x1 x2 x3 x4 → p1 x0 x1 x2 x3 x4 → p2 x0 x1 x2 x3 x4 → p3 x0 x1 x2 x3 x4 → p4 x0 x1 x2 x3 x4 → p5 x0 x1 x2 x3 x4 → G) : G := Mine.ex5 h fun x0 x1 x2 x3 x4 h => Mine.an6 h (g x0 x1 x2 x3 x4)
theorem Mine.xa5_8 {α0 : Sort u0} {α1 : Sort u1} {α2 : Sort u2} {α3 : Sort u3} {α4 : Sort u4} {p0 p1 p2 p3 p4 p5 p6 p7 : α0 → α1 → α2 → α3 → α4 → Prop} {G : Prop} (h : ∃ x0 : α0, ∃ x1 : α1, ∃ x2 : α2, ∃ x3 : α3, ∃ x4 : α4, p0 x0 x1 x2 x3 x4 ∧ p1 x0 x1 x2 x3 x4 ∧ p2 x0 x1 x2 x3 x4 ∧ p3 x0 x1 x2 x3 x4 ∧ p4 x0 x1 x2 x3 x4 ∧ p5 x0 x1 x2 x3 x4 ∧ p6 x0 x1 x2 x3 x4 ∧ p7 x0 x1 x2 x3 x4) (g : ∀ x0 x1 x2 x3 x4, p0 x0 x1 x2 x3 x4 → p1 x0 x1 x2 x3 x4 → p2 x0 x1 x2 x3 x4 → p3 x0 x1 x2 x3 x4 → p4 x0 x1 x2 x3 x4 → p5 x0 x1 x2 x3 x4 → p6 x0 x1 x2 x3 x4 → p7 x0 x1 x2 x3 x4 → G) : G := Mine.ex5 h fun x0 x1 x2 x3 x4 h => Mine.an8 h (g x0 x1 x2 x3 x4)
theorem Mine.xa5_10 {α0 : Sort u0} {α1 : Sort u1} {α2 : Sort u2} {α3 : Sort u3} {α4 : Sort u4} {p0 p1 p2 p3 p4 p5 p6 p7 p8 p9 : α0 → α1 → α2 → α3 → α4 → Prop} {G : Prop} (h : ∃ x0 : α0, ∃ x1 : α1, ∃ x2 : α2, ∃ x3 : α3, ∃ x4 : α4, p0 x0 x1 x2 x3 x4 ∧ p1 x0 x1 x2 x3 x4 ∧ p2 x0 x1 x2 x3 x4 ∧ p3 x0 x1 x2 x3 x4 ∧ p4 x0 x1 x2 x3 x4 ∧ p5 x0 x1 x2 x3 x4 ∧ p6 x0 x1 x2 x3 x4 ∧ p7 x0 x1 x2 x3 x4 ∧ p8 x0 x1 x2 x3 x4 ∧ p9 x0 x1 x2 x3 x4) (g : ∀ x0 x1 x2 x3 x4, p0 x0 x1 x2 x3 x4 → p1 x0 x1 x2 x3 x4 → p2 x0 x1 x2 x3 x4 → p3 x0 x1 x2 x3 x4 → p4 x0 x1 x2 x3 x4 → p5 x0 x1 x2 x3 x4 → p6 x0 x1 x2 x3 x4 → p7 x0 x1 x2 x3 x4 → p8 x0 x1 x2 x3 x4 → p9 x0 x1 x2 x3 x4 → G) : G := Mine.ex5 h fun x0 x1 x2 x3 x4 h => Mine.an10 h (g x0 x1 x2 x3 x4)
theorem Mine.xa5_11 {α0 : Sort u0} {α1 : Sort u1} {α2 : Sort u2} {α3 : Sort u3} {α4 : Sort u4} {p0 p1 p2 p3 p4 p5 p6 p7 p8 p9 p10 : α0 → α1 → α2 → α3 → α4 → Prop} {G : Prop} (h : ∃ x0 : α0, ∃ x1 : α1, ∃ x2 : α2, ∃ x3 : α3, ∃ x4 : α4, p0 x0 x1 x2 x3 x4 ∧ p1 x0 x1 x2 x3 x4 ∧ p2 x0 x1 x2 x3 x4 ∧ p3 x0 x1 x2 x3 x4 ∧ p4 x0 x1 x2 x3 x4 ∧ p5 x0 x1 x2 x3 x4 ∧ p6 x0 x1 x2 x3 x4 ∧ p7 x0 x1 x2 x3 x4 ∧ p8 x0 x1 x2 x3 x4 ∧ p9 x0 x1 x2 x3 x4 ∧ p10 x0 x1 x2 x3 x4) (g : ∀ x0 x1 x2 x3 x4, p0 x0 x1 x2 x3 x4 → p1 x0 x1 x2 x3 x4 → p2 x0 x1 x2 x3 x4 → p3 x0 x1 x2 x3 x4 → p4 x0 x1 x2 x3 x4 → p5 x0 x1 x2 x3 x4 → p6 x0 x1 x2 x3 x4 → p7 x0 x1 x2 x3 x4 → p8 x0 x1 x2 x3 x4 → p9 x0 x1 x2 x3 x4 → p10 x0 x1 x2 x3 x4 → G) : G := Mine.ex5 h fun x0 x1 x2 x3 x4 h => Mine.an11 h (g x0 x1 x2 x3 x4)
theorem Mine.xa6_1 {α0 : Sort u0} {α1 : Sort u1} {α2 : Sort u2} {α3 : Sort u3} {α4 : Sort u4} {α5 : Sort u5} {p0 : α0 → α1 → α2 → α3 → α4 → α5 → Prop} {G : Prop} (h : ∃ x0 : α0, ∃ x1 : α1, ∃ x2 : α2, ∃ x3 : α3, ∃ x4 : α4, ∃ x5 : α5, p0 x0 x1 x2 x3 x4 x5) (g : ∀ x0 x1 x2 x3 x4 x5, p0 x0 x1 x2 x3 x4 x5 → G) : G := Mine.ex6 h fun x0 x1 x2 x3 x4 x5 h => Mine.an1 h (g x0 x1 x2 x3 x4 x5)
theorem Mine.xa6_3 {α0 : Sort u0} {α1 : Sort u1} {α2 : Sort u2} {α3 : Sort u3} {α4 : Sort u4} {α5 : Sort u5} {p0 p1 p2 : α0 → α1 → α2 → α3 → α4 → α5 → Prop} {G : Prop} (h : ∃ x0 : α0, ∃ x1 : α1, ∃ x2 : α2, ∃ x3 : α3, ∃ x4 : α4, ∃ x5 : α5, p0 x0 x1 x2 x3 x4 x5 ∧ p1 x0 x1 x2 x3 x4 x5 ∧ p2 x0 x1 x2 x3 x4 x5) (g : ∀ x0 x1 x2 x3 x4 x5, p0 x0 x1 x2 x3 x4 x5 → p1 x0 x1 x2 x3 x4 x5 → p2 x0 x1 x2 x3 x4 x5 → G) : G := Mine.ex6 h fun x0 x1 x2 x3 x4 x5 h => Mine.an3 h (g x0 x1 x2 x3 x4 x5)
theorem Mine.xa6_7 {α0 : Sort u0} {α1 : Sort u1} {α2 : Sort u2} {α3 : Sort u3} {α4 : Sort u4} {α5 : Sort u5} {p0 p1 p2 p3 p4 p5 p6 : α0 → α1 → α2 → α3 → α4 → α5 → Prop} {G : Prop} (h : ∃ x0 : α0, ∃ x1 : α1, ∃ x2 : α2, ∃ x3 : α3, ∃ x4 : α4, ∃ x5 : α5, p0 x0 x1 x2 x3 x4 x5 ∧ p1 x0 x1 x2 x3 x4 x5 ∧ p2 x0 x1 x2 x3 x4 x5 ∧ p3 x0 x1 x2 x3 x4 x5 ∧ p4 x0 x1 x2 x3 x4 x5 ∧ p5 x0 x1 x2 x3 x4 x5 ∧ p6 x0 x1 x2 x3 x4 x5) (g : ∀ x0 x1 x2 x3 x4 x5, p0 x0 x1 x2 x3 x4 x5 → p1 x0 x1 x2 x3 x4 x5 → p2 x0 x1 x2 x3 x4 x5 → p3 x0 x1 x2 x3 x4 x5 → p4 x0 x1 x2 x3 x4 x5 → p5 x0 x1 x2 x3 x4 x5 → p6 x0 x1 x2 x3 x4 x5 → G) : G := Mine.ex6 h fun x0 x1 x2 x3 x4 x5 h => Mine.an7 h (g x0 x1 x2 x3 x4 x5)
theorem Mine.xa6_8 {α0 : Sort u0} {α1 : Sort u1} {α2 : Sort u2} {α3 : Sort u3} {α4 : Sort u4} {α5 : Sort u5} {p0 p1 p2 p3 p4 p5 p6 p7 : α0 → α1 → α2 → α3 → α4 → α5 → Prop} {G : Prop} (h : ∃ x0 : α0, ∃ x1 : α1, ∃ x2 : α2, ∃ x3 : α3, ∃ x4 : α4, ∃ x5 : α5, p0 x0 x1 x2 x3 x4 x5 ∧ p1 x0 x1 x2 x3 x4 x5 ∧ p2 x0 x1 x2 x3 x4 x5 ∧ p3 x0 x1 x2 x3 x4 x5 ∧ p4 x0 x1 x2 x3 x4 x5 ∧ p5 x0 x1 x2 x3 x4 x5 ∧ p6 x0 x1 x2 x3 x4 x5 ∧ p7 x0 x1 x2 x3 x4 x5) (g : ∀ x0 x1 x2 x3 x4 x5, p0 x0 x1 x2 x3 x4 x5 → p1 x0 x1 x2 x3 x4 x5 → p2 x0 x1 x2 x3 x4 x5 → p3 x0 x1 x2 x3 x4 x5 → p4 x0 x1 x2 x3 x4 x5 → p5 x0 x1 x2 x3 x4 x5 → p6 x0 x1 x2 x3 x4 x5 → p7 x0 x1 x2 x3 x4 x5 → G) : G := Mine.ex6 h fun x0 x1 x2 x3 x4 x5 h => Mine.an8 h (g x0 x1 x2 x3 x4 x5)
theorem Mine.xa7_10 {α0 : Sort u0} {α1 : Sort u1} {α2 : Sort u2} {α3 : Sort u3} {α4 : Sort u4} {α5 : Sort u5} {α6 : Sort u6} {p0 p1 p2 p3 p4 p5 p6 p7 p8 p9 : α0 → α1 → α2 → α3 → α4 → α5 → α6 → Prop} {G : Prop} (h : ∃ x0 : α0, ∃ x1 : α1, ∃ x2 : α2, ∃ x3 : α3, ∃ x4 : α4, ∃ x5 : α5, ∃ x6 : α6, p0 x0 x1 x2 x3 x4 x5 x6 ∧ p1 x0 x1 x2 x3 x4 x5 x6 ∧ p2 x0 x1 x2 x3 x4 x5 x6 ∧ p3 x0 x1 x2 x3 x4 x5 x6 ∧ p4 x0 x1 x2 x3 x4 x5 x6 ∧ p5 x0 x1 x2 x3 x4 x5 x6 ∧ p6 x0 x1 x2 x3 x4 x5 x6 ∧ p7 x0 x1 x2 x3 x4 x5 x6 ∧ p8 x0 x1 x2 x3 x4 x5 x6 ∧ p9 x0 x1 x2 x3 x4 x5 x6) (g : ∀ x0 x1 x2 x3 x4 x5 x6, p0 x0 x1 x2 x3 x4 x5 x6 → p1 x0 x1 x2 x3 x4 x5 x6 → p2 x0 x1 x2 x3 x4 x5 x6 → p3 x0 x1 x2 x3 x4 x5 x6 → p4 x0 x1 x2 x3 x4 x5 x6 → p5 x0 x1 x2 x3 x4 x5 x6 → p6 x0 x1 x2 x3 x4 x5 x6 → p7 x0 x1 x2 x3 x4 x5 x6 → p8 x0 x1 x2 x3 x4 x5 x6 → p9 x0 x1 x2 x3 x4 x5 x6 → G) : G := Mine.ex7 h fun x0 x1 x2 x3 x4 x5 x6 h => Mine.an10 h (g x0 x1 x2 x3 x4 x5 x6)
theorem Mine.xa7_12 {α0 : Sort u0} {α1 : Sort u1} {α2 : Sort u2} {α3 : Sort u3} {α4 : Sort u4} {α5 : Sort u5} {α6 : Sort u6} {p0 p1 p2 p3 p4 p5 p6 p7 p8 p9 p10 p11 : α0 → α1 → α2 → α3 → α4 → α5 → α6 → Prop} {G : Prop} (h : ∃ x0 : α0, ∃ x1 : α1, ∃ x2 : α2, ∃ x3 : α3, ∃ x4 : α4, ∃ x5 : α5, ∃ x6 : α6, p0 x0 x1 x2 x3 x4 x5 x6 ∧ p1 x0 x1 x2 x3 x4 x5 x6 ∧ p2 x0 x1 x2 x3 x4 x5 x6 ∧ p3 x0 x1 x2 x3 x4 x5 x6 ∧ p4 x0 x1 x2 x3 x4 x5 x6 ∧ p5 x0 x1 x2 x3 x4 x5 x6 ∧ p6 x0 x1 x2 x3 x4 x5 x6 ∧ p7 x0 x1 x2 x3 x4 x5 x6 ∧ p8 x0 x1 x2 x3 x4 x5 x6 ∧ p9 x0 x1 x2 x3 x4 x5 x6 ∧ p10 x0 x1 x2 x3 x4 x5 x6 ∧ p11 x0 x1 x2 x3 x4 x5 x6) (g : ∀ x0 x1 x2 x3 x4 x5 x6, p0 x0 x1 x2 x3 x4 x5 x6 → p1 x0 x1 x2 x3 x4 x5 x6 → p2 x0 x1 x2 x3 x4 x5 x6 → p3 x0 x1 x2 x3 x4 x5 x6 → p4 x0 x1 x2 x3 x4 x5 x6 → p5 x0 x1 x2 x3 x4 x5 x6 → p6 x0 x1 x2 x3 x4 x5 x6 → p7 x0 x1 x2 x3 x4 x5 x6 → p8 x0 x1 x2 x3 x4 x5 x6 → p9 x0 x1 x2 x3 x4 x5 x6 → p10 x0 x1 x2 x3 x4 x5 x6 → p11 x0 x1 x2 x3 x4 x5 x6 → G) : G := Mine.ex7 h fun x0 x1 x2 x3 x4 x5 x6 h => Mine.an12 h (g x0 x1 x2 x3 x4 x5 x6)
theorem Mine.xa11_8 {α0 : Sort u0} {α1 : Sort u1} {α2 : Sort u2} {α3 : Sort u3} {α4 : Sort u4} {α5 : Sort u5} {α6 : Sort u6} {α7 : Sort u7} {α8 : Sort u8} {α9 : Sort u9} {α10 : Sort u10} {p0 p1 p2 p3 p4 p5 p6 p7 : α0 → α1 → α2 → α3 → α4 → α5 → α6 → α7 → α8 → α9 → α10 → Prop} {G : Prop} (h : ∃ x0 : α0, ∃ x1 : α1, ∃ x2 : α2, ∃ x3 : α3, ∃ x4 : α4, ∃ x5 : α5, ∃ x6 : α6, ∃ x7 : α7, ∃ x8 : α8, ∃ x9 : α9, ∃ x10 : α10, p0 x0 x1 x2 x3 x4 x5 x6 x7 x8 x9 x10 ∧ p1 x0 x1 x2 x3 x4 x5 x6 x7 x8 x9 x10 ∧ p2 x0 x1 x2 x3 x4 x5 x6 x7 x8 x9 x10 ∧ p3 x0 x1 x2 x3 x4 x5 x6 x7 x8 x9 x10 ∧ p4 x0 x1 x2 x3 x4 x5 x6 x7 x8 x9 x10 ∧ p5 x0 x1 x2 x3 x4 x5 x6 x7 x8 x9 x10 ∧ p6 x0 x1 x2 x3 x4 x5 x6 x7 x8 x9 x10 ∧ p7 x0 x1 x2 x3 x4 x5 x6 x7 x8 x9 x10) (g : ∀ x0 x1 x2 x3 x4 x5 x6 x7 x8 x9 x10, p0 x0 x1 x2 x3 x4 x5 x6 x7 x8 x9 x10 → p1 x0 x1 x2 x3 x4 x5 x6 x7 x8 x9 x10 → p2 x0 x1 x2 x3 x4 x5 x6 x7 x8 x9 x10 → p3 x0 x1 x2 x3 x4 x5 x6 x7 x8 x9 x10 → p4 x0 x1 x2 x3 x4 x5 x6 x7 x8 x9 x10 → p5 x0 x1 x2 x3 x4 x5 x6 x7 x8 x9 x10 → p6 x0 x1 x2 x3 x4 x5 x6 x7 x8 x9 x10 → p7 x0 x1 x2 x3 x4 x5 x6 x7 x8 x9 x10 → G) : G := Mine.ex11 h fun x0 x1 x2 x3 x4 x5 x6 x7 x8 x9 x10 h => Mine.an8 h (g x0 x1 x2 x3 x4 x5 x6 x7 x8 x9 x10)
theorem Mine.xa12_9 {α0 : Sort u0} {α1 : Sort u1} {α2 : Sort u2} {α3 : Sort u3} {α4 : Sort u4} {α5 : Sort u5} {α6 : Sort u6} {α7 : Sort u7} {α8 : Sort u8} {α9 : Sort u9} {α10 : Sort u10} {α11 : Sort u11} {p0 p1 p2 p3 p4 p5 p6 p7 p8 : α0 → α1 → α2 → α3 → α4 → α5 → α6 → α7 → α8 → α9 → α10 → α11 → Prop} {G : Prop} (h : ∃ x0 : α0, ∃ x1 : α1, ∃ x2 : α2, ∃ x3 : α3, ∃ x4 : α4, ∃ x5 : α5, ∃ x6 : α6, ∃ x7 : α7, ∃ x8 : α8, ∃ x9 : α9, ∃ x10 : α10, ∃ x11 : α11, p0 x0 x1 x2 x3 x4 x5 x6 x7 x8 x9 x10 x11 ∧ p1 x0 x1 x2 x3 x4 x5 x6 x7 x8 x9 x10 x11 ∧ p2 x0 x1 x2 x3 x4 x5 x6 x7 x8 x9 x10 x11 ∧ p3 x0 x1 x2 x3 x4 x5 x6 x7 x8 x9 x10 x11 ∧ p4 x0 x1 x2 x3 x4 x5 x6 x7 x8 x9 x10 x11 ∧ p5 x0 x1 x2 x3 x4 x5 x6 x7 x8 x9 x10 x11 ∧ p6 x0 x1 x2 x3 x4 x5 x6 x7 x8 x9 x10 x11 ∧ p7 x0 x1 x2 x3 x4 x5 x6 x7 x8 x9 x10 x11 ∧ p8 x0 x1 x2 x3 x4 x5 x6 x7 x8 x9 x10 x11) (g : ∀ x0 x1 x2 x3 x4 x5 x6 x7 x8 x9 x10 x11, p0 x0 x1 x2 x3 x4 x5 x6 x7 x8 x9 x10 x11 → p1 x0 x1 x2 x3 x4 x5 x6 x7 x8 x9 x10 x11 → p2 x0 x1 x2 x3 x4 x5 x6 x7 x8 x9 x10 x11 → p3 x0 x1 x2 x3 x4 x5 x6 x7 x8 x9 x10 x11 → p4 x0 x1 x2 x3 x4 x5 x6 x7 x8 x9 x10 x11 → p5 x0 x1 x2 x3 x4 x5 x6 x7 x8 x9 x10 x11 → p6 x0 x1 x2 x3 x4 x5 x6 x7 x8 x9 x10 x11 → p7 x0 x1 x2 x3 x4 x5 x6 x7 x8 x9 x10 x11 → p8 x0 x1 x2 x3 x4 x5 x6 x7 x8 x9 x10 x11 → G) : G := Mine.ex12 h fun x0 x1 x2 x3 x4 x5 x6 x7 x8 x9 x10 x11 h => Mine.an9 h (g x0 x1 x2 x3 x4 x5 x6 x7 x8 x9 x10 x11)
theorem Mine.xa13_10 {α0 : Sort u0} {α1 : Sort u1} {α2 : Sort u2} {α3 : Sort u3} {α4 : Sort u4} {α5 : Sort u5} {α6 : Sort u6} {α7 : Sort u7} {α8 : Sort u8} {α9 : Sort u9} {α10 : Sort u10} {α11 : Sort u11} {α12 : Sort u12} {p0 p1 p2 p3 p4 p5 p6 p7 p8 p9 : α0 → α1 → α2 → α3 → α4 → α5 → α6 → α7 → α8 → α9 → α10 → α11 → α12 → Prop} {G : Prop} (h : ∃ x0 : α0, ∃ x1 : α1, ∃ x2 : α2, ∃ x3 : α3, ∃ x4 : α4, ∃ x5 : α5, ∃ x6 : α6, ∃ x7 : α7, ∃ x8 : α8, ∃ x9 : α9, ∃ x10 : α10, ∃ x11 : α11, ∃ x12 : α12, p0 x0 x1 x2 x3 x4 x5 x6 x7 x8 x9 x10 x11 x12 ∧ p1 x0 x1 x2 x3 x4 x5 x6 x7 x8 x9 x10 x11 x12 ∧ p2 x0 x1 x2 x3 x4 x5 x6 x7 x8 x9 x10 x11 x12 ∧ p3 x0 x1 x2 x3 x4 x5 x6 x7 x8 x9 x10 x11 x12 ∧ p4 x0 x1 x2 x3 x4 x5 x6 x7 x8 x9 x10 x11 x12 ∧ p5 x0 x1 x2 x3 x4 x5 x6 x7 x8 x9 x10 x11 x12 ∧ p6 x0 x1 x2 x3 x4 x5 x6 x7 x8 x9 x10 x11 x12 ∧ p7 x0 x1 x2 x3 x4 x5 x6 x7 x8 x9 x10 x11 x12 ∧ p8 x0 x1 x2 x3 x4 x5 x6 x7 x8 x9 x10 x11 x12 ∧ p9 x0 x1 x2 x3 x4 x5 x6 x7 x8 x9 x10 x11 x12) (g : ∀ x0 x1 x2 x3 x4 x5 x6 x7 x8 x9 x10 x11 x12, p0 x0 x1 x2 x3 x4 x5 x6 x7 x8 x9 x10 x11 x12 → p1 x0 x1 x2 x3 x4 x5 x6 x7 x8 x9 x10 x11 x12 → p2 x0 x1 x2 x3 x4 x5 x6 x7 x8 x9 x10 x11 x12 → p3 x0 x1 x2 x3 x4 x5 x6 x7 x8 x9 x10 x11 x12 → p4 x0 x1 x2 x3 x4 x5 x6 x7 x8 x9 x10 x11 x12 → p5 x0 x1 x2 x3 x4 x5 x6 x7 x8 x9 x10 x11 x12 → p6 x0 x1 x2 x3 x4 x5 x6 x7 x8 x9 x10 x11 x12 → p7 x0 x1 x2 x3 x4 x5 x6 x7 x8 x9 x10 x11 x12 → p8 x0 x1 x2 x3 x4 x5 x6 x7 x8 x9 x10 x11 x12 → p9 x0 x1 x2 x3 x4 x5 x6 x7 x8 x9 x10 x11 x12 → G) : G := Mine.ex13 h fun x0 x1 x2 x3 x4 x5 x6 x7 x8 x9 x10 x11 x12 h => Mine.an10 h (g x0 x1 x2 x3 x4 x5 x6 x7 x8 x9 x10 x11 x12)
section
open PySem PySem.W PyProof.Rows PySem.Calls
set_option maxRecDepth 100000
set_option maxHeartbeats 0
set_option linter.unusedVariables false
namespace Mine
noncomputable def Full (t : BT) (n : Nat) : Prop := ∀ i, (t.get i).isSome = true ↔ i < n
theorem full_nil : Full .nil 0 := fun i => ⟨fun h => (nomatch h), fun h => absurd h (Nat.not_lt_zero _)⟩
theorem full_ins (o : Obj) : ∀ (t : BT) (n : Nat), Full t n → ((t.ins n o).get n).isSome = true
  | .nil, n, h => by
    have h0 : n = 0 := by
      by_cases q : n = 0
      · exact q
      · have := (h 0).mpr (by (first | lia | omega))
        cases this
    subst h0; rfl
  | .node v l r, n, h => by
    have h0 : n ≠ 0 := fun q => by
      have := (h 0).mp (by rw [BT.get_node, if_pos rfl]; rfl)
      (first | lia | omega)
    rw [BT.ins_node, if_neg h0]
    by_cases p : n % 2 = 1
    · rw [if_pos p, BT.get_node, if_neg h0, if_pos p]
      refine full_ins o l (n / 2) fun i => ?_
      have := h (2 * i + 1)
      rw [BT.get_node, if_neg (by (first | lia | omega)), if_pos (by (first | lia | omega)), show (2 * i + 1) / 2 = i by (first | lia | omega)] at this
      rw [this]; (first | lia | omega)
    · rw [if_neg p, BT.get_node, if_neg h0, if_neg p]
      refine full_ins o r (n / 2 - 1) fun i => ?_
      have := h (2 * i + 2)
      rw [BT.get_node, if_neg (by (first | lia | omega)), if_neg (by (first | lia | omega)), show (2 * i + 2) / 2 - 1 = i by (first | lia | omega)] at this
      rw [this]; (first | lia | omega)
theorem full_step {t : BT} {n : Nat} (o : Obj) (h : Full t n) : Full (t.ins n o) (n + 1) := fun i => by
  rw [BT.get_ins o t n (full_ins o t n h) i]
  by_cases e : i = n
  · rw [if_pos e]; simp; (first | lia | omega)
  · rw [if_neg e, h i]; (first | lia | omega)
noncomputable def grow : List Obj → BT → Nat → BT
  | [], t, _ => t
  | o :: r, t, n => grow r (t.ins n o) (n + 1)
theorem grow_abs (life : Life) : ∀ (l : List Obj) (t : BT) (n : Nat), Full t n → absHeap (grow l t n) (n + l.length) life = ⟨(absHeap t n life).objs ++ l.toArray, life⟩
  | [], t, n, h => by
    show absHeap t n life = _
    rw [show ((absHeap t n life).objs ++ ([] : List Obj).toArray) = (absHeap t n life).objs by simp]
    rfl
  | o :: r, t, n, h => by
    show absHeap (grow r (t.ins n o) (n + 1)) (n + (r.length + 1)) life = _
    rw [show n + (r.length + 1) = n + 1 + r.length by (first | lia | omega), grow_abs life r _ _ (full_step o h), absHeap_ins (full_ins o t n h)]
    show Heap.mk (((absHeap t n life).objs.push o) ++ r.toArray) life = _
    congr 1
    apply Array.ext'
    simp
noncomputable def toT (s : Shared) : SharedT := ⟨grow s.heap.objs.toList .nil 0, s.heap.objs.size, s.heap.life, s.gens, s.drawn, s.toks, s.os⟩
theorem abs_toT (s : Shared) : (toT s).abs = s := by
  obtain ⟨⟨objs, life⟩, gens, drawn, toks, os⟩ := s
  show Shared.mk (absHeap (grow objs.toList .nil 0) objs.size life) gens drawn toks os = _
  have h := grow_abs life objs.toList .nil 0 full_nil
  rw [show 0 + objs.toList.length = objs.size by simp] at h
  rw [h]
  congr 1
  congr 1
  apply Array.ext'
  simp [absHeap, BT.list]
noncomputable def runX (thr ok : Thread → Bool) (stp : SharedT → Thread → Option (SharedT × Thread)) : Nat → SharedT → Thread → Option SharedT
  | 0, _, _ => none
  | n + 1, s, t => match thr t with
    | true => some s
    | false => match ok t with
      | false => none
      | true => match stp s t with
        | some (s', t') => runX thr ok stp n s' t'
        | none => none
theorem runX_of {tb : String → Option Builtin} {p : Program} {w : World} {n₀ : Nat} {ann : Option Value} : ∀ {n : Nat} {s s' : SharedT} {t : Thread}, runX through (stepOk n₀ ann) (stepT (denote tb) p w) n s t = some s' → topRun tb p w n₀ ann n s.abs t = some s'.abs
  | 0, _, _, _, h => by cases h
  | n + 1, s, s', t, h => by
    unfold runX at h
    unfold topRun
    cases ht : through t with
    | true => rw [ht] at h; cases h; rfl
    | false =>
      rw [ht] at h
      cases hk : stepOk n₀ ann t with
      | false => rw [hk] at h; cases h
      | true =>
        rw [hk] at h
        cases hs : stepT (denote tb) p w s t with
        | none => rw [hs] at h; cases h
        | some r => obtain ⟨s₂, t₂⟩ := r; rw [hs] at h; dsimp only; rw [stepT_spec hs]; exact runX_of h
noncomputable def headX {β : Type} (opn : Option Shared) (isn : Shared → Bool) (run : Shared → Option SharedT) (fine : Shared → Shared → Bool) (look : Shared → β) : Option β :=
  match opn with
  | none => none
  | some s₀ => match isn s₀ with
    | false => none
    | true => match run s₀ with
      | none => none
      | some s₁ => match fine s₀ s₁.abs with
        | false => none
        | true => some (look s₁.abs)
theorem left_of_head {p q : Program} {loose : List Str} {Xt : Shared → Bool} {α : Type} {Yf : Shared → α} {Ya : World → α} {N : Nat} {g0 : Bool}
    (h : ∀ w, headX (fencedOpening treeTable p w N) (fun s₀ => s₀.heap.isNs mainGlobals && s₀.gens.size == 0)
      (fun s₀ => runX through (stepOk s₀.heap.objs.size (s₀.heap.nsMap mainGlobals "__annotations__")) (stepT (denote treeTable) p w) N (toT s₀) (topStub p))
      (fun s₀ s₁ => staticsOk (importedModules p.main.body) s₀.heap s₁.heap && namesBound p s₁.heap && gensDone s₁ && laidKept s₀.heap s₁.heap)
      (fun s => (openSeen q loose (importedModules p.main.body) Xt g0 s, Yf s)) = some (openGood q loose, Ya w)) : LeftO p q loose Xt Yf Ya N g0 := fun w => by
  have h := h w
  unfold headX at h
  unfold openEnds
  cases e0 : fencedOpening treeTable p w N with
  | none => rw [e0] at h; cases h
  | some s₀ =>
    rw [e0] at h
    dsimp only at h
    show Option.map _ (topFrom treeTable p w N s₀) = _
    unfold topFrom
    cases e1 : (s₀.heap.isNs mainGlobals && s₀.gens.size == 0) with
    | false => rw [e1] at h; cases h
    | true =>
      rw [e1] at h
      dsimp only at h ⊢
      cases e2 : runX through (stepOk s₀.heap.objs.size (s₀.heap.nsMap mainGlobals "__annotations__")) (stepT (denote treeTable) p w) N (toT s₀) (topStub p) with
      | none => rw [e2] at h; cases h
      | some s₁ =>
        rw [e2] at h
        dsimp only at h
        have r := runX_of e2
        rw [abs_toT] at r
        rw [r]
        show Option.map _ (match (staticsOk (importedModules p.main.body) s₀.heap s₁.abs.heap && namesBound p s₁.abs.heap && gensDone s₁.abs && laidKept s₀.heap s₁.abs.heap) with | true => some s₁.abs | false => none) = _
        cases e3 : (staticsOk (importedModules p.main.body) s₀.heap s₁.abs.heap && namesBound p s₁.abs.heap && gensDone s₁.abs && laidKept s₀.heap s₁.abs.heap) with
        | false => rw [e3] at h; cases h
        | true => rw [e3] at h; exact h
theorem headX_out {β : Type} {opn : Option Shared} {isn : Shared → Bool} {run : Shared → Option SharedT} {fine : Shared → Shared → Bool} {look : Shared → β} {r : β} (h : headX opn isn run fine look = some r) : ∃ s₀ s₁, opn = some s₀ ∧ isn s₀ = true ∧ run s₀ = some s₁ ∧ fine s₀ s₁.abs = true ∧ look s₁.abs = r := by
  unfold headX at h
  cases e0 : opn with
  | none => rw [e0] at h; cases h
  | some s₀ =>
    rw [e0] at h; dsimp only at h
    cases e1 : isn s₀ with
    | false => rw [e1] at h; cases h
    | true =>
      rw [e1] at h; dsimp only at h
      cases e2 : run s₀ with
      | none => rw [e2] at h; cases h
      | some s₁ =>
        rw [e2] at h; dsimp only at h
        cases e3 : fine s₀ s₁.abs with
        | false => rw [e3] at h; cases h
        | true => rw [e3] at h; exact ⟨s₀, s₁, rfl, e1, e2, e3, Option.some.inj h⟩
theorem headX_in {β : Type} {opn : Option Shared} {isn : Shared → Bool} {run : Shared → Option SharedT} {fine : Shared → Shared → Bool} {look : Shared → β} {s₀ : Shared} {s₁ : SharedT} (h0 : opn = some s₀) (h1 : isn s₀ = true) (h2 : run s₀ = some s₁) (h3 : fine s₀ s₁.abs = true) : headX opn isn run fine look = some (look s₁.abs) := by
  unfold headX
  rw [h0]; dsimp only
  rw [h1]; dsimp only
  rw [h2]; dsimp only
  rw [h3]
noncomputable abbrev PW : Program := PySem.Challenge.pw_oy0416_01
noncomputable def hd.view_39 : Program := view PW [0, 1, 2, 4, 5, 6, 7, 8, 10, 11, 12, 13, 14, 15, 16, 17, 19, 20, 21, 22, 24, 25, 27, 29, 30, 31, 32, 34, 35, 36, 37, 38, 39, 40, 41, 42, 43, 44, 45, 46, 47, 48, 49, 50, 51, 52, 53, 54, 55, 56, 57, 58, 60, 61, 62, 63, 64, 65]
noncomputable abbrev looseN : List Str := [Str.ofString "twin_re_1_smtplib", Str.ofString "_twin_re_2", Str.ofString "twin_re_1_shlex", Str.ofString "UnsupportedOperation", Str.ofString "IOBase", Str.ofString "BufferedIOBase", Str.ofString "TextIOBase", Str.ofString "BytesIO", Str.ofString "StringIO", Str.ofString "join_path", Str.ofString "shlex", Str.ofString "split", Str.ofString "join_shlex", Str.ofString "_find_unsafe", Str.ofString "_filemode_table"]
noncomputable def topS (i : Nat) : Stmt := (PW.main.body[i]?).getD (.Pass default)
noncomputable def inC (i j : Nat) : Stmt := match topS i with
  | .ClassDef _ _ _ b _ _ _ _ _ _ _ => (b[j]?).getD (.Pass default)
  | s => s
noncomputable def fnD (s : Stmt) (q : Str) (dV kV doc pm : Value) (an : Option Addr) (cd ct : Value) : Data := match s with
  | .FunctionDef n ps b _ _ _ sc _ _ _ => .func (fnOf n q ps b sc dV kV doc pm an cd ct)
  | _ => .plain
noncomputable abbrev en (P : Params) (k : Str) (t : Nat) (v : Value) : DictEntry := ⟨PyData.keyHash P k, .str k t, v⟩
noncomputable def hd.heap_39 : Params → Frag := fun P =>
    (nat_lit 2, ⟨.none, none, (.dict #[en P (.ofString "\x69mport.loaded._sre") 183 (.bool true), en P (.ofString "class._frozen_importlib.BuiltinImporter") 185 (.ref (14 : Nat)), en P (.ofString "watched.\x69mport") 206 (.ref (18 : Nat)), en P (.ofString "class._frozen_importlib.ModuleSpec") 216 (.ref (22 : Nat)), en P (.ofString "sys.modules.booked-epoch") 245 (.int 4 0), en P (.ofString "\x69mport.later-laid._sre") 270 (.bool true), en P (.ofString "watched.library") 272 (.ref (27 : Nat)), en P (.ofString "watched.library-objects") 0 (.str (.ofString "\u000c\u001e") 0), en P (.ofString "watched.library-deep._sre") 273 (.str (.ofString "\u0004\u0000\u0000\u000b\u0004\u0000\u0000\u000b\u0004\u0000\u0000\u0003\u0004\u0000\u0000\u000b\u0008\u0004dict\u0002") 0), en P (.ofString "\x69mport.loaded._collections") 280 (.bool true), en P (.ofString "sys.modules.landed._collections") 294 (.bool true), en P (.ofString "\x69mport.later-laid._collections") 309 (.bool true), en P (.ofString "watched.library-deep._collections") 311 (.str (.ofString "\u0004\u0000\u0000\u001d\u0004\u0000\u0000\u001d\u0004\u0000\u0000\u0003\u0004\u0000\u0000\u001d\u0008\u0004dict\u0002") 0), en P (.ofString "type.__subclasses__.OSError.0") 476 (.int 90 0), en P (.ofString "type.__subclasses__.OSError.n") 477 (.int 1 0)] 15), #[]⟩) ::
    (nat_lit 3, ⟨(.type "dict"), none, (.dict #[en P (.ofString "__name__") 165 (.str (.ofString "law_oy0416_01") 1430), en P (.ofString "__doc__") 166 .none, en P (.ofString "__package__") 167 .none, en P (.ofString "__loader__") 168 (.builtin "__main__.__loader__#opaque"), en P (.ofString "__spec__") 169 .none, en P (.ofString "__annotations__") 170 (.ref (6 : Nat)), en P (.ofString "__builtins__") 171 (.ref (4 : Nat)), en P (.ofString "__file__") 173 (.str (.ofString "/claim/cut.py") 172), en P (.ofString "__cached__") 174 .none, en P (.ofString "_sre") 275 (.ref (12 : Nat)), en P (.ofString "deque") 317 (.type "collections.deque"), en P (.ofString "_wall") 330 (.ref (44 : Nat)), en P (.ofString "twin_re_1_smtplib") 348 (.ref (49 : Nat)), en P (.ofString "_twin_re_2") 390 (.ref (54 : Nat)), en P (.ofString "CRLF") 392 (.str (.ofString "\u000d\n") 391), en P (.ofString "quotedata") 399 (.ref (61 : Nat)), en P (.ofString "twin_re_1_shlex") 439 (.ref (66 : Nat)), en P (.ofString "_whence") 449 (.ref (73 : Nat)), en P (.ofString "_index") 457 (.ref (80 : Nat)), en P (.ofString "UnsupportedOperation") 479 (.ref (90 : Nat)), en P (.ofString "IOBase") 511 (.ref (110 : Nat)), en P (.ofString "BufferedIOBase") 529 (.ref (125 : Nat)), en P (.ofString "TextIOBase") 547 (.ref (137 : Nat)), en P (.ofString "BytesIO") 809 (.ref (367 : Nat)), en P (.ofString "StringIO") 1096 (.ref (614 : Nat)), en P (.ofString "_kind") 1107 (.ref (623 : Nat)), en P (.ofString "_fspath") 1116 (.ref (630 : Nat)), en P (.ofString "_check_arg_types") 1126 (.ref (637 : Nat)), en P (.ofString "isabs") 1133 (.ref (644 : Nat)), en P (.ofString "join") 1144 (.ref (768 : Nat)), en P (.ofString "join_path") 1145 (.ref (651 : Nat)), en P (.ofString "dirname") 1155 (.ref (658 : Nat)), en P (.ofString "shlex") 1296 (.ref (749 : Nat)), en P (.ofString "split") 1306 (.ref (761 : Nat)), en P (.ofString "join_shlex") 1314 (.ref (768 : Nat)), en P (.ofString "_find_unsafe") 1316 (.ref (769 : Nat)), en P (.ofString "quote") 1323 (.ref (776 : Nat)), en P (.ofString "S_IMODE") 1332 (.ref (783 : Nat)), en P (.ofString "S_IFMT") 1339 (.ref (790 : Nat)), en P (.ofString "S_IFDIR") 1341 (.int 16384 1340), en P (.ofString "S_IFCHR") 1343 (.int 8192 1342), en P (.ofString "S_IFBLK") 1345 (.int 24576 1344), en P (.ofString "S_IFREG") 1347 (.int 32768 1346), en P (.ofString "S_IFIFO") 1349 (.int 4096 1348), en P (.ofString "S_IFLNK") 1351 (.int 40960 1350), en P (.ofString "S_IFSOCK") 1353 (.int 49152 1352), en P (.ofString "S_ISDIR") 1360 (.ref (797 : Nat)), en P (.ofString "S_ISLNK") 1367 (.ref (804 : Nat)), en P (.ofString "S_ISUID") 1369 (.int 2048 1368), en P (.ofString "S_ISGID") 1371 (.int 1024 1370), en P (.ofString "S_ISVTX") 1373 (.int 512 1372), en P (.ofString "S_IRUSR") 1375 (.int 256 1374), en P (.ofString "S_IWUSR") 1377 (.int 128 1376), en P (.ofString "S_IXUSR") 1379 (.int 64 1378), en P (.ofString "S_IRGRP") 1381 (.int 32 1380), en P (.ofString "S_IWGRP") 1383 (.int 16 1382), en P (.ofString "S_IXGRP") 1385 (.int 8 1384), en P (.ofString "S_IROTH") 1387 (.int 4 1386), en P (.ofString "S_IWOTH") 1389 (.int 2 1388), en P (.ofString "S_IXOTH") 1391 (.int 1 1390), en P (.ofString "_filemode_table") 1417 (.ref (837 : Nat)), en P (.ofString "filemode") 1429 (.ref (844 : Nat)), en P (.ofString "_law_files") 1443 (.ref (851 : Nat)), en P (.ofString "_law_octal") 1449 (.ref (856 : Nat)), en P (.ofString "_law_come") 1455 (.ref (861 : Nat)), en P (.ofString "_law_row") 1466 (.ref (868 : Nat)), en P (.ofString "_law_plain") 1475 (.ref (875 : Nat)), en P (.ofString "law") 1481 (.ref (880 : Nat))] 68), #[]⟩) ::
    (nat_lit 44, ⟨(.type "function"), none, (fnD (topS 2) (.ofString "_wall") .none .none .none (.str (.ofString "__main__") 164) none (.ref (43 : Nat)) .none), #[]⟩) ::
    (nat_lit 48, ⟨(.type "tuple"), none, (.seq #[(.int 14 0), (.int 4 0), (.int 0 0), (.int 1 0), (.int 1 0), (.int 6 0), (.int 1 0), (.int 16 0), (.int 46 0), (.int 1 0)] 0), #[]⟩) ::
    (nat_lit 49, ⟨(.type "re.Pattern"), none, (.fields #[(.str (.ofString "(?m)^\\.") 334), (.int 40 347), (.int 0 0), .none, .none, (.ref (48 : Nat)), (.int 0 0)]), #[]⟩) ::
    (nat_lit 53, ⟨(.type "tuple"), none, (.seq #[(.int 14 0), (.int 9 0), (.int 4 0), (.int 1 0), (.int 2 0), (.int 16 0), (.int 10 0), (.int 16 0), (.int 13 0), (.int 0 0), (.int 7 0), (.int 7 0), (.int 16 0), (.int 13 0), (.int 16 0), (.int 10 0), (.int 15 0), (.int 18 0), (.int 5 0), (.int 16 0), (.int 10 0), (.int 15 0), (.int 13 0), (.int 11 0), (.int 16 0), (.int 13 0), (.int 5 0), (.int 5 0), (.int 0 0), (.int 16 0), (.int 10 0), (.int 1 0), (.int 15 0), (.int 2 0), (.int 0 0), (.int 1 0)] 0), #[]⟩) ::
    (nat_lit 54, ⟨(.type "re.Pattern"), none, (.fields #[(.str (.ofString "(?:\\r\\n|\\n|\\r(?!\\n))") 350), (.int 32 389), (.int 0 0), .none, .none, (.ref (53 : Nat)), (.int 0 0)]), #[]⟩) ::
    (nat_lit 60, ⟨(.type "code"), none, (.fields #[(.str (.ofString "quotedata") 393), (.str (.ofString "quotedata") 394), (.str (.ofString "/claim/cut.py") 395), (.int 10 0), (.int 1 0), (.int 0 0), (.int 0 0), (.int 3 0), (.ref (55 : Nat)), (.bool true), (.int 318 0), (.ref (56 : Nat)), .none, (.ref (57 : Nat)), (.ref (58 : Nat)), (.ref (59 : Nat)), (.int 397 0), (.int 10 0), (.str (.ofString "/claim/cut.py") 398)]), #[]⟩) ::
    (nat_lit 61, ⟨(.type "function"), none, (fnD (topS 7) (.ofString "quotedata") .none .none .none (.str (.ofString "cpy313.smtplib") 331) none (.ref (60 : Nat)) .none), #[]⟩) ::
    (nat_lit 65, ⟨(.type "tuple"), none, (.seq #[(.int 14 0), (.int 17 0), (.int 4 0), (.int 1 0), (.int 1 0), (.int 21 0), (.int 9 0), (.int 0 0), (.int 604043296 0), (.int 1 0), (.int 0 0), (.int 0 0), (.int 0 0), (.int 0 0), (.int 0 0), (.int 8 0), (.int 4 0), (.int 0 0), (.int 13 0), (.int 14 0), (.int 21 0), (.int 9 0), (.int 0 0), (.int 604043296 0), (.int 1 0), (.int 0 0), (.int 0 0), (.int 0 0), (.int 0 0), (.int 0 0), (.int 8 0), (.int 4 0), (.int 0 0), (.int 1 0)] 0), #[]⟩) ::
    (nat_lit 66, ⟨(.type "re.Pattern"), none, (.fields #[(.str (.ofString "[^\\w@%+=:,./-]") 401), (.int 256 438), (.int 0 0), .none, .none, (.ref (65 : Nat)), (.int 0 0)]), #[]⟩) ::
    (nat_lit 72, ⟨(.type "code"), none, (.fields #[(.str (.ofString "_whence") 442), (.str (.ofString "_whence") 443), (.str (.ofString "/claim/cut.py") 444), (.int 14 0), (.int 2 0), (.int 0 0), (.int 0 0), (.int 3 0), (.ref (67 : Nat)), (.bool true), (.int 318 0), (.ref (68 : Nat)), .none, (.ref (69 : Nat)), (.ref (70 : Nat)), (.ref (71 : Nat)), (.int 447 0), (.int 14 0), (.str (.ofString "/claim/cut.py") 448)]), #[]⟩) ::
    (nat_lit 73, ⟨(.type "function"), none, (fnD (topS 10) (.ofString "_whence") .none .none .none (.str (.ofString "io") 440) none (.ref (72 : Nat)) .none), #[]⟩) ::
    (nat_lit 79, ⟨(.type "code"), none, (.fields #[(.str (.ofString "_index") 450), (.str (.ofString "_index") 451), (.str (.ofString "/claim/cut.py") 452), (.int 19 0), (.int 2 0), (.int 0 0), (.int 0 0), (.int 3 0), (.ref (74 : Nat)), (.bool true), (.int 318 0), (.ref (75 : Nat)), .none, (.ref (76 : Nat)), (.ref (77 : Nat)), (.ref (78 : Nat)), (.int 455 0), (.int 19 0), (.str (.ofString "/claim/cut.py") 456)]), #[]⟩) ::
    (nat_lit 80, ⟨(.type "function"), none, (fnD (topS 11) (.ofString "_index") .none .none .none (.str (.ofString "io") 440) none (.ref (79 : Nat)) .none), #[]⟩) ::
    (nat_lit 106, ⟨(.type "code"), none, (.fields #[(.str (.ofString "__new__") 494), (.str (.ofString "IOBase.__new__") 495), (.str (.ofString "/claim/cut.py") 496), (.int 31 0), (.int 1 0), (.int 1 0), (.int 0 0), (.int 15 0), (.ref (101 : Nat)), (.bool true), (.int 318 0), (.ref (102 : Nat)), .none, (.ref (103 : Nat)), (.ref (104 : Nat)), (.ref (105 : Nat)), (.int 500 0), (.int 31 0), (.str (.ofString "/claim/cut.py") 501)]), #[]⟩) ::
    (nat_lit 107, ⟨(.type "function"), none, (fnD (inC 13 1) (.ofString "IOBase.__new__") .none .none .none (.str (.ofString "io") 440) none (.ref (106 : Nat)) .none), #[]⟩) ::
    (nat_lit 109, ⟨(.type "dict"), none, (.dict #[en P (.ofString "__module__") 487 (.str (.ofString "io") 492), en P (.ofString "__firstlineno__") 491 (.int 28 490), en P (.ofString "__new__") 502 (.ref (111 : Nat)), en P (.ofString "__static_attributes__") 503 (.ref (108 : Nat)), en P (.ofString "__dict__") 506 (.ref (112 : Nat)), en P (.ofString "__weakref__") 508 (.ref (113 : Nat)), en P (.ofString "__doc__") 509 .none] 4), #[]⟩) ::
    (nat_lit 110, ⟨(.type "type"), none, (.cls { name := (.ofString "IOBase"), bases := [(.type "object")], mro := [(.ref (110 : Nat)), (.type "object")], ns := (109 : Nat), qualname := (.ofString "IOBase"), hasDict := true, slotNames := [], subclasses := [(.ref (125 : Nat)), (.ref (137 : Nat))], abstract := false, collection := none, hasDel := false }), #[none, none, (some (.str (.ofString "IOBase") 480)), (some (.str (.ofString "IOBase") 488)), (some .none), (some (.bool true))]⟩) ::
    (nat_lit 111, ⟨(.type "staticmethod"), none, (.fields #[(.ref (107 : Nat))]), #[]⟩) ::
    (nat_lit 136, ⟨(.type "dict"), none, (.dict #[en P (.ofString "__module__") 537 (.str (.ofString "io") 542), en P (.ofString "__firstlineno__") 541 (.int 37 540), en P (.ofString "__static_attributes__") 544 (.ref (135 : Nat)), en P (.ofString "__doc__") 545 .none] 2), #[]⟩) ::
    (nat_lit 137, ⟨(.type "type"), none, (.cls { name := (.ofString "TextIOBase"), bases := [(.ref (110 : Nat))], mro := [(.ref (137 : Nat)), (.ref (110 : Nat)), (.type "object")], ns := (136 : Nat), qualname := (.ofString "TextIOBase"), hasDict := true, slotNames := [], subclasses := [(.ref (614 : Nat))], abstract := false, collection := none, hasDel := false }), #[(some (.ref (128 : Nat))), none, (some (.str (.ofString "TextIOBase") 530)), (some (.str (.ofString "TextIOBase") 538)), (some .none), (some (.bool true))]⟩) ::
    (nat_lit 367, ⟨(.type "type"), none, (.cls { name := (.ofString "BytesIO"), bases := [(.ref (125 : Nat))], mro := [(.ref (367 : Nat)), (.ref (125 : Nat)), (.ref (110 : Nat)), (.type "object")], ns := (366 : Nat), qualname := (.ofString "BytesIO"), hasDict := true, slotNames := [], subclasses := [], abstract := false, collection := none, hasDel := false }), #[(some (.ref (140 : Nat))), none, (some (.str (.ofString "BytesIO") 548)), (some (.str (.ofString "BytesIO") 556)), (some .none), (some (.bool true))]⟩) ::
    (nat_lit 377, ⟨(.type "tuple"), none, (.seq #[(.str (.ofString "") 824), (.str (.ofString "\n") 825)] 0), #[]⟩) ::
    (nat_lit 383, ⟨(.type "code"), none, (.fields #[(.str (.ofString "__init__") 826), (.str (.ofString "StringIO.__init__") 827), (.str (.ofString "/claim/cut.py") 828), (.int 212 0), (.int 3 0), (.int 0 0), (.int 0 0), (.int 3 0), (.ref (378 : Nat)), (.bool true), (.int 318 0), (.ref (379 : Nat)), .none, (.ref (380 : Nat)), (.ref (381 : Nat)), (.ref (382 : Nat)), (.int 832 0), (.int 212 0), (.str (.ofString "/claim/cut.py") 833)]), #[]⟩) ::
    (nat_lit 384, ⟨(.type "function"), none, (fnD (inC 17 1) (.ofString "StringIO.__init__") (.ref (377 : Nat)) .none .none (.str (.ofString "io") 440) none (.ref (383 : Nat)) .none), #[]⟩) ::
    (nat_lit 390, ⟨(.type "code"), none, (.fields #[(.str (.ofString "__translated") 835), (.str (.ofString "StringIO.__translated") 836), (.str (.ofString "/claim/cut.py") 837), (.int 225 0), (.int 2 0), (.int 0 0), (.int 0 0), (.int 3 0), (.ref (385 : Nat)), (.bool true), (.int 318 0), (.ref (386 : Nat)), .none, (.ref (387 : Nat)), (.ref (388 : Nat)), (.ref (389 : Nat)), (.int 841 0), (.int 225 0), (.str (.ofString "/claim/cut.py") 842)]), #[]⟩) ::
    (nat_lit 391, ⟨(.type "function"), none, (fnD (inC 17 2) (.ofString "StringIO.__translated") .none .none .none (.str (.ofString "io") 440) none (.ref (390 : Nat)) .none), #[]⟩) ::
    (nat_lit 397, ⟨(.type "code"), none, (.fields #[(.str (.ofString "__check") 844), (.str (.ofString "StringIO.__check") 845), (.str (.ofString "/claim/cut.py") 846), (.int 233 0), (.int 1 0), (.int 0 0), (.int 0 0), (.int 3 0), (.ref (392 : Nat)), (.bool true), (.int 318 0), (.ref (393 : Nat)), .none, (.ref (394 : Nat)), (.ref (395 : Nat)), (.ref (396 : Nat)), (.int 848 0), (.int 233 0), (.str (.ofString "/claim/cut.py") 849)]), #[]⟩) ::
    (nat_lit 398, ⟨(.type "function"), none, (fnD (inC 17 3) (.ofString "StringIO.__check") .none .none .none (.str (.ofString "io") 440) none (.ref (397 : Nat)) .none), #[]⟩) ::
    (nat_lit 553, ⟨(.type "tuple"), none, (.seq #[(.int (-1) 1017)] 0), #[]⟩) ::
    (nat_lit 559, ⟨(.type "code"), none, (.fields #[(.str (.ofString "read") 1018), (.str (.ofString "StringIO.read") 1019), (.str (.ofString "/claim/cut.py") 1020), (.int 355 0), (.int 2 0), (.int 2 0), (.int 0 0), (.int 3 0), (.ref (554 : Nat)), (.bool true), (.int 318 0), (.ref (555 : Nat)), .none, (.ref (556 : Nat)), (.ref (557 : Nat)), (.ref (558 : Nat)), (.int 1025 0), (.int 355 0), (.str (.ofString "/claim/cut.py") 1026)]), #[]⟩) ::
    (nat_lit 560, ⟨(.type "function"), none, (fnD (inC 17 25) (.ofString "StringIO.read") (.ref (553 : Nat)) .none .none (.str (.ofString "io") 440) none (.ref (559 : Nat)) .none), #[]⟩) ::
    (nat_lit 613, ⟨(.type "dict"), none, (.dict #[en P (.ofString "__module__") 817 (.str (.ofString "_io") 822), en P (.ofString "__firstlineno__") 821 (.int 209 820), en P (.ofString "__init__") 834 (.ref (384 : Nat)), en P (.ofString "_StringIO__translated") 843 (.ref (391 : Nat)), en P (.ofString "_StringIO__check") 850 (.ref (398 : Nat)), en P (.ofString "_StringIO__check_dot") 857 (.ref (405 : Nat)), en P (.ofString "_StringIO__line") 872 (.ref (412 : Nat)), en P (.ofString "closed") 880 (.ref (420 : Nat)), en P (.ofString "line_buffering") 888 (.ref (428 : Nat)), en P (.ofString "newlines") 896 (.ref (436 : Nat)), en P (.ofString "encoding") 904 (.ref (444 : Nat)), en P (.ofString "errors") 912 (.ref (452 : Nat)), en P (.ofString "close") 919 (.ref (459 : Nat)), en P (.ofString "__enter__") 926 (.ref (466 : Nat)), en P (.ofString "__exit__") 934 (.ref (473 : Nat)), en P (.ofString "readable") 941 (.ref (480 : Nat)), en P (.ofString "writable") 948 (.ref (487 : Nat)), en P (.ofString "seekable") 955 (.ref (494 : Nat)), en P (.ofString "isatty") 962 (.ref (501 : Nat)), en P (.ofString "flush") 969 (.ref (508 : Nat)), en P (.ofString "fileno") 976 (.ref (515 : Nat)), en P (.ofString "detach") 983 (.ref (522 : Nat)), en P (.ofString "getvalue") 990 (.ref (529 : Nat)), en P (.ofString "tell") 997 (.ref (536 : Nat)), en P (.ofString "seek") 1007 (.ref (544 : Nat)), en P (.ofString "truncate") 1015 (.ref (552 : Nat)), en P (.ofString "read") 1027 (.ref (560 : Nat)), en P (.ofString "readline") 1037 (.ref (568 : Nat)), en P (.ofString "readlines") 1047 (.ref (576 : Nat)), en P (.ofString "__iter__") 1054 (.ref (583 : Nat)), en P (.ofString "__next__") 1062 (.ref (590 : Nat)), en P (.ofString "write") 1074 (.ref (597 : Nat)), en P (.ofString "writelines") 1082 (.ref (604 : Nat)), en P (.ofString "__repr__") 1089 (.ref (611 : Nat)), en P (.ofString "__static_attributes__") 1093 (.ref (612 : Nat)), en P (.ofString "__doc__") 1094 .none] 2), #[]⟩) ::
    (nat_lit 614, ⟨(.type "type"), none, (.cls { name := (.ofString "StringIO"), bases := [(.ref (137 : Nat))], mro := [(.ref (614 : Nat)), (.ref (137 : Nat)), (.ref (110 : Nat)), (.type "object")], ns := (613 : Nat), qualname := (.ofString "StringIO"), hasDict := true, slotNames := [], subclasses := [], abstract := false, collection := none, hasDel := false }), #[(some (.ref (370 : Nat))), none, (some (.str (.ofString "StringIO") 810)), (some (.str (.ofString "StringIO") 818)), (some .none), (some (.bool true))]⟩) ::
    (nat_lit 666, ⟨(.type "tuple"), none, (.seq #[.none, .none, (.bool false), (.bool false)] 0), #[]⟩) ::
    (nat_lit 672, ⟨(.type "code"), none, (.fields #[(.str (.ofString "__init__") 1170), (.str (.ofString "shlex.__init__") 1171), (.str (.ofString "/claim/cut.py") 1172), (.int 481 0), (.int 5 0), (.int 0 0), (.int 0 0), (.int 3 0), (.ref (667 : Nat)), (.bool true), (.int 318 0), (.ref (668 : Nat)), .none, (.ref (669 : Nat)), (.ref (670 : Nat)), (.ref (671 : Nat)), (.int 1179 0), (.int 481 0), (.str (.ofString "/claim/cut.py") 1180)]), #[]⟩) ::
    (nat_lit 673, ⟨(.type "function"), none, (fnD (inC 27 0) (.ofString "shlex.__init__") (.ref (666 : Nat)) .none .none (.str (.ofString "cpy313.shlex") 1156) none (.ref (672 : Nat)) .none), #[]⟩) ::
    (nat_lit 679, ⟨(.type "code"), none, (.fields #[(.str (.ofString "punctuation_chars") 1182), (.str (.ofString "shlex.punctuation_chars") 1183), (.str (.ofString "/claim/cut.py") 1184), (.int 522 0), (.int 1 0), (.int 0 0), (.int 0 0), (.int 3 0), (.ref (674 : Nat)), (.bool true), (.int 318 0), (.ref (675 : Nat)), .none, (.ref (676 : Nat)), (.ref (677 : Nat)), (.ref (678 : Nat)), (.int 1186 0), (.int 522 0), (.str (.ofString "/claim/cut.py") 1187)]), #[]⟩) ::
    (nat_lit 680, ⟨(.type "function"), none, (fnD (inC 27 1) (.ofString "shlex.punctuation_chars") .none .none .none (.str (.ofString "cpy313.shlex") 1156) none (.ref (679 : Nat)) .none), #[]⟩) ::
    (nat_lit 681, ⟨(.type "property"), none, (.fields #[(.ref (680 : Nat)), .none, .none, .none, (.str (.ofString "punctuation_chars") 1189), (.bool false)]), #[]⟩) ::
    (nat_lit 709, ⟨(.type "code"), none, (.fields #[(.str (.ofString "get_token") 1214), (.str (.ofString "shlex.get_token") 1215), (.str (.ofString "/claim/cut.py") 1216), (.int 549 0), (.int 1 0), (.int 0 0), (.int 0 0), (.int 3 0), (.ref (704 : Nat)), (.bool true), (.int 318 0), (.ref (705 : Nat)), .none, (.ref (706 : Nat)), (.ref (707 : Nat)), (.ref (708 : Nat)), (.int 1223 0), (.int 549 0), (.str (.ofString "/claim/cut.py") 1224)]), #[]⟩) ::
    (nat_lit 710, ⟨(.type "function"), none, (fnD (inC 27 5) (.ofString "shlex.get_token") .none .none .none (.str (.ofString "cpy313.shlex") 1156) none (.ref (709 : Nat)) .none), #[]⟩) ::
    (nat_lit 716, ⟨(.type "code"), none, (.fields #[(.str (.ofString "read_token") 1226), (.str (.ofString "shlex.read_token") 1227), (.str (.ofString "/claim/cut.py") 1228), (.int 576 0), (.int 1 0), (.int 0 0), (.int 0 0), (.int 3 0), (.ref (711 : Nat)), (.bool true), (.int 318 0), (.ref (712 : Nat)), .none, (.ref (713 : Nat)), (.ref (714 : Nat)), (.ref (715 : Nat)), (.int 1234 0), (.int 576 0), (.str (.ofString "/claim/cut.py") 1235)]), #[]⟩) ::
    (nat_lit 717, ⟨(.type "function"), none, (fnD (inC 27 6) (.ofString "shlex.read_token") .none .none .none (.str (.ofString "cpy313.shlex") 1156) none (.ref (716 : Nat)) .none), #[]⟩) ::
    (nat_lit 738, ⟨(.type "code"), none, (.fields #[(.str (.ofString "__iter__") 1254), (.str (.ofString "shlex.__iter__") 1255), (.str (.ofString "/claim/cut.py") 1256), (.int 723 0), (.int 1 0), (.int 0 0), (.int 0 0), (.int 3 0), (.ref (733 : Nat)), (.bool true), (.int 318 0), (.ref (734 : Nat)), .none, (.ref (735 : Nat)), (.ref (736 : Nat)), (.ref (737 : Nat)), (.int 1258 0), (.int 723 0), (.str (.ofString "/claim/cut.py") 1259)]), #[]⟩) ::
    (nat_lit 739, ⟨(.type "function"), none, (fnD (inC 27 9) (.ofString "shlex.__iter__") .none .none .none (.str (.ofString "cpy313.shlex") 1156) none (.ref (738 : Nat)) .none), #[]⟩) ::
    (nat_lit 745, ⟨(.type "code"), none, (.fields #[(.str (.ofString "__next__") 1261), (.str (.ofString "shlex.__next__") 1262), (.str (.ofString "/claim/cut.py") 1263), (.int 726 0), (.int 1 0), (.int 0 0), (.int 0 0), (.int 3 0), (.ref (740 : Nat)), (.bool true), (.int 318 0), (.ref (741 : Nat)), .none, (.ref (742 : Nat)), (.ref (743 : Nat)), (.ref (744 : Nat)), (.int 1266 0), (.int 726 0), (.str (.ofString "/claim/cut.py") 1267)]), #[]⟩) ::
    (nat_lit 746, ⟨(.type "function"), none, (fnD (inC 27 10) (.ofString "shlex.__next__") .none .none .none (.str (.ofString "cpy313.shlex") 1156) none (.ref (745 : Nat)) .none), #[]⟩) ::
    (nat_lit 748, ⟨(.type "dict"), none, (.dict #[en P (.ofString "__module__") 1165 (.str (.ofString "cpy313.shlex") 1156), en P (.ofString "__firstlineno__") 1169 (.int 479 1168), en P (.ofString "__init__") 1181 (.ref (673 : Nat)), en P (.ofString "punctuation_chars") 1189 (.ref (681 : Nat)), en P (.ofString "push_token") 1197 (.ref (688 : Nat)), en P (.ofString "push_source") 1206 (.ref (696 : Nat)), en P (.ofString "pop_source") 1213 (.ref (703 : Nat)), en P (.ofString "get_token") 1225 (.ref (710 : Nat)), en P (.ofString "read_token") 1236 (.ref (717 : Nat)), en P (.ofString "sourcehook") 1244 (.ref (724 : Nat)), en P (.ofString "error_leader") 1253 (.ref (732 : Nat)), en P (.ofString "__iter__") 1260 (.ref (739 : Nat)), en P (.ofString "__next__") 1268 (.ref (746 : Nat)), en P (.ofString "__static_attributes__") 1289 (.ref (747 : Nat)), en P (.ofString "__dict__") 1291 (.ref (750 : Nat)), en P (.ofString "__weakref__") 1293 (.ref (751 : Nat)), en P (.ofString "__doc__") 1294 .none] 4), #[]⟩) ::
    (nat_lit 749, ⟨(.type "type"), none, (.cls { name := (.ofString "shlex"), bases := [(.type "object")], mro := [(.ref (749 : Nat)), (.type "object")], ns := (748 : Nat), qualname := (.ofString "shlex"), hasDict := true, slotNames := [], subclasses := [], abstract := false, collection := none, hasDel := false }), #[none, none, (some (.str (.ofString "shlex") 1158)), (some (.str (.ofString "shlex") 1166)), (some (.builtin "object.__new__")), (some (.bool true))]⟩) ::
    (nat_lit 754, ⟨(.type "tuple"), none, (.seq #[(.bool false), (.bool true)] 0), #[]⟩) ::
    (nat_lit 760, ⟨(.type "code"), none, (.fields #[(.str (.ofString "split") 1297), (.str (.ofString "split") 1298), (.str (.ofString "/claim/cut.py") 1299), (.int 731 0), (.int 3 0), (.int 0 0), (.int 0 0), (.int 3 0), (.ref (755 : Nat)), (.bool true), (.int 318 0), (.ref (756 : Nat)), .none, (.ref (757 : Nat)), (.ref (758 : Nat)), (.ref (759 : Nat)), (.int 1304 0), (.int 731 0), (.str (.ofString "/claim/cut.py") 1305)]), #[]⟩) ::
    (nat_lit 761, ⟨(.type "function"), none, (fnD (topS 28) (.ofString "split") (.ref (754 : Nat)) .none .none (.str (.ofString "cpy313.shlex") 1156) none (.ref (760 : Nat)) .none), #[]⟩) ::
    (nat_lit 767, ⟨(.type "code"), none, (.fields #[(.str (.ofString "join") 1307), (.str (.ofString "join") 1308), (.str (.ofString "/claim/cut.py") 1309), (.int 739 0), (.int 1 0), (.int 0 0), (.int 0 0), (.int 3 0), (.ref (762 : Nat)), (.bool true), (.int 318 0), (.ref (763 : Nat)), .none, (.ref (764 : Nat)), (.ref (765 : Nat)), (.ref (766 : Nat)), (.int 1311 0), (.int 739 0), (.str (.ofString "/claim/cut.py") 1312)]), #[]⟩) ::
    (nat_lit 768, ⟨(.type "function"), none, (fnD (topS 29) (.ofString "join") .none .none .none (.str (.ofString "cpy313.shlex") 1156) none (.ref (767 : Nat)) .none), #[]⟩) ::
    (nat_lit 769, ⟨(.type "builtin_function_or_method"), none, (.fields #[(.builtin "re.Pattern.search"), (.ref (66 : Nat))]), #[]⟩) ::
    (nat_lit 775, ⟨(.type "code"), none, (.fields #[(.str (.ofString "quote") 1317), (.str (.ofString "quote") 1318), (.str (.ofString "/claim/cut.py") 1319), (.int 743 0), (.int 1 0), (.int 0 0), (.int 0 0), (.int 3 0), (.ref (770 : Nat)), (.bool true), (.int 318 0), (.ref (771 : Nat)), .none, (.ref (772 : Nat)), (.ref (773 : Nat)), (.ref (774 : Nat)), (.int 1321 0), (.int 743 0), (.str (.ofString "/claim/cut.py") 1322)]), #[]⟩) ::
    (nat_lit 776, ⟨(.type "function"), none, (fnD (topS 32) (.ofString "quote") .none .none .none (.str (.ofString "cpy313.shlex") 1156) none (.ref (775 : Nat)) .none), #[]⟩) ::
    (nat_lit 782, ⟨(.type "code"), none, (.fields #[(.str (.ofString "S_IMODE") 1326), (.str (.ofString "S_IMODE") 1327), (.str (.ofString "/claim/cut.py") 1328), (.int 750 0), (.int 1 0), (.int 0 0), (.int 0 0), (.int 3 0), (.ref (777 : Nat)), (.bool true), (.int 318 0), (.ref (778 : Nat)), .none, (.ref (779 : Nat)), (.ref (780 : Nat)), (.ref (781 : Nat)), (.int 1330 0), (.int 750 0), (.str (.ofString "/claim/cut.py") 1331)]), #[]⟩) ::
    (nat_lit 783, ⟨(.type "function"), none, (fnD (topS 34) (.ofString "S_IMODE") .none .none .none (.str (.ofString "cpy313.stat") 1324) none (.ref (782 : Nat)) .none), #[]⟩) ::
    (nat_lit 789, ⟨(.type "code"), none, (.fields #[(.str (.ofString "S_IFMT") 1333), (.str (.ofString "S_IFMT") 1334), (.str (.ofString "/claim/cut.py") 1335), (.int 752 0), (.int 1 0), (.int 0 0), (.int 0 0), (.int 3 0), (.ref (784 : Nat)), (.bool true), (.int 318 0), (.ref (785 : Nat)), .none, (.ref (786 : Nat)), (.ref (787 : Nat)), (.ref (788 : Nat)), (.int 1337 0), (.int 752 0), (.str (.ofString "/claim/cut.py") 1338)]), #[]⟩) ::
    (nat_lit 790, ⟨(.type "function"), none, (fnD (topS 35) (.ofString "S_IFMT") .none .none .none (.str (.ofString "cpy313.stat") 1324) none (.ref (789 : Nat)) .none), #[]⟩) ::
    (nat_lit 796, ⟨(.type "code"), none, (.fields #[(.str (.ofString "S_ISDIR") 1354), (.str (.ofString "S_ISDIR") 1355), (.str (.ofString "/claim/cut.py") 1356), (.int 761 0), (.int 1 0), (.int 0 0), (.int 0 0), (.int 3 0), (.ref (791 : Nat)), (.bool true), (.int 318 0), (.ref (792 : Nat)), .none, (.ref (793 : Nat)), (.ref (794 : Nat)), (.ref (795 : Nat)), (.int 1358 0), (.int 761 0), (.str (.ofString "/claim/cut.py") 1359)]), #[]⟩) ::
    (nat_lit 797, ⟨(.type "function"), none, (fnD (topS 43) (.ofString "S_ISDIR") .none .none .none (.str (.ofString "cpy313.stat") 1324) none (.ref (796 : Nat)) .none), #[]⟩) ::
    (nat_lit 803, ⟨(.type "code"), none, (.fields #[(.str (.ofString "S_ISLNK") 1361), (.str (.ofString "S_ISLNK") 1362), (.str (.ofString "/claim/cut.py") 1363), (.int 763 0), (.int 1 0), (.int 0 0), (.int 0 0), (.int 3 0), (.ref (798 : Nat)), (.bool true), (.int 318 0), (.ref (799 : Nat)), .none, (.ref (800 : Nat)), (.ref (801 : Nat)), (.ref (802 : Nat)), (.int 1365 0), (.int 763 0), (.str (.ofString "/claim/cut.py") 1366)]), #[]⟩) ::
    (nat_lit 804, ⟨(.type "function"), none, (fnD (topS 44) (.ofString "S_ISLNK") .none .none .none (.str (.ofString "cpy313.stat") 1324) none (.ref (803 : Nat)) .none), #[]⟩) ::
    (nat_lit 805, ⟨(.type "tuple"), none, (.seq #[(.int 40960 1350), (.str (.ofString "l") 1392)] 0), #[]⟩) ::
    (nat_lit 806, ⟨(.type "tuple"), none, (.seq #[(.int 49152 1352), (.str (.ofString "s") 1393)] 0), #[]⟩) ::
    (nat_lit 807, ⟨(.type "tuple"), none, (.seq #[(.int 32768 1346), (.str (.ofString "-") 1394)] 0), #[]⟩) ::
    (nat_lit 808, ⟨(.type "tuple"), none, (.seq #[(.int 24576 1344), (.str (.ofString "b") 1395)] 0), #[]⟩) ::
    (nat_lit 809, ⟨(.type "tuple"), none, (.seq #[(.int 16384 1340), (.str (.ofString "d") 1396)] 0), #[]⟩) ::
    (nat_lit 810, ⟨(.type "tuple"), none, (.seq #[(.int 8192 1342), (.str (.ofString "c") 1397)] 0), #[]⟩) ::
    (nat_lit 811, ⟨(.type "tuple"), none, (.seq #[(.int 4096 1348), (.str (.ofString "p") 1398)] 0), #[]⟩) ::
    (nat_lit 812, ⟨(.type "tuple"), none, (.seq #[(.ref (805 : Nat)), (.ref (806 : Nat)), (.ref (807 : Nat)), (.ref (808 : Nat)), (.ref (809 : Nat)), (.ref (810 : Nat)), (.ref (811 : Nat))] 0), #[]⟩) ::
    (nat_lit 813, ⟨(.type "tuple"), none, (.seq #[(.int 256 1374), (.str (.ofString "r") 1399)] 0), #[]⟩) ::
    (nat_lit 814, ⟨(.type "tuple"), none, (.seq #[(.ref (813 : Nat))] 0), #[]⟩) ::
    (nat_lit 815, ⟨(.type "tuple"), none, (.seq #[(.int 128 1376), (.str (.ofString "w") 1400)] 0), #[]⟩) ::
    (nat_lit 816, ⟨(.type "tuple"), none, (.seq #[(.ref (815 : Nat))] 0), #[]⟩) ::
    (nat_lit 817, ⟨(.type "tuple"), none, (.seq #[(.int 2112 1401), (.str (.ofString "s") 1402)] 0), #[]⟩) ::
    (nat_lit 818, ⟨(.type "tuple"), none, (.seq #[(.int 2048 1368), (.str (.ofString "S") 1403)] 0), #[]⟩) ::
    (nat_lit 819, ⟨(.type "tuple"), none, (.seq #[(.int 64 1378), (.str (.ofString "x") 1404)] 0), #[]⟩) ::
    (nat_lit 820, ⟨(.type "tuple"), none, (.seq #[(.ref (817 : Nat)), (.ref (818 : Nat)), (.ref (819 : Nat))] 0), #[]⟩) ::
    (nat_lit 821, ⟨(.type "tuple"), none, (.seq #[(.int 32 1380), (.str (.ofString "r") 1405)] 0), #[]⟩) ::
    (nat_lit 822, ⟨(.type "tuple"), none, (.seq #[(.ref (821 : Nat))] 0), #[]⟩) ::
    (nat_lit 823, ⟨(.type "tuple"), none, (.seq #[(.int 16 1382), (.str (.ofString "w") 1406)] 0), #[]⟩) ::
    (nat_lit 824, ⟨(.type "tuple"), none, (.seq #[(.ref (823 : Nat))] 0), #[]⟩) ::
    (nat_lit 825, ⟨(.type "tuple"), none, (.seq #[(.int 1032 1407), (.str (.ofString "s") 1408)] 0), #[]⟩) ::
    (nat_lit 826, ⟨(.type "tuple"), none, (.seq #[(.int 1024 1370), (.str (.ofString "S") 1409)] 0), #[]⟩) ::
    (nat_lit 827, ⟨(.type "tuple"), none, (.seq #[(.int 8 1384), (.str (.ofString "x") 1410)] 0), #[]⟩) ::
    (nat_lit 828, ⟨(.type "tuple"), none, (.seq #[(.ref (825 : Nat)), (.ref (826 : Nat)), (.ref (827 : Nat))] 0), #[]⟩) ::
    (nat_lit 829, ⟨(.type "tuple"), none, (.seq #[(.int 4 1386), (.str (.ofString "r") 1411)] 0), #[]⟩) ::
    (nat_lit 830, ⟨(.type "tuple"), none, (.seq #[(.ref (829 : Nat))] 0), #[]⟩) ::
    (nat_lit 831, ⟨(.type "tuple"), none, (.seq #[(.int 2 1388), (.str (.ofString "w") 1412)] 0), #[]⟩) ::
    (nat_lit 832, ⟨(.type "tuple"), none, (.seq #[(.ref (831 : Nat))] 0), #[]⟩) ::
    (nat_lit 833, ⟨(.type "tuple"), none, (.seq #[(.int 513 1413), (.str (.ofString "t") 1414)] 0), #[]⟩) ::
    (nat_lit 834, ⟨(.type "tuple"), none, (.seq #[(.int 512 1372), (.str (.ofString "T") 1415)] 0), #[]⟩) ::
    (nat_lit 835, ⟨(.type "tuple"), none, (.seq #[(.int 1 1390), (.str (.ofString "x") 1416)] 0), #[]⟩) ::
    (nat_lit 836, ⟨(.type "tuple"), none, (.seq #[(.ref (833 : Nat)), (.ref (834 : Nat)), (.ref (835 : Nat))] 0), #[]⟩) ::
    (nat_lit 837, ⟨(.type "tuple"), none, (.seq #[(.ref (812 : Nat)), (.ref (814 : Nat)), (.ref (816 : Nat)), (.ref (820 : Nat)), (.ref (822 : Nat)), (.ref (824 : Nat)), (.ref (828 : Nat)), (.ref (830 : Nat)), (.ref (832 : Nat)), (.ref (836 : Nat))] 0), #[]⟩) ::
    (nat_lit 843, ⟨(.type "code"), none, (.fields #[(.str (.ofString "filemode") 1418), (.str (.ofString "filemode") 1419), (.str (.ofString "/claim/cut.py") 1420), (.int 778 0), (.int 1 0), (.int 0 0), (.int 0 0), (.int 3 0), (.ref (838 : Nat)), (.bool true), (.int 318 0), (.ref (839 : Nat)), .none, (.ref (840 : Nat)), (.ref (841 : Nat)), (.ref (842 : Nat)), (.int 1427 0), (.int 778 0), (.str (.ofString "/claim/cut.py") 1428)]), #[]⟩) ::
    (nat_lit 844, ⟨(.type "function"), none, (fnD (topS 58) (.ofString "filemode") .none .none .none (.str (.ofString "cpy313.stat") 1324) none (.ref (843 : Nat)) .none), #[]⟩) ::
    (nat_lit 850, ⟨(.type "code"), none, (.fields #[(.str (.ofString "_law_files") 1432), (.str (.ofString "_law_files") 1433), (.str (.ofString "/claim/cut.py") 1434), (.int 796 0), (.int 1 0), (.int 0 0), (.int 0 0), (.int 3 0), (.ref (845 : Nat)), (.bool true), (.int 318 0), (.ref (846 : Nat)), .none, (.ref (847 : Nat)), (.ref (848 : Nat)), (.ref (849 : Nat)), (.int 1441 0), (.int 796 0), (.str (.ofString "/claim/cut.py") 1442)]), #[]⟩) ::
    (nat_lit 851, ⟨(.type "function"), none, (fnD (topS 60) (.ofString "_law_files") .none .none .none (.str (.ofString "law_oy0416_01") 1430) none (.ref (850 : Nat)) .none), #[]⟩) ::
    (nat_lit 855, ⟨(.type "code"), none, (.fields #[(.str (.ofString "_law_octal") 1444), (.str (.ofString "_law_octal") 1445), (.str (.ofString "/claim/cut.py") 1446), (.int 803 0), (.int 1 0), (.int 0 0), (.int 0 0), (.int 3 0), (.ref (852 : Nat)), (.bool true), (.int 318 0), (.ref (853 : Nat)), .none, .none, .none, (.ref (854 : Nat)), (.int 1447 0), (.int 803 0), (.str (.ofString "/claim/cut.py") 1448)]), #[]⟩) ::
    (nat_lit 856, ⟨(.type "function"), none, (fnD (topS 61) (.ofString "_law_octal") .none .none .none (.str (.ofString "law_oy0416_01") 1430) none (.ref (855 : Nat)) .none), #[]⟩) ::
    (nat_lit 860, ⟨(.type "code"), none, (.fields #[(.str (.ofString "_law_come") 1450), (.str (.ofString "_law_come") 1451), (.str (.ofString "/claim/cut.py") 1452), (.int 805 0), (.int 1 0), (.int 0 0), (.int 0 0), (.int 3 0), (.ref (857 : Nat)), (.bool true), (.int 318 0), (.ref (858 : Nat)), .none, .none, .none, (.ref (859 : Nat)), (.int 1453 0), (.int 805 0), (.str (.ofString "/claim/cut.py") 1454)]), #[]⟩) ::
    (nat_lit 861, ⟨(.type "function"), none, (fnD (topS 62) (.ofString "_law_come") .none .none .none (.str (.ofString "law_oy0416_01") 1430) none (.ref (860 : Nat)) .none), #[]⟩) ::
    (nat_lit 867, ⟨(.type "code"), none, (.fields #[(.str (.ofString "_law_row") 1456), (.str (.ofString "_law_row") 1457), (.str (.ofString "/claim/cut.py") 1458), (.int 808 0), (.int 1 0), (.int 0 0), (.int 0 0), (.int 3 0), (.ref (862 : Nat)), (.bool true), (.int 318 0), (.ref (863 : Nat)), .none, (.ref (864 : Nat)), (.ref (865 : Nat)), (.ref (866 : Nat)), (.int 1464 0), (.int 808 0), (.str (.ofString "/claim/cut.py") 1465)]), #[]⟩) ::
    (nat_lit 868, ⟨(.type "function"), none, (fnD (topS 63) (.ofString "_law_row") .none .none .none (.str (.ofString "law_oy0416_01") 1430) none (.ref (867 : Nat)) .none), #[]⟩) ::
    (nat_lit 874, ⟨(.type "code"), none, (.fields #[(.str (.ofString "_law_plain") 1467), (.str (.ofString "_law_plain") 1468), (.str (.ofString "/claim/cut.py") 1469), (.int 816 0), (.int 1 0), (.int 0 0), (.int 0 0), (.int 3 0), (.ref (869 : Nat)), (.bool true), (.int 318 0), (.ref (870 : Nat)), .none, (.ref (871 : Nat)), (.ref (872 : Nat)), (.ref (873 : Nat)), (.int 1473 0), (.int 816 0), (.str (.ofString "/claim/cut.py") 1474)]), #[]⟩) ::
    (nat_lit 875, ⟨(.type "function"), none, (fnD (topS 64) (.ofString "_law_plain") .none .none .none (.str (.ofString "law_oy0416_01") 1430) none (.ref (874 : Nat)) .none), #[]⟩) ::
    (nat_lit 879, ⟨(.type "code"), none, (.fields #[(.str (.ofString "law") 1476), (.str (.ofString "law") 1477), (.str (.ofString "/claim/cut.py") 1478), (.int 824 0), (.int 1 0), (.int 0 0), (.int 0 0), (.int 3 0), (.ref (876 : Nat)), (.bool true), (.int 318 0), (.ref (877 : Nat)), .none, .none, .none, (.ref (878 : Nat)), (.int 1479 0), (.int 824 0), (.str (.ofString "/claim/cut.py") 1480)]), #[]⟩) ::
    (nat_lit 880, ⟨(.type "function"), none, (fnD (topS 65) (.ofString "law") .none .none .none (.str (.ofString "law_oy0416_01") 1430) none (.ref (879 : Nat)) .none), #[]⟩) ::
    []
noncomputable abbrev hdAs : List Addr := 2 :: 3 :: 44 :: 48 :: 49 :: 53 :: 54 :: 60 :: 61 :: 65 :: 66 :: 72 :: 73 :: 79 :: 80 :: 106 :: 107 :: 109 :: 110 :: 111 :: 136 :: 137 :: 367 :: 377 :: 383 :: 384 :: 390 :: 391 :: 397 :: 398 :: 553 :: 559 :: 560 :: 613 :: 614 :: 666 :: 672 :: 673 :: 679 :: 680 :: 681 :: 709 :: 710 :: 716 :: 717 :: 738 :: 739 :: 745 :: 746 :: 748 :: 749 :: 754 :: 760 :: 761 :: 767 :: 768 :: 769 :: 775 :: 776 :: 782 :: 783 :: 789 :: 790 :: 796 :: 797 :: 803 :: 804 :: 805 :: 806 :: 807 :: 808 :: 809 :: 810 :: 811 :: 812 :: 813 :: 814 :: 815 :: 816 :: 817 :: 818 :: 819 :: 820 :: 821 :: 822 :: 823 :: 824 :: 825 :: 826 :: 827 :: 828 :: 829 :: 830 :: 831 :: 832 :: 833 :: 834 :: 835 :: 836 :: 837 :: 843 :: 844 :: 850 :: 851 :: 855 :: 856 :: 860 :: 861 :: 867 :: 868 :: 874 :: 875 :: 879 :: 880 :: []
theorem hd_as (P : Params) : hdAs = (hd.heap_39 P).map (·.1) := by kernel_rfl
noncomputable abbrev hdXt : Shared → Bool := fun s => xlAt hd.view_39 [] s && recOk [] s
theorem head_1 (w : World) : headX (fencedOpening treeTable PW w 11668) (fun s₀ => s₀.heap.isNs mainGlobals && s₀.gens.size == 0)
    (fun s₀ => runX through (stepOk s₀.heap.objs.size (s₀.heap.nsMap mainGlobals "__annotations__")) (stepT (denote treeTable) PW w) 11668 (toT s₀) (topStub PW))
    (fun _ _ => true) (fun s => ((openSeen hd.view_39 looseN (importedModules PW.main.body) hdXt true s).1, (openSeen hd.view_39 looseN (importedModules PW.main.body) hdXt true s).2.1, (openSeen hd.view_39 looseN (importedModules PW.main.body) hdXt true s).2.2.2.2.1, (openSeen hd.view_39 looseN (importedModules PW.main.body) hdXt true s).2.2.2.2.2.1, (openSeen hd.view_39 looseN (importedModules PW.main.body) hdXt true s).2.2.2.2.2.2.1, (openSeen hd.view_39 looseN (importedModules PW.main.body) hdXt true s).2.2.2.2.2.2.2.2)) = some (expectedOf hd.view_39, bltViewBooted, pinGoodD (drecsOf hd.view_39), plainGoodE hd.view_39 (looseW hd.view_39 looseN), plainGoodD hd.view_39 looseN, clsGoodW hd.view_39 looseN) := by
  unfold fencedOpening
  rw [Fast.te10274390034422433532, Fast.te1435165496053646825, Fast.te14289696077712309145, Fast.te14364793385576792824, Fast.te10156331382660048174, Fast.te11892475500146522536, Fast.te6613529449190102663, Fast.te8920871248978507458, Fast.te5923862056798008813, Fast.te4187177175401517315]
  kernel_rfl
theorem head_2 (w : World) : headX (fencedOpening treeTable PW w 11668) (fun s₀ => s₀.heap.isNs mainGlobals && s₀.gens.size == 0)
    (fun s₀ => runX through (stepOk s₀.heap.objs.size (s₀.heap.nsMap mainGlobals "__annotations__")) (stepT (denote treeTable) PW w) 11668 (toT s₀) (topStub PW))
    (fun _ _ => true) (fun s => (openSeen hd.view_39 looseN (importedModules PW.main.body) hdXt true s).2.2.1) = some true := by
  unfold fencedOpening
  rw [Fast.te10274390034422433532, Fast.te1435165496053646825, Fast.te14289696077712309145, Fast.te14364793385576792824, Fast.te10156331382660048174, Fast.te11892475500146522536, Fast.te6613529449190102663, Fast.te8920871248978507458, Fast.te5923862056798008813, Fast.te4187177175401517315]
  kernel_rfl
theorem head_3 (w : World) : headX (fencedOpening treeTable PW w 11668) (fun s₀ => s₀.heap.isNs mainGlobals && s₀.gens.size == 0)
    (fun s₀ => runX through (stepOk s₀.heap.objs.size (s₀.heap.nsMap mainGlobals "__annotations__")) (stepT (denote treeTable) PW w) 11668 (toT s₀) (topStub PW))
    (fun s₀ s₁ => staticsOk (importedModules PW.main.body) s₀.heap s₁.heap && namesBound PW s₁.heap && gensDone s₁ && laidKept s₀.heap s₁.heap) (fun s => ((openSeen hd.view_39 looseN (importedModules PW.main.body) hdXt true s).2.2.2.1, (openSeen hd.view_39 looseN (importedModules PW.main.body) hdXt true s).2.2.2.2.2.2.2.1)) = some (true, wideGood hd.view_39) := by
  unfold fencedOpening
  rw [Fast.te10274390034422433532, Fast.te1435165496053646825, Fast.te14289696077712309145, Fast.te14364793385576792824, Fast.te10156331382660048174, Fast.te11892475500146522536, Fast.te6613529449190102663, Fast.te8920871248978507458, Fast.te5923862056798008813, Fast.te4187177175401517315]
  kernel_rfl
theorem head_4 (w : World) : headX (fencedOpening treeTable PW w 11668) (fun s₀ => s₀.heap.isNs mainGlobals && s₀.gens.size == 0)
    (fun s₀ => runX through (stepOk s₀.heap.objs.size (s₀.heap.nsMap mainGlobals "__annotations__")) (stepT (denote treeTable) PW w) 11668 (toT s₀) (topStub PW))
    (fun _ _ => true) (fun s => hdAs.map s.heap.get?) = some ((hd.heap_39 w.params).map fun p => some p.2) := by
  unfold fencedOpening
  try rw [Fast.te10274390034422433532]; try rw [Fast.te1435165496053646825]; try rw [Fast.te14289696077712309145]; try rw [Fast.te14364793385576792824]; try rw [Fast.te10156331382660048174]; try rw [Fast.te11892475500146522536]; try rw [Fast.te6613529449190102663]; try rw [Fast.te8920871248978507458]; try rw [Fast.te5923862056798008813]; try rw [Fast.te4187177175401517315]
  kernel_rfl

theorem hd_left : LeftO PW hd.view_39 looseN hdXt (fun s => hdAs.map s.heap.get?) (fun w => (hd.heap_39 w.params).map fun p => some p.2) 11668 := left_of_head fun w => by
  obtain ⟨s₀, s₁, h0, h1, h2, _, l1⟩ := headX_out (head_1 w)
  obtain ⟨u₀, u₁, g0, _, g2, _, l2⟩ := headX_out (head_2 w)
  obtain ⟨v₀, v₁, f0, _, f2, f3, l3⟩ := headX_out (head_3 w)
  obtain ⟨z₀, z₁, y0, _, y2, _, aK⟩ := headX_out (head_4 w)
  rw [h0] at g0 f0 y0
  cases g0; cases f0; cases y0
  rw [h2] at g2 f2 y2
  cases g2; cases f2; cases y2
  refine (headX_in h0 h1 h2 f3).trans ?_
  simp only [Prod.mk.injEq] at l1 l3
  obtain ⟨a0, a1, a4, a5, a6, a8⟩ := l1
  obtain ⟨a3, a7⟩ := l3
  refine congrArg some (Prod.ext ?_ aK)
  exact Prod.ext a0 (Prod.ext a1 (Prod.ext l2 (Prod.ext a3 (Prod.ext a4 (Prod.ext a5 (Prod.ext a6 (Prod.ext a7 a8)))))))
noncomputable abbrev rwL := PySem.Challenge.rw_oy0416_01
theorem hd_said : OpenLaw.wellSaid rwL = true := by
  rw [Fast.te9446332074065402090]
  refine (look_both (look_both (look_both (look_both (look_both (look_both (look_both (look_both (look_both (look_both (look_both (look_both (look_both (look_both (look_both (look_both (look_both (look_both (look_both (look_both (look_both (look_both (look_both (look_both (look_both (look_both (look_both (look_both (look_both (look_both (look_both (look_both (look_both (look_both (look_both (look_both (look_both (look_both ?_ ?_) ?_) ?_) ?_) ?_) ?_) ?_) ?_) ?_) ?_) ?_) ?_) ?_) ?_) ?_) ?_) ?_) ?_) ?_) ?_) ?_) ?_) ?_) ?_) ?_) ?_) ?_) ?_) ?_) ?_) ?_) ?_) ?_) ?_) ?_) ?_) ?_) ?_)
  all_goals decide +kernel
noncomputable def hdD : DefRec := match topS 65 with
  | .FunctionDef n ps b _ _ _ sc _ _ pos => { name := n, params := ps, body := b, scope := sc, pos := pos }
  | _ => { name := .ofString "", params := { posonlyargs := [], args := [], vararg := none, kwonlyargs := [], kw_defaults := [], kwarg := none, defaults := [] }, body := [], scope := PW.main.scope, pos := default }
theorem hd_def : defOf hd.view_39 rwL.row.name = some (hdD, []) := by kernel_rfl
theorem hd_the : rwL.row.prog.theDef rwL.row.name = some (hdD.params, hdD.body, hdD.scope) := by kernel_rfl
theorem hd_kw : kwWritten? hdD.params.kwonlyargs hdD.params.kw_defaults = some [] := by kernel_rfl
theorem hd_wr : (!rwL.row.writes || List.isEmpty rwL.row.records) = true := by kernel_rfl
theorem hd_ok : (chainsOk hd.view_39 && opensWell rwL.row.prog && (frees rwL.row.toRowW && rwL.row.within.isEmpty)) = true := by kernel_rfl
theorem hd_bare : rwL.row.prog.bare := ⟨rfl, rfl, rfl, rfl, rfl, by kernel_rfl⟩
theorem hd_prom : rwL.row.toRowW.promised := ⟨[.list []], by decide +kernel, by decide +kernel⟩
theorem hd (walk : WalkO hd.view_39 looseN (XL hd.view_39 []) (kHook hd.heap_39 hdAs hd_as).says rwL.row.toRowW hdD [] fun f vs => PySem.call f vs) : rwL.Holds :=
  holds_law hd_said fun said => W.holds_open (N := 11668) hd_left (kHook hd.heap_39 hdAs hd_as).of (kHook hd.heap_39 hdAs hd_as).keeps
    (fun s e => xl_of s (Bool.and_eq_true_iff.mp e).1) XL.keeps hd_def hd_the hd_kw (fun s e => recFacts_of (Bool.and_eq_true_iff.mp e).2) hd_wr said hd_ok hd_bare hd_prom walk
end Mine
end
section
open PySem PySem.W PyProof.Rows
set_option maxRecDepth 100000
set_option maxHeartbeats 8000000
namespace Mine
noncomputable abbrev LO := looseW Mine.hd.view_39
        [Str.ofString "twin_re_1_smtplib", Str.ofString "_twin_re_2", Str.ofString "twin_re_1_shlex",
        Str.ofString "UnsupportedOperation", Str.ofString "IOBase", Str.ofString "BufferedIOBase",
        Str.ofString "TextIOBase", Str.ofString "BytesIO", Str.ofString "StringIO", Str.ofString "join_path",
        Str.ofString "shlex", Str.ofString "split", Str.ofString "join_shlex", Str.ofString "_find_unsafe",
        Str.ofString "_filemode_table"]

noncomputable def KS (w : World) (mg mb : Str → Option Value) (f : Addr) (vs : List Value) (d u : Nat) (Pre : Heap → Prop) (Post : Heap → Value → Prop) : Prop :=
  ∀ (dp un : Nat) (gd : Option (List Code)) (outer : List Env) (base : Heap) (s : Shared) (Q E : Value → Shared → Prop),
    Below { handled := none, depth := dp, frames := some outer, guards := gd, units := un } base outer s.heap → (Mine.hd.heap_39 w.params).In s.heap → TopRead Mine.hd.view_39 LO mg mb s.heap → Pre s.heap →
    dp + d < recursionLimit → un + u < cLine →
    (∀ v h' tk', (∀ b o, s.heap.get? b = some o → h'.get? b = some o) → Post h' v → Q v { s with heap := h', toks := tk' }) →
    wpAny (model PySem.Challenge.rw_oy0416_01.row.prog w) { handled := none, depth := dp, frames := some outer, guards := gd, units := un } (call (.ref f) vs) Q E s

noncomputable def KS0 (w : World) (mg mb : Str → Option Value) (f : Addr) (vs : List Value) (d u : Nat) (Pre : Heap → Prop) (Post : Heap → Value → Prop) : Prop :=
  ∀ (dp un : Nat) (gd : Option (List Code)) (fr : Option (List Env)) (s : Shared) (Q E : Value → Shared → Prop),
    (Mine.hd.heap_39 w.params).In s.heap → TopRead Mine.hd.view_39 LO mg mb s.heap → Pre s.heap →
    dp + d < recursionLimit → un + u < cLine →
    (∀ v h' tk', (∀ b o, s.heap.get? b = some o → h'.get? b = some o) → Post h' v → Q v { s with heap := h', toks := tk' }) →
    wpAny (model PySem.Challenge.rw_oy0416_01.row.prog w) { handled := none, depth := dp, frames := fr, guards := gd, units := un } (call (.ref f) vs) Q E s

section
variable {w : World} {mg mb : Str → Option Value} {f : Addr} {vs : List Value} {d u : Nat} {Pre : Heap → Prop} {Post : Heap → Value → Prop}
variable {A A₀ : Around} {outer : List Env} {base h₀ : Heap} {s : Shared} {Q E : Value → Shared → Prop} {L : Addr} {m : Str → Option Value} {news : List (Addr × Obj)} {env : Env}

theorem KS0.ks (C : KS0 w mg mb f vs d u Pre Post) : KS w mg mb f vs d u Pre Post :=
  fun dp un gd outer _ s Q E _ X T hp hd hu ret => C dp un gd (some outer) s Q E X T hp hd hu ret

theorem use_KS (C : KS w mg mb f vs d u Pre Post) (hh : A.handled = none) (B : Below A₀ base outer h₀) (F : Fr h₀ L s.heap m) (N : News h₀ L s.heap news) (X : (Mine.hd.heap_39 w.params).In h₀)
    (T : TopRead Mine.hd.view_39 LO mg mb h₀) (hA : A.frames = some (env :: outer)) (hf : env.frame = some L) (hke : env.scope.kind = .function) (hp : Pre s.heap)
    (hd : A.depth + d < recursionLimit) (hu : A.units + u < cLine)
    (ret : ∀ v h' tk', Fr h₀ L h' m → News h₀ L h' news → (∀ b o, s.heap.get? b = some o → h'.get? b = some o) → Post h' v → Q v { s with heap := h', toks := tk' }) :
    wpAny (model PySem.Challenge.rw_oy0416_01.row.prog w) A (call (.ref f) vs) Q E s := by
  have B1 := pushX B F hf hke
  obtain ⟨hA1, hA2, hA3, hA4, hA5⟩ := A
  dsimp only at hh hA
  subst hh hA
  refine C hA2 hA5 hA4 (env :: outer) base s Q E ⟨rfl, B1.stays, B1.frames⟩ (X.keeps F.keep) (T.keeps F.keep) hp hd hu fun v h' tk' k P => ret v h' tk' (F.keeps k) (fun p hp => ⟨k _ _ (N p hp).1, (N p hp).2⟩) k P

theorem use_KS0 (C : KS0 w mg mb f vs d u Pre Post) (hh : A.handled = none) (F : Fr h₀ L s.heap m) (N : News h₀ L s.heap news) (X : (Mine.hd.heap_39 w.params).In h₀)
    (T : TopRead Mine.hd.view_39 LO mg mb h₀) (hp : Pre s.heap)
    (hd : A.depth + d < recursionLimit) (hu : A.units + u < cLine)
    (ret : ∀ v h' tk', Fr h₀ L h' m → News h₀ L h' news → (∀ b o, s.heap.get? b = some o → h'.get? b = some o) → Post h' v → Q v { s with heap := h', toks := tk' }) :
    wpAny (model PySem.Challenge.rw_oy0416_01.row.prog w) A (call (.ref f) vs) Q E s :=
  by
  obtain ⟨hA1, hA2, hA3, hA4, hA5⟩ := A
  dsimp only at hh
  subst hh
  exact C hA2 hA5 hA4 hA3 s Q E (X.keeps F.keep) (T.keeps F.keep) hp hd hu fun v h' tk' k P => ret v h' tk' (F.keeps k) (fun p hp => ⟨k _ _ (N p hp).1, (N p hp).2⟩) k P
end

section
variable {w : World} {A : Around} {s : Shared} {K : Frag} {Q E : Value → Shared → Prop}
theorem enter_def {name qual : Str} {params : Arguments} {body : List Stmt} {scope : Scope} {dV kV doc pm cdv ct oc : Value} {an od : Option Addr} {osl : Array (Option Value)} {f : Addr} {vs : List Value} {kw : List (Str × Value)} {binds : List (Str × Value)}
    {p : Program} {loose : List Str} {mg mb : Str → Option Value} {prog : Program}
    (X : K.In s.heap) (T : TopRead p loose mg mb s.heap)
    (ho : K.lookup f = some ⟨oc, od, .func (fnOf name qual params body scope dV kV doc pm an cdv ct), osl⟩) (hcd : codeIn K cdv qual = true) (hroom : A.depth < recursionLimit)
    (hbind : BindsTo s (fnOf name qual params body scope dV kV doc pm an cdv ct) ⟨vs, kw⟩ binds) (hloc : ∀ y ∈ binds, scope.names.lookup y.1 = some .local)
    (h : ∀ L' h₁, Fr s.heap L' h₁ (fun y => binds.reverse.lookup y) → News s.heap L' h₁ [] →
      wpAny (model prog w) (A.deeper (envOf qual scope L' f cdv)) (execs body (envOf qual scope L' f cdv))
        (fun fl s' => Q (match fl with | .ret v => v | _ => .none) s')
        (fun _ _ => False)
        { s with heap := h₁, toks := s.toks + binds.length })
    (hcell : ∀ x ∈ scope.names, x.2 ≠ .cell) (hco : scope.isCoroutine = false) (hgen : scope.isGenerator = false) (hk : scope.kind = .function) :
    wpAny (model prog w) A (call (.ref f) vs kw) Q E s := by
  refine wpAny_call ?_
  refine codeAny_call_def (fd := fnOf name qual params body scope dV kV doc pm an cdv ct) (body := body) (binds := binds) hroom (X _ _ ho) rfl T.nolimit (codeRec_of X hcd) rfl hbind hcell hloc (fun h₁ hns hk₁ => ?_) hco hgen hk
  exact wpAny_mono (h s.heap.objs.size h₁ ⟨hns, fun b o e => hk₁ b o e, Nat.le_refl _⟩ News.nil) (fun _ _ y => y) (fun _ _ y => y.elim)
end

section
variable {w : World} {A : Around} {s : Shared} {K : Frag} {Q E : Value → Shared → Prop}
theorem enter_defC {name qual : Str} {params : Arguments} {body : List Stmt} {scope : Scope} {dV kV doc pm cdv ct oc : Value} {an od : Option Addr} {osl : Array (Option Value)} {f : Addr} {vs : List Value} {kw : List (Str × Value)} {binds : List (Str × Value)}
    {p : Program} {loose : List Str} {mg mb : Str → Option Value} {prog : Program}
    (X : K.In s.heap) (T : TopRead p loose mg mb s.heap)
    (ho : K.lookup f = some ⟨oc, od, .func (fnOf name qual params body scope dV kV doc pm an cdv ct), osl⟩) (hcd : codeIn K cdv qual = true) (hroom : A.depth < recursionLimit)
    (hbind : BindsTo s (fnOf name qual params body scope dV kV doc pm an cdv ct) ⟨vs, kw⟩ binds) (hkind : (binds.all fun y => scope.names.lookup y.1 == some .local || scope.names.lookup y.1 == some .cell) = true)
    (hnd : ((cellsFrom 0 scope.names []).map (·.1)).Nodup)
    (h : ∀ L' h₁ tk cells, Fr s.heap L' h₁ (bindL (envOfC qual scope L' f cdv).kindOf binds fun _ => none) → News s.heap L' h₁ cells →
      CellsAre (bindC (envOfC qual scope L' f cdv).kindOf binds fun _ => none) (cellsFrom (L' + 1) scope.names []) cells →
      wpAny (model prog w) (A.deeper (envOfC qual scope L' f cdv)) (execs body (envOfC qual scope L' f cdv))
        (fun fl s' => Q (match fl with | .ret v => v | _ => .none) s')
        (fun _ _ => False)
        { s with heap := h₁, toks := tk })
    (hco : scope.isCoroutine = false) (hgen : scope.isGenerator = false) (hk : scope.kind = .function) :
    wpAny (model prog w) A (call (.ref f) vs kw) Q E s := by
  refine wpAny_call ?_
  refine codeAny_call_function (fd := fnOf name qual params body scope dV kV doc pm an cdv ct) hroom (X _ _ ho) rfl hco hgen rfl (codeRec_of X hcd) (hbind _ _ _ _ ?_)
  refine wpAny_newFunctionEnv_cells hk (kindsX hkind _) fun env' he s' x => ?_
  subst he
  refine ⟨T.nolimit.keeps x.toInCall.keep, codeAny_func ?_⟩
  obtain ⟨h₁, tk, rfl, _⟩ := x.done
  have hk₁ := x.toInCall.keep
  obtain ⟨cells, NC, Y⟩ := Cl.news (h₀ := s.heap) (Nat.le_refl _) fun n c hm => ⟨x.cell n c (lookup_of_mem_nodup (cellsFrom_names scope.names 0 (s.heap.objs.size + 1) [] [] rfl ▸ hnd) hm), x.above n c hm⟩
  exact wpAny_mono (h s.heap.objs.size h₁ tk cells ⟨x.toInCall.ns, fun b o e => hk₁ b o e, Nat.le_refl _⟩ NC Y) (fun _ _ y => y) (fun _ _ y => y.elim)
end

section
variable {M : Model} {A : Around} {E : Value → Shared → Prop} {s : Shared} {K : Frag} {h₀ : Heap} {L C : Addr} {m mg mb : Str → Option Value} {scope : Scope} {cl : List (Str × Addr)} {env : Env} {p : Program} {loose : List Str} {x : Str} {pos : Pos} {v : Value} {Q : Value → Shared → Prop}
theorem ld_globalR (F : Fr h₀ L s.heap m) (X : K.In h₀) (T : TopRead p loose mg mb h₀) (e : nsIn K mainGlobals x = some (some v)) (h : Q v s) (hg : env.globals = mainGlobals := by rfl)
    (hk : (compEnvC scope cl C env).scope.kind = .function := by rfl) (hx : (compEnvC scope cl C env).kindOf x = some .globalImplicit := by rfl) (hd : (x == ("__debug__" : Str)) = false := by decide) :
    wpAny M A (eval (.Name x pos) (compEnvC scope cl C env)) Q E s :=
  PySem.Calls.Name_function_global hk hx (PySem.Calls.loadGlobal_global (env := compEnvC scope cl C env) (show s.heap.Ns env.globals mg from hg ▸ (T.keeps F.keep).g) (mg_of X T.g e) h) hd
theorem ld_builtR (F : Fr h₀ L s.heap m) (X : K.In h₀) (T : TopRead p loose mg mb h₀) (e : nsIn K mainGlobals x = some none) (hv : bootBuiltins x = some v) (hn : x ≠ "__name__") (h : Q v s) (hg : env.globals = mainGlobals := by rfl) (hb : env.builtins = builtinsNs := by rfl)
    (hk : (compEnvC scope cl C env).scope.kind = .function := by rfl) (hx : (compEnvC scope cl C env).kindOf x = some .globalImplicit := by rfl) (hd : (x == ("__debug__" : Str)) = false := by decide) :
    wpAny M A (eval (.Name x pos) (compEnvC scope cl C env)) Q E s :=
  PySem.Calls.Name_function_global hk hx (PySem.Calls.loadGlobal_builtin (env := compEnvC scope cl C env) (show s.heap.Ns env.globals mg from hg ▸ (T.keeps F.keep).g) (mg_none_of X T.g e) (show s.heap.Ns env.builtins mb from hb ▸ (T.keeps F.keep).b) ((T.builtins x hn).trans hv) h) hd
end

section
variable {prog : Program} {w : World} {A : Around} {E : Value → Shared → Prop} {s : Shared} {h₀ : Heap} {L : Addr} {news : List (Addr × Obj)}
theorem strs_values : ∀ {vs : List Value} {ts : List Str}, StrsAre vs ts → ∃ l : List (Str × Tok), vs = strValues l ∧ l.map (·.1) = ts
  | _, _, .nil => ⟨[], rfl, rfl⟩
  | _, _, .cons m t h => by
    obtain ⟨l, rfl, e⟩ := strs_values h
    exact ⟨(m, t) :: l, rfl, by rw [List.map_cons, e]⟩
theorem join_at {x : Str} {t : Tok} {D : Addr} {vs : List Value} {ts : List Str} {Q : Value → Shared → Prop} (hl : s.heap.IsList D vs.toArray) (hs : StrsAre vs ts)
    (hw : (ts.map (·.length)).sum + ts.length * x.length ≤ 16777216) (h : ∀ t' k, Q (.str (Txt.join x ts) t') { s with toks := k }) :
    wpAny (model prog w) A (call (.builtin "str.join") [.str x t, .ref D]) Q E s := by
  obtain ⟨l, rfl, e⟩ := strs_values hs
  exact SC.join hl e (joinOk_of hw) h
theorem join_led {x : Str} {t : Tok} {D : Addr} {vs : List Value} {ts : List Str} {Q : Value → Shared → Prop} (N : News h₀ L s.heap news) (hm : (D, LCg.lst vs) ∈ news) (hs : StrsAre vs ts)
    (hw : (ts.map (·.length)).sum + ts.length * x.length ≤ 16777216) (h : ∀ t' k, Q (.str (Txt.join x ts) t') { s with toks := k }) :
    wpAny (model prog w) A (call (.builtin "str.join") [.str x t, .ref D]) Q E s :=
  join_at ⟨_, (N _ hm).1, rfl, _, rfl⟩ hs hw h
theorem dig_len (a : Int) : (Str.ofString (toString (Int.fmod a 8))).length = 1 := by
  have h1 := Int.fmod_nonneg_of_pos a (show (0:Int) < 8 by decide)
  have h2 := Int.fmod_lt_of_pos a (show (0:Int) < 8 by decide)
  generalize Int.fmod a 8 = k at h1 h2
  have : k = 0 ∨ k = 1 ∨ k = 2 ∨ k = 3 ∨ k = 4 ∨ k = 5 ∨ k = 6 ∨ k = 7 := by (first | lia | omega)
  rcases this with rfl | rfl | rfl | rfl | rfl | rfl | rfl | rfl <;> decide +kernel
end

end Mine
end
section
open PySem PySem.W PyProof.Rows
set_option maxRecDepth 100000
set_option maxHeartbeats 8000000
set_option linter.unusedVariables false
namespace Mine

structure Kx (X : Addr → Prop) (g : Prop) (J : Shared → Prop) (s s' : Shared) : Prop where
  heap : ∀ b o, ¬ X b → s.heap.get? b = some o → s'.heap.get? b = some o
  os : s'.os = s.os
  gens : g → (s'.gens, s'.drawn) = (s.gens, s.drawn)
  inv : J s → J s'
theorem Kx.refl {X : Addr → Prop} {g : Prop} {J : Shared → Prop} (s : Shared) : Kx X g J s s := ⟨fun _ _ _ e => e, rfl, fun _ => rfl, id⟩
theorem Kx.trans {X : Addr → Prop} {g : Prop} {J : Shared → Prop} {a b c : Shared} (x : Kx X g J a b) (y : Kx X g J b c) : Kx X g J a c :=
  ⟨fun b o h e => y.heap b o h (x.heap b o h e), y.os.trans x.os, fun h => (y.gens h).trans (x.gens h), fun h => y.inv (x.inv h)⟩

noncomputable def LL (h : Heap) (D : Addr) (ys : Array Value) : Prop := ∃ o, h.get? D = some o ∧ ∃ n, o = listOf ys n
theorem LL.isList {h : Heap} {D : Addr} {ys : Array Value} (x : LL h D ys) : h.IsList D ys := let ⟨_, ho, n, e⟩ := x; ⟨_, ho, by rw [e], n, by rw [e]⟩
theorem LL.at {h h' : Heap} {D : Addr} {ys : Array Value} (x : LL h D ys) (k : ∀ o, h.get? D = some o → h'.get? D = some o) : LL h' D ys := let ⟨o, ho, r⟩ := x; ⟨o, k o ho, r⟩
theorem LL.extBut {h h' : Heap} {D b : Addr} {ys : Array Value} (x : LL h D ys) (hs : Heap.ExtBut b h h') (hne : D ≠ b) : LL h' D ys := x.at fun o e => hs D o hne e
theorem LL.append {prog : Program} {w : World} {A : Around} {E : Value → Shared → Prop} {s : Shared} {D : Addr} {ys : Array Value} {x : Value} {Q : Value → Shared → Prop} (hsz : ys.size ≤ sizeLine) (hl : LL s.heap D ys)
    (h : ∀ h', LL h' D (ys.push x) → Heap.SameBut D s.heap h' → Q .none { s with heap := h' }) : wpAny (model prog w) A (call (.builtin "list.append") [.ref D, x]) Q E s := by
  (have hZ1 := hl; try clear hl; (obtain ⟨o, ho, n, rfl⟩ := hZ1))
  exact append_at (hsz := hsz) ho fun h' hs ho' => h h' ⟨_, ho', _, rfl⟩ hs

section
variable {prog : Program} {w : World} {A : Around} {E : Value → Shared → Prop} {env : Env}
theorem lc_block {elt target iter : Expr} {scope : Scope} {cl : List (Str × Addr)} {pos : Pos} {s₂ : Shared} {I : Addr} {fp wr : List Addr} {n : Nat} {P : Nat → Value → Prop} {St : Nat → Heap → Prop}
    {X : Addr → Prop} {g : Prop} {J : Shared → Prop} {F : Heap → Nat → Value → Value → List Addr → Prop} {Bd : Value → (Str → Option Value) → Prop}
    {RR : Value → Addr → Result → Shared → Prop}
    (W : Walks prog w A I fp wr n P St) (hsz : n ≤ sizeLine)
    (hX : ∀ b, X b → b < s₂.heap.objs.size ∧ b ∉ fp)
    (hJ : ∀ s s' : Shared, (s'.gens, s'.drawn, s'.os) = (s.gens, s.drawn, s.os) → (∀ b o, X b → s.heap.get? b = some o → s'.heap.get? b = some o) → J s → J s')
    (hXl : ∀ s : Shared, J s → ∀ b, X b → ∃ o, s.heap.get? b = some o)
    (hF : ∀ (h h' : Heap) i v y fy, F h i v y fy → (∀ a ∈ fy, ∀ o, h.get? a = some o → h'.get? a = some o) → F h' i v y fy)
    (hlive : ∀ i h, St i h → ∀ b ∈ wr, ∃ o, h.get? b = some o)
    (hcell : ∀ y ∈ scope.names, y.2 ≠ .cell) (hkind : scope.kind = .function)
    (hst : St 0 s₂.heap) (hfp : ∀ b ∈ fp, b < s₂.heap.objs.size) (hJ0 : J s₂)
    (hasg : ∀ C i v (s : Shared) m (Q : Unit → Shared → Prop) (E' : Value → Shared → Prop), s₂.heap.objs.size ≤ C → i < n → P i v → St (i + 1) s.heap → s.heap.Ns C m → (∀ b o, ¬ X b → b ∉ wr → s₂.heap.get? b = some o → s.heap.get? b = some o) →
      (∀ h' tk m', h'.Ns C m' → Bd v m' → (∀ b o, b ≠ C → s.heap.get? b = some o → h'.get? b = some o) → Q () { s with heap := h', toks := tk }) →
      wpAny (model prog w) A (letOwnedTupleGo target (.ref I) v) (fun _ s₁ => wpAny (model prog w) A (assign target (compEnvC scope cl C env) v) Q E' s₁) E' s)
    (helt : ∀ C i v (s₃ : Shared) m₃ (E' : Value → Shared → Prop), s₂.heap.objs.size ≤ C → i < n → P i v → Bd v m₃ → s₃.heap.Ns C m₃ → (∀ b o, ¬ X b → b ∉ wr → s₂.heap.get? b = some o → s₃.heap.get? b = some o) → J s₃ → (g → (s₃.gens, s₃.drawn) = (s₂.gens, s₂.drawn)) →
      wpAny (model prog w) A (eval elt (compEnvC scope cl C env)) (fun y s₄ => (∃ fy, F s₄.heap i v y fy ∧ (∀ a ∈ fy, s₃.heap.get? a = none ∧ ∃ o, s₄.heap.get? a = some o)) ∧ Kx (fun b => X b ∨ b = C) g J s₃ s₄ ∧ s₄.heap.Ns C m₃) E' s₃)
    (hRR : ∀ D C (s' : Shared) m' ys, s₂.heap.objs.size ≤ D → s₂.heap.get? C = none → D ≠ C → s'.heap.Ns C m' → LL s'.heap D ys → ys.size = n →
      (∀ j y, ys[j]? = some y → ∃ v fy, P j v ∧ F s'.heap j v y fy ∧ ∀ a ∈ fy, a ≠ C ∧ a ≠ D ∧ s₂.heap.get? a = none) →
      (∀ b o, ¬ X b → b ∉ wr → s₂.heap.get? b = some o → s'.heap.get? b = some o) → s'.os = s₂.os → (g → (s'.gens, s'.drawn) = (s₂.gens, s₂.drawn)) → J s' → RR (.ref D) C (.ok .next) s') :
    wpAny (model prog w) A (newList []) (fun acc s₃ => wpAny (model prog w) A (newFunctionEnv scope env.globals cl [] env.qual none .none (some env)) (fun cenv s₄ =>
      codeAny (model prog w) A (.compStart (.ListComp elt [⟨target, iter, [], 0⟩] scope pos) 0 (.ref I) acc { cenv with scope := relabel scope env }) (RR acc cenv.locals) s₄) E s₃) E s₂ := by
  refine wpAny_newObj_type (wpAny_newFunctionEnv hcell (by intro y hy; simp at hy) (fun h₁ hns₁ hsb₁ => ?_) hkind)
  dsimp only at hns₁ hsb₁ ⊢
  generalize hH2 : s₂.heap.push { cls := .type "list", dict := none, data := .seq ([] : List Value).toArray } = H2 at hns₁ hsb₁ ⊢
  have hC : H2.objs.size = s₂.heap.objs.size + 1 := by rw [← hH2, Heap.size_push]
  have hDC : s₂.heap.objs.size ≠ H2.objs.size := by rw [hC]; exact Nat.ne_of_lt (Nat.lt_succ_self _)
  have hCle : s₂.heap.objs.size ≤ H2.objs.size := by rw [hC]; exact Nat.le_succ _
  have below : ∀ b, b < s₂.heap.objs.size → b ≠ H2.objs.size ∧ b ≠ s₂.heap.objs.size := fun b hb => ⟨by rw [hC]; exact Nat.ne_of_lt (Nat.lt_succ_of_lt hb), Nat.ne_of_lt hb⟩
  have hDf : s₂.heap.objs.size ∉ fp := fun hm => Nat.lt_irrefl _ (hfp _ hm)
  have hCf : H2.objs.size ∉ fp := fun hm => by have := hfp _ hm; rw [hC] at this; exact Nat.lt_irrefl _ (Nat.lt_of_succ_lt this)
  have hCw : H2.objs.size ∉ wr := fun h => hCf (W.sub _ h)
  have hDw : s₂.heap.objs.size ∉ wr := fun h => hDf (W.sub _ h)
  have hXC : ∀ b, X b → b ≠ H2.objs.size := fun b hb => (below b (hX b hb).1).1
  have hXD : ∀ b, X b → b ≠ s₂.heap.objs.size := fun b hb => (below b (hX b hb).1).2
  have hXw : ∀ b, X b → b ∉ wr := fun b hb h => (hX b hb).2 (W.sub _ h)
  have nXC : ¬ X H2.objs.size := fun h => hXC _ h rfl
  have nXD : ¬ X s₂.heap.objs.size := fun h => hXD _ h rfl
  have old : ∀ b o, s₂.heap.get? b = some o → h₁.get? b = some o := fun b o e => hsb₁.extBut b o (below b (Heap.lt_size e)).1 (Heap.get?_push_of_some _ (hH2 ▸ Heap.get?_push_of_some _ e))
  have hacc : LL h₁ s₂.heap.objs.size #[] := ⟨_, hsb₁.extBut _ _ hDC (Heap.get?_push_of_some _ (hH2 ▸ Heap.get?_push_size _ rfl)), _, rfl⟩
  have hst₁ : St 0 h₁ := W.frame _ _ _ hst fun b _ o e => old b o e
  have fresh : ∀ a, s₂.heap.objs.size ≤ a → s₂.heap.get? a = none := fun a ha => by
    cases e : s₂.heap.get? a with
    | none => rfl
    | some o' => exact absurd (Heap.lt_size e) (Nat.not_lt.mpr ha)
  have hfrC := fresh _ hCle
  have hfrD := fresh _ (Nat.le_refl s₂.heap.objs.size)
  have loop : ∀ s₃ : Shared, s₃ = { s₂ with heap := h₁, toks := s₂.toks + ([] : List (Str × Value)).length } →
      codeAny (model prog w) A (.compLoop (.ListComp elt [⟨target, iter, [], 0⟩] scope pos) 0 (.ref I) (.ref s₂.heap.objs.size) (compEnvC scope cl H2.objs.size env))
        (RR (.ref s₂.heap.objs.size) H2.objs.size) s₃ := by
    rintro s₃ rfl
    refine kcp_loop
      (fun k s' => ∃ i m' ys, i ≤ n ∧ k = n + 1 - i ∧ Array.size ys = i ∧ St i s'.heap ∧ LL s'.heap s₂.heap.objs.size ys ∧ s'.heap.Ns H2.objs.size m' ∧
        (∀ j y, ys[j]? = some y → ∃ v fy, P j v ∧ F s'.heap j v y fy ∧ ∀ a ∈ fy, a ≠ H2.objs.size ∧ a ≠ s₂.heap.objs.size ∧ a ∉ wr ∧ s₂.heap.get? a = none ∧ ∃ o, s'.heap.get? a = some o) ∧
        (∀ b o, ¬ X b → b ∉ wr → s₂.heap.get? b = some o → s'.heap.get? b = some o) ∧ s'.os = s₂.os ∧ (g → (s'.gens, s'.drawn) = (s₂.gens, s₂.drawn)) ∧ J s') ?_ (n + 1)
      ⟨0, _, #[], Nat.zero_le _, rfl, rfl, hst₁, hacc, hns₁, fun j y e => by simp at e, fun b o _ _ e => old b o e, rfl, fun _ => rfl, hJ s₂ _ rfl (fun b o _ e => old b o e) hJ0⟩
    · (intro k; intro s'; intro hZ6; (refine Mine.xa3_11 hZ6 ?_; clear hZ6; intro i m' ys hi eZ17 hys hst' hacc' hn' hP hk hos hg hJ'; subst eZ17))
      by_cases hlt : i < n
      · refine W.item i _ _ _ hlt hst' fun v h₂ tk₂ hPv hst₂ hk₂ => ?_
        refine hasg H2.objs.size i v _ _ _ _ hCle hlt hPv hst₂ (hn'.at' fun o e => hk₂ _ o hCw e) (fun b o hbX hbw e => hk₂ b o hbw (hk b o hbX hbw e)) fun h₃ tk₃ m₃ hn₃ hBd hk₃ => ?_
        have up₃ : ∀ b o, b ≠ H2.objs.size → b ∉ wr → s'.heap.get? b = some o → h₃.get? b = some o := fun b o hbC hbw e => hk₃ b o hbC (hk₂ b o hbw e)
        have hst₃ : St (i + 1) h₃ := W.frame _ _ _ hst₂ fun b hb o e => hk₃ b o (fun q => hCf (q ▸ hb)) e
        have hJ₃ : J { s' with heap := h₃, toks := tk₃ } := hJ s' _ rfl (fun b o hb e => up₃ b o (hXC b hb) (hXw b hb) e) hJ'
        refine wpAny_mono (helt H2.objs.size i v { s' with heap := h₃, toks := tk₃ } m₃ _ hCle hlt hPv hBd hn₃ (fun b o hbX hbw e => up₃ b o (below b (Heap.lt_size e)).1 hbw (hk b o hbX hbw e)) hJ₃ hg) (fun y s₄ h₄ => ?_) fun _ _ e => e
        (have hZ21 := h₄; try clear h₄; (refine Mine.xa0_3 hZ21 ?_; clear hZ21; intro eZ24 K0 hN4; (refine Mine.xa1_2 eZ24 ?_; clear eZ24; intro fy hFy hfy)))
        have K : ∀ b o, b ≠ H2.objs.size → ¬ X b → h₃.get? b = some o → s₄.heap.get? b = some o := fun b o h1 h2 e => K0.heap b o (fun h => h.elim h2 h1) e
        have nXw : ∀ b ∈ wr, ¬ X b := fun b hb h => hXw b h hb
        have hst₄ : St (i + 1) s₄.heap := W.frame _ _ _ hst₃ fun b hb o e => K b o (fun q => hCf (q ▸ hb)) (fun h => (hX b h).2 hb) e
        have hacc₄ : LL s₄.heap s₂.heap.objs.size ys := hacc'.at fun o e => K _ o hDC nXD (up₃ _ o hDC hDw e)
        refine LL.append (by rw [hys]; (first | lia | omega)) hacc₄ fun h₅ hl₅ hs₅ => ?_
        have up₅ : ∀ b o, b ≠ s₂.heap.objs.size → s₄.heap.get? b = some o → h₅.get? b = some o := fun b o hb e => hs₅.extBut b o hb e
        refine ⟨n + 1 - (i + 1), by (first | lia | omega), i + 1, m₃, ys.push y, hlt, rfl, by simp [hys], W.frame _ _ _ hst₄ fun b hb o e => up₅ b o (fun h => hDf (h ▸ hb)) e, hl₅,
          hN4.sameBut hs₅ (Ne.symm hDC), ?_, ?_, K0.os.trans hos, fun h => (K0.gens h).trans (hg h), hJ s₄ _ rfl (fun b o hb e => up₅ b o (hXD b hb) e) (K0.inv hJ₃)⟩
        · intro j y' e
          rw [Array.getElem?_push] at e
          split at e
          · rename_i hj
            cases e
            rw [hj, hys]
            (first | refine Mine.in4 v fy hPv (hF _ _ _ _ _ _ hFy (fun a ha o eo => up₅ a o (fun h => ?_) eo)) (fun a ha => ?_) | refine Mine.in3 v fy hPv ⟨hF _ _ _ _ _ _ hFy (fun a ha o eo => up₅ a o (fun h => ?_) eo), fun a ha => ?_⟩ | refine Mine.in2 v fy ⟨hPv, hF _ _ _ _ _ _ hFy (fun a ha o eo => up₅ a o (fun h => ?_) eo), fun a ha => ?_⟩)
            · have := (hfy a ha).1
              (have hZ25 := hacc'; try clear hacc'; (refine Mine.xa1_2 hZ25 ?_; clear hZ25; intro o' eo' _))
              rw [h] at this
              rw [show ({ s' with heap := h₃, toks := tk₃ } : Shared).heap.get? s₂.heap.objs.size = some o' from up₃ _ _ hDC hDw eo'] at this
              cases this
            · have hn := (hfy a ha).1
              have hne : a ≠ s₂.heap.objs.size := fun h => by
                (have hZ26 := hacc'; try clear hacc'; (refine Mine.xa1_2 hZ26 ?_; clear hZ26; intro o' eo' _))
                rw [h] at hn
                rw [show ({ s' with heap := h₃, toks := tk₃ } : Shared).heap.get? s₂.heap.objs.size = some o' from up₃ _ _ hDC hDw eo'] at hn
                cases hn
              have hneC : a ≠ H2.objs.size := fun h => by
                (have hZ27 := hn₃; try clear hn₃; (refine Mine.xa3_2 hZ27 ?_; clear hZ27; intro o' _ _ eo' _))
                rw [h, show ({ s' with heap := h₃, toks := tk₃ } : Shared).heap.get? H2.objs.size = some o' from eo'] at hn
                cases hn
              have hnw : a ∉ wr := fun h => by
                obtain ⟨o', eo'⟩ := hlive _ _ hst₃ a h
                rw [show ({ s' with heap := h₃, toks := tk₃ } : Shared).heap.get? a = some o' from eo'] at hn
                cases hn
              have hnX : ¬ X a := fun h => by
                obtain ⟨o', eo'⟩ := hXl _ hJ₃ a h
                rw [eo'] at hn
                cases hn
              (first | refine Mine.in3 hneC hne hnw ⟨?_, (by obtain ⟨o', eo'⟩ := (hfy a ha).2; exact ⟨o', up₅ a o' hne eo'⟩)⟩ | refine Mine.in2 hneC hne ⟨hnw, ?_, (by obtain ⟨o', eo'⟩ := (hfy a ha).2; exact ⟨o', up₅ a o' hne eo'⟩)⟩ | refine ⟨hneC, hne, hnw, ?_, (by obtain ⟨o', eo'⟩ := (hfy a ha).2; exact ⟨o', up₅ a o' hne eo'⟩)⟩)
              cases e₀ : s₂.heap.get? a with
              | none => rfl
              | some o' =>
                have := up₃ a o' hneC hnw (hk a o' hnX hnw e₀)
                rw [show ({ s' with heap := h₃, toks := tk₃ } : Shared).heap.get? a = some o' from this] at hn
                cases hn
          · (have hZ28 := hP j y' e; (refine Mine.xa2_3 hZ28 ?_; clear hZ28; intro v' fy' h1 h2 h3))
            (first | refine Mine.in4 v' fy' h1 (hF _ _ _ _ _ _ h2 (fun a ha o eo => ?_)) (fun a ha => ?_) | refine Mine.in3 v' fy' h1 ⟨hF _ _ _ _ _ _ h2 (fun a ha o eo => ?_), fun a ha => ?_⟩ | refine Mine.in2 v' fy' ⟨h1, hF _ _ _ _ _ _ h2 (fun a ha o eo => ?_), fun a ha => ?_⟩)
            · (have hZ29 := h3 a ha; (refine Mine.xa0_5 hZ29 ?_; clear hZ29; intro q1 q2 q3 q4 _))
              have nX : ¬ X a := fun h => by obtain ⟨o', eo'⟩ := hXl _ hJ0 a h; rw [q4] at eo'; cases eo'
              exact up₅ a o q2 (K a o q1 nX (up₃ a o q1 q3 eo))
            · (have hZ30 := h3 a ha; (obtain ⟨q1, q2, q3, q4, o, eo⟩ := hZ30))
              have nX : ¬ X a := fun h => by obtain ⟨o', eo'⟩ := hXl _ hJ0 a h; rw [q4] at eo'; cases eo'
              exact ⟨q1, q2, q3, q4, o, up₅ a o q2 (K a o q1 nX (up₃ a o q1 q3 eo))⟩
        · intro b o hbX hbw e
          exact up₅ b o (below b (Heap.lt_size e)).2 (K b o (below b (Heap.lt_size e)).1 hbX (up₃ b o (below b (Heap.lt_size e)).1 hbw (hk b o hbX hbw e)))
      · obtain rfl : i = n := Nat.le_antisymm hi (Nat.not_lt.mp hlt)
        refine W.done _ _ _ hst' fun h₂ tk₂ hk₂ => ?_
        refine hRR _ _ _ m' ys (Nat.le_refl _) hfrC hDC (hn'.at' fun o e => hk₂ _ o hCw e) (hacc'.at fun o e => hk₂ _ o hDw e) hys (fun j y e => ?_) (fun b o hbX hbw e => hk₂ b o hbw (hk b o hbX hbw e)) hos hg (hJ s' _ rfl (fun b o hb e => hk₂ b o (hXw b hb) e) hJ')
        (have hZ31 := hP j y e; (refine Mine.xa2_3 hZ31 ?_; clear hZ31; intro v fy h1 h2 h3))
        (first | exact Mine.in4 v fy h1 (hF _ _ _ _ _ _ h2 (fun a ha o eo => hk₂ a o (h3 a ha).2.2.1 eo)) (fun a ha => ⟨(h3 a ha).1, (h3 a ha).2.1, (h3 a ha).2.2.2.1⟩) | exact Mine.in3 v fy h1 ⟨hF _ _ _ _ _ _ h2 (fun a ha o eo => hk₂ a o (h3 a ha).2.2.1 eo), fun a ha => ⟨(h3 a ha).1, (h3 a ha).2.1, (h3 a ha).2.2.2.1⟩⟩ | exact Mine.in2 v fy ⟨h1, hF _ _ _ _ _ _ h2 (fun a ha o eo => hk₂ a o (h3 a ha).2.2.1 eo), fun a ha => ⟨(h3 a ha).1, (h3 a ha).2.1, (h3 a ha).2.2.2.1⟩⟩)
  exact codeAny_compStart_list (loop _ rfl) (W.self 0 _ _ _ hst₁ (loop _ rfl))
end
structure Xok (X : Addr → Prop) (J : Shared → Prop) (h : Heap) (l : Addr) : Prop where
  lt : ∀ b, X b → b < h.objs.size ∧ b ≠ l
  stable : ∀ s s' : Shared, (s'.gens, s'.drawn, s'.os) = (s.gens, s.drawn, s.os) → (∀ b o, X b → s.heap.get? b = some o → s'.heap.get? b = some o) → J s → J s'
  live : ∀ s : Shared, J s → ∀ b, X b → ∃ o, s.heap.get? b = some o
theorem Xok.none (h : Heap) (l : Addr) : Xok (fun _ => False) (fun _ => True) h l := ⟨fun _ h => h.elim, fun _ _ _ _ _ => trivial, fun _ _ _ h => h.elim⟩

section
variable {prog : Program} {w : World} {A : Around} {E : Value → Shared → Prop} {env : Env} {s : Shared}

theorem lc_eval {elt target iter : Expr} {scope : Scope} {cl : List (Str × Addr)} {pos : Pos} {Q : Value → Shared → Prop} (X : Addr → Prop) (g : Prop) (J : Shared → Prop) (F : Heap → Nat → Value → List Addr → Prop)
    {Bd : Heap → Value → (Str → Option Value) → Prop} {itemOk : Heap → Value → Prop}
    (hh : A.handled = none) (hclos : closureFor scope env = pure cl) (hcell : ∀ y ∈ scope.names, y.2 ≠ .cell) (hkind : scope.kind = .function)
    (hnames : ∀ y ∈ scope.names, y.2 = .local → scope.names.lookup y.1 = some .local)
    (hasg : ∀ C I l i v (h₁ : Heap) (s : Shared) m (Q : Unit → Shared → Prop) (E' : Value → Shared → Prop), itemOk h₁ v → (∀ b o, h₁.get? b = some o → o.cls = .type "tuple" → s.heap.get? b = some o) → s.heap.IsListIter I l i → s.heap.Ns C m →
      (∀ h' tk m', h'.Ns C m' → Bd h₁ v m' → (∀ b o, b ≠ C → s.heap.get? b = some o → h'.get? b = some o) → Q () { s with heap := h', toks := tk }) →
      wpAny (model prog w) A (letOwnedTupleGo target (.ref I) v) (fun _ s₁ => wpAny (model prog w) A (assign target (compEnvC scope cl C env) v) Q E' s₁) E' s)
    (h : wpAny (model prog w) A (eval iter env) (fun xv s₁ => ∃ (l : Addr) (items : Array Value), xv = .ref l ∧ s₁.heap.IsList l items ∧ items.size ≤ sizeLine ∧ Xok X J s₁.heap l ∧ (∀ b o, X b → s₁.heap.get? b = some o → o.cls ≠ .type "tuple") ∧ J s₁ ∧
      (∀ (h h' : Heap) i y fy, F h i y fy → (∀ a ∈ fy, ∀ o, h.get? a = some o → h'.get? a = some o) → F h' i y fy) ∧
      (∀ (i : Nat) (v : Value), items[i]? = some v → itemOk s₁.heap v) ∧
      (∀ (C : Addr) (i : Nat) (v : Value) (s₃ : Shared) m₃ (E' : Value → Shared → Prop), s₁.heap.objs.size ≤ C → items[i]? = some v → Bd s₁.heap v m₃ → s₃.heap.Ns C m₃ → (∀ b o, ¬ X b → s₁.heap.get? b = some o → s₃.heap.get? b = some o) → J s₃ → (g → (s₃.gens, s₃.drawn) = (s₁.gens, s₁.drawn)) →
        wpAny (model prog w) A (eval elt (compEnvC scope cl C env)) (fun y s₄ => (∃ fy, F s₄.heap i y fy ∧ (∀ a ∈ fy, s₃.heap.get? a = none ∧ ∃ o, s₄.heap.get? a = some o)) ∧ Kx (fun b => X b ∨ b = C) g J s₃ s₄ ∧ s₄.heap.Ns C m₃) E' s₃) ∧
      (∀ (D : Addr) (s' : Shared) (ys : Array Value), s₁.heap.objs.size ≤ D → LL s'.heap D ys → ys.size = items.size → (∀ (j : Nat) (y : Value), ys[j]? = some y → ∃ fy, F s'.heap j y fy ∧ ∀ a ∈ fy, a ≠ D ∧ s₁.heap.get? a = none) →
        (∀ b o, ¬ X b → s₁.heap.get? b = some o → s'.heap.get? b = some o) → s'.os = s₁.os → (g → (s'.gens, s'.drawn) = (s₁.gens, s₁.drawn)) → J s' → Q (.ref D) s')) E s)
    (hs : ∀ x, foldedSetIterable iter env x = pure x := by intro _; rfl) :
    wpAny (model prog w) A (eval (.ListComp elt [⟨target, iter, [], 0⟩] scope pos) env) Q E s := by
  rw [eval_ListComp]
  refine wpAny_comprehension_free (use := none) rfl hs hclos hkind hnames (wpAny_mono h (fun xv s₁ h₁ => ?_) fun _ _ e => e)
  (have hZ32 := h₁; try clear h₁; (refine Mine.xa2_10 hZ32 ?_; clear hZ32; intro l items eZ42 hl hsz hX hXt hJ hF hio helt hfin; subst eZ42))
  have hlt : l < s₁.heap.objs.size := by obtain ⟨_, e, _⟩ := hl; exact Heap.lt_size e
  refine wpAny_pyIter_list hl ?_
  have up : ∀ b o, s₁.heap.get? b = some o → (s₁.heap.push { cls := .type "list_iterator", data := .fields #[.ref l, .int 0 0] }).get? b = some o := fun b o e => Heap.get?_push_of_some _ e
  have hne : l ≠ s₁.heap.objs.size := Nat.ne_of_lt hlt
  have szlt : ∀ b, b < s₁.heap.objs.size → b < (s₁.heap.push { cls := .type "list_iterator", data := .fields #[.ref l, .int 0 0] }).objs.size := fun b hb => by rw [Heap.size_push]; exact Nat.lt_succ_of_lt hb
  have off : ∀ b o, s₁.heap.get? b = some o → b ∉ [s₁.heap.objs.size] := fun b o e hm => by rw [List.mem_singleton.mp hm] at e; exact Nat.lt_irrefl _ (Heap.lt_size e)
  have back : ∀ b, (s₁.heap.push { cls := .type "list_iterator", data := .fields #[.ref l, .int 0 0] }).get? b = none → s₁.heap.get? b = none := fun b e => by
    cases e₀ : s₁.heap.get? b with
    | none => rfl
    | some o => rw [up b o e₀] at e; cases e
  refine lc_block (RR := fun acc C => compPost (model prog w) A E none Q acc C) (s₂ := { s₁ with heap := s₁.heap.push { cls := .type "list_iterator", data := .fields #[.ref l, .int 0 0] } }) (F := fun h i v y fy => F h i y fy) (Bd := fun v m => Bd s₁.heap v m) (X := X) (g := g) (J := J)
    (Walks.list hh s₁.heap.objs.size l hne items) hsz (fun b hb => ⟨szlt _ (hX.lt b hb).1, fun hm => ?_⟩) hX.stable hX.live (fun h h' i v y fy f k => hF h h' i y fy f k) (fun i h st b hb => ?_) hcell hkind
    ⟨⟨_, Heap.get?_push_size _ rfl, rfl, rfl⟩, hl.at fun o e => up _ o e⟩ (fun b hb => ?_) (hX.stable s₁ _ rfl (fun b o _ e => up b o e) hJ)
    (fun C i v s m Q E' hC hi hv st hn hk hQ => hasg C _ l (i + 1) v s₁.heap s m Q E' (hio i v hv) (fun b o e ht => hk b o (fun q => hXt b o q e ht) (off b o e) (up b o e)) st.1 hn hQ)
    (fun C i v s₃ m₃ E' hC hi hv hb hn hk hj hg => helt C i v s₃ m₃ E' (Nat.le_of_lt (Nat.lt_of_lt_of_le (by rw [Heap.size_push]; exact Nat.lt_succ_self _) hC)) hv hb hn (fun b o hb' e => hk b o hb' (off b o e) (up b o e)) hj hg)
    fun D C s' m' ys hD hC hDC hn hlD hys hP hk hos hg hj => ?_
  · rcases List.mem_cons.mp hm with rfl | hm
    · exact Nat.lt_irrefl _ (hX.lt _ hb).1
    · exact (hX.lt _ hb).2 (List.mem_singleton.mp hm)
  · rw [List.mem_singleton.mp hb]; (have hZ45 := st.1; (refine Mine.xa1_2 hZ45 ?_; clear hZ45; intro o e _)); exact ⟨o, e⟩
  · rcases List.mem_cons.mp hb with rfl | hb
    · show _ < (s₁.heap.push _).objs.size; rw [Heap.size_push]; exact Nat.lt_succ_self _
    · rw [List.mem_singleton.mp hb]; exact szlt _ hlt
  · (first | refine Mine.in2 m' hn (fun h'' hs'' => ?_) | refine ⟨m', hn, fun h'' hs'' => ?_⟩)
    have hsl : ∀ b o, s₁.heap.get? b = some o → b ≠ C := fun b o e q => by rw [q, back _ hC] at e; cases e
    refine hfin D _ ys (Nat.le_trans (Nat.le_of_lt (by rw [Heap.size_push]; exact Nat.lt_succ_self _)) hD) (hlD.extBut hs''.extBut hDC) hys (fun j y e => ?_) (fun b o hb e => hs''.extBut b o (hsl b o e) (hk b o hb (off b o e) (up b o e))) hos hg (hX.stable s' _ rfl (fun b o hb e => hs''.extBut b o ?_ e) hj)
    · (have hZ46 := hP j y e; (refine Mine.xa2_3 hZ46 ?_; clear hZ46; intro v fy _ f hfy))
      (first | exact Mine.in2 fy (hF _ _ _ _ _ f fun a ha o eo => hs''.extBut a o (hfy a ha).1 eo) (fun a ha => ⟨(hfy a ha).2.1, back _ (hfy a ha).2.2⟩) | exact ⟨fy, hF _ _ _ _ _ f fun a ha o eo => hs''.extBut a o (hfy a ha).1 eo, fun a ha => ⟨(hfy a ha).2.1, back _ (hfy a ha).2.2⟩⟩)
    · obtain ⟨o', eo'⟩ := hX.live _ hJ b hb
      exact hsl b o' eo'

theorem lc_assign {elt target iter : Expr} {scope : Scope} {cl : List (Str × Addr)} {pos : Pos} {y : Str} {py : Pos} {spos : Pos} {Q : Flow → Shared → Prop} (X : Addr → Prop) (g : Prop) (J : Shared → Prop) (F : Heap → Nat → Value → List Addr → Prop)
    {Bd : Heap → Value → (Str → Option Value) → Prop} {itemOk : Heap → Value → Prop}
    (hh : A.handled = none) (hclos : closureFor scope env = pure cl) (hcell : ∀ y ∈ scope.names, y.2 ≠ .cell) (hkind : scope.kind = .function)
    (hnames : ∀ y ∈ scope.names, y.2 = .local → scope.names.lookup y.1 = some .local)
    (hasg : ∀ C I l i v (h₁ : Heap) (s : Shared) m (Q : Unit → Shared → Prop) (E' : Value → Shared → Prop), itemOk h₁ v → (∀ b o, h₁.get? b = some o → o.cls = .type "tuple" → s.heap.get? b = some o) → s.heap.IsListIter I l i → s.heap.Ns C m →
      (∀ h' tk m', h'.Ns C m' → Bd h₁ v m' → (∀ b o, b ≠ C → s.heap.get? b = some o → h'.get? b = some o) → Q () { s with heap := h', toks := tk }) →
      wpAny (model prog w) A (letOwnedTupleGo target (.ref I) v) (fun _ s₁ => wpAny (model prog w) A (assign target (compEnvC scope cl C env) v) Q E' s₁) E' s)
    (hsw : swapsWith (.ListComp elt [⟨target, iter, [], 0⟩] scope pos) (some (.Name y py)) spos.line env = pure true)
    (hy : env.kindOf y = some .local) (hp : (env.scope.kind == .class || (env.scope.kind == .module && env.locals != env.globals)) = false)
    (h : wpAny (model prog w) A (eval iter env) (fun xv s₁ => ∃ (l : Addr) (items : Array Value), xv = .ref l ∧ s₁.heap.IsList l items ∧ items.size ≤ sizeLine ∧ Xok X J s₁.heap l ∧ (∀ b o, X b → s₁.heap.get? b = some o → o.cls ≠ .type "tuple") ∧ J s₁ ∧
      (∀ (h h' : Heap) i y fy, F h i y fy → (∀ a ∈ fy, ∀ o, h.get? a = some o → h'.get? a = some o) → F h' i y fy) ∧
      (∀ (i : Nat) (v : Value), items[i]? = some v → itemOk s₁.heap v) ∧
      (∀ (C : Addr) (i : Nat) (v : Value) (s₃ : Shared) m₃ (E' : Value → Shared → Prop), s₁.heap.objs.size ≤ C → items[i]? = some v → Bd s₁.heap v m₃ → s₃.heap.Ns C m₃ → (∀ b o, ¬ X b → s₁.heap.get? b = some o → s₃.heap.get? b = some o) → J s₃ → (g → (s₃.gens, s₃.drawn) = (s₁.gens, s₁.drawn)) →
        wpAny (model prog w) A (eval elt (compEnvC scope cl C env)) (fun y s₄ => (∃ fy, F s₄.heap i y fy ∧ (∀ a ∈ fy, s₃.heap.get? a = none ∧ ∃ o, s₄.heap.get? a = some o)) ∧ Kx (fun b => X b ∨ b = C) g J s₃ s₄ ∧ s₄.heap.Ns C m₃) E' s₃) ∧
      (∃ m, s₁.heap.Ns env.locals m ∧ (∀ b, X b → b ≠ env.locals) ∧ ∀ (D : Addr) (s' : Shared) (ys : Array Value), s₁.heap.objs.size ≤ D → LL s'.heap D ys → ys.size = items.size → (∀ (j : Nat) (y : Value), ys[j]? = some y → ∃ fy, F s'.heap j y fy ∧ ∀ a ∈ fy, a ≠ D ∧ s₁.heap.get? a = none) → s'.heap.Ns env.locals (fun z => if z = y then some (.ref D) else m z) →
        (∀ b o, b ≠ env.locals → ¬ X b → s₁.heap.get? b = some o → s'.heap.get? b = some o) → s'.os = s₁.os → (g → (s'.gens, s'.drawn) = (s₁.gens, s₁.drawn)) → J s' → Q .next s')) E s)
    (hs : ∀ x, foldedSetIterable iter env x = pure x := by intro _; rfl) :
    wpAny (model prog w) A (exec (.Assign [.Name y py] (.ListComp elt [⟨target, iter, [], 0⟩] scope pos) spos) env) Q E s := by
  rw [exec_Assign_Name_used _ _ _ _ hsw]
  refine wpAny_bind (wpAny_standAt (wpAny_bind ?_))
  show wpAny _ A (do let _ ← comprehension (.ListComp elt [⟨target, iter, [], 0⟩] scope pos) scope env _ (newList []) false (eval iter env) (some (assign (.Name y py) env))) _ _ s
  refine wpAny_bind (wpAny_mono (wpAny_comprehension_free (use := some (assign (.Name y py) env)) (Q := fun _ s' => Q .next s') rfl hs hclos hkind hnames
    (wpAny_mono h (fun xv s₁ h₁ => ?_) fun _ _ e => e)) (fun _ s' hq => wpAny_pure (wpAny_pure hq)) fun _ _ e => e)
  (have hZ47 := h₁; try clear h₁; (refine Mine.xa2_10 hZ47 ?_; clear hZ47; intro l items eZ57 hl hsz hX hXt hJ hF hio helt hfin; subst eZ57))
  have hlt : l < s₁.heap.objs.size := by obtain ⟨_, e, _⟩ := hl; exact Heap.lt_size e
  refine wpAny_pyIter_list hl ?_
  have up : ∀ b o, s₁.heap.get? b = some o → (s₁.heap.push { cls := .type "list_iterator", data := .fields #[.ref l, .int 0 0] }).get? b = some o := fun b o e => Heap.get?_push_of_some _ e
  have hne : l ≠ s₁.heap.objs.size := Nat.ne_of_lt hlt
  have szlt : ∀ b, b < s₁.heap.objs.size → b < (s₁.heap.push { cls := .type "list_iterator", data := .fields #[.ref l, .int 0 0] }).objs.size := fun b hb => by rw [Heap.size_push]; exact Nat.lt_succ_of_lt hb
  have off : ∀ b o, s₁.heap.get? b = some o → b ∉ [s₁.heap.objs.size] := fun b o e hm => by rw [List.mem_singleton.mp hm] at e; exact Nat.lt_irrefl _ (Heap.lt_size e)
  have back : ∀ b, (s₁.heap.push { cls := .type "list_iterator", data := .fields #[.ref l, .int 0 0] }).get? b = none → s₁.heap.get? b = none := fun b e => by
    cases e₀ : s₁.heap.get? b with
    | none => rfl
    | some o => rw [up b o e₀] at e; cases e
  refine lc_block (RR := fun acc C => compPost (model prog w) A E (some (assign (.Name y py) env)) (fun _ s' => Q .next s') acc C) (s₂ := { s₁ with heap := s₁.heap.push { cls := .type "list_iterator", data := .fields #[.ref l, .int 0 0] } }) (F := fun h i v y fy => F h i y fy) (Bd := fun v m => Bd s₁.heap v m) (X := X) (g := g) (J := J)
    (Walks.list hh s₁.heap.objs.size l hne items) hsz (fun b hb => ⟨szlt _ (hX.lt b hb).1, fun hm => ?_⟩) hX.stable hX.live (fun h h' i v y fy f k => hF h h' i y fy f k) (fun i h st b hb => ?_) hcell hkind
    ⟨⟨_, Heap.get?_push_size _ rfl, rfl, rfl⟩, hl.at fun o e => up _ o e⟩ (fun b hb => ?_) (hX.stable s₁ _ rfl (fun b o _ e => up b o e) hJ)
    (fun C i v s m Q E' hC hi hv st hn hk hQ => hasg C _ l (i + 1) v s₁.heap s m Q E' (hio i v hv) (fun b o e ht => hk b o (fun q => hXt b o q e ht) (off b o e) (up b o e)) st.1 hn hQ)
    (fun C i v s₃ m₃ E' hC hi hv hb hn hk hj hg => helt C i v s₃ m₃ E' (Nat.le_of_lt (Nat.lt_of_lt_of_le (by rw [Heap.size_push]; exact Nat.lt_succ_self _) hC)) hv hb hn (fun b o hb' e => hk b o hb' (off b o e) (up b o e)) hj hg)
    fun D C s' m' ys hD hC hDC hn hlD hys hP hk hos hg hj => ?_
  · rcases List.mem_cons.mp hm with rfl | hm
    · exact Nat.lt_irrefl _ (hX.lt _ hb).1
    · exact (hX.lt _ hb).2 (List.mem_singleton.mp hm)
  · rw [List.mem_singleton.mp hb]; (have hZ60 := st.1; (refine Mine.xa1_2 hZ60 ?_; clear hZ60; intro o e _)); exact ⟨o, e⟩
  · rcases List.mem_cons.mp hb with rfl | hb
    · show _ < (s₁.heap.push _).objs.size; rw [Heap.size_push]; exact Nat.lt_succ_self _
    · rw [List.mem_singleton.mp hb]; exact szlt _ hlt
  · (have hZ61 := hfin; try clear hfin; (refine Mine.xa1_3 hZ61 ?_; clear hZ61; intro m0 hn0 hXl0 hfin))
    have hsl : ∀ b o, s₁.heap.get? b = some o → b ≠ C := fun b o e q => by rw [q, back _ hC] at e; cases e
    have hLC : env.locals ≠ C := by obtain ⟨o, _, _, ho, _⟩ := hn0; exact hsl _ o ho
    have hLD : env.locals ≠ D := by rintro rfl; (have hZ62 := hn0; try clear hn0; (refine Mine.xa3_2 hZ62 ?_; clear hZ62; intro o _ _ ho _)); exact absurd (Heap.lt_size ho) (Nat.not_lt.mpr (Nat.le_trans (Nat.le_of_lt (by rw [Heap.size_push]; exact Nat.lt_succ_self _)) hD))
    have hlive0 := hX.live _ hJ
    have hXL : ¬ X env.locals := fun q => hXl0 _ q rfl
    show wpAny _ A (assign (.Name y py) env (.ref D)) _ _ _
    refine wpAny_assign_Name (wpAny_storeName_local hy (hn0.at' fun o e => hk _ o hXL (off _ o e) (up _ o e)) (fun h₂ hn₂ hs₂ => ?_) hp)
    (first | refine Mine.in2 m' (hn.sameBut hs₂ (Ne.symm hLC)) (fun h₃ hs₃ => ?_) | refine ⟨m', hn.sameBut hs₂ (Ne.symm hLC), fun h₃ hs₃ => ?_⟩)
    have k3 : ∀ b o, b ≠ C → b ≠ env.locals → s'.heap.get? b = some o → h₃.get? b = some o := fun b o h1 h2 e => hs₃.extBut b o h1 (hs₂.extBut b o h2 e)
    refine hfin D _ ys (Nat.le_trans (Nat.le_of_lt (by rw [Heap.size_push]; exact Nat.lt_succ_self _)) hD) ((hlD.extBut hs₂.extBut (Ne.symm hLD)).extBut hs₃.extBut hDC) hys (fun j y' e => ?_) (hn₂.sameBut hs₃ hLC) (fun b o hbL hb e => k3 b o (hsl b o e) hbL (hk b o hb (off b o e) (up b o e))) hos hg (hX.stable s' _ rfl (fun b o hb e => k3 b o ?_ (hXl0 b hb) e) hj)
    · (have hZ63 := hP j y' e; (refine Mine.xa2_3 hZ63 ?_; clear hZ63; intro v fy _ f hfy))
      (first | exact Mine.in2 fy (hF _ _ _ _ _ f fun a ha o eo => k3 a o (hfy a ha).1 (fun q => by obtain ⟨o', _, _, ho', _⟩ := hn0; have := back _ (hfy a ha).2.2; rw [q, ho'] at this; cases this) eo) (fun a ha => ⟨(hfy a ha).2.1, back _ (hfy a ha).2.2⟩) | exact ⟨fy, hF _ _ _ _ _ f fun a ha o eo => k3 a o (hfy a ha).1 (fun q => by obtain ⟨o', _, _, ho', _⟩ := hn0; have := back _ (hfy a ha).2.2; rw [q, ho'] at this; cases this) eo, fun a ha => ⟨(hfy a ha).2.1, back _ (hfy a ha).2.2⟩⟩)
    · obtain ⟨o', eo'⟩ := hlive0 b hb
      exact hsl b o' eo'

theorem asg_name {x : Str} {px : Pos} {scope : Scope} {cl : List (Str × Addr)} (hx : scope.names.lookup x = some .local) (hkind : scope.kind = .function) :
    ∀ C I l i v (h₁ : Heap) (s : Shared) m (Q : Unit → Shared → Prop) (E' : Value → Shared → Prop), (fun _ _ => True : Heap → Value → Prop) h₁ v → (∀ b o, h₁.get? b = some o → o.cls = .type "tuple" → s.heap.get? b = some o) → s.heap.IsListIter I l i → s.heap.Ns C m →
      (∀ h' tk m', h'.Ns C m' → (fun _ v m => m x = some v : Heap → Value → (Str → Option Value) → Prop) h₁ v m' → (∀ b o, b ≠ C → s.heap.get? b = some o → h'.get? b = some o) → Q () { s with heap := h', toks := tk }) →
      wpAny (model prog w) A (letOwnedTupleGo (.Name x px) (.ref I) v) (fun _ s₁ => wpAny (model prog w) A (assign (.Name x px) (compEnvC scope cl C env) v) Q E' s₁) E' s := by
  intro C I l i v h₁ s m Q E' _ hk hit hn hQ
  refine wpAny_pure ?_
  exact wpAny_assign_Name (wpAny_storeName_local (env := compEnvC scope cl C env) (lookup_relabel_local hx) hn (fun h₂ hn₂ hs₂ => hQ h₂ _ _ hn₂ (by simp) fun b o hb e => hs₂.extBut b o hb e) (by simp [compEnvC, relabel, hkind]))

theorem asg_pair {a b : Str} {pa pb tp : Pos} {kk : Nat} {scope : Scope} {cl : List (Str × Addr)} (hh : A.handled = none) (hxa : scope.names.lookup a = some .local) (hxb : scope.names.lookup b = some .local) (hkind : scope.kind = .function) :
    ∀ C I l i v (h₁ : Heap) (s : Shared) m (Q : Unit → Shared → Prop) (E' : Value → Shared → Prop), (fun h v => ∃ T x y, v = .ref T ∧ h.IsTuple T #[x, y] : Heap → Value → Prop) h₁ v → (∀ b o, h₁.get? b = some o → o.cls = .type "tuple" → s.heap.get? b = some o) → s.heap.IsListIter I l i → s.heap.Ns C m →
      (∀ h' tk m', h'.Ns C m' → (fun h v m => ∃ T x y, v = .ref T ∧ h.IsTuple T #[x, y] ∧ m b = some y ∧ (a ≠ b → m a = some x) : Heap → Value → (Str → Option Value) → Prop) h₁ v m' → (∀ b o, b ≠ C → s.heap.get? b = some o → h'.get? b = some o) → Q () { s with heap := h', toks := tk }) →
      wpAny (model prog w) A (letOwnedTupleGo (.Tuple [.Name a pa, .Name b pb] kk tp) (.ref I) v) (fun _ s₁ => wpAny (model prog w) A (assign (.Tuple [.Name a pa, .Name b pb] kk tp) (compEnvC scope cl C env) v) Q E' s₁) E' s := by
  intro C I l i v h₁ s m Q E' hv hk hit hn hQ
  (have hZ64 := hv; try clear hv; (refine Mine.xa3_2 hZ64 ?_; clear hZ64; intro T x y eZ66 hT; subst eZ66))
  refine wpAny_letOwnedTupleGo_listiter hit ?_
  have hT' : s.heap.IsTuple T #[x, y] := by obtain ⟨o, e, hc, r⟩ := hT; exact ⟨o, hk _ _ e hc, hc, r⟩
  refine kcp_assign (env := compEnvC scope cl C env) hh hT' (lookup_relabel_local hxa) (lookup_relabel_local hxb) (by simp [compEnvC, relabel, hkind]) hn fun h₄ tk₄ hn₄ hs₄ => hQ h₄ tk₄ _ hn₄ ⟨T, x, y, rfl, hT, by simp, fun hne => by simp [hne]⟩ hs₄
end

end Mine
end
section
open PySem PySem.W PyProof.Rows
set_option maxRecDepth 100000
set_option maxHeartbeats 8000000
set_option linter.unusedVariables false
namespace Mine
noncomputable def Stop (P : Value → Shared → Prop) : Value → Shared → Prop := P
noncomputable def below (h : Heap) (C : Addr) : Heap := { h with objs := h.objs.extract 0 C }
theorem below_get (h : Heap) (C b : Addr) : (below h C).get? b = if b < C then h.get? b else none := by
  have e : (below h C).objs[b]? = if b < C then h.objs[b]? else none := by
    unfold below
    simp only [Array.getElem?_extract, Nat.zero_add, Nat.sub_zero]
    by_cases hb : b < C <;> by_cases hs : b < h.objs.size
    · simp [hb, hs, Nat.lt_min]
    · simp [hb, hs, Nat.lt_min, Array.getElem?_eq_none (Nat.not_lt.mp hs)]
    · simp [hb, hs, Nat.lt_min]
    · simp [hb, hs, Nat.lt_min]
  by_cases hb : b < C
  · rw [if_pos hb] at e ⊢
    unfold Heap.get?
    rw [e]
  · rw [if_neg hb] at e ⊢
    unfold Heap.get?
    rw [e]
theorem below_size (h : Heap) (C : Addr) : (below h C).objs.size ≤ C := by
  unfold below
  simp only [Array.size_extract]
  (first | lia | omega)
section
variable {prog : Program} {w : World} {A : Around} {E : Value → Shared → Prop} {env : Env} {s : Shared} {h₀ : Heap}
noncomputable def EltDone (F : Heap → Nat → Value → List Addr → Prop) (i : Nat) (s₁ : Shared) (C : Addr) (h₃ : Heap) (m₃ : Str → Option Value) (y : Value) (s₄ : Shared) : Prop :=
  (∃ fy, F s₄.heap i y fy ∧ (∀ a ∈ fy, h₃.get? a = none ∧ ∃ o, s₄.heap.get? a = some o)) ∧ ∃ h' tk', s₄ = { s₁ with heap := h', toks := tk' } ∧ (∀ b o, b ≠ C → h₃.get? b = some o → h'.get? b = some o) ∧ h'.Ns C m₃
theorem elt_done {F : Heap → Nat → Value → List Addr → Prop} {i : Nat} {s₁ : Shared} {C : Addr} {b₃ h₃ h' : Heap} {m₃ : Str → Option Value} {y : Value} {tk' : Nat} {rest news' : List (Addr × Obj)} {fy : List Addr}
    (hall : ∀ b o, h₃.get? b = some o → b = C ∨ b₃.get? b = some o ∨ (b, o) ∈ rest) (F' : Fr b₃ C h' m₃) (N' : News b₃ C h' news') (sub : ∀ p ∈ rest, p ∈ news') (hF : F h' i y fy) (hfy : ∀ a ∈ fy, h₃.get? a = none ∧ ∃ o, h'.get? a = some o) :
    EltDone F i s₁ C h₃ m₃ y { s₁ with heap := h', toks := tk' } := by
  refine ⟨⟨fy, hF, hfy⟩, h', tk', rfl, fun b o hb e => ?_, F'.ns⟩
  rcases hall b o e with h | h | h
  · exact absurd h hb
  · exact F'.keep b o h
  · exact (N' _ (sub _ h)).1
noncomputable def Elts (prog : Program) (w : World) (A : Around) (env : Env) (scope : Scope) (cl : List (Str × Addr)) (elt : Expr) (Bd : Heap → Value → (Str → Option Value) → Prop) (F : Heap → Nat → Value → List Addr → Prop) (s₁ : Shared) (items : Array Value) : Prop :=
  ∀ (C : Addr) (i : Nat) (v : Value) (b₃ h₃ : Heap) (tk : Nat) (m₃ : Str → Option Value) (rest : List (Addr × Obj)) (E' : Value → Shared → Prop), items[i]? = some v → Bd s₁.heap v m₃ → (∀ b o, s₁.heap.get? b = some o → b₃.get? b = some o) → Fr b₃ C h₃ m₃ → News b₃ C h₃ rest →
    (∀ b o, h₃.get? b = some o → b = C ∨ b₃.get? b = some o ∨ (b, o) ∈ rest) →
    wpAny (model prog w) A (eval elt (compEnvC scope cl C env)) (EltDone F i s₁ C h₃ m₃) E' { s₁ with heap := h₃, toks := tk }
theorem rest_of (h : Heap) (C : Addr) : ∃ rest : List (Addr × Obj), (∀ p ∈ rest, h.get? p.1 = some p.2 ∧ C < p.1) ∧ ∀ b o, h.get? b = some o → C < b → (b, o) ∈ rest := by
  refine ⟨(List.range h.objs.size).filterMap fun b => if C < b then (h.get? b).map fun o => (b, o) else none, fun p hp => ?_, fun b o e hb => ?_⟩
  · (have hZ1 := List.mem_filterMap.mp hp; (refine Mine.xa1_2 hZ1 ?_; clear hZ1; intro b hb e))
    by_cases hc : C < b
    · rw [if_pos hc] at e
      cases ho : h.get? b with
      | none => rw [ho] at e; cases e
      | some o => rw [ho] at e; cases e; exact ⟨ho, hc⟩
    · rw [if_neg hc] at e; cases e
  · exact List.mem_filterMap.mpr ⟨b, List.mem_range.mpr (Heap.lt_size e), by rw [if_pos hb, e]; rfl⟩
theorem elts_up {scope : Scope} {cl : List (Str × Addr)} {elt : Expr} {Bd : Heap → Value → (Str → Option Value) → Prop} {F : Heap → Nat → Value → List Addr → Prop} {s₁ : Shared} {items : Array Value} (he : Elts prog w A env scope cl elt Bd F s₁ items)
    (C : Addr) (i : Nat) (v : Value) (s₃ : Shared) (m₃ : Str → Option Value) (E' : Value → Shared → Prop) (hC : s₁.heap.objs.size ≤ C) (hv : items[i]? = some v) (hb : Bd s₁.heap v m₃) (hn : s₃.heap.Ns C m₃)
    (hk : ∀ b o, ¬ (fun _ : Addr => False) b → s₁.heap.get? b = some o → s₃.heap.get? b = some o) (hj : s₃.os = s₁.os) (hg : (s₃.gens, s₃.drawn) = (s₁.gens, s₁.drawn)) :
    wpAny (model prog w) A (eval elt (compEnvC scope cl C env)) (fun y s₄ => (∃ fy, F s₄.heap i y fy ∧ (∀ a ∈ fy, s₃.heap.get? a = none ∧ ∃ o, s₄.heap.get? a = some o)) ∧ Kx (fun b => False ∨ b = C) True (fun z => z.os = s₁.os) s₃ s₄ ∧ s₄.heap.Ns C m₃) E' s₃ := by
  obtain ⟨hp3, g3, d3, t3, o3⟩ := s₃
  dsimp only at hj hg hk hn
  cases hg
  subst hj
  (have hZ2 := rest_of hp3 C; (refine Mine.xa1_2 hZ2 ?_; clear hZ2; intro rest hr1 hr2))
  have hbk : ∀ b o, (below hp3 C).get? b = some o → hp3.get? b = some o := fun b o e => by
    rw [below_get] at e
    by_cases hb : b < C
    · rwa [if_pos hb] at e
    · rw [if_neg hb] at e; cases e
  refine wpAny_mono (he C i v (below hp3 C) hp3 t3 m₃ rest E' hv hb (fun b o e => ?_) ⟨hn, hbk, below_size hp3 C⟩ (fun p hp => ?_) (fun b o e => ?_)) (fun y s₄ h₄ => ?_) fun _ _ e => e
  · rw [below_get, if_pos (Nat.lt_of_lt_of_le (Heap.lt_size e) hC)]
    exact hk b o (fun h => h) e
  · (first | refine Mine.in2 ((hr1 p hp).1) (Nat.ne_of_gt (hr1 p hp).2) (?_) | refine ⟨(hr1 p hp).1, Nat.ne_of_gt (hr1 p hp).2, ?_⟩)
    rw [below_get, if_neg (Nat.not_lt.mpr (Nat.le_of_lt (hr1 p hp).2))]
  · rcases Nat.lt_trichotomy b C with h | h | h
    · exact .inr (.inl (by rw [below_get, if_pos h]; exact e))
    · exact .inl h
    · exact .inr (.inr (hr2 b o e h))
  · (have hZ3 := h₄; try clear h₄; (obtain ⟨⟨fy, hF, hfy⟩, h', tk', rfl, k, hn'⟩ := hZ3))
    exact ⟨⟨fy, hF, hfy⟩, ⟨fun b o hb e => k b o (fun q => hb (.inr q)) e, rfl, fun _ => rfl, fun _ => rfl⟩, hn'⟩
theorem lcs_assign {elt target iter : Expr} {scope : Scope} {cl : List (Str × Addr)} {pos : Pos} {y : Str} {py : Pos} {spos : Pos} {Q : Flow → Shared → Prop} (F : Heap → Nat → Value → List Addr → Prop) (hF : ∀ (h h' : Heap) i y fy, F h i y fy → (∀ a ∈ fy, ∀ o, h.get? a = some o → h'.get? a = some o) → F h' i y fy)
    {Bd : Heap → Value → (Str → Option Value) → Prop} {itemOk : Heap → Value → Prop}
    (hasg : ∀ C I l i v (h₁ : Heap) (s : Shared) m (Q : Unit → Shared → Prop) (E' : Value → Shared → Prop), itemOk h₁ v → (∀ b o, h₁.get? b = some o → o.cls = .type "tuple" → s.heap.get? b = some o) → s.heap.IsListIter I l i → s.heap.Ns C m →
      (∀ h' tk m', h'.Ns C m' → Bd h₁ v m' → (∀ b o, b ≠ C → s.heap.get? b = some o → h'.get? b = some o) → Q () { s with heap := h', toks := tk }) →
      wpAny (model prog w) A (letOwnedTupleGo target (.ref I) v) (fun _ s₁ => wpAny (model prog w) A (assign target (compEnvC scope cl C env) v) Q E' s₁) E' s)
    (hh : A.handled = none) (hclos : closureFor scope env = pure cl) (hcell : ∀ y ∈ scope.names, y.2 ≠ .cell) (hkind : scope.kind = .function)
    (hnames : ∀ y ∈ scope.names, y.2 = .local → scope.names.lookup y.1 = some .local)
    (hsw : swapsWith (.ListComp elt [⟨target, iter, [], 0⟩] scope pos) (some (.Name y py)) spos.line env = pure true)
    (hy : env.kindOf y = some .local) (hp : (env.scope.kind == .class || (env.scope.kind == .module && env.locals != env.globals)) = false)
    (h : wpAny (model prog w) A (eval iter env) (Stop fun xv s₁ => ∃ (l : Addr) (items : Array Value) (m : Str → Option Value) (news : List (Addr × Obj)), xv = .ref l ∧ s₁.os = s.os ∧ s₁.heap.IsList l items ∧ items.size ≤ sizeLine ∧ Fr h₀ env.locals s₁.heap m ∧ News h₀ env.locals s₁.heap news ∧
      (∀ (i : Nat) (v : Value), items[i]? = some v → itemOk s₁.heap v) ∧ Elts prog w A env scope cl elt Bd F s₁ items ∧
      (∀ D h' tk ys nn, Fr h₀ env.locals h' (fun z => if z = y then some (.ref D) else m z) → News h₀ env.locals h' ((D, listOf ys nn) :: news) → (∀ p ∈ news, p.1 < D) → s₁.heap.objs.size ≤ D → ys.size = items.size → (∀ (j : Nat) (v : Value), ys[j]? = some v → ∃ fy, F h' j v fy ∧ ∀ a ∈ fy, a ≠ D ∧ s₁.heap.get? a = none) → Q .next { s₁ with heap := h', toks := tk })) E s)
    (hs : ∀ x, foldedSetIterable iter env x = pure x := by intro _; rfl) :
    wpAny (model prog w) A (exec (.Assign [.Name y py] (.ListComp elt [⟨target, iter, [], 0⟩] scope pos) spos) env) Q E s := by
  refine lc_assign (fun _ => False) True (fun z => z.os = s.os) F hh hclos hcell hkind hnames hasg hsw hy hp (wpAny_mono h (fun xv s₁ h₁ => ?_) fun _ _ e => e) hs
  (have hZ16 := h₁; try clear h₁; (refine Mine.xa4_9 hZ16 ?_; clear hZ16; intro l items m news eZ25 hos hl hsz Fm N hio he hfin; subst eZ25))
  refine Mine.in2 l items ⟨rfl, hl, hsz, ⟨fun _ h => h.elim, fun a b e _ q => ?_, fun _ _ _ h => h.elim⟩, fun _ _ h => h.elim, hos, hF, hio, fun C i v s₃ m₃ E' hC hv hb hn hk hj hg => ?_, m, Fm.ns, fun _ h => h.elim, fun D s' ys hD hlD hys hG hn hk hos' hg' hj' => ?_⟩
  · have : b.os = a.os := congrArg (fun z => z.2.2) e
    rw [this]; exact q
  · rw [← hos]
    exact elts_up he C i v s₃ m₃ E' hC hv hb hn hk (hj.trans hos.symm) (hg trivial)
  · (have hZ30 := hlD; try clear hlD; (obtain ⟨o, ho, nn, rfl⟩ := hZ30))
    have hgd := hg' trivial
    obtain ⟨hp', g', d', t', o'⟩ := s'
    dsimp only at hos' hgd hn ho hk hG
    cases hgd
    subst hos'
    have hLD : D ≠ env.locals := Nat.ne_of_gt (Nat.lt_of_lt_of_le Fm.ns.lt hD)
    have hD0 : h₀.get? D = none := Heap.get?_none_of_le (Nat.le_trans Fm.above (Nat.le_trans (Nat.le_of_lt Fm.ns.lt) hD))
    have keep : ∀ b o, b ≠ env.locals → s₁.heap.get? b = some o → hp'.get? b = some o := fun b o hb e => hk b o hb (fun h => h) e
    refine hfin D hp' t' ys nn ⟨hn, fun b o e => keep b o (Nat.ne_of_lt (Nat.lt_of_lt_of_le (Heap.lt_size e) Fm.above)) (Fm.keep b o e), Fm.above⟩ (fun p hp => ?_) (fun p hp => ?_) hD hys hG
    · rcases List.mem_cons.mp hp with rfl | hp
      · exact ⟨ho, hLD, hD0⟩
      · exact ⟨keep _ _ (N p hp).2.1 (N p hp).1, (N p hp).2⟩
    · exact Nat.lt_of_lt_of_le (Heap.lt_size (N p hp).1) hD
theorem ld_comp {M : Model} {C : Addr} {m : Str → Option Value} {scope : Scope} {cl : List (Str × Addr)} {x : Str} {pos : Pos} {v : Value} {Q : Value → Shared → Prop} (F : Fr h₀ C s.heap m) (hm : m x = some v) (h : Q v s)
    (hk : (compEnvC scope cl C env).scope.kind = .function := by rfl) (hx : (compEnvC scope cl C env).kindOf x = some .local := by rfl) (hd : (x == ("__debug__" : Str)) = false := by decide) :
    wpAny M A (eval (.Name x pos) (compEnvC scope cl C env)) Q E s := wpAny_Name (wpAny_loadName_local hk hx F.ns hm h) hd
end
end Mine
end
section
open PySem PySem.W PyProof.Rows
set_option maxRecDepth 100000
set_option maxHeartbeats 8000000
set_option linter.unusedVariables false
namespace Mine
section
variable {prog : Program} {w : World} {A : Around} {E : Value → Shared → Prop} {s : Shared}

theorem genexp_list {env : Env} {elt iter : Expr} {x : Str} {px : Pos} {scope : Scope} {cl : List (Str × Addr)} {pos : Pos} {Q : Value → Shared → Prop} {mg : Str → Option Value} {bm : Addr} {ob : Obj} {c P : Addr}
    (hcode : env.code = .ref c) (hh : A.handled = none) (hco : scope.isCoroutine = false) (hclos : closureFor scope env = pure cl) (hcell : ∀ y ∈ scope.names, y.2 ≠ .cell) (h0 : scope.names.lookup (".0" : Str) = some NameKind.local)
    (hx : scope.names.lookup x = some .local) (hkind : scope.kind = .function) (hroom : A.depth < recursionLimit)
    (h : wpAny (model prog w) A (eval iter env) (fun xv s₁ => ∃ (l : Addr) (items : Array Value) (ps : Array Value) (F : Nat → Value → Prop), xv = .ref l ∧ s₁.heap.IsList l items ∧ s₁.heap.NoLimit ∧ BMod s₁.heap env.globals mg bm ob ∧
      s₁.heap.IsCode c P ps ∧ s₁.heap.TableAt c P ps ∧ (codeAmong pos ps.toList = none ∨ ∃ c', codeAmong pos ps.toList = some (.ref c')) ∧
      (∀ (code : Value) (C : Addr) (A' : Around) (E' : Value → Shared → Prop) (i : Nat) (v : Value) (t : Shared) m₂, A'.handled = none → A'.depth ≤ A.depth + 1 → A'.units ≤ A.units + 8 → items[i]? = some v → t.heap.Ns C m₂ → m₂ x = some v → s₁.heap.objs.size ≤ C →
        (∀ b o, b ≠ P → s₁.heap.get? b = some o → t.heap.get? b = some o) →
        wpAny (model prog w) A' (eval elt (genEnv scope cl C code builtinsNs env)) (fun y s₃ => F i y ∧ Keeps t s₃) E' t) ∧
      (∀ (a K : Nat) (s₅ : Shared) (ps' : Array Value), (ps' = ps ∨ ∃ c', ps' = ps ++ #[rawInt pos.line, rawInt pos.col, .ref c'] ∧ codeAmong pos ps.toList = none) → s₅.heap.TableAt c P ps' → s₅.heap.IsCode c P ps' → (AllBare s₁.gens → AllBare s₅.gens) → s₅.os = s₁.os →
        (∀ b o, b ≠ P → s₁.heap.get? b = some o → s₅.heap.get? b = some o) → K + 1 = s₁.heap.objs.size → Gen prog w A K a items.size (fun j y => ∃ i, (List.range items.size)[j]? = some i ∧ F i y) s₅ → Q (.ref a) s₅)) E s)
    (hs : ∀ x, genFold iter env x = pure x) :
    wpAny (model prog w) A (eval (.GeneratorExp elt [⟨.Name x px, iter, [], 0⟩] scope pos) env) Q E s := by
  refine wpAny_GeneratorExp_walksQD hh hco hclos hcell h0 hx hkind hroom (wpAny_mono h (fun xv s₁ h₁ => ?_) fun _ _ e => e) hs
  (have hZ1 := h₁; try clear h₁; (refine Mine.xa4_9 hZ1 ?_; clear hZ1; intro l items ps F eZ10 hl hlim M hC hT hpos helt hfin; subst eZ10))
  have hlt : l < s₁.heap.objs.size := by obtain ⟨_, e, _⟩ := hl; exact Heap.lt_size e
  have hlP : l ≠ P := fun e => by
    (have hZ15 := hl; try clear hl; (refine Mine.xa1_3 hZ15 ?_; clear hZ15; intro o ho hc _))
    rw [e, hT.2] at ho; cases ho; exact absurd hc (by simp)
  have hPlt : P < s₁.heap.objs.size := Heap.lt_size hT.2
  obtain ⟨Kb, hKb⟩ : ∃ K : Nat, K + 1 = s₁.heap.objs.size := ⟨s₁.heap.objs.size - 1, Nat.sub_add_cancel (Nat.succ_le_of_lt (Nat.lt_of_le_of_lt (Nat.zero_le l) hlt))⟩
  refine wpAny_pyIter_list hl ⟨hlim.push _, ?_⟩
  generalize hs2 : s₁.heap.push { cls := .type "list_iterator", data := .fields #[.ref l, .int 0 0] } = H2
  have up : ∀ b o, s₁.heap.get? b = some o → H2.get? b = some o := fun b o e => hs2 ▸ Heap.get?_push_of_some _ e
  have hz2 : H2.objs.size = s₁.heap.objs.size + 1 := by rw [← hs2, Heap.size_push]
  have hit : H2.IsListIter s₁.heap.objs.size l 0 := ⟨_, by rw [← hs2]; exact Heap.get?_push_size _ rfl, rfl, rfl⟩
  have hne : l ≠ s₁.heap.objs.size := Nat.ne_of_lt hlt
  have hcP : cStatics ≠ P := fun e => by
    (have hZ16 := hlim; try clear hlim; (refine Mine.xa1_2 hZ16 ?_; clear hZ16; intro _ hns _))
    (have hZ17 := hns; try clear hns; (refine Mine.xa3_3 hZ17 ?_; clear hZ17; intro o es ep ho hd _))
    rw [e, hT.2] at ho; cases ho; cases hd
  have hbmP : bm ≠ P := fun e => by
    have ho := M.obj
    rw [e, hT.2] at ho; cases ho; have := M.data; cases this
  have hgP : env.globals ≠ P := fun e => by
    (have hZ18 := M.ns; (refine Mine.xa3_3 hZ18 ?_; clear hZ18; intro o es ep ho hd _))
    rw [e, hT.2] at ho; cases ho; cases hd
  have main : ∀ (code : Value) (H3 : Heap) (tk : Nat) (ps' : Array Value), (ps' = ps ∨ ∃ c', ps' = ps ++ #[rawInt pos.line, rawInt pos.col, .ref c'] ∧ codeAmong pos ps.toList = none) → (∀ b o, b ≠ P → H2.get? b = some o → H3.get? b = some o) → H3.TableAt c P ps' → H3.IsCode c P ps' → H2.objs.size ≤ H3.objs.size →
      wpAny (model prog w) A (builtinsFor env.globals env.builtins) (fun bi s₄ =>
        ∃ I fp wr n₀ P St₀ pz F, (Value.ref s₁.heap.objs.size) = .ref I ∧ (∀ A' : Around, A'.handled = none → Walks prog w A' I fp wr n₀ P St₀) ∧ St₀ 0 s₄.heap ∧ (∀ b ∈ fp, b < s₄.heap.objs.size) ∧ s₄.heap.NoLimit ∧ cStatics ∉ wr ∧
          (∀ href : Heap, (∀ b o, s₄.heap.get? b = some o → href.get? b = some o) →
            QuietGenD prog w (genEnv scope cl s₄.heap.objs.size code bi env) x [] elt (List.range s₄.heap.objs.size) wr P pz F href (A.depth + 1) (A.units + 8)) ∧
          (∀ a h₅ tk gs, gs.bare = true → s₄.heap.objs.size < a → h₅.objs.size = a + 1 → (∀ b o, s₄.heap.get? b = some o → h₅.get? b = some o) →
            WalksS prog w A.in4 a (a :: s₄.heap.objs.size :: List.range s₄.heap.objs.size) (s₄.heap.objs.size :: wr) (GenOnlyQ s₄.gens.size) (passing pz n₀ 0).length
              (fun j y => ∃ i, (passing pz n₀ 0)[j]? = some i ∧ F i y) (GenAt prog w A.in4 a s₄.gens.size s₄.heap.objs.size (List.range s₄.heap.objs.size) wr pz n₀ F) →
            GenAt prog w A.in4 a s₄.gens.size s₄.heap.objs.size (List.range s₄.heap.objs.size) wr pz n₀ F 0 { s₄ with gens := s₄.gens.push gs, toks := tk, heap := h₅ } →
            Q (.ref a) { s₄ with gens := s₄.gens.push gs, toks := tk, heap := h₅ })) E { s₁ with heap := H3, toks := tk } := by
    intro code H3 tk ps' hps hk hT3 hC3 hz3
    have k3 : ∀ b o, b ≠ P → s₁.heap.get? b = some o → H3.get? b = some o := fun b o hb e => hk b o hb (up b o e)
    have M3 : H3.Ns env.globals mg := M.ns.at' fun o e => k3 _ o hgP e
    have hlim3 : H3.NoLimit := let ⟨mc, hns, hn⟩ := hlim; ⟨mc, hns.at' fun o e => k3 _ o hcP e, hn⟩
    have hIP : s₁.heap.objs.size ≠ P := Nat.ne_of_gt hPlt
    have hit3 : H3.IsListIter s₁.heap.objs.size l 0 := hit.at fun o e => hk _ o hIP e
    have hl3 : H3.IsList l items := hl.at fun o e => k3 _ o hlP e
    have hlt3 : s₁.heap.objs.size < H3.objs.size := Nat.lt_of_lt_of_le (by rw [hz2]; exact Nat.lt_succ_self _) hz3
    refine wpAny_builtinsFor M3 M.name M.ne (k3 _ _ hbmP M.obj) M.cls M.dict M.data ?_
    refine Mine.in6 (s₁.heap.objs.size) [s₁.heap.objs.size, l] [s₁.heap.objs.size] (items.size) _ _ ⟨(fun _ => true), F, rfl, (fun A' hA => Walks.list hA _ _ hne items), ⟨hit3, hl3⟩, (fun b hb => ?_), hlim3, ?_, (fun href hhref => ⟨fun A' E' i v t m₂ hA hD hU hP hn hm hkp => ?_, fun A' E' i v t m₂ hA hD hU hP hp hn hm hkp => ?_⟩), fun a h₅ tk₅ gs hgb hag hsz₅ hk₅ W hat => ?_⟩
    · rcases List.mem_cons.mp hb with rfl | hb
      · exact hlt3
      · rw [List.mem_singleton.mp hb]; exact Nat.lt_trans hlt hlt3
    · intro hm
      have h1 := List.mem_singleton.mp hm
      (have hZ19 := hlim; try clear hlim; (refine Mine.xa1_2 hZ19 ?_; clear hZ19; intro _ hns _))
      have := hns.lt
      rw [h1] at this
      exact Nat.lt_irrefl _ this
    · exact wpAny_tests_nil ⟨rfl, _, _, rfl, fun _ _ e => e⟩
    · refine helt code _ A' E' i v t m₂ hA hD hU hP hn hm (Nat.le_of_lt hlt3) fun b o hb e => ?_
      have hb' : b < s₁.heap.objs.size := Heap.lt_size e
      exact hkp b (List.mem_range.mpr (Nat.lt_trans hb' hlt3)) (fun hm => Nat.ne_of_lt hb' (List.mem_singleton.mp hm)) o (hhref b o (k3 b o hb e))
    · refine hfin a Kb _ ps' hps (hT3.keeps hk₅) (hC3.keeps hk₅) (fun g => g.push hgb) rfl (fun b o hb e => hk₅ b o (k3 b o hb e)) hKb ?_
      have hpz : passing (fun _ => true) items.size 0 = List.range items.size := by unfold passing; simp
      simp only [hpz, List.length_range] at W
      (first | refine Mine.in6 _ _ _ _ W hat ⟨(fun i s' st => st.1.typeIs), List.mem_cons_self, ?_, ?_⟩ | refine Mine.in5 _ _ _ _ W ⟨hat, (fun i s' st => st.1.typeIs), List.mem_cons_self, ?_, ?_⟩ | refine Mine.in4 _ _ _ _ ⟨W, hat, (fun i s' st => st.1.typeIs), List.mem_cons_self, ?_, ?_⟩)
      · intro b hb
        show b < h₅.objs.size
        rw [hsz₅]
        rcases List.mem_cons.mp hb with rfl | hb
        · exact Nat.lt_succ_self _
        · rcases List.mem_cons.mp hb with rfl | hb
          · exact Nat.lt_succ_of_lt hag
          · exact Nat.lt_succ_of_lt (Nat.lt_trans (List.mem_range.mp hb) hag)
      · intro b hb
        rcases List.mem_cons.mp hb with rfl | hb
        · show Kb < H3.objs.size
          exact Nat.lt_trans (by (first | lia | omega)) hlt3
        · rw [List.mem_singleton.mp hb]
          show Kb < s₁.heap.objs.size
          (first | lia | omega)
  rcases hpos with hnf | ⟨c', hhit⟩
  · refine wpAny_genexprCodeX (s := { s₁ with heap := H2 }) hcode (hC.keeps up) (hT.keeps up) hnf fun c' h₃ tk₃ hx₃ hge hlt' hcode₃ _ htab₃ _ => ?_
    exact main (.ref c') h₃ tk₃ _ (.inr ⟨c', rfl, hnf⟩) (fun b o hb e => hx₃ b o hb e) htab₃ hcode₃ (Nat.le_trans hge (Nat.le_of_lt hlt'))
  · exact wpAny_genexprCode_hit (s := { s₁ with heap := H2 }) hcode (hC.keeps up) hhit (main (.ref c') H2 s₁.toks ps (.inl rfl) (fun _ _ _ e => e) (hT.keeps up) (hC.keeps up) (Nat.le_refl _))
end
end Mine
end
section
open PySem PySem.W PyProof.Rows
set_option maxRecDepth 100000
set_option maxHeartbeats 8000000
set_option linter.unusedVariables false
namespace Mine
open PySem.Sre

theorem runFor_add (a b : Nat) : ∀ m : M, M.runFor (a + b) m = M.runFor b (M.runFor a m) := by
  induction a with
  | zero => intro m; rw [Nat.zero_add]; rfl
  | succ a ih =>
    intro m
    rw [Nat.succ_add]
    show (if m.outcome.isSome = true then m else M.runFor (a + b) m.step) = M.runFor b (if m.outcome.isSome = true then m else M.runFor a m.step)
    by_cases h : m.outcome.isSome = true
    · rw [if_pos h, if_pos h]
      cases b with
      | zero => rfl
      | succ b => show m = if m.outcome.isSome = true then m else _; rw [if_pos h]
    · rw [if_neg h, if_neg h]; exact ih _
theorem runFor_halt {m : M} (h : m.outcome.isSome = true) : ∀ n, M.runFor n m = m
  | 0 => rfl
  | n + 1 => by show (if m.outcome.isSome = true then m else _) = m; rw [if_pos h]
theorem runFor_one {m : M} (h : m.outcome = none) : M.runFor 1 m = m.step := by
  show (if m.outcome.isSome = true then m else M.runFor 0 m.step) = _
  rw [h]; rfl
noncomputable def Goes (k : Nat) (m m' : M) : Prop := ∃ j, j ≤ k ∧ M.runFor j m = m'
theorem Goes.refl (m : M) : Goes 0 m m := ⟨0, Nat.le_refl _, rfl⟩
theorem Goes.trans {a b : Nat} {m m' m'' : M} (x : Goes a m m') (y : Goes b m' m'') : Goes (a + b) m m'' := by
  obtain ⟨i, hi, rfl⟩ := x
  obtain ⟨j, hj, rfl⟩ := y
  exact ⟨i + j, by (first | lia | omega), runFor_add i j m⟩
theorem Goes.le {a b : Nat} {m m' : M} (x : Goes a m m') (h : a ≤ b) : Goes b m m' := let ⟨j, hj, e⟩ := x; ⟨j, Nat.le_trans hj h, e⟩
theorem Goes.step {m m' : M} (h : m.outcome = none) (e : m.step = m') : Goes 1 m m' := ⟨1, Nat.le_refl _, (runFor_one h).trans e⟩
theorem Goes.steps {a : Nat} {m m' m'' : M} (h : m.outcome = none) (e : m.step = m') (x : Goes a m' m'') : Goes (a + 1) m m'' := by
  rw [Nat.add_comm]; exact (Goes.step h e).trans x

noncomputable def codeA : Array Nat := #[14, 4, 0, 1, 1, 6, 1, 16, 46, 1]
noncomputable def mA (text : Array Nat) (s : Nat) (first must : Bool) (seen : Sre.Seen) : M :=
  { code := codeA, text, lim := text.size, start := s, lastStart := text.size, mustAdvance := must, pc := 5, pos := s, handed := s, outermost := first, marks := #[],
    frames := [{ wait := .nextStart, pc := 5, pos := s, outermost := first }], weight := 1, seen }
noncomputable def atA (text : Array Nat) (s : Nat) : Bool := s == 0 || text.getD (s - 1) 0 == 10
theorem A_start (text : Array Nat) (s : Nat) (h : s < text.size) : forSearch codeA text 0 s text.size false = mA text s true false (({} : Sre.Seen).add 14) := by
  unfold forSearch
  have e1 : (header codeA) = (1, 5) := by decide
  simp only [e1]
  rw [if_neg (by simp; (first | lia | omega))]
  rfl
theorem A_nostart (text : Array Nat) (s : Nat) (h : ¬ s < text.size) : ∃ m', Goes 1 (forSearch codeA text 0 s text.size false) m' ∧ m'.outcome = some .failed := by
  unfold forSearch
  have e1 : (header codeA) = (1, 5) := by decide
  simp only [e1]
  rw [if_pos (by simp; (first | lia | omega))]
  exact ⟨_, Goes.step rfl rfl, rfl⟩
theorem A_at (text : Array Nat) (s : Nat) (first must : Bool) (seen : Sre.Seen) :
    (mA text s first must seen).step = if atA text s = true then { mA text s first must ((seen.add 6).add 44) with pc := 7 } else { mA text s first must ((seen.add 6).add 44) with answer := some false } := rfl
theorem A_lit (text : Array Nat) (s : Nat) (first must : Bool) (seen : Sre.Seen) (h : s < text.size) :
    ({ mA text s first must seen with pc := 7 } : M).step = if (text.getD s 0 == 46) = true then { mA text s first must (seen.add 16) with pc := 9, pos := s + 1 } else { mA text s first must (seen.add 16) with pc := 7, answer := some false } := by
  show (if s ≥ text.size then _ else _) = _
  rw [if_neg (by (first | lia | omega))]
  show (match (Except.ok ((text.getD s 0 == 46), seen.add 16) : Except String (Bool × Sre.Seen)) with | .error why => _ | .ok (false, seen) => _ | .ok (true, seen) => _) = _
  cases text.getD s 0 == 46 <;> rfl
theorem A_next (text : Array Nat) (s : Nat) (first must : Bool) (seen : Sre.Seen) (pc : Nat) (h : s < text.size) :
    ({ mA text s first must seen with pc := pc, answer := some false } : M).step = mA text (s + 1) false false seen := by
  show (if s < text.size then _ else _) = _
  rw [if_pos h]; rfl
theorem A_suc (text : Array Nat) (s : Nat) (first : Bool) (seen : Sre.Seen) :
    ({ mA text s first false seen with pc := 9, pos := s + 1 } : M).step = { mA text s first false (seen.add 1) with pc := 9, pos := s + 1, handed := s + 1, answer := some true } := by
  show (if (first && ((false && _) || (false && _))) = true then _ else _) = _
  rw [if_neg (by simp)]
  rfl
theorem A_lit_end (text : Array Nat) (first must : Bool) (seen : Sre.Seen) :
    ({ mA text text.size first must seen with pc := 7 } : M).step = { mA text text.size first must (seen.add 16) with pc := 7, answer := some false } := by
  show (if text.size ≥ text.size then _ else _) = _
  rw [if_pos (Nat.le_refl _)]; rfl
theorem A_next_end (text : Array Nat) (first must : Bool) (seen : Sre.Seen) (pc : Nat) :
    ({ mA text text.size first must seen with pc := pc, answer := some false } : M).step = { mA text text.size first must seen with answer := some false, frames := [], weight := 0 } := by
  show (if text.size < text.size then _ else _) = _
  rw [if_neg (Nat.lt_irrefl _)]; rfl

noncomputable def findFrom (p : Nat → Bool) : Nat → Nat → Option Nat
  | 0, _ => none
  | n + 1, s => if p s = true then some s else findFrom p n (s + 1)
noncomputable def hitA (text : Array Nat) (s : Nat) : Bool := atA text s && text.getD s 0 == 46
noncomputable def Ended (m' : M) : Option (Nat × Nat) → Prop
  | none => m'.outcome = some .failed
  | some p => m'.outcome = some .matched ∧ m'.start = p.1 ∧ m'.handed = p.2 ∧ m'.lastmark = -1
theorem A_run (text : Array Nat) : ∀ (n s : Nat) (first : Bool) (seen : Sre.Seen), s + n = text.size →
    ∃ m', Goes (5 * n + 5) (mA text s first false seen) m' ∧ Ended m' ((findFrom (hitA text) n s).map fun p => (p, p + 1)) := by
  intro n
  induction n with
  | zero =>
    intro s first seen hs
    obtain rfl : s = text.size := by (first | lia | omega)
    cases ha : atA text text.size with
    | true =>
      refine ⟨_, (Goes.steps rfl ((A_at ..).trans (if_pos ha)) (Goes.steps rfl (A_lit_end ..) (Goes.steps rfl (A_next_end ..) (Goes.step rfl rfl)))).le (by (first | lia | omega)), ?_⟩
      rfl
    | false =>
      refine ⟨_, (Goes.steps rfl ((A_at ..).trans (if_neg (by rw [ha]; exact Bool.false_ne_true))) (Goes.steps rfl (A_next_end _ _ _ _ 5) (Goes.step rfl rfl))).le (by (first | lia | omega)), ?_⟩
      rfl
  | succ n ih =>
    intro s first seen hs
    have hlt : s < text.size := by (first | lia | omega)
    show ∃ m', _ ∧ Ended m' ((if hitA text s = true then some s else findFrom (hitA text) n (s + 1)).map fun p => (p, p + 1))
    cases ha : atA text s with
    | false =>
      obtain ⟨m', g, e⟩ := ih (s + 1) false ((seen.add 6).add 44) (by (first | lia | omega))
      refine ⟨m', (Goes.steps rfl ((A_at ..).trans (if_neg (by rw [ha]; exact Bool.false_ne_true))) (Goes.steps rfl (A_next _ _ _ _ _ 5 hlt) g)).le (by (first | lia | omega)), ?_⟩
      rw [if_neg (by unfold hitA; rw [ha]; exact Bool.false_ne_true)]; exact e
    | true =>
      cases hd : text.getD s 0 == 46 with
      | false =>
        obtain ⟨m', g, e⟩ := ih (s + 1) false (((seen.add 6).add 44).add 16) (by (first | lia | omega))
        refine ⟨m', (Goes.steps rfl ((A_at ..).trans (if_pos ha)) (Goes.steps rfl ((A_lit _ _ _ _ _ hlt).trans (if_neg (by rw [hd]; exact Bool.false_ne_true))) (Goes.steps rfl (A_next _ _ _ _ _ 7 hlt) g))).le (by (first | lia | omega)), ?_⟩
        rw [if_neg (by unfold hitA; rw [ha, hd]; exact Bool.false_ne_true)]; exact e
      | true =>
        refine ⟨_, (Goes.steps rfl ((A_at ..).trans (if_pos ha)) (Goes.steps rfl ((A_lit _ _ _ _ _ hlt).trans (if_pos hd)) (Goes.steps rfl (A_suc ..) (Goes.steps rfl rfl (Goes.step rfl rfl))))).le (by (first | lia | omega)), ?_⟩
        rw [if_pos (by unfold hitA; rw [ha, hd]; rfl)]
        exact ⟨rfl, rfl, rfl, rfl⟩
theorem A_search (text : Array Nat) (s : Nat) (h : s ≤ text.size) :
    ∃ m', Goes (5 * text.size + 5) (forSearch codeA text 0 s text.size false) m' ∧ Ended m' ((findFrom (hitA text) (text.size - s) s).map fun p => (p, p + 1)) := by
  by_cases hlt : s < text.size
  · rw [A_start text s hlt]
    obtain ⟨m', g, e⟩ := A_run text (text.size - s) s true (({} : Sre.Seen).add 14) (by (first | lia | omega))
    exact ⟨m', g.le (by (first | lia | omega)), e⟩
  · obtain ⟨m', g, e⟩ := A_nostart text s hlt
    refine ⟨m', g.le (by (first | lia | omega)), ?_⟩
    rw [show text.size - s = 0 by (first | lia | omega)]; exact e
theorem step_lit (m : M) (h1 : m.outcome = none) (h2 : m.answer = none) (h3 : m.pc < m.code.size) (h4 : m.code.getD m.pc 0 = 16) :
    m.step = if m.pos < m.lim ∧ m.text.getD m.pos 0 = m.code.getD (m.pc + 1) 0 then { m with seen := m.seen.add 16, pc := m.pc + 2, pos := m.pos + 1 } else { m with seen := m.seen.add 16, answer := some false } := by
  obtain ⟨code, text, lim, start, lastStart, wholeText, mustAdvance, pc, pos, handed, outermost, marks, lastmark, lastindex, loops, inner, frames, weight, answer, seen, outcome⟩ := m
  dsimp only at h1 h2 h3 h4
  subst h1 h2
  have hs : M.step ⟨code, text, lim, start, lastStart, wholeText, mustAdvance, pc, pos, handed, outermost, marks, lastmark, lastindex, loops, inner, frames, weight, none, seen, none⟩ =
      (if pc < code.size then M.exec ⟨code, text, lim, start, lastStart, wholeText, mustAdvance, pc, pos, handed, outermost, marks, lastmark, lastindex, loops, inner, frames, weight, none, seen, none⟩ else M.stick ⟨code, text, lim, start, lastStart, wholeText, mustAdvance, pc, pos, handed, outermost, marks, lastmark, lastindex, loops, inner, frames, weight, none, seen, none⟩ "code:ran-off") := rfl
  rw [hs, if_pos h3]
  unfold M.exec M.word
  rw [Nat.add_zero, h4]
  show (if pos ≥ lim then _ else match accepts code pc (text.getD pos 0) (seen.add 16) with | .error why => _ | .ok (false, seen) => _ | .ok (true, seen) => _) = _
  have ha : accepts code pc (text.getD pos 0) (seen.add 16) = .ok (text.getD pos 0 == code.getD (pc + 1) 0, seen.add 16) := by unfold accepts; rw [h4]; rfl
  have hw : itemWidth code pc = 2 := by unfold itemWidth; rw [h4]; rfl
  rw [ha]
  by_cases hp : pos < lim
  · rw [if_neg (by (first | lia | omega))]
    cases hb : (text.getD pos 0 == code.getD (pc + 1) 0) with
    | true =>
      rw [if_pos ⟨hp, by simpa using hb⟩]
      dsimp only
      rw [hw]
    | false =>
      rw [if_neg (fun h => by simp [h.2] at hb)]
      rfl
  · rw [if_pos (by (first | lia | omega)), if_neg (fun h => hp h.1)]
    rfl

noncomputable def codeB : Array Nat := #[14, 9, 4, 1, 2, 16, 10, 16, 13, 0, 7, 7, 16, 13, 16, 10, 15, 18, 5, 16, 10, 15, 13, 11, 16, 13, 5, 5, 0, 16, 10, 1, 15, 2, 0, 1]
noncomputable def mB (text : Array Nat) (s : Nat) (first : Bool) (seen : Sre.Seen) : M :=
  { code := codeB, text, lim := text.size, start := s, lastStart := text.size, mustAdvance := false, pc := 10, pos := s, handed := s, outermost := first, marks := #[],
    frames := [{ wait := .nextStart, pc := 10, pos := s, outermost := first }], weight := 1, seen }
noncomputable def endB (text : Array Nat) (c : Nat) : Bool := c == 10 || c == 13
theorem B_inSet (c : Nat) (seen : Sre.Seen) : ∃ seen', inSet codeB c codeB.size 5 true seen = .ok (c == 10 || c == 13, seen') := by
  by_cases h1 : c = 10
  · subst h1; exact ⟨_, rfl⟩
  · by_cases h2 : c = 13
    · subst h2; exact ⟨_, rfl⟩
    · have e : (c == 10 || c == 13) = false := by simp [h1, h2]
      rw [e]
      refine ⟨((seen.add 16).add 16).add 0, ?_⟩
      show (if (c == 10) = true then _ else if (c == 13) = true then _ else _) = _
      rw [if_neg (by simp [h1]), if_neg (by simp [h2])]
      rfl
theorem B_admitted (m : M) (hc : m.code = codeB) : ∀ (n s : Nat) (seen : Sre.Seen), s + n = m.lim → ∃ seen', M.admitted m (n + 1) s seen = .ok (findFrom (fun i => m.text.getD i 0 == 10 || m.text.getD i 0 == 13) n s, seen') := by
  intro n
  induction n with
  | zero =>
    intro s seen h
    refine ⟨seen, ?_⟩
    show (if s ≥ m.lim then _ else _) = _
    rw [if_pos (by (first | lia | omega))]; rfl
  | succ n ih =>
    intro s seen h
    obtain ⟨seen1, e1⟩ := B_inSet (m.text.getD s 0) seen
    obtain ⟨seen2, e2⟩ := ih (s + 1) seen1 (by (first | lia | omega))
    show ∃ seen', (if s ≥ m.lim then _ else match inSet m.code (m.text.getD s 0) m.code.size 5 true seen with | .ok (true, seen) => _ | .ok (false, seen) => M.admitted m (n + 1) (s + 1) seen | .error why => _) = Except.ok ((if (m.text.getD s 0 == 10 || m.text.getD s 0 == 13) = true then some s else findFrom _ n (s + 1)), seen')
    rw [if_neg (by (first | lia | omega)), hc, e1]
    cases hb : (m.text.getD s 0 == 10 || m.text.getD s 0 == 13) with
    | true => exact ⟨seen1, rfl⟩
    | false => exact ⟨seen2, by rw [if_neg Bool.false_ne_true]; exact e2⟩
theorem B_search_none (text : Array Nat) (s : Nat) (h : s ≤ text.size) (hn : findFrom (fun i => text.getD i 0 == 10 || text.getD i 0 == 13) (text.size - s) s = none) :
    ∃ m', Goes 1 (forSearch codeB text 0 s text.size false) m' ∧ m'.outcome = some .failed := by
  unfold forSearch
  have e1 : (header codeB) = (1, 10) := by decide
  simp only [e1]
  by_cases hlt : s < text.size
  · rw [if_neg (by simp; (first | lia | omega))]
    obtain ⟨seen', e⟩ := B_admitted { code := codeB, text, lim := text.size, start := s, lastStart := text.size, pc := 10, pos := s, handed := s, marks := #[], seen := ({} : Sre.Seen).add 14 } rfl (text.size - s) s (({} : Sre.Seen).add 14) (by show s + (text.size - s) = text.size; (first | lia | omega))
    have e' : M.attemptFrom { code := codeB, text, lim := text.size, start := s, lastStart := text.size, pc := 10, pos := s, handed := s, marks := #[], seen := ({} : Sre.Seen).add 14 } s true = M.say { code := codeB, text, lim := text.size, start := s, lastStart := text.size, pc := 10, pos := s, handed := s, marks := #[], seen := seen' } false := by
      show (match M.admitted _ (text.size + 1 - s) s _ with | .ok (some s, seen) => _ | .ok (none, seen) => _ | .error why => _) = _
      rw [show text.size + 1 - s = text.size - s + 1 by (first | lia | omega), e]
      dsimp only
      rw [hn]
    show ∃ m', Goes 1 (M.attemptFrom { code := codeB, text, lim := text.size, start := s, lastStart := text.size, pc := 10, pos := s, handed := s, marks := #[], seen := ({} : Sre.Seen).add 14 } s true) m' ∧ _
    rw [e']
    exact ⟨_, Goes.step rfl rfl, rfl⟩
  · rw [if_pos (by simp; (first | lia | omega))]
    exact ⟨_, Goes.step rfl rfl, rfl⟩
theorem B_search_some (text : Array Nat) (s p : Nat) (h : s ≤ text.size) (hn : findFrom (fun i => text.getD i 0 == 10 || text.getD i 0 == 13) (text.size - s) s = some p) :
    ∃ seen, forSearch codeB text 0 s text.size false = mB text p true seen := by
  unfold forSearch
  have e1 : (header codeB) = (1, 10) := by decide
  simp only [e1]
  have hlt : s < text.size := by
    rcases Nat.lt_or_ge s text.size with h' | h'
    · exact h'
    · rw [show text.size - s = 0 by (first | lia | omega)] at hn; cases hn
  rw [if_neg (by simp; (first | lia | omega))]
  obtain ⟨seen', e⟩ := B_admitted { code := codeB, text, lim := text.size, start := s, lastStart := text.size, pc := 10, pos := s, handed := s, marks := #[], seen := ({} : Sre.Seen).add 14 } rfl (text.size - s) s (({} : Sre.Seen).add 14) (by show s + (text.size - s) = text.size; (first | lia | omega))
  refine ⟨seen', ?_⟩
  show M.attemptFrom { code := codeB, text, lim := text.size, start := s, lastStart := text.size, pc := 10, pos := s, handed := s, marks := #[], seen := ({} : Sre.Seen).add 14 } s true = _
  show (match M.admitted _ (text.size + 1 - s) s _ with | .ok (some s, seen) => _ | .ok (none, seen) => _ | .error why => _) = _
  rw [show text.size + 1 - s = text.size - s + 1 by (first | lia | omega), e]
  dsimp only
  rw [hn]
  rfl
noncomputable def brB (text : Array Nat) (s : Nat) (first : Bool) (alt pc pos : Nat) (seen : Sre.Seen) : M :=
  { mB text s first seen with pc := pc, pos := pos, frames := [{ wait := .nextBranch, pc := alt, pos := s, outermost := first }, { wait := .nextStart, pc := 10, pos := s, outermost := first }], weight := 2 }
theorem B_branch (text : Array Nat) (s : Nat) (first : Bool) (seen : Sre.Seen) : (mB text s first seen).step = brB text s first 11 12 s (seen.add 7) := rfl
theorem B_alt2 (text : Array Nat) (s : Nat) (first : Bool) (seen : Sre.Seen) (pc pos : Nat) : ({ brB text s first 11 pc pos seen with answer := some false } : M).step = brB text s first 18 19 s seen := rfl
theorem B_alt3 (text : Array Nat) (s : Nat) (first : Bool) (seen : Sre.Seen) (pc pos : Nat) : ({ brB text s first 18 pc pos seen with answer := some false } : M).step = brB text s first 23 24 s seen := rfl
theorem B_jump16 (text : Array Nat) (s : Nat) (first : Bool) (seen : Sre.Seen) (pos : Nat) : (brB text s first 11 16 pos seen).step = brB text s first 11 35 pos (seen.add 15) := rfl
theorem B_jump21 (text : Array Nat) (s : Nat) (first : Bool) (seen : Sre.Seen) (pos : Nat) : (brB text s first 18 21 pos seen).step = brB text s first 18 35 pos (seen.add 15) := rfl
theorem B_jump32 (text : Array Nat) (s : Nat) (first : Bool) (seen : Sre.Seen) (pos : Nat) : (brB text s first 23 32 pos seen).step = brB text s first 23 35 pos (seen.add 15) := rfl
theorem B_suc (text : Array Nat) (s : Nat) (first : Bool) (seen : Sre.Seen) (alt pos : Nat) : ∃ m', Goes 4 (brB text s first alt 35 pos seen) m' ∧ Ended m' (some (s, pos)) := by
  have e : (brB text s first alt 35 pos seen).step = { brB text s first alt 35 pos (seen.add 1) with handed := pos, answer := some true } := by
    show (if (first && ((false && _) || (false && _))) = true then _ else _) = _
    rw [if_neg (by simp)]
    rfl
  exact ⟨_, Goes.steps rfl e (Goes.steps rfl rfl (Goes.steps rfl rfl (Goes.step rfl rfl))), rfl, rfl, rfl, rfl⟩
theorem B_litY (text : Array Nat) (s : Nat) (first : Bool) (seen : Sre.Seen) (alt pc pos : Nat) (hpc : pc < codeB.size) (hl : codeB.getD pc 0 = 16) (hp : pos < text.size) (hc : text.getD pos 0 = codeB.getD (pc + 1) 0) :
    (brB text s first alt pc pos seen).step = brB text s first alt (pc + 2) (pos + 1) (seen.add 16) :=
  (step_lit (brB text s first alt pc pos seen) rfl rfl hpc hl).trans (if_pos ⟨hp, hc⟩)
theorem B_litN (text : Array Nat) (s : Nat) (first : Bool) (seen : Sre.Seen) (alt pc pos : Nat) (hpc : pc < codeB.size) (hl : codeB.getD pc 0 = 16) (hc : ¬ (pos < text.size ∧ text.getD pos 0 = codeB.getD (pc + 1) 0)) :
    (brB text s first alt pc pos seen).step = { brB text s first alt pc pos (seen.add 16) with answer := some false } :=
  (step_lit (brB text s first alt pc pos seen) rfl rfl hpc hl).trans (if_neg hc)
noncomputable def lkB (text : Array Nat) (s : Nat) (first : Bool) (seen : Sre.Seen) : M :=
  { mB text s first seen with pc := 29, pos := s + 1, handed := s + 1, outermost := false, frames := [{ wait := .lookNot, pc := 26, pos := s + 1, outermost := first }, { wait := .nextBranch, pc := 23, pos := s, outermost := first }, { wait := .nextStart, pc := 10, pos := s, outermost := first }], weight := 3 }
theorem B_look (text : Array Nat) (s : Nat) (first : Bool) (seen : Sre.Seen) : (brB text s first 23 26 (s + 1) seen).step = lkB text s first (seen.add 5) := rfl
theorem B_lookN (text : Array Nat) (s : Nat) (first : Bool) (seen : Sre.Seen) (hc : ¬ (s + 1 < text.size ∧ text.getD (s + 1) 0 = 10)) :
    (lkB text s first seen).step = { lkB text s first (seen.add 16) with answer := some false } :=
  (step_lit (lkB text s first seen) rfl rfl (show 29 < codeB.size by decide) rfl).trans (if_neg hc)
theorem B_lookD (text : Array Nat) (s : Nat) (first : Bool) (seen : Sre.Seen) : ∃ hd, ({ lkB text s first seen with answer := some false } : M).step = { brB text s first 23 32 (s + 1) seen with handed := hd } := ⟨s + 1, rfl⟩
noncomputable def lenB (text : Array Nat) (s : Nat) : Nat := if text.getD s 0 = 13 ∧ s + 1 < text.size ∧ text.getD (s + 1) 0 = 10 then 2 else 1
theorem B_run (text : Array Nat) (s : Nat) (first : Bool) (seen : Sre.Seen) (hs : s < text.size) (hc : text.getD s 0 = 10 ∨ text.getD s 0 = 13) :
    ∃ m', Goes 20 (mB text s first seen) m' ∧ Ended m' (some (s, s + lenB text s)) := by
  rcases hc with hc | hc
  · have hl : lenB text s = 1 := by unfold lenB; rw [if_neg (by rw [hc]; (first | lia | omega))]
    rw [hl]
    obtain ⟨m', g, e⟩ := B_suc text s first (((((seen.add 7).add 16)).add 16).add 15) 18 (s + 1)
    exact ⟨m', (Goes.steps rfl (B_branch ..) (Goes.steps rfl (B_litN text s first _ 11 12 s (by decide) rfl (by rw [hc]; exact fun h => absurd h.2 (by decide)))
      (Goes.steps rfl (B_alt2 ..) (Goes.steps rfl (B_litY text s first _ 18 19 s (by decide) rfl hs (by rw [hc]; rfl)) (Goes.steps rfl (B_jump21 ..) g))))).le (by (first | lia | omega)), e⟩
  · by_cases hn : s + 1 < text.size ∧ text.getD (s + 1) 0 = 10
    · have hl : lenB text s = 2 := by unfold lenB; rw [if_pos ⟨hc, hn⟩]
      rw [hl]
      obtain ⟨m', g, e⟩ := B_suc text s first (((((seen.add 7).add 16)).add 16).add 15) 11 (s + 2)
      exact ⟨m', (Goes.steps rfl (B_branch ..) (Goes.steps rfl (B_litY text s first _ 11 12 s (by decide) rfl hs (by rw [hc]; rfl))
        (Goes.steps rfl (B_litY text s first _ 11 14 (s + 1) (by decide) rfl hn.1 (by rw [hn.2]; rfl)) (Goes.steps rfl (B_jump16 ..) g)))).le (by (first | lia | omega)), e⟩
    · have hl : lenB text s = 1 := by unfold lenB; rw [if_neg (fun h => hn h.2)]
      rw [hl]
      have hsuc : ∀ (hd : Nat) (seen : Sre.Seen), ∃ m', Goes 4 ({ brB text s first 23 35 (s + 1) seen with handed := hd } : M) m' ∧ Ended m' (some (s, s + 1)) := by
        intro hd seen
        have e : ({ brB text s first 23 35 (s + 1) seen with handed := hd } : M).step = { brB text s first 23 35 (s + 1) (seen.add 1) with handed := s + 1, answer := some true } := by
          show (if (first && ((false && _) || (false && _))) = true then _ else _) = _
          rw [if_neg (by simp)]
          rfl
        exact ⟨_, Goes.steps rfl e (Goes.steps rfl rfl (Goes.steps rfl rfl (Goes.step rfl rfl))), rfl, rfl, rfl, rfl⟩
      have hj : ∀ (hd : Nat) (seen : Sre.Seen), ({ brB text s first 23 32 (s + 1) seen with handed := hd } : M).step = { brB text s first 23 35 (s + 1) (seen.add 15) with handed := hd } := fun _ _ => rfl
      have pre : Goes 7 (mB text s first seen) (brB text s first 23 26 (s + 1) (((((seen.add 7).add 16).add 16).add 16).add 16)) :=
        Goes.steps rfl (B_branch ..) (Goes.steps rfl (B_litY text s first _ 11 12 s (by decide) rfl hs (by rw [hc]; rfl))
          (Goes.steps rfl (B_litN text s first _ 11 14 (s + 1) (by decide) rfl hn) (Goes.steps rfl (B_alt2 ..) (Goes.steps rfl (B_litN text s first _ 18 19 s (by decide) rfl (by rw [hc]; exact fun h => absurd h.2 (by decide)))
            (Goes.steps rfl (B_alt3 ..) (Goes.step rfl (B_litY text s first _ 23 24 s (by decide) rfl hs (by rw [hc]; rfl))))))))
      obtain ⟨hd, e3⟩ := B_lookD text s first ((((((((seen.add 7).add 16).add 16).add 16).add 16)).add 5).add 16)
      obtain ⟨m', g, e⟩ := hsuc hd ((((((((seen.add 7).add 16).add 16).add 16).add 16).add 5).add 16).add 15)
      exact ⟨m', (pre.trans (Goes.steps rfl (B_look ..) (Goes.steps rfl (B_lookN _ _ _ _ hn) (Goes.steps rfl e3 (Goes.steps rfl (hj hd _) g))))).le (by (first | lia | omega)), e⟩
theorem B_search (text : Array Nat) (s : Nat) (h : s ≤ text.size) :
    ∃ m', Goes 20 (forSearch codeB text 0 s text.size false) m' ∧ Ended m' ((findFrom (fun i => text.getD i 0 == 10 || text.getD i 0 == 13) (text.size - s) s).map fun p => (p, p + lenB text p)) := by
  cases hn : findFrom (fun i => text.getD i 0 == 10 || text.getD i 0 == 13) (text.size - s) s with
  | none =>
    obtain ⟨m', g, e⟩ := B_search_none text s h hn
    exact ⟨m', g.le (by (first | lia | omega)), e⟩
  | some p =>
    obtain ⟨seen, e⟩ := B_search_some text s p h hn
    have hp : ∀ (n s : Nat), findFrom (fun i => text.getD i 0 == 10 || text.getD i 0 == 13) n s = some p → s ≤ p ∧ p < s + n ∧ (text.getD p 0 = 10 ∨ text.getD p 0 = 13) := by
      intro n
      induction n with
      | zero => intro s h; cases h
      | succ n ih =>
        intro s h
        by_cases hb : (text.getD s 0 == 10 || text.getD s 0 == 13) = true
        · have h' : (if (text.getD s 0 == 10 || text.getD s 0 == 13) = true then some s else findFrom _ n (s + 1)) = some p := h
          rw [if_pos hb] at h'
          cases h'
          exact ⟨Nat.le_refl _, by (first | lia | omega), by simpa using hb⟩
        · have h' : (if (text.getD s 0 == 10 || text.getD s 0 == 13) = true then some s else findFrom _ n (s + 1)) = some p := h
          rw [if_neg hb] at h'
          have := ih (s + 1) h'
          exact ⟨by (first | lia | omega), by (first | lia | omega), this.2.2⟩
    obtain ⟨h1, h2, h3⟩ := hp _ _ hn
    rw [e]
    exact B_run text p true seen (by (first | lia | omega)) h3
end Mine
end
section
open PySem PySem.W PyProof.Rows
set_option maxRecDepth 100000
set_option maxHeartbeats 8000000
set_option linter.unusedVariables false
namespace Mine
open PySem.Sre
noncomputable def codeC : Array Nat := #[14, 17, 4, 1, 1, 21, 9, 0, 604043296, 1, 0, 0, 0, 0, 0, 8, 4, 0, 13, 14, 21, 9, 0, 604043296, 1, 0, 0, 0, 0, 0, 8, 4, 0, 1]
noncomputable def badC (c : Nat) : Bool := !((decide (c < 256) && (codeC.getD (7 + c / 32) 0).testBit (c % 32)) || isWord c)
theorem C_inSet (c : Nat) (seen : Sre.Seen) (i : Nat) (hi : i = 5 ∨ i = 20) : ∃ seen', inSet codeC c codeC.size i true seen = .ok (badC c, seen') := by
  have e : ∀ k : Nat, codeC.getD (22 + k) 0 = codeC.getD (7 + k) 0 ∨ 8 ≤ k := by
    intro k
    rcases Nat.lt_or_ge k 8 with h | h
    · left
      have : k = 0 ∨ k = 1 ∨ k = 2 ∨ k = 3 ∨ k = 4 ∨ k = 5 ∨ k = 6 ∨ k = 7 := by (first | lia | omega)
      rcases this with rfl | rfl | rfl | rfl | rfl | rfl | rfl | rfl <;> rfl
    · exact .inr h
  have e2 : ∀ i, (i = 5 ∨ i = 20) → (decide (c < 256) && (codeC.getD (i + 1 + (1 + c / 32)) 0).testBit (c % 32)) = (decide (c < 256) && (codeC.getD (7 + c / 32) 0).testBit (c % 32)) := by
    rintro i (rfl | rfl)
    · rw [show 5 + 1 + (1 + c / 32) = 7 + c / 32 by (first | lia | omega)]
    · rw [show 20 + 1 + (1 + c / 32) = 22 + c / 32 by (first | lia | omega)]
      by_cases hc : c < 256
      · rcases e (c / 32) with h | h
        · rw [h]
        · (first | lia | omega)
      · simp [hc]
  have h3 : category 4 c = .ok (isWord c) := by
    show Except.map (fun x => x != false) (Except.ok (isWord c)) = _
    show Except.ok (isWord c != false) = _
    cases isWord c <;> rfl
  cases hb1 : (decide (c < 256) && (codeC.getD (7 + c / 32) 0).testBit (c % 32)) with
  | true =>
    have hbad : badC c = false := by unfold badC; rw [hb1]; rfl
    rw [hbad]
    rcases hi with rfl | rfl
    · refine ⟨(seen.add 21).add 9, ?_⟩
      show (if (decide (c < 256) && (codeC.getD (5 + 1 + (1 + c / 32)) 0).testBit (c % 32)) = true then _ else _) = _
      rw [e2 5 (.inl rfl), hb1]; rfl
    · refine ⟨(seen.add 21).add 9, ?_⟩
      show (if (decide (c < 256) && (codeC.getD (20 + 1 + (1 + c / 32)) 0).testBit (c % 32)) = true then _ else _) = _
      rw [e2 20 (.inr rfl), hb1]; rfl
  | false =>
    cases hw : isWord c with
    | true =>
      have hbad : badC c = false := by unfold badC; rw [hb1, hw]; rfl
      rw [hbad]
      rw [hw] at h3
      rcases hi with rfl | rfl
      · refine ⟨(((seen.add 21).add 9).add 8).add (55 + 4), ?_⟩
        show (if (decide (c < 256) && (codeC.getD (5 + 1 + (1 + c / 32)) 0).testBit (c % 32)) = true then _ else (category 4 c >>= fun b => if b = true then _ else _)) = _
        rw [e2 5 (.inl rfl), hb1, h3]; rfl
      · refine ⟨(((seen.add 21).add 9).add 8).add (55 + 4), ?_⟩
        show (if (decide (c < 256) && (codeC.getD (20 + 1 + (1 + c / 32)) 0).testBit (c % 32)) = true then _ else (category 4 c >>= fun b => if b = true then _ else _)) = _
        rw [e2 20 (.inr rfl), hb1, h3]; rfl
    | false =>
      have hbad : badC c = true := by unfold badC; rw [hb1, hw]; rfl
      rw [hbad]
      rw [hw] at h3
      rcases hi with rfl | rfl
      · refine ⟨((((seen.add 21).add 9).add 8).add (55 + 4)).add 0, ?_⟩
        show (if (decide (c < 256) && (codeC.getD (5 + 1 + (1 + c / 32)) 0).testBit (c % 32)) = true then _ else (category 4 c >>= fun b => if b = true then _ else _)) = _
        rw [e2 5 (.inl rfl), hb1, h3]; rfl
      · refine ⟨((((seen.add 21).add 9).add 8).add (55 + 4)).add 0, ?_⟩
        show (if (decide (c < 256) && (codeC.getD (20 + 1 + (1 + c / 32)) 0).testBit (c % 32)) = true then _ else (category 4 c >>= fun b => if b = true then _ else _)) = _
        rw [e2 20 (.inr rfl), hb1, h3]; rfl
noncomputable def mC (text : Array Nat) (s : Nat) (first : Bool) (seen : Sre.Seen) : M :=
  { code := codeC, text, lim := text.size, start := s, lastStart := text.size, mustAdvance := false, pc := 18, pos := s, handed := s, outermost := first, marks := #[],
    frames := [{ wait := .nextStart, pc := 18, pos := s, outermost := first }], weight := 1, seen }
theorem C_admitted (m : M) (hc : m.code = codeC) : ∀ (n s : Nat) (seen : Sre.Seen), s + n = m.lim → ∃ seen', M.admitted m (n + 1) s seen = .ok (findFrom (fun i => badC (m.text.getD i 0)) n s, seen') := by
  intro n
  induction n with
  | zero =>
    intro s seen h
    refine ⟨seen, ?_⟩
    show (if s ≥ m.lim then _ else _) = _
    rw [if_pos (by (first | lia | omega))]; rfl
  | succ n ih =>
    intro s seen h
    obtain ⟨seen1, e1⟩ := C_inSet (m.text.getD s 0) seen 5 (.inl rfl)
    obtain ⟨seen2, e2⟩ := ih (s + 1) seen1 (by (first | lia | omega))
    show ∃ seen', (if s ≥ m.lim then _ else match inSet m.code (m.text.getD s 0) m.code.size 5 true seen with | .ok (true, seen) => _ | .ok (false, seen) => M.admitted m (n + 1) (s + 1) seen | .error why => _) = Except.ok ((if badC (m.text.getD s 0) = true then some s else findFrom _ n (s + 1)), seen')
    rw [if_neg (by (first | lia | omega)), hc, e1]
    cases hb : badC (m.text.getD s 0) with
    | true => exact ⟨seen1, rfl⟩
    | false => exact ⟨seen2, by rw [if_neg Bool.false_ne_true]; exact e2⟩
theorem findFrom_some {p : Nat → Bool} : ∀ {n s k : Nat}, findFrom p n s = some k → s ≤ k ∧ k < s + n ∧ p k = true := by
  intro n
  induction n with
  | zero => intro s k h; cases h
  | succ n ih =>
    intro s k h
    by_cases hb : p s = true
    · have h' : (if p s = true then some s else findFrom _ n (s + 1)) = some k := h
      rw [if_pos hb] at h'
      cases h'
      exact ⟨Nat.le_refl _, by (first | lia | omega), hb⟩
    · have h' : (if p s = true then some s else findFrom _ n (s + 1)) = some k := h
      rw [if_neg hb] at h'
      have := ih h'
      exact ⟨by (first | lia | omega), by (first | lia | omega), this.2.2⟩
theorem C_search (text : Array Nat) :
    ∃ m', Goes 20 (forSearch codeC text 0 0 text.size false) m' ∧ Ended m' ((findFrom (fun i => badC (text.getD i 0)) text.size 0).map fun p => (p, p + 1)) := by
  unfold forSearch
  have e1 : (header codeC) = (1, 18) := by decide
  simp only [e1]
  by_cases hlt : 0 < text.size
  · rw [if_neg (by simp only [Bool.or_eq_true, decide_eq_true_eq]; (first | lia | omega))]
    obtain ⟨seen', e⟩ := C_admitted { code := codeC, text, lim := text.size, start := 0, lastStart := text.size, pc := 18, pos := 0, handed := 0, marks := #[], seen := ({} : Sre.Seen).add 14 } rfl text.size 0 (({} : Sre.Seen).add 14) (by show 0 + text.size = text.size; (first | lia | omega))
    have hat : M.attemptFrom { code := codeC, text, lim := text.size, start := 0, lastStart := text.size, pc := 18, pos := 0, handed := 0, marks := #[], seen := ({} : Sre.Seen).add 14 } 0 true =
        (match findFrom (fun i => badC (text.getD i 0)) text.size 0 with | some p => mC text p true seen' | none => M.say { code := codeC, text, lim := text.size, start := 0, lastStart := text.size, pc := 18, pos := 0, handed := 0, marks := #[], seen := seen' } false) := by
      show (match M.admitted _ (text.size + 1 - 0) 0 _ with | .ok (some s, seen) => _ | .ok (none, seen) => _ | .error why => _) = _
      rw [show text.size + 1 - 0 = text.size + 1 by (first | lia | omega), e]
      dsimp only
      cases findFrom (fun i => badC (text.getD i 0)) text.size 0 <;> rfl
    show ∃ m', Goes 20 (M.attemptFrom { code := codeC, text, lim := text.size, start := 0, lastStart := text.size, pc := 18, pos := 0, handed := 0, marks := #[], seen := ({} : Sre.Seen).add 14 } 0 true) m' ∧ _
    rw [hat]
    cases hn : findFrom (fun i => badC (text.getD i 0)) text.size 0 with
    | none => exact ⟨_, (Goes.step rfl rfl).le (by (first | lia | omega)), rfl⟩
    | some p =>
      have hp := findFrom_some hn
      obtain ⟨seen2, e2⟩ := C_inSet (text.getD p 0) (seen'.add 13) 20 (.inr rfl)
      have hin : (mC text p true seen').step = { mC text p true seen2 with pc := 33, pos := p + 1 } := by
        show (if p ≥ text.size then _ else match inSet codeC (text.getD p 0) codeC.size 20 true (seen'.add 13) with | .error why => _ | .ok (false, seen) => _ | .ok (true, seen) => _) = _
        rw [if_neg (by (first | lia | omega)), e2, hp.2.2]
        rfl
      have hsuc : ({ mC text p true seen2 with pc := 33, pos := p + 1 } : M).step = { mC text p true (seen2.add 1) with pc := 33, pos := p + 1, handed := p + 1, answer := some true } := by
        rfl
      exact ⟨_, (Goes.steps rfl hin (Goes.steps rfl hsuc (Goes.steps rfl rfl (Goes.step rfl rfl)))).le (by (first | lia | omega)), rfl, rfl, rfl, rfl⟩
  · have h0 : text.size = 0 := by (first | lia | omega)
    rw [if_pos (by simp only [Bool.or_eq_true, decide_eq_true_eq]; (first | lia | omega))]
    rw [show findFrom (fun i => badC (text.getD i 0)) text.size 0 = none by rw [h0]; rfl]
    exact ⟨_, (Goes.step rfl rfl).le (by (first | lia | omega)), rfl⟩
end Mine
end
section
open PySem PySem.W PyProof.Rows
set_option maxRecDepth 100000
set_option maxHeartbeats 8000000
set_option linter.unusedVariables false
namespace Mine
open PySem.Sre PySem.Builtin.Re

noncomputable def Finds (code : Array Nat) (text : Array Nat) (start : Nat) (r : Option (Nat × Nat)) : Prop :=
  ∃ (m' : M) (k : Nat), k ≤ 2 ^ 60 ∧ Goes k (forSearch code text 0 start text.size false) m' ∧ Ended m' r

section
variable {prog : Program} {w : World} {A : Around} {E : Value → Shared → Prop} {s : Shared}
theorem drive {Q : M → Shared → Prop} : ∀ (turns k : Nat) (m m' : M), k < 4 * turns → M.runFor k m = m' → m'.outcome.isSome = true → Q m' s →
    wpAny (model prog w) A (reDrive turns m) Q E s := by
  intro turns
  induction turns with
  | zero => intro k m m' hk; (first | lia | omega)
  | succ turns ih =>
    intro k m m' hk hr ho hq
    show wpAny _ _ (if (M.runFor 4 m).outcome.isSome = true then pure (M.runFor 4 m) else (rule "sre.turn" >>= fun _ => reDrive turns (M.runFor 4 m))) Q E s
    by_cases h4 : k ≤ 4
    · have e : M.runFor 4 m = m' := by
        rw [show 4 = k + (4 - k) by (first | lia | omega), runFor_add, hr, runFor_halt ho]
      rw [e, if_pos ho]
      exact wpAny_pure hq
    · have e : M.runFor (k - 4) (M.runFor 4 m) = m' := by rw [← runFor_add, show 4 + (k - 4) = k by (first | lia | omega), hr]
      by_cases hh : (M.runFor 4 m).outcome.isSome = true
      · rw [if_pos hh]
        rw [runFor_halt hh] at e
        rw [e]
        exact wpAny_pure hq
      · rw [if_neg hh]
        exact wpAny_bind (wpAny_rule (ih (k - 4) _ m' (by (first | lia | omega)) e ho hq))
noncomputable def Found (Q : Option M → Prop) : Option (Nat × Nat) → Prop
  | none => Q none
  | some p => ∀ m' : M, m'.start = p.1 → m'.handed = p.2 → m'.lastmark = -1 → Q (some m')
theorem runToEnd {m m' : M} {k : Nat} {r : Option (Nat × Nat)} {Q : Option M → Shared → Prop} (g : Goes k m m') (hk : k ≤ 2 ^ 60) (e : Ended m' r)
    (h : Found (fun o => Q o s) r) :
    wpAny (model prog w) A (reRunToEnd m) Q E s := by
  (have hZ1 := g; try clear g; (refine Mine.xa1_2 hZ1 ?_; clear hZ1; intro j hj e'))
  unfold reRunToEnd
  have ho : m'.outcome.isSome = true := by
    cases r with
    | none => rw [show m'.outcome = some .failed from e]; rfl
    | some p => rw [show m'.outcome = some .matched from e.1]; rfl
  refine wpAny_bind (drive (2 ^ 64) j m m' (by (first | lia | omega)) e' ho ?_)
  refine wpAny_bind (wpAny_mono (wpAny_forIn_list (E := E) _ (fun _ _ s' => s' = s) (fun _ s' => s' = s) ?_ (fun _ _ h => h) _ _ rfl) ?_ ?_)
  · intro x rest b s' hs
    subst hs
    refine wpAny_ite ?_
    split
    · exact wpAny_bind (wpAny_rule (wpAny_pure rfl))
    · exact wpAny_pure rfl
  · intro _ s' hs
    subst hs
    cases r with
    | none => rw [show m'.outcome = some .failed from e]; exact wpAny_pure h
    | some p => rw [show m'.outcome = some .matched from e.1]; exact wpAny_pure (h m' e.2.1 e.2.2.1 e.2.2.2)
  · exact fun _ _ x => x

noncomputable def IsPat (h : Heap) (a : Addr) (code : Array Nat) : Prop :=
  ∃ (p : Value) (fl : Value) (c : Addr) (its : Array Value), h.get? a = some ⟨.type "re.Pattern", none, .fields #[p, fl, .int 0 0, .none, .none, .ref c, .int 0 0], #[]⟩ ∧
    h.get? c = some ⟨.type "tuple", none, .seq its 0, #[]⟩ ∧ (its.map reRawOf).map (·.toNat) = code
theorem IsPat.keep {h h' : Heap} {a : Addr} {code : Array Nat} (x : IsPat h a code) (k : ∀ b o, h.get? b = some o → h'.get? b = some o) : IsPat h' a code := by
  (have hZ2 := x; try clear x; (refine Mine.xa4_3 hZ2 ?_; clear hZ2; intro p fl c its h1 h2 h3))
  exact ⟨p, fl, c, its, k _ _ h1, k _ _ h2, h3⟩
theorem IsPat.typeIs {s : Shared} {a : Addr} {code : Array Nat} (x : IsPat s.heap a code) : s.TypeIs (.ref a) "re.Pattern" := by
  (have hZ3 := x; try clear x; (refine Mine.xa4_3 hZ3 ?_; clear hZ3; intro p fl c its h1 h2 h3))
  (first | exact Mine.in2 _ h1 rfl | exact ⟨_, h1, rfl⟩)

theorem named3 (v x y : String) (a : Value) : reNamed "" "search" ["string", "pos", "endpos"] 1 [a] [] = pure [some a, none, none] := rfl
theorem target {a : Addr} {code : Array Nat} {x : Str} {t : Tok} {Q : ReTarget → Shared → Prop} (hp : IsPat s.heap a code) (hx : x.length < 2 ^ 60)
    (h : Q { pattern := .ref a, string := .str x t, code := code, text := x.cps, kind := 0, groups := 0, pos := 0, lim := x.cps.size } s) :
    wpAny (model prog w) A (reTarget "re.Pattern.search" "search" ⟨[.ref a, .str x t], []⟩) Q E s := by
  (have hZ4 := hp; try clear hp; (refine Mine.xa4_3 hZ4 ?_; clear hZ4; intro p fl c its h1 h2 h3))
  unfold reTarget
  show wpAny _ _ (fieldsOf (.ref a) >>= _) _ _ s
  refine wpAny_bind (wpAny_fieldsOf h1 rfl ?_)
  show wpAny _ _ (reRawItems (.ref c) >>= _) _ _ s
  unfold reRawItems
  refine wpAny_bind (wpAny_bind (wpAny_seqItems h2 rfl (wpAny_pure ?_)))
  refine wpAny_pure ?_
  have e1 : (min (0 : Int).toNat x.cps.size) = 0 := by simp
  have e2 : (min ((2 : Int) ^ 63 - 1).toNat x.cps.size) = x.cps.size := by
    have : x.cps.size < 2 ^ 60 := hx
    (first | lia | omega)
  show Q { pattern := .ref a, string := .str x t, code := ((some its).getD #[] |>.map reRawOf).map (·.toNat), text := x.cps, kind := 0, groups := 0, pos := min (0 : Int).toNat x.cps.size, lim := min ((2 : Int) ^ 63 - 1).toNat x.cps.size } s
  rw [e1, e2]
  show Q { pattern := .ref a, string := .str x t, code := (its.map reRawOf).map (·.toNat), text := x.cps, kind := 0, groups := 0, pos := 0, lim := x.cps.size } s
  rw [h3]
  exact h
theorem wholeTarget {a : Addr} {code : Array Nat} {x : Str} {t : Tok} {Q : ReTarget → Shared → Prop} (hp : IsPat s.heap a code)
    (h : Q { pattern := .ref a, string := .str x t, code := code, text := x.cps, kind := 0, groups := 0, pos := 0, lim := x.cps.size } s) :
    wpAny (model prog w) A (reWholeTarget (.ref a) (.str x t)) Q E s := by
  (have hZ5 := hp; try clear hp; (refine Mine.xa4_3 hZ5 ?_; clear hZ5; intro p fl c its h1 h2 h3))
  unfold reWholeTarget
  refine wpAny_bind (wpAny_fieldsOf h1 rfl ?_)
  show wpAny _ _ (reRawItems (.ref c) >>= _) _ _ s
  unfold reRawItems
  refine wpAny_bind (wpAny_bind (wpAny_seqItems h2 rfl (wpAny_pure ?_)))
  refine wpAny_pure ?_
  show Q { pattern := .ref a, string := .str x t, code := (its.map reRawOf).map (·.toNat), text := x.cps, kind := 0, groups := 0, pos := 0, lim := x.cps.size } s
  rw [h3]
  exact h

theorem slot_search : Slot "re.Pattern" "search" "re.Pattern.search" :=
  .of (owner := "re.Pattern") (n := "search") (by rw [typeLookup_type, builtinLookup_eq_fast]; kernel_rfl) (by decide +kernel) (by decide +kernel) (by decide +kernel)
    (by first | exact .inl (by decide +kernel) | exact .inr (by decide +kernel)) (by rw [isSubtype_type]; kernel_rfl)
theorem slot_sub : Slot "re.Pattern" "sub" "re.Pattern.sub" :=
  .of (owner := "re.Pattern") (n := "sub") (by rw [typeLookup_type, builtinLookup_eq_fast]; kernel_rfl) (by decide +kernel) (by decide +kernel) (by decide +kernel)
    (by first | exact .inl (by decide +kernel) | exact .inr (by decide +kernel)) (by rw [isSubtype_type]; kernel_rfl)
theorem type_sub : typeOf (.builtin "re.Pattern.sub") = pure (.type "method_descriptor") := by show builtinType _ = _; rw [builtinType_eq_fast]; kernel_rfl
theorem entry_search : entryFor table "re.Pattern.search" = some Builtin.«re.Pattern.search» := entryFor_of_tree (by kernel_rfl)
theorem entry_sub : entryFor table "re.Pattern.sub" = some Builtin.«re.Pattern.sub» := entryFor_of_tree (by kernel_rfl)
theorem entry_sub_loop : entryFor table "re.Pattern.sub.loop" = some Builtin.«re.Pattern.sub.loop» := entryFor_of_tree (by kernel_rfl)
theorem plain_sub_loop : plainId "re.Pattern.sub.loop" = true := by decide +kernel
theorem args_search (a b : Value) : argsOk "re.Pattern.search" ⟨[a, b], []⟩ := by unfold argsOk; kernel_rfl
theorem args_sub (a b c : Value) : argsOk "re.Pattern.sub" ⟨[a, b, c], []⟩ := by unfold argsOk; kernel_rfl
theorem plainAttrs_pat : PlainAttrs "re.Pattern" :=
  ⟨⟨"object.__getattribute__", by rw [typeLookup_type, builtinLookup_eq_fast]; kernel_rfl, by decide +kernel⟩, by rw [typeLookup_type, builtinLookup_eq_fast]; kernel_rfl⟩


noncomputable def SPost (R : Result → Shared → Prop) (s : Shared) : Option (Nat × Nat) → Prop
  | none => R (.ok (.ret .none)) s
  | some _ => ∀ a' h', (∀ b o, s.heap.get? b = some o → h'.get? b = some o) → R (.ok (.ret (.ref a'))) { s with heap := h' }
theorem meets_search (a : Addr) (x : Str) (t : Tok) (code : Array Nat) (r : Option (Nat × Nat)) (hx : x.length < 2 ^ 60) (hf : Finds code x.cps 0 r) :
    Meets (Builtin.«re.Pattern.search» ⟨[.ref a, .str x t], []⟩) (fun A R s => IsPat s.heap a code ∧ SPost R s r) := by
  intro prog w A R s ⟨hp, h⟩
  (have hZ6 := hf; try clear hf; (refine Mine.xa2_3 hZ6 ?_; clear hZ6; intro m' k hk g e))
  unfold Builtin.«re.Pattern.search»
  refine wpAny_bind (target hp hx ?_)
  unfold reAnswer
  refine wpAny_bind (runToEnd g hk e ?_)
  cases r with
  | none => exact wpAny_pure h
  | some p =>
    intro m' _ _ _
    dsimp only
    refine wpAny_bind ?_
    unfold reNewMatch
    show wpAny _ _ (newTuple [rawInt m'.start, rawInt m'.handed] >>= fun v => newFields "re.Match" [.str x t, .ref a, rawInt 0, rawInt x.cps.size, rawInt m'.lastindex, v]) _ _ s
    refine wpAny_bind (wpAny_newTuple ?_ (show 2 ≤ sizeLine by decide))
    refine wpAny_newObj_type ?_ (show 6 ≤ sizeLine + 2 by decide)
    exact wpAny_pure (h _ _ fun b o e => Heap.get?_push_of_some _ (Heap.get?_push_of_some _ e))

end
end Mine
end
section
open PySem PySem.W PyProof.Rows
set_option maxRecDepth 100000
set_option maxHeartbeats 8000000
set_option linter.unusedVariables false
namespace Mine
open PySem.Sre PySem.Builtin.Re
noncomputable def subL (find : Nat → Option (Nat × Nat)) (x : Array Nat) (repl : Str) : Nat → Nat → List Str
  | 0, _ => []
  | n + 1, d => match find d with
    | none => if d < x.size then [⟨x.extract d x.size⟩] else []
    | some p => (if d < p.1 then [⟨x.extract d p.1⟩] else []) ++ repl :: subL find x repl n p.2

section
variable {prog : Program} {w : World} {A : Around} {E : Value → Shared → Prop} {s : Shared} {R : Result → Shared → Prop}
theorem strsAre_append : ∀ {a b : List Value} {x y : List Str}, StrsAre a x → StrsAre b y → StrsAre (a ++ b) (x ++ y)
  | _, _, _, _, .nil, h => h
  | _, _, _, _, .cons m t h', h => .cons m t (strsAre_append h' h)
theorem list_push {D : Addr} {its : Array Value} {v : Value} {h₀ : Heap} {Q : Unit → Shared → Prop} (hl : s.heap.IsList D its) (hn : h₀.get? D = none) (K0 : ∀ b o, h₀.get? b = some o → s.heap.get? b = some o)
    (hz : its.size < sizeLine) (h : ∀ h', h'.IsList D (its.push v) → (∀ b o, h₀.get? b = some o → h'.get? b = some o) → Q () { s with heap := h' }) :
    wpAny (model prog w) A (updateSeq D (·.push v)) Q E s := by
  (have hZ1 := hl; try clear hl; (obtain ⟨o, ho, hc, n, hd⟩ := hZ1))
  obtain ⟨n', hd'⟩ := Obj.data_mapSeq hd (·.push v)
  refine wpAny_updateSeq ho hd (h _ ⟨_, Heap.get?_update_self _ ho (Obj.isFreed_of_seq hd'), (Obj.cls_mapSeq ..).trans hc, n', hd'⟩ ?_) (Nat.le_of_lt hz) (by simp only [Array.size_push]; (first | lia | omega))
  intro b o e
  have : b ≠ D := by rintro rfl; rw [hn] at e; cases e
  exact ((Heap.SameBut.update ..).2 b this).trans (K0 b o e)
theorem sub_loop {a D : Addr} {x repl : Str} {t tr : Tok} {code : Array Nat} {h₀ : Heap} (find : Nat → Option (Nat × Nat)) (hp : IsPat h₀ a code) (hx : x.length ≤ 1000000) (hn : h₀.get? D = none)
    (hf : ∀ d, d ≤ x.length → Finds code x.cps d (find d)) (hb : ∀ d p, d ≤ x.length → find d = some p → d ≤ p.1 ∧ p.1 < p.2 ∧ p.2 ≤ x.length) :
    ∀ (n d : Nat) (k : Int) (its : Array Value) (ts : List Str) (s : Shared), x.length - d < n → d ≤ x.length → (∀ b o, h₀.get? b = some o → s.heap.get? b = some o) → s.heap.IsList D its → StrsAre its.toList ts → its.size ≤ 2 * d →
      (((ts ++ subL find x.cps repl n d).map (·.length)).sum ≤ 16777216) →
      (∀ t' h' tk', (∀ b o, h₀.get? b = some o → h'.get? b = some o) → R (.ok (.ret (.str (Txt.join (Str.ofString "") (ts ++ subL find x.cps repl n d)) t'))) { s with heap := h', toks := tk' }) →
      codeAny (model prog w) A (.builtin "re.Pattern.sub.loop" ⟨[.ref a, .str x t, .str repl tr, rawInt 0, rawInt 0, rawInt k, rawInt d, rawInt d, .bool false, .ref D, .bool false], []⟩) R s := by
  intro n
  induction n with
  | zero => intro d k its ts s h; (first | lia | omega)
  | succ n ih =>
    intro d k its ts s hnd hd K0 hl hst hz hsum hR
    refine codeAny_builtin entry_sub_loop ?_
    rw [Around.under_plainId plain_sub_loop _]
    unfold Builtin.«re.Pattern.sub.loop»
    refine wpAny_bind (wholeTarget (hp.keep K0) ?_)
    (have hZ2 := hf d hd; (refine Mine.xa2_3 hZ2 ?_; clear hZ2; intro m' kk hkk g e))
    have e0 : ((d : Int)).toNat = d := Int.toNat_natCast d
    have en : (rawInt (0 : Int)) = .int 0 0 := rfl
    have fin : ∀ (s' : Shared) (its' : Array Value) (ts' : List Str), (∀ b o, h₀.get? b = some o → s'.heap.get? b = some o) → s'.heap.IsList D its' → StrsAre its'.toList ts' → s'.gens = s.gens → s'.os = s.os → s'.drawn = s.drawn →
        ts' = ts ++ subL find x.cps repl (n + 1) d →
        wpAny (model prog w) A.in1 (reSlice x.cps 0 0 0 >>= fun joiner => seqItems? (.ref D) >>= fun l => (if (l.getD #[]).isEmpty = true then (pure joiner >>= fun text => ret text) else (call (.builtin "str.join") [joiner, .ref D] >>= fun text => ret text)))
          (fun fin s' => match fin with | .done f => R (.ok f) s' | .again c' => c'.quiet = true ∧ codeAny (model prog w) A c' R s') (fun e s' => R (.error e) s') s' := by
      intro s' its' ts' k1 hl' hst' hg ho hdr hts
      (have hZ3 := id hl'; (obtain ⟨o, hob, hcl, nn, hda⟩ := hZ3))
      refine wpAny_bind ?_
      show wpAny _ _ (mkStr ⟨x.cps.extract 0 0⟩) _ _ s'
      refine wpAny_mkStr ?_ (by simp [Str.length])
      refine wpAny_bind (wpAny_seqItems hob hda ?_)
      have e2 : (⟨x.cps.extract 0 0⟩ : Str) = Str.ofString "" := by
        show (⟨x.cps.extract 0 0⟩ : Str) = ⟨#[]⟩
        simp
      have hR' : ∀ t' h' tk', (∀ b o, h₀.get? b = some o → h'.get? b = some o) → R (.ok (.ret (.str (Txt.join (Str.ofString "") ts') t'))) { s' with heap := h', toks := tk' } := by
        intro t' h' tk' k2
        have := hR t' h' tk' k2
        rw [hts]
        obtain ⟨hp', gn', dr', tk0, os'⟩ := s'
        obtain ⟨hp0, gn0, dr0, tk1, os0⟩ := s
        dsimp only at hg ho hdr
        subst hg ho hdr
        exact this
      show wpAny _ _ (if its'.isEmpty = true then _ else _) _ _ _
      refine wpAny_ite ?_
      by_cases hemp : its'.isEmpty = true
      · rw [if_pos hemp]
        have h0 : its'.toList = [] := by simpa using hemp
        rw [h0] at hst'
        cases hst'
        refine wpAny_bind (wpAny_pure (wpAny_pure ?_))
        rw [e2]
        exact hR' s'.toks s'.heap (s'.toks + 1) k1
      · rw [if_neg hemp]
        refine wpAny_bind (join_at (D := D) (vs := its'.toList) hl' hst' ?_ fun t' k' => ?_)
        · rw [hts]
          have : (⟨x.cps.extract 0 0⟩ : Str).length = 0 := by rw [e2]; rfl
          rw [this]; simpa using hsum
        · rw [e2]
          exact wpAny_pure (hR' t' s'.heap k' k1)
    have push : ∀ (s' : Shared) (its' : Array Value) (ts' : List Str) (v : Str) (tv : Tok) (Q : Unit → Shared → Prop), s'.heap.IsList D its' → StrsAre its'.toList ts' → (∀ b o, h₀.get? b = some o → s'.heap.get? b = some o) → its'.size < sizeLine →
        (∀ h', h'.IsList D (its'.push (.str v tv)) → StrsAre (its'.push (.str v tv)).toList (ts' ++ [v]) → (∀ b o, h₀.get? b = some o → h'.get? b = some o) → Q () { s' with heap := h' }) →
        wpAny (model prog w) A.in1 (updateSeq D (·.push (.str v tv))) Q (fun e s' => R (.error e) s') s' := by
      intro s' its' ts' v tv Q hl' hst' k1 hsz hq
      refine list_push hl' hn k1 hsz fun h' hl2 k2 => hq h' hl2 ?_ k2
      rw [Array.toList_push]
      exact strsAre_append hst' (.cons _ _ .nil)
    have hsl : ∀ (b e : Nat) (s' : Shared) (Q : Value → Shared → Prop), (∀ tv k, Q (.str ⟨x.cps.extract b e⟩ tv) { s' with toks := k }) → wpAny (model prog w) A.in1 (reSlice x.cps 0 b e) Q (fun e s' => R (.error e) s') s' := by
      intro b e s' Q hq
      show wpAny _ _ (mkStr ⟨x.cps.extract b e⟩) _ _ s'
      refine wpAny_mkStr (hq _ _) ?_
      have h1 : x.cps.size ≤ 1000000 := hx
      show (x.cps.extract b e).size ≤ 2 ^ 24
      simp only [Array.size_extract]
      (first | lia | omega)
    have hszl : ∀ {n : Nat}, n ≤ 2 * d + 2 → n < sizeLine := by
      intro n h
      show n < 2 ^ 24
      (first | lia | omega)
    unfold reNextFound
    dsimp only [rawInt]
    show wpAny _ _ ((reRunToEnd (forSearch code x.cps 0 (d : Int).toNat x.cps.size false)) >>= _) _ _ s
    rw [e0]
    refine wpAny_bind (runToEnd g hkk e ?_)
    have hbd := hb d
    cases hfd : find d with
    | none =>
      show wpAny _ _ (if d < x.cps.size then _ else _) _ _ s
      refine wpAny_ite ?_
      by_cases hlt : d < x.cps.size
      · rw [if_pos hlt]
        refine wpAny_bind (hsl _ _ _ _ fun tv kv => ?_)
        refine wpAny_bind (push { s with toks := kv } its ts _ tv _ hl hst K0 (hszl (by (first | lia | omega))) fun h' hl' hst' k' => ?_)
        refine fin { s with heap := h', toks := kv } _ _ k' hl' hst' rfl rfl rfl ?_
        show _ = ts ++ (match find d with | none => _ | some p => _)
        rw [hfd]
        dsimp only
        rw [if_pos hlt]
      · rw [if_neg hlt]
        refine fin _ _ _ K0 hl hst rfl rfl rfl ?_
        show _ = ts ++ (match find d with | none => _ | some p => _)
        rw [hfd]
        dsimp only
        rw [if_neg hlt, List.append_nil]
    | some p =>
      (have hZ4 := hbd p hd hfd; (refine Mine.xa0_3 hZ4 ?_; clear hZ4; intro hp1 hp2 hp3))
      intro m hm1 hm2 hm3
      have hstep : subL find x.cps repl (n + 1) d = (if d < p.1 then [⟨x.cps.extract d p.1⟩] else []) ++ repl :: subL find x.cps repl n p.2 := by
        show (match find d with | none => _ | some p => _) = _
        rw [hfd]
      have hne : (Value.str repl tr != Value.none) = true := rfl
      have hmust : (m.handed == p.1) = false := by rw [hm2]; simp; (first | lia | omega)
      have next : ∀ (s' : Shared) (its' : Array Value) (ts' : List Str), (∀ b o, h₀.get? b = some o → s'.heap.get? b = some o) → s'.heap.IsList D its' → StrsAre its'.toList ts' → s'.gens = s.gens → s'.os = s.os → s'.drawn = s.drawn →
          its'.size ≤ its.size + 1 → ts' ++ repl :: subL find x.cps repl n p.2 = ts ++ subL find x.cps repl (n + 1) d →
          wpAny (model prog w) A.in1 (if (Value.str repl tr != Value.none) = true then (updateSeq D (·.push (.str repl tr)) >>= fun _ => again (.builtin "re.Pattern.sub.loop" ⟨[.ref a, .str x t, .str repl tr, rawInt 0, rawInt 0, rawInt (k + 1), rawInt m.handed, rawInt m.handed, .bool (m.handed == p.1), .ref D, .bool false], []⟩)) else again (.builtin "re.Pattern.sub.loop" ⟨[.ref a, .str x t, .str repl tr, rawInt 0, rawInt 0, rawInt (k + 1), rawInt m.handed, rawInt m.handed, .bool (m.handed == p.1), .ref D, .bool false], []⟩))
            (fun fin s' => match fin with | .done f => R (.ok f) s' | .again c' => c'.quiet = true ∧ codeAny (model prog w) A c' R s') (fun e s' => R (.error e) s') s' := by
        intro s' its' ts' k1 hl' hst' hg ho hdr hsz hts
        rw [if_pos hne]
        refine wpAny_bind (push s' its' ts' repl tr _ hl' hst' k1 (hszl (by (first | lia | omega))) fun h' hl2 hst2 k2 => ?_)
        refine wpAny_pure ⟨plainId_quiet plain_sub_loop _, ?_⟩
        rw [hmust, hm2]
        have htsn : ts' ++ [repl] ++ subL find x.cps repl n p.2 = ts ++ subL find x.cps repl (n + 1) d := by rw [← hts]; simp
        refine ih p.2 (k + 1) (its'.push (.str repl tr)) (ts' ++ [repl]) _ (by (first | lia | omega)) hp3 k2 hl2 hst2 (by simp only [Array.size_push]; (first | lia | omega)) ?_ ?_
        · rw [htsn]; exact hsum
        · intro t' h' tk' k3
          rw [htsn]
          have := hR t' h' tk' k3
          obtain ⟨hp', gn', dr', tk0, os'⟩ := s'
          obtain ⟨hp0, gn0, dr0, tk1, os0⟩ := s
          dsimp only at hg ho hdr
          subst hg ho hdr
          exact this
      show wpAny _ _ (if d < m.start then _ else _) _ _ s
      refine wpAny_ite ?_
      rw [hm1]
      by_cases hlt : d < p.1
      · rw [if_pos hlt]
        refine wpAny_bind (hsl _ _ _ _ fun tv kv => ?_)
        refine wpAny_bind (push { s with toks := kv } its ts _ tv _ hl hst K0 (hszl (by (first | lia | omega))) fun h' hl' hst' k' => ?_)
        refine wpAny_bind (wpAny_pure ?_)
        refine next { s with heap := h', toks := kv } _ _ k' hl' hst' rfl rfl rfl (by simp only [Array.size_push]; (first | lia | omega)) ?_
        rw [hstep, if_pos hlt]; simp
      · rw [if_neg hlt]
        refine wpAny_bind (wpAny_pure ?_)
        refine next _ _ _ K0 hl hst rfl rfl rfl (by (first | lia | omega)) ?_
        rw [hstep, if_neg hlt]; simp
theorem call_none : typeLookup (.type "str") "__call__" = pure none := by rw [typeLookup_type, builtinLookup_eq_fast]; kernel_rfl
theorem meets_sub {a : Addr} {x repl : Str} {t tr : Tok} {code : Array Nat} (find : Nat → Option (Nat × Nat)) (hx : x.length ≤ 1000000) (h92 : repl.cps.contains 92 = false)
    (hf : ∀ d, d ≤ x.length → Finds code x.cps d (find d)) (hb : ∀ d p, d ≤ x.length → find d = some p → d ≤ p.1 ∧ p.1 < p.2 ∧ p.2 ≤ x.length)
    (hsum : ((subL find x.cps repl (x.length + 1) 0).map (·.length)).sum ≤ 16777216) :
    Meets (Builtin.«re.Pattern.sub» ⟨[.ref a, .str repl tr, .str x t], []⟩) (fun A R s => IsPat s.heap a code ∧
      ∀ t' h' tk', (∀ b o, s.heap.get? b = some o → h'.get? b = some o) → R (.ok (.ret (.str (Txt.join (Str.ofString "") (subL find x.cps repl (x.length + 1) 0)) t'))) { s with heap := h', toks := tk' }) := by
  intro prog w A R s ⟨hp, h⟩
  unfold Builtin.«re.Pattern.sub» reSubstitute
  dsimp only
  refine wpAny_bind (wpAny_of_eq (a := [some (.str repl tr), some (.str x t), none]) (by rfl) ?_)
  dsimp only
  refine wpAny_bind (wpAny_pure ?_)
  refine wpAny_bind (wpAny_specialOf (typeIs_str _ _ _) call_none ?_)
  show wpAny _ _ (if (!repl.cps.contains 92) = true then _ else _) _ _ s
  rw [h92]
  show wpAny _ _ (holding [.str repl tr] (reWholeTarget (.ref a) (.str x t)) >>= _) _ _ s
  refine wpAny_bind (wpAny_holding (wholeTarget hp ?_))
  show wpAny _ _ (newList [] >>= _) _ _ s
  refine wpAny_bind (wpAny_newList ?_ (show 0 ≤ sizeLine by decide))
  refine wpAny_pure ⟨plainId_quiet plain_sub_loop _, ?_⟩
  refine sub_loop (h₀ := s.heap) find hp hx (by unfold Heap.get?; simp) hf hb (x.length + 1) 0 0 #[] [] _ (by (first | lia | omega)) (by (first | lia | omega)) ?_ ?_ .nil (by decide) (by simpa using hsum) ?_
  · exact fun b o e => Heap.get?_push_of_some _ e
  · (first | exact Mine.in2 _ (Heap.get?_push_size _ rfl) ⟨rfl, _, rfl⟩ | exact ⟨_, Heap.get?_push_size _ rfl, rfl, _, rfl⟩)
  · intro t' h' tk' k
    rw [List.nil_append]
    exact h t' h' tk' k
end
end Mine
end
section
open PySem PySem.W PyProof.Rows
set_option maxRecDepth 100000
set_option maxHeartbeats 8000000
set_option linter.unusedVariables false
namespace Mine
noncomputable def li (x : Str) : List Nat := x.cps.toList
theorem li_inj {a b : Str} (h : li a = li b) : a = b := Str.ext' (Array.ext' h)
theorem li_app (a b : Str) : li (a ++ b) = li a ++ li b := by unfold li; rw [Str.cps_append, Array.toList_append]
theorem li_len (a : Str) : (li a).length = a.length := by unfold li Str.length; simp
noncomputable def joinL (sep : List Nat) : List (List Nat) → List Nat
  | [] => []
  | [x] => x
  | x :: r => x ++ sep ++ joinL sep r
theorem li_join (sep : Str) : ∀ ts : List Str, li (Txt.join sep ts) = joinL (li sep) (ts.map li) := by
  intro ts
  show li (Builtin.Str.glued sep ts) = _
  rw [StrLaws.glued_eq_join]
  induction ts with
  | nil => rfl
  | cons x r ih =>
    cases r with
    | nil => rfl
    | cons y r =>
      show li (x ++ sep ++ Str.join sep (y :: r)) = li x ++ li sep ++ joinL (li sep) ((y :: r).map li)
      rw [li_app, li_app, ih]
theorem joinL_nil : ∀ ts : List (List Nat), joinL [] ts = ts.flatten
  | [] => rfl
  | [x] => by simp [joinL]
  | x :: y :: r => by
    show x ++ [] ++ joinL [] (y :: r) = _
    rw [joinL_nil (y :: r)]; simp
theorem li_join0 (ts : List Str) : li (Txt.join (Str.ofString "") ts) = (ts.map li).flatten := by
  rw [li_join]; exact joinL_nil _

noncomputable def crlfF : Bool → List Nat → List Nat
  | _, [] => []
  | cr, c :: r => if c = 13 then 13 :: 10 :: crlfF true r else if c = 10 then (if cr = true then crlfF false r else 13 :: 10 :: crlfF false r) else c :: crlfF false r
noncomputable def dotF : Bool → List Nat → List Nat
  | _, [] => []
  | st, c :: r => (if st = true ∧ c = 46 then [46, 46] else [c]) ++ dotF (c == 10) r

theorem findFrom_pre {p : Nat → Bool} : ∀ {n s k : Nat}, findFrom p n s = some k → ∀ i, s ≤ i → i < k → p i = false := by
  intro n
  induction n with
  | zero => intro s k h; cases h
  | succ n ih =>
    intro s k h i hi hk
    by_cases hb : p s = true
    · have h' : (if p s = true then some s else findFrom _ n (s + 1)) = some k := h
      rw [if_pos hb] at h'
      cases h'
      (first | lia | omega)
    · have h' : (if p s = true then some s else findFrom _ n (s + 1)) = some k := h
      rw [if_neg hb] at h'
      rcases Nat.eq_or_lt_of_le hi with rfl | hlt
      · exact Bool.eq_false_iff.mpr hb
      · exact ih h' i hlt hk
theorem findFrom_none {p : Nat → Bool} : ∀ {n s : Nat}, findFrom p n s = none → ∀ i, s ≤ i → i < s + n → p i = false := by
  intro n
  induction n with
  | zero => intro s h i hi hk; (first | lia | omega)
  | succ n ih =>
    intro s h i hi hk
    by_cases hb : p s = true
    · have h' : (if p s = true then some s else findFrom _ n (s + 1)) = none := h
      rw [if_pos hb] at h'
      cases h'
    · have h' : (if p s = true then some s else findFrom _ n (s + 1)) = none := h
      rw [if_neg hb] at h'
      rcases Nat.eq_or_lt_of_le hi with rfl | hlt
      · exact Bool.eq_false_iff.mpr hb
      · exact ih h' i hlt (by (first | lia | omega))
noncomputable def endAt (x : Array Nat) (i : Nat) : Bool := x.getD i 0 == 10 || x.getD i 0 == 13
noncomputable def findB (x : Array Nat) (d : Nat) : Option (Nat × Nat) := (findFrom (endAt x) (x.size - d) d).map fun p => (p, p + lenB x p)
noncomputable def findA (x : Array Nat) (d : Nat) : Option (Nat × Nat) := (findFrom (hitA x) (x.size - d) d).map fun p => (p, p + 1)
theorem drop_at (x : Array Nat) (d : Nat) (h : d < x.size) : x.toList.drop d = x.getD d 0 :: x.toList.drop (d + 1) := by
  rw [List.drop_eq_getElem_cons (by simpa using h)]
  simp [Array.getD, h]
theorem ext_li (x : Array Nat) (a b : Nat) : li ⟨x.extract a b⟩ = (x.toList.drop a).take (b - a) := by
  unfold li; simp [List.take_drop]
theorem crlf_pass (x : Array Nat) : ∀ k d, d + k ≤ x.size → (∀ i, d ≤ i → i < d + k → endAt x i = false) →
    crlfF false (x.toList.drop d) = (x.toList.drop d).take k ++ crlfF false (x.toList.drop (d + k)) := by
  intro k
  induction k with
  | zero => intro d h hi; simp
  | succ k ih =>
    intro d h hi
    have e := hi d (Nat.le_refl _) (by (first | lia | omega))
    unfold endAt at e
    rw [Bool.or_eq_false_iff] at e
    rw [drop_at x d (by (first | lia | omega)), List.take_succ_cons]
    show (if x.getD d 0 = 13 then _ else if x.getD d 0 = 10 then _ else x.getD d 0 :: crlfF false (x.toList.drop (d + 1))) = _
    rw [if_neg (by simpa using e.2), if_neg (by simpa using e.1), ih (d + 1) (by (first | lia | omega)) (fun i h1 h2 => hi i (by (first | lia | omega)) (by (first | lia | omega))), show d + 1 + k = d + (k + 1) by (first | lia | omega)]
    rfl
theorem crlf_cr (l : List Nat) (h : l.head? ≠ some 10) : crlfF true l = crlfF false l := by
  cases l with
  | nil => rfl
  | cons c r =>
    have hc : c ≠ 10 := fun e => h (by rw [e]; rfl)
    show (if c = 13 then _ else if c = 10 then _ else _) = (if c = 13 then _ else if c = 10 then _ else _)
    rw [if_neg hc, if_neg hc]
theorem subB (x : Array Nat) : ∀ n d, x.size - d < n → d ≤ x.size → ((subL (findB x) x (Str.ofString "\u000d\n") n d).map li).flatten = crlfF false (x.toList.drop d) := by
  intro n
  induction n with
  | zero => intro d h; (first | lia | omega)
  | succ n ih =>
    intro d hn hd
    show ((match findB x d with | none => _ | some p => _ : List Str).map li).flatten = _
    unfold findB
    cases hf : findFrom (endAt x) (x.size - d) d with
    | none =>
      have hno := findFrom_none hf
      have := crlf_pass x (x.size - d) d (by (first | lia | omega)) (fun i h1 h2 => hno i h1 h2)
      show ((if d < x.size then [(⟨x.extract d x.size⟩ : Str)] else []).map li).flatten = _
      rw [this, show d + (x.size - d) = x.size by (first | lia | omega)]
      have hz : crlfF false (x.toList.drop x.size) = [] := by rw [List.drop_of_length_le (by simp)]; rfl
      rw [hz]
      by_cases hlt : d < x.size
      · rw [if_pos hlt]
        simp only [List.map_cons, List.map_nil, List.flatten_cons, List.flatten_nil, ext_li]
      · rw [if_neg hlt, show x.size - d = 0 by (first | lia | omega)]
        simp
    | some p =>
      have hs := findFrom_some hf
      have hpre := findFrom_pre hf
      have := crlf_pass x (p - d) d (by (first | lia | omega)) (fun i h1 h2 => hpre i h1 (by (first | lia | omega)))
      rw [this, show d + (p - d) = p by (first | lia | omega)]
      have e1 : ((if d < p then [(⟨x.extract d p⟩ : Str)] else []).map li).flatten = (x.toList.drop d).take (p - d) := by
        by_cases hlt : d < p
        · rw [if_pos hlt]
          simp only [List.map_cons, List.map_nil, List.flatten_cons, List.flatten_nil, ext_li, List.append_nil]
        · rw [if_neg hlt, show p - d = 0 by (first | lia | omega)]
          simp
      show (((if d < p then [(⟨x.extract d p⟩ : Str)] else []) ++ Str.ofString "\u000d\n" :: subL (findB x) x (Str.ofString "\u000d\n") n (p + lenB x p)).map li).flatten = _
      rw [List.map_append, List.flatten_append, e1, List.map_cons, List.flatten_cons]
      congr 1
      have hl : p + lenB x p ≤ x.size := by unfold lenB; split <;> (first | lia | omega)
      have hl0 : 0 < lenB x p := by unfold lenB; split <;> (first | lia | omega)
      rw [ih (p + lenB x p) (by (first | lia | omega)) hl]
      have hcr : li (Str.ofString "\u000d\n") = [13, 10] := by decide +kernel
      rw [hcr]
      rw [drop_at x p (by (first | lia | omega))]
      have hor : x.getD p 0 = 10 ∨ x.getD p 0 = 13 := by simpa [endAt] using hs.2.2
      show _ = (if x.getD p 0 = 13 then _ else if x.getD p 0 = 10 then (if false = true then _ else _) else _)
      rcases hor with h10 | h13
      · rw [if_neg (by rw [h10]; decide), if_pos h10, if_neg Bool.false_ne_true]
        have : lenB x p = 1 := by unfold lenB; rw [if_neg (by rw [h10]; (first | lia | omega))]
        rw [this]; rfl
      · rw [if_pos h13]
        by_cases h2 : p + 1 < x.size ∧ x.getD (p + 1) 0 = 10
        · have : lenB x p = 2 := by unfold lenB; rw [if_pos ⟨h13, h2⟩]
          rw [this, drop_at x (p + 1) h2.1, h2.2]
          rfl
        · have : lenB x p = 1 := by unfold lenB; rw [if_neg (fun h => h2 h.2)]
          rw [this, crlf_cr]
          · rfl
          · intro hh
            rcases Nat.lt_or_ge (p + 1) x.size with hlt | hge
            · rw [drop_at x (p + 1) hlt] at hh
              exact h2 ⟨hlt, by simpa using hh⟩
            · rw [List.drop_of_length_le (by simpa using hge)] at hh
              cases hh
theorem dot_pass (x : Array Nat) : ∀ k d, d + k ≤ x.size → (∀ i, d ≤ i → i < d + k → hitA x i = false) →
    dotF (atA x d) (x.toList.drop d) = (x.toList.drop d).take k ++ dotF (atA x (d + k)) (x.toList.drop (d + k)) := by
  intro k
  induction k with
  | zero => intro d h hi; simp
  | succ k ih =>
    intro d h hi
    have e := hi d (Nat.le_refl _) (by (first | lia | omega))
    unfold hitA at e
    rw [drop_at x d (by (first | lia | omega)), List.take_succ_cons]
    show (if atA x d = true ∧ x.getD d 0 = 46 then [46, 46] else [x.getD d 0]) ++ dotF (x.getD d 0 == 10) (x.toList.drop (d + 1)) = _
    rw [if_neg (by intro hh; rw [hh.1, hh.2] at e; cases e)]
    have ea : (x.getD d 0 == 10) = atA x (d + 1) := by unfold atA; simp
    rw [ea, ih (d + 1) (by (first | lia | omega)) (fun i h1 h2 => hi i (by (first | lia | omega)) (by (first | lia | omega))), show d + 1 + k = d + (k + 1) by (first | lia | omega)]
    rfl
theorem subA (x : Array Nat) : ∀ n d, x.size - d < n → d ≤ x.size → ((subL (findA x) x (Str.ofString "..") n d).map li).flatten = dotF (atA x d) (x.toList.drop d) := by
  intro n
  induction n with
  | zero => intro d h; (first | lia | omega)
  | succ n ih =>
    intro d hn hd
    show ((match findA x d with | none => _ | some p => _ : List Str).map li).flatten = _
    unfold findA
    cases hf : findFrom (hitA x) (x.size - d) d with
    | none =>
      have hno := findFrom_none hf
      have := dot_pass x (x.size - d) d (by (first | lia | omega)) (fun i h1 h2 => hno i h1 h2)
      show ((if d < x.size then [(⟨x.extract d x.size⟩ : Str)] else []).map li).flatten = _
      rw [this, show d + (x.size - d) = x.size by (first | lia | omega)]
      have hz : dotF (atA x x.size) (x.toList.drop x.size) = [] := by rw [List.drop_of_length_le (by simp)]; rfl
      rw [hz]
      by_cases hlt : d < x.size
      · rw [if_pos hlt]
        simp only [List.map_cons, List.map_nil, List.flatten_cons, List.flatten_nil, ext_li]
      · rw [if_neg hlt, show x.size - d = 0 by (first | lia | omega)]
        simp
    | some p =>
      have hs := findFrom_some hf
      have hpre := findFrom_pre hf
      have := dot_pass x (p - d) d (by (first | lia | omega)) (fun i h1 h2 => hpre i h1 (by (first | lia | omega)))
      rw [this, show d + (p - d) = p by (first | lia | omega)]
      have e1 : ((if d < p then [(⟨x.extract d p⟩ : Str)] else []).map li).flatten = (x.toList.drop d).take (p - d) := by
        by_cases hlt : d < p
        · rw [if_pos hlt]
          simp only [List.map_cons, List.map_nil, List.flatten_cons, List.flatten_nil, ext_li, List.append_nil]
        · rw [if_neg hlt, show p - d = 0 by (first | lia | omega)]
          simp
      show (((if d < p then [(⟨x.extract d p⟩ : Str)] else []) ++ Str.ofString ".." :: subL (findA x) x (Str.ofString "..") n (p + 1)).map li).flatten = _
      rw [List.map_append, List.flatten_append, e1, List.map_cons, List.flatten_cons]
      congr 1
      rw [ih (p + 1) (by (first | lia | omega)) (by (first | lia | omega))]
      have hcr : li (Str.ofString "..") = [46, 46] := by decide +kernel
      rw [hcr]
      have h2 : atA x p = true ∧ x.getD p 0 = 46 := by simpa [hitA] using hs.2.2
      rw [drop_at x p (by (first | lia | omega))]
      show _ = (if atA x p = true ∧ x.getD p 0 = 46 then [46, 46] else [x.getD p 0]) ++ dotF (x.getD p 0 == 10) (x.toList.drop (p + 1))
      rw [if_pos h2]
      have ea : (x.getD p 0 == 10) = atA x (p + 1) := by unfold atA; simp
      rw [ea]
theorem findsB (x : Str) (hx : x.length ≤ 1000000) : ∀ d, d ≤ x.length → Finds codeB x.cps d (findB x.cps d) := by
  intro d hd
  obtain ⟨m', g, e⟩ := B_search x.cps d hd
  exact ⟨m', 20, by decide, g, e⟩
theorem findsA (x : Str) (hx : x.length ≤ 1000000) : ∀ d, d ≤ x.length → Finds codeA x.cps d (findA x.cps d) := by
  intro d hd
  obtain ⟨m', g, e⟩ := A_search x.cps d hd
  have h : x.cps.size ≤ 1000000 := hx
  exact ⟨m', _, by (first | lia | omega), g, e⟩
theorem boundB (x : Str) : ∀ d p, d ≤ x.length → findB x.cps d = some p → d ≤ p.1 ∧ p.1 < p.2 ∧ p.2 ≤ x.length := by
  intro d p hd h
  unfold findB at h
  cases hf : findFrom (endAt x.cps) (x.cps.size - d) d with
  | none => rw [hf] at h; cases h
  | some k =>
    rw [hf] at h
    cases h
    have := findFrom_some hf
    have h3 : x.length = x.cps.size := rfl
    refine ⟨this.1, ?_, ?_⟩
    · show k < k + lenB x.cps k
      unfold lenB; split <;> (first | lia | omega)
    · show k + lenB x.cps k ≤ x.length
      unfold lenB; split <;> (first | lia | omega)
theorem boundA (x : Str) : ∀ d p, d ≤ x.length → findA x.cps d = some p → d ≤ p.1 ∧ p.1 < p.2 ∧ p.2 ≤ x.length := by
  intro d p hd h
  unfold findA at h
  cases hf : findFrom (hitA x.cps) (x.cps.size - d) d with
  | none => rw [hf] at h; cases h
  | some k =>
    rw [hf] at h
    cases h
    have := findFrom_some hf
    have h3 : x.length = x.cps.size := rfl
    refine ⟨this.1, ?_, ?_⟩
    · show k < k + 1
      (first | lia | omega)
    · show k + 1 ≤ x.length
      (first | lia | omega)
theorem crlf_len : ∀ (cr : Bool) (l : List Nat), (crlfF cr l).length ≤ 2 * l.length
  | _, [] => by simp [crlfF]
  | cr, c :: r => by
    have h1 := crlf_len true r
    have h2 := crlf_len false r
    show (if c = 13 then _ else if c = 10 then (if cr = true then _ else _) else _ : List Nat).length ≤ _
    split
    · simp only [List.length_cons]; (first | lia | omega)
    · split
      · split <;> simp only [List.length_cons] <;> (first | lia | omega)
      · simp only [List.length_cons]; (first | lia | omega)
theorem dot_len : ∀ (st : Bool) (l : List Nat), (dotF st l).length ≤ 2 * l.length
  | _, [] => by simp [dotF]
  | st, c :: r => by
    have h1 := dot_len (c == 10) r
    show ((if st = true ∧ c = 46 then [46, 46] else [c]) ++ dotF (c == 10) r).length ≤ _
    rw [List.length_append]
    split <;> simp only [List.length_cons, List.length_nil] <;> (first | lia | omega)
theorem sum_len (ts : List Str) : (ts.map (·.length)).sum = ((ts.map li).flatten).length := by
  rw [List.length_flatten, List.map_map]
  congr 1
noncomputable def crlfS (x : Str) : Str := Txt.join (Str.ofString "") (subL (findB x.cps) x.cps (Str.ofString "\u000d\n") (x.length + 1) 0)
noncomputable def dotS (x : Str) : Str := Txt.join (Str.ofString "") (subL (findA x.cps) x.cps (Str.ofString "..") (x.length + 1) 0)
theorem li_crlfS (x : Str) : li (crlfS x) = crlfF false (li x) := by
  unfold crlfS
  rw [li_join0, subB x.cps (x.length + 1) 0 (by show x.cps.size - 0 < x.cps.size + 1; (first | lia | omega)) (by (first | lia | omega))]
  rfl
theorem li_dotS (x : Str) : li (dotS x) = dotF true (li x) := by
  unfold dotS
  rw [li_join0, subA x.cps (x.length + 1) 0 (by show x.cps.size - 0 < x.cps.size + 1; (first | lia | omega)) (by (first | lia | omega))]
  rfl
theorem crlfS_len (x : Str) : (crlfS x).length ≤ 2 * x.length := by
  rw [← li_len, li_crlfS, ← li_len x]; exact crlf_len _ _
theorem dotS_len (x : Str) : (dotS x).length ≤ 2 * x.length := by
  rw [← li_len, li_dotS, ← li_len x]; exact dot_len _ _
theorem sumB (x : Str) (hx : x.length ≤ 1000000) : ((subL (findB x.cps) x.cps (Str.ofString "\u000d\n") (x.length + 1) 0).map (·.length)).sum ≤ 16777216 := by
  rw [sum_len, subB x.cps (x.length + 1) 0 (by show x.cps.size - 0 < x.cps.size + 1; (first | lia | omega)) (by (first | lia | omega))]
  have := crlf_len false (x.cps.toList.drop 0)
  have h2 : (x.cps.toList.drop 0).length = x.length := by simp [Str.length]
  (first | lia | omega)
theorem sumA (x : Str) (hx : x.length ≤ 1000000) : ((subL (findA x.cps) x.cps (Str.ofString "..") (x.length + 1) 0).map (·.length)).sum ≤ 16777216 := by
  rw [sum_len, subA x.cps (x.length + 1) 0 (by show x.cps.size - 0 < x.cps.size + 1; (first | lia | omega)) (by (first | lia | omega))]
  have := dot_len (atA x.cps 0) (x.cps.toList.drop 0)
  have h2 : (x.cps.toList.drop 0).length = x.length := by simp [Str.length]
  (first | lia | omega)
noncomputable def badS (x : Str) : Bool := (findFrom (fun i => badC (x.cps.getD i 0)) x.cps.size 0).isSome
end Mine
end
section
open PySem PySem.W PyProof.Rows
set_option maxRecDepth 100000
set_option maxHeartbeats 8000000
set_option linter.unusedVariables false
namespace Mine
section
variable {prog : Program} {w : World} {A : Around} {E : Value → Shared → Prop} {s : Shared} {K : Frag} {h₀ : Heap} {L a c : Addr} {m : Str → Option Value} {news : List (Addr × Obj)} {Q : Value → Shared → Prop}
theorem pat_of {p fl : Value} {its : Array Value} {code : Array Nat} (F : Fr h₀ L s.heap m) (X : K.In h₀)
    (h1 : K.lookup a = some ⟨.type "re.Pattern", none, .fields #[p, fl, .int 0 0, .none, .none, .ref c, .int 0 0], #[]⟩)
    (h2 : K.lookup c = some ⟨.type "tuple", none, .seq its 0, #[]⟩) (h3 : (its.map Builtin.Re.reRawOf).map (·.toNat) = code) : IsPat s.heap a code :=
  ⟨p, fl, c, its, F.keep _ _ (X _ _ h1), F.keep _ _ (X _ _ h2), h3⟩
theorem sub_meth {vs : Array Value} {pl : Sem Bool} {Q : Value × List Value → Shared → Prop} (F : Fr h₀ L s.heap m) (X : K.In h₀) (h1 : K.lookup a = some ⟨.type "re.Pattern", none, .fields vs, #[]⟩)
    (h : Q (.builtin "re.Pattern.sub", [.ref a]) s) : wpAny (model prog w) A (getMethod (.ref a) "sub" pl) Q E s :=
  getMethod_builtin ⟨_, F.keep _ _ (X _ _ h1), rfl⟩ plainAttrs_pat slot_sub type_sub (fun b e => by cases e; (first | exact Mine.in2 _ (F.keep _ _ (X _ _ h1)) rfl | exact ⟨_, F.keep _ _ (X _ _ h1), rfl⟩)) h
theorem sub_callB {repl x : Str} {tr t : Tok} {p fl : Value} {its : Array Value} (F : Fr h₀ L s.heap m) (N : News h₀ L s.heap news) (X : K.In h₀)
    (h1 : K.lookup a = some ⟨.type "re.Pattern", none, .fields #[p, fl, .int 0 0, .none, .none, .ref c, .int 0 0], #[]⟩)
    (h2 : K.lookup c = some ⟨.type "tuple", none, .seq its 0, #[]⟩) (h3 : (its.map Builtin.Re.reRawOf).map (·.toNat) = codeB)
    (hr : repl = Str.ofString "\u000d\n") (hx : x.length ≤ 1000000)
    (ret : ∀ t' h' tk', Fr h₀ L h' m → News h₀ L h' news → Q (.str (crlfS x) t') { s with heap := h', toks := tk' }) :
    wpAny (model prog w) A (call (.builtin "re.Pattern.sub") [.ref a, .str repl tr, .str x t]) Q E s := by
  subst hr
  have hp := pat_of F X h1 h2 h3
  exact call_meets slot_sub hp.typeIs entry_sub (args_sub _ _ _) (meets_sub (findB x.cps) hx (by decide +kernel) (findsB x hx) (boundB x) (sumB x hx))
    ⟨hp, fun t' h' tk' k => ret t' h' tk' (F.keeps k) fun p hp => ⟨k _ _ (N p hp).1, (N p hp).2⟩⟩
theorem sub_callA {repl x : Str} {tr t : Tok} {p fl : Value} {its : Array Value} (F : Fr h₀ L s.heap m) (N : News h₀ L s.heap news) (X : K.In h₀)
    (h1 : K.lookup a = some ⟨.type "re.Pattern", none, .fields #[p, fl, .int 0 0, .none, .none, .ref c, .int 0 0], #[]⟩)
    (h2 : K.lookup c = some ⟨.type "tuple", none, .seq its 0, #[]⟩) (h3 : (its.map Builtin.Re.reRawOf).map (·.toNat) = codeA)
    (hr : repl = Str.ofString "..") (hx : x.length ≤ 1000000)
    (ret : ∀ t' h' tk', Fr h₀ L h' m → News h₀ L h' news → Q (.str (dotS x) t') { s with heap := h', toks := tk' }) :
    wpAny (model prog w) A (call (.builtin "re.Pattern.sub") [.ref a, .str repl tr, .str x t]) Q E s := by
  subst hr
  have hp := pat_of F X h1 h2 h3
  exact call_meets slot_sub hp.typeIs entry_sub (args_sub _ _ _) (meets_sub (findA x.cps) hx (by decide +kernel) (findsA x hx) (boundA x) (sumA x hx))
    ⟨hp, fun t' h' tk' k => ret t' h' tk' (F.keeps k) fun p hp => ⟨k _ _ (N p hp).1, (N p hp).2⟩⟩
theorem findsC (x : Str) : Finds codeC x.cps 0 ((findFrom (fun i => badC (x.cps.getD i 0)) x.cps.size 0).map fun p => (p, p + 1)) := by
  (have hZ1 := C_search x.cps; (refine Mine.xa1_2 hZ1 ?_; clear hZ1; intro m' g e))
  exact Mine.in2 m' (20) ⟨by decide, g, e⟩
theorem keeps_bnd {K : Frag} {M : Model} {u : Addr} {vs : Array Value} (ho : K.lookup u = some ⟨.type "builtin_function_or_method", none, .fields vs, #[]⟩) (h : Heap) (X : K.In h) :
    ∃ k, (k = Keeper.frame ∨ k = Keeper.machine ∨ k = Keeper.boundFrame) ∧ Looks M h (keeperOf (.ref u)) k :=
  ⟨.machine, .inr (.inl rfl), (Looks.ld (part := none) (X _ _ ho)).andThen .now⟩
theorem callWith_bnd {K : Frag} {pos : Pos} {u : Addr} {vs : Array Value} {first : List Value} {env : Env} {e : Expr} {rest : List Expr} {Q : Value → Shared → Prop} (_X : K.In h₀) (ho : K.lookup u = some ⟨.type "builtin_function_or_method", none, .fields vs, #[]⟩)
    (h : wpAny (model prog w) A (spliced (backTo pos (starEach (e :: rest) env))) (fun vs s₁ => K.In s₁.heap ∧ wpAny (model prog w) A (call (.ref u) (first ++ vs)) Q E s₁) E s)
    (he : starEach (e :: rest) env = (false, eval e env) :: starEach rest env := by rfl) (hplain : (backTo pos (starEach rest env)).any (·.1) = false := by rfl) :
    wpAny (model prog w) A (callWith pos (.ref u) first (backTo pos (starEach (e :: rest) env)) []) Q E s := by
  rw [he] at h ⊢
  exact callWith_of (by show ((false || (backTo pos (starEach rest env)).any (·.1)) || false) = false; rw [hplain]; rfl) (keeps_bnd ho) (Calls.evalArgs_plain h)
theorem bound_args (a b : Value) : (match Manifest.signature? "re.Pattern.search" with | some sig => Bind.checkArgs "re.Pattern.search" { sig with full := s!"{Bind.lastOf "re.Pattern"}.{Bind.lastOf "re.Pattern.search"}" } ⟨[a, b], []⟩ | none => pure ()) = pure () := by kernel_rfl
theorem bound_kind : builtinKind "re.Pattern.search" = some .method := by decide +kernel
theorem bound_var : Manifest.varargsMethods.contains "re.Pattern.search" = false := by decide +kernel
theorem pat_module : isSubtype (.type "re.Pattern") (.type "module") = pure false := by rw [isSubtype_type]; kernel_rfl
theorem pat_type : isSubtype (.type "re.Pattern") (.type "type") = pure false := by rw [isSubtype_type]; kernel_rfl
theorem check_find {A : Around} {Q : Unit → Shared → Prop} {b : Value} {code : Array Nat} (hp : IsPat s.heap a code) (h : Q () s) : wpAny (model prog w) A (checkBoundCall "re.Pattern.search" ⟨[.ref a, b], []⟩) Q E s := by
  have hb := bound_args (.ref a) b
  have hT := hp.typeIs
  (have hZ2 := hp; try clear hp; (refine Mine.xa4_3 hZ2 ?_; clear hZ2; intro p fl c its h1 h2 h3))
  unfold checkBoundCall
  cases hs : Manifest.signature? "re.Pattern.search" with
  | none => exact wpAny_pure h
  | some sig =>
    rw [hs] at hb
    simp only [bound_kind]
    refine KFB.if_not (by decide) ?_
    refine wpAny_bind (wpAny_isInstance hT pat_module ?_)
    simp only [bound_var]
    refine KFB.if_not rfl ?_
    unfold isType loadHead
    refine wpAny_bind (wpAny_bind (wpAny_loadPart h1 (wpAny_pure ?_)))
    refine KFB.if_not rfl ?_
    refine wpAny_bind (wpAny_typeOf hT ?_)
    exact wpAny_of_eq hb h
theorem call_find {f : Addr} {x : Str} {t : Tok} {p fl : Value} {its : Array Value} (F : Fr h₀ L s.heap m) (N : News h₀ L s.heap news) (X : K.In h₀)
    (h0 : K.lookup f = some ⟨.type "builtin_function_or_method", none, .fields #[.builtin "re.Pattern.search", .ref a], #[]⟩)
    (h1 : K.lookup a = some ⟨.type "re.Pattern", none, .fields #[p, fl, .int 0 0, .none, .none, .ref c, .int 0 0], #[]⟩)
    (h2 : K.lookup c = some ⟨.type "tuple", none, .seq its 0, #[]⟩) (h3 : (its.map Builtin.Re.reRawOf).map (·.toNat) = codeC)
    (hx : x.length ≤ 1000000)
    (ret0 : badS x = false → Q .none s) (ret1 : ∀ a' h', badS x = true → Fr h₀ L h' m → News h₀ L h' news → Q (.ref a') { s with heap := h' }) :
    wpAny (model prog w) A (call (.ref f) [.str x t]) Q E s := by
  have hp := pat_of F X h1 h2 h3
  have ho := F.keep _ _ (X _ _ h0)
  refine wpAny_call (codeAny_of_tree ?_)
  show wpAny _ A.in1 (callAny (.ref f) ⟨[.str x t], []⟩) _ _ s
  simp only [callAny]
  refine wpAny_bind (wpAny_load ho ?_)
  simp only [show (Value.type "builtin_function_or_method" == Value.type "method" || Value.type "builtin_function_or_method" == Value.type "builtin_function_or_method" || Value.type "builtin_function_or_method" == Value.type "method-wrapper") = true by decide, if_true]
  refine KFB.if_so (by decide) ?_
  refine wpAny_bind (check_find hp ?_)
  refine wpAny_pure ⟨Code.quiet_builtin _ (by decide +kernel), codeAny_builtin entry_search ?_⟩
  rw [Around.under_plainId slot_search.plain _]
  refine meets_search a x t codeC ((findFrom (fun i => badC (x.cps.getD i 0)) x.cps.size 0).map fun p => (p, p + 1)) (by (first | lia | omega)) (findsC x) prog w A (wants Q E) s ⟨hp, ?_⟩
  have hbd : badS x = (findFrom (fun i => badC (x.cps.getD i 0)) x.cps.size 0).isSome := rfl
  revert hbd
  generalize findFrom (fun i => badC (x.cps.getD i 0)) x.cps.size 0 = r
  intro hbd
  cases r with
  | none => exact ret0 hbd
  | some k => exact fun a' h' k' => ret1 a' h' hbd (F.keeps k') fun p hp => ⟨k' _ _ (N p hp).1, (N p hp).2⟩
end
end Mine
end
section
open PySem PySem.W PyProof.Rows
set_option maxRecDepth 100000
set_option maxHeartbeats 8000000
set_option linter.unusedVariables false
namespace Mine
noncomputable def putF (c : Nat) (z : List Nat) (l : List Nat) : List Nat := l.flatMap fun d => if d = c then z else [d]
theorem putF_app (c : Nat) (z a b : List Nat) : putF c z (a ++ b) = putF c z a ++ putF c z b := List.flatMap_append
theorem putF_free (c : Nat) (z : List Nat) : ∀ l : List Nat, c ∉ l → putF c z l = l
  | [], _ => rfl
  | k :: r, h => by
    have h1 : ¬ k = c := fun e => h (e ▸ List.mem_cons_self ..)
    have h2 : c ∉ r := fun m => h (List.mem_cons_of_mem _ m)
    show (if k = c then z else [k]) ++ putF c z r = k :: r
    rw [if_neg h1, putF_free c z r h2]; rfl
theorem putF_join (c : Nat) (z : Str) : ∀ parts : List Str, (∀ p ∈ parts, c ∉ li p) → putF c (li z) (li (Str.join ⟨#[c]⟩ parts)) = li (Str.join z parts)
  | [], _ => rfl
  | [p], h => putF_free c _ _ (h p (List.mem_singleton.mpr rfl))
  | p :: q :: r, h => by
    have ih := putF_join c z (q :: r) fun a ha => h a (List.mem_cons_of_mem _ ha)
    show putF c (li z) (li (p ++ ⟨#[c]⟩ ++ Str.join ⟨#[c]⟩ (q :: r))) = li (p ++ z ++ Str.join z (q :: r))
    simp only [li_app]
    rw [putF_app, putF_app, ih, putF_free c _ _ (h p (List.mem_cons_self ..))]
    have e : putF c (li z) (li ⟨#[c]⟩) = li z := by
      show (if c = c then li z else [c]) ++ [] = li z
      rw [if_pos rfl, List.append_nil]
    rw [e]
theorem li_replace (x z : Str) (c : Nat) : li (Txt.replace x ⟨#[c]⟩ z) = putF c (li z) (li x) := by
  rw [StrLaws.replace_one, ← putF_join c z _ (StrLaws.split_free x c), StrLaws.join_split]
theorem putF_len (c : Nat) (z : List Nat) : ∀ l : List Nat, (putF c z l).length ≤ (z.length + 1) * l.length
  | [] => Nat.zero_le _
  | k :: r => by
    have h := putF_len c z r
    show ((if k = c then z else [k]) ++ putF c z r).length ≤ _
    rw [List.length_append, List.length_cons, Nat.mul_succ]
    have : (if k = c then z else [k]).length ≤ z.length + 1 := by split <;> simp
    (first | lia | omega)
noncomputable def apo : Str := Str.ofString "'"
noncomputable def apoQ : Str := Str.ofString "'\"'\"'"
theorem apo_eq : apo = ⟨#[39]⟩ := by decide +kernel
theorem li_rep (x : Str) : li (Txt.replace x apo apoQ) = putF 39 [39, 34, 39, 34, 39] (li x) := by
  rw [apo_eq, li_replace, show li apoQ = [39, 34, 39, 34, 39] by decide +kernel]
theorem rep_len (x : Str) : (Txt.replace x apo apoQ).length ≤ 6 * x.length := by
  rw [← li_len, li_rep, ← li_len x]
  exact putF_len ..
noncomputable def quoteS (x : Str) : Str := if x.length = 0 then Str.ofString "''" else if badS x = true then apo ++ Txt.replace x apo apoQ ++ apo else x
theorem quoteS_len (x : Str) : (quoteS x).length ≤ 6 * x.length + 2 := by
  have := rep_len x
  have e : apo.length = 1 := by decide +kernel
  unfold quoteS
  split
  · have : (Str.ofString "''").length = 2 := by decide +kernel
    (first | lia | omega)
  · split
    · rw [Str.length_append, Str.length_append]; (first | lia | omega)
    · (first | lia | omega)
end Mine
end
section
open PySem PySem.W PyProof.Rows
set_option maxRecDepth 100000
set_option maxHeartbeats 8000000
set_option linter.unusedVariables false
set_option pp.deepTerms false
namespace Mine
variable {w : World} {mg mb : Str → Option Value}

theorem Mine.words1 : True := by
  k_with "callWith ref" => (k_here; k_dflt (refine' callWith_bnd ?k1 ?k2 ?_; (case k1 => k_asm); (case k2 => k_is)))
  k_with "call ref" => (k_here; (with_reducible show wpAny _ _ (call (Value.ref 769) [Value.str _ _]) _ _ _); k_dflt (refine' call_find ?k1 ?k2 ?k3 ?k4 ?k5 ?k6 ?k7 ?k8 ?_ ?_; (case k1 => k_asm); (case k2 => k_asm); (case k3 => k_asm); (case k4 => k_is); (case k5 => k_is); (case k6 => k_is); (case k7 => decide +kernel); (case k8 => (first | lia | omega)); rotate_left; (intro a9 h9 hb9 F9 N9); rotate_left; (intro hb9)))
  trivial

theorem addOk1 {x : Str} (hx : x.length ≤ 100) : (Str.ofString "'").length + (Txt.replace x (Str.ofString "'") (Str.ofString "'\"'\"'")).length ≤ 16777216 := by
  have := rep_len x
  have e1 : (Str.ofString "'").length = 1 := (by decide +kernel)
  unfold apo apoQ at this
  (first | lia | omega)
theorem addOk2 {x : Str} (hx : x.length ≤ 100) : (Str.ofString "'" ++ Txt.replace x (Str.ofString "'") (Str.ofString "'\"'\"'")).length + (Str.ofString "'").length ≤ 16777216 := by
  have := rep_len x
  have e1 : (Str.ofString "'").length = 1 := (by decide +kernel)
  unfold apo apoQ at this
  rw [Str.length_append]
  (first | lia | omega)
theorem Mine.words2 : True := by
  k_with "binaryOp Add str str" => (k_here; (with_reducible show wpAny _ _ (binaryOp Operator.Add (Value.str _ _) (Value.str _ _)) _ _ _); (refine KOpn.add (by first | exact addOk1 (by assumption) | exact addOk2 (by assumption)) ?_); intro _ _ kpxZ; clear kpxZ)
  trivial
theorem s_quote (x : Str) (t : Tok) (hx : x.length ≤ 100) : KS0 w mg mb 776 [.str x t] 4 64 (fun h => True) (fun h r => ∃ t', r = .str (quoteS x) t') := by
  unfold KS0
  k_fill
  intro dp un gd fr s Q E X T hp hd hu ret
  k_dflt (refine' enter_def ?k1 ?k2 ?k6 ?k7 ?k8 ?k9 ?kB ?_ ?c5 ?c2 ?c3 ?c4; (case k1 => assumption); (case k2 => assumption); (case k6 => k_is); (case k7 => k_is); (case k8 => (dsimp only; (first | lia | omega))); (case k9 => exact BindsTo.of_eq rfl); (case c5 => decide); (case kB => exact locs rfl); (case c2 => exact rfl); (case c3 => exact rfl); (case c4 => exact rfl); intro L' h' F' N'; (try dsimp only); (try k_fold))
  k_steps
  all_goals (refine ret _ _ _ (Fr.keep (by assumption)) ⟨_, congrArg (fun z => Value.str z _) ?_⟩; symm; unfold quoteS; first | (rw [if_pos (by (first | lia | omega))]) | (rw [if_neg (by (first | lia | omega)), if_pos (by assumption)]; first | rfl | (unfold apo apoQ; rfl)) | (rw [if_neg (by (first | lia | omega)), if_neg (by simp_all)]))
end Mine
end
theorem Mine.words3 : True := by k_with_none; trivial
section
open PySem PySem.W PyProof.Rows
set_option maxRecDepth 100000
set_option maxHeartbeats 8000000
set_option linter.unusedVariables false
set_option pp.deepTerms false
set_option pp.maxSteps 6000
namespace Mine
variable {w : World} {mg mb : Str → Option Value}

noncomputable abbrev tabO (ps : Array Value) : Obj := { cls := .none, data := .fields ps }
noncomputable def GoodTab (ps : Array Value) : Prop := ps = #[] ∨ ∃ c : Addr, ps = #[rawInt 740, rawInt 20, .ref c]
structure KeepT (s s' : Shared) : Prop where
  keep : ∀ b o, b ≠ 763 → s.heap.get? b = some o → s'.heap.get? b = some o
  tab : ∃ ps, GoodTab ps ∧ s'.heap.get? 763 = some (tabO ps)
  bare : AllBare s'.gens
  os : s'.os = s.os
structure TopT (w : World) (mg mb : Str → Option Value) (s : Shared) : Prop where
  X : (Mine.hd.heap_39 w.params).In (hideAll s.heap [763])
  T : TopRead Mine.hd.view_39 LO mg mb (hideAll s.heap [763])
  M : ∃ bm ob, BMod (hideAll s.heap [763]) mainGlobals mg bm ob
  tab : ∃ ps, GoodTab ps ∧ s.heap.get? 763 = some (tabO ps)
  bare : AllBare s.gens
theorem TopT.next {s s' : Shared} (x : TopT w mg mb s) (k : KeepT s s') : TopT w mg mb s' := by
  have h : ∀ b o, (hideAll s.heap [763]).get? b = some o → (hideAll s'.heap [763]).get? b = some o := fun b o e => by
    have hb : b ∉ [763] := fun q => by rw [hideAll_none _ q] at e; cases e
    exact hideAll_get _ (k.keep b o (fun q => hb (q ▸ .head _)) (of_hideAll _ e)) hb
  exact ⟨x.X.keeps h, x.T.keeps h, let ⟨bm, ob, M⟩ := x.M; ⟨bm, ob, M.keeps h⟩, k.tab, k.bare⟩
noncomputable def KT (w : World) (mg mb : Str → Option Value) (f : Addr) (vs : List Value) (d u : Nat) (Pre : Heap → Prop) (Post : Value → Prop) : Prop :=
  ∀ (dp un : Nat) (gd : Option (List Code)) (fr : Option (List Env)) (s : Shared) (Q E : Value → Shared → Prop), TopT w mg mb s → Pre s.heap → dp + d < recursionLimit → un + u < cLine →
    (∀ v s', KeepT s s' → Post v → Q v s') →
    wpAny (model PySem.Challenge.rw_oy0416_01.row.prog w) { handled := none, depth := dp, frames := fr, guards := gd, units := un } (call (.ref f) vs) Q E s
theorem at_code {α : Type} {a v : α} {p : α → Prop} (h : a = v) (h2 : p v) : ∃ v, a = v ∧ p v := ⟨v, h, h2⟩
theorem join_code (P : Params) : PySem.Challenge.rw_oy0416_01 = PySem.Challenge.rw_oy0416_01 → ∃ o, (Mine.hd.heap_39 P).lookup 767 = o ∧ ∃ vs : Array Value, o = some { cls := .type "code", data := .fields vs } ∧ vs.getD 11 .none = .ref 763 ∧ vs[11]? = some (.ref 763) ∧ (∃ f t, vs.getD 18 .none = .str f t) ∧ (∃ f t, vs.getD 7 .none = .int f t) ∧ (∃ b, vs.getD 9 .none = .bool b) ∧ (∃ f t, vs.getD 10 .none = .int f t) := by
  k_fill
  intro _
  refine' at_code ?a ?b
  case a => k_is
  exact ⟨_, rfl, rfl, rfl, ⟨_, _, rfl⟩, ⟨_, _, rfl⟩, ⟨_, rfl⟩, ⟨_, _, rfl⟩⟩
theorem code_at {h : Heap} {ps : Array Value} (X : (Mine.hd.heap_39 w.params).In h) (hg : GoodTab ps) (ht : h.get? 763 = some (tabO ps)) : h.IsCode 767 763 ps ∧ h.TableAt 767 763 ps := by
  (have hZ1 := join_code w.params rfl; (obtain ⟨_, e, vs, rfl, a1, a2, ⟨f1, t1, a3⟩, ⟨f2, t2, a4⟩, ⟨b, a5⟩, ⟨f3, t3, a6⟩⟩ := hZ1))
  have hc := X _ _ e
  refine ⟨⟨_, vs, f1, t1, f2, t2, b, f3, t3, _, hc, rfl, a1, a3, a4, a5, a6, ht, rfl, ?_, by decide⟩, ⟨_, vs, hc, rfl, rfl, a2⟩, ht⟩
  rcases hg with rfl | ⟨c, rfl⟩
  · trivial
  · trivial

section
variable {M : Model} {A : Around} {E : Value → Shared → Prop} {s : Shared} {K : Frag} {h₀ : Heap} {C bi : Addr} {m : Str → Option Value} {scope : Scope} {cl : List (Str × Addr)} {env : Env} {p : Program} {loose : List Str} {x : Str} {pos : Pos} {v code : Value} {Q : Value → Shared → Prop}
theorem ld_gen (F : Fr h₀ C s.heap m) (hm : m x = some v) (h : Q v s) (hk : (genEnv scope cl C code bi env).scope.kind = .function := by rfl) (hx : (genEnv scope cl C code bi env).kindOf x = some .local := by rfl) (hd : (x == ("__debug__" : Str)) = false := by decide) :
    wpAny M A (eval (.Name x pos) (genEnv scope cl C code bi env)) Q E s := wpAny_Name (wpAny_loadName_local hk hx F.ns hm h) hd
theorem ld_genG (F : Fr h₀ C s.heap m) (X : K.In h₀) (T : TopRead p loose mg mb h₀) (e : nsIn K mainGlobals x = some (some v)) (h : Q v s) (hg : env.globals = mainGlobals := by rfl)
    (hk : (genEnv scope cl C code bi env).scope.kind = .function := by rfl) (hx : (genEnv scope cl C code bi env).kindOf x = some .globalImplicit := by rfl) (hd : (x == ("__debug__" : Str)) = false := by decide) :
    wpAny M A (eval (.Name x pos) (genEnv scope cl C code bi env)) Q E s :=
  PySem.Calls.Name_function_global hk hx (PySem.Calls.loadGlobal_global (env := genEnv scope cl C code bi env) (show s.heap.Ns env.globals mg from hg ▸ (T.keeps F.keep).g) (mg_of X T.g e) h) hd
theorem seen {h₀ h h' : Heap} {L : Addr} {m m' : Str → Option Value} {P : Addr} (hP : ∃ o, h₀.get? P = some o) (F : Fr h₀ L h m) (hn : h'.Ns C m') (hk : ∀ b o, b ≠ P → h.get? b = some o → h'.get? b = some o) (hC : h₀.objs.size ≤ C) : Fr (hideAll h₀ [P]) C h' m' := by
  refine ⟨hn, fun b o e => ?_, by rw [hideAll_size]; exact hC⟩
  have hb : b ∉ [P] := fun q => by rw [hideAll_none _ q] at e; cases e
  exact hk b o (fun q => hb (q ▸ .head _)) (F.keep b o (of_hideAll _ e))
end
theorem Mine.words4 : True := by
  k_with "eval Name" => (k_here; (with_reducible show wpAny _ _ (eval (PySem.Expr.Name _ _) (genEnv _ _ _ _ _ _)) _ _ _); k_dflt (first | (with_unfolding_all refine ld_gen (by k_asm) (by assumption) ?_) | refine ld_genG (by k_asm) (by k_asm) (by k_asm) (by k_is) ?_))
  k_with "call ref" => (k_here; (with_reducible show wpAny _ _ (call (Value.ref 776) [Value.str _ _]) _ _ _); k_dflt (refine' use_KS0 (s_quote _ _ ?p1) ?k1 ?k2 ?k3 ?k4 ?k5 ?k6 ?k7 ?k8 ?_; (case p1 => assumption); (case k1 => first | assumption | exact rfl); (case k2 => k_asm); (case k3 => k_asm); (case k4 => k_asm); (case k5 => k_asm); (case k6 => trivial); (case k7 => (simp only [depth_deeper, depth_in1] at *; (first | lia | omega))); (case k8 => (simp only [units_deeper, units_in1] at *; (first | lia | omega)))); intro v9 h9 tk9 F9 N9 k9 P9; obtain ⟨t9, hP9⟩ := P9; subst hP9; (try dsimp only); (try k_fold))
  trivial

theorem s_join (D : Addr) (x y : Str) (t t2 : Tok) (nn : Nat) (hx : x.length ≤ 100) (hy : y.length ≤ 100) : KT w mg mb 768 [.ref D] 10 200 (fun h => h.get? D = some (listOf #[.str x t, .str y t2] nn)) (fun r => ∃ t', r = .str (quoteS x ++ Str.ofString " " ++ quoteS y) t') := by
  unfold KT
  k_fill
  intro dp un gd fr s Q E TT hD hd hu ret
  have st : (hideAll s.heap [763]).StaysIn s.heap := fun b o e => of_hideAll _ e
  have X := TT.X.keeps st
  have T := TT.T.keeps st
  k_dflt (refine' enter_def ?k1 ?k2 ?k6 ?k7 ?k8 ?k9 ?kB ?_ ?c5 ?c2 ?c3 ?c4; (case k1 => assumption); (case k2 => assumption); (case k6 => k_is); (case k7 => k_is); (case k8 => (dsimp only; (first | lia | omega))); (case k9 => exact BindsTo.of_eq rfl); (case c5 => decide); (case kB => exact locs rfl); (case c2 => exact rfl); (case c3 => exact rfl); (case c4 => exact rfl); intro L' h' F' N'; (try dsimp only); (try k_fold))
  k_steps
  rename Fr _ _ _ _ => hF1
  (have hZ52 := TT.M; (refine Mine.xa2_1 hZ52 ?_; clear hZ52; intro bm ob M))
  (have hZ53 := TT.tab; (refine Mine.xa1_2 hZ53 ?_; clear hZ53; intro ps hgt ht))
  obtain ⟨c1, c2⟩ := code_at X hgt ht
  have k1 := hF1.keep
  refine genexp_list (c := 767) (P := 763) (mg := mg) (bm := bm) (ob := ob) rfl rfl rfl rfl (by decide) rfl rfl rfl (by simp only [depth_deeper] at *; (first | lia | omega)) ?_ (by intro _; rfl)
  refine' ld ?k1 ?k2 ?_
  case k1 => assumption
  case k2 => exact rfl
  refine Mine.in3 D (#[.str x t, .str y t2]) ps ⟨fun i z => ∃ t', z = .str (quoteS ([x, y].getD i Str.empty)) t', rfl, ⟨_, k1 _ _ hD, rfl, _, rfl⟩, T.nolimit.keeps k1, (M.keeps st).keeps k1, c1.keeps k1, c2.keeps k1, ?_, ?_, ?_⟩
  · rcases hgt with rfl | ⟨c, rfl⟩
    · exact .inl rfl
    · exact .inr ⟨c, rfl⟩
  · intro code C A' E' i v u m₂ hA hDp hU hi hn hm hC hk
    have hsz := Heap.lt_size ht
    have F9 : Fr (hideAll s.heap [763]) C u.heap m₂ := seen ⟨_, ht⟩ hF1 hn hk (Nat.le_trans (Nat.le_trans hF1.above (Nat.le_of_lt hF1.ns.lt)) hC)
    have N9 : News (hideAll s.heap [763]) C u.heap [] := News.nil
    (have hZ54 := TT; try clear TT; (obtain ⟨X9, T9, _, _, _⟩ := hZ54))
    clear hF1 N' X T M k1
    simp only [depth_deeper, units_deeper] at hDp hU
    have hd9 : A'.depth + 5 < recursionLimit := by (first | lia | omega)
    have hu9 : A'.units + 100 < cLine := by (first | lia | omega)
    match i, hi with
    | 0, hi =>
      obtain rfl : Value.str x t = v := by simpa using hi
      k_steps
      all_goals exact ⟨_, _, rfl, by assumption⟩
    | 1, hi =>
      obtain rfl : Value.str y t2 = v := by simpa using hi
      k_steps
      all_goals exact ⟨_, _, rfl, by assumption⟩
    | n + 2, hi => simp at hi
  · intro a K s5 ps' hps hT5 hC5 hb5 ho5 hk5 hK G5
    have hsz := Heap.lt_size ht
    have hne : L' ≠ 763 := fun e => by have := hF1.above; rw [e] at this; exact Nat.lt_irrefl _ (Nat.lt_of_lt_of_le hsz this)
    have F9 := seen ⟨_, ht⟩ hF1 (hF1.ns.at' fun o e => hk5 _ o hne e) hk5 hF1.above
    have N9 : News (hideAll s.heap [763]) L' s5.heap [] := News.nil
    have hLK : L' ≤ K := Nat.le_of_lt_succ (Nat.lt_of_lt_of_eq hF1.ns.lt hK.symm)
    have hga : GoodTab ps' := by
      rcases hps with rfl | ⟨c', rfl, hno⟩
      · exact hgt
      · rcases hgt with rfl | ⟨c, rfl⟩
        · exact .inr ⟨c', rfl⟩
        · cases hno
    have hb9 := hb5 TT.bare
    clear N' X T M
    k_steps
    refine join_rowsK F9 hb9 G5 hLK (fun j => quoteS ([x, y].getD j Str.empty)) ?_ ?_ ?_ (show 2 ≤ sizeLine by decide)
    · (intro j; intro v; intro hZ55; (obtain ⟨i, hi, t', rfl⟩ := hZ55))
      have : i = j := by
        have h1 : (List.range 2)[j]? = some i := hi
        obtain ⟨h2, h3⟩ := List.getElem?_eq_some_iff.mp h1
        rw [List.getElem_range] at h3
        exact h3.symm
      subst this
      exact ⟨t', rfl⟩
    · refine joinOk_of ?_
      have h1 := quoteS_len x
      have h2 := quoteS_len y
      show ([quoteS x, quoteS y].map (·.length)).sum + 2 * (Str.ofString " ").length ≤ 16777216
      rw [show (Str.ofString " ").length = 1 by decide +kernel]
      simp only [List.map_cons, List.map_nil, List.sum_cons, List.sum_nil]
      (first | lia | omega)
    · intro s' t' F6 G6 hos6 hk6
      refine ret _ s' ⟨fun b o hb e => F6.keep b o (hideAll_get _ e (by simpa using hb)), ⟨ps', hga, hk6 763 _ (Nat.le_trans (Nat.le_of_lt (Nat.lt_of_lt_of_le hsz hF1.above)) hLK) hT5.2⟩, G6, hos6.trans ho5⟩ ⟨t', congrArg (fun z => Value.str z t') ?_⟩
      show Builtin.Str.glued (Str.ofString " ") [quoteS x, quoteS y] = _
      rw [StrLaws.glued_eq_join]
      rfl
end Mine
end
theorem Mine.words5 : True := by k_with_none; trivial
section
open PySem PySem.W PyProof.Rows
set_option maxRecDepth 100000
set_option maxHeartbeats 8000000
set_option linter.unusedVariables false
namespace Mine
section
variable {prog : Program} {w : World} {A : Around} {E : Value → Shared → Prop} {env : Env} {s : Shared} {h₀ : Heap}
noncomputable def TabJ (s : Shared) : Prop := (∃ ps, GoodTab ps ∧ s.heap.get? 763 = some (tabO ps)) ∧ AllBare s.gens
noncomputable def EltDoneT (F : Heap → Nat → Value → List Addr → Prop) (i : Nat) (C : Addr) (s₃ : Shared) (m₃ : Str → Option Value) (y : Value) (s₄ : Shared) : Prop :=
  (∃ fy, F s₄.heap i y fy ∧ ∀ a ∈ fy, s₃.heap.get? a = none ∧ ∃ o, s₄.heap.get? a = some o) ∧ (∀ b o, b ≠ C → b ≠ 763 → s₃.heap.get? b = some o → s₄.heap.get? b = some o) ∧ s₄.heap.Ns C m₃ ∧ TabJ s₄ ∧ s₄.os = s₃.os
theorem eltT_done {F : Heap → Nat → Value → List Addr → Prop} {i : Nat} {C : Addr} {b₃ : Heap} {s₃ s₄ : Shared} {m₃ : Str → Option Value} {y : Value} {ps' : Array Value} {rest news' : List (Addr × Obj)} {fy : List Addr}
    (hall : ∀ b o, s₃.heap.get? b = some o → b = C ∨ b = 763 ∨ b₃.get? b = some o ∨ (b, o) ∈ rest) (F' : Fr b₃ C s₄.heap m₃) (N' : News b₃ C s₄.heap news') (sub : ∀ p ∈ rest, p ∈ news') (ht : (763, tabO ps') ∈ news') (hg : GoodTab ps') (hb : AllBare s₄.gens) (hos : s₄.os = s₃.os)
    (hF : F s₄.heap i y fy) (hfy : ∀ a ∈ fy, s₃.heap.get? a = none ∧ ∃ o, s₄.heap.get? a = some o) : EltDoneT F i C s₃ m₃ y s₄ := by
  refine ⟨⟨fy, hF, hfy⟩, fun b o h1 h2 e => ?_, F'.ns, ⟨⟨ps', hg, (N' _ ht).1⟩, hb⟩, hos⟩
  rcases hall b o e with h | h | h | h
  · exact absurd h h1
  · exact absurd h h2
  · exact F'.keep b o h
  · exact (N' _ (sub _ h)).1
noncomputable def EltsT (prog : Program) (w : World) (A : Around) (env : Env) (scope : Scope) (cl : List (Str × Addr)) (elt : Expr) (Bd : Heap → Value → (Str → Option Value) → Prop) (F : Heap → Nat → Value → List Addr → Prop) (s₁ : Shared) (items : Array Value) : Prop :=
  ∀ (C : Addr) (i : Nat) (v : Value) (b₃ : Heap) (s₃ : Shared) (m₃ : Str → Option Value) (ps : Array Value) (rest : List (Addr × Obj)) (E' : Value → Shared → Prop), items[i]? = some v → Bd s₁.heap v m₃ → (∀ b o, b ≠ 763 → s₁.heap.get? b = some o → b₃.get? b = some o) → Fr b₃ C s₃.heap m₃ →
    News b₃ C s₃.heap ((763, tabO ps) :: rest) → GoodTab ps → AllBare s₃.gens → (∀ p ∈ rest, p.1 ≠ 763) → (∀ b o, s₃.heap.get? b = some o → b = C ∨ b = 763 ∨ b₃.get? b = some o ∨ (b, o) ∈ rest) →
    wpAny (model prog w) A (eval elt (compEnvC scope cl C env)) (EltDoneT F i C s₃ m₃) E' s₃
theorem eltsT_up {scope : Scope} {cl : List (Str × Addr)} {elt : Expr} {Bd : Heap → Value → (Str → Option Value) → Prop} {F : Heap → Nat → Value → List Addr → Prop} {s₁ : Shared} {items : Array Value} (he : EltsT prog w A env scope cl elt Bd F s₁ items) (h763 : 763 < s₁.heap.objs.size)
    (C : Addr) (i : Nat) (v : Value) (s₃ : Shared) (m₃ : Str → Option Value) (E' : Value → Shared → Prop) (hC : s₁.heap.objs.size ≤ C) (hv : items[i]? = some v) (hb : Bd s₁.heap v m₃) (hn : s₃.heap.Ns C m₃)
    (hk : ∀ b o, ¬ (b = 763) → s₁.heap.get? b = some o → s₃.heap.get? b = some o) (hj : TabJ s₃) :
    wpAny (model prog w) A (eval elt (compEnvC scope cl C env)) (fun y s₄ => (∃ fy, F s₄.heap i y fy ∧ (∀ a ∈ fy, s₃.heap.get? a = none ∧ ∃ o, s₄.heap.get? a = some o)) ∧ Kx (fun b => b = 763 ∨ b = C) False TabJ s₃ s₄ ∧ s₄.heap.Ns C m₃) E' s₃ := by
  obtain ⟨⟨ps, hg, ht⟩, hbare⟩ := hj
  (have hZ1 := rest_of s₃.heap C; (refine Mine.xa1_2 hZ1 ?_; clear hZ1; intro rest hr1 hr2))
  have hC7 : 763 < C := Nat.lt_of_lt_of_le h763 hC
  have hb0 : ∀ b o, (hideAll (below s₃.heap C) [763]).get? b = some o → b < C ∧ b ≠ 763 ∧ s₃.heap.get? b = some o := fun b o e => by
    have h1 : b ≠ 763 := fun q => by rw [hideAll_none _ (q ▸ List.mem_singleton.mpr rfl)] at e; cases e
    have e2 := of_hideAll _ e
    rw [below_get] at e2
    by_cases h : b < C
    · rw [if_pos h] at e2; exact ⟨h, h1, e2⟩
    · rw [if_neg h] at e2; cases e2
  have hb1 : ∀ b o, b < C → b ≠ 763 → s₃.heap.get? b = some o → (hideAll (below s₃.heap C) [763]).get? b = some o := fun b o h1 h2 e =>
    hideAll_get _ (by rw [below_get, if_pos h1]; exact e) (by simpa using h2)
  refine wpAny_mono (he C i v (hideAll (below s₃.heap C) [763]) s₃ m₃ ps rest E' hv hb (fun b o h1 e => ?_) ⟨hn, fun b o e => (hb0 b o e).2.2, by rw [hideAll_size]; exact below_size _ _⟩ (fun p hp => ?_) hg hbare (fun p hp => ?_) (fun b o e => ?_)) (fun y s₄ h₄ => ?_) fun _ _ e => e
  · exact hb1 b o (Nat.lt_of_lt_of_le (Heap.lt_size e) hC) h1 (hk b o h1 e)
  · rcases List.mem_cons.mp hp with rfl | hp
    · exact ⟨ht, Nat.ne_of_lt hC7, hideAll_none _ (List.mem_singleton.mpr rfl)⟩
    · (first | refine Mine.in2 ((hr1 p hp).1) (Nat.ne_of_gt (hr1 p hp).2) (?_) | refine ⟨(hr1 p hp).1, Nat.ne_of_gt (hr1 p hp).2, ?_⟩)
      cases q : (hideAll (below s₃.heap C) [763]).get? p.1 with
      | none => rfl
      | some o => exact absurd (hb0 _ _ q).1 (Nat.not_lt.mpr (Nat.le_of_lt (hr1 p hp).2))
  · exact Nat.ne_of_gt (Nat.lt_trans hC7 (hr1 p hp).2)
  · by_cases h7 : b = 763
    · exact .inr (.inl h7)
    · rcases Nat.lt_trichotomy b C with h | h | h
      · exact .inr (.inr (.inl (hb1 b o h h7 e)))
      · exact .inl h
      · exact .inr (.inr (.inr (hr2 b o e h)))
  · (have hZ2 := h₄; try clear h₄; (refine Mine.xa0_5 hZ2 ?_; clear hZ2; intro hF k hn' hj' hos))
    exact ⟨hF, ⟨fun b o hb e => k b o (fun q => hb (.inr q)) (fun q => hb (.inl q)) e, hos, fun h => h.elim, fun _ => hj'⟩, hn'⟩
theorem lct_core {elt target iter : Expr} {scope : Scope} {cl : List (Str × Addr)} {pos : Pos} {Q : Value → Shared → Prop} (F : Heap → Nat → Value → List Addr → Prop) (hF : ∀ (h h' : Heap) i y fy, F h i y fy → (∀ a ∈ fy, ∀ o, h.get? a = some o → h'.get? a = some o) → F h' i y fy)
    {Bd : Heap → Value → (Str → Option Value) → Prop} {itemOk : Heap → Value → Prop}
    (hasg : ∀ C I l i v (h₁ : Heap) (s : Shared) m (Q : Unit → Shared → Prop) (E' : Value → Shared → Prop), itemOk h₁ v → (∀ b o, h₁.get? b = some o → o.cls = .type "tuple" → s.heap.get? b = some o) → s.heap.IsListIter I l i → s.heap.Ns C m →
      (∀ h' tk m', h'.Ns C m' → Bd h₁ v m' → (∀ b o, b ≠ C → s.heap.get? b = some o → h'.get? b = some o) → Q () { s with heap := h', toks := tk }) →
      wpAny (model prog w) A (letOwnedTupleGo target (.ref I) v) (fun _ s₁ => wpAny (model prog w) A (assign target (compEnvC scope cl C env) v) Q E' s₁) E' s)
    (hh : A.handled = none) (hclos : closureFor scope env = pure cl) (hcell : ∀ y ∈ scope.names, y.2 ≠ .cell) (hkind : scope.kind = .function)
    (hnames : ∀ y ∈ scope.names, y.2 = .local → scope.names.lookup y.1 = some .local)
    (h : wpAny (model prog w) A (eval iter env) (fun xv s₁ => ∃ (l : Addr) (items : Array Value) (m : Str → Option Value) (news : List (Addr × Obj)) (ps : Array Value), xv = .ref l ∧ s₁.heap.IsList l items ∧ items.size ≤ sizeLine ∧ Fr h₀ env.locals s₁.heap m ∧ News h₀ env.locals s₁.heap news ∧ (763, tabO ps) ∈ news ∧ GoodTab ps ∧ AllBare s₁.gens ∧
      (∀ (i : Nat) (v : Value), items[i]? = some v → itemOk s₁.heap v) ∧ EltsT prog w A env scope cl elt Bd F s₁ items ∧
      (∀ D s' ys nn ps', s'.os = s₁.os → AllBare s'.gens → GoodTab ps' → Fr h₀ env.locals s'.heap m → (∀ news', (∀ p ∈ news', (p ∈ news ∧ p.1 ≠ 763) ∨ p = (763, tabO ps') ∨ p = (D, listOf ys nn) ∨ (s₁.heap.get? p.1 = none ∧ s'.heap.get? p.1 = some p.2)) → News h₀ env.locals s'.heap news') →
        s₁.heap.objs.size ≤ D → ys.size = items.size → (∀ (j : Nat) (v : Value), ys[j]? = some v → ∃ fy, F s'.heap j v fy ∧ ∀ a ∈ fy, a ≠ D ∧ s₁.heap.get? a = none) → Q (.ref D) s')) E s)
    (hs : ∀ x, foldedSetIterable iter env x = pure x := by intro _; rfl) :
    wpAny (model prog w) A (eval (.ListComp elt [⟨target, iter, [], 0⟩] scope pos) env) Q E s := by
  refine lc_eval (fun b => b = 763) False TabJ F hh hclos hcell hkind hnames hasg (wpAny_mono h (fun xv s₁ h₁ => ?_) fun _ _ e => e) hs
  (have hZ3 := h₁; try clear h₁; (refine Mine.xa5_11 hZ3 ?_; clear hZ3; intro l items m news ps eZ14 hl hsz Fm N ht hg hbare hio he hfin; subst eZ14))
  have ht1 := (N _ ht).1
  have h763 := Heap.lt_size ht1
  have hl7 : l ≠ 763 := fun e => by
    (have hZ20 := hl; try clear hl; (refine Mine.xa1_3 hZ20 ?_; clear hZ20; intro o ho hc _))
    rw [e] at ho
    rw [show s₁.heap.get? 763 = some (tabO ps) from ht1] at ho
    cases ho
    cases hc
  refine Mine.in2 l items ⟨rfl, hl, hsz, ⟨fun b hb => ⟨hb ▸ h763, hb ▸ fun e => hl7 e.symm⟩, fun a b e k j => ?_, fun a ⟨⟨p, _, e⟩, _⟩ b hb => ⟨_, hb ▸ e⟩⟩, fun b o hb e => ?_, ⟨⟨ps, hg, ht1⟩, hbare⟩, hF, hio, fun C i v s₃ m₃ E' hC hv hb hn hk hj _ => eltsT_up he h763 C i v s₃ m₃ E' hC hv hb hn hk hj, fun D s' ys hD hlD hys hG hk hos' _ hj' => ?_⟩
  · obtain ⟨⟨p, q1, q2⟩, q3⟩ := j
    refine ⟨⟨p, q1, k _ _ rfl q2⟩, ?_⟩
    rw [show b.gens = a.gens from congrArg (fun z => z.1) e]
    exact q3
  · subst hb
    rw [show s₁.heap.get? 763 = some (tabO ps) from ht1] at e
    cases e
    exact fun q => by cases q
  · (have hZ21 := hlD; try clear hlD; (obtain ⟨o, ho, nn, rfl⟩ := hZ21))
    obtain ⟨⟨ps', hg', ht'⟩, hbare'⟩ := hj'
    have hLD : D ≠ env.locals := Nat.ne_of_gt (Nat.lt_of_lt_of_le Fm.ns.lt hD)
    have hL7 : env.locals ≠ 763 := fun q => (N _ ht).2.1 q.symm
    have hb₀ : ∀ b o, h₀.get? b = some o → b ≠ 763 := fun b o e q => by rw [q, (N _ ht).2.2] at e; cases e
    refine hfin D s' ys nn ps' hos' hbare' hg' ⟨Fm.ns.at' fun o e => hk _ o hL7 e, fun b o e => hk b o (hb₀ b o e) (Fm.keep b o e), Fm.above⟩ (fun news' hn p hp => ?_) hD hys hG
    rcases hn p hp with ⟨h1, h2⟩ | rfl | rfl | ⟨h1, h2⟩
    · exact ⟨hk _ _ h2 (N p h1).1, (N p h1).2⟩
    · exact ⟨ht', (N _ ht).2⟩
    · exact ⟨ho, hLD, Heap.get?_none_of_le (Nat.le_trans Fm.above (Nat.le_trans (Nat.le_of_lt Fm.ns.lt) hD))⟩
    · refine ⟨h2, fun q => ?_, ?_⟩
      · (have hZ26 := Fm.ns; (refine Mine.xa3_2 hZ26 ?_; clear hZ26; intro oL _ _ eL _))
        rw [q, eL] at h1; cases h1
      · cases q : h₀.get? p.1 with
        | none => rfl
        | some o => rw [Fm.keep _ _ q] at h1; cases h1
noncomputable def FAt (d : Nat → PyData) : Heap → Nat → Value → List Addr → Prop := fun _ i y fy => fy = [] ∧ ∀ h', Reads h' y (d i) []
theorem FAt.mono (d : Nat → PyData) : ∀ (h h' : Heap) i y fy, FAt d h i y fy → (∀ a ∈ fy, ∀ o, h.get? a = some o → h'.get? a = some o) → FAt d h' i y fy := fun _ _ _ _ _ f _ => f
theorem readsAll_of {h : Heap} : ∀ (vs : List Value) (d : Nat → PyData), (∀ j v, vs[j]? = some v → Reads h v (d j) []) → ReadsAll h vs ((List.range vs.length).map d) []
  | [], _, _ => .nil
  | v :: vs, d, k => by
    have h1 := k 0 v rfl
    have h2 := readsAll_of vs (fun j => d (j + 1)) fun j v e => k (j + 1) v e
    rw [List.length_cons, List.range_succ_eq_map, List.map_cons, List.map_map]
    exact ReadsAll.cons h1 h2
theorem readsAt {d : Nat → PyData} {ys : Array Value} {h : Heap} {P : Nat → Value → List Addr → Prop} {h' : Heap} (hG : ∀ (j : Nat) (v : Value), ys[j]? = some v → ∃ fy, FAt d h j v fy ∧ P j v fy) : ReadsAll h' ys.toList ((List.range ys.size).map d) [] := by
  have := readsAll_of (h := h') ys.toList d fun j v e => by
    (have hZ27 := hG j v (by simpa using e); (refine Mine.xa1_2 hZ27 ?_; clear hZ27; intro _ eZ29 _; (refine Mine.xa0_2 eZ29 ?_; clear eZ29; intro _ k)))
    exact k h'
  rwa [Array.length_toList] at this
noncomputable def FTup (d : Nat → List PyData) : Heap → Nat → Value → List Addr → Prop := fun h i y fy => ∃ T vs n, y = .ref T ∧ fy = [T] ∧ h.get? T = some { cls := .type "tuple", data := .seq vs n } ∧ ∀ h', ReadsAll h' vs.toList (d i) []
theorem FTup.mono (d : Nat → List PyData) : ∀ (h h' : Heap) i y fy, FTup d h i y fy → (∀ a ∈ fy, ∀ o, h.get? a = some o → h'.get? a = some o) → FTup d h' i y fy := fun _ _ _ _ _ ⟨T, vs, n, h1, h2, h3, h4⟩ k => ⟨T, vs, n, h1, h2, k T (h2 ▸ List.mem_singleton.mpr rfl) _ h3, h4⟩
theorem readsTup {d : Nat → List PyData} {h h₁ : Heap} : ∀ (vs : List Value) (k₀ : Nat), (∀ j v, vs[j]? = some v → ∃ fy, FTup d h (k₀ + j) v fy ∧ ∀ a ∈ fy, h₁.get? a = none) →
    ∃ tups : List (Addr × Obj), (∀ p ∈ tups, h₁.get? p.1 = none ∧ h.get? p.1 = some p.2 ∧ p.2.cls = .type "tuple") ∧ ∀ h', (∀ p ∈ tups, h'.get? p.1 = some p.2) → ReadsAll h' vs ((List.range' k₀ vs.length).map fun j => .tuple (d j)) []
  | [], _, _ => ⟨[], fun p hp => (List.not_mem_nil hp).elim, fun _ _ => .nil⟩
  | v :: vs, k₀, k => by
    (have hZ31 := k 0 v rfl; (refine Mine.xa1_2 hZ31 ?_; clear hZ31; intro fy eZ33 h5; (refine Mine.xa3_4 eZ33 ?_; clear eZ33; intro T xs n h1 h2 h3 h4)))
    obtain ⟨tups, t1, t2⟩ := readsTup vs (k₀ + 1) fun j v e => by
      have := k (j + 1) v e
      rwa [show k₀ + 1 + j = k₀ + (j + 1) by (first | lia | omega)]
    refine ⟨(T, { cls := .type "tuple", data := .seq xs n }) :: tups, fun p hp => ?_, fun h' hh => ?_⟩
    · rcases List.mem_cons.mp hp with rfl | hp
      · (first | exact Mine.in2 (h5 T (h2 ▸ List.mem_singleton.mpr rfl)) h3 rfl | exact ⟨h5 T (h2 ▸ List.mem_singleton.mpr rfl), h3, rfl⟩)
      · exact t1 p hp
    · rw [List.length_cons, List.range'_succ, List.map_cons, h1]
      exact ReadsAll.cons (.tuple (hh _ (.head _)) rfl rfl (h4 h')) (t2 h' fun p hp => hh p (.tail _ hp))
end
end Mine
end
section
open PySem PySem.W PyProof.Rows PyProof.V PySem.Spec
set_option maxRecDepth 100000
set_option maxHeartbeats 8000000
set_option linter.unusedVariables false
namespace Mine
open AutoSeq1 (wpAny_loadPart')
open Builtin Builtin.SmallTypes
section
variable {prog : Program} {w : World} {A : Around} {E : Value → Shared → Prop} {s : Shared}
theorem nextOf_tup {it l : Addr} {i : Nat} {items : Array Value} {x : Value} {Q : Value → Shared → Prop} (hit : s.heap.IsTupleIter it l i) (hl : s.heap.IsTuple l items) (hx : items[i]? = some x)
    (hQ : ∀ h', h'.IsTupleIter it l (i + 1) → Heap.SameBut it s.heap h' → Q x { s with heap := h' }) : wpAny (model prog w) A (nextOf (.ref it)) Q E s := by
  (have hZ1 := id hit; (refine Mine.xa1_3 hZ1 ?_; clear hZ1; intro o ho hc hd))
  (have hZ2 := hl; try clear hl; (obtain ⟨ot, hot, _, nt, hdt⟩ := hZ2))
  unfold nextOf
  refine wpAny_bind (wpAny_callSpecial?_slot (name := Str.ofString "__next__") hit.typeIs F.slot_tuple_iterator_next
    (wpAny_call_entry F.slot_tuple_iterator_next hit.typeIs F.entry_tuple_iterator_next ?_ (F.args_tuple_iterator_next_1 _)))
  show wpAny _ _ (field (.ref it) 0 >>= _) _ _ s
  refine wpAny_bind (wpAny_field ho hd (x := .ref l) rfl ?_)
  show wpAny _ _ (if (Value.ref l == Value.none) = true then _ else _) _ _ s
  rw [if_neg (show ¬ ((Value.ref l == Value.none) = true) from Bool.false_ne_true)]
  show wpAny _ _ (field (.ref it) 1 >>= _) _ _ s
  refine wpAny_bind (wpAny_field ho hd (x := .int i 0) rfl ?_)
  show wpAny _ _ (seqItems? (.ref l) >>= _) _ _ s
  refine wpAny_bind (wpAny_seqItems hot hdt ?_)
  simp only [Int.toNat_natCast, hx]
  refine wpAny_bind (wpAny_setField ho hd (by simp) (wpAny_pure ⟨x, rfl, wpAny_pure (hQ _ ?_ (Heap.SameBut.update ..))⟩))
  exact ⟨_, Heap.get?_update_self _ ho (Obj.isFreed_of_fields (Obj.data_mapFields hd _)), (Obj.cls_mapFields ..).trans hc, by
    rw [Obj.data_mapFields hd]; simp [rawInt]⟩
theorem nextOf_tup_end {it l : Addr} {i : Nat} {items : Array Value} {Q : Value → Shared → Prop} (hh : A.handled = none) (hit : s.heap.IsTupleIter it l i) (hl : s.heap.IsTuple l items) (hx : items[i]? = none)
    (hE : ∀ h' e, Heap.ExtBut it s.heap h' → (∃ o, h'.get? e = some o ∧ o.cls = .type "StopIteration") → E (.ref e) { s with heap := h' }) : wpAny (model prog w) A (nextOf (.ref it)) Q E s := by
  (have hZ3 := id hit; (refine Mine.xa1_3 hZ3 ?_; clear hZ3; intro o ho hc hd))
  (have hZ4 := hl; try clear hl; (obtain ⟨ot, hot, _, nt, hdt⟩ := hZ4))
  unfold nextOf
  refine wpAny_bind (wpAny_callSpecial?_slot (name := Str.ofString "__next__") hit.typeIs F.slot_tuple_iterator_next
    (wpAny_call_entry F.slot_tuple_iterator_next hit.typeIs F.entry_tuple_iterator_next ?_ (F.args_tuple_iterator_next_1 _)))
  show wpAny _ _ (field (.ref it) 0 >>= _) _ _ s
  refine wpAny_bind (wpAny_field ho hd (x := .ref l) rfl ?_)
  show wpAny _ _ (if (Value.ref l == Value.none) = true then _ else _) _ _ s
  rw [if_neg (show ¬ ((Value.ref l == Value.none) = true) from Bool.false_ne_true)]
  show wpAny _ _ (field (.ref it) 1 >>= _) _ _ s
  refine wpAny_bind (wpAny_field ho hd (x := .int i 0) rfl ?_)
  show wpAny _ _ (seqItems? (.ref l) >>= _) _ _ s
  refine wpAny_bind (wpAny_seqItems hot hdt ?_)
  simp only [Int.toNat_natCast, hx]
  refine wpAny_bind (wpAny_rule (wpAny_bind (wpAny_setField ho hd (by simp) ?_)))
  show wpAny _ _ (newExc (.type "StopIteration") [] >>= _) _ _ _
  refine wpAny_bind ?_
  simp only [newExc, newTuple]
  refine wpAny_bind (wpAny_newObj_type ?_ (by size_fits))
  refine wpAny_bind (m := firstArgMember _ _) (wpAny_of_eq (a := Value.none) rfl ?_)
  refine wpAny_newObj_type ?_ (by size_fits)
  simp only [raiseNew]
  refine wpAny_bind (wpAny_handled ?_)
  rw [show A.in1.handled = none from hh]
  exact wpAny_bind (wpAny_pure (wpAny_throw (hE _ _ (((Heap.SameBut.update ..).extBut.push _).push _) ⟨_, Heap.get?_push_size _ rfl, rfl⟩)))
end
theorem drawsTuple {prog : Program} {w : World} {A : Around} (hh : A.handled = none) (it l : Addr) (hne : l ≠ it) (items : Array Value) :
    Draws prog w A it [it, l] items.size (fun i v => items[i]? = some v) (fun i h => h.IsTupleIter it l i ∧ h.IsTuple l items) where
  live := fun _ _ st => let ⟨o, ho, _⟩ := st.1; ⟨o, ho⟩
  frame := fun _ _ _ st hk => ⟨st.1.at fun o e => hk it (by simp) o e, st.2.at fun o e => hk l (by simp) o e⟩
  item := fun i s Q E hi st hQ => by
    refine nextOf_tup st.1 st.2 (x := items[i]) (by simp [hi]) fun h' hit' hs' => ?_
    exact hQ _ h' s.toks (by simp [hi]) ⟨hit', st.2.extBut hs'.extBut hne⟩ hs'
  done := fun s Q E st hE => nextOf_tup_end hh st.1 st.2 (by simp) hE
theorem enumNewT (l : Addr) (items : Array Value) (n : Nat) :
    Meets (Builtin.«enumerate.__new__» ⟨[.type "enumerate", .ref l], []⟩) (fun _ R s => s.heap.get? l = some { cls := .type "tuple", data := .seq items n } ∧
      R (.ok (.ret (.ref (s.heap.push { cls := .type "tuple_iterator", data := .fields #[.ref l, .int 0 0] }).objs.size)))
        { s with heap := (s.heap.push { cls := .type "tuple_iterator", data := .fields #[.ref l, .int 0 0] }).push { cls := .type "enumerate", data := .fields #[.none, .bool false, .ref s.heap.objs.size, rawInt 0, .none, .none] } }) :=
  .of_wp fun prog w A R s h => by
    obtain ⟨hp, g, d, tk, os⟩ := s; obtain ⟨hl, h⟩ := h
    have hsub := sub_enumerate
    have hL : Heap.IsTuple (Shared.heap ⟨hp, g, d, tk, os⟩) l items := ⟨_, hl, rfl, n, rfl⟩
    wp_walk using wpAny_loadPart' hl
    refine wpAny_stack_any fun st => wpAny_pure ?_
    split
    · rename_i c _ _ _ _ _
      cases (c == Value.type "enumerate")
      · wp_walk using wpAny_loadPart' hl, wpAny_pyIter_tuple hL
        exact ⟨_, rfl, h⟩
      · wp_walk using wpAny_loadPart' hl, wpAny_pyIter_tuple hL
        exact ⟨_, rfl, h⟩
    · wp_walk using wpAny_loadPart' hl, wpAny_pyIter_tuple hL
      exact ⟨_, rfl, h⟩
section
variable {prog : Program} {w : World} {A : Around} {E : Value → Shared → Prop} {s : Shared}
theorem call_enumT {l : Addr} {items : Array Value} {n : Nat} {Q : Value → Shared → Prop} (hl : s.heap.get? l = some { cls := .type "tuple", data := .seq items n })
    (h : ∀ h', IsEnum h' (s.heap.objs.size + 1) s.heap.objs.size 0 .none → h'.IsTupleIter s.heap.objs.size l 0 → h'.objs.size = s.heap.objs.size + 2 →
      (∀ b o, s.heap.get? b = some o → h'.get? b = some o) → Q (.ref (s.heap.objs.size + 1)) { s with heap := h' }) :
    wpAny (model prog w) A (call (.type "enumerate") [.ref l]) Q E s := by
  refine callType_new F.called_enumerate (by decide) (F.typeCall_enumerate_1 _) (F.newCall_enumerate_1 _) (fun obj => F.args_object_init_2 obj _) F.entry_enumerate_new
    (enumNewT l items n) ⟨hl, ?_⟩
  have hz : (s.heap.push { cls := .type "tuple_iterator", data := .fields #[.ref l, .int 0 0] }).objs.size = s.heap.objs.size + 1 := Heap.size_push ..
  show _ ∧ _
  rw [hz]
  have he := Heap.get?_push_size (s.heap.push { cls := .type "tuple_iterator", data := .fields #[.ref l, .int 0 0] })
      (o := { cls := .type "enumerate", data := .fields #[.none, .bool false, .ref s.heap.objs.size, rawInt 0, .none, .none] }) rfl
  rw [hz] at he
  exact ⟨⟨_, he, rfl⟩, h _ he ⟨_, Heap.get?_push_of_some _ (Heap.get?_push_size _ rfl), rfl, rfl⟩ (by rw [Heap.size_push, hz]) fun b o x => Heap.get?_push_of_some _ (Heap.get?_push_of_some _ x)⟩
end

noncomputable def TurnE (h₀ : Heap) (L : Addr) (wr : List Addr) (own : List (Addr × Obj)) (Jn : (Str → Option Value) → List (Addr × Obj) → Prop) (s₁ : Shared) (R : Result → Shared → Prop) (f : Flow) (s₂ : Shared) : Prop :=
  match f with
  | .ret v => R (.ok (.ret v)) s₂
  | .brk => R (.ok .next) s₂
  | _ => ∃ h' tk m' news', s₂ = { s₁ with heap := h', toks := tk } ∧ Fr h₀ L h' m' ∧ News h₀ L h' (own ++ news') ∧ (∀ p ∈ news', p.1 ∉ wr) ∧ Jn m' news'
section
variable {prog : Program} {w : World} {A : Around} {E : Value → Shared → Prop} {s : Shared} {env : Env} {h₀ : Heap} {target : Expr} {body orelse : List Stmt}
theorem for_gen {R : Result → Shared → Prop} {I : Addr} {fp wr : List Addr} {n : Nat} {P Md : Nat → Value → Heap → Prop} {St : Nat → Heap → Prop} {m : Str → Option Value} {news : List (Addr × Obj)} (W : KTurns prog w A target I fp wr n P Md St)
    (hLf : env.locals ∉ fp) (hwr : ∀ b ∈ wr, h₀.get? b = none) (hnw : ∀ p ∈ news, p.1 ∉ wr) (hst : St 0 s.heap) (F : Fr h₀ env.locals s.heap m) (N : News h₀ env.locals s.heap news)
    (J : Nat → (Str → Option Value) → List (Addr × Obj) → Prop) (h0 : J 0 m news)
    (step : ∀ i v m₁ news₁ h₁ tk₁, i < n → P i v h₁ → St (i + 1) h₁ → J i m₁ news₁ → (∀ p ∈ news₁, p.1 ∉ wr) → Fr h₀ env.locals h₁ m₁ → News h₀ env.locals h₁ (ownOf h₀ fp h₁ ++ news₁) →
      wpAny (model prog w) A (assign target env v) (fun _ s₂ => wpAny (model prog w) A (execs body env)
        (TurnE h₀ env.locals wr (ownOf h₀ fp h₁) (J (i + 1)) { s with heap := h₁, toks := tk₁ } R) (notedBy (model prog w) A env fun e s' => R (.error e) s') s₂) (notedBy (model prog w) A env fun e s' => R (.error e) s') { s with heap := h₁, toks := tk₁ })
    (fin : ∀ h' tk m' news', Fr h₀ env.locals h' m' → News h₀ env.locals h' news' → (∀ p ∈ news', p.1 ∉ wr) → J n m' news' →
      wpAny (model prog w) A (execs orelse env) (fun f s₃ => R (.ok f) s₃) (notedBy (model prog w) A env fun e s' => R (.error e) s') { s with heap := h', toks := tk }) :
    codeAny (model prog w) A (.forLoop target (.ref I) body orelse env) R s := by
  have hLw : env.locals ∉ wr := fun h => hLf (W.sub _ h)
  -- what stands at a turn's start
  let T : Nat → Shared → Prop := fun k s' => ∃ i h' tk m' news', k + i = n + 1 ∧ i ≤ n ∧ s' = { s with heap := h', toks := tk } ∧ St i h' ∧ Fr h₀ env.locals h' m' ∧ News h₀ env.locals h' news' ∧ (∀ p ∈ news', p.1 ∉ wr) ∧ J i m' news'
  refine codeAny_forLoop_any T ?_ (n + 1) ⟨0, s.heap, s.toks, m, news, rfl, Nat.zero_le _, rfl, hst, F, N, hnw, h0⟩
  (intro k; intro s'; intro hZ5; (refine Mine.xa5_8 hZ5 ?_; clear hZ5; intro i h' tk m' news' hk hi eZ13 hst' F' N' hnw' hJ; subst eZ13))
  -- what the iterator does leaves frame and ledger as they were
  have calm : ∀ h₁ : Heap, (∀ b o, b ∉ wr → h'.get? b = some o → h₁.get? b = some o) → Fr h₀ env.locals h₁ m' ∧ News h₀ env.locals h₁ news' := by
    intro h₁ hk₁
    refine ⟨⟨F'.ns.at' fun o e => hk₁ _ o hLw e, fun b o e => hk₁ b o ?_ (F'.keep b o e), F'.above⟩, fun p hp => ⟨hk₁ _ _ (hnw' p hp) (N' p hp).1, (N' p hp).2⟩⟩
    intro hb
    rw [hwr b hb] at e
    cases e
  rcases Nat.lt_or_ge i n with hlt | hge
  · refine W.item i _ _ _ hlt hst' fun v h₁ tk₁ hMd hk₁ => W.go i v _ _ _ hMd fun h₂ hP hst₂ hk₂ => ?_
    obtain ⟨F₂, N₂⟩ := calm h₂ fun b o hb x => hk₂ b o hb (hk₁ b o hb x)
    have Nown : News h₀ env.locals h₂ (ownOf h₀ fp h₂) := news_ownOf hLf
    refine wpAny_mono (step i v m' news' h₂ tk₁ hlt hP hst₂ hJ hnw' F₂ (Nown.append N₂)) (fun _ s₂ h₂' => wpAny_mono h₂' (fun f s₃ h₃ => ?_) fun _ _ e => e) fun _ _ e => e
    have go : (∃ h' tk m₂ news', s₃ = { s with heap := h', toks := tk } ∧ Fr h₀ env.locals h' m₂ ∧ News h₀ env.locals h' (ownOf h₀ fp h₂ ++ news') ∧ (∀ p ∈ news', p.1 ∉ wr) ∧ J (i + 1) m₂ news') → ∃ k', k' < k ∧ T k' s₃ := by
      (intro hZ19; (refine Mine.xa4_5 hZ19 ?_; clear hZ19; intro h₃' tk₃ m₂ news₂ eZ24 F₃ N₃ ha₃ hJ₃; subst eZ24))
      refine ⟨k - 1, by (first | lia | omega), i + 1, h₃', tk₃, m₂, news₂, by (first | lia | omega), hlt, rfl, W.frame _ _ _ hst₂ fun b hb o e => ?_, F₃, N₃.right, ha₃, hJ₃⟩
      cases hn : h₀.get? b with
      | none => exact (N₃ _ (List.mem_append_left _ (mem_ownOf hb hn e))).1
      | some o₀ =>
        have q := F₂.keep b o₀ hn
        rw [e] at q
        cases q
        exact F₃.keep b o hn
    cases f with
    | ret v => exact h₃
    | brk => exact h₃
    | next => exact go h₃
    | cont => exact go h₃
  · obtain rfl : i = n := by (first | lia | omega)
    refine W.done _ _ _ hst' fun h₁ tk₁ hk₁ => ?_
    obtain ⟨F₁, N₁⟩ := calm h₁ hk₁
    exact fin h₁ tk₁ m' news' F₁ N₁ hnw' hJ
end
end Mine
end
section
open PySem PySem.W PyProof.Rows PyProof.V PySem.Spec
set_option maxRecDepth 100000
set_option maxHeartbeats 8000000
set_option linter.unusedVariables false
namespace Mine
inductive PairsOK (h : Heap) : List Value → List (Int × Str) → Prop
  | nil : PairsOK h [] []
  | cons {p : Addr} {b : Int} {tb : Tok} {c : Str} {tc : Tok} {n : Nat} {vs ps} : h.get? p = some { cls := .type "tuple", data := .seq #[.int b tb, .str c tc] n } → PairsOK h vs ps → PairsOK h (.ref p :: vs) ((b, c) :: ps)
inductive TabsOK (h : Heap) : List Value → List (List (Int × Str)) → Prop
  | nil : TabsOK h [] []
  | cons {T : Addr} {its : List Value} {n : Nat} {ps} {vs tabs} : h.get? T = some { cls := .type "tuple", data := .seq its.toArray n } → PairsOK h its ps → TabsOK h vs tabs → TabsOK h (.ref T :: vs) (ps :: tabs)
theorem PairsOK.length {h : Heap} : ∀ {vs ps}, PairsOK h vs ps → vs.length = ps.length
  | _, _, .nil => rfl
  | _, _, .cons _ r => congrArg (· + 1) r.length
theorem PairsOK.at {h : Heap} : ∀ {vs ps}, PairsOK h vs ps → ∀ {j : Nat} {v : Value}, vs[j]? = some v → ∃ p b tb c tc n, v = .ref p ∧ ps[j]? = some (b, c) ∧ h.get? p = some { cls := .type "tuple", data := .seq #[.int b tb, .str c tc] n }
  | _, _, .nil, j, v, e => by cases j <;> cases e
  | _, _, .cons h1 r, 0, v, e => by cases e; exact Mine.in6 _ _ _ _ _ _ ⟨rfl, rfl, h1⟩
  | _, _, .cons h1 r, j + 1, v, e => r.at (j := j) e
theorem TabsOK.length {h : Heap} : ∀ {vs tabs}, TabsOK h vs tabs → vs.length = tabs.length
  | _, _, .nil => rfl
  | _, _, .cons _ _ r => congrArg (· + 1) r.length
theorem TabsOK.at {h : Heap} : ∀ {vs tabs}, TabsOK h vs tabs → ∀ {j : Nat} {v : Value}, vs[j]? = some v → ∃ T its n ps, v = .ref T ∧ tabs[j]? = some ps ∧ h.get? T = some { cls := .type "tuple", data := .seq (List.toArray its) n } ∧ PairsOK h its ps
  | _, _, .nil, j, v, e => by cases j <;> cases e
  | _, _, .cons h1 h2 r, 0, v, e => by cases e; exact Mine.in4 _ _ _ _ ⟨rfl, rfl, h1, h2⟩
  | _, _, .cons h1 h2 r, j + 1, v, e => r.at (j := j) e

noncomputable def LoopG (prog : Program) (w : World) (A : Around) (env : Env) (target : Expr) (body orelse : List Stmt) (Q : Flow → Shared → Prop) (E : Value → Shared → Prop) (it : Value) (s₂ : Shared) : Prop :=
  codeAny (model prog w) A (.forLoop target it body orelse env) (fun r s' => match r with | .ok f => Q f s' | .error e => cameBackBy (model prog w) A env E e s') s₂
section
variable {prog : Program} {w : World} {A : Around} {E : Value → Shared → Prop} {s : Shared} {env : Env} {h₀ : Heap} {target : Expr} {body orelse : List Stmt} {Q : Flow → Shared → Prop}
theorem For_G {iter : Expr} {pos : Pos} (h : wpAny (model prog w) A (eval iter env) (fun xv s₁ => wpAny (model prog w) A (pyIter xv) (fun it s₂ => LoopG prog w A env target body orelse Q E it s₂) E s₁) E s)
    (hs : ∀ x, foldedSetIterable iter env x = pure x := by intro _; rfl) : wpAny (model prog w) A (exec (.For target iter body orelse pos) env) Q E s := wpAny_For h hs
noncomputable def TurnP (h₀ : Heap) (L : Addr) (stored : List Str) (m₀ : Str → Option Value) (news : List (Addr × Obj)) (b : Prop) (s₁ : Shared) (Q : Flow → Shared → Prop) (f : Flow) (s₂ : Shared) : Prop :=
  match f with
  | .ret v => Q (.ret v) s₂
  | .brk => Q .next s₂
  | _ => b ∧ ∃ h' tk m', s₂ = { s₁ with heap := h', toks := tk } ∧ Fr h₀ L h' m' ∧ News h₀ L h' news ∧ ∀ y, stored.contains y = false → m' y = m₀ y
noncomputable abbrev offm (stored : List Str) (u m₀ : Str → Option Value) : Str → Option Value := fun y => if stored.contains y then u y else m₀ y
theorem offm_eq {stored : List Str} {m m₀ : Str → Option Value} (h : ∀ y, stored.contains y = false → m y = m₀ y) : m = offm stored m m₀ := by
  funext y
  unfold offm
  cases hc : stored.contains y with
  | true => simp
  | false => simpa using h y hc
theorem iter_pairs {T : Addr} {its : List Value} {n : Nat} {ps : List (Int × Str)} {m₀ : Str → Option Value} {news : List (Addr × Obj)} (hit : Int → Bool) (stored : List Str)
    (hh : A.handled = none) (hT : h₀.get? T = some { cls := .type "tuple", data := .seq its.toArray n }) (hp : PairsOK h₀ its ps) (F : Fr h₀ env.locals s.heap m₀) (N : News h₀ env.locals s.heap news)
    (turn : ∀ p b tb c tc (u : Str → Option Value) h tk I o, (hit b = true → ps.find? (fun q => hit q.1) = some (b, c)) → (∀ q ∈ news, q.1 < I) → IsTup h p #[.int b tb, .str c tc] → Fr h₀ env.locals h (offm stored u m₀) → News h₀ env.locals h ((I, o) :: news) →
      wpAny (model prog w) A (assign target env (.ref p)) (fun _ s₂ => wpAny (model prog w) A (execs body env) (TurnP h₀ env.locals stored m₀ ((I, o) :: news) (hit b = false) { s with heap := h, toks := tk } Q) E s₂) E { s with heap := h, toks := tk })
    (els : ∀ (u : Str → Option Value) h tk, ps.find? (fun q => hit q.1) = none → Fr h₀ env.locals h (offm stored u m₀) → News h₀ env.locals h news → wpAny (model prog w) A (execs orelse env) Q E { s with heap := h, toks := tk })
    (hE : PassesOwn (model prog w) A env E := by passes_own) :
    wpAny (model prog w) A (pyIter (.ref T)) (fun it s₂ => LoopG prog w A env target body orelse Q E it s₂) E s := by
  have hTs : s.heap.IsTuple T its.toArray := ⟨_, F.keep _ _ hT, rfl, n, rfl⟩
  refine wpAny_pyIter_tuple hTs ?_
  have hlt : T < h₀.objs.size := Heap.lt_size hT
  have hIT : T ≠ s.heap.objs.size := Nat.ne_of_lt (Nat.lt_trans (Nat.lt_of_lt_of_le hlt F.above) F.ns.lt)
  have hIn : h₀.get? s.heap.objs.size = none := next_is_new F
  have hLI : env.locals ≠ s.heap.objs.size := Nat.ne_of_lt F.ns.lt
  have W := KTurns.ofWalks (target := target) (Walks.tuple (prog := prog) (w := w) (A := A) hh s.heap.objs.size T hIT its.toArray) (fun i v s Q E st q => letGo_tupleiter st.1 q)
  have hsz : its.toArray.size = ps.length := by simp [hp.length]
  rw [hsz] at W
  have hown : ∀ h₁ : Heap, h₁.IsTupleIter s.heap.objs.size T 0 ∨ (∃ o, h₁.get? s.heap.objs.size = some o) → ∃ o, PyProof.Rows.ownOf h₀ [s.heap.objs.size, T] h₁ = [(s.heap.objs.size, o)] := by
    intro h₁ hx
    have hx' : ∃ o, h₁.get? s.heap.objs.size = some o := by
      rcases hx with ⟨o, ho, _⟩ | hx
      · exact ⟨o, ho⟩
      · exact hx
    obtain ⟨o, ho⟩ := hx'
    refine ⟨o, ?_⟩
    simp [PyProof.Rows.ownOf, hIn, ho, hT]
  refine for_gen (fp := [s.heap.objs.size, T]) (wr := [s.heap.objs.size]) (m := m₀) (news := news) W ?_ ?_ ?_ ⟨⟨_, Heap.get?_push_size _ rfl, rfl, rfl⟩, hTs.push _⟩ (F.push _) (fun p hp => ⟨Heap.get?_push_of_some _ (N p hp).1, (N p hp).2⟩)
    (fun i m₁ news₁ => news₁ = news ∧ (∀ y, stored.contains y = false → m₁ y = m₀ y) ∧ ∀ q ∈ ps.take i, hit q.1 = false) ⟨rfl, fun _ _ => rfl, by simp⟩ ?_ ?_
  · intro hm
    rcases List.mem_cons.mp hm with e | hm
    · exact hLI e
    · have : env.locals = T := List.mem_singleton.mp hm
      exact absurd (this ▸ F.above) (Nat.not_le.mpr hlt)
  · intro b hb
    rw [List.mem_singleton.mp hb]; exact hIn
  · intro p hp hI
    exact absurd (Heap.lt_size (N p hp).1) ((List.mem_singleton.mp hI) ▸ Nat.lt_irrefl _)
  · (intro i; intro v; intro m₁; intro news₁; intro h₁; intro tk₁; intro hi; intro hP; intro hst₁; intro hZ1; (refine Mine.xa0_3 hZ1 ?_; clear hZ1; intro eZ4 hm hno; subst eZ4); intro hoff; intro F₁; intro N₁)
    (have hZ5 := hp.at (j := i) (v := v) (by simpa using hP); (refine Mine.xa6_3 hZ5 ?_; clear hZ5; intro p b tb c tc n' eZ8 hb hpt; subst eZ8))
    have hI1 : ∃ o, h₁.get? s.heap.objs.size = some o := ⟨_, hst₁.1.choose_spec.1⟩
    obtain ⟨o, hown'⟩ := hown h₁ (.inr hI1)
    rw [hown'] at N₁ ⊢
    rw [offm_eq hm] at F₁
    refine wpAny_mono (turn p b tb c tc m₁ h₁ tk₁ s.heap.objs.size o ?_ (fun q hq => Heap.lt_size (N q hq).1) ⟨_, F₁.keep _ _ hpt, rfl, _, rfl⟩ F₁ N₁) (fun _ s₂ h₂ => wpAny_passesOwn hE (wpAny_mono h₂ (fun f s₃ h₃ => ?_) fun _ _ e => e)) hE
    · intro hhit
      have e1 : ps = ps.take i ++ (b, c) :: ps.drop (i + 1) := by
        have hlt : i < ps.length := hi
        have : ps[i] = (b, c) := by rw [List.getElem?_eq_getElem hlt] at hb; exact Option.some.inj hb
        rw [← this, List.getElem_cons_drop, List.take_append_drop]
      rw [e1, List.find?_append]
      have e2 : (ps.take i).find? (fun q => hit q.1) = none := by
        rw [List.find?_eq_none]
        intro q hq
        rw [hno q hq]; decide
      rw [e2]
      simp [hhit]
    · have go : (hit b = false ∧ ∃ h' tk m', s₃ = { s with heap := h', toks := tk } ∧ Fr h₀ env.locals h' m' ∧ News h₀ env.locals h' ((s.heap.objs.size, o) :: news₁) ∧ ∀ y, stored.contains y = false → m' y = m₀ y) →
          ∃ h' tk m' news', s₃ = { s with heap := h', toks := tk } ∧ Fr h₀ env.locals h' m' ∧ News h₀ env.locals h' ([(s.heap.objs.size, o)] ++ news') ∧ (∀ p ∈ news', p.1 ∉ [s.heap.objs.size]) ∧ news' = news₁ ∧ (∀ y, stored.contains y = false → m' y = m₀ y) ∧ ∀ q ∈ ps.take (i + 1), hit q.1 = false := by
        (intro hZ15; (obtain ⟨hb0, h', tk, m', e, F', N', hm'⟩ := hZ15))
        (first | refine Mine.in8 h' tk m' news₁ e F' N' hoff ⟨rfl, hm', ?_⟩ | refine ⟨h', tk, m', news₁, e, F', N', hoff, rfl, hm', ?_⟩)
        intro q hq
        have hlt : i < ps.length := hi
        rw [List.take_add_one, hb] at hq
        rcases List.mem_append.mp hq with hq | hq
        · exact hno q hq
        · rw [show q = (b, c) by simpa using hq]; exact hb0
      cases f with
      | ret v => exact h₃
      | brk => exact h₃
      | next => exact go h₃
      | cont => exact go h₃
  · (intro h'; intro tk; intro m'; intro news'; intro F'; intro N'; intro hoff; intro hZ16; (refine Mine.xa0_3 hZ16 ?_; clear hZ16; intro eZ19 hm hno; subst eZ19))
    rw [offm_eq hm] at F'
    refine wpAny_passesOwn hE (els m' h' tk ?_ F' N')
    rw [List.find?_eq_none]
    intro q hq
    rw [hno q (by rw [List.take_length]; exact hq)]; decide

noncomputable def hitF (v : Int) (i : Nat) (b : Int) : Bool := if i = 0 then Builtin.bitAnd v 61440 == b else Builtin.bitAnd v b == b
noncomputable def charF (v : Int) (i : Nat) (ps : List (Int × Str)) : Str := match ps.find? (fun q => hitF v i q.1) with | some q => q.2 | none => if i = 0 then Str.ofString "?" else Str.ofString "-"
noncomputable def permL (v : Int) : Nat → List (List (Int × Str)) → List Str
  | _, [] => []
  | i, ps :: r => charF v i ps :: permL v (i + 1) r
theorem permL_get (v : Int) : ∀ (tabs : List (List (Int × Str))) (k i : Nat), (permL v k tabs)[i]? = (tabs[i]?).map (charF v (k + i))
  | [], k, i => by cases i <;> rfl
  | ps :: r, k, 0 => rfl
  | ps :: r, k, i + 1 => by
    show (permL v (k + 1) r)[i]? = (r[i]?).map (charF v (k + (i + 1)))
    rw [permL_get v r (k + 1) i, show k + 1 + i = k + (i + 1) by (first | lia | omega)]
theorem permL_len (v : Int) : ∀ (tabs : List (List (Int × Str))) (k : Nat), (permL v k tabs).length = tabs.length
  | [], _ => rfl
  | _ :: r, k => congrArg (· + 1) (permL_len v r (k + 1))
noncomputable def TurnQ (h₀ : Heap) (L : Addr) (stored : List Str) (m₀ : Str → Option Value) (own : List (Addr × Obj)) (D : Addr) (xs : List Str) (k : Nat) (s₁ : Shared) (Q : Flow → Shared → Prop) (f : Flow) (s₂ : Shared) : Prop :=
  match f with
  | .ret v => Q (.ret v) s₂
  | .brk => Q .next s₂
  | _ => ∃ h' tk m' pits pn news, s₂ = { s₁ with heap := h', toks := tk } ∧ Fr h₀ L h' m' ∧ News h₀ L h' news ∧ (∀ p ∈ own ++ [(D, listOf pits pn)], p ∈ news) ∧ StrsAre pits.toList xs ∧ pits.size ≤ k ∧ ∀ y, stored.contains y = false → m' y = m₀ y
theorem enum_tabs {T0 D : Addr} {its : List Value} {n n0 : Nat} {tabs : List (List (Int × Str))} {elts : List Expr} {kk : Nat} {tpos : Pos} {m₀ : Str → Option Value} (v : Int) (stored : List Str)
    (hh : A.handled = none) (hT0 : h₀.get? T0 = some { cls := .type "tuple", data := .seq its.toArray n }) (hok : TabsOK h₀ its tabs) (hlen : tabs.length ≤ 1000) (F : Fr h₀ env.locals s.heap m₀) (N : News h₀ env.locals s.heap [(D, listOf #[] n0)])
    (turn : ∀ i T tits tn ps pits pn a ti (u : Str → Option Value) h tk e oe it oi, i < tabs.length → tabs[i]? = some ps → h₀.get? T = some { cls := .type "tuple", data := .seq (List.toArray tits) tn } → PairsOK h₀ tits ps → pits.size ≤ i → pits.size ≤ sizeLine → StrsAre pits.toList ((permL v 0 tabs).take i) →
      D < it → it < e → IsTup h a #[.int (i : Int) ti, .ref T] → Fr h₀ env.locals h (offm stored u m₀) → News h₀ env.locals h [(e, oe), (it, oi), (D, listOf pits pn)] →
      wpAny (model prog w) A (assign (.Tuple elts kk tpos) env (.ref a)) (fun _ s₂ => wpAny (model prog w) A (execs body env) (TurnQ h₀ env.locals stored m₀ [(e, oe), (it, oi)] D ((permL v 0 tabs).take (i + 1)) (i + 1) { s with heap := h, toks := tk } Q) E s₂) E { s with heap := h, toks := tk })
    (done : ∀ pits pn (u : Str → Option Value) h tk, pits.size ≤ tabs.length → StrsAre pits.toList (permL v 0 tabs) → Fr h₀ env.locals h (offm stored u m₀) → News h₀ env.locals h [(D, listOf pits pn)] → Q .next { s with heap := h, toks := tk })
    (hE : PassesOwn (model prog w) A env E := by passes_own) :
    wpAny (model prog w) A (call (.type "enumerate") [.ref T0]) (fun xv s₁ => wpAny (model prog w) A (pyIter xv) (fun it s₂ => LoopG prog w A env (.Tuple elts kk tpos) body [] Q E it s₂) E s₁) E s := by
  refine call_enumT (F.keep _ _ hT0) fun h₁ he hit hsz k₁ => ?_
  refine wpAny_pyIter_enum he ?_
  have hlt : T0 < h₀.objs.size := Heap.lt_size hT0
  have hLs : env.locals < s.heap.objs.size := F.ns.lt
  have hab : h₀.objs.size ≤ env.locals := F.above
  have hlt' : T0 < s.heap.objs.size := Nat.lt_of_lt_of_le hlt (Nat.le_trans hab (Nat.le_of_lt hLs))
  have hTI : T0 ≠ s.heap.objs.size := Nat.ne_of_lt hlt'
  have hIn : h₀.get? s.heap.objs.size = none := next_is_new F
  have hEn : h₀.get? (s.heap.objs.size + 1) = none := Heap.get?_none_of_le (Nat.le_trans hab (Nat.le_trans (Nat.le_of_lt hLs) (Nat.le_succ _)))
  have hDs : D < s.heap.objs.size := Heap.lt_size (N _ (.head _)).1
  have hT1 : h₁.IsTuple T0 its.toArray := ⟨_, k₁ _ _ (F.keep _ _ hT0), rfl, n, rfl⟩
  have hLe : env.locals ∉ [s.heap.objs.size + 1, s.heap.objs.size, T0] := by
    intro hm
    rcases List.mem_cons.mp hm with e | hm
    · exact absurd (e ▸ hLs) (Nat.not_lt.mpr (Nat.le_succ _))
    · rcases List.mem_cons.mp hm with e | hm
      · exact absurd (e ▸ hLs) (Nat.lt_irrefl _)
      · exact absurd (List.mem_singleton.mp hm ▸ hab) (Nat.not_le.mpr hlt)
  have hnD : ∀ p : Addr × Obj, p.1 = D → p.1 ∉ [s.heap.objs.size + 1, s.heap.objs.size] := by
    intro p hp hm
    rw [hp] at hm
    rcases List.mem_cons.mp hm with e | hm
    · exact absurd (e ▸ hDs) (Nat.not_lt.mpr (Nat.le_succ _))
    · exact absurd (List.mem_singleton.mp hm ▸ hDs) (Nat.lt_irrefl _)
  have W0 := drawsTuple (prog := prog) (w := w) (A := A.in1) hh s.heap.objs.size T0 hTI its.toArray
  have W := KTurns.ofWalksU (elts := elts) (k := kk) (pos := tpos) (WalksT.enumerateD W0 (s.heap.objs.size + 1) (Nat.succ_ne_self _) (by
    intro hm
    rcases List.mem_cons.mp hm with e | hm
    · exact Nat.succ_ne_self _ e
    · exact absurd (List.mem_singleton.mp hm ▸ hlt') (Nat.not_lt.mpr (Nat.le_succ _))) (.head _)).toU
  have hsz2 : its.toArray.size = tabs.length := by simp [hok.length]
  rw [hsz2] at W
  have hown : ∀ h₂ : Heap, (∃ o, h₂.get? (s.heap.objs.size + 1) = some o) → (∃ o, h₂.get? s.heap.objs.size = some o) → ∃ oe oi, PyProof.Rows.ownOf h₀ [s.heap.objs.size + 1, s.heap.objs.size, T0] h₂ = [(s.heap.objs.size + 1, oe), (s.heap.objs.size, oi)] := by
    rintro h₂ ⟨oe, h1⟩ ⟨oi, h2⟩
    exact Mine.in2 oe oi (by simp [PyProof.Rows.ownOf, hIn, hEn, h1, h2, hT0])
  refine for_gen (fp := [s.heap.objs.size + 1, s.heap.objs.size, T0]) (wr := [s.heap.objs.size + 1, s.heap.objs.size]) (m := m₀) (news := [(D, listOf #[] n0)]) W hLe ?_ ?_ ⟨⟨_, he⟩, hit, hT1⟩ (F.keeps k₁) (fun p hp => ⟨k₁ _ _ (N p hp).1, (N p hp).2⟩)
    (fun i m₁ news₁ => ∃ pits pn, news₁ = [(D, listOf pits pn)] ∧ pits.size ≤ i ∧ StrsAre pits.toList ((permL v 0 tabs).take i) ∧ ∀ y, stored.contains y = false → m₁ y = m₀ y) ⟨#[], n0, rfl, Nat.le_refl _, .nil, fun _ _ => rfl⟩ ?_ ?_
  · intro b hb
    rcases List.mem_cons.mp hb with e | hb
    · rw [e]; exact hEn
    · rw [List.mem_singleton.mp hb]; exact hIn
  · intro p hp
    exact hnD p (by rw [List.mem_singleton.mp hp])
  · (intro i; intro x; intro m₁; intro news₁; intro h₂; intro tk₁; intro hi; intro hZ20; (refine Mine.xa2_3 hZ20 ?_; clear hZ20; intro a vals eZ27 eZ28 eZ29; subst eZ27; (refine Mine.xa2_2 eZ28 ?_; clear eZ28; intro ti y hy eZ31; subst eZ31); (obtain ⟨oa, hoa, hca, na, hda⟩ := eZ29)); intro hZ48; (refine Mine.xa0_3 hZ48 ?_; clear hZ48; intro eZ53 eZ54 _; (refine Mine.xa1_1 eZ53 ?_; clear eZ53; intro old he₂); (refine Mine.xa1_2 eZ54 ?_; clear eZ54; intro oit hoit _)); intro hZ55; (refine Mine.xa2_4 hZ55 ?_; clear hZ55; intro pits pn eZ59 hz hst hm; subst eZ59); intro hoff; intro F₁; intro N₁)
    (have hZ62 := hok.at (j := i) (v := y) (by simpa using hy); (refine Mine.xa4_4 hZ62 ?_; clear hZ62; intro T tits tn ps eZ66 htab hTt hps; subst eZ66))
    (have hZ71 := hown h₂ ⟨_, he₂⟩ ⟨_, hoit⟩; (refine Mine.xa2_1 hZ71 ?_; clear hZ71; intro oe oi hown'))
    rw [hown'] at N₁ ⊢
    rw [offm_eq hm] at F₁
    refine wpAny_mono (turn i T tits tn ps pits pn a ti m₁ h₂ tk₁ _ oe _ oi hi htab hTt hps hz (show _ ≤ 2 ^ 24 by (first | lia | omega)) hst hDs (Nat.lt_succ_self _) ⟨oa, hoa, hca, na, hda⟩ F₁ N₁) (fun _ s₂ h₂ => wpAny_passesOwn hE (wpAny_mono h₂ (fun f s₃ h₃ => ?_) fun _ _ e => e)) hE
    have go : (∃ h' tk m' pits pn news, s₃ = { s with heap := h', toks := tk } ∧ Fr h₀ env.locals h' m' ∧ News h₀ env.locals h' news ∧ (∀ p ∈ [(s.heap.objs.size + 1, oe), (s.heap.objs.size, oi)] ++ [(D, listOf pits pn)], p ∈ news) ∧ StrsAre pits.toList ((permL v 0 tabs).take (i + 1)) ∧ pits.size ≤ i + 1 ∧ ∀ y, stored.contains y = false → m' y = m₀ y) →
        ∃ h' tk m' news', s₃ = { s with heap := h', toks := tk } ∧ Fr h₀ env.locals h' m' ∧ News h₀ env.locals h' ([(s.heap.objs.size + 1, oe), (s.heap.objs.size, oi)] ++ news') ∧ (∀ p ∈ news', p.1 ∉ [s.heap.objs.size + 1, s.heap.objs.size]) ∧ ∃ pits pn, news' = [(D, listOf pits pn)] ∧ pits.size ≤ i + 1 ∧ StrsAre pits.toList ((permL v 0 tabs).take (i + 1)) ∧ ∀ y, stored.contains y = false → m' y = m₀ y := by
      (intro hZ72; (refine Mine.xa6_7 hZ72 ?_; clear hZ72; intro h' tk m' pits' pn' news e F' N' hsub hst' hz' hm'))
      (first | exact Mine.in6 h' tk m' [(D, listOf pits' pn')] e F' ⟨fun p hp => N' p (hsub p hp), fun p hp => hnD p (by rw [List.mem_singleton.mp hp]), pits', pn', rfl, hz', hst', hm'⟩ | exact Mine.in5 h' tk m' [(D, listOf pits' pn')] e ⟨F', fun p hp => N' p (hsub p hp), fun p hp => hnD p (by rw [List.mem_singleton.mp hp]), pits', pn', rfl, hz', hst', hm'⟩ | exact Mine.in4 h' tk m' [(D, listOf pits' pn')] ⟨e, F', fun p hp => N' p (hsub p hp), fun p hp => hnD p (by rw [List.mem_singleton.mp hp]), pits', pn', rfl, hz', hst', hm'⟩)
    cases f with
    | ret v => exact h₃
    | brk => exact h₃
    | next => exact go h₃
    | cont => exact go h₃
  · (intro h'; intro tk; intro m'; intro news'; intro F'; intro N'; intro hoff; intro hZ73; (refine Mine.xa2_4 hZ73 ?_; clear hZ73; intro pits pn eZ77 hz hst hm; subst eZ77))
    rw [offm_eq hm] at F'
    rw [List.take_of_length_le (Nat.le_of_eq (permL_len v tabs 0))] at hst
    exact wpAny_passesOwn hE (wpAny_execs_nil (done pits pn m' h' tk hz hst F' N'))
end
theorem ne_of_contains {stored : List Str} {y a : Str} (h : stored.contains y = false) (ha : stored.contains a = true) : y ≠ a := by rintro rfl; rw [ha] at h; cases h
theorem sub_contains {s2 stored : List Str} {y : Str} (hs : s2.all (fun a => stored.contains a) = true) (h : stored.contains y = false) : s2.contains y = false := by
  cases hc : s2.contains y with
  | false => rfl
  | true =>
    have h1 := List.all_eq_true.mp hs y (by simpa using hc)
    rw [h1] at h
    cases h
theorem offm_out {stored : List Str} {u m : Str → Option Value} {y : Str} (h : stored.contains y = false) : offm stored u m y = m y := by
  show (if stored.contains y = true then u y else m y) = m y
  rw [if_neg (by rw [h]; exact Bool.false_ne_true)]
end Mine
end
section
open PySem PySem.W PyProof.Rows PyProof.V PySem.Spec
set_option maxRecDepth 100000
set_option maxHeartbeats 8000000
set_option linter.unusedVariables false
namespace Mine
inductive FilesAre : List Value → List (Addr × Obj) → List (Str × Int) → Prop
  | nil : FilesAre [] [] []
  | cons {T : Addr} {x : Str} {tx : Tok} {b : Int} {tb : Tok} {n : Nat} {vs ts fs} : FilesAre vs ts fs → FilesAre (.ref T :: vs) ((T, { cls := .type "tuple", data := .seq #[.str x tx, .int b tb] n }) :: ts) ((x, b) :: fs)
theorem FilesAre.append : ∀ {vs ts fs vs' ts' fs'}, FilesAre vs ts fs → FilesAre vs' ts' fs' → FilesAre (vs ++ vs') (ts ++ ts') (fs ++ fs')
  | _, _, _, _, _, _, .nil, h => h
  | _, _, _, _, _, _, .cons r, h => .cons (r.append h)
theorem FilesAre.length : ∀ {vs ts fs}, FilesAre vs ts fs → vs.length = fs.length
  | _, _, _, .nil => rfl
  | _, _, _, .cons r => congrArg (· + 1) r.length
theorem FilesAre.at : ∀ {vs ts fs}, FilesAre vs ts fs → ∀ {j : Nat} {v : Value}, vs[j]? = some v → ∃ T x tx b tb n, v = .ref T ∧ fs[j]? = some (x, b) ∧ (T, ({ cls := .type "tuple", data := .seq #[.str x tx, .int b tb] n } : Obj)) ∈ ts
  | _, _, _, .nil, j, v, e => by cases j <;> cases e
  | _, _, _, .cons r, 0, v, e => by cases e; exact Mine.in6 _ _ _ _ _ _ ⟨rfl, rfl, .head _⟩
  | _, _, _, .cons r, j + 1, v, e => by
    (have hZ1 := r.at (j := j) e; (refine Mine.xa6_3 hZ1 ?_; clear hZ1; intro T x tx b tb n h1 h2 h3))
    (first | exact Mine.in8 T x tx b tb n h1 h2 (.tail _ h3) | exact Mine.in7 T x tx b tb n h1 ⟨h2, .tail _ h3⟩ | exact Mine.in6 T x tx b tb n ⟨h1, h2, .tail _ h3⟩)
noncomputable def pcs : List Str := [Str.ofString "a", Str.ofString ".", Str.ofString "\n", Str.ofString "\u000d", Str.ofString "'", Str.ofString " ", Str.ofString "b", Str.ofString "\n."]
noncomputable def pc (e : Int) : Str := pcs.getD e.toNat Str.empty
noncomputable def nameF (x : Int) : Str := pc (x.fmod 8) ++ pc ((x.fdiv 8).fmod 8) ++ pc ((x.fdiv 64).fmod 8)
noncomputable def bitsF (place : Int) (x : Int) : Int := [(32768 : Int), 16384, 40960].getD ((x.fdiv 512).fmod 3).toNat 0 + (x.fdiv 8 + 455 * (place + 1)).fmod 4096
noncomputable def filesF : Nat → List Int → List (Str × Int)
  | _, [] => []
  | i, x :: r => (nameF x, bitsF i x) :: filesF (i + 1) r
theorem filesF_get : ∀ (ns : List Int) (k i : Nat), (filesF k ns)[i]? = (ns[i]?).map fun x => (nameF x, bitsF ((k + i : Nat) : Int) x)
  | [], k, i => by cases i <;> rfl
  | x :: r, k, 0 => rfl
  | x :: r, k, i + 1 => by
    show (filesF (k + 1) r)[i]? = (r[i]?).map fun x => (nameF x, bitsF ((k + (i + 1) : Nat) : Int) x)
    rw [filesF_get r (k + 1) i, show k + 1 + i = k + (i + 1) by (first | lia | omega)]
theorem filesF_len : ∀ (ns : List Int) (k : Nat), (filesF k ns).length = ns.length
  | [], _ => rfl
  | _ :: r, k => congrArg (· + 1) (filesF_len r (k + 1))

section
variable {prog : Program} {w : World} {A : Around} {E : Value → Shared → Prop} {s : Shared} {env : Env} {h₀ : Heap} {body : List Stmt} {Q : Flow → Shared → Prop}
noncomputable def TurnF (h₀ : Heap) (L : Addr) (stored : List Str) (m₀ : Str → Option Value) (own : List (Addr × Obj)) (e Df : Addr) (tups : List (Addr × Obj)) (fs : List (Str × Int)) (fits : Array Value) (s₁ : Shared) (Q : Flow → Shared → Prop) (f : Flow) (s₂ : Shared) : Prop :=
  match f with
  | .ret v => Q (.ret v) s₂
  | .brk => Q .next s₂
  | _ => ∃ h' tk m' fn news T x tx b tb tn, s₂ = { s₁ with heap := h', toks := tk } ∧ Fr h₀ L h' m' ∧ News h₀ L h' news ∧ (∀ p ∈ own ++ [(Df, listOf (fits.push (.ref T)) fn), (T, { cls := .type "tuple", data := .seq #[.str x tx, .int b tb] tn })] ++ tups, p ∈ news) ∧ e < T ∧ Df < T ∧ fs = [(x, b)] ∧ ∀ y, stored.contains y = false → m' y = m₀ y
theorem TurnF.intro {L : Addr} {stored : List Str} {m₀ m' : Str → Option Value} {own news : List (Addr × Obj)} {e Df : Addr} {tups : List (Addr × Obj)} {fs : List (Str × Int)} {fits : Array Value} {s₁ : Shared} {h' : Heap} {tk fn tn : Nat} {T : Addr} {x : Str} {tx : Tok} {b : Int} {tb : Tok}
    (F : Fr h₀ L h' m') (N : News h₀ L h' ((T, { cls := .type "tuple", data := .seq #[.str x tx, .int b tb] tn }) :: news)) (hown : ∀ p ∈ own, p ∈ news) (hdf : (Df, listOf (fits.push (.ref T)) fn) ∈ news) (htu : ∀ p ∈ tups, p ∈ news) (he : e < T) (hd : Df < T) (hf : fs = [(x, b)]) (hm : ∀ y, stored.contains y = false → m' y = m₀ y) :
    TurnF h₀ L stored m₀ own e Df tups fs fits s₁ Q .next { s₁ with heap := h', toks := tk } := by
  refine Mine.in11 h' tk m' fn _ T x tx b tb tn ⟨rfl, F, N, fun p hp => ?_, he, hd, hf, hm⟩
  rcases List.mem_append.mp hp with hp | hp
  · rcases List.mem_append.mp hp with hp | hp
    · exact .tail _ (hown p hp)
    · rcases List.mem_cons.mp hp with rfl | hp
      · exact .tail _ hdf
      · rw [List.mem_singleton.mp hp]; exact .head _
  · exact .tail _ (htu p hp)
theorem enum_files {l Df Dp : Addr} {ws : List Value} {ns : List Int} {n1 n0 : Nat} {op : Obj} {more : List (Addr × Obj)} {elts : List Expr} {kk : Nat} {tpos : Pos} {m₀ : Str → Option Value} (stored : List Str)
    (hI : IntsAre ws ns) (hlen : ns.length ≤ 1000) (hh : A.handled = none) (F : Fr h₀ env.locals s.heap m₀) (N : News h₀ env.locals s.heap ((l, listOf ws.toArray n1) :: more)) (hDf : (Df, listOf #[] n0) ∈ more) (hDp : (Dp, op) ∈ more) (hlt : Df < l ∧ Dp < l ∧ Dp < Df)
    (turn : ∀ i x tx fits fn tups a ti (u : Str → Option Value) h tk e oe it oi ol, i < ns.length → ns[i]? = some x → fits.size ≤ sizeLine → (∀ p ∈ tups, p.1 ≠ Df) → Df < e ∧ Dp < e ∧ it < e ∧ l < it ∧ Df < l ∧ Dp < Df → IsTup h a #[.int (i : Int) ti, .int x tx] → Fr h₀ env.locals h (offm stored u m₀) →
      News h₀ env.locals h ((e, oe) :: (it, oi) :: (l, ol) :: (Dp, op) :: (Df, listOf fits fn) :: tups) →
      wpAny (model prog w) A (assign (.Tuple elts kk tpos) env (.ref a)) (fun _ s₂ => wpAny (model prog w) A (execs body env) (TurnF h₀ env.locals stored m₀ [(e, oe), (it, oi), (l, ol), (Dp, op)] e Df tups [(nameF x, bitsF (i : Int) x)] fits { s with heap := h, toks := tk } Q) E s₂) E { s with heap := h, toks := tk })
    (done : ∀ fits fn tups (u : Str → Option Value) h tk, FilesAre fits.toList tups (filesF 0 ns) → Fr h₀ env.locals h (offm stored u m₀) → News h₀ env.locals h ((Df, listOf fits fn) :: tups) → Q .next { s with heap := h, toks := tk })
    (hE : PassesOwn (model prog w) A env E := by passes_own) :
    wpAny (model prog w) A (call (.type "enumerate") [.ref l]) (fun xv s₁ => wpAny (model prog w) A (pyIter xv) (fun it s₂ => LoopG prog w A env (.Tuple elts kk tpos) body [] Q E it s₂) E s₁) E s := by
  have hl0 := N (l, listOf ws.toArray n1) (.head _)
  have hls : s.heap.IsList l ws.toArray := ⟨_, hl0.1, rfl, n1, rfl⟩
  refine call_enumerate_list hls fun h₁ he hit hsz k₁ => ?_
  refine wpAny_pyIter_enum he ?_
  have hLs : env.locals < s.heap.objs.size := F.ns.lt
  have hab : h₀.objs.size ≤ env.locals := F.above
  have hll : l < s.heap.objs.size := Heap.lt_size hl0.1
  have hlI : l ≠ s.heap.objs.size := Nat.ne_of_lt hll
  have hIn : h₀.get? s.heap.objs.size = none := next_is_new F
  have hEn : h₀.get? (s.heap.objs.size + 1) = none := Heap.get?_none_of_le (Nat.le_trans hab (Nat.le_trans (Nat.le_of_lt hLs) (Nat.le_succ _)))
  have hL1 : h₁.IsList l ws.toArray := hls.at fun o e => k₁ _ _ e
  have hLe : env.locals ∉ [s.heap.objs.size + 1, s.heap.objs.size, l] := by
    intro hm
    rcases List.mem_cons.mp hm with e | hm
    · exact absurd (e ▸ hLs) (Nat.not_lt.mpr (Nat.le_succ _))
    · rcases List.mem_cons.mp hm with e | hm
      · exact absurd (e ▸ hLs) (Nat.lt_irrefl _)
      · exact hl0.2.1 (List.mem_singleton.mp hm).symm
  have hoff : ∀ a : Addr, a < s.heap.objs.size → a ∉ [s.heap.objs.size + 1, s.heap.objs.size] := by
    intro a ha hm
    rcases List.mem_cons.mp hm with e | hm
    · exact absurd (e ▸ ha) (Nat.not_lt.mpr (Nat.le_succ _))
    · exact absurd ((List.mem_singleton.mp hm) ▸ ha) (Nat.lt_irrefl _)
  have W0 := Draws.list (prog := prog) (w := w) (A := A.in1) hh s.heap.objs.size l hlI ws.toArray
  have W := KTurns.ofWalksU (elts := elts) (k := kk) (pos := tpos) (WalksT.enumerateD W0 (s.heap.objs.size + 1) (Nat.succ_ne_self _) (by
    intro hm
    rcases List.mem_cons.mp hm with e | hm
    · exact Nat.succ_ne_self _ e
    · exact absurd ((List.mem_singleton.mp hm) ▸ hll) (Nat.not_lt.mpr (Nat.le_succ _))) (.head _)).toU
  have hsz2 : ws.toArray.size = ns.length := by simp [hI.length]
  rw [hsz2] at W
  have hown : ∀ h₂ : Heap, (∃ o, h₂.get? (s.heap.objs.size + 1) = some o) → (∃ o, h₂.get? s.heap.objs.size = some o) → (∃ o, h₂.get? l = some o) → ∃ oe oi ol, PyProof.Rows.ownOf h₀ [s.heap.objs.size + 1, s.heap.objs.size, l] h₂ = [(s.heap.objs.size + 1, oe), (s.heap.objs.size, oi), (l, ol)] := by
    rintro h₂ ⟨oe, h1⟩ ⟨oi, h2⟩ ⟨ol, h3⟩
    exact Mine.in3 oe oi ol (by simp [PyProof.Rows.ownOf, hIn, hEn, h1, h2, h3, hl0.2.2])
  have hDf' := N _ (.tail _ hDf)
  have hDp' := N _ (.tail _ hDp)
  have hDfs := Heap.lt_size hDf'.1
  have hDps := Heap.lt_size hDp'.1
  dsimp only at hDfs hDps
  have hmk : ∀ b o, s.heap.get? b = some o → h₁.get? b = some o := k₁
  refine for_gen (fp := [s.heap.objs.size + 1, s.heap.objs.size, l]) (wr := [s.heap.objs.size + 1, s.heap.objs.size]) (m := m₀) (news := [(Dp, op), (Df, listOf #[] n0)]) W hLe ?_ ?_ ⟨⟨_, he⟩, hit, hL1⟩ (F.keeps k₁) ?_
    (fun i m₁ news₁ => ∃ fits fn tups, news₁ = (Dp, op) :: (Df, listOf fits fn) :: tups ∧ FilesAre fits.toList tups ((filesF 0 ns).take i) ∧ (∀ p ∈ tups, p.1 ≠ Df) ∧ ∀ y, stored.contains y = false → m₁ y = m₀ y) ⟨#[], n0, [], rfl, .nil, fun _ h => (nomatch h), fun _ _ => rfl⟩ ?_ ?_
  · intro b hb
    rcases List.mem_cons.mp hb with e | hb
    · rw [e]; exact hEn
    · rw [List.mem_singleton.mp hb]; exact hIn
  · intro p hp
    rcases List.mem_cons.mp hp with rfl | hp
    · exact hoff _ hDps
    · rw [List.mem_singleton.mp hp]; exact hoff _ hDfs
  · intro p hp
    rcases List.mem_cons.mp hp with rfl | hp
    · exact ⟨k₁ _ _ hDp'.1, hDp'.2⟩
    · rw [List.mem_singleton.mp hp]; exact ⟨k₁ _ _ hDf'.1, hDf'.2⟩
  · (intro i; intro v; intro m₁; intro news₁; intro h₂; intro tk₁; intro hi; intro hZ2; (refine Mine.xa2_3 hZ2 ?_; clear hZ2; intro a vals eZ9 eZ10 eZ11; subst eZ9; (refine Mine.xa2_2 eZ10 ?_; clear eZ10; intro ti y hy eZ13; subst eZ13); (obtain ⟨oa, hoa, hca, na, hda⟩ := eZ11)); intro hZ30; (refine Mine.xa0_3 hZ30 ?_; clear hZ30; intro eZ37 eZ38 eZ39; (refine Mine.xa1_1 eZ37 ?_; clear eZ37; intro old he₂); (refine Mine.xa1_2 eZ38 ?_; clear eZ38; intro oit hoit _); (refine Mine.xa1_2 eZ39 ?_; clear eZ39; intro ol hol _)); intro hZ40; (refine Mine.xa3_4 hZ40 ?_; clear hZ40; intro fits fn tups eZ44 hfa hne hm; subst eZ44); intro hoff₁; intro F₁; intro N₁)
    obtain ⟨tx, hx⟩ := hI.get i ns[i] (by simp [hi])
    have hyv : y = .int ns[i] tx := by
      have hy' : ws[i]? = some y := by simpa using hy
      rw [hx] at hy'
      exact (Option.some.inj hy').symm
    subst hyv
    (have hZ48 := hown h₂ ⟨_, he₂⟩ ⟨_, hoit⟩ ⟨_, hol⟩; (refine Mine.xa3_1 hZ48 ?_; clear hZ48; intro oe oi ol' hown'))
    rw [hown'] at N₁ ⊢
    rw [offm_eq hm] at F₁
    have hfl := hfa.length
    have hfz : fits.size ≤ sizeLine := by
      have h1 : fits.toList.length ≤ ns.length := by rw [hfl, List.length_take, filesF_len]; (first | lia | omega)
      rw [Array.length_toList] at h1
      show _ ≤ 2 ^ 24
      (first | lia | omega)
    refine wpAny_mono (turn i ns[i] tx fits fn tups a ti m₁ h₂ tk₁ _ oe _ oi ol' hi (by simp [hi]) hfz hne ⟨Nat.lt_succ_of_lt hDfs, Nat.lt_succ_of_lt hDps, Nat.lt_succ_self _, hll, hlt.1, hlt.2.2⟩ ⟨oa, hoa, hca, na, hda⟩ F₁ N₁) (fun _ s₂ h₂ => wpAny_passesOwn hE (wpAny_mono h₂ (fun f s₃ h₃ => ?_) fun _ _ e => e)) hE
    have go : (∃ h' tk m' fn news T x tx b tb tn, s₃ = { s with heap := h', toks := tk } ∧ Fr h₀ env.locals h' m' ∧ News h₀ env.locals h' news ∧ (∀ p ∈ [(s.heap.objs.size + 1, oe), (s.heap.objs.size, oi), (l, ol'), (Dp, op)] ++ [(Df, listOf (fits.push (.ref T)) fn), (T, { cls := .type "tuple", data := .seq #[.str x tx, .int b tb] tn })] ++ tups, p ∈ news) ∧ s.heap.objs.size + 1 < T ∧ Df < T ∧ [(nameF ns[i], bitsF (i : Int) ns[i])] = [(x, b)] ∧ ∀ y, stored.contains y = false → m' y = m₀ y) →
        ∃ h' tk m' news', s₃ = { s with heap := h', toks := tk } ∧ Fr h₀ env.locals h' m' ∧ News h₀ env.locals h' ([(s.heap.objs.size + 1, oe), (s.heap.objs.size, oi), (l, ol')] ++ news') ∧ (∀ p ∈ news', p.1 ∉ [s.heap.objs.size + 1, s.heap.objs.size]) ∧ ∃ fits fn tups, news' = (Dp, op) :: (Df, listOf fits fn) :: tups ∧ FilesAre fits.toList tups ((filesF 0 ns).take (i + 1)) ∧ (∀ p ∈ tups, p.1 ≠ Df) ∧ ∀ y, stored.contains y = false → m' y = m₀ y := by
      (intro hZ49; (refine Mine.xa11_8 hZ49 ?_; clear hZ49; intro h' tk m' fn' news T x tx' b tb tn e F' N' hsub heT hdT hfs hm'))
      obtain ⟨hx1, hb1⟩ : nameF ns[i] = x ∧ bitsF (i : Int) ns[i] = b := by
        have := List.head_eq_of_cons_eq hfs
        exact ⟨congrArg Prod.fst this, congrArg Prod.snd this⟩
      have hin : ∀ p, p ∈ (Dp, op) :: (Df, listOf (fits.push (.ref T)) fn') :: (tups ++ [(T, { cls := .type "tuple", data := .seq #[.str x tx', .int b tb] tn })]) → p ∈ [(s.heap.objs.size + 1, oe), (s.heap.objs.size, oi), (l, ol'), (Dp, op)] ++ [(Df, listOf (fits.push (.ref T)) fn'), (T, { cls := .type "tuple", data := .seq #[.str x tx', .int b tb] tn })] ++ tups := by
        intro p hp
        simp only [List.mem_cons, List.mem_append, List.not_mem_nil, or_false] at hp ⊢
        rcases hp with h | h | h | h
        · exact .inl (.inl (.inr (.inr (.inr h))))
        · exact .inl (.inr (.inl h))
        · exact .inr h
        · exact .inl (.inr (.inr h))
      (first | refine Mine.in6 h' tk m' ((Dp, op) :: (Df, listOf (fits.push (.ref T)) fn') :: (tups ++ [(T, { cls := .type "tuple", data := .seq #[.str x tx', .int b tb] tn })])) e F' ⟨fun p hp => ?_, fun p hp => ?_, fits.push (.ref T), fn', _, rfl, ?_, fun p hp => ?_, hm'⟩ | refine Mine.in5 h' tk m' ((Dp, op) :: (Df, listOf (fits.push (.ref T)) fn') :: (tups ++ [(T, { cls := .type "tuple", data := .seq #[.str x tx', .int b tb] tn })])) e ⟨F', fun p hp => ?_, fun p hp => ?_, fits.push (.ref T), fn', _, rfl, ?_, fun p hp => ?_, hm'⟩ | refine Mine.in4 h' tk m' ((Dp, op) :: (Df, listOf (fits.push (.ref T)) fn') :: (tups ++ [(T, { cls := .type "tuple", data := .seq #[.str x tx', .int b tb] tn })])) ⟨e, F', fun p hp => ?_, fun p hp => ?_, fits.push (.ref T), fn', _, rfl, ?_, fun p hp => ?_, hm'⟩)
      · rcases List.mem_append.mp hp with hp | hp
        · refine N' p (hsub p (List.mem_append_left _ (List.mem_append_left _ ?_)))
          simp only [List.mem_cons, List.not_mem_nil, or_false] at hp ⊢
          rcases hp with h | h | h
          · exact .inl h
          · exact .inr (.inl h)
          · exact .inr (.inr (.inl h))
        · exact N' p (hsub p (hin p hp))
      · rcases List.mem_cons.mp hp with rfl | hp
        · exact hoff _ hDps
        · rcases List.mem_cons.mp hp with rfl | hp
          · exact hoff _ hDfs
          · rcases List.mem_append.mp hp with hp | hp
            · exact hoff₁ p (.tail _ (.tail _ hp))
            · rw [List.mem_singleton.mp hp]
              intro hmm
              rcases List.mem_cons.mp hmm with q | q
              · exact absurd (q ▸ heT) (Nat.lt_irrefl _)
              · exact absurd ((List.mem_singleton.mp q) ▸ heT) (Nat.not_lt.mpr (Nat.le_succ _))
      · have e2 : (filesF 0 ns)[i]? = some (x, b) := by
          rw [filesF_get, List.getElem?_eq_getElem hi, Option.map_some, Nat.zero_add, hx1, hb1]
        rw [List.take_add_one, e2, Array.toList_push]
        exact hfa.append (.cons .nil)
      · rcases List.mem_append.mp hp with hp | hp
        · exact hne p hp
        · rw [List.mem_singleton.mp hp]; exact Nat.ne_of_gt hdT
    cases f with
    | ret v => exact h₃
    | brk => exact h₃
    | next => exact go h₃
    | cont => exact go h₃
  · (intro h'; intro tk; intro m'; intro news'; intro F'; intro N'; intro hoff'; intro hZ50; (refine Mine.xa3_4 hZ50 ?_; clear hZ50; intro fits fn tups eZ54 hfa hne hm; subst eZ54))
    rw [offm_eq hm] at F'
    rw [List.take_of_length_le (Nat.le_of_eq (filesF_len ns 0))] at hfa
    exact wpAny_passesOwn hE (wpAny_execs_nil (done fits fn tups m' h' tk hfa F' fun p hp => N' p (.tail _ hp)))
end
end Mine
end
section
open PySem PySem.W PyProof.Rows
set_option maxRecDepth 100000
set_option maxHeartbeats 8000000
set_option linter.unusedVariables false
namespace Mine
theorem FilesAre.cls : ∀ {vs ts fs}, FilesAre vs ts fs → ∀ p ∈ ts, p.2.cls = .type "tuple"
  | _, _, _, .nil, p, hp => (List.not_mem_nil hp).elim
  | _, _, _, .cons r, p, hp => by
    rcases List.mem_cons.mp hp with rfl | hp
    · rfl
    · exact r.cls p hp
section
variable {prog : Program} {w : World} {A : Around} {E : Value → Shared → Prop} {env : Env} {s : Shared} {h₀ : Heap}
theorem files_comp {elt iter : Expr} {a b : Str} {pa pb tp : Pos} {kk : Nat} {scope : Scope} {cl : List (Str × Addr)} {pos : Pos} {Q : Value → Shared → Prop} (fs : List (Str × Int)) (G : Str → Int → Heap → Value → List Addr → Prop)
    (hG : ∀ x b (h h' : Heap) y fy, G x b h y fy → (∀ a ∈ fy, ∀ o, h.get? a = some o → h'.get? a = some o) → G x b h' y fy) (hab : a ≠ b)
    (hh : A.handled = none) (hxa : scope.names.lookup a = some .local) (hxb : scope.names.lookup b = some .local) (hclos : closureFor scope env = pure cl) (hcell : ∀ y ∈ scope.names, y.2 ≠ .cell) (hkind : scope.kind = .function)
    (hnames : ∀ y ∈ scope.names, y.2 = .local → scope.names.lookup y.1 = some .local)
    (h : wpAny (model prog w) A (eval iter env) (fun xv s₁ => ∃ (l : Addr) (fits : Array Value) (fn : Nat) (tups : List (Addr × Obj)) (m : Str → Option Value) (news : List (Addr × Obj)) (ps : Array Value), xv = .ref l ∧ (l, listOf fits fn) ∈ news ∧ FilesAre fits.toList tups fs ∧ (∀ p ∈ tups, p ∈ news) ∧ fs.length ≤ 1000 ∧
      Fr h₀ env.locals s₁.heap m ∧ News h₀ env.locals s₁.heap news ∧ (763, tabO ps) ∈ news ∧ GoodTab ps ∧ AllBare s₁.gens ∧
      (∀ (C : Addr) (x : Str) (bt : Int) (tx tb : Tok) (b₃ : Heap) (s₃ : Shared) (m₃ : Str → Option Value) (ps : Array Value) (rest : List (Addr × Obj)) (E' : Value → Shared → Prop), (x, bt) ∈ fs → m₃ a = some (.str x tx) → m₃ b = some (.int bt tb) → (∀ b o, b ≠ 763 → s₁.heap.get? b = some o → b₃.get? b = some o) → Fr b₃ C s₃.heap m₃ →
        News b₃ C s₃.heap ((763, tabO ps) :: rest) → GoodTab ps → AllBare s₃.gens → (∀ p ∈ rest, p.1 ≠ 763) → (∀ b o, s₃.heap.get? b = some o → b = C ∨ b = 763 ∨ b₃.get? b = some o ∨ (b, o) ∈ rest) →
        wpAny (model prog w) A (eval elt (compEnvC scope cl C env)) (EltDoneT (fun h _ => G x bt h) 0 C s₃ m₃) E' s₃) ∧
      (∀ D s' ys nn ps', s'.os = s₁.os → AllBare s'.gens → GoodTab ps' → Fr h₀ env.locals s'.heap m → (∀ news', (∀ p ∈ news', (p ∈ news ∧ p.1 ≠ 763) ∨ p = (763, tabO ps') ∨ p = (D, listOf ys nn) ∨ (s₁.heap.get? p.1 = none ∧ s'.heap.get? p.1 = some p.2)) → News h₀ env.locals s'.heap news') →
        s₁.heap.objs.size ≤ D → ys.size = fs.length → (∀ (j : Nat) (v : Value), ys[j]? = some v → ∃ x bt fy, fs[j]? = some (x, bt) ∧ G x bt s'.heap v fy ∧ ∀ a ∈ fy, a ≠ D ∧ s₁.heap.get? a = none) → Q (.ref D) s')) E s)
    (hs : ∀ x, foldedSetIterable iter env x = pure x := by intro _; rfl) :
    wpAny (model prog w) A (eval (.ListComp elt [⟨.Tuple [.Name a pa, .Name b pb] kk tp, iter, [], 0⟩] scope pos) env) Q E s := by
  refine lct_core (h₀ := h₀) (fun h i y fy => ∃ x bt, fs[i]? = some (x, bt) ∧ G x bt h y fy) (fun h h' i y fy ⟨x, bt, e, g⟩ k => ⟨x, bt, e, hG _ _ _ _ _ _ g k⟩) (asg_pair hh hxa hxb hkind) hh hclos hcell hkind hnames (wpAny_mono h (fun xv s₁ h₁ => ?_) fun _ _ e => e) hs
  (have hZ1 := h₁; try clear h₁; (refine Mine.xa7_12 hZ1 ?_; clear hZ1; intro l fits fn tups m news ps eZ13 hl hfa hsub hlen Fm N ht hg hbare he hfin; subst eZ13))
  have hsz : fits.size = fs.length := by rw [← hfa.length, Array.length_toList]
  refine Mine.in5 l fits m news ps ⟨rfl, ⟨_, (N _ hl).1, rfl, _, rfl⟩, by rw [hsz]; exact Nat.le_trans hlen (by decide), Fm, N, ht, hg, hbare, fun i v hv => ?_, fun C i v b₃ s₃ m₃ ps3 rest E' hv hb hbk F3 N3 hg3 hb3 hr3 hall => ?_, fun D s' ys nn ps' ho hbs hg' F' hn hD hys hGs => ?_⟩
  · (have hZ21 := hfa.at (by simpa using hv); (refine Mine.xa6_3 hZ21 ?_; clear hZ21; intro T x tx bt tb n eZ24 _ hm; subst eZ24))
    exact Mine.in3 T _ _ ⟨rfl, _, (N _ (hsub _ hm)).1, rfl, _, rfl⟩
  · (have hZ31 := hfa.at (by simpa using hv); (refine Mine.xa6_3 hZ31 ?_; clear hZ31; intro T x tx bt tb n eZ34 e hm; subst eZ34))
    (have hZ41 := hb; try clear hb; (refine Mine.xa3_4 hZ41 ?_; clear hZ41; intro T' x' y' e1 hT e2 e3))
    cases e1
    (have hZ42 := hT; try clear hT; (obtain ⟨o, ho, _, n', hd⟩ := hZ42))
    have := (N _ (hsub _ hm)).1
    rw [ho] at this
    cases this
    cases hd
    refine wpAny_mono (he C x bt tx tb b₃ s₃ m₃ ps3 rest E' (List.mem_of_getElem? e) (e3 hab) e2 hbk F3 N3 hg3 hb3 hr3 hall) (fun y s₄ h₄ => ?_) fun _ _ e => e
    obtain ⟨⟨fy, g1, g2⟩, r⟩ := h₄
    exact ⟨⟨fy, ⟨x, bt, e, g1⟩, g2⟩, r⟩
  · refine hfin D s' ys nn ps' ho hbs hg' F' hn hD (hys.trans hsz) fun j v e => ?_
    (have hZ43 := hGs j v e; (refine Mine.xa1_2 hZ43 ?_; clear hZ43; intro fy eZ45 g2; (refine Mine.xa2_2 eZ45 ?_; clear eZ45; intro x bt e1 g1)))
    exact ⟨x, bt, fy, e1, g1, g2⟩
noncomputable def GAt (d : Str → Int → PyData) : Str → Int → Heap → Value → List Addr → Prop := fun x b _ y fy => fy = [] ∧ ∀ h', Reads h' y (d x b) []
theorem GAt.mono (d : Str → Int → PyData) : ∀ x b (h h' : Heap) y fy, GAt d x b h y fy → (∀ a ∈ fy, ∀ o, h.get? a = some o → h'.get? a = some o) → GAt d x b h' y fy := fun _ _ _ _ _ _ f _ => f
theorem readsFs {d : Str → Int → PyData} {h : Heap} : ∀ (vs : List Value) (fs : List (Str × Int)), vs.length = fs.length → (∀ (j : Nat) (v : Value), vs[j]? = some v → ∃ x b, fs[j]? = some (x, b) ∧ Reads h v (d x b) []) → ReadsAll h vs (fs.map fun p => d p.1 p.2) []
  | [], [], _, _ => .nil
  | v :: vs, f :: fs, hl, k => by
    (have hZ47 := k 0 v rfl; (refine Mine.xa2_2 hZ47 ?_; clear hZ47; intro x b e r))
    cases e
    exact ReadsAll.cons r (readsFs vs fs (Nat.succ.inj hl) fun j v e => k (j + 1) v e)
theorem readsF {d : Str → Int → PyData} {h h' : Heap} {ys : Array Value} {fs : List (Str × Int)} {P : Nat → Value → List Addr → Prop} (hl : ys.size = fs.length) (k : ∀ (j : Nat) (v : Value), ys[j]? = some v → ∃ x bt fy, fs[j]? = some (x, bt) ∧ GAt d x bt h v fy ∧ P j v fy) :
    ReadsAll h' ys.toList (fs.map fun p => d p.1 p.2) [] :=
  readsFs ys.toList fs (by rw [Array.length_toList]; exact hl) fun j v e => by
    (have hZ48 := k j v (by simpa using e); (refine Mine.xa3_3 hZ48 ?_; clear hZ48; intro x b fy e1 g _))
    exact ⟨x, b, e1, g.2 h'⟩
noncomputable def GTup (d : Str → Int → List PyData) : Str → Int → Heap → Value → List Addr → Prop := fun x b h y fy => ∃ T vs n, y = .ref T ∧ fy = [T] ∧ h.get? T = some { cls := .type "tuple", data := .seq vs n } ∧ ∀ h', ReadsAll h' vs.toList (d x b) []
theorem GTup.mono (d : Str → Int → List PyData) : ∀ x b (h h' : Heap) y fy, GTup d x b h y fy → (∀ a ∈ fy, ∀ o, h.get? a = some o → h'.get? a = some o) → GTup d x b h' y fy := fun _ _ _ _ _ _ ⟨T, vs, n, h1, h2, h3, h4⟩ k => ⟨T, vs, n, h1, h2, k T (h2 ▸ List.mem_singleton.mpr rfl) _ h3, h4⟩
theorem readsFT {d : Str → Int → List PyData} {h : Heap} : ∀ (vs : List Value) (fs : List (Str × Int)), vs.length = fs.length → (∀ (j : Nat) (v : Value), vs[j]? = some v → ∃ x b fy, fs[j]? = some (x, b) ∧ GTup d x b h v fy) → ReadsAll h vs (fs.map fun p => .tuple (d p.1 p.2)) []
  | [], [], _, _ => .nil
  | v :: vs, f :: fs, hl, k => by
    (have hZ49 := k 0 v rfl; (obtain ⟨x, b, fy, e, T, xs, n, rfl, _, hT, r⟩ := hZ49))
    cases e
    exact ReadsAll.cons (.tuple hT rfl rfl (r h)) (readsFT vs fs (Nat.succ.inj hl) fun j v e => k (j + 1) v e)
theorem strs_of_reads {h : Heap} : ∀ {vs : List Value} {xs : List Str}, ReadsAll h vs (xs.map PyData.str) [] → StrsAre vs xs := by
  intro vs
  induction vs with
  | nil =>
    intro xs r
    cases xs with
    | nil => exact .nil
    | cons x xs => generalize hq : ((x :: xs).map PyData.str) = q at r; cases r; cases hq
  | cons v vs ih =>
    intro xs r
    cases xs with
    | nil => generalize hq : ((([] : List Str)).map PyData.str) = q at r; generalize hz : ([] : List Addr) = z at r; cases r; cases hq
    | cons x xs =>
      generalize hq : ((x :: xs).map PyData.str) = q at r
      generalize hz : ([] : List Addr) = z at r
      cases r with
      | cons r1 r2 =>
        rw [List.map_cons] at hq
        injection hq with q1 q2
        subst q1 q2
        obtain ⟨z1, z2⟩ := List.append_eq_nil_iff.mp hz.symm
        subst z1 z2
        cases r1 with
        | str _ t => exact .cons _ _ (ih r2)
theorem ints_of_reads {h : Heap} : ∀ {vs : List Value} {xs : List Int}, ReadsAll h vs (xs.map PyData.int) [] → IntsAre vs xs := by
  intro vs
  induction vs with
  | nil =>
    intro xs r
    cases xs with
    | nil => exact .nil
    | cons x xs => generalize hq : ((x :: xs).map PyData.int) = q at r; cases r; cases hq
  | cons v vs ih =>
    intro xs r
    cases xs with
    | nil => generalize hq : ((([] : List Int)).map PyData.int) = q at r; generalize hz : ([] : List Addr) = z at r; cases r; cases hq
    | cons x xs =>
      generalize hq : ((x :: xs).map PyData.int) = q at r
      generalize hz : ([] : List Addr) = z at r
      cases r with
      | cons r1 r2 =>
        rw [List.map_cons] at hq
        injection hq with q1 q2
        subst q1 q2
        obtain ⟨z1, z2⟩ := List.append_eq_nil_iff.mp hz.symm
        subst z1 z2
        cases r1 with
        | int _ t => exact .cons _ _ (ih r2)
theorem reads_of_strs {h : Heap} : ∀ {vs : List Value} {xs : List Str}, StrsAre vs xs → ReadsAll h vs (xs.map PyData.str) []
  | _, _, .nil => .nil
  | _, _, .cons m t r => ReadsAll.cons (.str m t) (reads_of_strs r)
end
end Mine
end
section
open PySem PySem.W PyProof.Rows
set_option maxRecDepth 100000
set_option maxHeartbeats 8000000
set_option linter.unusedVariables false
namespace Mine
theorem readsAll_len {h : Heap} : ∀ {vs : List Value} {xs : List PyData} {as : List Addr}, ReadsAll h vs xs as → vs.length = xs.length
  | _, _, _, .nil => rfl
  | _, _, _, .cons _ r => congrArg (· + 1) (readsAll_len r)
theorem readsAll_app {h : Heap} : ∀ {vs ws : List Value} {xs ys : List PyData}, ReadsAll h vs xs [] → ReadsAll h ws ys [] → ReadsAll h (vs ++ ws) (xs ++ ys) [] := by
  intro vs
  induction vs with
  | nil =>
    intro ws xs ys r1 r2
    generalize hz : ([] : List Addr) = z at r1
    cases r1
    exact r2
  | cons v vs ih =>
    intro ws xs ys r1 r2
    generalize hz : ([] : List Addr) = z at r1
    cases r1 with
    | cons a b =>
      obtain ⟨z1, z2⟩ := List.append_eq_nil_iff.mp hz.symm
      subst z1 z2
      exact ReadsAll.cons a (ih b r2)
section
variable {prog : Program} {w : World} {A : Around} {E : Value → Shared → Prop} {env : Env} {s : Shared} {h₀ : Heap}
noncomputable def LoopRule (prog : Program) (w : World) (A : Around) (e target : Expr) (TB : Value → Env → (Shared → Prop) → (Value → Shared → Prop) → Shared → Prop) : Prop :=
  ∀ (it acc : Value) (env' : Env) (R : Result → Shared → Prop) (I : Nat → Shared → Prop) (s : Shared), (∀ n s, I n s → wpAny (model prog w) A (pyNext it) (fun r s₁ => match r with
      | none => R (.ok .next) s₁
      | some v => wpAny (model prog w) A (letOwnedTupleGo target it v) (fun _ s₀ => wpAny (model prog w) A (assign target env' v) (fun _ s₂ =>
          TB acc env' (fun s₅ => ∃ m, m < n ∧ I m s₅) (notedBy (model prog w) A env' fun e s' => R (.error e) s') s₂)
          (notedBy (model prog w) A env' fun e s' => R (.error e) s') s₀) (notedBy (model prog w) A env' fun e s' => R (.error e) s') s₁) (notedBy (model prog w) A env' fun e s' => R (.error e) s') s) →
    ∀ (n : Nat), I n s → codeAny (model prog w) A (.compLoop e 0 it acc env') R s
theorem gc_eval {elt target iter : Expr} {ifs : List Expr} {more : List Comprehension} {scope : Scope} {cl : List (Str × Addr)} {pos : Pos} {Q : Value → Shared → Prop} {TB : Value → Env → (Shared → Prop) → (Value → Shared → Prop) → Shared → Prop}
    (hrule : LoopRule prog w A (.ListComp elt (⟨target, iter, ifs, 0⟩ :: more) scope pos) target TB) (d : Nat → List PyData)
    {Bd : Heap → Value → (Str → Option Value) → Prop} {itemOk : Heap → Value → Prop}
    (hasg : ∀ C I l i v (h₁ : Heap) (s : Shared) m (Q : Unit → Shared → Prop) (E' : Value → Shared → Prop), itemOk h₁ v → (∀ b o, h₁.get? b = some o → o.cls = .type "tuple" → s.heap.get? b = some o) → s.heap.IsListIter I l i → s.heap.Ns C m →
      (∀ h' tk m', h'.Ns C m' → Bd h₁ v m' → (∀ b o, b ≠ C → s.heap.get? b = some o → h'.get? b = some o) → Q () { s with heap := h', toks := tk }) →
      wpAny (model prog w) A (letOwnedTupleGo target (.ref I) v) (fun _ s₁ => wpAny (model prog w) A (assign target (compEnvC scope cl C env) v) Q E' s₁) E' s)
    (hh : A.handled = none) (hclos : closureFor scope env = pure cl) (hcell : ∀ y ∈ scope.names, y.2 ≠ .cell) (hkind : scope.kind = .function)
    (hnames : ∀ y ∈ scope.names, y.2 = .local → scope.names.lookup y.1 = some .local)
    (h : wpAny (model prog w) A (eval iter env) (Stop fun xv s₁ => ∃ (l : Addr) (items : Array Value) (m : Str → Option Value) (news : List (Addr × Obj)) (ps : Array Value), xv = .ref l ∧ s₁.heap.IsList l items ∧ Fr h₀ env.locals s₁.heap m ∧ News h₀ env.locals s₁.heap news ∧ (763, tabO ps) ∈ news ∧ GoodTab ps ∧ AllBare s₁.gens ∧
      (∀ (i : Nat) (v : Value), items[i]? = some v → itemOk s₁.heap v) ∧
      (∀ (C D : Addr) (i : Nat) (v : Value) (b₃ : Heap) (s₃ : Shared) (m₃ : Str → Option Value) (ps3 : Array Value) (rest : List (Addr × Obj)) (ys : Array Value) (c : Nat) (E' : Value → Shared → Prop) (P : Shared → Prop), items[i]? = some v → Bd s₁.heap v m₃ → (∀ b o, b ≠ 763 → s₁.heap.get? b = some o → b₃.get? b = some o) →
        Fr b₃ C s₃.heap m₃ → News b₃ C s₃.heap ((D, listOf ys c) :: (763, tabO ps3) :: rest) → GoodTab ps3 → AllBare s₃.gens → (∀ p ∈ rest, p.1 ≠ 763 ∧ p.1 ≠ D) → @LT.lt Nat _ 763 D → ys.size = ((List.range i).flatMap d).length → (∀ b o, s₃.heap.get? b = some o → b = C ∨ b = D ∨ b = 763 ∨ b₃.get? b = some o ∨ (b, o) ∈ rest) →
        (∀ s₄ zs c' m', (∀ h', ReadsAll h' zs (d i) []) → s₄.heap.get? D = some (listOf (ys ++ zs.toArray) c') → (∀ b o, b ≠ C → b ≠ 763 → b ≠ D → s₃.heap.get? b = some o → s₄.heap.get? b = some o) → s₄.heap.Ns C m' → TabJ s₄ → s₄.os = s₃.os → P s₄) →
        TB (.ref D) (compEnvC scope cl C env) P E' s₃) ∧
      (∀ D s' ys nn ps', s'.os = s₁.os → AllBare s'.gens → GoodTab ps' → Fr h₀ env.locals s'.heap m → (∀ news', (∀ p ∈ news', (p ∈ news ∧ p.1 ≠ 763) ∨ p = (763, tabO ps') ∨ p = (D, listOf ys nn) ∨ (s₁.heap.get? p.1 = none ∧ s'.heap.get? p.1 = some p.2)) → News h₀ env.locals s'.heap news') →
        s₁.heap.objs.size ≤ D → (∀ h', ReadsAll h' ys.toList ((List.range items.size).flatMap d) []) → Q (.ref D) s')) E s)
    (hs : ∀ x, foldedSetIterable iter env x = pure x := by intro _; rfl) :
    wpAny (model prog w) A (eval (.ListComp elt (⟨target, iter, ifs, 0⟩ :: more) scope pos) env) Q E s := by
  rw [eval_ListComp]
  refine wpAny_comprehension_free (use := none) rfl hs hclos hkind hnames (wpAny_mono h (fun xv s₁ h₁ => ?_) fun _ _ e => e)
  (have hZ1 := h₁; try clear h₁; (refine Mine.xa5_10 hZ1 ?_; clear hZ1; intro l items m news ps eZ11 hl Fm N ht hg hbare hio helt hfin; subst eZ11))
  have ht1 := (N _ ht).1
  have h763 : 763 < s₁.heap.objs.size := Heap.lt_size ht1
  have hl7 : l ≠ 763 := fun e => by
    (have hZ17 := hl; try clear hl; (refine Mine.xa1_3 hZ17 ?_; clear hZ17; intro o ho hc _))
    rw [e] at ho
    rw [show s₁.heap.get? 763 = some (tabO ps) from ht1] at ho
    cases ho
    cases hc
  have hlt : l < s₁.heap.objs.size := by obtain ⟨_, e, _⟩ := hl; exact Heap.lt_size e
  refine wpAny_pyIter_list hl ?_
  generalize hIt : s₁.heap.objs.size = It at *
  have itE : (s₁.heap.push { cls := .type "list_iterator", data := .fields #[.ref l, .int 0 0] }).IsListIter It l 0 := ⟨_, hIt ▸ Heap.get?_push_size _ rfl, rfl, rfl⟩
  have hz2 : (s₁.heap.push { cls := .type "list_iterator", data := .fields #[.ref l, .int 0 0] }).objs.size = It + 1 := by rw [Heap.size_push, hIt]
  have up1 : ∀ b o, s₁.heap.get? b = some o → (s₁.heap.push { cls := .type "list_iterator", data := .fields #[.ref l, .int 0 0] }).get? b = some o := fun b o e => Heap.get?_push_of_some _ e
  generalize hH1 : s₁.heap.push { cls := .type "list_iterator", data := .fields #[.ref l, .int 0 0] } = H1 at *
  refine wpAny_newObj_type (wpAny_newFunctionEnv hcell (by intro y hy; simp at hy) (fun h₁ hns₁ hsb₁ => ?_) hkind)
  dsimp only at hns₁ hsb₁ ⊢
  rw [hz2] 
  have up2 : ∀ b o, H1.get? b = some o → (H1.push { cls := .type "list", dict := none, data := .seq ([] : List Value).toArray }).get? b = some o := fun b o e => Heap.get?_push_of_some _ e
  have hz3 : (H1.push { cls := .type "list", dict := none, data := .seq ([] : List Value).toArray }).objs.size = It + 2 := by rw [Heap.size_push, hz2]
  have hD0 : (H1.push { cls := .type "list", dict := none, data := .seq ([] : List Value).toArray }).get? (It + 1) = some (listOf #[] 0) := by rw [← hz2]; exact Heap.get?_push_size _ rfl
  generalize hH2 : H1.push { cls := .type "list", dict := none, data := .seq ([] : List Value).toArray } = H2 at *
  rw [hz3] at hns₁ hsb₁ ⊢
  -- the addresses: the iterator It, the list It + 1, the locals It + 2
  have old : ∀ b o, s₁.heap.get? b = some o → h₁.get? b = some o := fun b o e => hsb₁.extBut b o (by have := Heap.lt_size e; rw [hIt] at this; exact Nat.ne_of_lt (Nat.lt_of_lt_of_le this (Nat.le_add_right _ _))) (Heap.get?_push_of_some _ (up2 _ _ (up1 _ _ e)))
  have hD1 : h₁.get? (It + 1) = some (listOf #[] 0) := hsb₁.extBut _ _ (Nat.ne_of_lt (Nat.lt_succ_self _)) (Heap.get?_push_of_some _ hD0)
  have hI1 : h₁.IsListIter It l 0 := itE.at fun o e => hsb₁.extBut _ _ (Nat.ne_of_lt (Nat.lt_add_of_pos_right (by decide))) (Heap.get?_push_of_some _ (up2 _ _ e))
  have ltI : ∀ {b : Addr} {o}, s₁.heap.get? b = some o → b < It := fun e => hIt ▸ Heap.lt_size e
  have loop : ∀ s₃ : Shared, s₃ = { s₁ with heap := h₁, toks := s₁.toks + ([] : List (Str × Value)).length } →
      codeAny (model prog w) A (.compLoop (.ListComp elt (⟨target, iter, ifs, 0⟩ :: more) scope pos) 0 (.ref It) (.ref (It + 1)) (compEnvC scope cl (It + 2) env))
        (compPost (model prog w) A E none Q (.ref (It + 1)) (It + 2)) s₃ := by
    rintro s₃ rfl
    refine hrule (.ref It) (.ref (It + 1)) (compEnvC scope cl (It + 2) env) _
      (fun k s' => ∃ i m' ys c, i ≤ items.size ∧ k = items.size + 1 - i ∧ s'.heap.IsListIter It l i ∧ s'.heap.get? (It + 1) = some (listOf ys c) ∧ s'.heap.Ns (It + 2) m' ∧ (∀ h', ReadsAll h' ys.toList ((List.range i).flatMap d) []) ∧
        (∀ b o, b ≠ 763 → s₁.heap.get? b = some o → s'.heap.get? b = some o) ∧ TabJ s' ∧ s'.os = s₁.os) _ ?_ (items.size + 1)
      ⟨0, _, #[], 0, Nat.zero_le _, rfl, hI1, hD1, hns₁, fun _ => .nil, fun b o _ e => old b o e, ⟨⟨ps, hg, old _ _ ht1⟩, hbare⟩, rfl⟩
    (intro k; intro s'; intro hZ18; (refine Mine.xa4_9 hZ18 ?_; clear hZ18; intro i m' ys c hi eZ37 hit hD hn' hrd hk eZ38 hos; subst eZ37; (refine Mine.xa0_2 eZ38 ?_; clear eZ38; intro eZ40 hb3; (refine Mine.xa1_2 eZ40 ?_; clear eZ40; intro ps3 hg3 ht3))))
    have hl' : s'.heap.IsList l items := by obtain ⟨o, e, r⟩ := hl; exact ⟨o, hk _ _ hl7 e, r⟩
    by_cases hlt : i < items.size
    · refine wpAny_pyNext_list_item hit hl' (x := items[i]) (by simp [hlt]) fun h₂ hit₂ hs₂ => ?_
      have hv : items[i]? = some items[i] := by simp [hlt]
      have k2 : ∀ b o, b ≠ It → s'.heap.get? b = some o → h₂.get? b = some o := fun b o hb e => hs₂.extBut b o hb e
      refine hasg (It + 2) It l (i + 1) items[i] s₁.heap { s' with heap := h₂ } m' _ _ (hio i _ hv) (fun b o e hc => k2 b o (Nat.ne_of_lt (ltI e)) (hk b o (fun q => ?_) e)) hit₂ (hn'.at' fun o e => k2 _ o (Nat.ne_of_gt (Nat.lt_add_of_pos_right (by decide))) e) fun h₃ tk₃ m₃ hn₃ hBd hk₃ => ?_
      · rw [q, show s₁.heap.get? 763 = some (tabO ps) from ht1] at e
        cases e
        cases hc
      · have k3 : ∀ b o, b ≠ It → b ≠ It + 2 → s'.heap.get? b = some o → h₃.get? b = some o := fun b o h1 h2 e => hk₃ b o h2 (k2 b o h1 e)
        have hD3 : h₃.get? (It + 1) = some (listOf ys c) := k3 _ _ (Nat.ne_of_gt (Nat.lt_succ_self _)) (Nat.ne_of_lt (Nat.lt_succ_self _)) hD
        have h7I : 763 < It := h763
        have ht33 : h₃.get? 763 = some (tabO ps3) := k3 _ _ (Nat.ne_of_lt h7I) (Nat.ne_of_lt (Nat.lt_of_lt_of_le h7I (Nat.le_add_right _ _))) ht3
        have hit3 : h₃.IsListIter It l (i + 1) := hit₂.at fun o e => hk₃ _ o (Nat.ne_of_lt (Nat.lt_add_of_pos_right (by decide))) e
        (have hZ57 := rest_of h₃ (It + 2); (refine Mine.xa1_2 hZ57 ?_; clear hZ57; intro rest hr1 hr2))
        have hb0 : ∀ b o, (hideAll (below h₃ (It + 2)) [763, It + 1]).get? b = some o → b < It + 2 ∧ b ≠ 763 ∧ b ≠ It + 1 ∧ h₃.get? b = some o := fun b o e => by
          have h1 : b ∉ [763, It + 1] := fun q => by rw [hideAll_none _ q] at e; cases e
          have e2 := of_hideAll _ e
          rw [below_get] at e2
          by_cases h : b < It + 2
          · rw [if_pos h] at e2; exact ⟨h, fun q => h1 (q ▸ .head _), fun q => h1 (q ▸ .tail _ (.head _)), e2⟩
          · rw [if_neg h] at e2; cases e2
        have hb1 : ∀ b o, b < It + 2 → b ≠ 763 → b ≠ It + 1 → h₃.get? b = some o → (hideAll (below h₃ (It + 2)) [763, It + 1]).get? b = some o := fun b o h1 h2 h3 e =>
          hideAll_get _ (by rw [below_get, if_pos h1]; exact e) (by simpa using ⟨h2, h3⟩)
        refine helt (It + 2) (It + 1) i items[i] (hideAll (below h₃ (It + 2)) [763, It + 1]) { s' with heap := h₃, toks := tk₃ } m₃ ps3 rest ys c _ _ hv hBd (fun b o h1 e => ?_) ⟨hn₃, fun b o e => (hb0 b o e).2.2.2, by rw [hideAll_size]; exact below_size _ _⟩ (fun p hp => ?_) hg3 hb3 (fun p hp => ⟨?_, ?_⟩) (Nat.lt_succ_of_lt h7I) ?_ (fun b o e => ?_) (fun s₄ zs c' m₄ hz hD4 hk4 hn4 hj4 hos4 => ?_)
        · have hbI := ltI e
          exact hb1 b o (Nat.lt_of_lt_of_le hbI (Nat.le_add_right _ _)) h1 (Nat.ne_of_lt (Nat.lt_succ_of_lt hbI)) (k3 b o (Nat.ne_of_lt hbI) (Nat.ne_of_lt (Nat.lt_of_lt_of_le hbI (Nat.le_add_right _ _))) (hk b o h1 e))
        · rcases List.mem_cons.mp hp with rfl | hp
          · exact ⟨hD3, Nat.ne_of_lt (Nat.lt_succ_self _), hideAll_none _ (.tail _ (.head _))⟩
          · rcases List.mem_cons.mp hp with rfl | hp
            · exact ⟨ht33, Nat.ne_of_lt (Nat.lt_of_lt_of_le h7I (Nat.le_add_right _ _)), hideAll_none _ (.head _)⟩
            · (first | refine Mine.in2 ((hr1 p hp).1) (Nat.ne_of_gt (hr1 p hp).2) (?_) | refine ⟨(hr1 p hp).1, Nat.ne_of_gt (hr1 p hp).2, ?_⟩)
              cases q : (hideAll (below h₃ (It + 2)) [763, It + 1]).get? p.1 with
              | none => rfl
              | some o => exact absurd (hb0 _ _ q).1 (Nat.not_lt.mpr (Nat.le_of_lt (hr1 p hp).2))
        · exact Nat.ne_of_gt (Nat.lt_trans (Nat.lt_of_lt_of_le h7I (Nat.le_add_right _ _)) (hr1 p hp).2)
        · exact Nat.ne_of_gt (Nat.lt_trans (Nat.lt_succ_self _) (hr1 p hp).2)
        · have e1 := readsAll_len (hrd h₃)
          rw [Array.length_toList] at e1
          exact e1
        · by_cases h7 : b = 763
          · exact .inr (.inr (.inl h7))
          · by_cases hDD : b = It + 1
            · exact .inr (.inl hDD)
            · rcases Nat.lt_trichotomy b (It + 2) with h | h | h
              · exact .inr (.inr (.inr (.inl (hb1 b o h h7 hDD e))))
              · exact .inl h
              · exact .inr (.inr (.inr (.inr (hr2 b o e h))))
        · refine ⟨items.size + 1 - (i + 1), by (first | lia | omega), i + 1, m₄, ys ++ zs.toArray, c', hlt, rfl, hit3.at fun o e => hk4 _ o (Nat.ne_of_lt (Nat.lt_add_of_pos_right (by decide))) (Nat.ne_of_gt h7I) (Nat.ne_of_lt (Nat.lt_succ_self _)) e, hD4, hn4, fun h' => ?_, fun b o h1 e => ?_, hj4, hos4.trans hos⟩
          · rw [List.range_succ, List.flatMap_append, List.flatMap_singleton]
            have := readsAll_app (hrd h') (hz h')
            simpa using this
          · have hbI := ltI e
            exact hk4 b o (Nat.ne_of_lt (Nat.lt_of_lt_of_le hbI (Nat.le_add_right _ _))) h1 (Nat.ne_of_lt (Nat.lt_succ_of_lt hbI)) (k3 b o (Nat.ne_of_lt hbI) (Nat.ne_of_lt (Nat.lt_of_lt_of_le hbI (Nat.le_add_right _ _))) (hk b o h1 e))
    · obtain rfl : i = items.size := Nat.le_antisymm hi (Nat.not_lt.mp hlt)
      refine wpAny_pyNext_list_end hh hit hl' (by simp) fun h₂ he₂ => ?_
      (first | refine Mine.in2 m' (hn'.at' fun o e => he₂ _ o (Nat.ne_of_gt (Nat.lt_add_of_pos_right (by decide))) e) (fun h'' hs'' => ?_) | refine ⟨m', hn'.at' fun o e => he₂ _ o (Nat.ne_of_gt (Nat.lt_add_of_pos_right (by decide))) e, fun h'' hs'' => ?_⟩)
      have kE : ∀ b o, b ≠ It → b ≠ It + 2 → s'.heap.get? b = some o → h''.get? b = some o := fun b o h1 h2 e => hs''.extBut b o h2 (he₂ b o h1 e)
      have h7I : 763 < It := h763
      have kO : ∀ b o, b ≠ 763 → s₁.heap.get? b = some o → h''.get? b = some o := fun b o h1 e => kE b o (Nat.ne_of_lt (ltI e)) (Nat.ne_of_lt (Nat.lt_of_lt_of_le (ltI e) (Nat.le_add_right _ _))) (hk b o h1 e)
      have hL7 : env.locals ≠ 763 := fun q => (N _ ht).2.1 q.symm
      have hb₀ : ∀ b o, h₀.get? b = some o → b ≠ 763 := fun b o e q => by rw [q, (N _ ht).2.2] at e; cases e
      have hDe : h''.get? (It + 1) = some (listOf ys c) := kE _ _ (Nat.ne_of_gt (Nat.lt_succ_self _)) (Nat.ne_of_lt (Nat.lt_succ_self _)) hD
      have hte : h''.get? 763 = some (tabO ps3) := kE _ _ (Nat.ne_of_lt h7I) (Nat.ne_of_lt (Nat.lt_of_lt_of_le h7I (Nat.le_add_right _ _))) ht3
      have hLI : env.locals < It := hIt ▸ Fm.ns.lt
      refine hfin (It + 1) _ ys c ps3 hos hb3 hg3 ⟨Fm.ns.at' fun o e => kO _ o hL7 e, fun b o e => kO b o (hb₀ b o e) (Fm.keep b o e), Fm.above⟩ (fun news' hn p hp => ?_) (Nat.le_succ _) hrd
      rcases hn p hp with ⟨h1, h2⟩ | rfl | rfl | ⟨h1, h2⟩
      · exact ⟨kO _ _ h2 (N p h1).1, (N p h1).2⟩
      · exact ⟨hte, (N _ ht).2⟩
      · exact ⟨hDe, Nat.ne_of_gt (Nat.lt_succ_of_lt hLI), Heap.get?_none_of_le (Nat.le_trans Fm.above (Nat.le_of_lt (Nat.lt_succ_of_lt hLI)))⟩
      · refine ⟨h2, fun q => ?_, ?_⟩
        · (have hZ58 := Fm.ns; (refine Mine.xa3_2 hZ58 ?_; clear hZ58; intro oL _ _ eL _))
          rw [q, eL] at h1; cases h1
        · cases q : h₀.get? p.1 with
          | none => rfl
          | some o => rw [Fm.keep _ _ q] at h1; cases h1
  refine codeAny_compStart_list (loop _ rfl) ?_
  refine wpAny_pyIter_listiter hI1 ?_
  exact loop _ rfl
end
end Mine
end
section
open PySem PySem.W PyProof.Rows
set_option maxRecDepth 100000
set_option maxHeartbeats 8000000
set_option linter.unusedVariables false
namespace Mine
section
variable {prog : Program} {w : World} {A : Around} {E : Value → Shared → Prop} {env : Env} {s : Shared} {h₀ : Heap}
noncomputable def TBf (prog : Program) (w : World) (A : Around) (c : Expr) : Value → Env → (Shared → Prop) → (Value → Shared → Prop) → Shared → Prop := fun _ env P E s => wpAny (model prog w) A (isTrue c env (eval c env)) (fun ok s₃ => ok = false ∧ P s₃) E s
theorem rule_filter {elt target iter c : Expr} {scope : Scope} {pos : Pos} : LoopRule prog w A (.ListComp elt (⟨target, iter, [c], 0⟩ :: []) scope pos) target (TBf prog w A c) := by
  intro it acc env' R I s turn n h
  refine codeAny_loop rfl I (fun n s hI => ?_) n h
  show wpAny _ A ((compTurn (.ListComp elt [⟨target, iter, [c], 0⟩] scope pos) 0 it acc env').onRaise (fun x => do noteFrame x env'; theTreesLotGoes x)) _ _ s
  refine wpAny_noted ?_
  rw [compTurn_list]
  refine wpAny_bind (wpAny_standAt (wpAny_bind (wpAny_mono (turn n s hI) (fun r s₁ h₁ => ?_) fun _ _ h' => h')))
  cases r with
  | none => exact wpAny_pure h₁
  | some v =>
    refine wpAny_bind (wpAny_mono h₁ (fun _ s₀ h₀' => ?_) fun _ _ h' => h')
    refine wpAny_bind (wpAny_mono h₀' (fun _ s₂ h₂ => ?_) fun _ _ h' => h')
    refine wpAny_bind (wpAny_tests_one (wpAny_mono h₂ (fun ok s₃ h₃ => ?_) fun _ _ h' => h'))
    obtain ⟨rfl, h₃⟩ := h₃
    exact wpAny_pure ⟨rfl, h₃⟩
noncomputable abbrev nestE (elt target iter t2 it2 : Expr) (scope : Scope) (pos : Pos) : Expr := .ListComp elt [⟨target, iter, [], 0⟩, ⟨t2, it2, [], 0⟩] scope pos
theorem compTurn_nest (elt target iter t2 it2 : Expr) (scope : Scope) (pos : Pos) (it acc : Value) (env : Env) :
    compTurn (nestE elt target iter t2 it2 scope pos) 0 it acc env = (do
      standAt iter.pos
      match ← pyNext it with
      | none => pure (.done .next)
      | some v =>
        letOwnedTupleGo target it v
        assign target env v
        let mut ok := true
        for c in ([] : List Expr) do
          if ok then ok ← isTrue c env (eval c env)
        if ok then
          let x ← eval it2 env
          standAt it2.pos
          let x ← foldedSetIterable it2 env x
          let _ ← runOwn (.compStart (nestE elt target iter t2 it2 scope pos) 1 (← holding [x] (pyIter x)) acc env) env
        again (.compLoop (nestE elt target iter t2 it2 scope pos) 0 it acc env)) := by rfl
theorem compTurn_inner (elt target iter t2 it2 : Expr) (scope : Scope) (pos : Pos) (it acc : Value) (env : Env) :
    compTurn (nestE elt target iter t2 it2 scope pos) 1 it acc env = (do
      standAt it2.pos
      match ← pyNext it with
      | none => pure (.done .next)
      | some v =>
        letOwnedTupleGo t2 it v
        assign t2 env v
        let mut ok := true
        for c in ([] : List Expr) do
          if ok then ok ← isTrue c env (eval c env)
        if ok then
          (do let _ ← call (.builtin "list.append") [acc, ← eval elt env])
        again (.compLoop (nestE elt target iter t2 it2 scope pos) 1 it acc env)) := by rfl
theorem inner_two {target iter it2 : Expr} {y : Str} {py pe : Pos} {scope : Scope} {pos : Pos} {R : Result → Shared → Prop} {I T D : Addr} {v1 v2 : Value} {ys : Array Value} {c : Nat} {m : Str → Option Value}
    (hh : A.handled = none) (hy : env.kindOf y = some .local) (hk : env.scope.kind = .function) (hp : (env.scope.kind == .class || (env.scope.kind == .module && env.locals != env.globals)) = false) (hdb : (y == ("__debug__" : Str)) = false)
    (hit : s.heap.IsTupleIter I T 0) (hT : s.heap.IsTuple T #[v1, v2]) (hD : s.heap.get? D = some (listOf ys c)) (hn : s.heap.Ns env.locals m) (hDC : D ≠ env.locals) (hDI : D ≠ I) (hIC : I ≠ env.locals) (hTI : T ≠ I) (hTD : T ≠ D) (hTC : T ≠ env.locals) (hsz : ys.size ≤ 1000)
    (fin : ∀ h' tk c' m', (∀ b o, b ≠ D → b ≠ env.locals → b ≠ I → s.heap.get? b = some o → h'.get? b = some o) → h'.get? D = some (listOf (ys ++ #[v1, v2]) c') → h'.Ns env.locals m' → R (.ok .next) { s with heap := h', toks := tk }) :
    codeAny (model prog w) A (.compLoop (nestE (.Name y pe) target iter (.Name y py) it2 scope pos) 1 (.ref I) (.ref D) env) R s := by
  have hs1000 : ∀ k : Nat, k ≤ 1002 → k ≤ sizeLine := fun k h => Nat.le_trans h (by decide)
  refine codeAny_loop rfl (fun k s' => ∃ j m' zs c' h' tk, j ≤ 2 ∧ k = 3 - j ∧ s' = { s with heap := h', toks := tk } ∧ zs = (#[v1, v2].extract 0 j) ∧ h'.IsTupleIter I T j ∧ h'.get? D = some (listOf (ys ++ zs) c') ∧ h'.Ns env.locals m' ∧ (∀ b o, b ≠ D → b ≠ env.locals → b ≠ I → s.heap.get? b = some o → h'.get? b = some o)) (fun n s' hI => ?_) 3
    ⟨0, m, #[], c, s.heap, s.toks, by decide, rfl, rfl, by simp, hit, by simpa using hD, hn, fun _ _ _ _ _ e => e⟩
  (have hZ1 := hI; try clear hI; (refine Mine.xa6_8 hZ1 ?_; clear hZ1; intro j m' zs c' h' tk hj eZ23 eZ24 eZ25 hit' hD' hn' hk'; subst eZ23; subst eZ24; subst eZ25))
  have hT' : h'.IsTuple T #[v1, v2] := by obtain ⟨o, e, r⟩ := hT; exact ⟨o, hk' _ _ hTD hTC hTI e, r⟩
  show wpAny _ A ((compTurn (nestE (.Name y pe) target iter (.Name y py) it2 scope pos) 1 (.ref I) (.ref D) env).onRaise (fun x => do noteFrame x env; theTreesLotGoes x)) _ _ _
  refine wpAny_noted ?_
  rw [compTurn_inner]
  refine wpAny_bind (wpAny_standAt (wpAny_bind ?_))
  by_cases hlt : j < 2
  · have hx : (#[v1, v2] : Array Value)[j]? = some ((#[v1, v2] : Array Value)[j]'hlt) := by simp
    refine wpAny_pyNext_tuple_item hit' hT' hx fun h₂ hit₂ hs₂ => ?_
    refine wpAny_bind (wpAny_pure ?_)
    refine wpAny_bind (wpAny_assign_Name (wpAny_storeName_local (env := env) hy (hn'.at' fun o e => hs₂.extBut _ o (Ne.symm hIC) e) (fun h₃ hn₃ hs₃ => ?_) hp))
    refine wpAny_bind (wpAny_tests_nil ?_)
    refine wpAny_bind (wpAny_bind (wpAny_Name (wpAny_loadName_local hk hy hn₃ (if_pos rfl) ?_) hdb))
    have hD3 : h₃.get? D = some (listOf (ys ++ (#[v1, v2].extract 0 j)) c') := hs₃.extBut _ _ hDC (hs₂.extBut _ _ hDI hD')
    have hzz : (ys ++ (#[v1, v2] : Array Value).extract 0 j).size ≤ 1002 := by
      rw [Array.size_append, Array.size_extract]
      have : min j 2 - 0 ≤ 2 := by (first | lia | omega)
      show ys.size + (min j 2 - 0) ≤ 1002
      (first | lia | omega)
    refine wpAny_bind (append_at (hsz := hs1000 _ hzz) hD3 fun h₄ hs₄ ho₄ => wpAny_pure (wpAny_pure ?_))
    have e5 : (ys ++ (#[v1, v2] : Array Value).extract 0 j).push ((#[v1, v2] : Array Value)[j]'hlt) = ys ++ (#[v1, v2] : Array Value).extract 0 (j + 1) := by
      have hj2 : j = 0 ∨ j = 1 := by (first | lia | omega)
      rcases hj2 with rfl | rfl
      · apply Array.toList_inj.mp; simp
      · apply Array.toList_inj.mp; simp
    obtain ⟨c5, ho5⟩ : ∃ c5, h₄.get? D = some (listOf (ys ++ (#[v1, v2] : Array Value).extract 0 (j + 1)) c5) := ⟨_, ho₄.trans (congrArg (fun z => some (listOf z _)) e5)⟩
    refine ⟨rfl, 3 - (j + 1), by (first | lia | omega), j + 1, _, _, c5, h₄, _, hlt, rfl, rfl, rfl, (hit₂.at fun o e => hs₃.extBut _ o hIC e).at fun o e => hs₄.extBut _ o (Ne.symm hDI) e, ho5, hn₃.sameBut hs₄ (Ne.symm hDC), ?_⟩
    intro b o h1 h2 h3 e
    exact hs₄.extBut _ _ h1 (hs₃.extBut _ _ h2 (hs₂.extBut _ _ h3 (hk' b o h1 h2 h3 e)))
  · obtain rfl : j = 2 := by (first | lia | omega)
    refine wpAny_pyNext_tuple_end hh hit' hT' (by simp) fun h₂ he₂ => ?_
    refine wpAny_pure (fin h₂ tk c' m' (fun b o h1 h2 h3 e => he₂ b o h3 (hk' b o h1 h2 h3 e)) ?_ (hn'.at' fun o e => he₂ _ o (Ne.symm hIC) e))
    have := he₂ _ _ hDI hD'
    simpa using this
theorem start_inner {elt target iter t2 it2 : Expr} {scope : Scope} {pos : Pos} {it acc : Value} {R : Result → Shared → Prop}
    (h0 : codeAny (model prog w) A (.compLoop (nestE elt target iter t2 it2 scope pos) 1 it acc env) R s)
    (h : wpAny (model prog w) A (pyIter it) (fun it' s' => codeAny (model prog w) A (.compLoop (nestE elt target iter t2 it2 scope pos) 1 it' acc env) R s') (notedBy (model prog w) A env fun x s' => R (.error x) s') s) :
    codeAny (model prog w) A (.compStart (nestE elt target iter t2 it2 scope pos) 1 it acc env) R s := by
  refine codeAny_of_tree ?_
  show wpAny _ _ ((compStart (nestE elt target iter t2 it2 scope pos) 1 it acc env).onRaise (fun x => do noteFrame x env; standAt theWindowsPlace)) _ _ s
  refine wpAny_notedAt ?_
  unfold compStart
  show wpAny _ _ (ask >>= _) _ _ s
  refine wpAny_bind (wpAny_askSetting (wpAny_ite ?_))
  split
  · first
      | exact wpAny_bind (wpAny_pure (wpAny_pure (And.intro rfl h0)))
      | exact wpAny_pure (And.intro rfl h0)
  · refine wpAny_bind (wpAny_rule ?_)
    show wpAny _ _ (standAt it2.pos >>= _) _ _ s
    exact wpAny_bind (wpAny_standAt (wpAny_bind (wpAny_mono h (fun it' s' h' => wpAny_pure (And.intro rfl h')) fun _ _ x => x)))
noncomputable def TBn (prog : Program) (w : World) (A : Around) (it2 : Expr) (y : Str) : Value → Env → (Shared → Prop) → (Value → Shared → Prop) → Shared → Prop := fun acc env P E s =>
  env.kindOf y = some .local ∧ env.scope.kind = .function ∧ (env.scope.kind == .class || (env.scope.kind == .module && env.locals != env.globals)) = false ∧
  wpAny (model prog w) A (eval it2 env) (Stop fun x s₃ => ∃ D ys c T v1 v2 m, acc = .ref D ∧ x = .ref T ∧ s₃.heap.IsTuple T #[v1, v2] ∧ s₃.heap.get? D = some (listOf ys c) ∧ s₃.heap.Ns env.locals m ∧ D ≠ env.locals ∧ T ≠ D ∧ T ≠ env.locals ∧ ys.size ≤ 1000 ∧
    (∀ h' tk c' m', (∀ b o, b ≠ D → b ≠ env.locals → s₃.heap.get? b = some o → h'.get? b = some o) → h'.get? D = some (listOf (ys ++ #[v1, v2]) c') → h'.Ns env.locals m' → P { s₃ with heap := h', toks := tk })) E s
theorem rule_nest {target iter it2 : Expr} {y : Str} {py pe : Pos} {scope : Scope} {pos : Pos} (hh : A.handled = none) (hdb : (y == ("__debug__" : Str)) = false) (hs2 : ∀ x env, foldedSetIterable it2 env x = pure x) :
    LoopRule prog w A (nestE (.Name y pe) target iter (.Name y py) it2 scope pos) target (TBn prog w A it2 y) := by
  intro it acc env' R I s turn n h
  refine codeAny_loop rfl I (fun n s hI => ?_) n h
  show wpAny _ A ((compTurn (nestE (.Name y pe) target iter (.Name y py) it2 scope pos) 0 it acc env').onRaise (fun x => do noteFrame x env'; theTreesLotGoes x)) _ _ s
  refine wpAny_noted ?_
  rw [compTurn_nest]
  refine wpAny_bind (wpAny_standAt (wpAny_bind (wpAny_mono (turn n s hI) (fun r s₁ h₁ => ?_) fun _ _ h' => h')))
  cases r with
  | none => exact wpAny_pure h₁
  | some v =>
    refine wpAny_bind (wpAny_mono h₁ (fun _ s₀ h₀' => ?_) fun _ _ h' => h')
    refine wpAny_bind (wpAny_mono h₀' (fun _ s₂ h₂ => ?_) fun _ _ h' => h')
    refine wpAny_bind (wpAny_tests_nil ?_)
    (have hZ44 := h₂; try clear h₂; (refine Mine.xa0_4 hZ44 ?_; clear hZ44; intro hy hk hp h₂))
    show wpAny _ A (eval it2 env' >>= _) _ _ _
    refine wpAny_bind (wpAny_mono h₂ (fun x s₃ h₃ => ?_) fun _ _ h' => h')
    (have hZ45 := h₃; try clear h₃; (refine Mine.xa7_10 hZ45 ?_; clear hZ45; intro D ys c T v1 v2 m eZ64 eZ65 hT hD hn hDC hTD hTC hsz fin; subst eZ64; subst eZ65))
    refine wpAny_bind (wpAny_standAt (wpAny_bind (wpAny_of_eq (hs2 _ _) (wpAny_bind (wpAny_holding (wpAny_pyIter_tuple hT ?_))))))
    refine wpAny_bind (wpAny_runOwn ?_)
    rw [Around.mark_none]
    have up : ∀ b o, s₃.heap.get? b = some o → (s₃.heap.push { cls := .type "tuple_iterator", data := .fields #[.ref T, .int 0 0] }).get? b = some o := fun b o e => Heap.get?_push_of_some _ e
    have lt : ∀ {b o}, s₃.heap.get? b = some o → b ≠ s₃.heap.objs.size := fun e => Nat.ne_of_lt (Heap.lt_size e)
    have hIt : (s₃.heap.push { cls := .type "tuple_iterator", data := .fields #[.ref T, .int 0 0] }).IsTupleIter s₃.heap.objs.size T 0 := ⟨_, Heap.get?_push_size _ rfl, rfl, rfl⟩
    have hTI : T ≠ s₃.heap.objs.size := by obtain ⟨o, e, _⟩ := hT; exact lt e
    have hCI : env'.locals ≠ s₃.heap.objs.size := Nat.ne_of_lt hn.lt
    have main := inner_two (prog := prog) (w := w) (A := A) (env := env') (s := { s₃ with heap := s₃.heap.push { cls := .type "tuple_iterator", data := .fields #[.ref T, .int 0 0] } }) (target := target) (iter := iter) (it2 := it2) (py := py) (pe := pe) (scope := scope) (pos := pos)
      (R := fun r s' => match r with
        | .ok f => wpAny (model prog w) A (again (.compLoop (nestE (.Name y pe) target iter (.Name y py) it2 scope pos) 0 it (.ref D) env')) (fun fin s' => match fin with | .done f => R (.ok f) s' | .again c' => c' = .compLoop (nestE (.Name y pe) target iter (.Name y py) it2 scope pos) 0 it (.ref D) env' ∧ ∃ m, m < n ∧ I m s') (notedBy (model prog w) A env' fun e s' => R (.error e) s') s'
        | .error e => cameBackBy (model prog w) A env' (notedBy (model prog w) A env' fun e s' => R (.error e) s') e s')
      hh hy hk hp hdb hIt (by obtain ⟨o, e, r⟩ := hT; exact ⟨o, up _ _ e, r⟩) (up _ _ hD) (hn.at' fun o e => up _ _ e) hDC (lt hD) (Ne.symm hCI) hTI hTD hTC hsz (fun h' tk c' m' k hD' hn' => ?_)
    · refine start_inner main ?_
      refine wpAny_pyIter_tupleiter hIt ?_
      exact main
    · exact wpAny_pure ⟨rfl, fin h' tk c' m' (fun b o h1 h2 e => k b o h1 h2 (lt e) (up b o e)) hD' hn'⟩
end
end Mine
end
section
open PySem PySem.W PyProof.Rows
set_option maxRecDepth 100000
set_option maxHeartbeats 8000000
set_option linter.unusedVariables false
namespace Mine
section
variable {prog : Program} {w : World} {A : Around} {E : Value → Shared → Prop} {env : Env} {s : Shared} {h₀ : Heap}
theorem lct_assign {elt iter : Expr} {x : Str} {px : Pos} {scope : Scope} {cl : List (Str × Addr)} {pos : Pos} {y : Str} {py : Pos} {spos : Pos} {Q : Flow → Shared → Prop} (F : Heap → Nat → Value → List Addr → Prop) (hF : ∀ (h h' : Heap) i y fy, F h i y fy → (∀ a ∈ fy, ∀ o, h.get? a = some o → h'.get? a = some o) → F h' i y fy)
    (hx : scope.names.lookup x = some .local) (hh : A.handled = none) (hclos : closureFor scope env = pure cl) (hcell : ∀ y ∈ scope.names, y.2 ≠ .cell) (hkind : scope.kind = .function)
    (hnames : ∀ y ∈ scope.names, y.2 = .local → scope.names.lookup y.1 = some .local)
    (hsw : swapsWith (.ListComp elt [⟨.Name x px, iter, [], 0⟩] scope pos) (some (.Name y py)) spos.line env = pure true)
    (hy : env.kindOf y = some .local) (hp : (env.scope.kind == .class || (env.scope.kind == .module && env.locals != env.globals)) = false)
    (h : wpAny (model prog w) A (eval iter env) (Stop fun xv s₁ => ∃ (l : Addr) (items : Array Value) (m : Str → Option Value) (news : List (Addr × Obj)) (ps : Array Value), xv = .ref l ∧ s₁.heap.IsList l items ∧ items.size ≤ sizeLine ∧ Fr h₀ env.locals s₁.heap m ∧ News h₀ env.locals s₁.heap news ∧ (763, tabO ps) ∈ news ∧ GoodTab ps ∧ AllBare s₁.gens ∧
      EltsT prog w A env scope cl elt (fun _ v m => m x = some v) F s₁ items ∧
      (∀ D s' ys nn ps', s'.os = s₁.os → AllBare s'.gens → GoodTab ps' → Fr h₀ env.locals s'.heap (fun z => if z = y then some (.ref D) else m z) → (∀ news', (∀ p ∈ news', (p ∈ news ∧ p.1 ≠ 763) ∨ p = (763, tabO ps') ∨ p = (D, listOf ys nn) ∨ (s₁.heap.get? p.1 = none ∧ s'.heap.get? p.1 = some p.2)) → News h₀ env.locals s'.heap news') →
        s₁.heap.objs.size ≤ D → ys.size = items.size → (∀ (j : Nat) (v : Value), ys[j]? = some v → ∃ fy, F s'.heap j v fy ∧ ∀ a ∈ fy, a ≠ D ∧ s₁.heap.get? a = none) → Q .next s')) E s)
    (hs : ∀ x, foldedSetIterable iter env x = pure x := by intro _; rfl) :
    wpAny (model prog w) A (exec (.Assign [.Name y py] (.ListComp elt [⟨.Name x px, iter, [], 0⟩] scope pos) spos) env) Q E s := by
  refine lc_assign (fun b => b = 763) False TabJ F hh hclos hcell hkind hnames (asg_name hx hkind) hsw hy hp (wpAny_mono h (fun xv s₁ h₁ => ?_) fun _ _ e => e) hs
  (have hZ1 := h₁; try clear h₁; (refine Mine.xa5_10 hZ1 ?_; clear hZ1; intro l items m news ps eZ11 hl hsz Fm N ht hg hbare he hfin; subst eZ11))
  have ht1 := (N _ ht).1
  have h763 := Heap.lt_size ht1
  have hl7 : l ≠ 763 := fun e => by
    (have hZ17 := hl; try clear hl; (refine Mine.xa1_3 hZ17 ?_; clear hZ17; intro o ho hc _))
    rw [e] at ho
    rw [show s₁.heap.get? 763 = some (tabO ps) from ht1] at ho
    cases ho
    cases hc
  have hL7 : env.locals ≠ 763 := fun q => (N _ ht).2.1 q.symm
  refine Mine.in2 l items ⟨rfl, hl, hsz, ⟨fun b hb => ⟨hb ▸ h763, hb ▸ fun e => hl7 e.symm⟩, fun a b e k j => ?_, fun a ⟨⟨p, _, e⟩, _⟩ b hb => ⟨_, hb ▸ e⟩⟩, fun b o hb e => ?_, ⟨⟨ps, hg, ht1⟩, hbare⟩, hF, fun _ _ _ => trivial, fun C i v s₃ m₃ E' hC hv hb hn hk hj _ => eltsT_up he h763 C i v s₃ m₃ E' hC hv hb hn hk hj, m, Fm.ns, fun b hb q => hL7 (q ▸ hb), fun D s' ys hD hlD hys hG hn hk hos' _ hj' => ?_⟩
  · obtain ⟨⟨p, q1, q2⟩, q3⟩ := j
    refine ⟨⟨p, q1, k _ _ rfl q2⟩, ?_⟩
    rw [show b.gens = a.gens from congrArg (fun z => z.1) e]
    exact q3
  · subst hb
    rw [show s₁.heap.get? 763 = some (tabO ps) from ht1] at e
    cases e
    exact fun q => by cases q
  · (have hZ18 := hlD; try clear hlD; (obtain ⟨o, ho, nn, rfl⟩ := hZ18))
    obtain ⟨⟨ps', hg', ht'⟩, hbare'⟩ := hj'
    have hLD : D ≠ env.locals := Nat.ne_of_gt (Nat.lt_of_lt_of_le Fm.ns.lt hD)
    have hb₀ : ∀ b o, h₀.get? b = some o → b ≠ 763 := fun b o e q => by rw [q, (N _ ht).2.2] at e; cases e
    have hbL : ∀ b o, h₀.get? b = some o → b ≠ env.locals := fun b o e => Nat.ne_of_lt (Nat.lt_of_lt_of_le (Heap.lt_size e) Fm.above)
    refine hfin D s' ys nn ps' hos' hbare' hg' ⟨hn, fun b o e => hk b o (hbL b o e) (hb₀ b o e) (Fm.keep b o e), Fm.above⟩ (fun news' hnn p hp => ?_) hD hys hG
    rcases hnn p hp with ⟨h1, h2⟩ | rfl | rfl | ⟨h1, h2⟩
    · exact ⟨hk _ _ (N p h1).2.1 h2 (N p h1).1, (N p h1).2⟩
    · exact ⟨ht', (N _ ht).2⟩
    · exact ⟨ho, hLD, Heap.get?_none_of_le (Nat.le_trans Fm.above (Nat.le_trans (Nat.le_of_lt Fm.ns.lt) hD))⟩
    · refine ⟨h2, fun q => ?_, ?_⟩
      · (have hZ23 := Fm.ns; (refine Mine.xa3_2 hZ23 ?_; clear hZ23; intro oL _ _ eL _))
        rw [q, eL] at h1; cases h1
      · cases q : h₀.get? p.1 with
        | none => rfl
        | some o => rw [Fm.keep _ _ q] at h1; cases h1
end
theorem odd_words : ∀ {vs : List Value} {xs : List (Str × Str)}, StrsAre vs (xs.flatMap fun p => [p.1, p.2]) → ∀ i : Nat, i < xs.length → ∃ t, vs[2 * i + 1]? = some (.str (xs.getD i (Str.empty, Str.empty)).2 t) := by
  intro vs xs h i hi
  refine h.get (2 * i + 1) _ ?_
  clear h vs
  induction xs generalizing i with
  | nil => cases hi
  | cons p r ih =>
    cases i with
    | zero => rfl
    | succ i =>
      have := ih i (Nat.lt_of_succ_lt_succ hi)
      rw [List.flatMap_cons, show 2 * (i + 1) + 1 = 2 * i + 1 + 1 + 1 by (first | lia | omega)]
      simpa using this
theorem pick_odd (vs : Array Value) (n : Nat) (hn : vs.size = 2 * n) : slicePick vs (some 1) none (some 2) = ((List.range n).filterMap fun i => vs[2 * i + 1]?).toArray := by
  unfold slicePick
  have hb : sliceBounds (some 1) none (some 2) vs.size = (min 1 (vs.size : Int), (vs.size : Int), 2) := by
    unfold sliceBounds
    simp only [Option.getD_some]
    have : ¬ ((1 : Int) < 0) := by decide
    simp only [this, if_false, show (2 : Int) > 0 by decide, if_true]
    congr 1
    (first | lia | omega)
  rw [hb]
  dsimp only
  congr 1
  rcases Nat.eq_zero_or_pos n with h0 | h0
  · subst h0
    rw [hn]
    rfl
  · have e1 : min 1 (vs.size : Int) = 1 := by (first | lia | omega)
    rw [e1]
    unfold sliceRange
    have e2 : (1 : Int) < (vs.size : Int) := by (first | lia | omega)
    rw [if_pos (show (2 : Int) > 0 by decide), if_pos e2]
    have e3 : (((vs.size : Int) - 1 + 2 - 1) / 2).toNat = n := by (first | lia | omega)
    dsimp only
    rw [e3, List.filterMap_map]
    congr 1
    funext k
    show vs[((1 : Int) + 2 * (k : Int)).toNat]? = _
    rw [show ((1 : Int) + 2 * (k : Int)).toNat = 2 * k + 1 by (first | lia | omega)]
end Mine
end
section
open PySem PySem.W PyProof.Rows
set_option maxRecDepth 100000
set_option maxHeartbeats 8000000
set_option linter.unusedVariables false
set_option pp.deepTerms false
namespace Mine
variable {w : World} {mg mb : Str → Option Value}
theorem Mine.words6 : True := by
  k_with "eval Name" => (k_here; (with_reducible show wpAny _ _ (eval (PySem.Expr.Name _ _) (compEnvC _ _ _ _)) _ _ _); k_dflt (first | refine LCgL.ld_own (by k_asm) (by k_mem) (by assumption) (by assumption) ?_ | refine ld_globalR (by k_asm) (by k_asm) (by k_asm) (by k_is) ?_ | refine ld_builtR (by k_asm) (by k_asm) (by k_asm) (by k_is) (by boot_by_name) (by decide) ?_))
  k_with "eval ListComp" => (k_here; k_dflt (refine LCg.ListComp_U (F₀ := by k_asm) (by with_unfolding_all rfl) (by decide) (by rfl) (by decide) (by rfl) ?_))
  k_with "CompSrc" => (k_here; k_dflt (first | (refine LCg.CompSrc.ledger (by rfl) (by k_asm) (by k_asm) (by k_mem) (by first | size_fits | exact Nat.le_of_ble_eq_true rfl) ?_; intro g'; lcg_lit) | (refine LCg.CompSrc.range (by rfl) (by k_asm) (by k_asm) (by assumption) (by first | decide | rfl) (by first | rfl | decide) (by first | size_fits | exact Nat.le_of_ble_eq_true rfl) ?_; intro g'; lcg_lit)))
  trivial
noncomputable def octL (v : Int) : List Str := [Str.ofString (toString ((v.fdiv (8 ^ 5)).fmod 8)), Str.ofString (toString ((v.fdiv (8 ^ 4)).fmod 8)), Str.ofString (toString ((v.fdiv (8 ^ 3)).fmod 8)),
  Str.ofString (toString ((v.fdiv (8 ^ 2)).fmod 8)), Str.ofString (toString ((v.fdiv (8 ^ 1)).fmod 8)), Str.ofString (toString ((v.fdiv (8 ^ 0)).fmod 8))]
noncomputable def octS (v : Int) : Str := Txt.join (Str.ofString "") (octL v)
theorem Mine.words7 : True := by
  k_with "call builtin:str.join" => (k_here; (with_reducible show wpAny _ _ (call (Value.builtin "str.join") [Value.str _ _, Value.ref _]) _ _ _); k_dflt (refine' join_led ?k1 ?k2 ?k3 ?k4 ?_; (case k1 => k_asm); (case k2 => k_mem); (case k3 => (repeat constructor)); (case k4 => (simp only [List.map_cons, List.map_nil, List.sum_cons, List.sum_nil, dig_len, List.length_cons, List.length_nil]; decide))); intro t9 k9; (try dsimp only))
  trivial
theorem s_octal (v : Int) (t : Tok) (h0 : 0 ≤ v) (h1 : v < 65536) : KS0 w mg mb 856 [.int v t] 4 64 (fun h => True) (fun h r => ∃ t', r = .str (octS v) t') := by
  unfold KS0
  k_fill
  intro dp un gd fr s Q E X T hp hd hu ret
  k_dflt (refine' enter_defC ?k1 ?k2 ?k6 ?k7 ?k8 ?k9 ?kB ?kD ?_ ?c2 ?c3 ?c4; (case k1 => assumption); (case k2 => assumption); (case k6 => k_is); (case k7 => k_is); (case k8 => (dsimp only; (first | lia | omega))); (case k9 => exact BindsTo.of_eq rfl); (case kB => exact rfl); (case kD => decide +kernel); (case c2 => exact rfl); (case c3 => exact rfl); (case c4 => exact rfl); intro L' h' tk' cells' F' N' Y'; k_cells Y'; (try simp only [List.cons_append, List.nil_append] at N'); (try dsimp only); (try k_fold))
  k_steps
  all_goals exact ret _ _ _ (Fr.keep (by assumption)) ⟨_, rfl⟩
end Mine
end
theorem Mine.words8 : True := by k_with_none; trivial
section
open PySem PySem.W PyProof.Rows
set_option maxRecDepth 100000
set_option maxHeartbeats 8000000
set_option linter.unusedVariables false
set_option pp.deepTerms false
namespace Mine
variable {w : World} {mg mb : Str → Option Value}

theorem Mine.words9 : True := by
  k_with "getMethod ref" => (k_here; (with_reducible show wpAny _ _ (getMethod (Value.ref _) (PySem.Str.ofString "sub") _) _ _ _); k_dflt (refine' sub_meth ?k1 ?k2 ?k3 ?_; (case k1 => k_asm); (case k2 => k_asm); (case k3 => k_is)))
  k_with "call builtin:re.Pattern.sub" => (k_here; k_dflt (first | (refine' sub_callB ?k1 ?k2 ?k3 ?k4 ?k5 ?k6 ?k7 ?k8 ?_; (case k1 => k_asm); (case k2 => k_asm); (case k3 => k_asm); (case k4 => k_is); (case k5 => k_is); (case k6 => decide +kernel); (case k7 => rfl); (case k8 => (first | lia | omega)); intro t9 h9 tk9 F9 N9) | (refine' sub_callA ?k1 ?k2 ?k3 ?k4 ?k5 ?k6 ?k7 ?k8 ?_; (case k1 => k_asm); (case k2 => k_asm); (case k3 => k_asm); (case k4 => k_is); (case k5 => k_is); (case k6 => decide +kernel); (case k7 => rfl); (case k8 => (exact Nat.le_trans (crlfS_len _) (by (first | lia | omega)))); intro t9 h9 tk9 F9 N9)))
  trivial
noncomputable def qdS (x : Str) : Str := dotS (crlfS x)
theorem s_quotedata (x : Str) (t : Tok) (hx : x.length ≤ 100000) : KS0 w mg mb 61 [.str x t] 4 64 (fun h => True) (fun h r => ∃ t', r = .str (qdS x) t') := by
  unfold KS0
  k_fill
  intro dp un gd fr s Q E X T hp hd hu ret
  k_dflt (refine' enter_def ?k1 ?k2 ?k6 ?k7 ?k8 ?k9 ?kB ?_ ?c5 ?c2 ?c3 ?c4; (case k1 => assumption); (case k2 => assumption); (case k6 => k_is); (case k7 => k_is); (case k8 => (dsimp only; (first | lia | omega))); (case k9 => exact BindsTo.of_eq rfl); (case c5 => decide); (case kB => exact locs rfl); (case c2 => exact rfl); (case c3 => exact rfl); (case c4 => exact rfl); intro L' h' F' N'; (try dsimp only); (try k_fold))
  k_steps
  all_goals exact ret _ _ _ (Fr.keep (by assumption)) ⟨_, rfl⟩
end Mine
end
theorem Mine.words10 : True := by k_with_none; trivial
section
open PySem PySem.W PyProof.Rows PyProof.V PySem.Spec
set_option maxRecDepth 100000
set_option maxHeartbeats 8000000
set_option linter.unusedVariables false
namespace Mine
section
variable {prog : Program} {w : World} {A : Around} {E : Value → Shared → Prop} {s : Shared} {env : Env} {h₀ : Heap} {x : Str} {body : List Stmt} {Q : Flow → Shared → Prop}
noncomputable def AccEnd (h₀ : Heap) (L : Addr) (x acc : Str) (stored : List Str) (m₀ : Str → Option Value) (val : Nat → Tok → Value) (k : Nat) (need : List (Addr × Obj)) (s₁ s₂ : Shared) : Prop :=
  ∃ h' tk m' news' ta, s₂ = { s₁ with heap := h', toks := tk } ∧ Fr h₀ L h' m' ∧ News h₀ L h' news' ∧ (∀ p ∈ need, p ∈ news') ∧ m' acc = some (val k ta) ∧ ∀ y, y ≠ x → y ≠ acc → stored.contains y = false → m' y = m₀ y
noncomputable def AccPost (h₀ : Heap) (L : Addr) (x acc : Str) (stored : List Str) (m₀ : Str → Option Value) (val : Nat → Tok → Value) (k : Nat) (need : List (Addr × Obj)) (s₁ : Shared) (Q : Flow → Shared → Prop) (f : Flow) (s₂ : Shared) : Prop :=
  match f with
  | .ret v => Q (.ret v) s₂
  | .brk => Q .next s₂
  | _ => AccEnd h₀ L x acc stored m₀ val k need s₁ s₂
theorem AccEnd.intro {L : Addr} {acc : Str} {stored : List Str} {m₀ m' : Str → Option Value} {val : Nat → Tok → Value} {k : Nat} {need news' : List (Addr × Obj)} {s₁ : Shared} {h' : Heap} {tk : Nat} {va : Value} (F : Fr h₀ L h' m') (N : News h₀ L h' news') (hn : ∀ p ∈ need, p ∈ news')
    (ha : m' acc = some va) (hm : ∀ y, y ≠ x → y ≠ acc → stored.contains y = false → m' y = m₀ y) (hv : ∃ ta, va = val k ta) : AccEnd h₀ L x acc stored m₀ val k need s₁ { s₁ with heap := h', toks := tk } :=
  let ⟨ta, e⟩ := hv
  ⟨h', tk, m', news', ta, rfl, F, N, hn, ha.trans (congrArg some e), hm⟩
theorem loop_acc {I : Addr} {fp wr : List Addr} {n : Nat} {P : Nat → Value → Prop} {St : Nat → Heap → Prop} {m₀ : Str → Option Value} {news : List (Addr × Obj)} (acc : Str) (stored : List Str) (val : Nat → Tok → Value)
    (W : Walks prog w A I fp wr n P St) (hLf : env.locals ∉ fp) (hwr : ∀ b ∈ wr, h₀.get? b = none) (hnw : ∀ p ∈ news, p.1 ∉ wr) (hst : St 0 s.heap) (F : Fr h₀ env.locals s.heap m₀) (N : News h₀ env.locals s.heap news)
    (h0 : ∃ ta, m₀ acc = some (val 0 ta)) (hxa : x ≠ acc)
    (turn : ∀ i v (u : Str → Option Value) h tk own ta, i < n → P i v → Fr h₀ env.locals h (fun y => if y = x then some v else if y = acc then some (val i ta) else if stored.contains y then u y else m₀ y) → News h₀ env.locals h (own ++ news) →
      wpAny (model prog w) A (execs body env) (AccPost h₀ env.locals x acc stored m₀ val (i + 1) (own ++ news) { s with heap := h, toks := tk } Q) E { s with heap := h, toks := tk })
    (done : ∀ (u : Str → Option Value) h tk ta, Fr h₀ env.locals h (fun y => if y = x then u y else if y = acc then some (val n ta) else if stored.contains y then u y else m₀ y) → News h₀ env.locals h news → Q .next { s with heap := h, toks := tk }) :
    LoopAtV prog w A h₀ env x body Q E (.ref I) s := by
  let J : Nat → (Str → Option Value) → List (Addr × Obj) → Prop := fun i m₁ news₁ => news₁ = news ∧ (∃ ta, m₁ acc = some (val i ta)) ∧ ∀ y, y ≠ x → y ≠ acc → stored.contains y = false → m₁ y = m₀ y
  refine Mine.in9 I fp wr n P St m₀ news J ⟨rfl, W, hLf, hwr, hnw, hst, F, N, ⟨rfl, h0, fun _ _ _ _ => rfl⟩, ?_, ?_⟩
  · (intro i; intro v; intro m₁; intro news₁; intro s₁; intro own; intro hZ1; (refine Mine.xa2_1 hZ1 ?_; clear hZ1; intro hh' tk' eZ2; subst eZ2); intro hin; intro hP; intro hZ5; (refine Mine.xa0_3 hZ5 ?_; clear hZ5; intro eZ10 eZ11 hJ; subst eZ10; (refine Mine.xa1_1 eZ11 ?_; clear eZ11; intro ta hta)); intro hoff; intro _; intro _; intro _; intro _; intro F₁; intro N₁)
    have e : (fun y => if y = x then some v else m₁ y) = fun y => if y = x then some v else if y = acc then some (val i ta) else if stored.contains y then m₁ y else m₀ y := by
      funext y
      by_cases h1 : y = x
      · simp [h1]
      · simp only [if_neg h1]
        by_cases h3 : y = acc
        · rw [if_pos h3, h3]; exact hta
        · rw [if_neg h3]
          cases h2 : stored.contains y with
          | true => simp
          | false => simp only [Bool.false_eq_true, if_false]; exact hJ y h1 h3 h2
    rw [e] at F₁
    refine wpAny_mono (turn i v m₁ hh' tk' own ta hin hP F₁ N₁) (fun f s₂ p => ?_) fun _ _ e => e
    have fin : AccEnd h₀ env.locals x acc stored m₀ val (i + 1) (own ++ news₁) { s with heap := hh', toks := tk' } s₂ → LoopStepU h₀ env.locals wr own (J (i + 1)) { s with heap := hh', toks := tk' } .next s₂ := by
      (intro hZ12; (refine Mine.xa5_6 hZ12 ?_; clear hZ12; intro h' tk m' news' tb e F' N' hn ha hm))
      exact ⟨rfl, h', tk, m', news₁, e, F', fun p hp => N' p (hn p hp), hoff, rfl, ⟨tb, ha⟩, hm⟩
    cases f with
    | ret v => exact .ret p
    | brk => exact .brk p
    | next => exact .next (fin p)
    | cont => exact .cont (fin p)
  · (intro h'; intro tk; intro m'; intro news'; intro F'; intro N'; intro _; intro hZ13; (refine Mine.xa0_3 hZ13 ?_; clear hZ13; intro eZ18 eZ19 hJ; subst eZ18; (refine Mine.xa1_1 eZ19 ?_; clear eZ19; intro ta hta)))
    refine done m' h' tk ta ?_ N'
    have e : (fun y => if y = x then m' y else if y = acc then some (val n ta) else if stored.contains y then m' y else m₀ y) = m' := by
      funext y
      by_cases h1 : y = x
      · simp [h1]
      · simp only [if_neg h1]
        by_cases h3 : y = acc
        · rw [if_pos h3, h3]; exact hta.symm
        · rw [if_neg h3]
          cases h2 : stored.contains y with
          | true => simp
          | false => simp only [Bool.false_eq_true, if_false]; exact (hJ y h1 h3 h2).symm
    rw [e]; exact F'
theorem iter_rangeAcc {r : Addr} {a₀ b₀ : Int} {t₀ u₀ v₀ : Tok} {n : Nat} {m₀ : Str → Option Value} {news : List (Addr × Obj)} (acc : Str) (stored : List Str) (val : Nat → Tok → Value)
    (hh : A.handled = none) (hr : IsRange s.heap r a₀ b₀ 1 t₀ u₀ v₀) (hsmall : Builtin.Range.small a₀ b₀ 1 = true) (hn : Builtin.Range.rangeSize a₀ b₀ 1 = (n : Int)) (F : Fr h₀ env.locals s.heap m₀) (N : News h₀ env.locals s.heap news)
    (h0 : ∃ ta, m₀ acc = some (val 0 ta)) (hxa : x ≠ acc)
    (turn : ∀ (k : Nat) t (u : Str → Option Value) h tk own ta, k < n → Fr h₀ env.locals h (fun y => if y = x then some (.int (a₀ + (k : Int)) t) else if y = acc then some (val k ta) else if stored.contains y then u y else m₀ y) → News h₀ env.locals h (own ++ news) →
      wpAny (model prog w) A (execs body env) (AccPost h₀ env.locals x acc stored m₀ val (k + 1) (own ++ news) { s with heap := h, toks := tk } Q) E { s with heap := h, toks := tk })
    (done : ∀ (u : Str → Option Value) h tk ta, Fr h₀ env.locals h (fun y => if y = x then u y else if y = acc then some (val n ta) else if stored.contains y then u y else m₀ y) → News h₀ env.locals h news → Q .next { s with heap := h, toks := tk }) :
    wpAny (model prog w) A (pyIter (.ref r)) (fun it s₂ => LoopAtV prog w A h₀ env x body Q E it s₂) E s := by
  refine wpAny_pyIter_range hr hsmall ?_
  have W : Walks prog w A s.heap.objs.size [s.heap.objs.size] [s.heap.objs.size] n (fun i v => i < n ∧ ∃ t, v = .int (a₀ + i * 1) t)
      (fun i h => IsRangeIter h s.heap.objs.size (a₀ + (i : Nat) * 1) ((n : Int) - (i : Nat)) 1) := (Walks.range hh _ a₀ 1 n).bound
  refine loop_acc acc stored val W ?_ ?_ ?_ (by show IsRangeIter _ _ _ _ _; rw [hn]; simpa using Heap.get?_push_size _ rfl) (F.push _) (fun p hp => ⟨Heap.get?_push_of_some _ (N p hp).1, (N p hp).2⟩) h0 hxa ?_ ?_
  · intro hm
    exact absurd F.ns.lt ((List.mem_singleton.mp hm) ▸ Nat.lt_irrefl _)
  · intro b hb
    rw [List.mem_singleton.mp hb]
    exact next_is_new F
  · intro p hp hI
    exact absurd (Heap.lt_size (N p hp).1) ((List.mem_singleton.mp hI) ▸ Nat.lt_irrefl _)
  · (intro i; intro v; intro u; intro h; intro tk; intro own; intro ta; intro hi; intro hZ20; (obtain ⟨_, t, rfl⟩ := hZ20); intro F₁; intro N₁)
    rw [Int.mul_one] at F₁
    exact turn i t u h tk own ta hi F₁ N₁
  · exact done
end
end Mine
end
section
open PySem PySem.W PyProof.Rows
set_option maxRecDepth 100000
set_option maxHeartbeats 8000000
set_option linter.unusedVariables false
set_option pp.deepTerms false
set_option pp.maxSteps 3000
namespace Mine
variable {w : World} {mg mb : Str → Option Value}

noncomputable def plainP (x : Str) : Nat → Str
  | 0 => Str.ofString ""
  | k + 1 => if (Txt.item x (k : Int) != Str.ofString "\u000d") = true then plainP x k ++ Txt.item x (k : Int) else if (Txt.slice x (some ((k : Int) + 1)) (some ((k : Int) + 2)) != Str.ofString "\n") = true then plainP x k ++ Str.ofString "\n" else plainP x k
theorem plain1 {x : Str} {k : Nat} (h : (Txt.item x (k : Int) != Str.ofString "\u000d") = true) : plainP x k ++ Txt.item x (k : Int) = plainP x (k + 1) := (if_pos h).symm
theorem plain2 {x : Str} {k : Nat} (h : (Txt.item x (k : Int) != Str.ofString "\u000d") = false) (h2 : (Txt.slice x (some ((k : Int) + 1)) (some ((k : Int) + 2)) != Str.ofString "\n") = true) : plainP x k ++ Str.ofString "\n" = plainP x (k + 1) := ((if_neg (ne_true_of_eq_false h)).trans (if_pos h2)).symm
theorem plain3 {x : Str} {k : Nat} (h : (Txt.item x (k : Int) != Str.ofString "\u000d") = false) (h2 : (Txt.slice x (some ((k : Int) + 1)) (some ((k : Int) + 2)) != Str.ofString "\n") = false) : plainP x k = plainP x (k + 1) := ((if_neg (ne_true_of_eq_false h)).trans (if_neg (ne_true_of_eq_false h2))).symm
theorem plainP_len (x : Str) : ∀ k, (plainP x k).length ≤ k
  | 0 => Nat.le_of_eq (show (Str.ofString "").length = 0 by decide +kernel)
  | k + 1 => by
    have h := plainP_len x k
    have e : (Str.ofString "\n").length = 1 := by decide +kernel
    unfold plainP
    split
    · rw [Str.length_append, len_item]; (first | lia | omega)
    · split
      · rw [Str.length_append]; (first | lia | omega)
      · (first | lia | omega)
theorem plainOk1 {x : Str} {k : Nat} (hk : k < x.length) (hx : x.length ≤ 100) : (plainP x k).length + (Txt.item x (k : Int)).length ≤ sizeLine := by
  have := plainP_len x k
  rw [len_item]; show _ ≤ 2 ^ 24; (first | lia | omega)
theorem plainOk2 {x : Str} {k : Nat} (hk : k < x.length) (hx : x.length ≤ 100) : (plainP x k).length + (Str.ofString "\n").length ≤ sizeLine := by
  have := plainP_len x k
  have e : (Str.ofString "\n").length = 1 := by decide +kernel
  show _ ≤ 2 ^ 24; (first | lia | omega)
section
variable {prog : Program} {A : Around} {E : Value → Shared → Prop} {s : Shared} {env : Env} {h₀ : Heap} {y : Str} {body : List Stmt} {Q : Flow → Shared → Prop}
theorem range_size (n : Nat) : Builtin.Range.rangeSize 0 (n : Int) 1 = n := by
  unfold Builtin.Range.rangeSize
  rw [if_pos (by decide)]
  by_cases h : n = 0
  · subst h; rfl
  · rw [if_pos (by (first | lia | omega))]; (first | lia | omega)
theorem range_small (n : Nat) (hx : n ≤ 100) : Builtin.Range.small 0 (n : Int) 1 = true := by
  unfold Builtin.Range.small
  rw [range_size]
  unfold Builtin.Range.rangeFitsLong
  simp
  (first | lia | omega)
theorem iter_plain {x : Str} {r : Addr} {t₀ u₀ v₀ : Tok} {m₀ : Str → Option Value} {news : List (Addr × Obj)}
    (hh : A.handled = none) (hr : IsRange s.heap r 0 (x.length : Int) 1 t₀ u₀ v₀) (hx : x.length ≤ 100) (F : Fr h₀ env.locals s.heap m₀) (N : News h₀ env.locals s.heap news)
    (h0 : ∃ ta, m₀ (Str.ofString "plain") = some (.str (Str.ofString "") ta)) (hxa : y ≠ Str.ofString "plain")
    (turn : ∀ (k : Nat) t (u : Str → Option Value) h tk own ta, k < x.length → Fr h₀ env.locals h (fun z => if z = y then some (.int (k : Int) t) else if z = Str.ofString "plain" then some (.str (plainP x k) ta) else m₀ z) → News h₀ env.locals h (own ++ news) →
      wpAny (model prog w) A (execs body env) (AccPost h₀ env.locals y (Str.ofString "plain") [] m₀ (fun k t => .str (plainP x k) t) (k + 1) (own ++ news) { s with heap := h, toks := tk } Q) E { s with heap := h, toks := tk })
    (done : ∀ (u : Str → Option Value) h tk ta, Fr h₀ env.locals h (fun z => if z = y then u z else if z = Str.ofString "plain" then some (.str (plainP x x.length) ta) else m₀ z) → News h₀ env.locals h news → Q .next { s with heap := h, toks := tk }) :
    wpAny (model prog w) A (pyIter (.ref r)) (fun it s₂ => LoopAtV prog w A h₀ env y body Q E it s₂) E s := by
  refine iter_rangeAcc (n := x.length) (Str.ofString "plain") [] (fun k t => .str (plainP x k) t) hh hr ?_ ?_ F N h0 hxa ?_ ?_
  · exact range_small x.length hx
  · exact range_size x.length
  · intro k t u h tk own ta hk F' N'
    rw [Int.zero_add] at F'
    exact turn k t u h tk own ta hk F' N'
  · exact done
end
theorem Mine.words11 : True := by
  k_with "exec For Name Call cons nil" => (k_here; (rename Fr _ _ _ _ => lF'); (with_unfolding_all refine' For_invVF lF' ?k1 ?k2 ?_; (case k1 => exact rfl); (case k2 => exact rfl); k_whole))
  k_with "pyIter ref" => ((with_reducible show wpAny _ _ (pyIter (Value.ref _)) (fun it s₂ => LoopAtV _ _ _ _ _ _ _ _ _ it s₂) _ _); (rename Fr _ _ _ _ => lF'); (rename News _ _ _ _ => lN'); (rename IsRange _ _ _ _ _ _ _ _ => rgX); (with_unfolding_all refine iter_plain (by rfl) (by exact rgX) (by assumption) lF' lN' ⟨_, by with_unfolding_all rfl⟩ (by decide) (fun k' t' u' h' tk' own' ta' hk' F' N' => ?_) (fun u' h' tk' ta' F' N' => ?_)) <;> (clear lF' lN'))
  k_with "inplaceOp Add str str" => ((refine SBL.iadd (hsz := ?hsz) ?_); (case hsz => first | exact plainOk1 (by assumption) (by assumption) | exact plainOk2 (by assumption) (by assumption)); intro _ _ kpxZ; clear kpxZ; (try dsimp only))
  k_with "AccPost" => (dsimp only [AccPost])
  trivial
theorem s_plain (x : Str) (t : Tok) (hx : x.length ≤ 100) : KS w mg mb 875 [.str x t] 4 64 (fun h => True) (fun h r => ∃ t', r = .str (plainP x x.length) t') := by
  unfold KS
  k_fill
  intro dp un gd outer base s Q E B X T hp hd hu ret
  k_dflt (refine' enter_def ?k1 ?k2 ?k6 ?k7 ?k8 ?k9 ?kB ?_ ?c5 ?c2 ?c3 ?c4; (case k1 => assumption); (case k2 => assumption); (case k6 => k_is); (case k7 => k_is); (case k8 => (dsimp only; (first | lia | omega))); (case k9 => exact BindsTo.of_eq rfl); (case c5 => decide); (case kB => exact locs rfl); (case c2 => exact rfl); (case c3 => exact rfl); (case c4 => exact rfl); intro L' h' F' N'; (try dsimp only); (try k_fold))
  k_steps
  all_goals first | exact ret _ _ _ (Fr.keep (by assumption)) ⟨_, rfl⟩ | skip
  all_goals (with_unfolding_all refine AccEnd.intro (by assumption) (by assumption) (by k_sub) (by rfl) (by (intro y h1 h2 h3; first | rfl | (simp [h1, h2]; done) | (simp_all; done))) (by first | exact ⟨_, congrArg (fun z => Value.str z _) (plain1 (by assumption))⟩ | exact ⟨_, congrArg (fun z => Value.str z _) (plain2 (by assumption) (by assumption))⟩ | exact ⟨_, congrArg (fun z => Value.str z _) (plain3 (by assumption) (by assumption))⟩))
end Mine
end
theorem Mine.words12 : True := by k_with_none; trivial
section
open PySem PySem.W PyProof.Rows
set_option maxRecDepth 100000
set_option maxHeartbeats 8000000
set_option linter.unusedVariables false
set_option pp.deepTerms false
set_option pp.maxSteps 6000
namespace Mine
variable {w : World} {mg mb : Str → Option Value}

section
variable {prog : Program} {A : Around} {E : Value → Shared → Prop} {s : Shared}
theorem item_intsL {value slice : PySem.Expr} {l : Addr} {vs : List Value} {ns : List Int} {k : Int} {u : Tok} {Q : Value → Shared → Prop} (hl : s.heap.IsList l vs.toArray) (hi : IntsAre vs ns)
    (h0 : 0 ≤ k) (h1 : k < ns.length) (hfit : k < 2 ^ 63) (h : ∀ t, Q (.int (ns.getD k.toNat 0) t) s)
    (hs : subscripted slice false (.ref l) (.int k u) = operate [.ref l, .int k u] (getItem (.ref l) (.int k u)) := by with_unfolding_all rfl) :
    wpAny (model prog w) A (subscriptTail value slice (.ref l) (.int k u)) Q E s := by
  obtain ⟨t, hx⟩ := hi.get k.toNat _ (ints_getD h0 h1)
  exact tail_any hl.typeIs slot_list_getitem.lookup (wpAny_getItem_list hl h0 hfit (by simpa using hx) (h t)) hs
theorem fm_lo (a : Int) {b : Int} (h : 0 < b) : 0 ≤ Int.fmod a b := Int.fmod_nonneg_of_pos a h
theorem fm_hi (a : Int) {b : Int} (h : 0 < b) : Int.fmod a b < b := Int.fmod_lt_of_pos a h
theorem fm_fit (a : Int) {b : Int} (h : 0 < b) (h2 : b ≤ 2 ^ 63) : Int.fmod a b < 2 ^ 63 := Int.lt_of_lt_of_le (Int.fmod_lt_of_pos a h) h2
theorem pc_len (i : Nat) : (pcs.getD i Str.empty).length ≤ 2 := by
  match i with
  | 0 | 1 | 2 | 3 | 4 | 5 | 6 | 7 => exact Nat.le_of_ble_eq_true (by decide +kernel)
  | n + 8 => exact Nat.zero_le _
theorem pcsOk1 (a b : Nat) : (pcs.getD a Str.empty).length + (pcs.getD b Str.empty).length ≤ 16777216 := by
  have := pc_len a
  have := pc_len b
  (first | lia | omega)
theorem pcsOk2 (a b c : Nat) : (pcs.getD a Str.empty ++ pcs.getD b Str.empty).length + (pcs.getD c Str.empty).length ≤ 16777216 := by
  have := pc_len a
  have := pc_len b
  have := pc_len c
  rw [Str.length_append]
  (first | lia | omega)
noncomputable def lawNs (ns : List Int) : List Int := ns.take 7 ++ [1, 449, 90, 2243]
noncomputable def lawFiles (ns : List Int) : List (Str × Int) := filesF 0 (lawNs ns)
theorem lawNs_len (ns : List Int) : (lawNs ns).length ≤ 1000 := by
  unfold lawNs
  rw [List.length_append, List.length_take]
  show _ + 4 ≤ 1000
  (first | lia | omega)
noncomputable def FilesAt (H h : Heap) (r : Value) (fs : List (Str × Int)) : Prop :=
  ∃ D fits fn tups, r = .ref D ∧ FilesAre fits.toList tups fs ∧ ∀ p ∈ (D, listOf fits fn) :: tups, h.get? p.1 = some p.2 ∧ H.get? p.1 = none
end
theorem Mine.words13 : True := by
  k_with "exec For Tuple Call cons nil" => (k_here; with_unfolding_all refine For_G ?_)
  k_with "call type:enumerate" => (k_here; (with_reducible show wpAny _ _ (call (Value.type _) [Value.ref _]) _ _ _); (rename Fr _ _ _ _ => lF'); (rename News _ _ _ _ => lN'); (rename IntsAre _ _ => lI'); (with_unfolding_all refine enum_files [Str.ofString "place", Str.ofString "x", Str.ofString "name"] lI' (lawNs_len _) (by rfl) lF' lN' (.tail _ (.tail _ (.head _))) (.tail _ (.tail _ (.tail _ (.head _)))) (by refine ⟨?_, ?_, ?_⟩ <;> (refine ltN ?_; (first | lia | omega))) (fun i' x' tx' fits' fn' tups' a' ti' u' h' tk' e' oe' it' oi' ol' hi' hx' hfz' hne' hlt' htup' F' N' => ?_) (fun fits' fn' tups' u' h' tk' hfa' F' N' => ?_)) <;> (clear lF' lN'; (try (obtain ⟨lt1', lt2', lt3', lt4', lt5', lt6'⟩ := hlt'; k_lt2 lt1'; k_lt2 lt2'; k_lt2 lt3'; k_lt2 lt4'; k_lt2 lt5'; k_lt2 lt6'))))
  k_with "subscriptTail" => (k_here; (with_reducible show wpAny _ _ (subscriptTail _ _ (Value.ref _) (Value.int _ _)) _ _ _); k_dflt (first | (refine' KTb.item_list (ws := pcs) (News.isList (by k_asm) (by k_mem)) ?ktbw (fm_lo _ (by decide)) (fm_hi _ (by decide)) (fm_fit _ (by decide) (by decide)) ?_; (case ktbw => with_unfolding_all (repeat constructor)); intro _ ktbLt; clear ktbLt) | (refine' item_intsL (News.isList (by k_asm) (by k_mem)) ?ktbw (fm_lo _ (by decide)) (fm_hi _ (by decide)) (fm_fit _ (by decide) (by decide)) ?_; (case ktbw => repeat constructor); intro _)); (try dsimp only))
  k_with "binaryOp Add str str" => (k_here; (with_reducible show wpAny _ _ (binaryOp Operator.Add (Value.str _ _) (Value.str _ _)) _ _ _); (refine KOpn.add (by first | exact pcsOk1 _ _ | exact pcsOk2 _ _ _) ?_); intro _ _ kpxZ; clear kpxZ; (try dsimp only))
  k_with "own k_upd" => first | (refine' Upd.head ?a; (case a => assumption)) | (refine' Upd.tail ?a ?b; (case a => k_ne); (case b => k_upd))
  k_with "call builtin:list.append" => (k_here; (with_reducible show wpAny _ _ (call (Value.builtin _) [Value.ref _, _]) _ _ _); k_dflt (refine' append_K ?k1 ?k2 ?k3 ?_ ?z; (case k1 => k_asm); (case k2 => k_asm); (case k3 => k_upd); (case z => assumption); k_whole); intro h' F' N'; (try k_sweep))
  trivial
theorem s_files (H : Heap) (l : Addr) (vs : List Value) (ns : List Int) (hi : IntsAre vs ns) (hn : ns.length ≤ 63) : KS w mg mb 851 [.ref l] 4 64 (fun h => h = H ∧ h.IsList l vs.toArray) (fun h r => FilesAt H h r (lawFiles ns)) := by
  unfold KS
  k_fill
  intro dp un gd outer base s Q E B X T hp hd hu ret
  k_dflt (refine' enter_def ?k1 ?k2 ?k6 ?k7 ?k8 ?k9 ?kB ?_ ?c5 ?c2 ?c3 ?c4; (case k1 => assumption); (case k2 => assumption); (case k6 => k_is); (case k7 => k_is); (case k8 => (dsimp only; (first | lia | omega))); (case k9 => exact BindsTo.of_eq rfl); (case c5 => decide); (case kB => exact locs rfl); (case c2 => exact rfl); (case c3 => exact rfl); (case c4 => exact rfl); intro L' h' F' N'; (try dsimp only); (try k_fold))
  obtain ⟨rfl, hp⟩ := hp
  k_steps
  all_goals first
    | (with_unfolding_all refine TurnF.intro (by assumption) (by assumption) (by repeat (first | exact List.forall_mem_nil _ | refine List.forall_mem_cons.mpr ⟨by k_mem, ?_⟩)) (by k_mem) (by intro p hp; repeat (first | exact hp | refine List.Mem.tail _ ?_)) (by (refine ltN ?_; (first | lia | omega))) (by (refine ltN ?_; (first | lia | omega))) (by rfl) (by intro y h1; repeat (first | refine (if_neg (ne_of_contains h1 (by decide))).trans ?_ | refine (offm_out (sub_contains (by decide) h1)).trans ?_ | exact rfl)))
    | (rename FilesAre _ _ _ => hfa9; rename News _ _ _ _ => hN9; exact ret _ _ _ (Fr.keep (by assumption)) ⟨_, _, _, _, rfl, hfa9, fun p hp => ⟨(hN9 p hp).1, (hN9 p hp).2.2⟩⟩)

end Mine
end
theorem Mine.words14 : True := by k_with_none; trivial
section
open PySem PySem.W PyProof.Rows
set_option maxRecDepth 100000
set_option maxHeartbeats 8000000
set_option linter.unusedVariables false
namespace Mine
structure FileOk (p : Str × Int) : Prop where
  name : p.1.length ≤ 6
  lo : 0 ≤ p.2
  hi : p.2 < 65536
  kind : p.2.fdiv 4096 ∈ [(8 : Int), 4, 10]
theorem nameF_len (x : Int) : (nameF x).length ≤ 6 := by
  unfold nameF
  rw [Str.length_append, Str.length_append]
  have := pc_len (x.fmod 8).toNat
  have := pc_len ((x.fdiv 8).fmod 8).toNat
  have := pc_len ((x.fdiv 64).fmod 8).toNat
  unfold pc
  (first | lia | omega)
theorem bitsF_ok (q x : Int) : 0 ≤ bitsF q x ∧ bitsF q x < 65536 ∧ (bitsF q x).fdiv 4096 ∈ [(8 : Int), 4, 10] := by
  unfold bitsF
  have h1 := fm_lo (x.fdiv 8 + 455 * (q + 1)) (show (0:Int) < 4096 by decide)
  have h2 := fm_hi (x.fdiv 8 + 455 * (q + 1)) (show (0:Int) < 4096 by decide)
  have h3 := fm_lo (x.fdiv 512) (show (0:Int) < 3 by decide)
  have h4 := fm_hi (x.fdiv 512) (show (0:Int) < 3 by decide)
  generalize (x.fdiv 8 + 455 * (q + 1)).fmod 4096 = r at h1 h2
  generalize (x.fdiv 512).fmod 3 = k at h3 h4
  have hk : k = 0 ∨ k = 1 ∨ k = 2 := by (first | lia | omega)
  have key : ∀ K : Int, 0 ≤ K → (K = 8 ∨ K = 4 ∨ K = 10) → 0 ≤ K * 4096 + r ∧ K * 4096 + r < 65536 ∧ (K * 4096 + r).fdiv 4096 ∈ [(8 : Int), 4, 10] := by
    intro K h0 hK
    have e : (K * 4096 + r).fdiv 4096 = K := by
      rw [Int.fdiv_eq_ediv_of_nonneg _ (by decide)]
      (first | lia | omega)
    refine ⟨by (first | lia | omega), by (first | lia | omega), ?_⟩
    rw [e]
    rcases hK with rfl | rfl | rfl <;> decide
  rcases hk with rfl | rfl | rfl
  · exact key 8 (by decide) (.inl rfl)
  · exact key 4 (by decide) (.inr (.inl rfl))
  · exact key 10 (by decide) (.inr (.inr rfl))
theorem files_ok (ns : List Int) : ∀ p ∈ lawFiles ns, FileOk p := by
  intro p hp
  obtain ⟨i, hi⟩ := List.getElem?_of_mem hp
  unfold lawFiles at hi
  rw [filesF_get] at hi
  cases h : (lawNs ns)[i]? with
  | none => rw [h] at hi; cases hi
  | some x =>
    rw [h] at hi
    cases hi
    obtain ⟨h1, h2, h3⟩ := bitsF_ok ((0 + i : Nat) : Int) x
    exact ⟨nameF_len x, h1, h2, h3⟩
theorem files_len (ns : List Int) : (lawFiles ns).length ≤ 11 := by
  unfold lawFiles
  rw [filesF_len]
  unfold lawNs
  rw [List.length_append, List.length_take]
  show _ + 4 ≤ 11
  (first | lia | omega)
theorem octS_len (v : Int) : (octS v).length = 6 := by
  unfold octS
  rw [← li_len, li_join0]
  simp only [octL, List.map_cons, List.map_nil, List.flatten_cons, List.flatten_nil, List.length_append, List.length_nil, li_len, dig_len]
noncomputable def rowS (x : Str) (b : Int) : Str := quoteS x ++ Str.ofString " " ++ quoteS (octS b) ++ Str.ofString "\n"
theorem row_len {x : Str} {b : Int} (hx : x.length ≤ 6) : (rowS x b).length ≤ 100 := by
  unfold rowS
  have h1 := quoteS_len x
  have h2 := quoteS_len (octS b)
  rw [octS_len] at h2
  rw [Str.length_append, Str.length_append, Str.length_append, show (Str.ofString " ").length = 1 by decide +kernel, show (Str.ofString "\n").length = 1 by decide +kernel]
  (first | lia | omega)
theorem row_fit {x : Str} {b : Int} (hx : x.length ≤ 6) : (quoteS x ++ Str.ofString " " ++ quoteS (octS b)).length + (Str.ofString "\n").length ≤ 16777216 := by
  have h := row_len (b := b) hx
  unfold rowS at h
  rw [Str.length_append] at h
  (first | lia | omega)
noncomputable def textS (fs : List (Str × Int)) : Str := Txt.join (Str.ofString "") (fs.map fun p => rowS p.1 p.2)
theorem sum_rows (fs : List (Str × Int)) (h : ∀ p ∈ fs, FileOk p) : ((fs.map fun p => rowS p.1 p.2).map (·.length)).sum ≤ 100 * fs.length := by
  induction fs with
  | nil => exact Nat.le_refl _
  | cons p r ih =>
    have h1 := row_len (b := p.2) (h p (.head _)).name
    have h2 := ih fun q hq => h q (.tail _ hq)
    simp only [List.map_cons, List.sum_cons, List.length_cons]
    (first | lia | omega)
theorem text_fits {fs : List (Str × Int)} (h : ∀ p ∈ fs, FileOk p) (hl : fs.length ≤ 11) : ((fs.map fun p => rowS p.1 p.2).map (·.length)).sum + (fs.map fun p => rowS p.1 p.2).length * (Str.ofString "").length ≤ 16777216 := by
  have h1 := sum_rows fs h
  rw [show (Str.ofString "").length = 0 by decide +kernel]
  (first | lia | omega)
theorem text_len {fs : List (Str × Int)} (h : ∀ p ∈ fs, FileOk p) (hl : fs.length ≤ 11) : (textS fs).length ≤ 1100 := by
  have h1 := sum_rows fs h
  unfold textS
  rw [← li_len, li_join0, ← sum_len]
  (first | lia | omega)
theorem qd_len (x : Str) : (qdS x).length ≤ 4 * x.length := by
  unfold qdS
  have := dotS_len (crlfS x)
  have := crlfS_len x
  (first | lia | omega)
end Mine
end
section
open PySem PySem.W PyProof.Rows
set_option maxRecDepth 100000
set_option maxHeartbeats 8000000
namespace Mine
mutual
theorem eqv_self : ∀ d : PyData, d.canLay0 = true → PyData.eqv d d = true
  | .none, _ => rfl
  | .bool b, _ => by simp [PyData.eqv]
  | .int i, _ => by simp [PyData.eqv]
  | .str x, _ => by simp [PyData.eqv]
  | .list xs, h => by
    simp only [PyData.eqv]
    exact eqvAll_self xs (by simpa [PyData.canLay0] using h)
  | .tuple xs, h => by
    simp only [PyData.eqv]
    exact eqvAll_self xs (by simpa [PyData.canLay0] using h)
  | .dict _, h => by simp [PyData.canLay0] at h
theorem eqvAll_self : ∀ xs : List PyData, PyData.canLayAll0 xs = true → PyData.eqvAll xs xs = true
  | [], _ => rfl
  | x :: r, h => by
    simp only [PyData.canLayAll0, Bool.and_eq_true] at h
    simp only [PyData.eqvAll, Bool.and_eq_true]
    exact ⟨eqv_self x h.1, eqvAll_self r h.2⟩
end
noncomputable def flatD : PyData → Bool
  | .none | .bool _ | .int _ => true
  | .str x => PyData.strOk x
  | _ => false
theorem flat_lay {d : PyData} (h : flatD d = true) : d.canLay0 = true ∧ d.depth = 0 := by
  cases d <;> simp_all [flatD, PyData.canLay0, PyData.depth]
theorem flats_lay : ∀ {xs : List PyData}, xs.all flatD = true → PyData.canLayAll0 xs = true ∧ PyData.depthAll xs = 0
  | [], _ => ⟨rfl, rfl⟩
  | x :: r, h => by
    simp only [List.all_cons, Bool.and_eq_true] at h
    obtain ⟨a, b⟩ := flats_lay h.2
    obtain ⟨c, d⟩ := flat_lay h.1
    exact ⟨by simp [PyData.canLayAll0, a, c], by simp [PyData.depthAll, b, d]⟩
theorem shaped_flats {xs : List PyData} (h : xs.all flatD = true) : SeqAt.shaped (.list xs) = true := by
  obtain ⟨a, b⟩ := flats_lay h
  simp [SeqAt.shaped, PyData.canLay0, PyData.depth, a, b]
theorem tups_lay : ∀ {xs : List (List PyData)}, (∀ x ∈ xs, x.all flatD = true) → PyData.canLayAll0 (xs.map PyData.tuple) = true ∧ PyData.depthAll (xs.map PyData.tuple) ≤ 1
  | [], _ => ⟨rfl, Nat.zero_le _⟩
  | x :: r, h => by
    obtain ⟨a, b⟩ := tups_lay fun y hy => h y (.tail _ hy)
    obtain ⟨c, d⟩ := flats_lay (h x (.head _))
    refine ⟨by simp [PyData.canLayAll0, PyData.canLay0, a, c], ?_⟩
    simp only [List.map_cons, PyData.depthAll, PyData.depth, d]
    (first | lia | omega)
theorem shaped_tups {xs : List (List PyData)} (h : ∀ x ∈ xs, x.all flatD = true) : SeqAt.shaped (.list (xs.map PyData.tuple)) = true := by
  obtain ⟨a, b⟩ := tups_lay h
  have : (PyData.list (xs.map PyData.tuple)).depth ≤ 2 := by simp only [PyData.depth]; (first | lia | omega)
  simp only [SeqAt.shaped, PyData.canLay0, a, Bool.true_and, decide_eq_true_eq]
  (first | lia | omega)
theorem ints_flat (ns : List Int) : (ns.map PyData.int).all flatD = true := by
  rw [List.all_eq_true]
  intro d hd
  obtain ⟨i, _, rfl⟩ := List.mem_map.mp hd
  rfl
theorem reads_of_ints {h : Heap} : ∀ {vs : List Value} {xs : List Int}, IntsAre vs xs → ReadsAll h vs (xs.map PyData.int) []
  | _, _, .nil => .nil
  | _, _, .cons m t r => ReadsAll.cons (.int m t) (reads_of_ints r)
end Mine
end
section
open PySem PySem.W PyProof.Rows PySem.Calls PySem.NumText
set_option maxRecDepth 100000
set_option maxHeartbeats 8000000
set_option linter.unusedVariables false
namespace Mine
theorem wp_text8 {M : Model} {A : Around} {E : Value → Shared → Prop} {s : Shared} {Q : Value → Shared → Prop} {v : Value} {text : List Nat} {n : Int}
    (hs : (text.takeWhile (· != 0)).length ≤ 640) (hr : (int_private% "readNumeral") 0 8 (text.takeWhile (· != 0)) = (int_private% "Numeral.value") n)
    (ha : ((text.takeWhile (· != 0)).length == text.length) = true) (h : Q (.int n s.toks) { s with toks := s.toks + 1 }) :
    wpAny M A ((int_private% "intFromText") v text 8) Q E s := by
  obtain ⟨hp, g, d, tk, os⟩ := s
  repeat (any_goals (first
    | assumption
    | (with_reducible refine wpAny_ite_true (decide_eq_true hs) ?_)
    | (with_reducible refine wpAny_ite_true (decide_eq_true ha) ?_)
    | wp_step))
  all_goals (try rw [hr])
  all_goals (try dsimp only)
  repeat (any_goals (first
    | assumption
    | (with_reducible refine wpAny_ite_true (decide_eq_true hs) ?_)
    | (with_reducible refine wpAny_ite_true (decide_eq_true ha) ?_)
    | wp_step))
noncomputable def Oct (cs : List Nat) : Prop := ∀ c ∈ cs, 48 ≤ c ∧ c < 56
theorem Oct.dig {cs : List Nat} (h : Oct cs) : AllDigits cs := fun c hc => ⟨(h c hc).1, by have := (h c hc).2; (first | lia | omega)⟩
theorem step8 {ds : Array Nat} {b : Bool} {c : Nat} (h : 48 ≤ c ∧ c < 56) : NumText.step 8 (ds, b) c = some (ds.push (c - 48), true) := by
  unfold NumText.step
  rw [if_neg (by simp; (first | lia | omega)), digit_of ⟨h.1, by (first | lia | omega)⟩]
  dsimp only
  rw [if_pos (by (first | lia | omega))]
theorem foldl8 : ∀ (cs : List Nat) (ds : Array Nat) (b : Bool), Oct cs → cs ≠ [] → cs.foldlM (NumText.step 8) (ds, b) = some (cs.foldl (fun acc c => acc.push (c - 48)) ds, true)
  | [c], ds, b, h, _ => by
    rw [List.foldlM_cons, step8 (h c (.head _))]
    rfl
  | c :: d :: r, ds, b, h, _ => by
    rw [List.foldlM_cons, step8 (h c (.head _))]
    exact foldl8 (d :: r) _ _ (fun x hx => h x (.tail _ hx)) (List.cons_ne_nil _ _)
noncomputable def octVal (cs : List Nat) : Nat := cs.foldl (fun acc c => acc * 8 + (c - 48)) 0
theorem push8 : ∀ (cs : List Nat) (ds : Array Nat), (cs.foldl (fun acc c => acc.push (c - 48)) ds).foldl (fun acc d => acc * 8 + d) 0 = cs.foldl (fun acc c => acc * 8 + (c - 48)) (ds.foldl (fun acc d => acc * 8 + d) 0)
  | [], _ => rfl
  | c :: cs, ds => by
    rw [List.foldl_cons, List.foldl_cons, push8 cs]
    congr 1
    rw [Array.foldl_push]
theorem based8 {cs : List Nat} (h : Oct cs) : based 8 cs = (8, false, cs) := by
  have hp : prefix? cs = none := by
    unfold prefix?
    split
    · rename_i c r
      have := h c (.tail _ (.head _))
      rw [if_neg (by simp; (first | lia | omega)), if_neg (by simp; (first | lia | omega)), if_neg (by simp; (first | lia | omega))]
    · rfl
  unfold based
  rw [hp]
  rfl
theorem read8 {cs : List Nat} (h : Oct cs) (hne : cs ≠ []) : (int_private% "readNumeral") 0 8 cs = (int_private% "Numeral.value") ((octVal cs : Nat) : Int) := by
  have hsg : sign cs = (false, cs) := by
    cases cs with
    | nil => exact absurd rfl hne
    | cons c r => have := h c (.head _); exact sign_of (by (first | lia | omega)) (by (first | lia | omega))
  have e1 : cs.dropWhile blank = cs := dropWhile_digits h.dig
  have e2 : (cs.reverse.dropWhile blank).reverse = cs := by rw [dropWhile_digits h.dig.reverse, List.reverse_reverse]
  have e3 : digits? 8 cs = some (cs.foldl (fun acc c => acc.push (c - 48)) #[]) := by
    unfold digits?
    rw [foldl8 cs #[] false h hne]
    rfl
  refine (readNumeral_eq 0 8 cs).trans ?_
  rw [e1, hsg]
  dsimp only
  rw [based8 h]
  dsimp only
  rw [e2, e3]
  unfold judge
  dsimp only
  rw [if_neg (by simp), if_neg (by simp)]
  simp only [Bool.false_and, Bool.false_eq_true, if_false]
  rw [push8]
  rfl
structure Hid8 (p : Prop) : Prop where
  out : p
theorem gives_oct {x : PySem.Str} {u v : Tok} (hx : Oct x.cps.toList) (hne : x.cps.toList ≠ []) (hl : x.length ≤ 640) : Gives (Builtin.«int.__new__» ⟨[.type "int", .str x u, .int 8 v], []⟩) (.int ((octVal x.cps.toList : Nat) : Int)) :=
  .of_wp fun M A E s Q h => by
    obtain ⟨hp, g, d, tk, os⟩ := s
    have f1 := F.conv_sub_int
    have f2 := F.madeHere_int
    have f6 : typeOf (.str x u) = pure (.type "str") := rfl
    obtain ⟨n1, n2⟩ := numText_signs (x := x) fun c hc => .inr (hx.dig c hc)
    have hs : (numSeenOf x).length ≤ 640 := Nat.le_trans (seen_length x) hl
    have hr : (int_private% "readNumeral") 0 8 (numSeenOf x) = (int_private% "Numeral.value") ((octVal x.cps.toList : Nat) : Int) ∧ ((numSeenOf x).length == (numTextOf x).length) = true := by
      rw [n1, n2]
      exact ⟨read8 hx hne, beq_self_eq_true _⟩
    have hk := Hid8.mk (And.intro hs hr)
    clear hs hr hl hne hx n1 n2
    repeat (any_goals (first
      | assumption
      | ((with_reducible show wpAny _ _ ((int_private% "intFromText") _ _ _) _ _ _); refine wp_text8 hk.out.1 hk.out.2.1 hk.out.2.2 ?_)
      | wp_step))
    all_goals first | exact ⟨_, rfl, h⟩ | skip
    all_goals trace_state
theorem args_object_init_3 (a b c : Value) : argsOk "object.__init__" ⟨[a, b, c], []⟩ := by unfold argsOk; kernel_rfl
theorem typeCall_int_2 (a b : Value) : checkTypeCall "int" ⟨[a, b], []⟩ = pure () := by kernel_rfl
theorem newCall_int_2 (a b : Value) : checkBuiltinCall "int.__new__" ⟨[.type "int", a, b], []⟩ = pure () := by kernel_rfl
section
variable {prog : Program} {w : World} {A : Around} {E : Value → Shared → Prop} {s : Shared} {Q : Value → Shared → Prop} {x : PySem.Str} {t u : Tok}
theorem call_oct (hx : Oct x.cps.toList) (hne : x.cps.toList ≠ []) (hl : x.length ≤ 640) (h : Q (.int ((octVal x.cps.toList : Nat) : Int) s.toks) { s with toks := s.toks + 1 }) : wpAny (model prog w) A (call (.type "int") [.str x t, .int 8 u]) Q E s :=
  callType_new F.called_int F.newNe_int (typeCall_int_2 _ _) (newCall_int_2 _ _) (fun obj => args_object_init_3 obj _ _) F.entry_int_new (gives_oct hx hne hl).meets (show (Made.int _).post _ s from ⟨rfl, h⟩)
end
theorem dig_li {k : Int} (h0 : 0 ≤ k) (h1 : k < 8) : li (Str.ofString (toString k)) = [48 + k.toNat] := by
  have : k = 0 ∨ k = 1 ∨ k = 2 ∨ k = 3 ∨ k = 4 ∨ k = 5 ∨ k = 6 ∨ k = 7 := by (first | lia | omega)
  rcases this with rfl | rfl | rfl | rfl | rfl | rfl | rfl | rfl <;> decide +kernel
noncomputable def octN (v : Int) : List Nat := [48 + ((v.fdiv (8 ^ 5)).fmod 8).toNat, 48 + ((v.fdiv (8 ^ 4)).fmod 8).toNat, 48 + ((v.fdiv (8 ^ 3)).fmod 8).toNat, 48 + ((v.fdiv (8 ^ 2)).fmod 8).toNat, 48 + ((v.fdiv (8 ^ 1)).fmod 8).toNat, 48 + ((v.fdiv (8 ^ 0)).fmod 8).toNat]
theorem li_octS (v : Int) : li (octS v) = octN v := by
  have d : ∀ a : Int, li (Str.ofString (toString (a.fmod 8))) = [48 + (a.fmod 8).toNat] := fun a => dig_li (Int.fmod_nonneg_of_pos a (by decide)) (Int.fmod_lt_of_pos a (by decide))
  unfold octS
  rw [li_join0]
  simp only [octL, List.map_cons, List.map_nil, List.flatten_cons, List.flatten_nil, d]
  rfl
theorem octN_oct (v : Int) : Oct (octN v) := by
  intro c hc
  have k : ∀ a : Int, 48 ≤ 48 + (a.fmod 8).toNat ∧ 48 + (a.fmod 8).toNat < 56 := fun a => by
    have h1 := Int.fmod_nonneg_of_pos a (show (0 : Int) < 8 by decide)
    have h2 := Int.fmod_lt_of_pos a (show (0 : Int) < 8 by decide)
    (first | lia | omega)
  unfold octN at hc
  simp only [List.mem_cons, List.not_mem_nil, or_false] at hc
  rcases hc with rfl | rfl | rfl | rfl | rfl | rfl <;> exact k _
theorem oct_step (x y z : Int) (hd : 0 ≤ y) (h : x * 8 + y % 8 = z) : x * 8 + ((y % 8).toNat : Int) = z := by
  rw [Int.toNat_of_nonneg (Int.emod_nonneg y (by decide))]; exact h
theorem oct_up (v a b : Int) (hab : a = b * 8) (hb : 0 ≤ b) : v / a * 8 + v / b % 8 = v / b := by
  subst hab
  rw [← Int.ediv_ediv_of_nonneg hb, Int.mul_comm]
  exact Int.mul_ediv_add_emod (v / b) 8
theorem octN_val {v : Int} (h0 : 0 ≤ v) (h1 : v < 65536) : ((octVal (octN v) : Nat) : Int) = v := by
  have p : ∀ b : Int, 0 ≤ b → 0 ≤ v / b := fun b hb => Int.ediv_nonneg h0 hb
  have e5 : v / 32768 % 8 = v / 32768 := Int.emod_eq_of_lt (p _ (by decide)) (Int.lt_trans (Int.ediv_lt_of_lt_mul (b := 2) (by decide) (by exact h1)) (by decide))
  unfold octVal octN
  simp only [List.foldl_cons, List.foldl_nil, Nat.add_sub_cancel_left, Int.fdiv_eq_ediv_of_nonneg _ (show (0 : Int) ≤ 8 ^ 5 by decide), Int.fdiv_eq_ediv_of_nonneg _ (show (0 : Int) ≤ 8 ^ 4 by decide), Int.fdiv_eq_ediv_of_nonneg _ (show (0 : Int) ≤ 8 ^ 3 by decide), Int.fdiv_eq_ediv_of_nonneg _ (show (0 : Int) ≤ 8 ^ 2 by decide), Int.fdiv_eq_ediv_of_nonneg _ (show (0 : Int) ≤ 8 ^ 1 by decide), Int.fdiv_eq_ediv_of_nonneg _ (show (0 : Int) ≤ 8 ^ 0 by decide), Int.fmod_eq_emod_of_nonneg _ (show (0 : Int) ≤ 8 by decide), Int.natCast_add, Int.natCast_mul]
  have s5 : (((0 : Nat) : Int) * ((8 : Nat) : Int)) + ((v / 8 ^ 5 % 8).toNat : Int) = v / 32768 := by
    rw [show (((0 : Nat) : Int) * ((8 : Nat) : Int)) = 0 from rfl, Int.zero_add, Int.toNat_of_nonneg (Int.emod_nonneg _ (by decide))]; exact e5
  have s4 := oct_step (v / 32768) (v / 4096) _ (p _ (by decide)) (oct_up v 32768 4096 (by decide) (by decide))
  have s3 := oct_step (v / 4096) (v / 512) _ (p _ (by decide)) (oct_up v 4096 512 (by decide) (by decide))
  have s2 := oct_step (v / 512) (v / 64) _ (p _ (by decide)) (oct_up v 512 64 (by decide) (by decide))
  have s1 := oct_step (v / 64) (v / 8) _ (p _ (by decide)) (oct_up v 64 8 (by decide) (by decide))
  have s0 := oct_step (v / 8) (v / 1) _ (p _ (by decide)) (oct_up v 8 1 (by decide) (by decide))
  rw [s5]
  refine Eq.trans ?_ (s0.trans (Int.ediv_one v))
  refine congrArg (· * (8 : Int) + ((v / 1 % 8).toNat : Int)) ?_
  refine Eq.trans ?_ s1
  refine congrArg (· * (8 : Int) + ((v / 8 % 8).toNat : Int)) ?_
  refine Eq.trans ?_ s2
  refine congrArg (· * (8 : Int) + ((v / 64 % 8).toNat : Int)) ?_
  refine Eq.trans ?_ s3
  exact congrArg (· * (8 : Int) + ((v / 512 % 8).toNat : Int)) s4
theorem oct_back {v : Int} (h0 : 0 ≤ v) (h1 : v < 65536) : ((octVal (octS v).cps.toList : Nat) : Int) = v := by
  have : (octS v).cps.toList = octN v := li_octS v
  rw [this]; exact octN_val h0 h1
theorem oct_ok (v : Int) : Oct (octS v).cps.toList ∧ (octS v).cps.toList ≠ [] := by
  have : (octS v).cps.toList = octN v := li_octS v
  rw [this]
  exact ⟨octN_oct v, List.cons_ne_nil _ _⟩
end Mine
end
section
open PySem PySem.W PyProof.Rows
set_option maxRecDepth 100000
set_option maxHeartbeats 8000000
set_option linter.unusedVariables false
set_option pp.deepTerms false
set_option pp.maxSteps 6000
namespace Mine
variable {w : World} {mg mb : Str → Option Value}

noncomputable def rowK (v : Int) : Str := [Str.ofString "-", Str.ofString "d", Str.ofString "l"].getD ((([(8 : Int), 4, 10].idxOf (v.fdiv 4096) : Nat) : Int)).toNat Str.empty
noncomputable def rowRW (v : Int) (p : Nat) : Str := Txt.item (Str.ofString "-r") (((v.fdiv (8 ^ (2 - p))).fmod 8).fdiv 4) ++ Txt.item (Str.ofString "-w") ((((v.fdiv (8 ^ (2 - p))).fmod 8).fdiv 2).fmod 2)
noncomputable def rowX (v : Int) (p : Nat) : Str := Txt.item (Str.ofString (if p = 2 then "-xTt" else "-xSs")) (((v.fdiv (8 ^ (2 - p))).fmod 8).fmod 2 + 2 * ((v.fdiv 512).fdiv (2 ^ (2 - p))).fmod 2)
noncomputable def rowP (v : Int) : Nat → Str
  | 0 => rowK v
  | k + 1 => rowP v k ++ rowRW v k ++ rowX v k
theorem kind_len (i : Nat) : ([Str.ofString "-", Str.ofString "d", Str.ofString "l"].getD i Str.empty).length ≤ 1 := by
  match i with
  | 0 => exact Nat.le_of_eq (by decide +kernel)
  | 1 => exact Nat.le_of_eq (by decide +kernel)
  | 2 => exact Nat.le_of_eq (by decide +kernel)
  | n + 3 => exact Nat.zero_le _
theorem rowP_len (v : Int) : ∀ k, (rowP v k).length ≤ 3 * k + 1
  | 0 => kind_len _
  | k + 1 => by
    have h := rowP_len v k
    show (rowP v k ++ rowRW v k ++ rowX v k).length ≤ _
    unfold rowRW rowX
    simp only [Str.length_append, len_item]
    (first | lia | omega)
theorem idx3 (k : Int) (h : k ∈ [(8 : Int), 4, 10]) : ((([(8 : Int), 4, 10].idxOf k : Nat) : Int)) < 3 := by
  have := List.idxOf_lt_length_iff.mpr h
  simp only [List.length_cons, List.length_nil] at this
  (first | lia | omega)
theorem row_zero (v : Int) (t : Tok) : some (Value.str ([Str.ofString "-", Str.ofString "d", Str.ofString "l"].getD ((([(8 : Int), 4, 10].idxOf (v.fdiv 4096) : Nat) : Int)).toNat Str.empty) t) = some (Value.str (rowP v 0) t) := rfl
theorem row_ok1 (v : Int) (k : Nat) {x y : Str} {i j : Int} (hk : k ≤ 3) : (rowP v k).length + (Txt.item x i ++ Txt.item y j).length ≤ sizeLine := by
  have := rowP_len v k
  simp only [Str.length_append, len_item]
  show _ ≤ 2 ^ 24
  (first | lia | omega)
theorem row_ok2 (v : Int) (k : Nat) {x y z : Str} {i j l : Int} (hk : k ≤ 3) : (rowP v k ++ (Txt.item x i ++ Txt.item y j)).length + (Txt.item z l).length ≤ sizeLine := by
  have := rowP_len v k
  simp only [Str.length_append, len_item]
  show _ ≤ 2 ^ 24
  (first | lia | omega)
section
variable {prog : Program} {A : Around} {E : Value → Shared → Prop} {s : Shared} {env : Env} {h₀ : Heap} {y : Str} {body : List Stmt} {Q : Flow → Shared → Prop}
theorem iter_row {v : Int} {r : Addr} {t₀ u₀ v₀ : Tok} {m₀ : Str → Option Value} {news : List (Addr × Obj)}
    (hm : v.fdiv 4096 ∈ [(8 : Int), 4, 10]) (hh : A.handled = none) (hr : IsRange s.heap r 0 3 1 t₀ u₀ v₀) (F : Fr h₀ env.locals s.heap m₀) (N : News h₀ env.locals s.heap news)
    (h0 : ∃ ta, m₀ (Str.ofString "row") = some (.str (rowP v 0) ta)) (hxa : y ≠ Str.ofString "row")
    (turn0 : ∀ t (u : Str → Option Value) h tk own ta, Fr h₀ env.locals h (fun z => if z = y then some (.int 0 t) else if z = Str.ofString "row" then some (.str (rowP v 0) ta) else if [Str.ofString "figure", Str.ofString "above"].contains z then u z else m₀ z) → News h₀ env.locals h (own ++ news) →
      wpAny (model prog w) A (execs body env) (AccPost h₀ env.locals y (Str.ofString "row") [Str.ofString "figure", Str.ofString "above"] m₀ (fun k t => .str (rowP v k) t) 1 (own ++ news) { s with heap := h, toks := tk } Q) E { s with heap := h, toks := tk })
    (turn1 : ∀ t (u : Str → Option Value) h tk own ta, Fr h₀ env.locals h (fun z => if z = y then some (.int 1 t) else if z = Str.ofString "row" then some (.str (rowP v 1) ta) else if [Str.ofString "figure", Str.ofString "above"].contains z then u z else m₀ z) → News h₀ env.locals h (own ++ news) →
      wpAny (model prog w) A (execs body env) (AccPost h₀ env.locals y (Str.ofString "row") [Str.ofString "figure", Str.ofString "above"] m₀ (fun k t => .str (rowP v k) t) 2 (own ++ news) { s with heap := h, toks := tk } Q) E { s with heap := h, toks := tk })
    (turn2 : ∀ t (u : Str → Option Value) h tk own ta, Fr h₀ env.locals h (fun z => if z = y then some (.int 2 t) else if z = Str.ofString "row" then some (.str (rowP v 2) ta) else if [Str.ofString "figure", Str.ofString "above"].contains z then u z else m₀ z) → News h₀ env.locals h (own ++ news) →
      wpAny (model prog w) A (execs body env) (AccPost h₀ env.locals y (Str.ofString "row") [Str.ofString "figure", Str.ofString "above"] m₀ (fun k t => .str (rowP v k) t) 3 (own ++ news) { s with heap := h, toks := tk } Q) E { s with heap := h, toks := tk })
    (done : ∀ (u : Str → Option Value) h tk ta, Fr h₀ env.locals h (fun z => if z = y then u z else if z = Str.ofString "row" then some (.str (rowP v 3) ta) else if [Str.ofString "figure", Str.ofString "above"].contains z then u z else m₀ z) → News h₀ env.locals h news → Q .next { s with heap := h, toks := tk }) :
    wpAny (model prog w) A (pyIter (.ref r)) (fun it s₂ => LoopAtV prog w A h₀ env y body Q E it s₂) E s := by
  refine iter_rangeAcc (n := 3) (Str.ofString "row") [Str.ofString "figure", Str.ofString "above"] (fun k t => .str (rowP v k) t) hh hr (by decide +kernel) (by decide +kernel) F N h0 hxa ?_ done
  intro k t u h tk own ta hk F' N'
  rw [Int.zero_add] at F'
  have hk3 : k = 0 ∨ k = 1 ∨ k = 2 := by (first | lia | omega)
  rcases hk3 with e | e | e
  · subst e; rw [show ((0 : Nat) : Int) = 0 from rfl] at F'; exact turn0 t u h tk own ta F' N'
  · subst e; rw [show ((1 : Nat) : Int) = 1 from rfl] at F'; exact turn1 t u h tk own ta F' N'
  · subst e; rw [show ((2 : Nat) : Int) = 2 from rfl] at F'; exact turn2 t u h tk own ta F' N'
end
theorem Mine.words15 : True := by
  k_with "exec For Name Call cons nil" => (k_here; (rename Fr _ _ _ _ => lF'); (with_unfolding_all refine' For_invVF lF' ?k1 ?k2 ?_; (case k1 => exact rfl); (case k2 => exact rfl); k_whole))
  k_with "pyIter ref" => ((with_reducible show wpAny _ _ (pyIter (Value.ref _)) (fun it s₂ => LoopAtV _ _ _ _ _ _ _ _ _ it s₂) _ _); (rename Fr _ _ _ _ => lF'); (rename News _ _ _ _ => lN'); (rename IsRange _ _ _ _ _ _ _ _ => rgX); (with_unfolding_all refine iter_row (by assumption) (by rfl) (by exact rgX) lF' lN' ⟨_, row_zero _ _⟩ (by decide) (fun t' u' h' tk' own' ta' F' N' => ?_) (fun t' u' h' tk' own' ta' F' N' => ?_) (fun t' u' h' tk' own' ta' F' N' => ?_) (fun u' h' tk' ta' F' N' => ?_)) <;> (clear lF' lN'))
  k_with "AccPost" => (dsimp only [AccPost])
  k_with "call builtin:list.index" => (k_here; (with_reducible show wpAny _ _ (call (Value.builtin _) [Value.ref _, Value.int _ _]) _ _ _); (refine index_list_ints (vs := [_, _, _]) (ns := [8, 4, 10]) (News.isList (by k_asm) (by k_mem)) (by repeat constructor) (by rfl) (by assumption) ?_); (try dsimp only))
  k_with "subscriptTail" => (k_here; (with_reducible show wpAny _ _ (subscriptTail _ _ (Value.ref _) (Value.int _ _)) _ _ _); ktb_letter; k_dflt (refine' KTb.item_list ?ktbl ?ktbw ?ktb0 ?ktb1 ?ktbf ?_; (case ktbl => ktb_isList); (case ktbw => repeat constructor); (case ktb0 => first | decide | exact Int.natCast_nonneg _); (case ktb1 => first | decide | exact idx3 _ (by assumption)); (case ktbf => first | decide | exact Int.lt_trans (idx3 _ (by assumption)) (by decide))); intro _ ktbLt; clear ktbLt; (try dsimp only))
  k_with "inplaceOp Add str str" => ((refine SBL.iadd (hsz := ?hsz) ?_); (case hsz => first | exact row_ok1 _ _ (by decide) | exact row_ok2 _ _ (by decide)); intro _ _ kpxZ; clear kpxZ; (try dsimp only))
  trivial
theorem s_row (v : Int) (t : Tok) (h0 : 0 ≤ v) (h1 : v < 65536) (hm : v.fdiv 4096 ∈ [(8 : Int), 4, 10]) : KS w mg mb 868 [.int v t] 4 64 (fun h => True) (fun h r => ∃ t', r = .str (rowP v 3) t') := by
  unfold KS
  k_fill
  intro dp un gd outer base s Q E B X T hp hd hu ret
  k_dflt (refine' enter_def ?k1 ?k2 ?k6 ?k7 ?k8 ?k9 ?kB ?_ ?c5 ?c2 ?c3 ?c4; (case k1 => assumption); (case k2 => assumption); (case k6 => k_is); (case k7 => k_is); (case k8 => (dsimp only; (first | lia | omega))); (case k9 => exact BindsTo.of_eq rfl); (case c5 => decide); (case kB => exact locs rfl); (case c2 => exact rfl); (case c3 => exact rfl); (case c4 => exact rfl); intro L' h' F' N'; (try dsimp only); (try k_fold))
  k_steps
  all_goals first | exact ret _ _ _ (Fr.keep (by assumption)) ⟨_, rfl⟩ | (with_unfolding_all refine AccEnd.intro (by assumption) (by assumption) (by k_sub) (by rfl) (by (intro y h1 h2 h3; first | rfl | (simp at h3; simp [h1, h2, h3]; done) | (simp_all; done))) ⟨_, congrArg (fun z => Value.str z _) ?_⟩)
  all_goals rfl
end Mine
end
theorem Mine.words16 : True := by k_with_none; trivial
section
open PySem PySem.W PyProof.Rows
set_option maxRecDepth 100000
set_option maxHeartbeats 8000000
set_option linter.unusedVariables false
set_option pp.deepTerms false
namespace Mine
variable {w : World} {mg mb : Str → Option Value}
theorem s_IFMT (v : Int) (t : Tok) (h0 : 0 ≤ v) (h1 : v < 65536) : KS0 w mg mb 790 [.int v t] 1 8 (fun h => True) (fun h r => ∃ t', r = .int (Builtin.bitAnd v 61440) t') := by
  unfold KS0
  k_fill
  intro dp un gd fr s Q E X T hp hd hu ret
  k_dflt (refine' enter_def ?k1 ?k2 ?k6 ?k7 ?k8 ?k9 ?kB ?_ ?c5 ?c2 ?c3 ?c4; (case k1 => assumption); (case k2 => assumption); (case k6 => k_is); (case k7 => k_is); (case k8 => (dsimp only; (first | lia | omega))); (case k9 => exact BindsTo.of_eq rfl); (case c5 => decide); (case kB => exact locs rfl); (case c2 => exact rfl); (case c3 => exact rfl); (case c4 => exact rfl); intro L' h' F' N'; (try dsimp only); (try k_fold))
  k_steps
  all_goals exact ret _ _ _ (Fr.keep (by assumption)) ⟨_, rfl⟩
theorem s_IMODE (v : Int) (t : Tok) (h0 : 0 ≤ v) (h1 : v < 65536) : KS0 w mg mb 783 [.int v t] 1 8 (fun h => True) (fun h r => ∃ t', r = .int (Builtin.bitAnd v 4095) t') := by
  unfold KS0
  k_fill
  intro dp un gd fr s Q E X T hp hd hu ret
  k_dflt (refine' enter_def ?k1 ?k2 ?k6 ?k7 ?k8 ?k9 ?kB ?_ ?c5 ?c2 ?c3 ?c4; (case k1 => assumption); (case k2 => assumption); (case k6 => k_is); (case k7 => k_is); (case k8 => (dsimp only; (first | lia | omega))); (case k9 => exact BindsTo.of_eq rfl); (case c5 => decide); (case kB => exact locs rfl); (case c2 => exact rfl); (case c3 => exact rfl); (case c4 => exact rfl); intro L' h' F' N'; (try dsimp only); (try k_fold))
  k_steps
  all_goals exact ret _ _ _ (Fr.keep (by assumption)) ⟨_, rfl⟩
theorem Mine.words17 : True := by
  k_with "call ref" => (k_here; (with_reducible show wpAny _ _ (call (Value.ref 790) [Value.int _ _]) _ _ _); k_dflt (refine' use_KS0 (s_IFMT _ _ ?p1 ?p2) ?k1 ?k2 ?k3 ?k4 ?k5 ?k6 ?k7 ?k8 ?_; (case p1 => assumption); (case p2 => assumption); (case k1 => exact rfl); (case k2 => k_asm); (case k3 => k_asm); (case k4 => k_asm); (case k5 => k_asm); (case k6 => trivial); (case k7 => (simp only [depth_deeper, depth_in1] at *; (first | lia | omega))); (case k8 => (simp only [units_deeper, units_in1] at *; (first | lia | omega)))); intro v9 h9 tk9 F9 N9 k9 P9; obtain ⟨t9, e9⟩ := P9; subst e9; (try dsimp only); (try k_fold))
  trivial
theorem s_ISDIR (v : Int) (t : Tok) (h0 : 0 ≤ v) (h1 : v < 65536) : KS0 w mg mb 797 [.int v t] 2 16 (fun h => True) (fun h r => r = .bool (Builtin.bitAnd v 61440 == 16384)) := by
  unfold KS0
  k_fill
  intro dp un gd fr s Q E X T hp hd hu ret
  k_dflt (refine' enter_def ?k1 ?k2 ?k6 ?k7 ?k8 ?k9 ?kB ?_ ?c5 ?c2 ?c3 ?c4; (case k1 => assumption); (case k2 => assumption); (case k6 => k_is); (case k7 => k_is); (case k8 => (dsimp only; (first | lia | omega))); (case k9 => exact BindsTo.of_eq rfl); (case c5 => decide); (case kB => exact locs rfl); (case c2 => exact rfl); (case c3 => exact rfl); (case c4 => exact rfl); intro L' h' F' N'; (try dsimp only); (try k_fold))
  k_steps
  all_goals exact ret _ _ _ (Fr.keep (by assumption)) rfl
theorem s_ISLNK (v : Int) (t : Tok) (h0 : 0 ≤ v) (h1 : v < 65536) : KS0 w mg mb 804 [.int v t] 2 16 (fun h => True) (fun h r => r = .bool (Builtin.bitAnd v 61440 == 40960)) := by
  unfold KS0
  k_fill
  intro dp un gd fr s Q E X T hp hd hu ret
  k_dflt (refine' enter_def ?k1 ?k2 ?k6 ?k7 ?k8 ?k9 ?kB ?_ ?c5 ?c2 ?c3 ?c4; (case k1 => assumption); (case k2 => assumption); (case k6 => k_is); (case k7 => k_is); (case k8 => (dsimp only; (first | lia | omega))); (case k9 => exact BindsTo.of_eq rfl); (case c5 => decide); (case kB => exact locs rfl); (case c2 => exact rfl); (case c3 => exact rfl); (case c4 => exact rfl); intro L' h' F' N'; (try dsimp only); (try k_fold))
  k_steps
  all_goals exact ret _ _ _ (Fr.keep (by assumption)) rfl
end Mine
end
theorem Mine.words18 : True := by k_with_none; trivial
section
open PySem PySem.W PyProof.Rows
set_option maxRecDepth 100000
set_option maxHeartbeats 8000000
set_option linter.unusedVariables false
set_option pp.deepTerms false
set_option pp.maxSteps 6000
namespace Mine
variable {w : World} {mg mb : Str → Option Value}
noncomputable def tabsV : List (List (Int × Str)) := [[(40960, Str.ofString "l"), (49152, Str.ofString "s"), (32768, Str.ofString "-"), (24576, Str.ofString "b"), (16384, Str.ofString "d"), (8192, Str.ofString "c"), (4096, Str.ofString "p")], [(256, Str.ofString "r")], [(128, Str.ofString "w")], [(2112, Str.ofString "s"), (2048, Str.ofString "S"), (64, Str.ofString "x")], [(32, Str.ofString "r")], [(16, Str.ofString "w")], [(1032, Str.ofString "s"), (1024, Str.ofString "S"), (8, Str.ofString "x")], [(4, Str.ofString "r")], [(2, Str.ofString "w")], [(513, Str.ofString "t"), (512, Str.ofString "T"), (1, Str.ofString "x")]]
theorem tabs_ok {h : Heap} : PySem.Challenge.rw_oy0416_01 = PySem.Challenge.rw_oy0416_01 → (Mine.hd.heap_39 w.params).In h → ∃ its n, h.get? 837 = some { cls := .type "tuple", data := .seq (List.toArray its) n } ∧ TabsOK h its tabsV := by
  k_fill
  intro _ X
  exact ⟨_, _, X _ _ (by k_is), .cons (X _ _ (by k_is)) (.cons (X _ _ (by k_is)) (.cons (X _ _ (by k_is)) (.cons (X _ _ (by k_is)) (.cons (X _ _ (by k_is)) (.cons (X _ _ (by k_is)) (.cons (X _ _ (by k_is)) (.cons (X _ _ (by k_is)) (.nil)))))))) (.cons (X _ _ (by k_is)) (.cons (X _ _ (by k_is)) (.nil)) (.cons (X _ _ (by k_is)) (.cons (X _ _ (by k_is)) (.nil)) (.cons (X _ _ (by k_is)) (.cons (X _ _ (by k_is)) (.cons (X _ _ (by k_is)) (.cons (X _ _ (by k_is)) (.nil)))) (.cons (X _ _ (by k_is)) (.cons (X _ _ (by k_is)) (.nil)) (.cons (X _ _ (by k_is)) (.cons (X _ _ (by k_is)) (.nil)) (.cons (X _ _ (by k_is)) (.cons (X _ _ (by k_is)) (.cons (X _ _ (by k_is)) (.cons (X _ _ (by k_is)) (.nil)))) (.cons (X _ _ (by k_is)) (.cons (X _ _ (by k_is)) (.nil)) (.cons (X _ _ (by k_is)) (.cons (X _ _ (by k_is)) (.nil)) (.cons (X _ _ (by k_is)) (.cons (X _ _ (by k_is)) (.cons (X _ _ (by k_is)) (.cons (X _ _ (by k_is)) (.nil)))) (.nil))))))))))⟩
noncomputable def permS (v : Int) : Str := Txt.join (Str.ofString "") (permL v 0 tabsV)
theorem hit0 {v b : Int} {i : Nat} (h : (i : Int) = 0) (h2 : Builtin.bitAnd v 61440 ≠ b) : hitF v i b = false := by
  have : i = 0 := by (first | lia | omega)
  subst this
  simpa [hitF] using h2
theorem hit1 {v b : Int} {i : Nat} (h : (i : Int) ≠ 0) (h2 : Builtin.bitAnd v b ≠ b) : hitF v i b = false := by
  have : i ≠ 0 := by (first | lia | omega)
  simpa [hitF, this] using h2
theorem hit0T {v b : Int} {i : Nat} (h : (i : Int) = 0) (h2 : Builtin.bitAnd v 61440 = b) : hitF v i b = true := by
  have : i = 0 := by (first | lia | omega)
  subst this
  simpa [hitF] using h2
theorem hit1T {v b : Int} {i : Nat} (h : (i : Int) ≠ 0) (h2 : Builtin.bitAnd v b = b) : hitF v i b = true := by
  have : i ≠ 0 := by (first | lia | omega)
  simpa [hitF, this] using h2
theorem perm_step {v : Int} {i : Nat} {ps : List (Int × Str)} {pits : Array Value} {c : Str} {tc : Tok} (htab : tabsV[i]? = some ps) (hst : StrsAre pits.toList ((permL v 0 tabsV).take i)) (hc : charF v i ps = c) :
    StrsAre (pits.push (.str c tc)).toList ((permL v 0 tabsV).take (i + 1)) := by
  have e : (permL v 0 tabsV)[i]? = some c := by rw [permL_get, htab, Option.map_some, Nat.zero_add, hc]
  rw [List.take_add_one, e, Array.toList_push]
  exact strsAre_append hst (.cons _ _ .nil)
theorem perm_hit {v b : Int} {i : Nat} {ps : List (Int × Str)} {pits : Array Value} {c : Str} {tc : Tok} (htab : tabsV[i]? = some ps) (hst : StrsAre pits.toList ((permL v 0 tabsV).take i)) (hf : hitF v i b = true → ps.find? (fun q => hitF v i q.1) = some (b, c)) (hh : hitF v i b = true) :
    StrsAre (pits.push (.str c tc)).toList ((permL v 0 tabsV).take (i + 1)) :=
  perm_step htab hst (by unfold charF; rw [hf hh])
theorem perm_no {v : Int} {i : Nat} {ps : List (Int × Str)} {pits : Array Value} {c : Str} {tc : Tok} (htab : tabsV[i]? = some ps) (hst : StrsAre pits.toList ((permL v 0 tabsV).take i)) (hf : ps.find? (fun q => hitF v i q.1) = none) (hc : (if i = 0 then Str.ofString "?" else Str.ofString "-") = c) :
    StrsAre (pits.push (.str c tc)).toList ((permL v 0 tabsV).take (i + 1)) :=
  perm_step htab hst (by unfold charF; rw [hf]; exact hc)
theorem no0 {i : Nat} (h : (i : Int) = 0) : (if i = 0 then Str.ofString "?" else Str.ofString "-") = Str.ofString "?" := if_pos (by (first | lia | omega))
theorem no1 {i : Nat} (h : (i : Int) ≠ 0) : (if i = 0 then Str.ofString "?" else Str.ofString "-") = Str.ofString "-" := if_neg (by (first | lia | omega))
theorem push_le {pits : Array Value} {i : Nat} {x : Value} (h : pits.size ≤ i) : (pits.push x).size ≤ i + 1 := by rw [Array.size_push]; (first | lia | omega)
theorem charF_len (v : Int) (i : Nat) (ps : List (Int × Str)) (h : ∀ q ∈ ps, q.2.length = 1) : (charF v i ps).length = 1 := by
  unfold charF
  cases hf : ps.find? (fun q => hitF v i q.1) with
  | some q => exact h q (List.mem_of_find?_eq_some hf)
  | none =>
    show (if i = 0 then Str.ofString "?" else Str.ofString "-").length = 1
    by_cases hi : i = 0
    · rw [if_pos hi]; decide +kernel
    · rw [if_neg hi]; decide +kernel
theorem perm_lens (v : Int) : ∀ (tabs : List (List (Int × Str))) (k : Nat), (∀ ps ∈ tabs, ∀ q ∈ ps, q.2.length = 1) → ((permL v k tabs).map (·.length)).sum = tabs.length
  | [], _, _ => rfl
  | ps :: r, k, h => by
    show (charF v k ps).length + ((permL v (k + 1) r).map (·.length)).sum = _
    rw [charF_len v k ps (h ps (.head _)), perm_lens v r (k + 1) (fun p hp => h p (.tail _ hp)), List.length_cons, Nat.add_comm]
theorem tabs_one : ∀ ps ∈ tabsV, ∀ q ∈ ps, q.2.length = 1 := by decide +kernel
theorem perm_fits (v : Int) : ((permL v 0 tabsV).map (·.length)).sum + (permL v 0 tabsV).length * (Str.ofString "").length ≤ 16777216 := by
  rw [perm_lens v tabsV 0 tabs_one, permL_len]
  have : (Str.ofString "").length = 0 := by decide +kernel
  rw [this]
  exact Nat.le_of_ble_eq_true rfl
theorem Mine.words19 : True := by
  k_with "call ref" => (k_here; (with_reducible show wpAny _ _ (call (Value.ref 790) [Value.int _ _]) _ _ _); k_dflt (refine' use_KS0 (s_IFMT _ _ ?p1 ?p2) ?k1 ?k2 ?k3 ?k4 ?k5 ?k6 ?k7 ?k8 ?_; (case p1 => assumption); (case p2 => assumption); (case k1 => exact rfl); (case k2 => k_asm); (case k3 => k_asm); (case k4 => k_asm); (case k5 => k_asm); (case k6 => trivial); (case k7 => (simp only [depth_deeper, depth_in1] at *; (first | lia | omega))); (case k8 => (simp only [units_deeper, units_in1] at *; (first | lia | omega)))); intro v9 h9 tk9 F9 N9 k9 P9; obtain ⟨t9, e9⟩ := P9; subst e9; (try dsimp only); (try k_fold))
  trivial

theorem TurnP.intro {h₀ h' : Heap} {L : Addr} {stored : List Str} {m₀ m' : Str → Option Value} {news : List (Addr × Obj)} {b : Prop} {s₁ : Shared} {Q : Flow → Shared → Prop} {tk : Nat} (hb : b) (F : Fr h₀ L h' m') (N : News h₀ L h' news) (hm : ∀ y, stored.contains y = false → m' y = m₀ y) :
    TurnP h₀ L stored m₀ news b s₁ Q .next { s₁ with heap := h', toks := tk } := ⟨hb, h', tk, m', rfl, F, N, hm⟩
theorem TurnQ.intro {h₀ h' : Heap} {L : Addr} {stored : List Str} {m₀ m' : Str → Option Value} {own news : List (Addr × Obj)} {D : Addr} {xs : List Str} {k : Nat} {pits : Array Value} {pn : Nat} {s₁ : Shared} {Q : Flow → Shared → Prop} {tk : Nat} (F : Fr h₀ L h' m') (N : News h₀ L h' news)
    (hsub : ∀ p ∈ own ++ [(D, listOf pits pn)], p ∈ news) (hst : StrsAre pits.toList xs) (hz : pits.size ≤ k) (hm : ∀ y, stored.contains y = false → m' y = m₀ y) :
    TurnQ h₀ L stored m₀ own D xs k s₁ Q .next { s₁ with heap := h', toks := tk } := ⟨h', tk, m', pits, pn, news, rfl, F, N, hsub, hst, hz, hm⟩
section
variable {prog : Program} {A : Around} {E : Value → Shared → Prop} {s : Shared} {env : Env} {h₀ : Heap} {body orelse : List Stmt} {Q : Flow → Shared → Prop}
theorem fm_outer {v : Int} (h1 : v < 65536) {D : Addr} {its : List Value} {n n0 : Nat} {elts : List Expr} {kk : Nat} {tpos : Pos} {m₀ : Str → Option Value}
    (hh : A.handled = none) (hT0 : h₀.get? 837 = some { cls := .type "tuple", data := .seq its.toArray n }) (hok : TabsOK h₀ its tabsV) (F : Fr h₀ env.locals s.heap m₀) (N : News h₀ env.locals s.heap [(D, listOf #[] n0)])
    (turn : ∀ i T tits tn ps pits pn a ti (u : Str → Option Value) h tk e oe it oi, i < 10 → tabsV[i]? = some ps → h₀.get? T = some { cls := .type "tuple", data := .seq (List.toArray tits) tn } → PairsOK h₀ tits ps → pits.size ≤ i → pits.size ≤ sizeLine → StrsAre pits.toList ((permL v 0 tabsV).take i) →
      D < it → it < e → IsTup h a #[.int (i : Int) ti, .ref T] → Fr h₀ env.locals h (offm [Str.ofString "index", Str.ofString "table", Str.ofString "bit", Str.ofString "char"] u m₀) → News h₀ env.locals h [(e, oe), (it, oi), (D, listOf pits pn)] →
      wpAny (model prog w) A (assign (.Tuple elts kk tpos) env (.ref a)) (fun _ s₂ => wpAny (model prog w) A (execs body env) (TurnQ h₀ env.locals [Str.ofString "index", Str.ofString "table", Str.ofString "bit", Str.ofString "char"] m₀ [(e, oe), (it, oi)] D ((permL v 0 tabsV).take (i + 1)) (i + 1) { s with heap := h, toks := tk } Q) E s₂) E { s with heap := h, toks := tk })
    (done : ∀ pits pn (u : Str → Option Value) h tk, pits.size ≤ 10 → StrsAre pits.toList (permL v 0 tabsV) → Fr h₀ env.locals h (offm [Str.ofString "index", Str.ofString "table", Str.ofString "bit", Str.ofString "char"] u m₀) → News h₀ env.locals h [(D, listOf pits pn)] → Q .next { s with heap := h, toks := tk })
    (hE : PassesOwn (model prog w) A env E := by passes_own) :
    wpAny (model prog w) A (call (.type "enumerate") [.ref 837]) (fun xv s₁ => wpAny (model prog w) A (pyIter xv) (fun it s₂ => LoopG prog w A env (.Tuple elts kk tpos) body [] Q E it s₂) E s₁) E s :=
  enum_tabs v _ hh hT0 hok (by decide) F N turn done hE
theorem fm_inner {v : Int} (h1 : v < 65536) {i : Nat} {ps : List (Int × Str)} (_hi : tabsV[i]? = some ps) {T : Addr} {its : List Value} {n : Nat} {target : Expr} {m₀ : Str → Option Value} {news : List (Addr × Obj)}
    (hp : PairsOK h₀ its ps) (hh : A.handled = none) (hT : h₀.get? T = some { cls := .type "tuple", data := .seq its.toArray n }) (F : Fr h₀ env.locals s.heap m₀) (N : News h₀ env.locals s.heap news)
    (turn : ∀ p b tb c tc (u : Str → Option Value) h tk I o, (hitF v i b = true → ps.find? (fun q => hitF v i q.1) = some (b, c)) → (∀ q ∈ news, q.1 < I) → IsTup h p #[.int b tb, .str c tc] → Fr h₀ env.locals h (offm [Str.ofString "bit", Str.ofString "char"] u m₀) → News h₀ env.locals h ((I, o) :: news) →
      wpAny (model prog w) A (assign target env (.ref p)) (fun _ s₂ => wpAny (model prog w) A (execs body env) (TurnP h₀ env.locals [Str.ofString "bit", Str.ofString "char"] m₀ ((I, o) :: news) (hitF v i b = false) { s with heap := h, toks := tk } Q) E s₂) E { s with heap := h, toks := tk })
    (els : ∀ (u : Str → Option Value) h tk, ps.find? (fun q => hitF v i q.1) = none → Fr h₀ env.locals h (offm [Str.ofString "bit", Str.ofString "char"] u m₀) → News h₀ env.locals h news → wpAny (model prog w) A (execs orelse env) Q E { s with heap := h, toks := tk })
    (hE : PassesOwn (model prog w) A env E := by passes_own) :
    wpAny (model prog w) A (pyIter (.ref T)) (fun it s₂ => LoopG prog w A env target body orelse Q E it s₂) E s :=
  iter_pairs (hitF v i) _ hh hT hp F N turn els hE
end
theorem Mine.words20 : True := by
  k_with "exec For Tuple Call cons nil" => (k_here; with_unfolding_all refine For_G ?_)
  k_with "exec For" => (k_here; with_unfolding_all refine For_G ?_)
  k_with "call type:enumerate" => (k_here; (with_reducible show wpAny _ _ (call (Value.type _) [Value.ref 837]) _ _ _); (rename Fr _ _ _ _ => lF'); (rename News _ _ _ _ => lN'); (with_unfolding_all refine fm_outer (by assumption) (by rfl) (by assumption) (by assumption) lF' lN' (fun i' T' tits' tn' ps' pits' pn' a' ti' u' h' tk' e' oe' it' oi' hi' htab' hT' hps' hz' hz2' hst' lt1' lt2' htup' F' N' => ?_) (fun pits' pn' u' h' tk' hz' hst' F' N' => ?_)) <;> (clear lF' lN'; (try (k_lt2 lt1'; k_lt2 lt2'))))
  k_with "pyIter ref" => (k_here; (with_reducible show wpAny _ _ (pyIter (Value.ref _)) (fun it s₂ => LoopG _ _ _ _ _ _ _ _ _ it s₂) _ _); (rename Fr _ _ _ _ => lF'); (rename News _ _ _ _ => lN'); (with_unfolding_all refine fm_inner (by assumption) (by assumption) (by assumption) (by rfl) (by assumption) lF' lN' (fun p' b' tb' c' tc' u' h' tk' I' o' hfst' hlt' htup' F' N' => ?_) (fun u' h' tk' hno' F' N' => ?_)) <;> (clear lF' lN'; (try k_lt hlt')))
  k_with "TurnP" => ((with_reducible show TurnP _ _ _ _ _ _ _ _ Flow.brk _); dsimp only [TurnP])
  k_with "call builtin:str.join" => (k_here; (with_reducible show wpAny _ _ (call (Value.builtin "str.join") [Value.str _ _, Value.ref _]) _ _ _); k_dflt (refine' join_at (News.isList (by k_asm) (by k_mem)) (by assumption) (perm_fits _) ?_); intro t9 k9; (try dsimp only))
  k_with "call builtin:list.append" => (k_here; (with_reducible show wpAny _ _ (call (Value.builtin _) [Value.ref _, _]) _ _ _); k_dflt (refine' append_K ?k1 ?k2 ?k3 ?_ ?z; (case k1 => k_asm); (case k2 => k_asm); (case k3 => k_upd); (case z => assumption); k_whole); intro h' F' N'; (try k_sweep))
  trivial
theorem s_filemode (v : Int) (t : Tok) (h0 : 0 ≤ v) (h1 : v < 65536) : KS w mg mb 844 [.int v t] 4 64 (fun h => True) (fun h r => ∃ t', r = .str (permS v) t') := by
  unfold KS
  k_fill
  intro dp un gd outer base s Q E B X T hp hd hu ret
  k_dflt (refine' enter_def ?k1 ?k2 ?k6 ?k7 ?k8 ?k9 ?kB ?_ ?c5 ?c2 ?c3 ?c4; (case k1 => assumption); (case k2 => assumption); (case k6 => k_is); (case k7 => k_is); (case k8 => (dsimp only; (first | lia | omega))); (case k9 => exact BindsTo.of_eq rfl); (case c5 => decide); (case kB => exact locs rfl); (case c2 => exact rfl); (case c3 => exact rfl); (case c4 => exact rfl); intro L' h' F' N'; (try dsimp only); (try k_fold))
  obtain ⟨tabs, tn, h837, hok⟩ := tabs_ok rfl X
  k_steps
  all_goals first
    | (with_unfolding_all refine TurnP.intro (by first | exact hit0 (by assumption) (by assumption) | exact hit1 (by assumption) (by assumption)) (by assumption) (by assumption) (by intro y h1; repeat (first | refine (if_neg (ne_of_contains h1 (by decide))).trans ?_ | refine (offm_out (sub_contains (by decide) h1)).trans ?_ | exact rfl)))
    | (with_unfolding_all refine TurnQ.intro (by assumption) (by assumption) (by k_sub) (by first | exact perm_hit (by assumption) (by assumption) (by assumption) (hit0T (by assumption) (by assumption)) | exact perm_hit (by assumption) (by assumption) (by assumption) (hit1T (by assumption) (by assumption)) | exact perm_no (by assumption) (by assumption) (by assumption) (no0 (by assumption)) | exact perm_no (by assumption) (by assumption) (by assumption) (no1 (by assumption))) (by exact push_le (by assumption)) (by intro y h1; repeat (first | refine (if_neg (ne_of_contains h1 (by decide))).trans ?_ | refine (offm_out (sub_contains (by decide) h1)).trans ?_ | exact rfl)))
    | exact ret _ _ _ (Fr.keep (by assumption)) ⟨_, rfl⟩
end Mine
end
theorem Mine.words21 : True := by k_with_none; trivial
section
open PySem PySem.W PyProof.Rows
set_option maxRecDepth 100000
set_option maxHeartbeats 8000000
set_option linter.unusedVariables false
set_option pp.deepTerms false
set_option pp.maxSteps 6000
namespace Mine
variable {w : World} {mg mb : Str → Option Value}

noncomputable def comeRow (r : Str) : Str := if (Txt.slice r none (some 1) == Str.ofString ".") = true then Txt.slice r (some 1) none else r
noncomputable def comeG (x : Str) (i : Nat) (y : Value) : Prop := ∃ t, y = .str (comeRow ((Txt.split x (Str.ofString "\u000d\n")).getD i Str.empty)) t
theorem come_assign {prog : Program} {A : Around} {E : Value → Shared → Prop} {env : Env} {s : Shared} {h₀ : Heap} {x : Str} (_hx : x.length ≤ 100000) {m₀ : Str → Option Value} (_F : Fr h₀ env.locals s.heap m₀) {elt iter : Expr} {px : Pos} {scope : Scope} {cl : List (Str × Addr)} {pos : Pos} {y : Str} {py : Pos} {spos : Pos} {Q : Flow → Shared → Prop}
    (hxn : scope.names.lookup (Str.ofString "row") = some .local)
    (hh : A.handled = none) (hclos : closureFor scope env = pure cl) (hcell : ∀ y ∈ scope.names, y.2 ≠ .cell) (hkind : scope.kind = .function)
    (hnames : ∀ y ∈ scope.names, y.2 = .local → scope.names.lookup y.1 = some .local)
    (hsw : swapsWith (.ListComp elt [⟨.Name (Str.ofString "row") px, iter, [], 0⟩] scope pos) (some (.Name y py)) spos.line env = pure true)
    (hy : env.kindOf y = some .local) (hp : (env.scope.kind == .class || (env.scope.kind == .module && env.locals != env.globals)) = false)
    (h : wpAny (model prog w) A (eval iter env) (Stop fun xv s₁ => ∃ (l : Addr) (items : Array Value) (m : Str → Option Value) (news : List (Addr × Obj)), xv = .ref l ∧ s₁.os = s.os ∧ s₁.heap.IsList l items ∧ items.size ≤ sizeLine ∧ Fr h₀ env.locals s₁.heap m ∧ News h₀ env.locals s₁.heap news ∧
      (∀ (i : Nat) (v : Value), items[i]? = some v → True) ∧ Elts prog w A env scope cl elt (fun _ v m => m (Str.ofString "row") = some v) (fun _ i y fy => fy = [] ∧ comeG x i y) s₁ items ∧
      (∀ D h' tk ys nn, Fr h₀ env.locals h' (fun z => if z = y then some (.ref D) else m z) → News h₀ env.locals h' ((D, listOf ys nn) :: news) → (∀ p ∈ news, p.1 < D) → s₁.heap.objs.size ≤ D → ys.size = items.size → (∀ (j : Nat) (v : Value), ys[j]? = some v → ∃ fy, (fy = [] ∧ comeG x j v) ∧ ∀ a ∈ fy, a ≠ D ∧ s₁.heap.get? a = none) → Q .next { s₁ with heap := h', toks := tk })) E s)
    (hs : ∀ x, foldedSetIterable iter env x = pure x := by intro _; rfl) :
    wpAny (model prog w) A (exec (.Assign [.Name y py] (.ListComp elt [⟨.Name (Str.ofString "row") px, iter, [], 0⟩] scope pos) spos) env) Q E s :=
  lcs_assign (fun _ i y fy => fy = [] ∧ comeG x i y) (fun _ _ _ _ _ f _ => f) (asg_name hxn hkind) hh hclos hcell hkind hnames hsw hy hp h hs
theorem part_le (sep : Str) : ∀ (parts : List Str) (p : Str), p ∈ parts → p.length ≤ (Str.join sep parts).length
  | [], p, h => nomatch h
  | [a], p, h => by rw [List.mem_singleton.mp h]; exact Nat.le_refl _
  | a :: b :: r, p, h => by
    show _ ≤ (a ++ sep ++ Str.join sep (b :: r)).length
    rw [Str.length_append, Str.length_append]
    rcases List.mem_cons.mp h with rfl | h
    · (first | lia | omega)
    · have := part_le sep (b :: r) p h
      (first | lia | omega)
theorem split_part_le {x sep p : Str} (h : p ∈ Txt.split x sep) : p.length ≤ x.length := by
  have := part_le sep _ p h
  rwa [StrLaws.join_split] at this
theorem split_count (x sep : Str) : (Txt.split x sep).length ≤ x.length + 2 := by
  unfold Txt.split
  split
  · exact Nat.le_add_left _ _
  · split
    · exact Nat.le_add_left _ _
    · rw [length_partsBetween]
      have := StrLaws.occ_length_le x sep 0 x.length (x.length + 1)
      (first | lia | omega)
theorem come_size {x sep : Str} {l : List (Str × Tok)} (hE : l.map (·.1) = Txt.split x sep) (hx : x.length ≤ 100000) : (strValues l).toArray.size ≤ sizeLine := by
  have h1 := split_count x sep
  rw [← hE, List.length_map] at h1
  have h2 : (strValues l).toArray.size = l.length := by simp [strValues]
  rw [h2]
  show _ ≤ 2 ^ 24
  (first | lia | omega)
theorem come_item {x sep : Str} {l : List (Str × Tok)} {i : Nat} {v : Value} (hE : l.map (·.1) = Txt.split x sep) (hv : (strValues l).toArray[i]? = some v) : ∃ s t, v = .str s t ∧ (Txt.split x sep).getD i Str.empty = s ∧ s.length ≤ x.length := by
  have hv' : (strValues l)[i]? = some v := by simpa using hv
  unfold strValues at hv'
  rw [List.getElem?_map] at hv'
  cases hl : l[i]? with
  | none => rw [hl] at hv'; cases hv'
  | some p =>
    rw [hl] at hv'
    cases hv'
    have e : (Txt.split x sep)[i]? = some p.1 := by rw [← hE, List.getElem?_map, hl]; rfl
    exact Mine.in2 (p.1) (p.2) ⟨rfl, by rw [List.getD_eq_getElem?_getD, e]; rfl, split_part_le (List.mem_of_getElem? e)⟩
noncomputable def comeS (x : Str) : Str := Txt.join (Str.ofString "\n") ((Txt.split x (Str.ofString "\u000d\n")).map comeRow)
theorem slice_le (r : Str) (a b : Option Int) : (Txt.slice r a b).length ≤ r.length := Txt.slice_le r a b
theorem comeRow_le (r : Str) : (comeRow r).length ≤ r.length := by
  unfold comeRow
  split
  · exact slice_le _ _ _
  · exact Nat.le_refl _
theorem sum_split (x sep : Str) : ((Txt.split x sep).map (·.length)).sum ≤ x.length := by
  have h := size_glued sep (Txt.split x sep)
  rw [StrLaws.glued_eq_join, StrLaws.join_split] at h
  (first | lia | omega)
theorem come_fits {x : Str} (hx : x.length ≤ 100000) : ((((Txt.split x (Str.ofString "\u000d\n")).map comeRow).map (·.length)).sum + ((Txt.split x (Str.ofString "\u000d\n")).map comeRow).length * (Str.ofString "\n").length ≤ 16777216) := by
  have h1 := sum_split x (Str.ofString "\u000d\n")
  have h2 := split_count x (Str.ofString "\u000d\n")
  have h3 : ∀ l : List Str, ((l.map comeRow).map (·.length)).sum ≤ (l.map (·.length)).sum := by
    intro l
    induction l with
    | nil => exact Nat.le_refl _
    | cons a r ih =>
      have := comeRow_le a
      simp only [List.map_cons, List.sum_cons]
      (first | lia | omega)
  have h4 := h3 (Txt.split x (Str.ofString "\u000d\n"))
  have h5 : (Str.ofString "\n").length = 1 := by decide +kernel
  rw [List.length_map, h5]
  (first | lia | omega)
theorem strs_by : ∀ {vs : List Value} {ts : List Str}, vs.length = ts.length → (∀ (j : Nat) (v : Value), vs[j]? = some v → ∃ t, v = .str (ts.getD j Str.empty) t) → StrsAre vs ts
  | [], [], _, _ => .nil
  | v :: vs, a :: ts, h, k => by
    obtain ⟨t, e⟩ := k 0 v rfl
    rw [e]
    exact .cons _ _ (strs_by (Nat.succ.inj h) fun j w e => k (j + 1) w e)
theorem come_strs {x : Str} {ys : Array Value} {l : List (Str × Tok)} {P : Nat → List Addr → Prop} (hE : l.map (·.1) = Txt.split x (Str.ofString "\u000d\n")) (hys : ys.size = (strValues l).toArray.size) (hG : ∀ (j : Nat) (v : Value), ys[j]? = some v → ∃ fy, (fy = [] ∧ comeG x j v) ∧ P j fy) :
    StrsAre ys.toList ((Txt.split x (Str.ofString "\u000d\n")).map comeRow) := by
  have hn : ys.toList.length = (Txt.split x (Str.ofString "\u000d\n")).length := by
    rw [← hE, List.length_map, Array.length_toList, hys]
    simp [strValues]
  refine strs_by (by rw [List.length_map]; exact hn) fun j v e => ?_
  (have hZ1 := hG j v (by simpa using e); (refine Mine.xa1_2 hZ1 ?_; clear hZ1; intro fy eZ3 _; (obtain ⟨_, t, h⟩ := eZ3)))
  refine ⟨t, h.trans ?_⟩
  have hj : j < (Txt.split x (Str.ofString "\u000d\n")).length := by
    rw [← hn]
    exact (List.getElem?_eq_some_iff.mp e).1
  rw [List.getD_eq_getElem?_getD, List.getD_eq_getElem?_getD, List.getElem?_map, List.getElem?_eq_getElem hj]
  rfl
theorem Mine.words22 : True := by
  k_with "call builtin:str.join" => (k_here; (with_reducible show wpAny _ _ (call (Value.builtin "str.join") [Value.str _ _, Value.ref _]) _ _ _); k_dflt (refine' join_at (News.isList (by k_asm) (by k_mem)) (by assumption) (come_fits (by assumption)) ?_); intro t9 k9; (try dsimp only))
  k_with "eval Name" => (k_here; (with_reducible show wpAny _ _ (eval (PySem.Expr.Name _ _) (compEnvC _ _ _ _)) _ _ _); k_dflt (first | (with_unfolding_all refine ld_comp (by k_asm) (by assumption) ?_) | refine ld_globalR (by k_asm) (by k_asm) (by k_asm) (by k_is) ?_ | refine ld_builtR (by k_asm) (by k_asm) (by k_asm) (by k_is) (by boot_by_name) (by decide) ?_))
  k_with "exec Assign cons ListComp" => (k_here; (with_reducible show wpAny _ _ (exec (Stmt.Assign [Expr.Name _ _] (Expr.ListComp _ _ _ _) _) _) _ _ _); (rename Fr _ _ _ _ => lF'); (with_unfolding_all refine come_assign (by assumption) lF' (by rfl) (by rfl) (by rfl) (by decide) (by rfl) (by decide) (by rfl) (by rfl) (by rfl) ?_))
  trivial
theorem s_come (x : Str) (t : Tok) (hx : x.length ≤ 100000) : KS w mg mb 861 [.str x t] 4 64 (fun h => True) (fun h r => ∃ t', r = .str (comeS x) t') := by
  unfold KS
  k_fill
  intro dp un gd outer base s Q E B X T hp hd hu ret
  k_dflt (refine' enter_def ?k1 ?k2 ?k6 ?k7 ?k8 ?k9 ?kB ?_ ?c5 ?c2 ?c3 ?c4; (case k1 => assumption); (case k2 => assumption); (case k6 => k_is); (case k7 => k_is); (case k8 => (dsimp only; (first | lia | omega))); (case k9 => exact BindsTo.of_eq rfl); (case c5 => decide); (case kB => exact locs rfl); (case c2 => exact rfl); (case c3 => exact rfl); (case c4 => exact rfl); intro L' h' F' N'; (try dsimp only); (try k_fold))
  k_steps
  unfold Stop
  rename Fr _ _ _ _ => hF1
  rename News _ _ _ _ => hN1
  rename Heap.IsList _ _ _ => hL1
  rename (List.map _ _ = Txt.split _ _) => hE
  have X1 := X.keeps hF1.keep
  have T1 := T.keeps hF1.keep
  refine Mine.in4 _ _ _ _ ⟨rfl, rfl, hL1, come_size hE hx, hF1, hN1, fun _ _ _ => trivial, ?_, ?_⟩
  · intro C i v b₃ h₃ tk₃ m₃ rest E' hv hb hbk F3 N3 hall
    (have hZ5 := come_item hE hv; (refine Mine.xa2_3 hZ5 ?_; clear hZ5; intro s' t' eZ8 hs' hs2; subst eZ8))
    have hs3 : s'.length ≤ 100000 := Nat.le_trans hs2 hx
    try dsimp only
    have X3 := X1.keeps hbk
    have T3 := T1.keeps hbk
    clear hF1 hN1 hL1
    k_steps
    all_goals (try dsimp only)
    all_goals refine elt_done (fy := []) hall (by assumption) (by assumption) (by k_sub) ⟨rfl, _, congrArg (fun z => Value.str z _) ?_⟩ (fun a ha => nomatch ha)
    · rw [hs']; symm; unfold comeRow; exact if_pos (by assumption)
    · rw [hs']; symm; unfold comeRow; exact if_neg (ne_true_of_eq_false (by assumption))
  · intro D h4 tk4 ys nn F4 N4 hlt hD hys hG
    have hst := come_strs hE hys hG
    try dsimp only
    k_steps
    all_goals exact ret _ _ _ (Fr.keep (by assumption)) ⟨_, rfl⟩
end Mine
end
theorem Mine.words23 : True := by k_with_none; trivial
section
open PySem PySem.W PyProof.Rows
set_option maxRecDepth 100000
set_option maxHeartbeats 8000000
set_option linter.unusedVariables false
namespace Mine
section
variable {prog : Program} {w : World} {A A₀ : Around} {s : Shared} {K : Frag} {L : Addr} {h₀ base : Heap} {m mg mb : Str → Option Value} {news : List (Addr × Obj)} {p : Program} {loose : List Str}
  {env : Env} {outer : List Env} {R : Result → Shared → Prop} {name qual : Str} {params : Arguments} {body : List Stmt} {scope : Scope} {dV kV doc pm cdv ct oc : Value} {an od : Option Addr} {osl : Array (Option Value)} {f : Addr} {args : Args} {binds : List (Str × Value)}
theorem go_def (B : Below A₀ base outer h₀) (F : Fr h₀ L s.heap m) (X₀ : K.In h₀) (N : News h₀ L s.heap news) (T : TopRead p loose mg mb h₀) (hA : A.frames = some (env :: outer)) (hf : env.frame = some L) (hke : env.scope.kind = .function)
    (ho : K.lookup f = some ⟨oc, od, .func (fnOf name qual params body scope dV kV doc pm an cdv ct), osl⟩) (hcd : codeIn K cdv qual = true) (hroom : A.depth < recursionLimit)
    (hbind : BindsTo s (fnOf name qual params body scope dV kV doc pm an cdv ct) args binds) (hloc : ∀ y ∈ binds, scope.names.lookup y.1 = some .local)
    (h : ∀ g L' h₁, Fr h₀ L g m → Fr g L' h₁ (fun y => binds.reverse.lookup y) → News g L' h₁ news → Below A base (env :: outer) g → K.In g → TopRead p loose mg mb g →
      wpAny (model prog w) (A.deeper (envOf qual scope L' f cdv)) (execs body (envOf qual scope L' f cdv))
        (fun fl s' => LeaveK h₀ L m g R (match fl with | .ret v => v | _ => .none) s')
        (fun _ _ => False)
        { s with heap := h₁, toks := s.toks + binds.length })
    (hco : scope.isCoroutine = false) (hgen : scope.isGenerator = false) (hk : scope.kind = .function) (hcell : ∀ x ∈ scope.names, x.2 ≠ .cell) : codeAny (model prog w) A (.call (.ref f) args) R s :=
  callX_plain (cl := []) B F N T.nolimit hA hf hke ((X₀.keeps F.keep) _ _ ho) rfl (codeRec_of (X₀.keeps F.keep) hcd) hroom hbind hloc (fun g L' h₁ FG F' N' B' st _ => wpAny_mono (h g L' h₁ FG F' N' B' (X₀.keeps st) (T.keeps st)) (fun _ _ y => y) (fun _ _ y => y.elim)) hcell hco hgen hk
theorem go_both {vs : List Value} {g₁ : Addr → Sem (List (Str × Value))} {g₂ : Addr → Addr → Sem (List (Str × Value))} {bs : Addr → Addr → List (Str × Value)}
    (B : Below A₀ base outer h₀) (F : Fr h₀ L s.heap m) (X₀ : K.In h₀) (N : News h₀ L s.heap news) (T : TopRead p loose mg mb h₀) (hA : A.frames = some (env :: outer)) (hf : env.frame = some L) (hke : env.scope.kind = .function)
    (ho : K.lookup f = some ⟨oc, od, .func (fnOf name qual params body scope dV kV doc pm an cdv ct), osl⟩) (hcd : codeIn K cdv qual = true) (hroom : A.depth < recursionLimit)
    (hp : peekA K ⟨prog, w.params⟩ (bindArgs (fnOf name qual params body scope dV kV doc pm an cdv ct) args) = some (({ cls := .type "tuple", data := .seq vs.toArray } : Obj), g₁))
    (hp₂ : ∀ D, peekA K ⟨prog, w.params⟩ (g₁ D) = some (dictOf [] 0, g₂ D)) (hk₂ : ∀ C D, g₂ C D = pure (bs C D)) (hloc : ∀ C D, ∀ y ∈ bs C D, scope.names.lookup y.1 = some .local)
    (h : ∀ C D g L' h₁ tk, (∀ p ∈ news, p.1 < C) → C < D → Fr h₀ L g m → Fr g L' h₁ (fun y => (bs C D).reverse.lookup y) → News g L' h₁ news → Below A base (env :: outer) g → K.In g → TopRead p loose mg mb g →
      wpAny (model prog w) (A.deeper (envOf qual scope L' f cdv)) (execs body (envOf qual scope L' f cdv))
        (fun fl s' => LeaveK h₀ L m g R (match fl with | .ret v => v | _ => .none) s')
        (fun _ _ => False)
        { s with heap := h₁, toks := tk })
    (hco : scope.isCoroutine = false) (hgen : scope.isGenerator = false) (hk : scope.kind = .function) (hcell : ∀ x ∈ scope.names, x.2 ≠ .cell) : codeAny (model prog w) A (.call (.ref f) args) R s := by
  refine codeAny_call_function (fd := fnOf name qual params body scope dV kV doc pm an cdv ct) (body := body) hroom ((X₀.keeps F.keep) _ _ ho) rfl hco hgen rfl (codeRec_of (X₀.keeps F.keep) hcd) ?_
  refine wp_of_peekA (o := ({ cls := .type "tuple", data := .seq vs.toArray } : Obj)) F N (X₀.keeps F.keep) rfl _ g₁ hp fun h' F' N' l => ?_
  refine wp_of_peekA (s := { s with heap := h' }) (o := dictOf [] 0) F' N' (X₀.keeps F'.keep) rfl _ (g₂ s.heap.objs.size) (hp₂ _) fun h'' F'' N'' l' => ?_
  rw [hk₂]
  refine wpAny_pure ?_
  exact kp_frame (cl := []) (s := { s with heap := h'' }) B F'' N'' T.nolimit hA hf hke (hloc _ _)
    (fun g L' h₁ FG FL NG BG st => wpAny_mono (h _ _ g L' h₁ _ l (l' _ (.head _)) FG FL (fun p hp => NG p (.tail _ (.tail _ hp))) BG (X₀.keeps st) (T.keeps st)) (fun _ _ y => y) (fun _ _ y => y.elim)) hcell hk
end
section
variable {prog : Program} {w : World} {A : Around} {E : Value → Shared → Prop} {s : Shared} {K : Frag} {C fI : Addr} {Q : Value → Shared → Prop}
noncomputable def NewBack (M : Model) (A : Around) (K : Frag) (C fI : Addr) (rest : List Value) (kw : List (Str × Value)) (Q E : Value → Shared → Prop) (v : Value) (s' : Shared) : Prop :=
  ∃ x, v = .ref x ∧ (∃ o, s'.heap.get? x = some o ∧ o.cls = .ref C) ∧ K.In s'.heap ∧ wpAny M A (call (.ref fI) (.ref x :: rest) kw) (fun r s'' => r = .none ∧ Q (.ref x) s'') E s'
theorem NewBack.intro {M : Model} {h₀ : Heap} {L x : Addr} {ox : Obj} {od : Option Obj} {m : Str → Option Value} {rest : List Value} {kw : List (Str × Value)} (F : Fr h₀ L s.heap m) (X₀ : K.In h₀) (I : InstAt s.heap x ox C od)
    (h : wpAny M A (call (.ref fI) (.ref x :: rest) kw) (fun r s'' => r = .none ∧ Q (.ref x) s'') E s) : NewBack M A K C fI rest kw Q E (.ref x) s := ⟨x, rfl, ⟨_, I.at_, I.cls⟩, X₀.keeps F.keep, h⟩
theorem call_ownNew {oc : Value} {od : Option Addr} {cd : ClassData} {sl : Array (Option Value)} {rest : List Value} {kw : List (Str × Value)} (X : K.In s.heap) (ho : K.lookup C = some ⟨oc, od, .cls cd, sl⟩) (hm : cd.mro.isEmpty = false)
    (hc : specialIn K (.ref C) "__call__" = some (some (.builtin "type.__call__"))) (ht : instIn K (.ref C) (.type "type") = some true) (hmade : ∀ S, peek K S (Bind.madeBy (.ref C)) = some none) (hself : mroIn K C (.ref C) = some true)
    (hi : findIn K (.ref C) "__init__" = some (some (.ref fI))) (hf : typeIn K (.ref fI) = some (.type "function"))
    (h : wpAny (model prog w) (A.under (.builtin "type.__call__" ⟨.ref C :: rest, kw⟩)) (getAttr (.ref C) "__new__") (fun new s₁ => wpAny (model prog w) (A.under (.builtin "type.__call__" ⟨.ref C :: rest, kw⟩)) (call new (.ref C :: rest) kw)
      (NewBack (model prog w) (A.under (.builtin "type.__call__" ⟨.ref C :: rest, kw⟩)) K C fI rest kw Q E) E s₁) E s) :
    wpAny (model prog w) A (call (.ref C) rest kw) Q E s := by
  have hC := X _ _ ho
  have call := looks_specialIn (M := model prog w) X hc
  have typ := looks_instIn (M := model prog w) X ht
  have made : Looks (model prog w) s.heap (Bind.madeBy (.ref C)) none := Looks.of_peek X (hmade _)
  refine wpAny_call (codeAny_of_tree ?_)
  show wpAny _ _ (callAny (.ref C) _) _ _ _
  refine nd_load hC ?_
  show wpAny _ _ (callAny.viaDunder (.ref C) _) _ _ _
  unfold callAny.viaDunder
  refine wpAny_bind (call.here ?_)
  dsimp only
  rw [tc_bind]
  refine wpAny_bind (wpAny_pure (wpAny_bind (wpAny_pure ?_)))
  refine wpAny_pure (a := Fin.again (.call (.builtin "type.__call__") ⟨.ref C :: rest, kw⟩)) (And.intro rfl ?_)
  refine codeAny_call_builtin_at (Code.quiet_builtin _ (by decide +kernel)) entry_typeCall (check_slot tc_kind tc_split typ (tc_args _ _ _) ?_)
  unfold Builtin.«type.__call__»
  have hmr : Looks (model prog w) s.heap (mroOf (.ref C)) cd.mro := ((Looks.ld (part := none) hC).andThen .now).andThen .now
  dsimp only
  rw [if_neg (by simp)]
  refine wpAny_bind (hmr.here ?_)
  rw [hm, if_neg (by decide)]
  refine wpAny_bind (made.here ?_)
  dsimp only
  refine wpAny_bind (wpAny_mono h (fun new s₁ h₁ => ?_) fun _ _ e => e)
  refine wpAny_bind (wpAny_holding (wpAny_mono h₁ (fun v s₂ h₂ => ?_) fun _ _ e => e))
  obtain ⟨x, rfl, ⟨o, hx, hcx⟩, X₂, h₂⟩ := h₂
  have t1 : Looks (model prog w) s₂.heap (typeOf (.ref x)) (.ref C) := hcx ▸ (Looks.ld (part := none) hx).andThen .now
  have i1 : Looks (model prog w) s₂.heap (isInstance (.ref x) (.ref C)) true := t1.andThen (looks_mroIn X₂ hself)
  refine wpAny_bind (i1.here ?_)
  rw [if_neg (by decide)]
  unfold callSpecial? specialOf
  refine wpAny_bind (wpAny_holding (wpAny_bind (wpAny_bind (t1.here ((looks_findIn X₂ hi).here ?_)))))
  dsimp only
  refine wpAny_holding (wpAny_bind ((bind_fn X₂ _ hf).here (wpAny_bind (wpAny_mono h₂ (fun r s₃ h₃ => ?_) fun _ _ e => e))))
  obtain ⟨rfl, h₃⟩ := h₃
  refine wpAny_pure ?_
  dsimp only
  rw [if_neg (by decide)]
  exact wpAny_pure h₃
theorem objNew_call {oc : Value} {od : Option Addr} {cd : ClassData} {sl : Array (Option Value)} {L : Addr} {h₀ : Heap} {m : Str → Option Value} {news : List (Addr × Obj)} (F : Fr h₀ L s.heap m) (X₀ : K.In h₀) (N : News h₀ L s.heap news)
    (ho : K.lookup C = some ⟨oc, od, .cls cd, sl⟩) (e1 : cd.abstract = false) (e2 : cd.hasDel = false) (ht : instIn K (.ref C) (.type "type") = some true) (htop : mroIn K C (.type "object") = some true) (hb : ∀ S, peek K S (Bind.staticBase (.ref C)) = some (.type "object")) (hmb : ∀ S, peek K S (Bind.madeBy (.type "object")) = some (some "object.__new__"))
    (hq : ∀ x dx h', Fr h₀ L h' m → News h₀ L h' ((x, instObj C dx) :: (dx, dictOf [] 0) :: news) → (∀ p ∈ news, p.1 < dx) → dx < x → Q (.ref x) { s with heap := h' }) :
    wpAny (model prog w) A (call (.builtin "object.__new__") [.ref C]) Q E s := by
  have X := X₀.keeps F.keep
  have hC := X _ _ ho
  have typ := looks_instIn (M := model prog w) X ht
  have top := looks_mroIn (M := model prog w) X htop
  have base : Looks (model prog w) s.heap (Bind.staticBase (.ref C)) (.type "object") := Looks.of_peek X (hb _)
  have madeb : Looks (model prog w) s.heap (Bind.madeBy (.type "object")) (some "object.__new__") := Looks.of_peek X (hmb _)
  have here : Looks (model prog w) s.heap (Bind.madeHere "object.__new__" (.ref C)) () := base.andThen (madeb.andThen (Looks.of_pure (by simp only [Option.map_some, bne_self_eq_false, Bool.false_eq_true, if_false])))
  have F9 := PySem.F.objNew
  obtain ⟨h, g, d, t, os⟩ := s
  have N' := (N.push F emptyDict).push (F.push _) (instObj C h.objs.size)
  rw [Heap.size_push] at N'
  have fin := hq (h.objs.size + 1) h.objs.size _ ((F.push emptyDict).push (instObj C h.objs.size)) N' (fun p hp => Heap.lt_size (N p hp).1) (Nat.lt_succ_self _)
  refine wpAny_call (codeAny_call_builtin_code (Code.quiet_builtin _ F9.quiet) ?_)
  simp only [checkBuiltinCall, F9.kind, F9.split, F9.row]
  have args : Bind.checkArgs "object.__new__" ⟨.hand, "object.__new__", "__new__", .cls, []⟩ ⟨[.ref C], []⟩ = pure () := by kernel_rfl
  rw [args]
  repeat (first | simp only [bne_self_eq_false, Bool.false_eq_true, if_false] | lk)
  refine codeAny_builtin F9.entry ?_
  unfold Builtin.«object.__new__»
  repeat (first | simp only [e1, Bool.false_eq_true, if_false] | lk)
  refine wpAny_load (Heap.get?_push_of_some _ (Heap.get?_push_of_some _ hC)) (wpAny_pure ?_)
  rw [e2]
  refine wpAny_pure (wpAny_pure ?_)
  show Q (.ref (h.push emptyDict).objs.size) _
  rw [Heap.size_push]
  exact fin
end
end Mine
end
section
open PySem PySem.W PyProof.Rows
set_option maxRecDepth 100000
set_option maxHeartbeats 8000000
set_option linter.unusedVariables false
namespace Mine
noncomputable def KB (w : World) (mg mb : Str → Option Value) (f : Addr) (vs : List Value) (d u : Nat) (hs : List (Addr × Obj)) (Post : Heap → Value → Prop) : Prop :=
  ∀ (dp un : Nat) (gd : Option (List Code)) (outer : List Env) (base : Heap) (s : Shared) (Q E : Value → Shared → Prop),
    Below { handled := none, depth := dp, frames := some outer, guards := gd, units := un } base outer (hideAll s.heap (hs.map (·.1))) → (Mine.hd.heap_39 w.params).In (hideAll s.heap (hs.map (·.1))) → TopRead Mine.hd.view_39 LO mg mb (hideAll s.heap (hs.map (·.1))) →
    (∀ p ∈ hs, s.heap.get? p.1 = some p.2) → dp + d < recursionLimit → un + u < cLine →
    (∀ v h' tk', (∀ b o, b ∉ hs.map (·.1) → s.heap.get? b = some o → h'.get? b = some o) → Post h' v → Q v { s with heap := h', toks := tk' }) →
    wpAny (model PySem.Challenge.rw_oy0416_01.row.prog w) { handled := none, depth := dp, frames := some outer, guards := gd, units := un } (call (.ref f) vs) Q E s
section
variable {w : World} {mg mb : Str → Option Value} {f : Addr} {vs : List Value} {d u : Nat} {hs : List (Addr × Obj)} {Post : Heap → Value → Prop}
variable {A A₀ : Around} {outer : List Env} {base h₀ : Heap} {s : Shared} {Q E : Value → Shared → Prop} {L : Addr} {m : Str → Option Value} {news : List (Addr × Obj)} {env : Env}
theorem use_KB (C : KB w mg mb f vs d u hs Post) (hsub : ∀ p ∈ hs, p ∈ news) (hh : A.handled = none) (B : Below A₀ base outer h₀) (F : Fr h₀ L s.heap m) (N : News h₀ L s.heap news) (X : (Mine.hd.heap_39 w.params).In h₀)
    (T : TopRead Mine.hd.view_39 LO mg mb h₀) (hA : A.frames = some (env :: outer)) (hf : env.frame = some L) (hke : env.scope.kind = .function)
    (hd : A.depth + d < recursionLimit) (hu : A.units + u < cLine)
    (ret : ∀ v h' tk', Fr h₀ L h' m → (∀ news', (∀ p ∈ news', (p ∈ news ∧ p.1 ∉ hs.map (·.1)) ∨ (p.1 ∈ hs.map (·.1) ∧ h'.get? p.1 = some p.2)) → News h₀ L h' news') → Post h' v → Q v { s with heap := h', toks := tk' }) :
    wpAny (model PySem.Challenge.rw_oy0416_01.row.prog w) A (call (.ref f) vs) Q E s := by
  have N' : News h₀ L s.heap hs := fun p hp => N p (hsub p hp)
  obtain ⟨FG, BG, st, _⟩ := groundX (R := fun _ _ => True) B F N' hA hf hke
  obtain ⟨hA1, hA2, hA3, hA4, hA5⟩ := A
  dsimp only at hh hA
  subst hh hA
  have nm : ∀ b o, h₀.get? b = some o → b ∉ hs.map (·.1) := fun b o e q => by
    obtain ⟨p, hp, rfl⟩ := List.mem_map.mp q
    rw [(N' p hp).2.2] at e; cases e
  have nL : L ∉ hs.map (·.1) := fun q => by
    obtain ⟨p, hp, e⟩ := List.mem_map.mp q
    exact (N' p hp).2.1 e
  refine C hA2 hA5 hA4 (env :: outer) base s Q E ⟨rfl, BG.stays, BG.frames⟩ (X.keeps st) (T.keeps st) (fun p hp => (N' p hp).1) hd hu fun v h' tk' k P => ret v h' tk' ?_ (fun news' hn p hp => ?_) P
  · obtain ⟨oL, es, ep, hL, r⟩ := F.ns
    exact ⟨⟨oL, es, ep, k _ _ nL hL, r⟩, fun b o e => k b o (nm b o e) (F.keep b o e), F.above⟩
  · rcases hn p hp with ⟨h1, h2⟩ | ⟨h1, h2⟩
    · exact ⟨k _ _ h2 (N p h1).1, (N p h1).2⟩
    · obtain ⟨q, hq, e⟩ := List.mem_map.mp h1
      exact ⟨h2, e ▸ (N' q hq).2⟩
end
section
variable {w : World} {A A₀ : Around} {base : Heap} {outer : List Env} {s : Shared} {K : Frag} {Q E : Value → Shared → Prop} {hs : List (Addr × Obj)}
theorem enter_KBE {name qual : Str} {params : Arguments} {body : List Stmt} {scope : Scope} {dV kV doc pm cdv ct oc : Value} {an od : Option Addr} {osl : Array (Option Value)} {f : Addr} {vs : List Value} {kw : List (Str × Value)} {binds : List (Str × Value)}
    {p : Program} {loose : List Str} {mg mb : Str → Option Value} {prog : Program}
    (X : K.In (hideAll s.heap (hs.map (·.1)))) (T : TopRead p loose mg mb (hideAll s.heap (hs.map (·.1)))) (hh : ∀ p ∈ hs, s.heap.get? p.1 = some p.2)
    (ho : K.lookup f = some ⟨oc, od, .func (fnOf name qual params body scope dV kV doc pm an cdv ct), osl⟩) (hcd : codeIn K cdv qual = true) (hroom : A.depth < recursionLimit)
    (hbind : BindsTo s (fnOf name qual params body scope dV kV doc pm an cdv ct) ⟨vs, kw⟩ binds) (hloc : ∀ y ∈ binds, scope.names.lookup y.1 = some .local)
    (B : Below A₀ base outer (hideAll s.heap (hs.map (·.1))))
    (h : ∀ b₀ L' h₁, (∀ b o, b ∉ hs.map (·.1) → s.heap.get? b = some o → b₀.get? b = some o) → Below A₀ base outer b₀ → K.In b₀ → TopRead p loose mg mb b₀ → Fr b₀ L' h₁ (fun y => binds.reverse.lookup y) → News b₀ L' h₁ hs →
      wpAny (model prog w) (A.deeper (envOf qual scope L' f cdv)) (execs body (envOf qual scope L' f cdv))
        (fun fl s' => Q (match fl with | .ret v => v | _ => .none) s')
        (fun e s' => wpAny (model prog w) (A.deeper (envOf qual scope L' f cdv)) (leaving (envOf qual scope L' f cdv) e) (fun _ s'' => E e s'') (fun e' s'' => E e' s'') s')
        { s with heap := h₁, toks := s.toks + binds.length })
    (hcell : ∀ x ∈ scope.names, x.2 ≠ .cell) (hco : scope.isCoroutine = false) (hgen : scope.isGenerator = false) (hk : scope.kind = .function) :
    wpAny (model prog w) A (call (.ref f) vs kw) Q E s := by
  have st : (hideAll s.heap (hs.map (·.1))).StaysIn s.heap := fun b o e => of_hideAll _ e
  refine wpAny_call ?_
  refine codeAny_call_def (fd := fnOf name qual params body scope dV kV doc pm an cdv ct) (body := body) (binds := binds) hroom (X.keeps st _ _ ho) rfl (T.keeps st).nolimit (codeRec_of (X.keeps st) hcd) rfl hbind hcell hloc (fun h₁ hns hk₁ => ?_) hco hgen hk
  refine h _ s.heap.objs.size h₁ (fun b o hb e => hideAll_get _ e hb) B X T ⟨hns, fun b o e => hk₁ b o (st b o e), Nat.le_of_eq (hideAll_size _ _)⟩ fun p hp => ⟨hk₁ _ _ (hh p hp), Nat.ne_of_lt (Heap.lt_size (hh p hp)), hideAll_none _ (List.mem_map_of_mem hp)⟩
theorem enter_KB {name qual : Str} {params : Arguments} {body : List Stmt} {scope : Scope} {dV kV doc pm cdv ct oc : Value} {an od : Option Addr} {osl : Array (Option Value)} {f : Addr} {vs : List Value} {kw : List (Str × Value)} {binds : List (Str × Value)}
    {p : Program} {loose : List Str} {mg mb : Str → Option Value} {prog : Program}
    (X : K.In (hideAll s.heap (hs.map (·.1)))) (T : TopRead p loose mg mb (hideAll s.heap (hs.map (·.1)))) (hh : ∀ p ∈ hs, s.heap.get? p.1 = some p.2)
    (ho : K.lookup f = some ⟨oc, od, .func (fnOf name qual params body scope dV kV doc pm an cdv ct), osl⟩) (hcd : codeIn K cdv qual = true) (hroom : A.depth < recursionLimit)
    (hbind : BindsTo s (fnOf name qual params body scope dV kV doc pm an cdv ct) ⟨vs, kw⟩ binds) (hloc : ∀ y ∈ binds, scope.names.lookup y.1 = some .local)
    (B : Below A₀ base outer (hideAll s.heap (hs.map (·.1))))
    (h : ∀ b₀ L' h₁, (∀ b o, b ∉ hs.map (·.1) → s.heap.get? b = some o → b₀.get? b = some o) → Below A₀ base outer b₀ → K.In b₀ → TopRead p loose mg mb b₀ → Fr b₀ L' h₁ (fun y => binds.reverse.lookup y) → News b₀ L' h₁ hs →
      wpAny (model prog w) (A.deeper (envOf qual scope L' f cdv)) (execs body (envOf qual scope L' f cdv))
        (fun fl s' => Q (match fl with | .ret v => v | _ => .none) s')
        (fun _ _ => False)
        { s with heap := h₁, toks := s.toks + binds.length })
    (hcell : ∀ x ∈ scope.names, x.2 ≠ .cell) (hco : scope.isCoroutine = false) (hgen : scope.isGenerator = false) (hk : scope.kind = .function) :
    wpAny (model prog w) A (call (.ref f) vs kw) Q E s :=
  enter_KBE X T hh ho hcd hroom hbind hloc B (fun b₀ L' h₁ k B' X' T' F' N' => wpAny_mono (h b₀ L' h₁ k B' X' T' F' N') (fun _ _ y => y) (fun _ _ y => y.elim)) hcell hco hgen hk
theorem keepB {h h' b₀ : Heap} {L : Addr} {m : Str → Option Value} (k : ∀ b o, b ∉ hs.map (·.1) → h.get? b = some o → b₀.get? b = some o) (F : Fr b₀ L h' m) : ∀ b o, b ∉ hs.map (·.1) → h.get? b = some o → h'.get? b = some o :=
  fun b o hb e => F.keep b o (k b o hb e)
end
noncomputable abbrev sioD (P : Params) (k1 k2 k3 t1 t2 t3 : Tok) (x : Str) (pos : Int) : Obj :=
  dictOf [{ hash := PyData.keyHash P (Str.ofString "_StringIO__newline"), key := .str (Str.ofString "_StringIO__newline") k1, val := .str (Str.ofString "\n") t1 },
    { hash := PyData.keyHash P (Str.ofString "_StringIO__buf"), key := .str (Str.ofString "_StringIO__buf") k2, val := .str x t2 },
    { hash := PyData.keyHash P (Str.ofString "_StringIO__pos"), key := .str (Str.ofString "_StringIO__pos") k3, val := .int pos t3 }] 3
end Mine
end
section
open PySem PySem.W PyProof.Rows
set_option maxRecDepth 100000
set_option maxHeartbeats 8000000
set_option linter.unusedVariables false
namespace Mine
noncomputable abbrev dqObj : Obj := { cls := .type "collections.deque", data := .fields #[.none, .int 0 0] }
theorem dq_mro : mroOf (.type "collections.deque") = pure [.type "collections.deque", .type "object"] := by rw [mroOf_type]; kernel_rfl
theorem dq_new : typeLookup (.type "collections.deque") "__new__" = pure (some (.builtin "collections.deque.__new__")) := by rw [typeLookup_type, builtinLookup_eq_fast]; kernel_rfl
theorem dq_sub : isSubtype (.type "collections.deque") (.type "collections.deque") = pure true := by rw [isSubtype_type]; kernel_rfl
theorem dq_init : Slot "collections.deque" "__init__" "collections.deque.__init__" :=
  .of (owner := "collections.deque") (n := "__init__") (by rw [typeLookup_type, builtinLookup_eq_fast]; kernel_rfl) (by decide +kernel) (by decide +kernel) (by decide +kernel)
    (by first | exact .inl (by decide +kernel) | exact .inr (by decide +kernel)) (by rw [isSubtype_type]; kernel_rfl)
theorem dq_slotLen : Slot "collections.deque" "__len__" "collections.deque.__len__" :=
  .of (owner := "collections.deque") (n := "__len__") (by rw [typeLookup_type, builtinLookup_eq_fast]; kernel_rfl) (by decide +kernel) (by decide +kernel) (by decide +kernel)
    (by first | exact .inl (by decide +kernel) | exact .inr (by decide +kernel)) (by rw [isSubtype_type]; kernel_rfl)
theorem dq_called : TypeCalled "collections.deque" "collections.deque.__new__" "collections.deque.__init__" :=
  ⟨by decide +kernel, by decide +kernel, ⟨_, _, dq_mro⟩, madeBy_type dq_mro dq_new (by decide +kernel), by decide +kernel, dq_sub, dq_init⟩
theorem dq_typeCall : checkTypeCall "collections.deque" ⟨[], []⟩ = pure () := by kernel_rfl
theorem dq_newCall : checkBuiltinCall "collections.deque.__new__" ⟨[.type "collections.deque"], []⟩ = pure () := by kernel_rfl
theorem dq_entryNew : entryFor table "collections.deque.__new__" = some Builtin.«collections.deque.__new__» := by first | exact entryFor_of_fast (by kernel_rfl) | exact entryFor_of_tree (by kernel_rfl)
theorem dq_entryInit : entryFor table "collections.deque.__init__" = some Builtin.«collections.deque.__init__» := by first | exact entryFor_of_fast (by kernel_rfl) | exact entryFor_of_tree (by kernel_rfl)
theorem dq_entryLen : entryFor table "collections.deque.__len__" = some Builtin.«collections.deque.__len__» := by first | exact entryFor_of_fast (by kernel_rfl) | exact entryFor_of_tree (by kernel_rfl)
theorem dq_plainNew : plainId "collections.deque.__new__" = true := by decide +kernel
theorem dq_argsInit (a : Value) : argsOk "collections.deque.__init__" ⟨[a], []⟩ := by unfold argsOk; kernel_rfl
theorem dq_argsLen (a : Value) : argsOk "collections.deque.__len__" ⟨[a], []⟩ := by unfold argsOk; kernel_rfl
theorem dq_noBool : typeLookup (.type "collections.deque") "__bool__" = pure none := by rw [typeLookup_type, builtinLookup_eq_fast]; kernel_rfl
theorem dq_newArgs : Builtin.Deque.newArgs Builtin.Deque.ty ⟨[.type "collections.deque"], []⟩ = pure (.type "collections.deque", []) := by
  unfold Builtin.Deque.newArgs Builtin.Deque.ty
  have := dq_sub
  simp only [isType, pure_bind, this]
  rfl
section
variable {prog : Program} {w : World} {A : Around} {E : Value → Shared → Prop} {s : Shared}
theorem dq_codeNew {Q₁ : Value → Shared → Prop} (h : Q₁ (.ref s.heap.objs.size) { s with heap := s.heap.push dqObj }) :
    codeAny (model prog w) A (.call (.builtin "collections.deque.__new__") ⟨[.type "collections.deque"], []⟩) (wants Q₁ E) s := by
  refine codeAny_call_builtin dq_plainNew dq_entryNew (wpAny_of_eq dq_newCall ?_)
  obtain ⟨hp, g, d, tk, os⟩ := s
  unfold Builtin.«collections.deque.__new__»
  rw [dq_newArgs]
  refine wpAny_bind (wpAny_pure ?_)
  unfold Builtin.Deque.new
  wp_walk
  exact h
theorem call_deque {L : Addr} {h₀ : Heap} {m : Str → Option Value} {news : List (Addr × Obj)} {Q : Value → Shared → Prop} (F : Fr h₀ L s.heap m) (N : News h₀ L s.heap news)
    (h : ∀ D h', Fr h₀ L h' m → News h₀ L h' ((D, dqObj) :: news) → (∀ p ∈ news, p.1 < D) → Q (.ref D) { s with heap := h' }) :
    wpAny (model prog w) A (call (.type "collections.deque") []) Q E s := by
  have N1 := N.push F dqObj
  have F1 := F.push dqObj
  have hl : ∀ p ∈ news, p.1 < s.heap.objs.size := fun p hp => Heap.lt_size (N p hp).1
  have hg : (s.heap.push dqObj).get? s.heap.objs.size = some dqObj := Heap.get?_push_size _ rfl
  refine callType_codes (Q₁ := fun obj s₁ => obj = .ref s.heap.objs.size ∧ s₁ = { s with heap := s.heap.push dqObj }) dq_called dq_typeCall dq_entryInit (dq_codeNew ⟨rfl, rfl⟩) ?_
  rintro obj s₁ ⟨rfl, rfl⟩
  refine ⟨⟨_, hg, rfl⟩, dq_argsInit _, ?_⟩
  unfold Builtin.«collections.deque.__init__»
  dsimp only
  show wpAny _ _ (setField (.ref s.heap.objs.size) 0 .none >>= fun _ => Builtin.Deque.clear (.ref s.heap.objs.size) >>= fun _ => ret .none) _ _ _
  refine wpAny_bind (wpAny_setField hg rfl (by decide) ?_)
  have hg2 : ((s.heap.push dqObj).update s.heap.objs.size (Obj.mapFields (·.setIfInBounds 0 .none))).get? s.heap.objs.size = some dqObj := by
    rw [Heap.get?_update_self _ hg rfl]; rfl
  have hs2 : Heap.SameBut s.heap.objs.size (s.heap.push dqObj) ((s.heap.push dqObj).update s.heap.objs.size (Obj.mapFields (·.setIfInBounds 0 .none))) := Heap.SameBut.update ..
  have F2 := F1.change hs2 (N1 _ (.head _)).2.1 (N1 _ (.head _)).2.2
  have N2 := news_set (pre := []) N1 (fun _ h => nomatch h) (fun p hp => Nat.ne_of_lt (hl p hp)) hs2 hg2
  refine wpAny_bind ?_
  unfold Builtin.Deque.clear Builtin.Deque.items fieldsOf
  refine wpAny_bind (wpAny_bind (wpAny_bind (wpAny_load hg2 ?_)))
  refine wpAny_pure (wpAny_pure ?_)
  dsimp only
  rw [if_neg (by decide)]
  refine wpAny_pure (wpAny_pure ?_)
  exact ⟨rfl, h _ _ F2 N2 hl⟩
theorem dq_len {D : Addr} {Q : Value → Shared → Prop} (hg : s.heap.get? D = some dqObj) (h : Q (.int 0 (s.toks + 1)) { s with toks := s.toks + 1 + 1 }) :
    wpAny (model prog w) A (Builtin.«len» ⟨[.ref D], []⟩) (fun fin s' => ∃ r, fin = .done (.ret r) ∧ Q r s') E s := by
  have hT : s.TypeIs (.ref D) "collections.deque" := ⟨_, hg, rfl⟩
  unfold Builtin.«len»
  refine wpAny_bind (m := oneArg "len" _) (wpAny_pure ?_)
  refine wpAny_bind (m := callSpecial? (.ref D) (Str.ofString "__len__")) (wpAny_callSpecial?_slot (name := Str.ofString "__len__") hT dq_slotLen
    (wpAny_call_entry dq_slotLen hT dq_entryLen ?_ (dq_argsLen _)))
  show wpAny _ _ (do retInt (← Builtin.Deque.size (.ref D))) _ _ s
  unfold Builtin.Deque.size fieldsOf
  refine wpAny_bind (wpAny_bind (wpAny_bind (wpAny_load hg (wpAny_pure (wpAny_pure ?_)))))
  refine wpAny_bind (wpAny_mkInt (wpAny_pure ⟨_, rfl, ?_⟩))
  refine wpAny_bind (wpAny_holding (wpAny_pure ?_))
  refine wpAny_bind (wpAny_letGo ?_)
  show wpAny _ _ (if (0 : Int) < 0 then _ else _) _ _ _
  rw [if_neg (by (first | lia | omega))]
  show wpAny _ _ (if (0 : Int) ≥ 2 ^ 63 then _ else _) _ _ _
  rw [if_neg (by (first | lia | omega))]
  exact wpAny_bind (wpAny_mkInt (wpAny_pure ⟨_, rfl, h⟩))
theorem truthy_dq {D : Addr} {Q : Bool → Shared → Prop} (hg : s.heap.get? D = some dqObj) (h : ∀ k, Q false { s with toks := k }) : wpAny (model prog w) A (truthy (.ref D)) Q E s := by
  have hT : s.TypeIs (.ref D) "collections.deque" := ⟨_, hg, rfl⟩
  have key : wpAny (model prog w) A (runValue (.builtin "len" ⟨[.ref D], []⟩)) (fun r s' => r = .int 0 (s.toks + 1) ∧ Q false s') E s := by
    refine wpAny_runValue (codeAny_builtin entry_len ?_)
    rw [Around.under_plainId plain_len _]
    exact wpAny_mono (dq_len (Q := fun r s' => r = .int 0 (s.toks + 1) ∧ Q false s') hg ⟨rfl, h _⟩)
      (fun fin s' h' => by obtain ⟨r, rfl, hq⟩ := h'; exact hq) fun _ _ e => e
  unfold truthy
  refine wpAny_bind (wpAny_callSpecial?_none (name := Str.ofString "__bool__") hT dq_noBool ?_)
  dsimp only
  refine wpAny_bind (wpAny_specialOf (name := Str.ofString "__len__") hT dq_slotLen.lookup ?_)
  rw [if_neg (by simp)]
  exact (wpAny_bind (wpAny_mono key (fun r s' h' => by obtain ⟨rfl, hq⟩ := h'; exact wpAny_pure hq) fun _ _ e => e))
end
end Mine
end
section
open PySem PySem.W PyProof.Rows
set_option maxRecDepth 100000
set_option maxHeartbeats 8000000
set_option linter.unusedVariables false
namespace Mine
structure LT where
  (a1 a2 a3 a4 a5 a6 a7 a8 a9 a10 a11 a12 a13 a14 a15 a16 a17 a18 a19 : Tok)
  (b1 b2 b3 b4 b5 b6 b7 b8 : Tok)
noncomputable abbrev wordS : Str := Str.ofString "abcdfeghijklmnopqrstuvwxyzABCDEFGHIJKLMNOPQRSTUVWXYZ0123456789_" ++ Str.ofString "ßàáâãäåæçèéêëìíîïðñòóôõöøùúûüýþÿÀÁÂÃÄÅÆÇÈÉÊËÌÍÎÏÐÑÒÓÔÕÖØÙÚÛÜÝÞ"
noncomputable abbrev lexD (P : Params) (lt : LT) (S D1 D2 : Addr) (sv lv tv : Value) : Obj :=
  dictOf [{ hash := PyData.keyHash P (Str.ofString "instream"), key := .str (Str.ofString "instream") lt.a1, val := .ref S },
    { hash := PyData.keyHash P (Str.ofString "infile"), key := .str (Str.ofString "infile") lt.a2, val := .none },
    { hash := PyData.keyHash P (Str.ofString "posix"), key := .str (Str.ofString "posix") lt.a3, val := .bool true },
    { hash := PyData.keyHash P (Str.ofString "eof"), key := .str (Str.ofString "eof") lt.a4, val := .none },
    { hash := PyData.keyHash P (Str.ofString "commenters"), key := .str (Str.ofString "commenters") lt.a5, val := .str (Str.ofString "") lt.b1 },
    { hash := PyData.keyHash P (Str.ofString "wordchars"), key := .str (Str.ofString "wordchars") lt.a6, val := .str wordS lt.b2 },
    { hash := PyData.keyHash P (Str.ofString "whitespace"), key := .str (Str.ofString "whitespace") lt.a7, val := .str (Str.ofString " \t\u000d\n") lt.b3 },
    { hash := PyData.keyHash P (Str.ofString "whitespace_split"), key := .str (Str.ofString "whitespace_split") lt.a8, val := .bool true },
    { hash := PyData.keyHash P (Str.ofString "quotes"), key := .str (Str.ofString "quotes") lt.a9, val := .str (Str.ofString "'\"") lt.b4 },
    { hash := PyData.keyHash P (Str.ofString "escape"), key := .str (Str.ofString "escape") lt.a10, val := .str (Str.ofString "\\") lt.b5 },
    { hash := PyData.keyHash P (Str.ofString "escapedquotes"), key := .str (Str.ofString "escapedquotes") lt.a11, val := .str (Str.ofString "\"") lt.b6 },
    { hash := PyData.keyHash P (Str.ofString "state"), key := .str (Str.ofString "state") lt.a12, val := sv },
    { hash := PyData.keyHash P (Str.ofString "pushback"), key := .str (Str.ofString "pushback") lt.a13, val := .ref D1 },
    { hash := PyData.keyHash P (Str.ofString "lineno"), key := .str (Str.ofString "lineno") lt.a14, val := lv },
    { hash := PyData.keyHash P (Str.ofString "debug"), key := .str (Str.ofString "debug") lt.a15, val := .int 0 lt.b7 },
    { hash := PyData.keyHash P (Str.ofString "token"), key := .str (Str.ofString "token") lt.a16, val := tv },
    { hash := PyData.keyHash P (Str.ofString "filestack"), key := .str (Str.ofString "filestack") lt.a17, val := .ref D2 },
    { hash := PyData.keyHash P (Str.ofString "source"), key := .str (Str.ofString "source") lt.a18, val := .none },
    { hash := PyData.keyHash P (Str.ofString "_punctuation_chars"), key := .str (Str.ofString "_punctuation_chars") lt.a19, val := .str (Str.ofString "") lt.b8 }] 19

noncomputable def ch (c : Nat) : Str := ⟨#[c]⟩
noncomputable abbrev wsC (c : Nat) : Bool := Txt.contains (Str.ofString " \t\u000d\n") (ch c)
noncomputable abbrev escC (c : Nat) : Bool := Txt.contains (Str.ofString "\\") (ch c)
noncomputable abbrev wcC (c : Nat) : Bool := Txt.contains wordS (ch c)
noncomputable abbrev quC (c : Nat) : Bool := Txt.contains (Str.ofString "'\"") (ch c)
noncomputable def rt : List Nat → Str → Str → Bool → Option (Option Str × List Nat)
  | [], σ, acc, qd => if σ = Str.ofString " " then (if acc = Str.ofString "" ∧ qd = false then some (none, []) else none) else none
  | c :: r, σ, acc, qd =>
    if σ = Str.ofString " " then
      if acc = Str.ofString "" ∧ qd = false then
        if wsC c = true then rt r (Str.ofString " ") (Str.ofString "") false
        else if escC c = true then none
        else if wcC c = true then rt r (Str.ofString "a") (ch c) false
        else if quC c = true then rt r (ch c) (Str.ofString "") false
        else rt r (Str.ofString "a") (ch c) false
      else none
    else if σ = Str.ofString "a" then
      if wsC c = true then (if acc ≠ Str.ofString "" ∨ qd = true then some (some acc, r) else none)
      else if quC c = true then rt r (ch c) acc qd
      else if escC c = true then none
      else rt r (Str.ofString "a") (acc ++ ch c) qd
    else if σ = Str.ofString "'" then
      if (ch c == Str.ofString "'") = true then rt r (Str.ofString "a") acc true else rt r (Str.ofString "'") (acc ++ ch c) true
    else if σ = Str.ofString "\"" then
      if (ch c == Str.ofString "\"") = true then rt r (Str.ofString "a") acc true
      else if escC c = true then none
      else rt r (Str.ofString "\"") (acc ++ ch c) true
    else none

theorem ne_as : Str.ofString "a" ≠ Str.ofString " " := by decide +kernel
theorem ne_1s : Str.ofString "'" ≠ Str.ofString " " := by decide +kernel
theorem ne_1a : Str.ofString "'" ≠ Str.ofString "a" := by decide +kernel
theorem ne_2s : Str.ofString "\"" ≠ Str.ofString " " := by decide +kernel
theorem ne_2a : Str.ofString "\"" ≠ Str.ofString "a" := by decide +kernel
theorem ne_21 : Str.ofString "\"" ≠ Str.ofString "'" := by decide +kernel
section
variable {c : Nat} {r : List Nat} {acc : Str} {qd : Bool} {res : Option Str × List Nat}
theorem rt_start (hr : rt (c :: r) (Str.ofString " ") acc qd = some res) : acc = Str.ofString "" ∧ qd = false := by
  unfold rt at hr
  rw [if_pos rfl] at hr
  by_cases h : acc = Str.ofString "" ∧ qd = false
  · exact h
  · rw [if_neg h] at hr; cases hr
theorem rt_end {σ : Str} (hr : rt [] σ acc qd = some res) : σ = Str.ofString " " ∧ acc = Str.ofString "" ∧ qd = false ∧ res = (none, []) := by
  unfold rt at hr
  by_cases h1 : σ = Str.ofString " "
  · rw [if_pos h1] at hr
    by_cases h : acc = Str.ofString "" ∧ qd = false
    · rw [if_pos h] at hr; exact ⟨h1, h.1, h.2, (Option.some.inj hr).symm⟩
    · rw [if_neg h] at hr; cases hr
  · rw [if_neg h1] at hr; cases hr
theorem rt_kinds {σ : Str} (hr : rt (c :: r) σ acc qd = some res) : σ = Str.ofString " " ∨ σ = Str.ofString "a" ∨ σ = Str.ofString "'" ∨ σ = Str.ofString "\"" := by
  unfold rt at hr
  by_cases h1 : σ = Str.ofString " "
  · exact .inl h1
  · rw [if_neg h1] at hr
    by_cases h2 : σ = Str.ofString "a"
    · exact .inr (.inl h2)
    · rw [if_neg h2] at hr
      by_cases h3 : σ = Str.ofString "'"
      · exact .inr (.inr (.inl h3))
      · rw [if_neg h3] at hr
        by_cases h4 : σ = Str.ofString "\""
        · exact .inr (.inr (.inr h4))
        · rw [if_neg h4] at hr; cases hr
noncomputable def RtSt (σ acc : Str) (qd : Bool) : Prop := (σ = Str.ofString " " ∧ acc = Str.ofString "" ∧ qd = false) ∨ σ = Str.ofString "a" ∨ σ = Str.ofString "'" ∨ σ = Str.ofString "\""
theorem rt_st {σ : Str} (hr : rt (c :: r) σ acc qd = some res) : RtSt σ acc qd := by
  rcases rt_kinds hr with rfl | h | h | h
  · exact .inl ⟨rfl, rt_start hr⟩
  · exact .inr (.inl h)
  · exact .inr (.inr (.inl h))
  · exact .inr (.inr (.inr h))
theorem rt_s (hr : rt (c :: r) (Str.ofString " ") (Str.ofString "") false = some res) : (if wsC c = true then rt r (Str.ofString " ") (Str.ofString "") false
        else if escC c = true then none
        else if wcC c = true then rt r (Str.ofString "a") (ch c) false
        else if quC c = true then rt r (ch c) (Str.ofString "") false
        else rt r (Str.ofString "a") (ch c) false) = some res := by
  unfold rt at hr
  rwa [if_pos rfl, if_pos ⟨rfl, rfl⟩] at hr
theorem rt_a (hr : rt (c :: r) (Str.ofString "a") acc qd = some res) : (if wsC c = true then (if acc ≠ Str.ofString "" ∨ qd = true then some (some acc, r) else none)
      else if quC c = true then rt r (ch c) acc qd
      else if escC c = true then none
      else rt r (Str.ofString "a") (acc ++ ch c) qd) = some res := by
  unfold rt at hr
  rwa [if_neg ne_as, if_pos rfl] at hr
theorem rt_1 (hr : rt (c :: r) (Str.ofString "'") acc qd = some res) : (if (ch c == Str.ofString "'") = true then rt r (Str.ofString "a") acc true else rt r (Str.ofString "'") (acc ++ ch c) true) = some res := by
  unfold rt at hr
  rwa [if_neg ne_1s, if_neg ne_1a, if_pos rfl] at hr
theorem rt_2 (hr : rt (c :: r) (Str.ofString "\"") acc qd = some res) : (if (ch c == Str.ofString "\"") = true then rt r (Str.ofString "a") acc true
      else if escC c = true then none
      else rt r (Str.ofString "\"") (acc ++ ch c) true) = some res := by
  unfold rt at hr
  rwa [if_neg ne_2s, if_neg ne_2a, if_neg ne_21, if_pos rfl] at hr
end

noncomputable abbrev lxs (P : Params) (S dS X dX D1 D2 : Addr) (k1 k2 k3 t1 t2 : Tok) (lt : LT) (x : Str) (k : Nat) (t3 : Tok) (sv : Value) (ℓ : Int) (tl : Tok) (acc : Str) (ta : Tok) : List (Addr × Obj) :=
  [(S, instObj 614 dS), (dS, sioD P k1 k2 k3 t1 t2 t3 x (k : Int)), (X, instObj 749 dX), (dX, lexD P lt S D1 D2 sv (.int ℓ tl) (.str acc ta)), (D1, dqObj), (D2, dqObj)]
section
variable {prog : Program} {w : World} {A : Around} {E : Value → Shared → Prop} {s : Shared} {env : Env} {h₀ : Heap} {L : Addr} {body : List Stmt} {Q : Flow → Shared → Prop}
  {P : Params} {S dS X dX D1 D2 : Addr} {k1 k2 k3 t1 t2 : Tok} {lt : LT} {x : Str} {res : Option Str × List Nat}
noncomputable def RtNext (P : Params) (h₀ : Heap) (L : Addr) (m₀ : Str → Option Value) (S dS X dX D1 D2 : Addr) (k1 k2 k3 t1 t2 : Tok) (lt : LT) (x : Str) (res : Option Str × List Nat) (n : Nat) (s₁ s₂ : Shared) : Prop :=
  ∃ h' tk m' news' k t3 σ ts ℓ tl acc ta qd, s₂ = { s₁ with heap := h', toks := tk } ∧ Fr h₀ L h' m' ∧ News h₀ L h' news' ∧ (∀ p ∈ lxs P S dS X dX D1 D2 k1 k2 k3 t1 t2 lt x k t3 (.str σ ts) ℓ tl acc ta, p ∈ news') ∧
    m' (Str.ofString "quoted") = some (.bool qd) ∧ (∀ y, y ≠ Str.ofString "quoted" → y ≠ Str.ofString "nextchar" → m' y = m₀ y) ∧ x.length - k < n ∧ k ≤ x.length ∧ acc.length ≤ k ∧ rt (x.cps.toList.drop k) σ acc qd = some res
noncomputable def RtBrk (P : Params) (h₀ : Heap) (L : Addr) (m₀ : Str → Option Value) (S dS X dX D1 D2 : Addr) (k1 k2 k3 t1 t2 : Tok) (lt : LT) (x : Str) (res : Option Str × List Nat) (s₁ s₂ : Shared) : Prop :=
  ∃ h' tk m' news' k t3 sv ℓ tl acc ta qd, s₂ = { s₁ with heap := h', toks := tk } ∧ Fr h₀ L h' m' ∧ News h₀ L h' news' ∧ (∀ p ∈ lxs P S dS X dX D1 D2 k1 k2 k3 t1 t2 lt x k t3 sv ℓ tl acc ta, p ∈ news') ∧
    m' (Str.ofString "quoted") = some (.bool qd) ∧ (∀ y, y ≠ Str.ofString "quoted" → y ≠ Str.ofString "nextchar" → m' y = m₀ y) ∧ k ≤ x.length ∧ res = (if qd = false ∧ acc = Str.ofString "" then none else some acc, x.cps.toList.drop k) ∧ (res.1 ≠ none → ∃ ts, sv = .str (Str.ofString " ") ts)
noncomputable def RtPost (P : Params) (h₀ : Heap) (L : Addr) (m₀ : Str → Option Value) (S dS X dX D1 D2 : Addr) (k1 k2 k3 t1 t2 : Tok) (lt : LT) (x : Str) (res : Option Str × List Nat) (n : Nat) (s₁ : Shared) (f : Flow) (s₂ : Shared) : Prop :=
  match f with
  | .ret _ => False
  | .brk => RtBrk P h₀ L m₀ S dS X dX D1 D2 k1 k2 k3 t1 t2 lt x res s₁ s₂
  | _ => RtNext P h₀ L m₀ S dS X dX D1 D2 k1 k2 k3 t1 t2 lt x res n s₁ s₂
theorem isTrue_const {Q : Bool → Shared → Prop} {k : Nat} {p : Pos} (h : Q true s) : wpAny (model prog w) A (isTrue (.Constant (.bool true) k p) env (eval (.Constant (.bool true) k p) env)) Q E s :=
  isTrue_plain (wpAny_Constant_bool (wpAny_truthy_bool h))
theorem drop_cons {l : List Nat} {k : Nat} {c : Nat} {r : List Nat} (h : l.drop k = c :: r) : k < l.length ∧ l[k]? = some c ∧ l.drop (k + 1) = r := by
  have hk : k < l.length := by
    rcases Nat.lt_or_ge k l.length with h1 | h1
    · exact h1
    · rw [List.drop_of_length_le h1] at h; cases h
  rw [List.drop_eq_getElem_cons hk] at h
  obtain ⟨h1, h2⟩ := List.cons.inj h
  exact ⟨hk, by rw [List.getElem?_eq_getElem hk, h1], h2⟩
noncomputable def rtM (u : Str → Option Value) (qd : Bool) (m₀ : Str → Option Value) : Str → Option Value := fun y => if y = Str.ofString "quoted" then some (.bool qd) else if y = Str.ofString "nextchar" then u y else m₀ y
theorem rtM_eq {m m₀ : Str → Option Value} {qd : Bool} (hq : m (Str.ofString "quoted") = some (.bool qd)) (hm : ∀ y, y ≠ Str.ofString "quoted" → y ≠ Str.ofString "nextchar" → m y = m₀ y) : rtM m qd m₀ = m := by
  funext y
  unfold rtM
  by_cases h1 : y = Str.ofString "quoted"
  · rw [if_pos h1, h1, hq]
  · rw [if_neg h1]
    by_cases h2 : y = Str.ofString "nextchar"
    · rw [if_pos h2]
    · rw [if_neg h2, hm y h1 h2]
theorem RtNext.intro {m₀ m' : Str → Option Value} {news' : List (Addr × Obj)} {n : Nat} {s₁ : Shared} {h' : Heap} {tk k : Nat} {t3 ts tl ta : Tok} {σ acc : Str} {ℓ : Int} {qd : Bool} (F : Fr h₀ L h' m') (N : News h₀ L h' news') (hm : ∀ p ∈ lxs P S dS X dX D1 D2 k1 k2 k3 t1 t2 lt x k t3 (.str σ ts) ℓ tl acc ta, p ∈ news')
    (hq : m' (Str.ofString "quoted") = some (.bool qd)) (hy : ∀ y, y ≠ Str.ofString "quoted" → y ≠ Str.ofString "nextchar" → m' y = m₀ y) (hn : x.length - k < n) (hk : k ≤ x.length) (ha : acc.length ≤ k) (hr : rt (x.cps.toList.drop k) σ acc qd = some res) :
    RtNext P h₀ L m₀ S dS X dX D1 D2 k1 k2 k3 t1 t2 lt x res n s₁ { s₁ with heap := h', toks := tk } := ⟨h', tk, m', news', k, t3, σ, ts, ℓ, tl, acc, ta, qd, rfl, F, N, hm, hq, hy, hn, hk, ha, hr⟩
theorem RtBrk.intro {m₀ m' : Str → Option Value} {news' : List (Addr × Obj)} {s₁ : Shared} {h' : Heap} {tk k : Nat} {t3 tl ta : Tok} {sv : Value} {acc : Str} {ℓ : Int} {qd : Bool} (F : Fr h₀ L h' m') (N : News h₀ L h' news') (hm : ∀ p ∈ lxs P S dS X dX D1 D2 k1 k2 k3 t1 t2 lt x k t3 sv ℓ tl acc ta, p ∈ news')
    (hq : m' (Str.ofString "quoted") = some (.bool qd)) (hy : ∀ y, y ≠ Str.ofString "quoted" → y ≠ Str.ofString "nextchar" → m' y = m₀ y) (hk : k ≤ x.length) (hr : res = (if qd = false ∧ acc = Str.ofString "" then none else some acc, x.cps.toList.drop k)) (hs : res.1 ≠ none → ∃ ts, sv = .str (Str.ofString " ") ts) :
    RtBrk P h₀ L m₀ S dS X dX D1 D2 k1 k2 k3 t1 t2 lt x res s₁ { s₁ with heap := h', toks := tk } := ⟨h', tk, m', news', k, t3, sv, ℓ, tl, acc, ta, qd, rfl, F, N, hm, hq, hy, hk, hr, hs⟩
theorem while_rt {m₀ : Str → Option Value} {news : List (Addr × Obj)} {pos cp : Pos} {ck k₀ : Nat} {t3 ts tl ta : Tok} {ℓ : Int}
    (F : Fr h₀ env.locals s.heap m₀) (N : News h₀ env.locals s.heap news) (hm : ∀ p ∈ lxs P S dS X dX D1 D2 k1 k2 k3 t1 t2 lt x k₀ t3 (.str (Str.ofString " ") ts) ℓ tl (Str.ofString "") ta, p ∈ news) (hq : m₀ (Str.ofString "quoted") = some (.bool false)) (hk : k₀ ≤ x.length) (hr : rt (x.cps.toList.drop k₀) (Str.ofString " ") (Str.ofString "") false = some res)
    (turnE : ∀ t3 ts ℓ tl ta (u : Str → Option Value) h tk, res = (none, []) → Fr h₀ env.locals h (rtM u false m₀) → News h₀ env.locals h (lxs P S dS X dX D1 D2 k1 k2 k3 t1 t2 lt x x.length t3 (.str (Str.ofString " ") ts) ℓ tl (Str.ofString "") ta) →
      wpAny (model prog w) A (execs body env) (RtPost P h₀ env.locals m₀ S dS X dX D1 D2 k1 k2 k3 t1 t2 lt x res (x.length - x.length) { s with heap := h, toks := tk }) E { s with heap := h, toks := tk })
    (turnC : ∀ c k σ acc qd t3 ts ℓ tl ta (u : Str → Option Value) h tk, k < x.length → x.cps.toList[k]? = some c → acc.length ≤ k → rt (c :: x.cps.toList.drop (k + 1)) σ acc qd = some res → RtSt σ acc qd → Fr h₀ env.locals h (rtM u qd m₀) → News h₀ env.locals h (lxs P S dS X dX D1 D2 k1 k2 k3 t1 t2 lt x k t3 (.str σ ts) ℓ tl acc ta) →
      wpAny (model prog w) A (execs body env) (RtPost P h₀ env.locals m₀ S dS X dX D1 D2 k1 k2 k3 t1 t2 lt x res (x.length - k) { s with heap := h, toks := tk }) E { s with heap := h, toks := tk })
    (done : ∀ k t3 sv ℓ tl acc ta qd (u : Str → Option Value) h tk, k ≤ x.length → res = (if qd = false ∧ acc = Str.ofString "" then none else some acc, x.cps.toList.drop k) → (res.1 ≠ none → ∃ ts, sv = .str (Str.ofString " ") ts) → Fr h₀ env.locals h (rtM u qd m₀) → News h₀ env.locals h (lxs P S dS X dX D1 D2 k1 k2 k3 t1 t2 lt x k t3 sv ℓ tl acc ta) → Q .next { s with heap := h, toks := tk })
    (hE : PassesOwn (model prog w) A env E := by passes_own) :
    wpAny (model prog w) A (exec (.While (.Constant (.bool true) ck cp) body [] pos) env) Q E s := by
  refine wpAny_While (codeAny_whileLoop (fun n s' => RtNext P h₀ env.locals m₀ S dS X dX D1 D2 k1 k2 k3 t1 t2 lt x res n s s') ?_ (x.length - k₀ + 1) ⟨_, _, _, _, k₀, t3, _, ts, ℓ, tl, _, ta, false, rfl, F, N, hm, hq, fun _ _ _ => rfl, Nat.lt_succ_self _, hk, (by rw [show (Str.ofString "").length = 0 by decide +kernel]; exact Nat.zero_le _), hr⟩)
  (intro n; intro s'; intro hZ1; (refine Mine.xa13_10 hZ1 ?_; clear hZ1; intro h' tk m' news' k t3 σ ts ℓ tl acc ta qd eZ9 F' N' hm' hq' hy' hn' hk' ha' hr'; subst eZ9))
  refine isTrue_const ?_
  rw [if_pos rfl]
  rw [← rtM_eq hq' hy'] at F'
  have N1 : News h₀ env.locals h' (lxs P S dS X dX D1 D2 k1 k2 k3 t1 t2 lt x k t3 (.str σ ts) ℓ tl acc ta) := fun p hp => N' p (hm' p hp)
  have post : ∀ f s₃, RtPost P h₀ env.locals m₀ S dS X dX D1 D2 k1 k2 k3 t1 t2 lt x res (x.length - k) { s with heap := h', toks := tk } f s₃ → match f with
      | .next | .cont => ∃ m, m < n ∧ RtNext P h₀ env.locals m₀ S dS X dX D1 D2 k1 k2 k3 t1 t2 lt x res m s s₃
      | .brk => Q .next s₃
      | .ret v => Q (.ret v) s₃ := by
    intro f s₃ h₃
    have go : RtNext P h₀ env.locals m₀ S dS X dX D1 D2 k1 k2 k3 t1 t2 lt x res (x.length - k) { s with heap := h', toks := tk } s₃ → ∃ m, m < n ∧ RtNext P h₀ env.locals m₀ S dS X dX D1 D2 k1 k2 k3 t1 t2 lt x res m s s₃ := fun h => ⟨x.length - k, hn', h⟩
    cases f with
    | next => exact go h₃
    | cont => exact go h₃
    | ret v => exact h₃.elim
    | brk =>
      (have hZ23 := h₃; try clear h₃; (refine Mine.xa12_9 hZ23 ?_; clear hZ23; intro h'' tk'' m'' news'' k2 t3' sv' ℓ' tl' acc' ta' qd' eZ32 F2 N2 hm2 hq2 hy2 hk2 hr2 hs2; subst eZ32))
      rw [← rtM_eq hq2 hy2] at F2
      exact done k2 t3' sv' ℓ' tl' acc' ta' qd' m'' h'' tk'' hk2 hr2 hs2 F2 fun p hp => N2 p (hm2 p hp)
  have fin : wpAny (model prog w) A (execs body env) (RtPost P h₀ env.locals m₀ S dS X dX D1 D2 k1 k2 k3 t1 t2 lt x res (x.length - k) { s with heap := h', toks := tk }) E { s with heap := h', toks := tk } := by
    cases hl : x.cps.toList.drop k with
    | nil =>
      rw [hl] at hr'
      (have hZ45 := rt_end hr'; (refine Mine.xa0_4 hZ45 ?_; clear hZ45; intro eZ55 eZ56 eZ57 hres; subst eZ55; subst eZ56; subst eZ57))
      have hkx : k = x.length := by
        have h1 : x.cps.toList.length ≤ k := List.drop_eq_nil_iff.mp hl
        have h2 : x.cps.toList.length = x.length := by simp [Str.length]
        (first | lia | omega)
      subst hkx
      exact turnE t3 ts ℓ tl ta m' h' tk hres F' N1
    | cons c r =>
      rw [hl] at hr'
      (have hZ58 := drop_cons hl; (refine Mine.xa0_3 hZ58 ?_; clear hZ58; intro h1 h2 h3))
      have h4 : x.cps.toList.length = x.length := by simp [Str.length]
      rw [← h3] at hr'
      exact turnC c k σ acc qd t3 ts ℓ tl ta m' h' tk (by (first | lia | omega)) h2 ha' hr' (rt_st hr') F' N1
  exact wpAny_passesOwn hE (wpAny_mono fin (fun f s₃ h₃ => by have := post f s₃ h₃; cases f <;> exact this) fun _ _ e => e)

noncomputable def JoinP (P : Params) (h₀ : Heap) (L : Addr) (m : Str → Option Value) (S dS X dX D1 D2 : Addr) (k1 k2 k3 t1 t2 : Tok) (lt : LT) (x : Str) (k : Nat) (t3 : Tok) (sv : Value) (acc : Str) (ta : Tok) (s : Shared) (f : Flow) (s' : Shared) : Prop :=
  f = .next ∧ ∃ h' tk ℓ tl, s' = { s with heap := h', toks := tk } ∧ Fr h₀ L h' m ∧ News h₀ L h' (lxs P S dS X dX D1 D2 k1 k2 k3 t1 t2 lt x k t3 sv ℓ tl acc ta)
theorem exec_join {M : Model} {st : Stmt} {m : Str → Option Value} {k : Nat} {t3 tl₀ ta : Tok} {sv : Value} {ℓ₀ : Int} {acc : Str} (F : Fr h₀ L s.heap m) (N : News h₀ L s.heap (lxs P S dS X dX D1 D2 k1 k2 k3 t1 t2 lt x k t3 sv ℓ₀ tl₀ acc ta))
    (h : wpAny M A (exec st env) (JoinP P h₀ L m S dS X dX D1 D2 k1 k2 k3 t1 t2 lt x k t3 sv acc ta s) E s)
    (go : ∀ h' tk ℓ tl, Fr h₀ L h' m → News h₀ L h' (lxs P S dS X dX D1 D2 k1 k2 k3 t1 t2 lt x k t3 sv ℓ tl acc ta) → Q .next { s with heap := h', toks := tk }) : wpAny M A (exec st env) Q E s :=
  wpAny_mono h (fun f s' hj => by obtain ⟨rfl, h', tk, ℓ, tl, rfl, F', N'⟩ := hj; exact go h' tk ℓ tl F' N') fun _ _ e => e
noncomputable def JoinB (P : Params) (h₀ : Heap) (L : Addr) (m : Str → Option Value) (S dS X dX D1 D2 : Addr) (k1 k2 k3 t1 t2 : Tok) (lt : LT) (x : Str) (k : Nat) (t3 : Tok) (sv : Value) (acc : Str) (ta : Tok) (s : Shared) (b : Bool) (s' : Shared) : Prop :=
  b = true ∧ ∃ h' tk ℓ tl, s' = { s with heap := h', toks := tk } ∧ Fr h₀ L h' m ∧ News h₀ L h' (lxs P S dS X dX D1 D2 k1 k2 k3 t1 t2 lt x k t3 sv ℓ tl acc ta)
theorem isTrue_join {M : Model} {e : Expr} {mm : Sem Value} {Q : Bool → Shared → Prop} {m : Str → Option Value} {k : Nat} {t3 tl₀ ta : Tok} {sv : Value} {ℓ₀ : Int} {acc : Str} (F : Fr h₀ L s.heap m) (N : News h₀ L s.heap (lxs P S dS X dX D1 D2 k1 k2 k3 t1 t2 lt x k t3 sv ℓ₀ tl₀ acc ta))
    (h : wpAny M A (isTrue e env mm) (JoinB P h₀ L m S dS X dX D1 D2 k1 k2 k3 t1 t2 lt x k t3 sv acc ta s) E s)
    (go : ∀ h' tk ℓ tl, Fr h₀ L h' m → News h₀ L h' (lxs P S dS X dX D1 D2 k1 k2 k3 t1 t2 lt x k t3 sv ℓ tl acc ta) → Q true { s with heap := h', toks := tk }) : wpAny M A (isTrue e env mm) Q E s :=
  wpAny_mono h (fun b s' hj => by obtain ⟨rfl, h', tk, ℓ, tl, rfl, F', N'⟩ := hj; exact go h' tk ℓ tl F' N') fun _ _ e => e
end
section
variable {c : Nat} {r : List Nat} {acc : Str} {qd : Bool} {res : Option Str × List Nat}
theorem ff {b : Bool} (h : b = false) : ¬ b = true := by rw [h]; exact Bool.false_ne_true
theorem rt_s_ws (hr : rt (c :: r) (Str.ofString " ") (Str.ofString "") false = some res) (h : wsC c = true) : rt r (Str.ofString " ") (Str.ofString "") false = some res := by
  have := rt_s hr; rwa [if_pos h] at this
theorem rt_s_wc (hr : rt (c :: r) (Str.ofString " ") (Str.ofString "") false = some res) (h : wsC c = false) (he : escC c = false) (hw : wcC c = true) : rt r (Str.ofString "a") (ch c) false = some res := by
  have := rt_s hr; rwa [if_neg (ff h), if_neg (ff he), if_pos hw] at this
theorem rt_s_qu (hr : rt (c :: r) (Str.ofString " ") (Str.ofString "") false = some res) (h : wsC c = false) (he : escC c = false) (hw : wcC c = false) (hq : quC c = true) : rt r (ch c) (Str.ofString "") false = some res := by
  have := rt_s hr; rwa [if_neg (ff h), if_neg (ff he), if_neg (ff hw), if_pos hq] at this
theorem rt_s_sp (hr : rt (c :: r) (Str.ofString " ") (Str.ofString "") false = some res) (h : wsC c = false) (he : escC c = false) (hw : wcC c = false) (hq : quC c = false) : rt r (Str.ofString "a") (ch c) false = some res := by
  have := rt_s hr; rwa [if_neg (ff h), if_neg (ff he), if_neg (ff hw), if_neg (ff hq)] at this
theorem rt_a_ws (hr : rt (c :: r) (Str.ofString "a") acc qd = some res) (h : wsC c = true) : (acc ≠ Str.ofString "" ∨ qd = true) ∧ res = (some acc, r) := by
  have h1 := rt_a hr
  rw [if_pos h] at h1
  by_cases h2 : acc ≠ Str.ofString "" ∨ qd = true
  · rw [if_pos h2] at h1; exact ⟨h2, (Option.some.inj h1).symm⟩
  · rw [if_neg h2] at h1; cases h1
theorem rt_a_qu (hr : rt (c :: r) (Str.ofString "a") acc qd = some res) (h : wsC c = false) (hq : quC c = true) : rt r (ch c) acc qd = some res := by
  have := rt_a hr; rwa [if_neg (ff h), if_pos hq] at this
theorem rt_a_ch (hr : rt (c :: r) (Str.ofString "a") acc qd = some res) (h : wsC c = false) (hq : quC c = false) (he : escC c = false) : rt r (Str.ofString "a") (acc ++ ch c) qd = some res := by
  have := rt_a hr; rwa [if_neg (ff h), if_neg (ff hq), if_neg (ff he)] at this
theorem rt_1_eq (hr : rt (c :: r) (Str.ofString "'") acc qd = some res) (h : (ch c == Str.ofString "'") = true) : rt r (Str.ofString "a") acc true = some res := by
  have := rt_1 hr; rwa [if_pos h] at this
theorem rt_1_ch (hr : rt (c :: r) (Str.ofString "'") acc qd = some res) (h : (ch c == Str.ofString "'") = false) : rt r (Str.ofString "'") (acc ++ ch c) true = some res := by
  have := rt_1 hr; rwa [if_neg (ff h)] at this
theorem rt_2_eq (hr : rt (c :: r) (Str.ofString "\"") acc qd = some res) (h : (ch c == Str.ofString "\"") = true) : rt r (Str.ofString "a") acc true = some res := by
  have := rt_2 hr; rwa [if_pos h] at this
theorem rt_2_ch (hr : rt (c :: r) (Str.ofString "\"") acc qd = some res) (h : (ch c == Str.ofString "\"") = false) (he : escC c = false) : rt r (Str.ofString "\"") (acc ++ ch c) true = some res := by
  have := rt_2 hr; rwa [if_neg (ff h), if_neg (ff he)] at this

theorem occT {S y : Str} (h : (Builtin.Str.occurrences S y 0 S.length 1).isEmpty = false) : Txt.contains S y = true := by unfold Txt.contains; rw [h]; rfl
theorem occF {S y : Str} (h : (Builtin.Str.occurrences S y 0 S.length 1).isEmpty = true) : Txt.contains S y = false := by unfold Txt.contains; rw [h]; rfl
theorem len0 {a : Str} (h : ((a.length : Nat) : Int) = 0) : a = Str.ofString "" := by
  have e : Str.ofString "" = ⟨#[]⟩ := by decide +kernel
  rw [e]
  obtain ⟨l⟩ := a
  have h2 : l.size = 0 := by
    have : ((l.size : Nat) : Int) = 0 := h
    (first | lia | omega)
  rw [Array.eq_empty_of_size_eq_zero h2]
theorem nlen : (Str.ofString "").length = 0 := by decide +kernel
end
section
variable {P : Params} {S dS X dX D1 D2 : Addr} {k1 k2 k3 t1 t2 : Tok} {lt : LT} {x : Str} {res : Option Str × List Nat} {h₀ h : Heap} {L : Addr}
noncomputable def RtOut (P : Params) (S dS X dX D1 D2 : Addr) (k1 k2 k3 t1 t2 : Tok) (lt : LT) (x : Str) (res : Option Str × List Nat) (h : Heap) (r : Value) : Prop :=
  (match res.1 with | none => r = .none | some y => ∃ t, r = .str y t) ∧ ∃ k t3 sv ℓ tl ta, k ≤ x.length ∧ x.cps.toList.drop k = res.2 ∧ (res.1 ≠ none → ∃ ts, sv = .str (Str.ofString " ") ts) ∧ ∀ p ∈ lxs P S dS X dX D1 D2 k1 k2 k3 t1 t2 lt x k t3 sv ℓ tl (Str.ofString "") ta, h.get? p.1 = some p.2
theorem out_some {k : Nat} {t3 tl ta t : Tok} {sv : Value} {ℓ : Int} {acc : Str} {qd : Bool} (N : News h₀ L h (lxs P S dS X dX D1 D2 k1 k2 k3 t1 t2 lt x k t3 sv ℓ tl (Str.ofString "") ta)) (hk : k ≤ x.length)
    (hr : res = (if qd = false ∧ acc = Str.ofString "" then none else some acc, x.cps.toList.drop k)) (hs : res.1 ≠ none → ∃ ts, sv = .str (Str.ofString " ") ts) (hn : ¬ (qd = false ∧ acc = Str.ofString "")) : RtOut P S dS X dX D1 D2 k1 k2 k3 t1 t2 lt x res h (.str acc t) := by
  rw [if_neg hn] at hr
  subst hr
  exact ⟨⟨t, rfl⟩, k, t3, sv, ℓ, tl, ta, hk, rfl, hs, fun p hp => (N p hp).1⟩
theorem out_none {k : Nat} {t3 tl ta : Tok} {sv : Value} {ℓ : Int} {acc : Str} {qd : Bool} (N : News h₀ L h (lxs P S dS X dX D1 D2 k1 k2 k3 t1 t2 lt x k t3 sv ℓ tl (Str.ofString "") ta)) (hk : k ≤ x.length)
    (hr : res = (if qd = false ∧ acc = Str.ofString "" then none else some acc, x.cps.toList.drop k)) (hs : res.1 ≠ none → ∃ ts, sv = .str (Str.ofString " ") ts) (h1 : qd = false) (h2 : acc = Str.ofString "") : RtOut P S dS X dX D1 D2 k1 k2 k3 t1 t2 lt x res h .none := by
  rw [if_pos ⟨h1, h2⟩] at hr
  subst hr
  exact ⟨rfl, k, t3, sv, ℓ, tl, ta, hk, rfl, hs, fun p hp => (N p hp).1⟩
theorem brk_a {c : Nat} {k : Nat} {acc : Str} {qd : Bool} (hr : rt (c :: x.cps.toList.drop (k + 1)) (Str.ofString "a") acc qd = some res) (h : wsC c = true) : res = (if qd = false ∧ acc = Str.ofString "" then none else some acc, x.cps.toList.drop (k + 1)) := by
  obtain ⟨h1, h2⟩ := rt_a_ws hr h
  rw [if_neg (fun q => h1.elim (fun h3 => h3 q.2) fun h3 => by rw [q.1] at h3; cases h3), h2]
theorem no_a {c : Nat} {r : List Nat} {acc : Str} {qd : Bool} {p : Prop} (hr : rt (c :: r) (Str.ofString "a") acc qd = some res) (h : wsC c = true) (h1 : ((acc.length : Nat) : Int) = 0) (h2 : qd = false) : p := by
  rcases (rt_a_ws hr h).1 with h3 | h3
  · exact absurd (len0 h1) h3
  · rw [h2] at h3; cases h3
theorem brk_e (hr : res = (none, [])) : res = (if false = false ∧ Str.ofString "" = Str.ofString "" then none else some (Str.ofString ""), x.cps.toList.drop x.length) := by
  rw [if_pos ⟨rfl, rfl⟩, hr, List.drop_of_length_le (by simp [Str.length])]
end
end Mine
end
section
open PySem PySem.W PyProof.Rows
set_option maxRecDepth 100000
set_option maxHeartbeats 8000000
set_option linter.unusedVariables false
set_option pp.deepTerms false
set_option pp.maxSteps 6000
namespace Mine
variable {w : World} {mg mb : Str → Option Value}
theorem Mine.words24 : True := by
  k_with "own k_room" => ((try simp only [depth_deeper, depth_in1, depth_under_make, depth_under_kw] at *); (try dsimp only); (first | lia | omega))
  k_with "own k_enter" => first | (refine' go_def ?k1 ?k2 ?k3 ?k4 ?k5 ?kA ?kF ?kK ?k6 ?k7 ?k8 ?k9 ?kB ?_ ?c2 ?c3 ?c4 ?c5; (case kA => exact rfl); (case kF => exact rfl); (case kK => exact rfl); (case k1 => k_asm); (case k2 => k_asm); (case k3 => k_asm); (case k4 => k_asm); (case k5 => k_asm); (case k6 => k_is); (case k7 => k_is); (case k8 => k_room); (case k9 => first | exact BindsTo.of_eq rfl | exact binds_K (by k_in) rfl (by k_is) rfl rfl rfl | fail "k_enter: no rule for these arguments"); (case kB => exact locs rfl); (case c5 => decide); (case c2 => exact rfl); (case c3 => exact rfl); (case c4 => exact rfl); k_whole; intro g' L' h' FG' F' N' B' X' T'; (try dsimp only); (try k_lift B'); (try k_fold)) | (refine' go_both ?k1 ?k2 ?k3 ?k4 ?k5 ?kA ?kF ?kK ?k6 ?k7 ?k8 ?kP ?kS ?kT ?kB ?_ ?c2 ?c3 ?c4 ?c5; (case kA => exact rfl); (case kF => exact rfl); (case kK => exact rfl); (case k1 => k_asm); (case k2 => k_asm); (case k3 => k_asm); (case k4 => k_asm); (case k5 => k_asm); (case k6 => k_is); (case k7 => k_is); (case k8 => k_room); (case kP => exact rfl); (case kS => exact fun _ => rfl); (case kT => exact fun _ _ => rfl); (case kB => exact fun _ _ => locs rfl); (case c5 => decide); (case c2 => exact rfl); (case c3 => exact rfl); (case c4 => exact rfl); k_whole; intro C' D' g' L' h' tk' l1 l2 FG' F' N' B' X' T'; clear l1 l2; (try dsimp only); (try k_lift B'); (try k_fold))
  k_with "call ref" => (k_here; k_dflt (refine wpAny_call ?_; k_enter))
  k_with "setAttr ref" => (k_here; k_dflt (refine' set_dict ?k1 ?k2 ?k3 ?k4 ?k5 ?k6 ?k7 ?k8 ?k9 ?k10 ?k11 ?k12 ?k13 ?_; (case k1 => k_asm); (case k2 => k_asm); (case k3 => k_asm); (case k4 => k_inst); (case k5 => exact rfl); (case k6 => k_is); (case k7 => k_is); (case k8 => k_is); (case k9 => k_is); (case k10 => k_get); (case k11 => k_put); (case k12 => k_upd); (case k13 => exact Nat.le_of_ble_eq_true rfl); k_whole; intro h' F' N'; (try k_sweep); (try dsimp only at N'); (try dsimp only)))
  trivial

theorem slice_eq {x : Str} {i j : Int} (h0 : 0 ≤ i) (h1 : i ≤ j) (h2 : j ≤ x.length) : Txt.slice x (some i) (some j) = ⟨((x.cps.toList.drop i.toNat).take (j - i).toNat).toArray⟩ := eq_of_beq (slice_closesL h0 h1 h2)
theorem slice_ch {x : Str} {k c : Nat} (hc : x.cps.toList[k]? = some c) : Txt.slice x (some (k : Int)) (some ((k : Int) + 1)) = ch c := by
  have hk : k < x.cps.toList.length := (List.getElem?_eq_some_iff.mp hc).1
  have hk2 : x.cps.toList.length = x.length := by simp [Str.length]
  rw [slice_eq (by (first | lia | omega)) (by (first | lia | omega)) (by (first | lia | omega))]
  have e1 : ((k : Int)).toNat = k := Int.toNat_natCast k
  have e2 : ((k : Int) + 1 - (k : Int)).toNat = 1 := by (first | lia | omega)
  rw [e1, e2, List.drop_eq_getElem_cons hk, (List.getElem?_eq_some_iff.mp hc).2]
  rfl
theorem s_read (S dS : Addr) (hne : dS < S) (k1 k2 k3 t1 t2 t3 ta : Tok) (x : Str) (k : Nat) (c : Nat) (hk : k < x.length) (hc : x.cps.toList[k]? = some c) (hx : x.length ≤ 100000) : KB w mg mb 560 [.ref S, .int 1 ta] 6 64 [(S, instObj 614 dS), (dS, sioD w.params k1 k2 k3 t1 t2 t3 x (k : Int))] (fun h r => (∃ t, r = .str (ch c) t) ∧ h.get? S = some (instObj 614 dS) ∧ ∃ t3', h.get? dS = some (sioD w.params k1 k2 k3 t1 t2 t3' x ((k + 1 : Nat) : Int))) := by
  unfold KB
  k_fill
  intro dp un gd outer base s Q E B X T hh hd hu ret
  k_lt2 hne
  k_dflt (refine' enter_KB ?k1 ?k2 ?k3 ?k6 ?k7 ?k8 ?k9 ?kB ?k0 ?_ ?c5 ?c2 ?c3 ?c4; (case k0 => assumption); (case k1 => assumption); (case k2 => assumption); (case k3 => assumption); (case k6 => k_is); (case k7 => k_is); (case k8 => (dsimp only; (first | lia | omega))); (case k9 => first | exact BindsTo.of_eq rfl | exact binds_K (Frag.In.keeps (by assumption) (fun b o e => of_hideAll _ e)) rfl (by k_is) rfl rfl rfl); (case c5 => decide); (case kB => exact locs rfl); (case c2 => exact rfl); (case c3 => exact rfl); (case c4 => exact rfl); clear B X T; intro b0 L' h' kb0 B X T F' N'; (try dsimp only); (try k_fold))
  k_steps
  · rename News _ _ _ _ => hN9
    exact ret _ _ _ (keepB (by assumption) (by assumption)) ⟨⟨_, congrArg (fun z => Value.str z _) (slice_ch hc)⟩, News.get hN9 (.head _), ⟨_, News.get hN9 (.tail _ (.head _))⟩⟩
  · have e9 : ((x.length : Nat) : Int) = (k : Int) + 1 := (by (first | lia | omega))
    rename News _ _ _ _ => hN9
    refine ret _ _ _ (keepB (by assumption) (by assumption)) ⟨⟨_, (congrArg (fun z => Value.str (Txt.slice x (some (k : Int)) (some z)) _) e9).trans (congrArg (fun z => Value.str z _) (slice_ch hc))⟩, News.get hN9 (.head _), ?_⟩
    rw [e9] at hN9
    exact ⟨_, News.get hN9 (.tail _ (.head _))⟩
theorem s_readEnd (S dS : Addr) (hne : dS < S) (k1 k2 k3 t1 t2 t3 ta : Tok) (x : Str) (hx : x.length ≤ 100000) : KB w mg mb 560 [.ref S, .int 1 ta] 6 64 [(S, instObj 614 dS), (dS, sioD w.params k1 k2 k3 t1 t2 t3 x (x.length : Int))] (fun h r => (∃ t, r = .str (Str.ofString "") t) ∧ h.get? S = some (instObj 614 dS) ∧ h.get? dS = some (sioD w.params k1 k2 k3 t1 t2 t3 x (x.length : Int))) := by
  unfold KB
  k_fill
  intro dp un gd outer base s Q E B X T hh hd hu ret
  k_lt2 hne
  k_dflt (refine' enter_KB ?k1 ?k2 ?k3 ?k6 ?k7 ?k8 ?k9 ?kB ?k0 ?_ ?c5 ?c2 ?c3 ?c4; (case k0 => assumption); (case k1 => assumption); (case k2 => assumption); (case k3 => assumption); (case k6 => k_is); (case k7 => k_is); (case k8 => (dsimp only; (first | lia | omega))); (case k9 => first | exact BindsTo.of_eq rfl | exact binds_K (Frag.In.keeps (by assumption) (fun b o e => of_hideAll _ e)) rfl (by k_is) rfl rfl rfl); (case c5 => decide); (case kB => exact locs rfl); (case c2 => exact rfl); (case c3 => exact rfl); (case c4 => exact rfl); clear B X T; intro b0 L' h' kb0 B X T F' N'; (try dsimp only); (try k_fold))
  k_steps
  rename News _ _ _ _ => hN9
  exact ret _ _ _ (keepB (by assumption) (by assumption)) ⟨⟨_, rfl⟩, News.get hN9 (.head _), News.get hN9 (.tail _ (.head _))⟩

section
variable {A A₀ : Around} {outer : List Env} {base h₀ : Heap} {s : Shared} {Q E : Value → Shared → Prop} {L : Addr} {m : Str → Option Value} {news : List (Addr × Obj)} {env : Env}
theorem newsB {S dS : Addr} {oS oD oD' : Obj} {h' : Heap} {news' : List (Addr × Obj)} (N : News h₀ L s.heap news) (hmS : (S, oS) ∈ news) (hS : h'.get? S = some oS) (hD : h'.get? dS = some oD') (U : Upd dS oD oD' news news')
    (hn : ∀ news', (∀ p ∈ news', (p ∈ news ∧ p.1 ∉ [(S, oS), (dS, oD)].map (·.1)) ∨ (p.1 ∈ [(S, oS), (dS, oD)].map (·.1) ∧ h'.get? p.1 = some p.2)) → News h₀ L h' news') : News h₀ L h' news' := by
  obtain ⟨pre, post, rfl, rfl, a, b⟩ := U.split
  have one : ∀ p, p ∈ pre ++ (dS, oD) :: post → p.1 ≠ dS → (p ∈ pre ++ (dS, oD) :: post ∧ p.1 ∉ [(S, oS), (dS, oD)].map (·.1)) ∨ (p.1 ∈ [(S, oS), (dS, oD)].map (·.1) ∧ h'.get? p.1 = some p.2) := by
    intro p hp hne
    by_cases h1 : p.1 = S
    · have e : p.2 = oS := by
        have h2 := (N p hp).1
        rw [h1, (N _ hmS).1] at h2
        exact (Option.some.inj h2).symm
      exact .inr ⟨by rw [h1]; exact .head _, by rw [h1, e]; exact hS⟩
    · refine .inl ⟨hp, fun hm => ?_⟩
      rcases List.mem_cons.mp hm with h | h
      · exact h1 h
      · exact hne (List.mem_singleton.mp h)
  refine hn _ fun p hp => ?_
  rcases List.mem_append.mp hp with hp | hp
  · exact one p (List.mem_append_left _ hp) (a p hp)
  · rcases List.mem_cons.mp hp with rfl | hp
    · exact .inr ⟨.tail _ (.head _), hD⟩
    · exact one p (List.mem_append_right _ (.tail _ hp)) (b p hp)
theorem use_read {S dS : Addr} {k1 k2 k3 t1 t2 t3 ta : Tok} {x : Str} {k c : Nat} {news' : Tok → List (Addr × Obj)} (hlt : @LT.lt Nat _ dS S) (hk : k < x.length) (hc : x.cps.toList[k]? = some c) (hx : x.length ≤ 100000)
    (hh : A.handled = none) (B : Below A₀ base outer h₀) (F : Fr h₀ L s.heap m) (N : News h₀ L s.heap news) (X : (Mine.hd.heap_39 w.params).In h₀) (T : TopRead Mine.hd.view_39 LO mg mb h₀) (hA : A.frames = some (env :: outer)) (hf : env.frame = some L) (hke : env.scope.kind = .function)
    (hd : A.depth + 6 < recursionLimit) (hu : A.units + 64 < cLine) (hmS : (S, instObj 614 dS) ∈ news)
    (U : ∀ t3', Upd dS (sioD w.params k1 k2 k3 t1 t2 t3 x (k : Int)) (sioD w.params k1 k2 k3 t1 t2 t3' x ((k + 1 : Nat) : Int)) news (news' t3'))
    (ret : ∀ t t3' h' tk', Fr h₀ L h' m → News h₀ L h' (news' t3') → Q (.str (ch c) t) { s with heap := h', toks := tk' }) :
    wpAny (model PySem.Challenge.rw_oy0416_01.row.prog w) A (call (.ref 560) [.ref S, .int 1 ta]) Q E s := by
  have hD : (dS, sioD w.params k1 k2 k3 t1 t2 t3 x (k : Int)) ∈ news := by
    obtain ⟨pre, post, e, _⟩ := (U t3).split
    rw [e]; exact List.mem_append_right _ (.head _)
  refine use_KB (s_read S dS hlt k1 k2 k3 t1 t2 t3 ta x k c hk hc hx) (fun p hp => ?_) hh B F N X T hA hf hke hd hu fun v h' tk' F' hn P => ?_
  · rcases List.mem_cons.mp hp with rfl | hp
    · exact hmS
    · rw [List.mem_singleton.mp hp]; exact hD
  · obtain ⟨⟨t, rfl⟩, hS, t3', hd'⟩ := P
    exact ret t t3' h' tk' F' (newsB N hmS hS hd' (U t3') hn)
theorem use_readEnd {S dS : Addr} {k1 k2 k3 t1 t2 t3 ta : Tok} {x : Str} (hlt : @LT.lt Nat _ dS S) (hx : x.length ≤ 100000)
    (hh : A.handled = none) (B : Below A₀ base outer h₀) (F : Fr h₀ L s.heap m) (N : News h₀ L s.heap news) (X : (Mine.hd.heap_39 w.params).In h₀) (T : TopRead Mine.hd.view_39 LO mg mb h₀) (hA : A.frames = some (env :: outer)) (hf : env.frame = some L) (hke : env.scope.kind = .function)
    (hd : A.depth + 6 < recursionLimit) (hu : A.units + 64 < cLine) (hmS : (S, instObj 614 dS) ∈ news)
    (U : Upd dS (sioD w.params k1 k2 k3 t1 t2 t3 x (x.length : Int)) (sioD w.params k1 k2 k3 t1 t2 t3 x (x.length : Int)) news news)
    (ret : ∀ t h' tk', Fr h₀ L h' m → News h₀ L h' news → Q (.str (Str.ofString "") t) { s with heap := h', toks := tk' }) :
    wpAny (model PySem.Challenge.rw_oy0416_01.row.prog w) A (call (.ref 560) [.ref S, .int 1 ta]) Q E s := by
  have hD : (dS, sioD w.params k1 k2 k3 t1 t2 t3 x (x.length : Int)) ∈ news := by
    obtain ⟨pre, post, e, _⟩ := U.split
    rw [e]; exact List.mem_append_right _ (.head _)
  refine use_KB (s_readEnd S dS hlt k1 k2 k3 t1 t2 t3 ta x hx) (fun p hp => ?_) hh B F N X T hA hf hke hd hu fun v h' tk' F' hn P => ?_
  · rcases List.mem_cons.mp hp with rfl | hp
    · exact hmS
    · rw [List.mem_singleton.mp hp]; exact hD
  · obtain ⟨⟨t, rfl⟩, hS, hd'⟩ := P
    exact ret t h' tk' F' (newsB N hmS hS hd' U hn)
end
end Mine
end
theorem Mine.words25 : True := by k_with_none; trivial
section
open PySem PySem.W PyProof.Rows
set_option maxRecDepth 100000
set_option maxHeartbeats 8000000
set_option linter.unusedVariables false
set_option pp.deepTerms false
set_option pp.maxSteps 6000
namespace Mine
variable {w : World} {mg mb : Str → Option Value}
theorem Mine.words26 : True := by
  k_with "own k_room" => ((try simp only [depth_deeper, depth_in1, depth_under_make, depth_under_kw] at *); (try dsimp only); (first | lia | omega))
  k_with "own k_enter" => first | (refine' go_def ?k1 ?k2 ?k3 ?k4 ?k5 ?kA ?kF ?kK ?k6 ?k7 ?k8 ?k9 ?kB ?_ ?c2 ?c3 ?c4 ?c5; (case kA => exact rfl); (case kF => exact rfl); (case kK => exact rfl); (case k1 => k_asm); (case k2 => k_asm); (case k3 => k_asm); (case k4 => k_asm); (case k5 => k_asm); (case k6 => k_is); (case k7 => k_is); (case k8 => k_room); (case k9 => first | exact BindsTo.of_eq rfl | exact binds_K (by k_in) rfl (by k_is) rfl rfl rfl | fail "k_enter: no rule for these arguments"); (case kB => exact locs rfl); (case c5 => decide); (case c2 => exact rfl); (case c3 => exact rfl); (case c4 => exact rfl); k_whole; intro g' L' h' FG' F' N' B' X' T'; (try dsimp only); (try k_lift B'); (try k_fold)) | (refine' go_both ?k1 ?k2 ?k3 ?k4 ?k5 ?kA ?kF ?kK ?k6 ?k7 ?k8 ?kP ?kS ?kT ?kB ?_ ?c2 ?c3 ?c4 ?c5; (case kA => exact rfl); (case kF => exact rfl); (case kK => exact rfl); (case k1 => k_asm); (case k2 => k_asm); (case k3 => k_asm); (case k4 => k_asm); (case k5 => k_asm); (case k6 => k_is); (case k7 => k_is); (case k8 => k_room); (case kP => exact rfl); (case kS => exact fun _ => rfl); (case kT => exact fun _ _ => rfl); (case kB => exact fun _ _ => locs rfl); (case c5 => decide); (case c2 => exact rfl); (case c3 => exact rfl); (case c4 => exact rfl); k_whole; intro C' D' g' L' h' tk' l1 l2 FG' F' N' B' X' T'; clear l1 l2; (try dsimp only); (try k_lift B'); (try k_fold))
  k_with "call ref" => (k_here; k_dflt (refine wpAny_call ?_; k_enter))
  k_with "setAttr ref" => (k_here; k_dflt (refine' set_dict ?k1 ?k2 ?k3 ?k4 ?k5 ?k6 ?k7 ?k8 ?k9 ?k10 ?k11 ?k12 ?k13 ?_; (case k1 => k_asm); (case k2 => k_asm); (case k3 => k_asm); (case k4 => k_inst); (case k5 => exact rfl); (case k6 => k_is); (case k7 => k_is); (case k8 => k_is); (case k9 => k_is); (case k10 => k_get); (case k11 => k_put); (case k12 => k_upd); (case k13 => exact Nat.le_of_ble_eq_true rfl); k_whole; intro h' F' N'; (try k_sweep); (try dsimp only at N'); (try dsimp only)))
  k_with "callWith" => (k_here; (with_reducible show wpAny _ _ (callWith _ (Value.type "collections.deque") [] _ _) _ _ _); (refine callWith_type rfl (evalArgs_nil3 ?_)); (try dsimp only))
  k_with "call type:collections.deque" => (k_here; k_dflt (refine' call_deque ?k1 ?k2 ?_; (case k1 => k_asm); (case k2 => k_asm)); intro D' h' F' N' l1; (try k_lt l1); (try dsimp only); (try k_sweep))
  k_with "truthy ref" => (k_here; k_dflt (refine' truthy_dq ?k1 ?_; (case k1 => exact News.get (by k_asm) (by k_mem))); intro tk9; (try dsimp only))
  trivial

theorem contains_nil (c : Nat) : Txt.contains (Str.ofString "") (ch c) = false := by
  first | rfl | kernel_rfl
section
variable {prog : Program} {w : World} {A : Around} {E : Value → Shared → Prop} {s : Shared} {Q : Value → Shared → Prop}
theorem in_nil {c : Nat} {t u : Tok} (h : Q (.bool false) s) : wpAny (model prog w) A (compareOp .In (.str (ch c) t) (.str (Str.ofString "") u)) Q E s := SB.contains (by rw [contains_nil]; exact h)
theorem in_esc {c : Nat} {t u : Tok} (he : escC c = false) (h : Q (.bool false) s) : wpAny (model prog w) A (compareOp .In (.str (ch c) t) (.str (Str.ofString "\\") u)) Q E s := SB.contains (by rw [show Txt.contains (Str.ofString "\\") (ch c) = false from he]; exact h)
theorem notin_nil {c : Nat} {t u : Tok} (h : Q (.bool true) s) : wpAny (model prog w) A (compareOp .NotIn (.str (ch c) t) (.str (Str.ofString "") u)) Q E s := SB.notContains (by rw [contains_nil]; exact h)
theorem truthy_ch {c : Nat} {t : Tok} {Q : Bool → Shared → Prop} (h : ∀ k, Q true { s with toks := k }) : wpAny (model prog w) A (truthy (.str (ch c) t)) Q E s := SBL.truthy (by show ((1 : Nat) : Int) < _; decide) (h _)
end

theorem esc_of {x : Str} (h : ∀ c ∈ x.cps.toList, escC c = false) {k c : Nat} (hc : x.cps.toList[k]? = some c) : escC c = false := h c (List.mem_of_getElem? hc)
theorem tokOk {acc : Str} {k c : Nat} (ha : acc.length ≤ k) (hk : k ≤ 100000) : acc.length + (ch c).length ≤ sizeLine := by
  show acc.length + 1 ≤ 2 ^ 24
  (first | lia | omega)
theorem Mine.words27 : True := by
  k_with "call ref" => (k_here; (with_reducible show wpAny _ _ (call (Value.ref 560) [Value.ref _, Value.int 1 _]) _ _ _); k_dflt (first | (refine' use_read ?k1 ?k2 ?k3 ?k4 ?k5 ?k6 ?k7 ?k8 ?k9 ?ka ?kA ?kF ?kK ?kd ?ku ?km ?kU ?_; (case kA => exact rfl); (case kF => exact rfl); (case kK => exact rfl); (case k1 => assumption); (case k2 => assumption); (case k3 => assumption); (case k4 => assumption); (case k5 => exact rfl); (case k6 => k_asm); (case k7 => k_asm); (case k8 => k_asm); (case k9 => k_asm); (case ka => k_asm); (case kd => k_room); (case ku => (simp only [units_deeper, units_in1] at *; (first | lia | omega))); (case km => k_mem); (case kU => (intro t3'; k_upd)); intro t9 t39 h9 tk9 F9 N9; (try dsimp only); (try k_sweep)) | (refine' use_readEnd ?k1 ?k4 ?k5 ?k6 ?k7 ?k8 ?k9 ?ka ?kA ?kF ?kK ?kd ?ku ?km ?kU ?_; (case kA => exact rfl); (case kF => exact rfl); (case kK => exact rfl); (case k1 => assumption); (case k4 => assumption); (case k5 => exact rfl); (case k6 => k_asm); (case k7 => k_asm); (case k8 => k_asm); (case k9 => k_asm); (case ka => k_asm); (case kd => k_room); (case ku => (simp only [units_deeper, units_in1] at *; (first | lia | omega))); (case km => k_mem); (case kU => k_upd); intro t9 h9 tk9 F9 N9; (try dsimp only); (try k_sweep))))
  k_with "exec While" => (k_here; (rename Fr _ _ _ _ => lF'); (rename News _ _ _ _ => lN'); (with_unfolding_all refine while_rt lF' lN' (fun _ h => h) (by rfl) (by assumption) (by assumption) (fun t3' ts' ℓ' tl' ta' u' h' tk' hres' F' N' => ?_) (fun c' k' σ' acc' qd' t3' ts' ℓ' tl' ta' u' h' tk' hk' hc' ha' hr' hσ' F' N' => ?_) (fun k' t3' sv' ℓ' tl' acc' ta' qd' u' h' tk' hk' hres' hsv' F' N' => ?_)) <;> (clear lF' lN'; (try (have hesc' := esc_of (by assumption) hc'))))
  k_with "exec If" => (k_here; (with_reducible show wpAny _ _ (exec (Stmt.If (Expr.Compare (Expr.Name _ _) [CmpOp.Eq] _ _) [Stmt.AugAssign _ _ _ _] _ _) _) _ _ _); (fail_if_success (with_reducible show wpAny _ _ _ (JoinP _ _ _ _ _ _ _ _ _ _ _ _ _ _ _ _ _ _ _ _ _ _ _) _ _)); (rename Fr _ _ _ _ => lF'); (rename News _ _ _ _ => lN'); (refine exec_join lF' lN' ?_ (fun h' tk' ℓ' tl' F' N' => ?_)); rotate_left; (clear lF' lN'; try dsimp only))
  k_with "JoinP" => (exact ⟨rfl, _, _, _, _, rfl, by assumption, by assumption⟩)
  k_with "isTrue BoolOp" => (k_here; (with_reducible show wpAny _ _ (isTrue (Expr.BoolOp BoolOp.Or [_, _, _] _) _ _) _ _ _); (fail_if_success (with_reducible show wpAny _ _ _ (JoinB _ _ _ _ _ _ _ _ _ _ _ _ _ _ _ _ _ _ _ _ _ _ _) _ _)); (rename Fr _ _ _ _ => lF'); (rename News _ _ _ _ => lN'); (refine isTrue_join lF' lN' ?_ (fun h' tk' ℓ' tl' F' N' => ?_)); rotate_left; (clear lF' lN'; try dsimp only))
  k_with "JoinB" => (exact ⟨rfl, _, _, _, _, rfl, by assumption, by assumption⟩)
  k_with "exec If" => (k_here; (with_reducible show wpAny _ _ (exec (Stmt.If (Expr.Compare (Expr.Attribute _ _ _) [CmpOp.Is] _ _) _ _ _) _) _ _ _); (rename RtSt _ _ _ => hσ'); unfold RtSt at hσ'; (rcases hσ' with e1 | e1 | e1 | e1); (obtain ⟨e1, e2, e3⟩ := e1); (subst e1); (subst e2); (subst e3); rotate_left; (subst e1); rotate_left; (subst e1); rotate_left; (subst e1); rotate_left)
  k_with "getAttr ref" => (k_here; k_dflt (refine' get_own ?k1 ?k2 ?k3 ?k4 ?k5 ?k6 ?k7 ?k8 ?k9 ?_; (case k1 => k_asm); (case k2 => k_asm); (case k3 => k_inst); (case k4 => k_is); (case k5 => k_is); (case k6 => k_is); (case k7 => k_is); (case k8 => k_get); (case k9 => k_handed); k_whole))
  k_with "ite" => (k_closed; first | refine PySem.W.ite_pos (by decide +kernel) ?_ | refine PySem.W.ite_neg (by decide +kernel) ?_)
  k_with "eval Name" => (k_here; k_dflt (refine' ld ?k1 ?k2 ?_; (case k1 => k_asm); (case k2 => exact rfl); k_whole))
  k_with "inplaceOp Add str str" => ((refine SBL.iadd (hsz := ?hsz) ?_); (case hsz => exact tokOk (by assumption) (by (first | lia | omega))); intro _ _ kpxZ; clear kpxZ; (try dsimp only))
  k_with "compareOp In str str" => (k_here; (with_reducible show wpAny _ _ (compareOp _ (Value.str (ch _) _) (Value.str (Str.ofString "") _)) _ _ _); refine in_nil ?_)
  k_with "compareOp In str str" => (k_here; (with_reducible show wpAny _ _ (compareOp _ (Value.str (ch _) _) (Value.str (Str.ofString "\\") _)) _ _ _); refine in_esc (by assumption) ?_)
  k_with "compareOp NotIn str str" => (k_here; (with_reducible show wpAny _ _ (compareOp _ (Value.str (ch _) _) (Value.str (Str.ofString "") _)) _ _ _); refine notin_nil ?_)
  k_with "truthy str" => (k_here; (with_reducible show wpAny _ _ (truthy (Value.str (ch _) _)) _ _ _); refine truthy_ch ?_; intro tk9; (try dsimp only))
  trivial

theorem not_q {qd : Bool} {p : Prop} (h : qd = true) : ¬ (qd = false ∧ p) := fun q => by rw [h] at q; exact absurd q.1 (by decide)
theorem not_e {a b : Str} {p : Prop} (h : (a == b) = false) : ¬ (p ∧ a = b) := fun q => ne_of_beq_false h q.2
theorem s_rt (S dS X dX D1 D2 : Addr) (h1 : @LT.lt Nat _ dX X) (h2 : @LT.lt Nat _ X dS) (h3 : @LT.lt Nat _ dS S) (h4 : @LT.lt Nat _ S D1) (h5 : @LT.lt Nat _ D1 D2) (k1 k2 k3 t1 t2 : Tok) (lt : LT) (x : Str) (k₀ : Nat) (t3 ts tl ta : Tok) (ℓ : Int) (res : Option Str × List Nat) (hx : x.length ≤ 100000) (hesc : ∀ c ∈ x.cps.toList, escC c = false) (hk₀ : k₀ ≤ x.length) (hr : rt (x.cps.toList.drop k₀) (Str.ofString " ") (Str.ofString "") false = some res) : KB w mg mb 717 [.ref X] 12 200 (lxs w.params S dS X dX D1 D2 k1 k2 k3 t1 t2 lt x k₀ t3 (.str (Str.ofString " ") ts) ℓ tl (Str.ofString "") ta) (fun h r => RtOut w.params S dS X dX D1 D2 k1 k2 k3 t1 t2 lt x res h r) := by
  unfold KB
  k_fill
  intro dp un gd outer base s Q E B X T hh hd hu ret
  k_dflt (refine' enter_KB ?k1 ?k2 ?k3 ?k6 ?k7 ?k8 ?k9 ?kB ?k0 ?_ ?c5 ?c2 ?c3 ?c4; (case k0 => assumption); (case k1 => assumption); (case k2 => assumption); (case k3 => assumption); (case k6 => k_is); (case k7 => k_is); (case k8 => (dsimp only; (first | lia | omega))); (case k9 => first | exact BindsTo.of_eq rfl | exact binds_K (Frag.In.keeps (by assumption) (fun b o e => of_hideAll _ e)) rfl (by k_is) rfl rfl rfl); (case c5 => decide); (case kB => exact locs rfl); (case c2 => exact rfl); (case c3 => exact rfl); (case c4 => exact rfl); clear B X T; intro b0 L' h' kb0 B X T F' N'; (try dsimp only); (try k_fold))
  k_steps
  all_goals (repeat (first | (k_unfold; (try dsimp only)) | (dsimp only [RtPost])))
  all_goals first
    | (with_reducible exact no_a (by assumption) (occT (by assumption)) (by assumption) (by assumption))
    | ((with_reducible refine' RtNext.intro ?hF ?hN ?hm ?hq ?hy ?hn ?hk ?ha ?hr); (case hF => assumption); (case hN => assumption); (case hm => (first | exact fun _ h => h | exact fun _ h => List.Mem.tail _ h)); (case hq => with_unfolding_all rfl); (case hy => (intro y n1 n2; first | rfl | (simp only [rtM, if_neg n1, if_neg n2]))); (case hn => (first | lia | omega)); (case hk => (first | lia | omega)); (case ha => (first | (rw [nlen]; (first | lia | omega)) | (show 1 ≤ _; (first | lia | omega)) | (rw [Str.length_append]; show _ + 1 ≤ _; (first | lia | omega)) | (first | lia | omega))); (case hr => (with_reducible first | exact rt_s_ws (by assumption) (occT (by assumption)) | exact rt_s_wc (by assumption) (occF (by assumption)) (by assumption) (occT (by assumption)) | exact rt_s_qu (by assumption) (occF (by assumption)) (by assumption) (occF (by assumption)) (occT (by assumption)) | exact rt_s_sp (by assumption) (occF (by assumption)) (by assumption) (occF (by assumption)) (occF (by assumption)) | exact rt_a_qu (by assumption) (occF (by assumption)) (occT (by assumption)) | exact rt_a_ch (by assumption) (occF (by assumption)) (occF (by assumption)) (by assumption) | exact rt_1_eq (by assumption) (by assumption) | exact rt_1_ch (by assumption) (by assumption) | exact rt_2_eq (by assumption) (by assumption) | exact rt_2_ch (by assumption) (by assumption) (by assumption))))
    | ((with_reducible refine' RtBrk.intro ?hF ?hN ?hm ?hq ?hy ?hk ?hr ?hs); (case hF => assumption); (case hN => assumption); (case hm => (first | exact fun _ h => h | exact fun _ h => List.Mem.tail _ h)); (case hq => with_unfolding_all rfl); (case hy => (intro y n1 n2; first | rfl | (simp only [rtM, if_neg n1, if_neg n2]))); (case hk => first | (first | lia | omega) | exact Nat.le_refl _); (case hr => first | (with_reducible exact brk_a (by assumption) (occT (by assumption))) | (with_reducible exact brk_e (by assumption))); (case hs => first | exact fun _ => ⟨_, rfl⟩ | (rename (res = (none, [])) => hq; rw [hq]; intro h; exact absurd rfl h)))
    | (with_reducible exact ret _ _ _ (keepB (by assumption) (by assumption)) (out_none (by assumption) (by assumption) (by assumption) (by assumption) (by assumption) (eq_of_beq (by assumption))))
    | (with_reducible exact ret _ _ _ (keepB (by assumption) (by assumption)) (out_some (by assumption) (by assumption) (by assumption) (by assumption) (by first | exact not_q (by assumption) | exact not_e (by assumption))))

end Mine
end
theorem Mine.words28 : True := by k_with_none; trivial
section
open PySem PySem.W PyProof.Rows
set_option maxRecDepth 100000
set_option maxHeartbeats 8000000
set_option linter.unusedVariables false
set_option pp.deepTerms false
set_option pp.maxSteps 6000
namespace Mine
variable {w : World} {mg mb : Str → Option Value}
theorem Mine.words29 : True := by
  k_with "own k_room" => ((try simp only [depth_deeper, depth_in1, depth_under_make, depth_under_kw] at *); (try dsimp only); (first | lia | omega))
  k_with "own k_enter" => first | (refine' go_def ?k1 ?k2 ?k3 ?k4 ?k5 ?kA ?kF ?kK ?k6 ?k7 ?k8 ?k9 ?kB ?_ ?c2 ?c3 ?c4 ?c5; (case kA => exact rfl); (case kF => exact rfl); (case kK => exact rfl); (case k1 => k_asm); (case k2 => k_asm); (case k3 => k_asm); (case k4 => k_asm); (case k5 => k_asm); (case k6 => k_is); (case k7 => k_is); (case k8 => k_room); (case k9 => first | exact BindsTo.of_eq rfl | exact binds_K (by k_in) rfl (by k_is) rfl rfl rfl | fail "k_enter: no rule for these arguments"); (case kB => exact locs rfl); (case c5 => decide); (case c2 => exact rfl); (case c3 => exact rfl); (case c4 => exact rfl); k_whole; intro g' L' h' FG' F' N' B' X' T'; (try dsimp only); (try k_lift B'); (try k_fold)) | (refine' go_both ?k1 ?k2 ?k3 ?k4 ?k5 ?kA ?kF ?kK ?k6 ?k7 ?k8 ?kP ?kS ?kT ?kB ?_ ?c2 ?c3 ?c4 ?c5; (case kA => exact rfl); (case kF => exact rfl); (case kK => exact rfl); (case k1 => k_asm); (case k2 => k_asm); (case k3 => k_asm); (case k4 => k_asm); (case k5 => k_asm); (case k6 => k_is); (case k7 => k_is); (case k8 => k_room); (case kP => exact rfl); (case kS => exact fun _ => rfl); (case kT => exact fun _ _ => rfl); (case kB => exact fun _ _ => locs rfl); (case c5 => decide); (case c2 => exact rfl); (case c3 => exact rfl); (case c4 => exact rfl); k_whole; intro C' D' g' L' h' tk' l1 l2 FG' F' N' B' X' T'; clear l1 l2; (try dsimp only); (try k_lift B'); (try k_fold))
  k_with "call ref" => (k_here; k_dflt (refine wpAny_call ?_; k_enter))
  k_with "setAttr ref" => (k_here; k_dflt (refine' set_dict ?k1 ?k2 ?k3 ?k4 ?k5 ?k6 ?k7 ?k8 ?k9 ?k10 ?k11 ?k12 ?k13 ?_; (case k1 => k_asm); (case k2 => k_asm); (case k3 => k_asm); (case k4 => k_inst); (case k5 => exact rfl); (case k6 => k_is); (case k7 => k_is); (case k8 => k_is); (case k9 => k_is); (case k10 => k_get); (case k11 => k_put); (case k12 => k_upd); (case k13 => exact Nat.le_of_ble_eq_true rfl); k_whole; intro h' F' N'; (try k_sweep); (try dsimp only at N'); (try dsimp only)))
  k_with "callWith" => (k_here; (with_reducible show wpAny _ _ (callWith _ (Value.type "collections.deque") [] _ _) _ _ _); (refine callWith_type rfl (evalArgs_nil3 ?_)); (try dsimp only))
  k_with "call type:collections.deque" => (k_here; k_dflt (refine' call_deque ?k1 ?k2 ?_; (case k1 => k_asm); (case k2 => k_asm)); intro D' h' F' N' l1; (try k_lt l1); (try dsimp only); (try k_sweep))
  k_with "truthy ref" => (k_here; k_dflt (refine' truthy_dq ?k1 ?_; (case k1 => exact News.get (by k_asm) (by k_mem))); intro tk9; (try dsimp only))
  trivial

section
variable {prog : Program} {A A₀ : Around} {outer : List Env} {base h₀ : Heap} {s : Shared} {E : Value → Shared → Prop} {L : Addr} {m : Str → Option Value} {env : Env} {S dS X dX D1 D2 : Addr} {k1 k2 k3 t1 t2 : Tok} {lt : LT} {x : Str}
theorem newsL {k k' : Nat} {t3 t3' tl tl' ta ta' : Tok} {sv sv' : Value} {ℓ ℓ' : Int} {acc acc' : Str} {h' : Heap}
    (hn : ∀ news', (∀ p ∈ news', (p ∈ lxs w.params S dS X dX D1 D2 k1 k2 k3 t1 t2 lt x k t3 sv ℓ tl acc ta ∧ p.1 ∉ (lxs w.params S dS X dX D1 D2 k1 k2 k3 t1 t2 lt x k t3 sv ℓ tl acc ta).map (·.1)) ∨ (p.1 ∈ (lxs w.params S dS X dX D1 D2 k1 k2 k3 t1 t2 lt x k t3 sv ℓ tl acc ta).map (·.1) ∧ h'.get? p.1 = some p.2)) → News h₀ L h' news')
    (hg : ∀ p ∈ lxs w.params S dS X dX D1 D2 k1 k2 k3 t1 t2 lt x k' t3' sv' ℓ' tl' acc' ta', h'.get? p.1 = some p.2) : News h₀ L h' (lxs w.params S dS X dX D1 D2 k1 k2 k3 t1 t2 lt x k' t3' sv' ℓ' tl' acc' ta') :=
  hn _ fun p hp => .inr ⟨by
    have := List.mem_map_of_mem (f := (·.1)) hp
    exact this, hg p hp⟩
theorem use_rt_some {Q : Value → Shared → Prop} {k₀ : Nat} {t3 ts tl ta : Tok} {ℓ : Int} {y : Str} {rest : List Nat} (h1 : @LT.lt Nat _ dX X) (h2 : @LT.lt Nat _ X dS) (h3 : @LT.lt Nat _ dS S) (h4 : @LT.lt Nat _ S D1) (h5 : @LT.lt Nat _ D1 D2) (hx : x.length ≤ 100000) (hesc : ∀ c ∈ x.cps.toList, escC c = false) (hk₀ : k₀ ≤ x.length) (hr : rt (x.cps.toList.drop k₀) (Str.ofString " ") (Str.ofString "") false = some (some y, rest))
    (hh : A.handled = none) (B : Below A₀ base outer h₀) (F : Fr h₀ L s.heap m) (N : News h₀ L s.heap (lxs w.params S dS X dX D1 D2 k1 k2 k3 t1 t2 lt x k₀ t3 (.str (Str.ofString " ") ts) ℓ tl (Str.ofString "") ta)) (XX : (Mine.hd.heap_39 w.params).In h₀) (T : TopRead Mine.hd.view_39 LO mg mb h₀) (hA : A.frames = some (env :: outer)) (hf : env.frame = some L) (hke : env.scope.kind = .function)
    (hd : A.depth + 12 < recursionLimit) (hu : A.units + 200 < cLine)
    (ret : ∀ t k t3' ts' ℓ' tl' ta' h' tk', k ≤ x.length → x.cps.toList.drop k = rest → Fr h₀ L h' m → News h₀ L h' (lxs w.params S dS X dX D1 D2 k1 k2 k3 t1 t2 lt x k t3' (.str (Str.ofString " ") ts') ℓ' tl' (Str.ofString "") ta') → Q (.str y t) { s with heap := h', toks := tk' }) :
    wpAny (model PySem.Challenge.rw_oy0416_01.row.prog w) A (call (.ref 717) [.ref X]) Q E s := by
  refine use_KB (s_rt S dS X dX D1 D2 h1 h2 h3 h4 h5 k1 k2 k3 t1 t2 lt x k₀ t3 ts tl ta ℓ _ hx hesc hk₀ hr) (fun p hp => hp) hh B F N XX T hA hf hke hd hu fun v h' tk' F' hn P => ?_
  obtain ⟨⟨t, rfl⟩, k, t3', sv, ℓ', tl', ta', hk, hd', hs, hg⟩ := P
  obtain ⟨ts', rfl⟩ := hs (by simp)
  exact ret t k t3' ts' ℓ' tl' ta' h' tk' hk hd' F' (newsL hn hg)
theorem use_rt_none {Q : Value → Shared → Prop} {k₀ : Nat} {t3 ts tl ta : Tok} {ℓ : Int} {rest : List Nat} (h1 : @LT.lt Nat _ dX X) (h2 : @LT.lt Nat _ X dS) (h3 : @LT.lt Nat _ dS S) (h4 : @LT.lt Nat _ S D1) (h5 : @LT.lt Nat _ D1 D2) (hx : x.length ≤ 100000) (hesc : ∀ c ∈ x.cps.toList, escC c = false) (hk₀ : k₀ ≤ x.length) (hr : rt (x.cps.toList.drop k₀) (Str.ofString " ") (Str.ofString "") false = some (none, rest))
    (hh : A.handled = none) (B : Below A₀ base outer h₀) (F : Fr h₀ L s.heap m) (N : News h₀ L s.heap (lxs w.params S dS X dX D1 D2 k1 k2 k3 t1 t2 lt x k₀ t3 (.str (Str.ofString " ") ts) ℓ tl (Str.ofString "") ta)) (XX : (Mine.hd.heap_39 w.params).In h₀) (T : TopRead Mine.hd.view_39 LO mg mb h₀) (hA : A.frames = some (env :: outer)) (hf : env.frame = some L) (hke : env.scope.kind = .function)
    (hd : A.depth + 12 < recursionLimit) (hu : A.units + 200 < cLine)
    (ret : ∀ k t3' sv' ℓ' tl' ta' h' tk', Fr h₀ L h' m → News h₀ L h' (lxs w.params S dS X dX D1 D2 k1 k2 k3 t1 t2 lt x k t3' sv' ℓ' tl' (Str.ofString "") ta') → Q .none { s with heap := h', toks := tk' }) :
    wpAny (model PySem.Challenge.rw_oy0416_01.row.prog w) A (call (.ref 717) [.ref X]) Q E s := by
  refine use_KB (s_rt S dS X dX D1 D2 h1 h2 h3 h4 h5 k1 k2 k3 t1 t2 lt x k₀ t3 ts tl ta ℓ _ hx hesc hk₀ hr) (fun p hp => hp) hh B F N XX T hA hf hke hd hu fun v h' tk' F' hn P => ?_
  obtain ⟨hv, k, t3', sv, ℓ', tl', ta', hk, hd', hs, hg⟩ := P
  have hv : v = .none := hv
  subst hv
  exact ret k t3' sv ℓ' tl' ta' h' tk' F' (newsL hn hg)
theorem while_once {test : Expr} {body : List Stmt} {pos : Pos} {Q : Flow → Shared → Prop}
    (h : wpAny (model prog w) A (isTrue test env (eval test env)) (fun b s₂ => if b = true then wpAny (model prog w) A (execs body env) (fun f s₃ => match f with | .ret v => Q (.ret v) s₃ | .brk => Q .next s₃ | _ => False) E s₂ else Q .next s₂) E s)
    (hE : PassesOwn (model prog w) A env E := by passes_own) : wpAny (model prog w) A (exec (.While test body [] pos) env) Q E s := by
  refine wpAny_While (codeAny_whileLoop (fun _ s' => s' = s) ?_ 0 rfl)
  rintro n s' rfl
  refine wpAny_mono h (fun b s₂ h₂ => ?_) hE
  cases b with
  | false =>
    simp only [Bool.false_eq_true, if_false] at h₂ ⊢
    exact wpAny_execs_nil h₂
  | true =>
    simp only [if_true] at h₂ ⊢
    refine wpAny_mono h₂ (fun f s₃ h₃ => ?_) hE
    cases f with
    | next => exact h₃.elim
    | cont => exact h₃.elim
    | brk => exact h₃
    | ret v => exact h₃
end
theorem Mine.words30 : True := by
  k_with "call ref" => (k_here; (try dsimp only [List.cons_append, List.nil_append, List.append_nil]); (with_reducible show wpAny _ _ (call (Value.ref 717) [Value.ref _]) _ _ _); k_dflt (first | (refine' use_rt_some ?k1 ?k2 ?k3 ?k4 ?k5 ?hx ?he ?hk ?hr ?kh ?kb ?kf ?kn ?kx ?kt ?kA ?kF ?kK ?kd ?ku ?_; (case kA => exact rfl); (case kF => exact rfl); (case kK => exact rfl); (case k1 => assumption); (case k2 => assumption); (case k3 => assumption); (case k4 => assumption); (case k5 => assumption); (case hx => assumption); (case he => assumption); (case hk => assumption); (case hr => assumption); (case kh => exact rfl); (case kb => k_asm); (case kf => k_asm); (case kn => k_asm); (case kx => k_asm); (case kt => k_asm); (case kd => k_room); (case ku => (simp only [units_deeper, units_in1] at *; (first | lia | omega))); intro t9 k9 t39 ts9 l9 tl9 ta9 h9 tk9 hk9 hd9 F9 N9; (try dsimp only); (try k_sweep)) | (refine' use_rt_none ?k1 ?k2 ?k3 ?k4 ?k5 ?hx ?he ?hk ?hr ?kh ?kb ?kf ?kn ?kx ?kt ?kA ?kF ?kK ?kd ?ku ?_; (case kA => exact rfl); (case kF => exact rfl); (case kK => exact rfl); (case k1 => assumption); (case k2 => assumption); (case k3 => assumption); (case k4 => assumption); (case k5 => assumption); (case hx => assumption); (case he => assumption); (case hk => assumption); (case hr => assumption); (case kh => exact rfl); (case kb => k_asm); (case kf => k_asm); (case kn => k_asm); (case kx => k_asm); (case kt => k_asm); (case kd => k_room); (case ku => (simp only [units_deeper, units_in1] at *; (first | lia | omega))); intro k9 t39 sv9 l9 tl9 ta9 h9 tk9 F9 N9; (try dsimp only); (try k_sweep))))
  k_with "exec While" => (k_here; with_unfolding_all refine while_once ?_)
  k_with "getAttr ref" => (k_here; k_dflt (refine' get_own ?k1 ?k2 ?k3 ?k4 ?k5 ?k6 ?k7 ?k8 ?k9 ?_; (case k1 => k_asm); (case k2 => k_asm); (case k3 => k_inst); (case k4 => k_is); (case k5 => k_is); (case k6 => k_is); (case k7 => k_is); (case k8 => k_get); (case k9 => k_handed); k_whole))
  k_with "eval Name" => (k_here; k_dflt (refine' ld ?k1 ?k2 ?_; (case k1 => k_asm); (case k2 => exact rfl); k_whole))
  k_with "ite" => (k_closed; first | refine PySem.W.ite_pos (by decide +kernel) ?_ | refine PySem.W.ite_neg (by decide +kernel) ?_)
  trivial
theorem s_next (S dS X dX D1 D2 : Addr) (h1 : @LT.lt Nat _ dX X) (h2 : @LT.lt Nat _ X dS) (h3 : @LT.lt Nat _ dS S) (h4 : @LT.lt Nat _ S D1) (h5 : @LT.lt Nat _ D1 D2) (k1 k2 k3 t1 t2 : Tok) (lt : LT) (x : Str) (k₀ : Nat) (t3 ts tl ta : Tok) (ℓ : Int) (y : Str) (rest : List Nat) (hx : x.length ≤ 100000) (hesc : ∀ c ∈ x.cps.toList, escC c = false) (hk₀ : k₀ ≤ x.length) (hr : rt (x.cps.toList.drop k₀) (Str.ofString " ") (Str.ofString "") false = some (some y, rest)) : KB w mg mb 746 [.ref X] 20 300 (lxs w.params S dS X dX D1 D2 k1 k2 k3 t1 t2 lt x k₀ t3 (.str (Str.ofString " ") ts) ℓ tl (Str.ofString "") ta) (fun h r => RtOut w.params S dS X dX D1 D2 k1 k2 k3 t1 t2 lt x (some y, rest) h r) := by
  unfold KB
  k_fill
  intro dp un gd outer base s Q E B X T hh hd hu ret
  k_dflt (refine' enter_KB ?k1 ?k2 ?k3 ?k6 ?k7 ?k8 ?k9 ?kB ?k0 ?_ ?c5 ?c2 ?c3 ?c4; (case k0 => assumption); (case k1 => assumption); (case k2 => assumption); (case k3 => assumption); (case k6 => k_is); (case k7 => k_is); (case k8 => (dsimp only; (first | lia | omega))); (case k9 => first | exact BindsTo.of_eq rfl | exact binds_K (Frag.In.keeps (by assumption) (fun b o e => of_hideAll _ e)) rfl (by k_is) rfl rfl rfl); (case c5 => decide); (case kB => exact locs rfl); (case c2 => exact rfl); (case c3 => exact rfl); (case c4 => exact rfl); clear B X T; intro b0 L' h' kb0 B X T F' N'; (try dsimp only); (try k_fold))
  k_steps
  rename News _ _ _ _ => hN9
  exact ret _ _ _ (keepB (by assumption) (by assumption)) ⟨⟨_, rfl⟩, _, _, _, _, _, _, by assumption, by assumption, fun _ => ⟨_, rfl⟩, fun p hp => (hN9 p hp).1⟩

noncomputable def KE0 (w : World) (mg mb : Str → Option Value) (f : Addr) (vs : List Value) (d u : Nat) (hs : List (Addr × Obj)) (news' : List (Addr × Obj) → Prop) : Prop :=
  ∀ (dp un : Nat) (gd : Option (List Code)) (outer : List Env) (base : Heap) (s : Shared) (Q E : Value → Shared → Prop),
    Below { handled := none, depth := dp, frames := some outer, guards := gd, units := un } base outer (hideAll s.heap (hs.map (·.1))) → (Mine.hd.heap_39 w.params).In (hideAll s.heap (hs.map (·.1))) → TopRead Mine.hd.view_39 LO mg mb (hideAll s.heap (hs.map (·.1))) →
    (∀ p ∈ hs, s.heap.get? p.1 = some p.2) → dp + d < recursionLimit → un + u < cLine →
    (∀ (e t : Addr) (b₀ h' : Heap) (tk' : Nat) (nw : List (Addr × Obj)), (∀ b o, b ∉ hs.map (·.1) → s.heap.get? b = some o → b₀.get? b = some o) → news' nw → RaisedK base outer e (.type "StopIteration") t [] nw h' → b₀.UpToSlots h' → E (.ref e) { s with heap := h', toks := tk' }) →
    wpAny (model PySem.Challenge.rw_oy0416_01.row.prog w) { handled := none, depth := dp, frames := some outer, guards := gd, units := un } (call (.ref f) vs) Q E s
theorem s_nextEnd (S dS X dX D1 D2 : Addr) (h1 : @LT.lt Nat _ dX X) (h2 : @LT.lt Nat _ X dS) (h3 : @LT.lt Nat _ dS S) (h4 : @LT.lt Nat _ S D1) (h5 : @LT.lt Nat _ D1 D2) (k1 k2 k3 t1 t2 : Tok) (lt : LT) (x : Str) (k₀ : Nat) (t3 ts tl ta : Tok) (ℓ : Int) (rest : List Nat) (hx : x.length ≤ 100000) (hesc : ∀ c ∈ x.cps.toList, escC c = false) (hk₀ : k₀ ≤ x.length) (hr : rt (x.cps.toList.drop k₀) (Str.ofString " ") (Str.ofString "") false = some (none, rest)) : KE0 w mg mb 746 [.ref X] 20 300 (lxs w.params S dS X dX D1 D2 k1 k2 k3 t1 t2 lt x k₀ t3 (.str (Str.ofString " ") ts) ℓ tl (Str.ofString "") ta) (fun nw => ∃ k t3 sv ℓ tl ta, nw = lxs w.params S dS X dX D1 D2 k1 k2 k3 t1 t2 lt x k t3 sv ℓ tl (Str.ofString "") ta) := by
  unfold KE0
  k_fill
  intro dp un gd outer base s Q E B X T hh hd hu ret
  k_dflt (refine' enter_KBE ?k1 ?k2 ?k3 ?k6 ?k7 ?k8 ?k9 ?kB ?k0 ?_ ?c5 ?c2 ?c3 ?c4; (case k0 => assumption); (case k1 => assumption); (case k2 => assumption); (case k3 => assumption); (case k6 => k_is); (case k7 => k_is); (case k8 => (dsimp only; (first | lia | omega))); (case k9 => first | exact BindsTo.of_eq rfl | exact binds_K (Frag.In.keeps (by assumption) (fun b o e => of_hideAll _ e)) rfl (by k_is) rfl rfl rfl); (case c5 => decide); (case kB => exact locs rfl); (case c2 => exact rfl); (case c3 => exact rfl); (case c4 => exact rfl); clear B X T; intro b0 L' h' kb0 B X T F' N'; (try dsimp only); (try k_fold))
  k_steps
  exact ret _ _ _ _ _ _ (by assumption) ⟨_, _, _, _, _, _, rfl⟩ (by assumption) (by assumption)
end Mine
end
theorem Mine.words31 : True := by k_with_none; trivial
section
open PySem PySem.W PyProof.Rows
set_option maxRecDepth 100000
set_option maxHeartbeats 8000000
set_option linter.unusedVariables false
set_option pp.deepTerms false
set_option pp.maxSteps 6000
namespace Mine
variable {w : World} {mg mb : Str → Option Value}
theorem s_iter (X : Addr) : KS w mg mb 739 [.ref X] 4 64 (fun h => True) (fun h r => r = .ref X) := by
  unfold KS
  k_fill
  intro dp un gd outer base s Q E B X9 T hp hd hu ret
  k_dflt (refine' enter_def ?k1 ?k2 ?k6 ?k7 ?k8 ?k9 ?kB ?_ ?c5 ?c2 ?c3 ?c4; (case k1 => assumption); (case k2 => assumption); (case k6 => k_is); (case k7 => k_is); (case k8 => (dsimp only; (first | lia | omega))); (case k9 => exact BindsTo.of_eq rfl); (case c5 => decide); (case kB => exact locs rfl); (case c2 => exact rfl); (case c3 => exact rfl); (case c4 => exact rfl); intro L' h' F' N'; (try dsimp only); (try k_fold))
  k_steps
  all_goals exact ret _ _ _ (Fr.keep (by assumption)) rfl

theorem lx_noLen (P : Params) : PySem.Challenge.rw_oy0416_01 = PySem.Challenge.rw_oy0416_01 → findIn (Mine.hd.heap_39 P) (.ref 749) "__len__" = some none ∧ findIn (Mine.hd.heap_39 P) (.ref 749) "__length_hint__" = some none ∧
    findIn (Mine.hd.heap_39 P) (.ref 749) "__iter__" = some (some (.ref 739)) ∧ findIn (Mine.hd.heap_39 P) (.ref 749) "__next__" = some (some (.ref 746)) ∧ isFn (Mine.hd.heap_39 P) (.ref 739) = true ∧ isFn (Mine.hd.heap_39 P) (.ref 746) = true := by
  k_fill
  intro _
  exact ⟨by k_is, by k_is, by k_is, by k_is, by k_is, by k_is⟩
inductive RtAll : List Nat → List Str → Prop
  | nil {l r : List Nat} : rt l (Str.ofString " ") (Str.ofString "") false = some (none, r) → RtAll l []
  | cons {l r : List Nat} {y : Str} {ts : List Str} : rt l (Str.ofString " ") (Str.ofString "") false = some (some y, r) → RtAll r ts → RtAll l (y :: ts)
noncomputable def Noted (outer : List Env) (h h' : Heap) : Prop :=
  (∀ b o, h.get? b = some o → b ∉ outer.filterMap (·.frame) → h'.get? b = some o) ∧ ∀ b o, h.get? b = some o → (∀ vs, o.data ≠ .fields vs) → ∃ sl, h'.get? b = some { o with slots := sl }
section
variable {M : Model} {A A₀ : Around} {outer : List Env} {base h₀ : Heap} {s : Shared} {Q E : Value → Shared → Prop} {L : Addr} {m : Str → Option Value} {env : Env} {news : List (Addr × Obj)}
theorem stop_of {Q : Option Value → Shared → Prop} {l : List Env} {e t : Addr} {vs : List Value} {news : List (Addr × Obj)} (R : RaisedK h₀ l e (.type "StopIteration") t vs news s.heap) (q : Q none s) : OwitStop M A Q E (.ref e) s := by
  obtain ⟨⟨B, hB, hl, hfl, _⟩, _⟩ := R
  have hf' := flyingW_base hB hfl
  (have hZ1 := hf'.there; (refine Mine.xa1_2 hZ1 ?_; clear hZ1; intro ob hob hobc))
  have hT : s.TypeIs (.ref e) "StopIteration" := (show ∃ o, s.heap.get? e = some o ∧ o.cls = .type "StopIteration" from ⟨ob, hob, hobc⟩)
  unfold OwitStop
  refine wpAny_isInstance hT (show isSubtype (.type "StopIteration") (.type "StopIteration") = pure true by rw [isSubtype_type]; kernel_rfl) ?_
  show (if true = true then Q none s else E (.ref e) s)
  rw [if_pos rfl]
  exact q
theorem Noted.of_keeps {h h' : Heap} (k : ∀ b o, h.get? b = some o → h'.get? b = some o) : Noted outer h h' := ⟨fun b o e _ => k b o e, fun b o e _ => ⟨o.slots, k b o e⟩⟩
theorem funFrames_hide {h b₁ : Heap} : ∀ {l : List Env} {b : Heap}, h.FunFrames b l → (∀ a ∈ l.filterMap (·.frame), b₁.get? a = none) → h.FunFrames b₁ l
  | [], _, _, _ => trivial
  | env :: r, b, h1, h2 => by
    (have hZ2 := h1; try clear h1; (refine Mine.xa0_3 hZ2 ?_; clear hZ2; intro a1 eZ5 a3; (refine Mine.xa2_4 eZ5 ?_; clear eZ5; intro L o e1 e2 e3 e4)))
    have e5 : (env :: r).filterMap (·.frame) = L :: r.filterMap (·.frame) := List.filterMap_cons_some e1
    refine ⟨a1, ⟨L, o, e1, h2 L ?_, e3, e4⟩, funFrames_hide a3 fun a ha => h2 a ?_⟩
    · rw [e5]; exact List.mem_cons_self ..
    · rw [e5]; exact List.mem_cons_of_mem _ ha
theorem use_KE {w : World} {mg mb : Str → Option Value} {f : Addr} {vs : List Value} {d u : Nat} {hs : List (Addr × Obj)} {P : List (Addr × Obj) → Prop} (C : KE0 w mg mb f vs d u hs P) (hsub : ∀ p ∈ hs, p ∈ news) (hh : A.handled = none) (B : Below A₀ base outer h₀) (FF : Fr h₀ L s.heap m) (N : News h₀ L s.heap news)
    (X : (Mine.hd.heap_39 w.params).In h₀) (T : TopRead Mine.hd.view_39 LO mg mb h₀) (hA : A.frames = some (env :: outer)) (hf : env.frame = some L) (hke : env.scope.kind = .function) (hd : A.depth + d < recursionLimit) (hu : A.units + u < cLine)
    (fly : ∀ e t b₁ h' tk' nw, RaisedK b₁ (env :: outer) e (.type "StopIteration") t [] nw h' → Noted outer h₀ h' → (∀ p ∈ news, p.1 ∉ hs.map (·.1) → h'.get? p.1 = some p.2) → E (.ref e) { s with heap := h', toks := tk' }) :
    wpAny (model PySem.Challenge.rw_oy0416_01.row.prog w) A (call (.ref f) vs) Q E s := by
  have N' : News h₀ L s.heap hs := fun p hp => N p (hsub p hp)
  obtain ⟨FG, BG, st, _⟩ := groundX (R := fun _ _ => True) B FF N' hA hf hke
  obtain ⟨hA1, hA2, hA3, hA4, hA5⟩ := A
  dsimp only at hh hA
  subst hh hA
  have nm : ∀ b o, h₀.get? b = some o → b ∉ hs.map (·.1) := fun b o e q => by
    (have hZ6 := List.mem_map.mp q; (refine Mine.xa1_2 hZ6 ?_; clear hZ6; intro p hp eZ8; subst eZ8))
    rw [(N' p hp).2.2] at e; cases e
  have nL : ∀ b o, h₀.get? b = some o → b ≠ L := fun b o e q => by
    have h1 := Heap.lt_size e
    have h2 := FF.above
    rw [q] at h1
    exact Nat.lt_irrefl _ (Nat.lt_of_lt_of_le h1 h2)
  have eF : (env :: outer).filterMap (·.frame) = L :: outer.filterMap (·.frame) := List.filterMap_cons_some hf
  have inF : ∀ b, b ∈ outer.filterMap (·.frame) → ∃ o, h₀.get? b = some o := fun b hb => by
    (have hZ10 := B.frames.mem hb; (obtain ⟨_, o, ho, _⟩ := hZ10))
    exact ⟨o, ho⟩
  have stays : (hideAll s.heap (hs.map (·.1) ++ (env :: outer).filterMap (·.frame))).StaysIn (hideAll s.heap (hs.map (·.1))) := fun b o e => by
    refine hideAll_get _ (of_hideAll _ e) fun q => ?_
    rw [hideAll_none _ (List.mem_append_left _ q)] at e
    cases e
  refine C hA2 hA5 hA4 (env :: outer) (hideAll s.heap (hs.map (·.1) ++ (env :: outer).filterMap (·.frame))) s Q E ⟨rfl, stays, funFrames_hide BG.frames fun a ha => hideAll_none _ (List.mem_append_right _ ha)⟩ (X.keeps st) (T.keeps st) (fun p hp => (N' p hp).1) hd hu fun e t b₀ h' tk' nw k hnw R up => ?_
  (have hZ11 := R.1; (refine Mine.xa1_4 hZ11 ?_; clear hZ11; intro B1 hB1 _ hfl _))
  have keep : ∀ b o, s.heap.get? b = some o → b ∉ hs.map (·.1) → b ≠ L → b ∉ outer.filterMap (·.frame) → h'.get? b = some o := fun b o e q1 q2 q3 => by
    refine hfl.1 b o (hB1 b o (hideAll_get _ e fun q => ?_))
    rcases List.mem_append.mp q with q | q
    · exact q1 q
    · rw [eF] at q
      rcases List.mem_cons.mp q with q | q
      · exact q2 q
      · exact q3 q
  refine fly e t _ h' tk' nw R ⟨fun b o e q => keep b o (FF.keep b o e) (nm b o e) (nL b o e) q, fun b o e hn => up b o (k b o (nm b o e) (FF.keep b o e)) hn⟩ fun p hp q => keep p.1 p.2 (N p hp).1 q (N p hp).2.1 fun q3 => ?_
  obtain ⟨o, ho⟩ := inF _ q3
  rw [(N p hp).2.2] at ho; cases ho
end
section
variable {A A₀ : Around} {outer : List Env} {base h₀ : Heap} {s : Shared} {L : Addr} {m : Str → Option Value} {env : Env} {S dS X dX D1 D2 : Addr} {k1 k2 k3 t1 t2 : Tok} {lt : LT} {x : Str}
theorem ext_loop {Sl : Addr} {res : Value} {R : Result → Shared → Prop} (h1 : @LT.lt Nat _ dX X) (h2 : @LT.lt Nat _ X dS) (h3 : @LT.lt Nat _ dS S) (h4 : @LT.lt Nat _ S D1) (h5 : @LT.lt Nat _ D1 D2) (hx : x.length ≤ 100000) (hesc : ∀ c ∈ x.cps.toList, escC c = false)
    (hS : Sl ∉ [S, dS, X, dX, D1, D2])
    (hh : A.handled = none) (B : Below A₀ base outer h₀) (XX : (Mine.hd.heap_39 w.params).In h₀) (T : TopRead Mine.hd.view_39 LO mg mb h₀) (hA : A.frames = some (env :: outer)) (hf : env.frame = some L) (hke : env.scope.kind = .function)
    (hd : A.depth + 100 < recursionLimit) (hu : A.units + 600 < cLine) :
    ∀ (ts : List Str) (k₀ : Nat) (t3 ts' tl ta : Tok) (ℓ : Int) (s : Shared) (acc : Array Value) (c : Nat) (pre : List Str), RtAll (x.cps.toList.drop k₀) ts → k₀ ≤ x.length → Fr h₀ L s.heap m → News h₀ L s.heap ((Sl, listOf acc c) :: lxs w.params S dS X dX D1 D2 k1 k2 k3 t1 t2 lt x k₀ t3 (.str (Str.ofString " ") ts') ℓ tl (Str.ofString "") ta) →
      acc.size + ts.length ≤ sizeLine → StrsAre acc.toList pre →
      (∀ h' tk' acc' c', Noted outer h₀ h' → h'.get? Sl = some (listOf acc' c') → StrsAre acc'.toList (pre ++ ts) → R (.ok (.ret res)) { s with heap := h', toks := tk' }) →
      codeAny (model PySem.Challenge.rw_oy0416_01.row.prog w) A (.builtin "list.extend.loop" ⟨[.ref Sl, .ref X, res], []⟩) R s := by
  (have hZ12 := lx_noLen w.params rfl; (refine Mine.xa0_6 hZ12 ?_; clear hZ12; intro _ _ _ hnx _ hfn))
  have hA1 : A.in1.handled = none := hh
  have hA2 : A.in1.frames = some (env :: outer) := hA
  have hd1 : A.in1.depth + 20 < recursionLimit := by simp only [depth_in1]; (first | lia | omega)
  have hu1 : A.in1.units + 300 < cLine := by simp only [units_in1]; (first | lia | omega)
  intro ts
  induction ts with
  | nil =>
    intro k₀ t3 ts' tl ta ℓ s acc c pre hr hk FF N hsz hacc hR
    refine codeAny_builtin F.entry_extend_loop ?_
    rw [Around.under_plainId F.plain_extend_loop _]
    show wpAny _ A.in1 (pyNext (.ref X) >>= _) _ _ s
    have I := InstAt.of_news (C := 749) N (.tail _ (.tail _ (.tail _ (.head _)))) (.tail _ (.tail _ (.tail _ (.tail _ (.head _)))))
    cases hr with
    | nil hr =>
      refine wpAny_bind (owit_next FF XX I hnx hfn ?_)
      refine use_KE (s_nextEnd S dS X dX D1 D2 h1 h2 h3 h4 h5 k1 k2 k3 t1 t2 lt x k₀ t3 ts' tl ta ℓ _ hx hesc hk hr) (fun p hp => .tail _ hp) hA1 B FF N XX T hA2 hf hke hd1 hu1 fun e t b₁ h' tk' nw R9 hn hg => ?_
      refine stop_of R9 (wpAny_pure ?_)
      refine hR h' tk' acc c hn (hg _ (.head _) hS) ?_
      rw [List.append_nil]
      exact hacc
  | cons y ts ih =>
    intro k₀ t3 ts' tl ta ℓ s acc c pre hr hk FF N hsz hacc hR
    refine codeAny_builtin F.entry_extend_loop ?_
    rw [Around.under_plainId F.plain_extend_loop _]
    show wpAny _ A.in1 (pyNext (.ref X) >>= _) _ _ s
    have I := InstAt.of_news (C := 749) N (.tail _ (.tail _ (.tail _ (.head _)))) (.tail _ (.tail _ (.tail _ (.tail _ (.head _)))))
    cases hr with
    | cons hr hr2 =>
      refine wpAny_bind (owit_next FF XX I hnx hfn ?_)
      refine use_KB (s_next S dS X dX D1 D2 h1 h2 h3 h4 h5 k1 k2 k3 t1 t2 lt x k₀ t3 ts' tl ta ℓ y _ hx hesc hk hr) (fun p hp => .tail _ hp) hA1 B FF N XX T hA2 hf hke hd1 hu1 fun v h' tk' F' hn P => ?_
      (have hZ13 := P; try clear P; (obtain ⟨⟨t, rfl⟩, k, t3', sv, ℓ', tl', ta', hk', hd', hs, hg⟩ := hZ13))
      obtain ⟨ts9, rfl⟩ := hs (by simp)
      have hr3 : RtAll (x.cps.toList.drop k) ts := by rw [show x.cps.toList.drop k = _ from hd']; exact hr2
      have N2 : News h₀ L h' ((Sl, listOf acc c) :: lxs w.params S dS X dX D1 D2 k1 k2 k3 t1 t2 lt x k t3' (.str (Str.ofString " ") ts9) ℓ' tl' (Str.ofString "") ta') := hn _ fun p hp => by
        rcases List.mem_cons.mp hp with rfl | hp
        · exact .inl ⟨.head _, hS⟩
        · have := List.mem_map_of_mem (f := (·.1)) hp
          exact .inr ⟨this, hg p hp⟩
      have hS' := (N2 _ (.head _)).1
      show wpAny _ A.in1 (updateSeq Sl (·.push (.str y t)) >>= _) _ _ _
      refine wpAny_bind ?_
      refine wpAny_updateSeq hS' rfl (wpAny_pure ⟨plainId_quiet F.plain_extend_loop _, ?_⟩) (by rw [List.length_cons] at hsz; (first | lia | omega)) (by show (acc.push (.str y t)).size ≤ sizeLine + 1; rw [Array.size_push]; rw [List.length_cons] at hsz; (first | lia | omega))
      have hS2 := Heap.get?_update_self (Obj.mapSeq (·.push (Value.str y t))) hS' rfl
      have sb := Heap.SameBut.update h' Sl (Obj.mapSeq (·.push (Value.str y t)))
      have N3 := News.setHead N2 (fun p hp e => hS (e ▸ (List.mem_map_of_mem (f := (·.1)) hp))) sb hS2
      refine ih k t3' ts9 tl' ta' ℓ' _ (acc.push (.str y t)) _ (pre ++ [y]) hr3 hk' (Fr.update F' N2 (.head _) sb) N3 ?_ ?_ fun h3 tk3 acc3 c3 hn3 hg3 hs3 => ?_
      · rw [Array.size_push]; rw [List.length_cons] at hsz; (first | lia | omega)
      · rw [Array.toList_push]
        have app : ∀ (vs : List Value) (ps : List Str), StrsAre vs ps → StrsAre (vs ++ [.str y t]) (ps ++ [y]) := fun vs ps h => by
          induction h with
          | nil => exact .cons _ _ .nil
          | cons a b _ ih9 => exact .cons _ _ ih9
        exact app _ _ hacc
      · refine hR h3 tk3 acc3 c3 hn3 hg3 ?_
        rw [List.append_assoc] at hs3
        exact hs3
theorem call_list_lex {Q E : Value → Shared → Prop} {news : List (Addr × Obj)} {t3 ts' tl ta : Tok} {ℓ : Int} {ts : List Str} (h1 : @LT.lt Nat _ dX X) (h2 : @LT.lt Nat _ X dS) (h3 : @LT.lt Nat _ dS S) (h4 : @LT.lt Nat _ S D1) (h5 : @LT.lt Nat _ D1 D2) (hx : x.length ≤ 100000) (hesc : ∀ c ∈ x.cps.toList, escC c = false)
    (hr : RtAll x.cps.toList ts) (hz : ts.length ≤ 100000) (hsub : ∀ p ∈ lxs w.params S dS X dX D1 D2 k1 k2 k3 t1 t2 lt x 0 t3 (.str (Str.ofString " ") ts') ℓ tl (Str.ofString "") ta, p ∈ news)
    (hh : A.handled = none) (B : Below A₀ base outer h₀) (FF : Fr h₀ L s.heap m) (N₀ : News h₀ L s.heap news) (XX : (Mine.hd.heap_39 w.params).In h₀) (T : TopRead Mine.hd.view_39 LO mg mb h₀) (hA : A.frames = some (env :: outer)) (hf : env.frame = some L) (hke : env.scope.kind = .function)
    (hd : A.depth + 120 < recursionLimit) (hu : A.units + 700 < cLine)
    (hQ : ∀ D h' tk' acc c, Noted outer h₀ h' → h'.get? D = some (listOf acc c) → h₀.get? D = none → StrsAre acc.toList ts → Q (.ref D) { s with heap := h', toks := tk' }) :
    wpAny (model PySem.Challenge.rw_oy0416_01.row.prog w) A (call (.type "list") [.ref X]) Q E s := by
  (have hZ47 := lx_noLen w.params rfl; (refine Mine.xa0_6 hZ47 ?_; clear hZ47; intro hlen hhint hit hnx hfi hfn))
  have N : News h₀ L s.heap (lxs w.params S dS X dX D1 D2 k1 k2 k3 t1 t2 lt x 0 t3 (.str (Str.ofString " ") ts') ℓ tl (Str.ofString "") ta) := fun p hp => N₀ p (hsub p hp)
  have hSf : s.heap.objs.size ∉ [S, dS, X, dX, D1, D2] := fun hm => by
    (have hZ48 := List.mem_map.mp (show s.heap.objs.size ∈ (lxs w.params S dS X dX D1 D2 k1 k2 k3 t1 t2 lt x 0 t3 (.str (Str.ofString " ") ts') ℓ tl (Str.ofString "") ta).map (·.1) from hm); (refine Mine.xa1_2 hZ48 ?_; clear hZ48; intro p hp e))
    have := Heap.lt_size (N p hp).1
    rw [e] at this
    exact Nat.lt_irrefl _ this
  have hD0 : h₀.get? s.heap.objs.size = none := Fr.fresh FF
  refine callType_codes (Q₁ := fun obj s₁ => obj = .ref s.heap.objs.size ∧ s₁ = { s with heap := s.heap.push { cls := .type "list", data := .seq #[] } }) F.called_list (F.typeCall_list_1 _) F.entry_list_init
    (code_list_new _ ⟨rfl, rfl⟩) fun obj s₁ hs₁ => ?_
  obtain ⟨rfl, rfl⟩ := hs₁
  have hS₁ : (s.heap.push { cls := .type "list", data := .seq #[] }).get? s.heap.objs.size = some { cls := .type "list", data := .seq #[] } := Heap.get?_push_size _ rfl
  refine ⟨⟨_, hS₁, rfl⟩, F.args_list_init_2 _ _, ?_⟩
  have hA1 : A.in1.in1.handled = none := hh
  have hA2 : A.in1.in1.frames = some (env :: outer) := hA
  show wpAny _ A.in1.in1 (do let old ← Builtin.List.listItems (.ref s.heap.objs.size); Builtin.List.listUpdate (.ref s.heap.objs.size) (fun _ => #[]); letGo old.toList.reverse; Builtin.List.listExtendWith (.ref s.heap.objs.size) (.ref X) .none) _ _ _
  refine wpAny_bind ?_
  unfold Builtin.List.listItems
  refine wpAny_bind (wpAny_seqItems hS₁ rfl (wpAny_pure ?_))
  show wpAny _ A.in1.in1 (updateSeq s.heap.objs.size (fun _ => #[]) >>= fun _ => letGo (#[] : Array Value).toList.reverse >>= fun _ => Builtin.List.listExtendWith (.ref s.heap.objs.size) (.ref X) .none) _ _ _
  refine wpAny_bind (wpAny_updateSeq hS₁ rfl ?_)
  have hS₂ := Heap.get?_update_self (Obj.mapSeq (fun _ => (#[] : Array Value))) hS₁ rfl
  refine wpAny_bind (wpAny_letGo ?_)
  have F1 := FF.push { cls := .type "list", data := .seq #[] }
  have N1 := N.push FF { cls := .type "list", data := .seq #[] }
  have sb2 := Heap.SameBut.update (s.heap.push { cls := .type "list", data := .seq #[] }) s.heap.objs.size (Obj.mapSeq (fun _ => (#[] : Array Value)))
  have ap : ∀ p ∈ lxs w.params S dS X dX D1 D2 k1 k2 k3 t1 t2 lt x 0 t3 (.str (Str.ofString " ") ts') ℓ tl (Str.ofString "") ta, p.1 ≠ s.heap.objs.size := fun p hp e => hSf (e ▸ (List.mem_map_of_mem (f := (·.1)) hp))
  have F2 := Fr.update F1 N1 (.head _) sb2
  have N2 := News.setHead N1 ap sb2 hS₂
  generalize hH2 : (s.heap.push { cls := .type "list", data := .seq #[] }).update s.heap.objs.size (Obj.mapSeq (fun _ => (#[] : Array Value))) = H2 at *
  have I2 := InstAt.of_news (C := 749) N2 (.tail _ (.tail _ (.tail _ (.head _)))) (.tail _ (.tail _ (.tail _ (.tail _ (.head _)))))
  unfold Builtin.List.listExtendWith
  refine wpAny_bind (I2.type.here ?_)
  have e1 : Builtin.List.listSameRef (.ref s.heap.objs.size) (.ref X) = false := by
    have : s.heap.objs.size ≠ X := fun e => hSf (e ▸ (.tail _ (.tail _ (.head _))))
    simp [Builtin.List.listSameRef, this]
  have e2 : (Value.ref 749 == Value.type "list") = false := by decide
  have e3 : (Value.ref 749 == Value.type "tuple") = false := by decide
  simp only [e1, e2, e3, Bool.or_false, Bool.false_eq_true, if_false]
  refine wpAny_bind (owit_iter (s := { s with heap := H2 }) F2 XX I2 hit hfi ?_)
  refine use_KS (s_iter X) hA1 B F2 N2 XX T hA2 hf hke trivial (by simp only [depth_in1]; (first | lia | omega)) (by simp only [units_in1]; (first | lia | omega)) fun v h' tk' F3 N3 k3 P3 => ?_
  subst P3
  have I3 := InstAt.of_news (C := 749) N3 (.tail _ (.tail _ (.tail _ (.head _)))) (.tail _ (.tail _ (.tail _ (.tail _ (.head _)))))
  refine owit_it F3 XX I3 hnx ?_
  refine wpAny_bind (wpAny_holding ?_)
  unfold Builtin.List.listLengthHint
  have XX3 := XX.keeps F3.keep
  refine wpAny_bind (wpAny_bind (I3.type.here ((looks_findIn XX3 hlen).here ?_)))
  show wpAny _ _ (specialOf (Value.ref X) (Str.ofString "__length_hint__") >>= _) _ _ _
  refine wpAny_bind (wpAny_bind (I3.type.here ((looks_findIn XX3 hhint).here ?_)))
  refine wpAny_pure ?_
  show wpAny _ _ (rule "list.extend.makes-room" >>= fun _ => Builtin.List.listTouch (.ref s.heap.objs.size) >>= fun _ => again (.builtin "list.extend.loop" ⟨[.ref s.heap.objs.size, .ref X, .none], []⟩)) _ _ _
  refine wpAny_bind (wpAny_rule ?_)
  refine wpAny_bind ?_
  show wpAny _ _ (updateSeq s.heap.objs.size (·.push .none) >>= fun _ => updateSeq s.heap.objs.size (·.pop)) _ _ _
  have hS₃ := (N3 _ (.head _)).1
  refine wpAny_bind (wpAny_updateSeq hS₃ rfl ?_)
  have hS₄ := Heap.get?_update_self (Obj.mapSeq (·.push Value.none)) hS₃ rfl
  have sb4 := Heap.SameBut.update h' s.heap.objs.size (Obj.mapSeq (·.push Value.none))
  have F4 := Fr.update F3 N3 (.head _) sb4
  have N4 := News.setHead N3 ap sb4 hS₄
  refine wpAny_updateSeq (hz := by seq_fits) hS₄ rfl ?_
  have hS₅ := Heap.get?_update_self (Obj.mapSeq (·.pop)) hS₄ rfl
  have sb5 := Heap.SameBut.update (h'.update s.heap.objs.size (Obj.mapSeq (·.push Value.none))) s.heap.objs.size (Obj.mapSeq (·.pop))
  have F5 := Fr.update F4 N4 (.head _) sb5
  have N5 := News.setHead N4 ap sb5 hS₅
  refine wpAny_pure ⟨plainId_quiet F.plain_extend_loop _, ?_⟩
  refine ext_loop h1 h2 h3 h4 h5 hx hesc hSf (A := A.in1) hh B XX T hA hf hke (by simp only [depth_in1]; (first | lia | omega)) (by simp only [units_in1]; (first | lia | omega)) ts 0 t3 ts' tl ta ℓ _ #[] _ [] hr (Nat.zero_le _) F5 N5 (by show 0 + _ ≤ 2 ^ 24; (first | lia | omega)) .nil fun h6 tk6 acc6 c6 hn6 hg6 hs6 => ?_
  exact ⟨rfl, hQ _ h6 tk6 acc6 c6 hn6 hg6 hD0 hs6⟩
end
end Mine
end
section
open PySem PySem.W PyProof.Rows
set_option maxRecDepth 100000
set_option maxHeartbeats 8000000
set_option linter.unusedVariables false
set_option pp.deepTerms false
set_option pp.maxSteps 6000
namespace Mine
variable {w : World} {mg mb : Str → Option Value}
theorem Mine.words32 : True := by
  k_with "own k_room" => ((try simp only [depth_deeper, depth_in1, depth_under_make, depth_under_kw] at *); (try dsimp only); (first | lia | omega))
  k_with "own k_enter" => first | (refine' go_def ?k1 ?k2 ?k3 ?k4 ?k5 ?kA ?kF ?kK ?k6 ?k7 ?k8 ?k9 ?kB ?_ ?c2 ?c3 ?c4 ?c5; (case kA => exact rfl); (case kF => exact rfl); (case kK => exact rfl); (case k1 => k_asm); (case k2 => k_asm); (case k3 => k_asm); (case k4 => k_asm); (case k5 => k_asm); (case k6 => k_is); (case k7 => k_is); (case k8 => k_room); (case k9 => first | exact BindsTo.of_eq rfl | exact binds_K (by k_in) rfl (by k_is) rfl rfl rfl | fail "k_enter: no rule for these arguments"); (case kB => exact locs rfl); (case c5 => decide); (case c2 => exact rfl); (case c3 => exact rfl); (case c4 => exact rfl); k_whole; intro g' L' h' FG' F' N' B' X' T'; (try dsimp only); (try k_lift B'); (try k_fold)) | (refine' go_both ?k1 ?k2 ?k3 ?k4 ?k5 ?kA ?kF ?kK ?k6 ?k7 ?k8 ?kP ?kS ?kT ?kB ?_ ?c2 ?c3 ?c4 ?c5; (case kA => exact rfl); (case kF => exact rfl); (case kK => exact rfl); (case k1 => k_asm); (case k2 => k_asm); (case k3 => k_asm); (case k4 => k_asm); (case k5 => k_asm); (case k6 => k_is); (case k7 => k_is); (case k8 => k_room); (case kP => exact rfl); (case kS => exact fun _ => rfl); (case kT => exact fun _ _ => rfl); (case kB => exact fun _ _ => locs rfl); (case c5 => decide); (case c2 => exact rfl); (case c3 => exact rfl); (case c4 => exact rfl); k_whole; intro C' D' g' L' h' tk' l1 l2 FG' F' N' B' X' T'; clear l1 l2; (try dsimp only); (try k_lift B'); (try k_fold))
  k_with "call ref" => (k_here; k_dflt (refine wpAny_call ?_; k_enter))
  trivial

theorem sio_made (P : Params) (S : Setting) : peek (Mine.hd.heap_39 P) S (Bind.madeBy (.ref 614)) = some none := by kernel_rfl
theorem sio_base (P : Params) (S : Setting) : peek (Mine.hd.heap_39 P) S (Bind.staticBase (.ref 614)) = some (.type "object") := by kernel_rfl
theorem obj_made (P : Params) (S : Setting) : peek (Mine.hd.heap_39 P) S (Bind.madeBy (.type "object")) = some (some "object.__new__") := by kernel_rfl
theorem Mine.words33 : True := by
  k_with "call ref" => (k_here; (with_reducible show wpAny _ _ (call (Value.ref 614) [Value.str _ _]) _ _ _); k_dflt (refine' call_ownNew ?k1 ?k2 ?k3 ?k4 ?k5 (sio_made _) ?k7 ?k8 ?k9 ?_; (case k1 => k_in); (case k2 => k_is); (case k3 => rfl); (case k4 => k_is); (case k5 => k_is); (case k7 => k_is); (case k8 => k_is); (case k9 => k_is)))
  k_with "NewBack" => (k_dflt (refine' NewBack.intro ?k1 ?k2 ?k3 ?_; (case k1 => k_asm); (case k2 => k_asm); (case k3 => k_inst)); (try dsimp only))
  k_with "call builtin:object.__new__" => (k_here; k_dflt (refine' objNew_call ?k1 ?k2 ?k3 ?k4 ?k5 ?k6 ?k7 ?k8 (sio_base _) (obj_made _) ?_; (case k1 => k_asm); (case k2 => k_asm); (case k3 => k_asm); (case k4 => k_is); (case k5 => rfl); (case k6 => rfl); (case k7 => k_is); (case k8 => k_is)); intro x' d' h' F' N' l1 l2; (try k_lt l1); (try k_lt2 l2); (try dsimp only); (try k_sweep))
  k_with "callWith" => (k_here; (with_reducible show wpAny _ _ (callWith _ (Value.type "collections.deque") [] _ _) _ _ _); (refine callWith_type rfl (evalArgs_nil3 ?_)); (try dsimp only))
  k_with "call type:collections.deque" => (k_here; k_dflt (refine' call_deque ?k1 ?k2 ?_; (case k1 => k_asm); (case k2 => k_asm)); intro D' h' F' N' l1; (try k_lt l1); (try dsimp only); (try k_sweep))
  k_with "truthy ref" => (k_here; k_dflt (refine' truthy_dq ?k1 ?_; (case k1 => exact News.get (by k_asm) (by k_mem))); intro tk9; (try dsimp only))
  k_with "setAttr ref" => (k_here; k_dflt (refine' set_dict ?k1 ?k2 ?k3 ?k4 ?k5 ?k6 ?k7 ?k8 ?k9 ?k10 ?k11 ?k12 ?k13 ?_; (case k1 => k_asm); (case k2 => k_asm); (case k3 => k_asm); (case k4 => k_inst); (case k5 => exact rfl); (case k6 => k_is); (case k7 => k_is); (case k8 => k_is); (case k9 => k_is); (case k10 => k_get); (case k11 => k_put); (case k12 => k_upd); (case k13 => exact Nat.le_of_ble_eq_true rfl); k_whole; intro h' F' N'; (try k_sweep); (try dsimp only at N'); (try dsimp only)))
  trivial

noncomputable def KR (w : World) (mg mb : Str → Option Value) (f : Addr) (vs : List Value) (d u : Nat) (Post : Heap → Heap → Value → Prop) : Prop :=
  ∀ (dp un : Nat) (gd : Option (List Code)) (outer : List Env) (base : Heap) (s : Shared) (Q E : Value → Shared → Prop),
    Below { handled := none, depth := dp, frames := some outer, guards := gd, units := un } base outer s.heap → (Mine.hd.heap_39 w.params).In s.heap → TopRead Mine.hd.view_39 LO mg mb s.heap →
    dp + d < recursionLimit → un + u < cLine →
    (∀ v h' tk', Noted outer s.heap h' → Post s.heap h' v → Q v { s with heap := h', toks := tk' }) →
    wpAny (model PySem.Challenge.rw_oy0416_01.row.prog w) { handled := none, depth := dp, frames := some outer, guards := gd, units := un } (call (.ref f) vs) Q E s
section
variable {f : Addr} {vs : List Value} {d u : Nat} {Post : Heap → Heap → Value → Prop}
variable {A A₀ : Around} {base h₀ : Heap} {s : Shared} {Q E : Value → Shared → Prop} {L : Addr} {m : Str → Option Value} {news : List (Addr × Obj)} {env : Env}
theorem use_KR (C : KR w mg mb f vs d u Post) (hh : A.handled = none) (B : Below A₀ base [] h₀) (F : Fr h₀ L s.heap m) (N : News h₀ L s.heap news) (X : (Mine.hd.heap_39 w.params).In h₀)
    (T : TopRead Mine.hd.view_39 LO mg mb h₀) (hA : A.frames = some [env]) (hf : env.frame = some L) (hke : env.scope.kind = .function)
    (hd : A.depth + d < recursionLimit) (hu : A.units + u < cLine)
    (ret : ∀ v h' tk', Fr h₀ L h' m → News h₀ L h' news → Post s.heap h' v → Q v { s with heap := h', toks := tk' }) :
    wpAny (model PySem.Challenge.rw_oy0416_01.row.prog w) A (call (.ref f) vs) Q E s := by
  have B1 := pushX B F hf hke
  obtain ⟨hA1, hA2, hA3, hA4, hA5⟩ := A
  dsimp only at hh hA
  subst hh hA
  refine C hA2 hA5 hA4 [env] base s Q E ⟨rfl, B1.stays, B1.frames⟩ (X.keeps F.keep) (T.keeps F.keep) hd hu fun v h' tk' k P => ?_
  have eF : [env].filterMap (·.frame) = [L] := List.filterMap_cons_some hf
  have keep : ∀ b o, s.heap.get? b = some o → b ≠ L → h'.get? b = some o := fun b o e q => k.1 b o e (by rw [eF]; simpa using q)
  refine ret v h' tk' (F.of_stays (fun b o e => keep b o (F.keep b o e) fun q => ?_) k.2) (fun p hp => ⟨keep _ _ (N p hp).1 (N p hp).2.1, (N p hp).2⟩) P
  have h1 := Heap.lt_size e
  have h2 := F.above
  rw [q] at h1
  exact Nat.lt_irrefl _ (Nat.lt_of_lt_of_le h1 h2)
end
theorem Mine.words34 : True := by
  k_with "call type:list" => (k_here; (with_reducible show wpAny _ _ (call (Value.type "list") [Value.ref _]) _ _ _); (rename RtAll _ _ => hRt9); k_dflt (refine' call_list_lex (lt := ⟨_, _, _, _, _, _, _, _, _, _, _, _, _, _, _, _, _, _, _, _, _, _, _, _, _, _, _⟩) ?k1 ?k2 ?k3 ?k4 ?k5 ?hx ?he hRt9 ?hz ?hs ?kh ?kb ?kf ?kn ?kx ?kt ?kA ?kF ?kK ?kd ?ku ?_; (case kn => k_asm); (case hs => (intro p hp; (repeat (first | (rcases List.mem_cons.mp hp with hp | hp; (· subst hp; k_mem)) | exact absurd hp List.not_mem_nil)))); (case kA => exact rfl); (case kF => exact rfl); (case kK => exact rfl); (case k1 => first | assumption | (apply ltN; (first | lia | omega))); (case k2 => first | assumption | (apply ltN; (first | lia | omega))); (case k3 => first | assumption | (apply ltN; (first | lia | omega))); (case k4 => first | assumption | (apply ltN; (first | lia | omega))); (case k5 => first | assumption | (apply ltN; (first | lia | omega))); (case hx => assumption); (case he => assumption); (case hz => assumption); (case kh => exact rfl); (case kb => k_asm); (case kf => k_asm); (case kx => k_asm); (case kt => k_asm); (case kd => k_room); (case ku => (simp only [units_deeper, units_in1] at *; (first | lia | omega))); intro D9 h9 tk9 acc9 c9 hn9 hg9 hf9 hs9; (try dsimp only)))
  trivial
theorem s_split (x : Str) (t : Tok) (ts : List Str) (hx : x.length ≤ 100000) (hesc : ∀ c ∈ x.cps.toList, escC c = false) (hrt : RtAll x.cps.toList ts) (hz : ts.length ≤ 100000) : KR w mg mb 761 [.str x t] 200 1000 (fun h₀ h r => ∃ D acc c, r = .ref D ∧ h.get? D = some (listOf acc c) ∧ h₀.get? D = none ∧ StrsAre acc.toList ts) := by
  unfold KR
  k_fill
  intro dp un gd outer base s Q E B X T hd hu ret
  k_dflt (refine' enter_def ?k1 ?k2 ?k6 ?k7 ?k8 ?k9 ?kB ?_ ?c5 ?c2 ?c3 ?c4; (case k1 => assumption); (case k2 => assumption); (case k6 => k_is); (case k7 => k_is); (case k8 => (dsimp only; (first | lia | omega))); (case k9 => first | exact BindsTo.of_eq rfl | exact binds_K (by k_in) rfl (by k_is) rfl rfl rfl); (case c5 => decide); (case kB => exact locs rfl); (case c2 => exact rfl); (case c3 => exact rfl); (case c4 => exact rfl); intro L' h' F' N'; (try dsimp only); (try k_fold))
  k_steps
  all_goals exact ret _ _ _ (by assumption) ⟨_, _, _, rfl, by assumption, by assumption, by assumption⟩
end Mine
end
theorem Mine.words35 : True := by k_with_none; trivial
section
open PySem PySem.W PyProof.Rows
set_option maxRecDepth 100000
set_option maxHeartbeats 8000000
set_option linter.unusedVariables false
set_option pp.deepTerms false
set_option pp.maxSteps 6000
namespace Mine
variable {w : World} {mg mb : Str → Option Value}

section
variable {A : Around} {s : Shared} {K : Frag} {Q E : Value → Shared → Prop}
theorem enter_codeT {name qual : Str} {params : Arguments} {body : List Stmt} {scope : Scope} {dV kV doc pm cdv ct oc : Value} {an od : Option Addr} {osl : Array (Option Value)} {f : Addr} {vs : List Value} {kw : List (Str × Value)} {binds : List (Str × Value)}
    {p : Program} {loose : List Str} {prog : Program} {ps : Array Value}
    (X : K.In s.heap) (T : TopRead p loose mg mb s.heap) (ht : s.heap.get? 763 = some (tabO ps))
    (ho : K.lookup f = some ⟨oc, od, .func (fnOf name qual params body scope dV kV doc pm an cdv ct), osl⟩) (hcd : codeIn K cdv qual = true) (hroom : A.depth < recursionLimit)
    (hbind : BindsTo s (fnOf name qual params body scope dV kV doc pm an cdv ct) ⟨vs, kw⟩ binds) (hkind : (binds.all fun y => scope.names.lookup y.1 == some .local || scope.names.lookup y.1 == some .cell) = true)
    (hnd : ((cellsFrom 0 scope.names []).map (·.1)).Nodup)
    (h : ∀ L' h₁ tk cells, Fr (hideAll s.heap [763]) L' h₁ (bindL (envOfC qual scope L' f cdv).kindOf binds fun _ => none) → News (hideAll s.heap [763]) L' h₁ (cells ++ [(763, tabO ps)]) → @LT.lt Nat _ 763 L' →
      CellsAre (bindC (envOfC qual scope L' f cdv).kindOf binds fun _ => none) (cellsFrom (L' + 1) scope.names []) cells →
      wpAny (model prog w) (A.deeper (envOfC qual scope L' f cdv)) (execs body (envOfC qual scope L' f cdv))
        (fun fl s' => Q (match fl with | .ret v => v | _ => .none) s')
        (fun _ _ => False)
        { s with heap := h₁, toks := tk })
    (hco : scope.isCoroutine = false) (hgen : scope.isGenerator = false) (hk : scope.kind = .function) :
    codeAny (model prog w) A (.call (.ref f) ⟨vs, kw⟩) (wants Q E) s := by
  refine codeAny_call_function (fd := fnOf name qual params body scope dV kV doc pm an cdv ct) hroom (X _ _ ho) rfl hco hgen rfl (codeRec_of X hcd) (hbind _ _ _ _ ?_)
  refine wpAny_newFunctionEnv_cells hk (kindsX hkind _) fun env' he s' x => ?_
  subst he
  refine ⟨T.nolimit.keeps x.toInCall.keep, codeAny_func ?_⟩
  (have hZ1 := x.done; (refine Mine.xa2_2 hZ1 ?_; clear hZ1; intro h₁ tk eZ3 _; subst eZ3))
  have hk₁ := x.toInCall.keep
  obtain ⟨cells, NC, Y⟩ := Cl.news (h₀ := s.heap) (Nat.le_refl _) fun n c hm => ⟨x.cell n c (lookup_of_mem_nodup (cellsFrom_names scope.names 0 (s.heap.objs.size + 1) [] [] rfl ▸ hnd) hm), x.above n c hm⟩
  have h763 := Heap.lt_size ht
  refine wpAny_mono ?_ (fun _ _ y => y) (fun _ _ y => False.elim y)
  refine h s.heap.objs.size h₁ tk cells ⟨x.toInCall.ns, fun b o e => hk₁ b o (of_hideAll _ e), by rw [hideAll_size]; exact Nat.le_refl _⟩ (fun p hp => ?_) h763 Y
  rcases List.mem_append.mp hp with hp | hp
  · (first | refine Mine.in2 ((NC p hp).1) ((NC p hp).2.1) (?_) | refine ⟨(NC p hp).1, (NC p hp).2.1, ?_⟩)
    cases q : (hideAll s.heap [763]).get? p.1 with
    | none => rfl
    | some o => have := (NC p hp).2.2; rw [of_hideAll _ q] at this; cases this
  · rw [List.mem_singleton.mp hp]
    exact ⟨hk₁ _ _ ht, Nat.ne_of_lt h763, hideAll_none _ (List.mem_singleton.mpr rfl)⟩
end
section
variable {A : Around} {s : Shared} {Q E : Value → Shared → Prop} {h₀ : Heap} {L D : Addr} {m : Str → Option Value} {f : Addr} {vs : List Value} {d u : Nat} {Pre : Heap → Prop} {Post : Value → Prop} {ps : Array Value} {od : Obj} {rest : List (Addr × Obj)}
theorem use_KT (C : KT w mg mb f vs d u Pre Post) (hh : A.handled = none) (X : (Mine.hd.heap_39 w.params).In h₀) (T : TopRead Mine.hd.view_39 LO mg mb h₀) (M : ∃ bm ob, BMod h₀ mainGlobals mg bm ob) (F : Fr h₀ L s.heap m) (N : News h₀ L s.heap ((D, od) :: (763, tabO ps) :: rest)) (hg : GoodTab ps) (hb : AllBare s.gens)
    (hrest : ∀ p ∈ rest, p.1 ≠ 763) (hod : od.cls ≠ .none) (hp : Pre s.heap) (hd : A.depth + d < recursionLimit) (hu : A.units + u < cLine)
    (ret : ∀ v s' ps', GoodTab ps' → AllBare s'.gens → s'.os = s.os → Fr h₀ L s'.heap m → News h₀ L s'.heap ((D, od) :: (763, tabO ps') :: rest) → Post v → Q v s') :
    wpAny (model PySem.Challenge.rw_oy0416_01.row.prog w) A (call (.ref f) vs) Q E s := by
  obtain ⟨hA1, hA2, hA3, hA4, hA5⟩ := A
  dsimp only at hh
  subst hh
  have ht := (N _ (.tail _ (.head _))).1
  have h7 := (N _ (.tail _ (.head _))).2
  have b7 : ∀ b o, h₀.get? b = some o → b ≠ 763 := fun b o e q => by rw [q, h7.2] at e; cases e
  have st : ∀ b o, h₀.get? b = some o → (hideAll s.heap [763]).get? b = some o := fun b o e => hideAll_get _ (F.keep b o e) (by simpa using b7 b o e)
  refine C hA2 hA5 hA4 hA3 s Q E ⟨X.keeps st, T.keeps st, let ⟨bm, ob, M⟩ := M; ⟨bm, ob, M.keeps st⟩, ⟨ps, hg, ht⟩, hb⟩ hp hd hu fun v s' k P => ?_
  (have hZ6 := k.tab; (refine Mine.xa1_2 hZ6 ?_; clear hZ6; intro ps' hg' ht'))
  refine ret v s' ps' hg' k.bare k.os ⟨F.ns.at' fun o e => k.keep _ o (fun q => h7.1 q.symm) e, fun b o e => k.keep b o (b7 b o e) (F.keep b o e), F.above⟩ (fun p hp => ?_) P
  rcases List.mem_cons.mp hp with rfl | hp
  · have h1 := N _ (.head _)
    refine ⟨k.keep _ _ (fun q => ?_) h1.1, h1.2⟩
    have h2 := h1.1
    rw [q, ht] at h2
    cases h2
    exact hod rfl
  · rcases List.mem_cons.mp hp with rfl | hp
    · exact ⟨ht', h7⟩
    · have h1 := N _ (.tail _ (.tail _ hp))
      exact ⟨k.keep _ _ (hrest p hp) h1.1, h1.2⟩
theorem ld_any {M : Model} {env : Env} {x : Str} {pos : Pos} {v : Value} (F : Fr h₀ env.locals s.heap m) (hm : m x = some v) (h : Q v s) (hk : env.scope.kind = .function := by rfl) (hx : env.kindOf x = some .local := by rfl) (hd : (x == ("__debug__" : Str)) = false := by decide) :
    wpAny M A (eval (.Name x pos) env) Q E s := wpAny_Name (wpAny_loadName_local hk hx F.ns hm h) hd
theorem led_next {s₁ s' : Shared} {news ks tups : List (Addr × Obj)} {D1 : Addr} {o1 : Obj} {ps' : Array Value} (N : News h₀ L s₁.heap news) (hks : ∀ p ∈ ks, p ∈ news ∧ p.1 ≠ 763) (htn : ∀ p ∈ tups, p ∈ news ∧ p.1 ≠ 763) (h7 : (763, tabO ps) ∈ news)
    (hn4 : ∀ news', (∀ p ∈ news', (p ∈ news ∧ p.1 ≠ 763) ∨ p = (763, tabO ps') ∨ p = (D1, o1) ∨ (s₁.heap.get? p.1 = none ∧ s'.heap.get? p.1 = some p.2)) → News h₀ L s'.heap news') (hD4 : s₁.heap.objs.size ≤ D1) :
    News h₀ L s'.heap ((D1, o1) :: (ks ++ (763, tabO ps') :: tups)) ∧ (∀ p ∈ ks, @LT.lt Nat _ p.1 D1) ∧ @LT.lt Nat _ 763 D1 ∧ ∀ p ∈ tups, p.1 ≠ D1 := by
  have lt1 : ∀ p ∈ news, @LT.lt Nat _ p.1 D1 := fun p hp => Nat.lt_of_lt_of_le (Heap.lt_size (N p hp).1) hD4
  refine ⟨hn4 _ fun p hp => ?_, fun p hp => lt1 p (hks p hp).1, lt1 _ h7, fun p hp => Nat.ne_of_lt (lt1 p (htn p hp).1)⟩
  rcases List.mem_cons.mp hp with rfl | hp
  · exact .inr (.inr (.inl rfl))
  · rcases List.mem_append.mp hp with hp | hp
    · exact .inl (hks p hp)
    · rcases List.mem_cons.mp hp with rfl | hp
      · exact .inr (.inl rfl)
      · exact .inl (htn p hp)
theorem below_in {s₁ : Shared} {b₃ : Heap} {env : Env} (F : Fr h₀ L s₁.heap m) (hbk : ∀ b o, b ≠ 763 → s₁.heap.get? b = some o → b₃.get? b = some o) (h7 : h₀.get? 763 = none) (hL7 : @LT.lt Nat _ 763 L) (hA : A.frames = some [env]) (hf : env.frame = some L) (hke : env.scope.kind = .function) : Below A h₀ [env] b₃ := by
  refine ⟨hA, fun b o e => hbk b o (fun q => by rw [q, h7] at e; cases e) (F.keep b o e), Heap.FunFrames.cons (by rw [hke]; decide) hf (F.ns.at' fun o e => hbk L o (Nat.ne_of_gt hL7) e) ?_ trivial⟩
  exact Heap.get?_none_of_le F.above
noncomputable def BelowIn (dp un : Nat) (gd : Option (List Code)) (base : Heap) (L : Addr) (b₃ : Heap) : Prop := ∀ env : Env, env.frame = some L → env.scope.kind = .function → Below (({ handled := none, depth := dp, frames := some [], guards := gd, units := un } : Around).deeper env) base [env] b₃
theorem use_KSc {base b₃ : Heap} {outer : List Env} {news : List (Addr × Obj)} {Post : Heap → Value → Prop} (C : KS w mg mb f vs d u Pre Post) (hh : A.handled = none) (B : Below A base outer b₃) (F : Fr b₃ L s.heap m) (N : News b₃ L s.heap news) (X : (Mine.hd.heap_39 w.params).In b₃) (T : TopRead Mine.hd.view_39 LO mg mb b₃) (hp : Pre s.heap)
    (hd : A.depth + d < recursionLimit) (hu : A.units + u < cLine)
    (ret : ∀ v h' tk', Fr b₃ L h' m → News b₃ L h' news → (∀ b o, s.heap.get? b = some o → h'.get? b = some o) → Post h' v → Q v { s with heap := h', toks := tk' }) :
    wpAny (model PySem.Challenge.rw_oy0416_01.row.prog w) A (call (.ref f) vs) Q E s := by
  obtain ⟨hB1, hB2, hB3⟩ := B
  obtain ⟨hA1, hA2, hA3, hA4, hA5⟩ := A
  dsimp only at hh hB1
  subst hh hB1
  exact C hA2 hA5 hA4 outer base s Q E ⟨rfl, fun b o e => F.keep b o (hB2 b o e), hB3.of_keeps fun b o e _ => ⟨o, F.keep b o e, rfl⟩⟩ (X.keeps F.keep) (T.keeps F.keep) hp hd hu fun v h' tk' k P => ret v h' tk' (F.keeps k) (fun p hp => ⟨k _ _ (N p hp).1, (N p hp).2⟩) k P
theorem ld_free {M : Model} {b₃ : Heap} {C : Addr} {scope : Scope} {cl : List (Str × Addr)} {env : Env} {x : Str} {pos : Pos} {v : Value} {c : Addr} {o : Obj} (F : Fr b₃ C s.heap m) (hc : cl.lookup x = some c) (hm : b₃.get? c = some o) (hd : o.data = .cell (some v)) (h : Q v s)
    (hk : (compEnvC scope cl C env).scope.kind = .function := by rfl) (hx : (compEnvC scope cl C env).kindOf x = some .cell := by rfl) (hdb : (x == ("__debug__" : Str)) = false := by decide) :
    wpAny M A (eval (.Name x pos) (compEnvC scope cl C env)) Q E s := wpAny_Name (wpAny_loadName_cell hk hx hc ⟨o, F.keep _ _ hm, hd⟩ h) hdb
theorem lct_name {prog : Program} {env : Env} {elt iter : Expr} {x : Str} {px : Pos} {scope : Scope} {cl : List (Str × Addr)} {pos : Pos} (F : Heap → Nat → Value → List Addr → Prop) (hF : ∀ (h h' : Heap) i y fy, F h i y fy → (∀ a ∈ fy, ∀ o, h.get? a = some o → h'.get? a = some o) → F h' i y fy)
    (hx : scope.names.lookup x = some .local) (hh : A.handled = none) (hclos : closureFor scope env = pure cl) (hcell : ∀ y ∈ scope.names, y.2 ≠ .cell) (hkind : scope.kind = .function)
    (hnames : ∀ y ∈ scope.names, y.2 = .local → scope.names.lookup y.1 = some .local)
    (h : wpAny (model prog w) A (eval iter env) (Stop fun xv s₁ => ∃ (l : Addr) (items : Array Value) (m : Str → Option Value) (news : List (Addr × Obj)) (ps : Array Value), xv = .ref l ∧ s₁.heap.IsList l items ∧ items.size ≤ sizeLine ∧ Fr h₀ env.locals s₁.heap m ∧ News h₀ env.locals s₁.heap news ∧ (763, tabO ps) ∈ news ∧ GoodTab ps ∧ AllBare s₁.gens ∧
      (∀ (i : Nat) (v : Value), items[i]? = some v → True) ∧ EltsT prog w A env scope cl elt (fun _ v m => m x = some v) F s₁ items ∧
      (∀ D s' ys nn ps', s'.os = s₁.os → AllBare s'.gens → GoodTab ps' → Fr h₀ env.locals s'.heap m → (∀ news', (∀ p ∈ news', (p ∈ news ∧ p.1 ≠ 763) ∨ p = (763, tabO ps') ∨ p = (D, listOf ys nn) ∨ (s₁.heap.get? p.1 = none ∧ s'.heap.get? p.1 = some p.2)) → News h₀ env.locals s'.heap news') →
        s₁.heap.objs.size ≤ D → ys.size = items.size → (∀ (j : Nat) (v : Value), ys[j]? = some v → ∃ fy, F s'.heap j v fy ∧ ∀ a ∈ fy, a ≠ D ∧ s₁.heap.get? a = none) → Q (.ref D) s')) E s)
    (hs : ∀ x, foldedSetIterable iter env x = pure x := by intro _; rfl) :
    wpAny (model prog w) A (eval (.ListComp elt [⟨.Name x px, iter, [], 0⟩] scope pos) env) Q E s :=
  lct_core (h₀ := h₀) F hF (asg_name hx hkind) hh hclos hcell hkind hnames h hs
theorem mul_three {prog : Program} {news : List (Addr × Obj)} {l : Addr} {v : Value} {n : Nat} {u : Tok} (F : Fr h₀ L s.heap m) (N : News h₀ L s.heap news) (hm : (l, listOf #[v] n) ∈ news)
    (h : ∀ D h' nn, Fr h₀ L h' m → News h₀ L h' ((D, listOf #[v, v, v] nn) :: news) → (∀ p ∈ news, p.1 < D) → Q (.ref D) { s with heap := h' }) : wpAny (model prog w) A (binaryOp .Mult (.ref l) (.int 3 u)) Q E s :=
  mul_list F N (N _ hm).1 (by decide) (by decide) (show 1 * 3 ≤ 2 ^ 24 by decide) fun h' F' N' => h _ h' _ F' N' fun p hp => Heap.lt_size (N p hp).1
theorem ne_same {prog : Program} {a b : Value} {d : PyData} {as bs : List Addr} (ra : Reads s.heap a d as) (rb : Reads s.heap b d bs) (hs : SeqAt.shaped d = true) (hu : A.units + 64 < cLine) (h : Q (.bool false) s) : wpAny (model prog w) A (compareOp .NotEq a b) Q E s :=
  ne_dataH ra rb hs hs hu (by rw [eqv_self d (SeqAt.canLay_of_shaped hs)]; exact h)
theorem eq_same {prog : Program} {a b : Value} {d : PyData} {as bs : List Addr} (ra : Reads s.heap a d as) (rb : Reads s.heap b d bs) (hs : SeqAt.shaped d = true) (hu : A.units + 64 < cLine) (h : Q (.bool true) s) : wpAny (model prog w) A (compareOp .Eq a b) Q E s :=
  eq_dataH ra rb hs hs hu (by rw [eqv_self d (SeqAt.canLay_of_shaped hs)]; exact h)
theorem ne_ints3 {prog : Program} {news : List (Addr × Obj)} {D8 D9 : Addr} {ys : Array Value} {c n : Nat} {a b d e : Int} {t1 t2 t3 : Tok} (N : News h₀ L s.heap news) (h1 : (D8, listOf ys c) ∈ news) (hi : IntsAre ys.toList [a, b, d]) (h2 : (D9, listOf #[.int e t1, .int e t2, .int e t3] n) ∈ news) (e1 : a = e) (e2 : b = e) (e3 : d = e)
    (hu : A.units + 64 < cLine) (h : Q (.bool false) s) : wpAny (model prog w) A (compareOp .NotEq (.ref D8) (.ref D9)) Q E s := by
  subst e1 e2 e3
  refine ne_same (d := .list ([d, d, d].map PyData.int)) (reads_list_at (News.get N h1) rfl rfl (reads_of_ints hi)) (reads_list_at (News.get N h2) rfl rfl (.cons (.int _ _) (.cons (.int _ _) (.cons (.int _ _) .nil)))) (shaped_flats (ints_flat _)) hu h
theorem gcT_none {b₃ : Heap} {s₃ s₄ : Shared} {C D0 : Addr} {m₃ : Str → Option Value} {ps3 : Array Value} {rest news' : List (Addr × Obj)} {ys : Array Value} {c : Nat} {P : Shared → Prop} {dd : List PyData} (hdd : dd = [])
    (done : ∀ s₄ zs c' m', (∀ h', ReadsAll h' zs dd []) → s₄.heap.get? D0 = some (listOf (ys ++ zs.toArray) c') → (∀ b o, b ≠ C → b ≠ 763 → b ≠ D0 → s₃.heap.get? b = some o → s₄.heap.get? b = some o) → s₄.heap.Ns C m' → TabJ s₄ → s₄.os = s₃.os → P s₄)
    (hall : ∀ b o, s₃.heap.get? b = some o → b = C ∨ b = D0 ∨ b = 763 ∨ b₃.get? b = some o ∨ (b, o) ∈ rest) (F' : Fr b₃ C s₄.heap m₃) (N' : News b₃ C s₄.heap news') (hD : (D0, listOf ys c) ∈ news') (ht : (763, tabO ps3) ∈ news') (sub : ∀ p ∈ rest, p ∈ news') (hg : GoodTab ps3) (hb : AllBare s₄.gens) (hos : s₄.os = s₃.os) : P s₄ := by
  subst hdd
  refine done s₄ [] c m₃ (fun _ => .nil) (by simpa using (N' _ hD).1) (fun b o h1 h2 h3 e => ?_) F'.ns ⟨⟨ps3, hg, (N' _ ht).1⟩, hb⟩ hos
  rcases hall b o e with h | h | h | h | h
  · exact absurd h h1
  · exact absurd h h3
  · exact absurd h h2
  · exact F'.keep b o h
  · exact (N' _ (sub _ h)).1
theorem qd_empty : qdS (Str.ofString "") = Str.ofString "" := by decide +kernel
theorem qd_dot : qdS (Str.ofString ".") = Str.ofString ".." := by decide +kernel
theorem ne_str_same {prog : Program} {a b : Str} {t u : Tok} (e : a = b) (h : Q (.bool false) s) : wpAny (model prog w) A (compareOp .NotEq (.str a t) (.str b u)) Q E s := by
  subst e
  exact PyProof.Rows.ne_str (by rw [show (a != a) = false from bne_self_eq_false a]; exact h)
theorem gcT_two {b₃ : Heap} {s₃ s₅ : Shared} {C D0 T : Addr} {m₃ : Str → Option Value} {ps3 : Array Value} {rest news' : List (Addr × Obj)} {ys : Array Value} {c n : Nat} {P : Shared → Prop} {dd : List PyData} {v1 v2 : Value} (hz : ∀ h', ReadsAll h' [v1, v2] dd []) (hsz : ys.size ≤ 1000)
    (done : ∀ s₄ zs c' m', (∀ h', ReadsAll h' zs dd []) → s₄.heap.get? D0 = some (listOf (ys ++ zs.toArray) c') → (∀ b o, b ≠ C → b ≠ 763 → b ≠ D0 → s₃.heap.get? b = some o → s₄.heap.get? b = some o) → s₄.heap.Ns C m' → TabJ s₄ → s₄.os = s₃.os → P s₄)
    (hall : ∀ b o, s₃.heap.get? b = some o → b = C ∨ b = D0 ∨ b = 763 ∨ b₃.get? b = some o ∨ (b, o) ∈ rest) (h7 : @LT.lt Nat _ 763 D0) (F' : Fr b₃ C s₅.heap m₃) (N' : News b₃ C s₅.heap news') (hT : (T, ({ cls := .type "tuple", data := .seq #[v1, v2] n } : Obj)) ∈ news') (hD : (D0, listOf ys c) ∈ news') (ht : (763, tabO ps3) ∈ news') (sub : ∀ p ∈ rest, p ∈ news') (hg : GoodTab ps3) (hb : AllBare s₅.gens) (hos : s₅.os = s₃.os) :
    ∃ D ys c T' v1 v2 m, Value.ref D0 = .ref D ∧ Value.ref T = .ref T' ∧ s₅.heap.IsTuple T' #[v1, v2] ∧ s₅.heap.get? D = some (listOf ys c) ∧ s₅.heap.Ns C m ∧ D ≠ C ∧ T' ≠ D ∧ T' ≠ C ∧ ys.size ≤ 1000 ∧
    (∀ h' tk c' m', (∀ b o, b ≠ D → b ≠ C → s₅.heap.get? b = some o → h'.get? b = some o) → h'.get? D = some (listOf (ys ++ #[v1, v2]) c') → h'.Ns C m' → P { s₅ with heap := h', toks := tk }) := by
  refine Mine.in7 D0 ys c T v1 v2 m₃ ⟨rfl, rfl, ⟨_, (N' _ hT).1, rfl, _, rfl⟩, (N' _ hD).1, F'.ns, (N' _ hD).2.1, fun q => ?_, (N' _ hT).2.1, hsz, fun h' tk c' m' k hD' hn' => ?_⟩
  · have h1 := (N' _ hT).1
    have h2 := (N' _ hD).1
    dsimp only at h1 h2
    rw [q, h2] at h1
    injection h1 with h1
    injection h1 with h1
    injection h1 with h1
    exact absurd h1 (by decide)
  · refine done _ [v1, v2] c' m' hz hD' (fun b o h1 h2 h3 e => ?_) hn' ⟨⟨ps3, hg, k _ _ (Nat.ne_of_lt h7) (N' _ ht).2.1 (N' _ ht).1⟩, hb⟩ hos
    rcases hall b o e with h | h | h | h | h
    · exact absurd h h1
    · exact absurd h h3
    · exact absurd h h2
    · exact k b o h3 h1 (F'.keep b o h)
    · exact k b o h3 h1 (N' _ (sub _ h)).1
theorem flat2_len (d : Nat → List PyData) (h : ∀ i, (d i).length = 2) : ∀ n, ((List.range n).flatMap d).length = 2 * n := by
  intro n
  induction n with
  | zero => rfl
  | succ n ih => rw [List.range_succ, List.flatMap_append, List.length_append, ih, List.flatMap_singleton, h]; (first | lia | omega)
theorem oct_640 (v : Int) : (octS v).length ≤ 640 := by rw [octS_len]; decide
theorem oct_reads {h : Heap} {v : Int} {t : Tok} (h0 : 0 ≤ v) (h1 : v < 65536) : Reads h (.int ((octVal (octS v).cps.toList : Nat) : Int) t) (.int v) [] := by
  rw [oct_back h0 h1]; exact .int v t
theorem modes_of (fs : List (Str × Int)) : ((List.range fs.length).map fun i => PyData.int (fs.getD i (Str.empty, 0)).2) = (fs.map (·.2)).map PyData.int := by
  apply List.ext_getElem
  · simp
  · intro i h1 h2
    have : i < fs.length := by simpa using h1
    simp [List.getD_eq_getElem?_getD, this]
theorem ints_item {ys : Array Value} {fs : List (Str × Int)} {i : Nat} {v : Value} (h : IntsAre ys.toList (fs.map (·.2))) (hv : ys[i]? = some v) : ∃ p t, fs[i]? = some p ∧ v = .int p.2 t := by
  have hi : i < fs.length := by
    have h1 := h.length
    rw [List.length_map, Array.length_toList] at h1
    rw [← h1]
    exact (Array.getElem?_eq_some_iff.mp hv).1
  obtain ⟨t, ht⟩ := h.get i fs[i].2 (by rw [List.getElem?_map, List.getElem?_eq_getElem hi]; rfl)
  rw [Array.getElem?_toList, hv] at ht
  exact ⟨fs[i], t, List.getElem?_eq_getElem hi, Option.some.inj ht⟩
noncomputable def saidD (b : Int) : List PyData := [.str (permS b), .bool (Builtin.bitAnd b 61440 == 16384), .bool (Builtin.bitAnd b 61440 == 40960), .int (Builtin.bitAnd b 4095)]
noncomputable def rowD (b : Int) : List PyData := [.str (rowP b 3), .bool (b.fdiv 4096 == 4), .bool (b.fdiv 4096 == 10), .int (b.fmod 4096)]
theorem allLt_mem {d : Nat} (l : List (Addr × Obj)) : AllLt d l → ∀ p ∈ l, @LT.lt Nat _ p.1 d := by
  induction l with
  | nil => intro _ p hp; exact absurd hp List.not_mem_nil
  | cons p r ih =>
    intro h q hq
    rcases List.mem_cons.mp hq with e | hq
    · rw [e]; exact h.1
    · exact ih h.2 q hq
theorem fresh_T {b₃ h4 : Heap} {s₃ : Shared} {C T : Addr} {ot : Obj} {news' rest : List (Addr × Obj)} (hall : ∀ b o, s₃.heap.get? b = some o → b = C ∨ b = 763 ∨ b₃.get? b = some o ∨ (b, o) ∈ rest) (N' : News b₃ C h4 ((T, ot) :: news')) (hl : 763 < T ∧ AllLt T rest) : s₃.heap.get? T = none := by
  cases q : s₃.heap.get? T with
  | none => rfl
  | some o =>
    rcases hall T o q with h | h | h | h
    · exact absurd h (N' _ (.head _)).2.1
    · rw [h] at hl; exact absurd hl.1 (Nat.lt_irrefl _)
    · have := (N' _ (.head _)).2.2
      rw [show b₃.get? T = some o from h] at this; cases this
    · exact absurd (allLt_mem _ hl.2 _ h) (Nat.lt_irrefl _)
theorem eltT_tup {F : Heap → Nat → Value → List Addr → Prop} {i : Nat} {C T : Addr} {b₃ : Heap} {s₃ s₄ : Shared} {m₃ : Str → Option Value} {ps' : Array Value} {rest : List (Addr × Obj)} {vs : Array Value} {n : Nat} (hF : s₄.heap.get? T = some { cls := .type "tuple", data := .seq vs n } → F s₄.heap i (.ref T) [T])
    (hall : ∀ b o, s₃.heap.get? b = some o → b = C ∨ b = 763 ∨ b₃.get? b = some o ∨ (b, o) ∈ rest) (F' : Fr b₃ C s₄.heap m₃) (N' : News b₃ C s₄.heap ((T, { cls := .type "tuple", data := .seq vs n }) :: (763, tabO ps') :: rest)) (hl : 763 < T ∧ AllLt T rest) (hg : GoodTab ps') (hb : AllBare s₄.gens) (hos : s₄.os = s₃.os) : EltDoneT F i C s₃ m₃ (.ref T) s₄ :=
  eltT_done hall F' N' (fun p hp => .tail _ (.tail _ hp)) (.tail _ (.head _)) hg hb hos (hF (N' _ (.head _)).1) (fun a ha => by rw [List.mem_singleton.mp ha]; exact ⟨fresh_T hall N' hl, _, (N' _ (.head _)).1⟩)
theorem said_reads {h : Heap} {b : Int} {t u : Tok} : ReadsAll h [.str (permS b) t, .bool (Builtin.bitAnd b 61440 == 16384), .bool (Builtin.bitAnd b 61440 == 40960), .int (Builtin.bitAnd b 4095) u] (saidD b) [] := .cons (.str _ _) (.cons (.bool _) (.cons (.bool _) (.cons (.int _ _) .nil)))
theorem row_reads {h : Heap} {b : Int} {t u : Tok} : ReadsAll h [.str (rowP b 3) t, .bool (b.fdiv 4096 == 4), .bool (b.fdiv 4096 == 10), .int (b.fmod 4096) u] (rowD b) [] := .cons (.str _ _) (.cons (.bool _) (.cons (.bool _) (.cons (.int _ _) .nil)))
theorem said_fin {fs : List (Str × Int)} {i : Nat} {p : Str × Int} {h : Heap} {T : Addr} {n : Nat} {t u : Tok} (hp : fs.getD i (Str.empty, 0) = p) (hT : h.get? T = some { cls := .type "tuple", data := .seq #[.str (permS p.2) t, .bool (Builtin.bitAnd p.2 61440 == 16384), .bool (Builtin.bitAnd p.2 61440 == 40960), .int (Builtin.bitAnd p.2 4095) u] n }) :
    FTup (fun i => saidD (fs.getD i (Str.empty, 0)).2) h i (.ref T) [T] := ⟨T, _, n, rfl, rfl, hT, fun h' => by dsimp only; rw [hp]; exact said_reads⟩
theorem row_fin {x : Str} {b : Int} {h : Heap} {T : Addr} {n : Nat} {t u : Tok} (hT : h.get? T = some { cls := .type "tuple", data := .seq #[.str (rowP b 3) t, .bool (b.fdiv 4096 == 4), .bool (b.fdiv 4096 == 10), .int (b.fmod 4096) u] n }) :
    GTup (fun _ b => rowD b) x b h (.ref T) [T] := ⟨T, _, n, rfl, rfl, hT, fun h' => row_reads⟩
theorem tups_range {fs : List (Str × Int)} (h : ∀ p ∈ fs, saidD p.2 = rowD p.2) : ((List.range' 0 fs.length).map fun j => PyData.tuple (saidD (fs.getD j (Str.empty, 0)).2)) = fs.map fun p => .tuple (rowD p.2) := by
  apply List.ext_getElem
  · simp
  · intro i h1 h2
    have hi : i < fs.length := by simpa using h1
    simp [List.getD_eq_getElem?_getD, hi, h fs[i] (List.getElem_mem hi)]
theorem join_text {fs : List (Str × Int)} {prog : Program} {t : Tok} {vs : List Value} (h : ∀ p ∈ fs, FileOk p) (hl : fs.length ≤ 11) (hL : s.heap.IsList D vs.toArray) (hs : StrsAre vs (fs.map fun p => rowS p.1 p.2)) (q : ∀ t' k, Q (.str (textS fs) t') { s with toks := k }) :
    wpAny (model prog w) A (call (.builtin "str.join") [.str (Str.ofString "") t, .ref D]) Q E s := join_at hL hs (text_fits h hl) q
end
noncomputable def ends3 : List Str := [Str.ofString "\u000d\n", Str.ofString "\n", Str.ofString "\u000d"]
theorem ends_ints {z : Str} {ys : Array Value} {h : Heap} {P : Nat → Value → List Addr → Prop} (hz : ys.size = 3) (hG : ∀ (j : Nat) (v : Value), ys[j]? = some v → ∃ fy, FAt (fun i => .int (Txt.count z (ends3.getD i Str.empty))) h j v fy ∧ P j v fy) :
    IntsAre ys.toList [Txt.count z (Str.ofString "\u000d\n"), Txt.count z (Str.ofString "\n"), Txt.count z (Str.ofString "\u000d")] := by
  have rd := readsAt (h' := h) hG
  rw [hz] at rd
  exact ints_of_reads (h := h) rd
theorem ends_item {t1 t2 t3 : Tok} {i : Nat} {v : Value} (h : #[Value.str (Str.ofString "\u000d\n") t1, Value.str (Str.ofString "\n") t2, Value.str (Str.ofString "\u000d") t3][i]? = some v) : ∃ y t, v = .str y t ∧ y = ends3.getD i Str.empty := by
  match i, h with
  | 0, h => cases h; exact Mine.in2 _ _ ⟨rfl, rfl⟩
  | 1, h => cases h; exact Mine.in2 _ _ ⟨rfl, rfl⟩
  | 2, h => cases h; exact Mine.in2 _ _ ⟨rfl, rfl⟩
  | n + 3, h => simp at h
theorem split_item {x sep : Str} {l : List (Str × Tok)} {i : Nat} {v : Value} (hE : l.map (·.1) = Txt.split x sep) (hv : (strValues l).toArray[i]? = some v) : ∃ s t, v = .str s t ∧ s ∈ Txt.split x sep := by
  have hv' : (strValues l)[i]? = some v := by simpa using hv
  unfold strValues at hv'
  rw [List.getElem?_map] at hv'
  cases hl : l[i]? with
  | none => rw [hl] at hv'; cases hv'
  | some p =>
    rw [hl] at hv'
    cases hv'
    refine Mine.in2 (p.1) (p.2) ⟨rfl, ?_⟩
    rw [← hE]
    exact List.mem_map_of_mem (List.mem_of_getElem? hl)
noncomputable def Held (p : Prop) : Prop := p
theorem Held.mk {p : Prop} (h : Held p) : p := h
theorem news_files {fs : List (Str × Int)} {h₀ h' h1 : Heap} {L D : Addr} {m : Str → Option Value} {fits : Array Value} {fn : Nat} {tups : List (Addr × Obj)} {oc : Obj} {ps : Array Value} (F : Fr h₀ L h' m) (N : News h₀ L h' [(L + 1, oc), (763, tabO ps)]) (N1 : News h₀ L h1 [(L + 1, oc), (763, tabO ps)])
    (hfa : FilesAre fits.toList tups fs) (hat : ∀ p ∈ (D, listOf fits fn) :: tups, h1.get? p.1 = some p.2 ∧ h'.get? p.1 = none) : News h₀ L h1 ((D, listOf fits fn) :: (L + 1, oc) :: (763, tabO ps) :: tups) ∧ @Ne Nat D (L + 1) ∧ @Ne Nat D 763 ∧ (∀ p ∈ tups, p.1 ≠ 763 ∧ p.1 ≠ L + 1 ∧ p.1 ≠ D) := by
  have one : ∀ p ∈ (D, listOf fits fn) :: tups, h1.get? p.1 = some p.2 ∧ p.1 ≠ L ∧ h₀.get? p.1 = none ∧ p.1 ≠ L + 1 ∧ p.1 ≠ 763 := fun p hp => by
    obtain ⟨a, b⟩ := hat p hp
    refine ⟨a, fun q => ?_, ?_, fun q => ?_, fun q => ?_⟩
    · (have hZ7 := F.ns; (refine Mine.xa3_2 hZ7 ?_; clear hZ7; intro o _ _ e _))
      rw [q, e] at b; cases b
    · cases q : h₀.get? p.1 with
      | none => rfl
      | some o => rw [F.keep _ _ q] at b; cases b
    · rw [q, (N _ (.head _)).1] at b; cases b
    · rw [q, (N _ (.tail _ (.head _))).1] at b; cases b
  refine ⟨fun p hp => ?_, (one _ (.head _)).2.2.2.1, (one _ (.head _)).2.2.2.2, fun p hp => ⟨(one p (.tail _ hp)).2.2.2.2, (one p (.tail _ hp)).2.2.2.1, fun q => ?_⟩⟩
  · rcases List.mem_cons.mp hp with rfl | hp
    · exact ⟨(one _ (.head _)).1, (one _ (.head _)).2.1, (one _ (.head _)).2.2.1⟩
    · rcases List.mem_cons.mp hp with rfl | hp
      · exact N1 _ (.head _)
      · rcases List.mem_cons.mp hp with rfl | hp
        · exact N1 _ (.tail _ (.head _))
        · exact ⟨(one p (.tail _ hp)).1, (one p (.tail _ hp)).2.1, (one p (.tail _ hp)).2.2.1⟩
  · have h1 := (one p (.tail _ hp)).1
    rw [q, (one _ (.head _)).1] at h1
    have h2 := hfa.cls p hp
    rw [← Option.some.inj h1] at h2
    injection h2 with h3
    exact absurd h3 (by decide)
theorem Mine.words36 : True := by
  k_with "eval Name" => (k_here; (with_reducible show wpAny _ _ (eval (PySem.Expr.Name _ _) (compEnvC _ _ _ _)) _ _ _); k_dflt (first | (refine ld_comp (by k_asm) (by with_reducible assumption) ?_) | refine ld_globalR (by k_asm) (by k_asm) (by k_asm) (by k_is) ?_ | refine ld_builtR (by k_asm) (by k_asm) (by k_asm) (by k_is) (by boot_by_name) (by decide) ?_))
  k_with "call ref" => (k_here; (with_reducible show wpAny _ _ (call (Value.ref 856) [Value.int _ _]) _ _ _); k_dflt (refine' use_KS0 (s_octal _ _ ?p1 ?p2) ?k1 ?k2 ?k3 ?k4 ?k5 ?k6 ?k7 ?k8 ?_; (case p1 => assumption); (case p2 => assumption); (case k1 => exact rfl); (case k2 => k_asm); (case k3 => k_asm); (case k4 => k_asm); (case k5 => k_asm); (case k6 => trivial); (case k7 => (simp only [depth_deeper, depth_in1] at *; (first | lia | omega))); (case k8 => (simp only [units_deeper, units_in1] at *; (first | lia | omega)))); intro v9 h9 tk9 F9 N9 k9 P9; obtain ⟨t9, hP9⟩ := P9; subst hP9; (try dsimp only); (try k_fold))
  k_with "call ref" => (k_here; (with_reducible show wpAny _ _ (call (Value.ref 61) [Value.str _ _]) _ _ _); k_dflt (refine' use_KS0 (s_quotedata _ _ ?p1) ?k1 ?k2 ?k3 ?k4 ?k5 ?k6 ?k7 ?k8 ?_; (case p1 => first | with_reducible assumption | (first | lia | omega)); (case k1 => exact rfl); (case k2 => k_asm); (case k3 => k_asm); (case k4 => k_asm); (case k5 => k_asm); (case k6 => trivial); (case k7 => (simp only [depth_deeper, depth_in1] at *; (first | lia | omega))); (case k8 => (simp only [units_deeper, units_in1] at *; (first | lia | omega)))); intro v9 h9 tk9 F9 N9 k9 P9; obtain ⟨t9, hP9⟩ := P9; subst hP9; (try dsimp only); (try k_fold))
  k_with "eval Name" => (k_here; (with_reducible show wpAny _ _ (eval (PySem.Expr.Name (Str.ofString "wire") _) (compEnvC _ _ _ _)) _ _ _); k_dflt (refine ld_free (by k_asm) (by rfl) (by with_reducible assumption) (by with_reducible assumption) ?_))
  k_with "call ref" => (k_here; (with_reducible show wpAny _ _ (call (Value.ref 768) [Value.ref _]) _ _ _); k_dflt (refine' use_KT (s_join _ _ _ _ _ _ ?px ?py) ?k1 ?k2 ?k3 ?k4 ?k5 ?k6 ?k7 ?k8 ?k9 ?k10 ?k11 ?k12 ?k13 ?_; (case k5 => k_asm); (case k6 => k_asm); (case k1 => first | assumption | exact rfl); (case k2 => k_asm); (case k3 => k_asm); (case k4 => assumption); (case k7 => assumption); (case k8 => assumption); (case k9 => assumption); (case k10 => exact fun q => by cases q); (case k11 => exact News.get (by k_asm) (.head _)); (case px => first | with_reducible assumption | (first | lia | omega)); (case py => first | with_reducible assumption | (first | lia | omega)); (case k12 => (simp only [depth_deeper, depth_in1] at *; (first | lia | omega))); (case k13 => (simp only [units_deeper, units_in1] at *; (first | lia | omega)))); intro v9 s9 ps9 hg9 hb9 ho9 F9 N9 P9; obtain ⟨t9, hP9⟩ := P9; subst hP9; (try dsimp only))
  k_with "binaryOp Add str str" => (k_here; (with_reducible show wpAny _ _ (binaryOp Operator.Add (Value.str _ _) (Value.str _ _)) _ _ _); (refine KOpn.add (by with_reducible assumption) ?_); intro _ _ kpxZ; clear kpxZ; (try dsimp only))
  k_with "call builtin:str.join" => (k_here; (with_reducible show wpAny _ _ (call (Value.builtin "str.join") [Value.str _ _, Value.ref _]) _ _ _); k_dflt (refine join_text (by assumption) (by assumption) (News.isList (by k_asm) (by k_mem)) (by assumption) ?_); intro t9 k9; (try dsimp only))
  k_with "call ref" => (k_here; (with_reducible show wpAny _ _ (call (Value.ref 875) [Value.str _ _]) _ _ _); (rename BelowIn _ _ _ _ _ _ => hBX); k_dflt (refine' use_KSc (s_plain _ _ ?p1) ?k1 ?kb ?k2 ?k3 ?k4 ?k5 ?k6 ?k7 ?k8 ?_; (case p1 => with_reducible assumption); (case k1 => exact rfl); (case kb => exact hBX _ rfl rfl); (case k2 => k_asm); (case k3 => k_asm); (case k4 => k_asm); (case k5 => k_asm); (case k6 => trivial); (case k7 => (simp only [depth_deeper, depth_in1] at *; (first | lia | omega))); (case k8 => (simp only [units_deeper, units_in1] at *; (first | lia | omega)))); intro v9 h9 tk9 F9 N9 k9 P9; obtain ⟨t9, hP9⟩ := P9; subst hP9; (try dsimp only); (try k_fold))
  k_with "compareOp NotEq ref ref" => (k_here; refine Held.mk ?_)
  k_with "compareOp Eq ref ref" => (k_here; refine Held.mk ?_)
  k_with "binaryOp Mult ref int" => (k_here; (with_reducible show wpAny _ _ (binaryOp Operator.Mult (Value.ref _) (Value.int _ _)) _ _ _); (refine mul_three (by k_asm) (by k_asm) (by k_mem) ?_); intro D9 h9 nn9 F9 N9 l9; (try k_lt l9); (try dsimp only))
  k_with "compareOp NotEq str str" => (k_here; (with_reducible show wpAny _ _ (compareOp CmpOp.NotEq (Value.str (qdS _) _) (Value.str _ _)) _ _ _); refine Held.mk ?_)
  k_with "call ref" => (k_here; (with_reducible show wpAny _ _ (call (Value.ref 861) [Value.str _ _]) _ _ _); k_dflt (refine' use_KS (s_come _ _ ?p1) ?k1 ?kb ?k2 ?k3 ?k4 ?k5 ?ka ?kf ?kk ?k6 ?k7 ?k8 ?_; (case p1 => with_reducible assumption); (case ka => exact rfl); (case kf => exact rfl); (case kk => exact rfl); (case k1 => exact rfl); (case kb => k_asm); (case k2 => k_asm); (case k3 => k_asm); (case k4 => k_asm); (case k5 => k_asm); (case k6 => trivial); (case k7 => (simp only [depth_deeper, depth_in1] at *; (first | lia | omega))); (case k8 => (simp only [units_deeper, units_in1] at *; (first | lia | omega)))); intro v9 h9 tk9 F9 N9 k9 P9; obtain ⟨t9, hP9⟩ := P9; subst hP9; (try dsimp only); (try k_fold))
  k_with "call ref" => (k_here; (with_reducible show wpAny _ _ (call (Value.ref 761) [Value.str _ _]) _ _ _); refine Held.mk ?_)
  k_with "subscriptTail Name Slice ref ref" => (k_here; (with_reducible show wpAny _ _ (subscriptTail _ (PySem.Expr.Slice _ _ (some _) _) (Value.ref _) (Value.ref _)) _ _ _); refine Held.mk ?_)
  k_with "exec Assign cons ListComp" => (k_here; refine Held.mk ?_)
  k_with "call type:int" => (k_here; (with_reducible show wpAny _ _ (call (Value.type "int") [Value.str (octS _) _, Value.int _ _]) _ _ _); (refine call_oct (oct_ok _).1 (oct_ok _).2 (oct_640 _) ?_); (try dsimp only))
  k_with "call ref" => (k_here; (with_reducible show wpAny _ _ (call (Value.ref 844) [Value.int _ _]) _ _ _); (rename BelowIn _ _ _ _ _ _ => hBX); k_dflt (refine' use_KSc (s_filemode _ _ ?p1 ?p2) ?k1 ?kb ?k2 ?k3 ?k4 ?k5 ?k6 ?k7 ?k8 ?_; (case p1 => with_reducible assumption); (case p2 => with_reducible assumption); (case k1 => exact rfl); (case kb => exact hBX _ rfl rfl); (case k2 => k_asm); (case k3 => k_asm); (case k4 => k_asm); (case k5 => k_asm); (case k6 => trivial); (case k7 => (simp only [depth_deeper, depth_in1] at *; (first | lia | omega))); (case k8 => (simp only [units_deeper, units_in1] at *; (first | lia | omega)))); intro v9 h9 tk9 F9 N9 k9 P9; obtain ⟨t9, hP9⟩ := P9; subst hP9; (try dsimp only); (try k_fold))
  k_with "call ref" => (k_here; (with_reducible show wpAny _ _ (call (Value.ref 868) [Value.int _ _]) _ _ _); (rename BelowIn _ _ _ _ _ _ => hBX); k_dflt (refine' use_KSc (s_row _ _ ?p1 ?p2 ?p3) ?k1 ?kb ?k2 ?k3 ?k4 ?k5 ?k6 ?k7 ?k8 ?_; (case p1 => with_reducible assumption); (case p2 => with_reducible assumption); (case p3 => with_reducible assumption); (case k1 => exact rfl); (case kb => exact hBX _ rfl rfl); (case k2 => k_asm); (case k3 => k_asm); (case k4 => k_asm); (case k5 => k_asm); (case k6 => trivial); (case k7 => (simp only [depth_deeper, depth_in1] at *; (first | lia | omega))); (case k8 => (simp only [units_deeper, units_in1] at *; (first | lia | omega)))); intro v9 h9 tk9 F9 N9 k9 P9; obtain ⟨t9, hP9⟩ := P9; subst hP9; (try dsimp only); (try k_fold))
  k_with "call ref" => (k_here; (with_reducible show wpAny _ _ (call (Value.ref 797) [Value.int _ _]) _ _ _); k_dflt (refine' use_KS0 (s_ISDIR _ _ ?p1 ?p2) ?k1 ?k2 ?k3 ?k4 ?k5 ?k6 ?k7 ?k8 ?_; (case p1 => with_reducible assumption); (case p2 => with_reducible assumption); (case k1 => exact rfl); (case k2 => k_asm); (case k3 => k_asm); (case k4 => k_asm); (case k5 => k_asm); (case k6 => trivial); (case k7 => (simp only [depth_deeper, depth_in1] at *; (first | lia | omega))); (case k8 => (simp only [units_deeper, units_in1] at *; (first | lia | omega)))); intro v9 h9 tk9 F9 N9 k9 P9; subst P9; (try dsimp only); (try k_fold))
  k_with "call ref" => (k_here; (with_reducible show wpAny _ _ (call (Value.ref 804) [Value.int _ _]) _ _ _); k_dflt (refine' use_KS0 (s_ISLNK _ _ ?p1 ?p2) ?k1 ?k2 ?k3 ?k4 ?k5 ?k6 ?k7 ?k8 ?_; (case p1 => with_reducible assumption); (case p2 => with_reducible assumption); (case k1 => exact rfl); (case k2 => k_asm); (case k3 => k_asm); (case k4 => k_asm); (case k5 => k_asm); (case k6 => trivial); (case k7 => (simp only [depth_deeper, depth_in1] at *; (first | lia | omega))); (case k8 => (simp only [units_deeper, units_in1] at *; (first | lia | omega)))); intro v9 h9 tk9 F9 N9 k9 P9; subst P9; (try dsimp only); (try k_fold))
  k_with "call ref" => (k_here; (with_reducible show wpAny _ _ (call (Value.ref 783) [Value.int _ _]) _ _ _); k_dflt (refine' use_KS0 (s_IMODE _ _ ?p1 ?p2) ?k1 ?k2 ?k3 ?k4 ?k5 ?k6 ?k7 ?k8 ?_; (case p1 => with_reducible assumption); (case p2 => with_reducible assumption); (case k1 => exact rfl); (case k2 => k_asm); (case k3 => k_asm); (case k4 => k_asm); (case k5 => k_asm); (case k6 => trivial); (case k7 => (simp only [depth_deeper, depth_in1] at *; (first | lia | omega))); (case k8 => (simp only [units_deeper, units_in1] at *; (first | lia | omega)))); intro v9 h9 tk9 F9 N9 k9 P9; obtain ⟨t9, hP9⟩ := P9; subst hP9; (try dsimp only); (try k_fold))
  k_with "eval ListComp" => (k_here; refine Held.mk ?_)
  trivial
noncomputable def wordsL (fs : List (Str × Int)) : List Str := fs.flatMap fun p => [plainP p.1 p.1.length, octS p.2]
theorem words_of (fs : List (Str × Int)) : ((List.range fs.length).flatMap fun i => [PyData.str (plainP (fs.getD i (Str.empty, 0)).1 (fs.getD i (Str.empty, 0)).1.length), .str (octS (fs.getD i (Str.empty, 0)).2)]) = (wordsL fs).map PyData.str := by
  have e : (List.range fs.length).map (fun i => fs.getD i (Str.empty, 0)) = fs := by
    apply List.ext_getElem
    · simp
    · intro i h1 h2
      simp [List.getD_eq_getElem?_getD, h2]
  unfold wordsL
  conv => rhs; rw [← e]
  rw [List.flatMap_map, List.map_flatMap]
  rfl
theorem words_len2 (fs : List (Str × Int)) : (wordsL fs).length = 2 * fs.length := by
  unfold wordsL
  induction fs with
  | nil => rfl
  | cons p r ih =>
    rw [List.flatMap_cons, List.length_append, ih]
    simp only [List.length_cons, List.length_nil]
    (first | lia | omega)
theorem words_len {fs : List (Str × Int)} (h : fs.length ≤ 11) : (wordsL fs).length ≤ 100000 := by
  rw [words_len2]; (first | lia | omega)
theorem pick_le (vs : Array Value) (n : Nat) : ((List.range n).filterMap fun i => vs[2 * i + 1]?).toArray.size ≤ n := by
  rw [List.size_toArray]
  refine Nat.le_trans (List.length_filterMap_le _ _) ?_
  simp
theorem filterMap_some {α : Type} (f : Nat → Option α) (g : Nat → α) (n : Nat) (h : ∀ i, i < n → f i = some (g i)) : (List.range n).filterMap f = (List.range n).map g := by
  induction n with
  | zero => rfl
  | succ n ih => rw [List.range_succ, List.filterMap_append, List.map_append, ih fun i hi => h i (Nat.lt_succ_of_lt hi)]; simp [h n (Nat.lt_succ_self _)]
theorem figs_are {wacc : Array Value} {fs : List (Str × Int)} (h : StrsAre wacc.toList (wordsL fs)) : ((List.range fs.length).filterMap fun i => wacc[2 * i + 1]?).length = fs.length ∧ ∀ (i : Nat) (v : Value), ((List.range fs.length).filterMap fun i => wacc[2 * i + 1]?)[i]? = some v → ∃ p t, fs[i]? = some p ∧ v = .str (octS p.2) t := by
  have key : ∀ i, i < fs.length → ∃ t, wacc[2 * i + 1]? = some (.str (octS (fs.getD i (Str.empty, 0)).2) t) := fun i hi => by
    have h' : StrsAre wacc.toList ((fs.map fun p => (plainP p.1 p.1.length, octS p.2)).flatMap fun p => [p.1, p.2]) := by rw [List.flatMap_map]; exact h
    obtain ⟨t, ht⟩ := odd_words h' i (by rwa [List.length_map])
    refine ⟨t, ?_⟩
    rw [Array.getElem?_toList] at ht
    rw [ht]
    simp [List.getD_eq_getElem?_getD, hi]
  have e := filterMap_some (fun i => wacc[2 * i + 1]?) (fun i => (wacc[2 * i + 1]?).getD .none) fs.length fun i hi => by
    obtain ⟨t, ht⟩ := key i hi
    rw [ht]; rfl
  rw [e]
  refine ⟨by simp, fun i v hv => ?_⟩
  have hi : i < fs.length := by
    have := (List.getElem?_eq_some_iff.mp hv).1
    simpa using this
  obtain ⟨t, ht⟩ := key i hi
  (first | refine Mine.in3 (fs[i]) t (List.getElem?_eq_getElem hi) (?_) | refine Mine.in2 (fs[i]) t ⟨List.getElem?_eq_getElem hi, ?_⟩)
  rw [List.getElem?_map, List.getElem?_range hi] at hv
  simp only [Option.map_some, Option.some.injEq] at hv
  rw [← hv, ht]
  simp [List.getD_eq_getElem?_getD, hi]
theorem led_add {h₀ h1 h' : Heap} {L W : Addr} {m : Str → Option Value} {o : Obj} {news : List (Addr × Obj)} (F : Fr h₀ L h1 m) (N1 : News h₀ L h1 news) (N : News h₀ L h' news) (hW : h'.get? W = some o) (hW0 : h1.get? W = none) : News h₀ L h' ((W, o) :: news) ∧ ∀ p ∈ news, p.1 ≠ W := by
  refine ⟨fun p hp => ?_, fun p hp q => ?_⟩
  · rcases List.mem_cons.mp hp with rfl | hp
    · refine ⟨hW, fun q => ?_, ?_⟩
      · (have hZ8 := F.ns; (refine Mine.xa3_2 hZ8 ?_; clear hZ8; intro oL _ _ e _))
        have q' : W = L := q
        rw [q', e] at hW0; cases hW0
      · cases q : h₀.get? W with
        | none => rfl
        | some o => rw [F.keep _ _ q] at hW0; cases hW0
    · exact N p hp
  · have := (N1 p hp).1
    rw [q, hW0] at this; cases this
structure LawOk (fs : List (Str × Int)) : Prop where
  counts : Txt.count (qdS (textS fs)) (Str.ofString "\u000d\n") = (fs.map fun p => Txt.count (plainP p.1 p.1.length) (Str.ofString "\n") + 1).sum ∧ Txt.count (qdS (textS fs)) (Str.ofString "\n") = (fs.map fun p => Txt.count (plainP p.1 p.1.length) (Str.ofString "\n") + 1).sum ∧ Txt.count (qdS (textS fs)) (Str.ofString "\u000d") = (fs.map fun p => Txt.count (plainP p.1 p.1.length) (Str.ofString "\n") + 1).sum
  toks : RtAll (comeS (qdS (textS fs))).cps.toList (wordsL fs)
  flat : ((wordsL fs).map PyData.str).all flatD = true
  modes : ∀ p ∈ fs, saidD p.2 = rowD p.2
  flat2 : ∀ p ∈ fs, (rowD p.2).all flatD = true
  esc : ∀ c ∈ (comeS (qdS (textS fs))).cps.toList, escC c = false
  len : (comeS (qdS (textS fs))).length ≤ 100000
  init : qdS (Txt.slice (textS fs) none (some (-1))) = Txt.slice (qdS (textS fs)) none (some (-2))
  rows : ∀ r ∈ Txt.split (qdS (textS fs)) (Str.ofString "\u000d\n"), (Txt.slice r none (some 1) == Str.ofString ".") = true → (Txt.slice r none (some 2) != Str.ofString "..") = false
theorem s_law (l : Addr) (vs : List Value) (ns : List Int) (hi : IntsAre vs ns) (hn : ns.length ≤ 63) (LW : LawOk (lawFiles ns)) (dp un : Nat) (gd : Option (List Code)) (s : Shared) (Q E : Value → Shared → Prop) (TT : TopT w mg mb s) (hl : s.heap.IsList l vs.toArray) (hd : dp + 300 < recursionLimit) (hu : un + 2000 < cLine) (ret : ∀ s', KeepT s s' → Q (.bool true) s') :
    codeAny (model PySem.Challenge.rw_oy0416_01.row.prog w) { handled := none, depth := dp, frames := some [], guards := gd, units := un } (.call (.ref 880) ⟨[.ref l], []⟩) (wants Q E) s := by
  have _ : Mine.hd.heap_39 w.params = Mine.hd.heap_39 w.params := rfl
  have st : (hideAll s.heap [763]).StaysIn s.heap := fun b o e => of_hideAll _ e
  have X0 := TT.X.keeps st
  have T0 := TT.T.keeps st
  (have hZ9 := TT.tab; (refine Mine.xa1_2 hZ9 ?_; clear hZ9; intro ps hgt ht))
  revert X0
  k_fill
  intro X0
  refine' enter_codeT ?k1 ?k2 ht ?k6 ?k7 ?k8 ?k9 ?kB ?kD ?_ ?c2 ?c3 ?c4
  case k1 => assumption
  case k2 => assumption
  case k6 => k_is
  case k7 => k_is
  case k8 => (dsimp only; (first | lia | omega))
  case k9 => exact BindsTo.of_eq rfl
  case kB => exact rfl
  case kD => decide +kernel
  case c2 => exact rfl
  case c3 => exact rfl
  case c4 => exact rfl
  intro L' h' tk' cells' F' N' hL7 Y'
  k_cells Y'
  (try simp only [List.cons_append, List.nil_append] at N')
  (try dsimp only)
  (try k_fold)
  (have hZ10 := TT; try clear TT; (obtain ⟨X, T, M, _, bare⟩ := hZ10))
  clear X0 T0
  have B0 : Below { handled := none, depth := dp, frames := some [], guards := gd, units := un } (hideAll s.heap [763]) [] (hideAll s.heap [763]) := ⟨rfl, fun _ _ e => e, trivial⟩
  k_steps
  -- files = _law_files(script)
  rename Fr _ _ _ _ => hF1
  rename News _ _ _ _ => hN1
  have hF1' : Fr (hideAll s.heap [763]) L' h' (fun y => if y = Str.ofString "script" then some (.ref l) else none) := hF1
  clear hF1
  rename Fr _ _ _ _ => hF1
  have hl1 : Heap.IsList h' l vs.toArray := by
    (have hZ11 := hl; try clear hl; (refine Mine.xa1_3 hZ11 ?_; clear hZ11; intro o ho hc r))
    refine ⟨o, hF1.keep _ _ (hideAll_get _ ho ?_), hc, r⟩
    intro q
    rw [List.mem_singleton.mp q, ht] at ho
    cases ho
    cases hc
  refine use_KS (s_files h' l vs ns hi hn) rfl B0 hF1 hN1 X T rfl rfl rfl ⟨rfl, hl1⟩ (by simp only [depth_deeper]; (first | lia | omega)) (by simp only [units_deeper]; (first | lia | omega)) ?_
  (intro v; intro h2; intro tk2; intro F2; intro N2; intro k2; intro hZ12; (refine Mine.xa4_3 hZ12 ?_; clear hZ12; intro D fits fn tups eZ15 hfa hat; subst eZ15))
  (have hZ20 := news_files hF1 hN1 N2 hfa hat; (refine Mine.xa0_4 hZ20 ?_; clear hZ20; intro N2 hD1 hD2 htup))
  clear hN1 k2 hat hl1
  try dsimp only
  have hok := files_ok ns
  have hlen := files_len ns
  generalize lawFiles ns = fs at hfa hok hlen LW
  k_steps
  -- wire
  rename Fr _ _ _ _ => hF2
  rename News _ _ _ _ => hN2
  unfold Held
  refine files_comp (h₀ := hideAll s.heap [763]) fs (GAt fun x b => .str (rowS x b)) (GAt.mono _) (by decide) rfl rfl rfl rfl (by decide) rfl (by decide) ?_
  refine ld_any (v := .ref D) hF2 rfl ?_
  refine Mine.in7 D fits fn tups _ _ ps ⟨rfl, .head _, hfa, fun p hp => .tail _ (.tail _ (.tail _ hp)), Nat.le_trans hlen (by decide), hF2, hN2, .tail _ (.tail _ (.head _)), hgt, bare, ?_, ?_⟩
  · intro C x bt tx tb b₃ s₃ m₃ ps3 rest E' hm hx hb hbk F3 N3 hg3 hb3 hr3 hall
    have ok := hok _ hm
    have st3 : (hideAll s.heap [763]).StaysIn b₃ := fun b o e => hbk b o (fun q => by rw [hideAll_none _ (q ▸ List.mem_singleton.mpr rfl)] at e; cases e) (hF2.keep b o e)
    have X3 := X.keeps st3
    have T3 := T.keeps st3
    have M3 : ∃ bm ob, BMod b₃ mainGlobals mg bm ob := let ⟨bm, ob, M⟩ := M; ⟨bm, ob, M.keeps st3⟩
    (have hZ21 := ok; try clear ok; (obtain ⟨ok1, ok2, ok3, ok4⟩ := hZ21))
    dsimp only at ok1 ok2 ok3 ok4
    have ok1' : x.length ≤ 100 := Nat.le_trans ok1 (by decide)
    have ok5 := octS_len bt
    have ok6 := row_fit (b := bt) ok1
    clear hF2 hN2 X T M B0
    k_steps
    rename News _ _ _ _ => hN9
    exact eltT_done (fy := []) hall (Fr.keeps (by assumption) fun _ _ e => e) hN9 (fun p hp => .tail _ (.tail _ hp)) (.tail _ (.head _)) (by assumption) (by assumption) (by assumption) ⟨rfl, fun _ => .str _ _⟩ (fun a ha => nomatch ha)
  intro D1 s4 ys nn ps4 ho4 hb4 hg4 F4 hn4 hD4 hys hG4
  have hst := strs_of_reads (xs := fs.map fun p => rowS p.1 p.2) (by rw [List.map_map]; exact readsF (h' := s4.heap) hys hG4)
  have lt1 : ∀ p ∈ (D, listOf fits fn) :: (L' + 1, _) :: (763, tabO ps) :: tups, @LT.lt Nat _ p.1 D1 := fun p hp => Nat.lt_of_lt_of_le (Heap.lt_size (hN2 p hp).1) hD4
  have N4 := hn4 ((D1, listOf ys nn) :: (D, listOf fits fn) :: (L' + 1, _) :: (763, tabO ps4) :: tups) fun p hp => by
    rcases List.mem_cons.mp hp with rfl | hp
    · exact .inr (.inr (.inl rfl))
    · rcases List.mem_cons.mp hp with rfl | hp
      · exact .inl ⟨.head _, hD2⟩
      · rcases List.mem_cons.mp hp with rfl | hp
        · exact .inl ⟨.tail _ (.head _), Nat.ne_of_gt (Nat.lt_succ_of_lt hL7)⟩
        · rcases List.mem_cons.mp hp with rfl | hp
          · exact .inr (.inl rfl)
          · exact .inl ⟨.tail _ (.tail _ (.tail _ hp)), (htup p hp).1⟩
  have l1 := lt1 _ (.head _)
  have l2 := lt1 _ (.tail _ (.head _))
  have l3 := lt1 _ (.tail _ (.tail _ (.head _)))
  have F4' : Fr (hideAll s.heap [763]) L' s4.heap _ := F4
  have N4' : News (hideAll s.heap [763]) L' s4.heap _ := N4
  clear hF2 hN2 hn4 hG4 hD4 lt1 F4 N4
  dsimp only at l1 l2 l3
  have htl := text_len hok hlen
  have htl' : (textS fs).length ≤ 100000 := Nat.le_trans htl (by decide)
  have hql : (qdS (textS fs)).length ≤ 100000 := Nat.le_trans (qd_len _) (by (first | lia | omega))
  try dsimp only
  k_steps
  rename Fr _ _ _ _ => hF5
  rename News _ _ _ _ => hN5
  refine storeX_C (c := L' + 1) hF5 hN5 rfl (.tail (Nat.ne_of_gt l2) (.tail hD1 (.head ?_))) (by assumption) ?_ rfl rfl
  · intro p hp
    rcases List.mem_cons.mp hp with rfl | hp
    · exact Nat.ne_of_lt (Nat.lt_succ_of_lt hL7)
    · exact (htup p hp).2.1
  intro h5 o5 F5 N5 d5
  clear hF5 hN5
  try dsimp only
  k_steps
  -- ends
  rename Fr _ _ _ _ => hF5
  rename News _ _ _ _ => hN5
  unfold Held
  refine files_comp (h₀ := hideAll s.heap [763]) fs (GAt fun x b => .int (Txt.count (plainP x x.length) (Str.ofString "\n") + 1)) (GAt.mono _) (by decide) rfl rfl rfl rfl (by decide) rfl (by decide) ?_
  refine ld_any (v := .ref D) hF5 rfl ?_
  refine Mine.in7 D fits fn tups _ _ ps4 ⟨rfl, .tail _ (.head _), hfa, fun p hp => .tail _ (.tail _ (.tail _ (.tail _ (hp)))), Nat.le_trans hlen (by decide), hF5, hN5, .tail _ (.tail _ (.tail _ (.head _))), hg4, hb4, ?_, ?_⟩
  · intro C x bt tx tb b₃ s₃ m₃ ps3 rest E' hm hx hb hbk F3 N3 hg3 hb3 hr3 hall
    have st3 : (hideAll s.heap [763]).StaysIn b₃ := fun b o e => hbk b o (fun q => by rw [hideAll_none _ (q ▸ List.mem_singleton.mpr rfl)] at e; cases e) (hF5.keep b o e)
    have X3 := X.keeps st3
    have T3 := T.keeps st3
    have M3 : ∃ bm ob, BMod b₃ mainGlobals mg bm ob := let ⟨bm, ob, M⟩ := M; ⟨bm, ob, M.keeps st3⟩
    have B3 : BelowIn dp un gd (hideAll s.heap [763]) L' b₃ := fun env h1 h2 => below_in hF5 hbk (hideAll_none _ (List.mem_singleton.mpr rfl)) hL7 rfl h1 h2
    (have hZ22 := hok _ hm; (obtain ⟨ok1, ok2, ok3, ok4⟩ := hZ22))
    dsimp only at ok1 ok2 ok3 ok4
    have ok1' : x.length ≤ 100 := Nat.le_trans ok1 (by decide)

    clear hF5 hN5 X T M B0
    k_steps
    rename News _ _ _ _ => hN9
    exact eltT_done (fy := []) hall (Fr.keeps (by assumption) fun _ _ e => e) hN9 (fun p hp => .tail _ hp) (.head _) (by assumption) (by assumption) rfl ⟨rfl, fun _ => .int _ _⟩ (fun a ha => nomatch ha)
  intro D6 s6 ys6 nn6 ps6 ho6 hb6 hg6 F6 hn6 hD6 hys6 hG6
  obtain ⟨N6, lks, l76, lt6⟩ := led_next (ks := [(D, listOf fits fn), (L' + 1, o5)]) (tups := tups) hN5 (fun p hp => by
    rcases List.mem_cons.mp hp with rfl | hp
    · exact ⟨.tail _ (.head _), hD2⟩
    rcases List.mem_cons.mp hp with rfl | hp
    · exact ⟨.tail _ (.tail _ (.head _)), Nat.ne_of_gt (Nat.lt_succ_of_lt hL7)⟩
    exact (List.not_mem_nil hp).elim) (fun p hp => ⟨.tail _ (.tail _ (.tail _ (.tail _ (hp)))), (htup p hp).1⟩) (.tail _ (.tail _ (.tail _ (.head _)))) hn6 hD6
  have l6_0 := lks _ (.head _)
  have l6_1 := lks _ (.tail _ (.head _))
  have F6' : Fr (hideAll s.heap [763]) L' s6.heap _ := F6
  have N6' : News (hideAll s.heap [763]) L' s6.heap ((D6, _) :: (D, listOf fits fn) :: (L' + 1, o5) :: (763, tabO ps6) :: tups) := N6
  clear hF5 hN5 hn6 hD6 lks F6 N6
  dsimp only at l6_0 l6_1
  have hin := ints_of_reads (xs := fs.map fun p => Txt.count (plainP p.1 p.1.length) (Str.ofString "\n") + 1) (by rw [List.map_map]; exact readsF (h' := s6.heap) hys6 hG6)
  clear hG6
  try dsimp only
  k_steps
  -- counts
  unfold Held
  refine lct_name (h₀ := hideAll s.heap [763]) (FAt fun i => .int (Txt.count (qdS (textS fs)) (ends3.getD i Str.empty))) (FAt.mono _) rfl rfl rfl (by decide) rfl (by decide) ?_
  k_steps
  unfold Stop
  rename Fr _ _ _ _ => hF7
  rename News _ _ _ _ => hN7
  refine Mine.in5 _ _ _ _ ps6 ⟨rfl, News.isList hN7 (.head _), (show 3 ≤ sizeLine by decide), hF7, hN7, .tail _ (.tail _ (.tail _ (.tail _ (.head _)))), hg6, hb6, fun _ _ _ => trivial, ?_, ?_⟩
  · intro C i v b₃ s₃ m₃ ps3 rest E' hv hx hbk F3 N3 hg3 hb3 hr3 hall
    have st3 : (hideAll s.heap [763]).StaysIn b₃ := fun b o e => hbk b o (fun q => by rw [hideAll_none _ (q ▸ List.mem_singleton.mpr rfl)] at e; cases e) (hF7.keep b o e)
    have X3 := X.keeps st3
    have T3 := T.keeps st3
    have M3 : ∃ bm ob, BMod b₃ mainGlobals mg bm ob := let ⟨bm, ob, M⟩ := M; ⟨bm, ob, M.keeps st3⟩
    have B3 : BelowIn dp un gd (hideAll s.heap [763]) L' b₃ := fun env h1 h2 => below_in hF7 hbk (hideAll_none _ (List.mem_singleton.mpr rfl)) hL7 rfl h1 h2
    have hcel : b₃.get? (L' + 1) = some o5 := hbk (L' + 1) _ (Nat.ne_of_gt (Nat.lt_succ_of_lt hL7)) (hN7 _ (.tail _ (.tail _ (.tail _ (.head _))))).1
    (have hZ23 := ends_item hv; (refine Mine.xa2_2 hZ23 ?_; clear hZ23; intro y t eZ26 eZ27; subst eZ26; subst eZ27))
    clear hF7 hN7 X T M B0
    k_steps
    rename News _ _ _ _ => hN9
    exact eltT_done (fy := []) hall (Fr.keeps (by assumption) fun _ _ e => e) hN9 (fun p hp => .tail _ hp) (.head _) (by assumption) (by assumption) rfl ⟨rfl, fun _ => .int _ _⟩ (fun a ha => nomatch ha)
  intro D8 s8 ys8 nn8 ps8 ho8 hb8 hg8 F8 hn8 hD8 hys8 hG8
  obtain ⟨N8, lks, l78, lt8⟩ := led_next (ks := [(D, listOf fits fn), (L' + 1, o5)]) (tups := tups) hN7 (fun p hp => by
    rcases List.mem_cons.mp hp with rfl | hp
    · exact ⟨.tail _ (.tail _ (.head _)), hD2⟩
    rcases List.mem_cons.mp hp with rfl | hp
    · exact ⟨.tail _ (.tail _ (.tail _ (.head _))), Nat.ne_of_gt (Nat.lt_succ_of_lt hL7)⟩
    exact (List.not_mem_nil hp).elim) (fun p hp => ⟨.tail _ (.tail _ (.tail _ (.tail _ (.tail _ (hp))))), (htup p hp).1⟩) (.tail _ (.tail _ (.tail _ (.tail _ (.head _))))) hn8 hD8
  have l8_0 := lks _ (.head _)
  have l8_1 := lks _ (.tail _ (.head _))
  have F8' : Fr (hideAll s.heap [763]) L' s8.heap _ := F8
  have N8' : News (hideAll s.heap [763]) L' s8.heap ((D8, _) :: (D, listOf fits fn) :: (L' + 1, o5) :: (763, tabO ps8) :: tups) := N8
  clear hF7 hN7 hn8 hD8 lks F8 N8
  dsimp only at l8_0 l8_1
  have hin8 := ends_ints hys8 hG8
  clear hG8
  try dsimp only
  k_steps
  unfold Held
  rename Fr _ _ _ _ => hF9
  rename News _ _ _ _ => hN9
  refine ne_ints3 hN9 (.tail _ (.tail _ (.head _))) hin8 (.head _) LW.counts.1 LW.counts.2.1 LW.counts.2.2 (by simp only [units_deeper]; (first | lia | omega)) ?_
  k_steps
  -- rows
  unfold Held
  refine gc_eval (h₀ := hideAll s.heap [763]) rule_filter (fun _ => []) (asg_name rfl rfl) rfl rfl (by decide) rfl (by decide) ?_
  k_steps
  unfold Stop
  rename Fr _ _ _ _ => hF10
  rename News _ _ _ _ => hN10
  rename Heap.IsList _ _ _ => hL10
  rename (List.map _ _ = Txt.split _ _) => hE10
  refine Mine.in5 _ _ _ _ ps8 ⟨rfl, hL10, hF10, hN10, .tail _ (.tail _ (.tail _ (.tail _ (.tail _ (.tail _ (.head _)))))), hg8, hb8, fun _ _ _ => trivial, ?_, ?_⟩
  · intro C D0 i v b₃ s₃ m₃ ps3 rest ys c E' P hv hx hbk F3 N3 hg3 hb3 hr3 h7D hys3 hall done
    have st3 : (hideAll s.heap [763]).StaysIn b₃ := fun b o e => hbk b o (fun q => by rw [hideAll_none _ (q ▸ List.mem_singleton.mpr rfl)] at e; cases e) (hF10.keep b o e)
    have X3 := X.keeps st3
    have T3 := T.keeps st3
    have M3 : ∃ bm ob, BMod b₃ mainGlobals mg bm ob := let ⟨bm, ob, M⟩ := M; ⟨bm, ob, M.keeps st3⟩
    have B3 : BelowIn dp un gd (hideAll s.heap [763]) L' b₃ := fun env h1 h2 => below_in hF10 hbk (hideAll_none _ (List.mem_singleton.mpr rfl)) hL7 rfl h1 h2
    (have hZ32 := split_item hE10 hv; (refine Mine.xa2_2 hZ32 ?_; clear hZ32; intro r t eZ34 hr; subst eZ34))
    have hrl : r.length ≤ 100000 := Nat.le_trans (split_part_le hr) hql
    clear hF10 hN10 hL10 X T M B0
    unfold TBf
    k_steps
    all_goals first
      | exact (Bool.noConfusion ((LW.rows _ hr (by with_reducible assumption)).symm.trans (by with_reducible assumption)))
      | exact gcT_none rfl done hall (Fr.keeps (by assumption) fun _ _ e => e) (by with_reducible assumption) (by k_mem) (by k_mem) (by k_sub) hg3 hb3 rfl
      | trace_state
  intro D11 s11 ys11 nn11 ps11 ho11 hb11 hg11 F11 hn11 hD11 hG11
  obtain ⟨N11, lks, l711, lt11⟩ := led_next (ks := [(D, listOf fits fn), (L' + 1, o5)]) (tups := tups) hN10 (fun p hp => by
    rcases List.mem_cons.mp hp with rfl | hp
    · exact ⟨.tail _ (.tail _ (.tail _ (.tail _ (.head _)))), hD2⟩
    rcases List.mem_cons.mp hp with rfl | hp
    · exact ⟨.tail _ (.tail _ (.tail _ (.tail _ (.tail _ (.head _))))), Nat.ne_of_gt (Nat.lt_succ_of_lt hL7)⟩
    exact (List.not_mem_nil hp).elim) (fun p hp => ⟨.tail _ (.tail _ (.tail _ (.tail _ (.tail _ (.tail _ (.tail _ (hp))))))), (htup p hp).1⟩) (.tail _ (.tail _ (.tail _ (.tail _ (.tail _ (.tail _ (.head _))))))) hn11 hD11
  have l11_0 := lks _ (.head _)
  have l11_1 := lks _ (.tail _ (.head _))
  have F11' : Fr (hideAll s.heap [763]) L' s11.heap _ := F11
  have N11' : News (hideAll s.heap [763]) L' s11.heap ((D11, _) :: (D, listOf fits fn) :: (L' + 1, o5) :: (763, tabO ps11) :: tups) := N11
  clear hF10 hN10 hn11 hD11 lks F11 N11
  dsimp only at l11_0 l11_1
  have hz11 : ys11.toList = [] := by
    have := readsAll_len (hG11 s11.heap)
    rw [List.flatMap_eq_nil_iff.mpr (fun _ _ => rfl)] at this
    exact List.eq_nil_of_length_eq_zero this
  clear hG11
  try dsimp only
  k_steps
  unfold Held
  rename Fr _ _ _ _ => hF12
  rename News _ _ _ _ => hN12
  refine ne_same (d := .list []) (reads_list_at (News.get hN12 (.tail _ (.head _))) rfl rfl (by rw [hz11]; exact .nil)) (reads_list_at (News.get hN12 (.head _)) rfl rfl .nil) (by decide) (by simp only [units_deeper]; (first | lia | omega)) ?_
  k_steps
  -- without the last line end
  rename Fr _ _ _ _ => hF13
  rename News _ _ _ _ => hN13
  unfold Held
  refine files_comp (h₀ := hideAll s.heap [763]) fs (GAt fun x b => .str (rowS x b)) (GAt.mono _) (by decide) rfl rfl rfl rfl (by decide) rfl (by decide) ?_
  refine ld_any (v := .ref D) hF13 rfl ?_
  refine Mine.in7 D fits fn tups _ _ ps11 ⟨rfl, .tail _ (.tail _ (.head _)), hfa, fun p hp => .tail _ (.tail _ (.tail _ (.tail _ (.tail _ (hp))))), Nat.le_trans hlen (by decide), hF13, hN13, .tail _ (.tail _ (.tail _ (.tail _ (.head _)))), hg11, hb11, ?_, ?_⟩
  · intro C x bt tx tb b₃ s₃ m₃ ps3 rest E' hm hx hb hbk F3 N3 hg3 hb3 hr3 hall
    have st3 : (hideAll s.heap [763]).StaysIn b₃ := fun b o e => hbk b o (fun q => by rw [hideAll_none _ (q ▸ List.mem_singleton.mpr rfl)] at e; cases e) (hF13.keep b o e)
    have X3 := X.keeps st3
    have T3 := T.keeps st3
    have M3 : ∃ bm ob, BMod b₃ mainGlobals mg bm ob := let ⟨bm, ob, M⟩ := M; ⟨bm, ob, M.keeps st3⟩
    have B3 : BelowIn dp un gd (hideAll s.heap [763]) L' b₃ := fun env h1 h2 => below_in hF13 hbk (hideAll_none _ (List.mem_singleton.mpr rfl)) hL7 rfl h1 h2
    (have hZ37 := hok _ hm; (obtain ⟨ok1, ok2, ok3, ok4⟩ := hZ37))
    dsimp only at ok1 ok2 ok3 ok4
    have ok1' : x.length ≤ 100 := Nat.le_trans ok1 (by decide)
    have ok5 := octS_len bt
    have ok6 := row_fit (b := bt) ok1
    clear hF13 hN13 X T M B0
    k_steps
    rename News _ _ _ _ => hN9
    exact eltT_done (fy := []) hall (Fr.keeps (by assumption) fun _ _ e => e) hN9 (fun p hp => .tail _ (.tail _ hp)) (.tail _ (.head _)) (by assumption) (by assumption) (by assumption) ⟨rfl, fun _ => .str _ _⟩ (fun a ha => nomatch ha)
  intro D14 s14 ys14 nn14 ps14 ho14 hb14 hg14 F14 hn14 hD14 hys14 hG14
  obtain ⟨N14, lks, l714, lt14⟩ := led_next (ks := [(D, listOf fits fn), (L' + 1, o5)]) (tups := tups) hN13 (fun p hp => by
    rcases List.mem_cons.mp hp with rfl | hp
    · exact ⟨.tail _ (.tail _ (.head _)), hD2⟩
    rcases List.mem_cons.mp hp with rfl | hp
    · exact ⟨.tail _ (.tail _ (.tail _ (.head _))), Nat.ne_of_gt (Nat.lt_succ_of_lt hL7)⟩
    exact (List.not_mem_nil hp).elim) (fun p hp => ⟨.tail _ (.tail _ (.tail _ (.tail _ (.tail _ (hp))))), (htup p hp).1⟩) (.tail _ (.tail _ (.tail _ (.tail _ (.head _))))) hn14 hD14
  have l14_0 := lks _ (.head _)
  have l14_1 := lks _ (.tail _ (.head _))
  have F14' : Fr (hideAll s.heap [763]) L' s14.heap _ := F14
  have N14' : News (hideAll s.heap [763]) L' s14.heap ((D14, _) :: (D, listOf fits fn) :: (L' + 1, o5) :: (763, tabO ps14) :: tups) := N14
  clear hF13 hN13 hn14 hD14 lks F14 N14
  dsimp only at l14_0 l14_1
  have hst14 := strs_of_reads (xs := fs.map fun p => rowS p.1 p.2) (by rw [List.map_map]; exact readsF (h' := s14.heap) hys14 hG14)
  clear hG14 hst
  have hsl : (Txt.slice (textS fs) none (some (-1))).length ≤ 100000 := Nat.le_trans (slice_le _ _ _) htl'
  have hq0 : (Str.ofString "").length ≤ 100000 := by decide +kernel
  have hq1 : (Str.ofString ".").length ≤ 100000 := by decide +kernel
  have hi1 := LW.init
  have hi2 := qd_empty
  have hi3 := qd_dot
  try dsimp only
  k_steps
  unfold Held
  refine ne_str_same hi1 ?_
  k_steps
  unfold Held
  refine ne_str_same hi2 ?_
  k_steps
  unfold Held
  refine ne_str_same hi3 ?_
  k_steps
  -- words
  clear hsl hq0 hq1 hi1 hi2 hi3
  unfold Held
  rename Fr _ _ _ _ => hF15
  rename News _ _ _ _ => hN15
  refine use_KR (s_split _ _ (wordsL fs) LW.len LW.esc LW.toks (words_len hlen)) rfl B0 hF15 hN15 X T rfl rfl rfl (by simp only [depth_deeper]; (first | lia | omega)) (by simp only [units_deeper]; (first | lia | omega)) ?_
  (intro v; intro h16; intro tk16; intro F16; intro N16; intro hZ38; (refine Mine.xa3_4 hZ38 ?_; clear hZ38; intro W wacc wc eZ42 hW hW0 hws; subst eZ42))
  obtain ⟨N16', hWn⟩ := led_add hF15 hN15 N16 hW hW0
  have N17 : News (hideAll s.heap [763]) L' h16 ((W, listOf wacc wc) :: (D, listOf fits fn) :: (L' + 1, o5) :: (763, tabO ps14) :: tups) := fun p hp => by
    rcases List.mem_cons.mp hp with rfl | hp
    · exact N16' _ (.head _)
    · exact N16' _ (.tail _ (.tail _ hp))
  have F17 : Fr (hideAll s.heap [763]) L' h16 _ := F16
  have hWD : @Ne Nat D W := hWn _ (.tail _ (.head _))
  have hWc : @Ne Nat (L' + 1) W := hWn _ (.tail _ (.tail _ (.head _)))
  have hW7 : @Ne Nat 763 W := hWn _ (.tail _ (.tail _ (.tail _ (.head _))))
  have hWt : ∀ p ∈ tups, p.1 ≠ W := fun p hp => hWn p (.tail _ (.tail _ (.tail _ (.tail _ hp))))
  clear hF15 hN15 N16 N16' hWn hW hW0 F16
  try dsimp only
  k_steps
  unfold Held
  rename Fr _ _ _ _ => hF18
  rename News _ _ _ _ => hN18
  refine gc_eval (h₀ := hideAll s.heap [763]) (rule_nest rfl (by decide) (fun _ _ => rfl)) (fun i => [.str (plainP (fs.getD i (Str.empty, 0)).1 (fs.getD i (Str.empty, 0)).1.length), .str (octS (fs.getD i (Str.empty, 0)).2)]) (asg_pair rfl rfl rfl rfl) rfl rfl (by decide) rfl (by decide) ?_
  refine ld_any (v := .ref D) hF18 rfl ?_
  unfold Stop
  refine Mine.in5 D fits _ _ ps14 ⟨rfl, ⟨_, (hN18 _ (.tail _ (.head _))).1, rfl, _, rfl⟩, hF18, hN18, .tail _ (.tail _ (.tail _ (.head _))), hg14, hb14, fun i v hv => ?_, ?_, ?_⟩
  · obtain ⟨T, x, tx, bt, tb, n, rfl, _, hm⟩ := hfa.at (show fits.toList[i]? = some v by simpa using hv)
    exact Mine.in3 T _ _ ⟨rfl, _, (hN18 _ (.tail _ (.tail _ (.tail _ (.tail _ hm))))).1, rfl, _, rfl⟩
  · intro C D0 i v b₃ s₃ m₃ ps3 rest ys c E' P hv hb hbk F3 N3 hg3 hb3 hr3 h7D hys3 hall done
    have st3 : (hideAll s.heap [763]).StaysIn b₃ := fun b o e => hbk b o (fun q => by rw [hideAll_none _ (q ▸ List.mem_singleton.mpr rfl)] at e; cases e) (hF18.keep b o e)
    have X3 := X.keeps st3
    have T3 := T.keeps st3
    have M3 : ∃ bm ob, BMod b₃ mainGlobals mg bm ob := let ⟨bm, ob, M⟩ := M; ⟨bm, ob, M.keeps st3⟩
    have B3 : BelowIn dp un gd (hideAll s.heap [763]) L' b₃ := fun env h1 h2 => below_in hF18 hbk (hideAll_none _ (List.mem_singleton.mpr rfl)) hL7 rfl h1 h2
    obtain ⟨T1, x, tx, bt, tb, n, rfl, e9, hm⟩ := hfa.at (show fits.toList[i]? = some v by simpa using hv)
    (have hZ46 := hb; try clear hb; (refine Mine.xa3_4 hZ46 ?_; clear hZ46; intro T' x' y' e1 hT e2 e3))
    cases e1
    (have hZ47 := hT; try clear hT; (obtain ⟨o, ho, _, n', hdd⟩ := hZ47))
    have hto := (hN18 _ (.tail _ (.tail _ (.tail _ (.tail _ hm))))).1
    rw [ho] at hto
    cases hto
    cases hdd
    have e4 := e3 (by decide)
    have hfi : fs.getD i (Str.empty, 0) = (x, bt) := by rw [List.getD_eq_getElem?_getD, e9]; rfl
    rw [hfi] at done
    (have hZ48 := hok _ (List.mem_of_getElem? e9); (obtain ⟨ok1, ok2, ok3, ok4⟩ := hZ48))
    dsimp only at ok1 ok2 ok3 ok4 done
    have ok1' : x.length ≤ 100 := Nat.le_trans ok1 (by decide)
    have hil : i < fs.length := (List.getElem?_eq_some_iff.mp e9).1
    have hys4 : ys.size ≤ 1000 := by rw [hys3, flat2_len _ (fun _ => rfl)]; (first | lia | omega)
    clear hF18 hN18 X T M B0 ho hm
    unfold TBn
    refine ⟨rfl, rfl, rfl, ?_⟩
    k_steps
    rename News _ _ _ _ => hN19
    rename Fr _ _ _ _ => hF19
    exact gcT_two (fun _ => .cons (.str _ _) (.cons (.str _ _) .nil)) hys4 done hall h7D hF19 hN19 (.head _) (.tail _ (.head _)) (.tail _ (.tail _ (.head _))) (fun p hp => .tail _ (.tail _ (.tail _ hp))) hg3 hb3 rfl
  intro D20 s20 ys20 nn20 ps20 ho20 hb20 hg20 F20 hn20 hD20 hG20
  obtain ⟨N20, lks, l720, lt20⟩ := led_next (ks := [(W, listOf wacc wc), (D, listOf fits fn), (L' + 1, o5)]) (tups := tups) hN18 (fun p hp => by
    rcases List.mem_cons.mp hp with rfl | hp
    · exact ⟨.head _, fun q => hW7 q.symm⟩
    rcases List.mem_cons.mp hp with rfl | hp
    · exact ⟨.tail _ (.head _), hD2⟩
    rcases List.mem_cons.mp hp with rfl | hp
    · exact ⟨.tail _ (.tail _ (.head _)), Nat.ne_of_gt (Nat.lt_succ_of_lt hL7)⟩
    exact (List.not_mem_nil hp).elim) (fun p hp => ⟨.tail _ (.tail _ (.tail _ (.tail _ (hp)))), (htup p hp).1⟩) (.tail _ (.tail _ (.tail _ (.head _)))) hn20 hD20
  have l20_0 := lks _ (.head _)
  have l20_1 := lks _ (.tail _ (.head _))
  have l20_2 := lks _ (.tail _ (.tail _ (.head _)))
  have F20' : Fr (hideAll s.heap [763]) L' s20.heap _ := F20
  have N20' : News (hideAll s.heap [763]) L' s20.heap ((D20, _) :: (W, listOf wacc wc) :: (D, listOf fits fn) :: (L' + 1, o5) :: (763, tabO ps20) :: tups) := N20
  clear hF18 hN18 hn20 hD20 lks F20 N20
  dsimp only at l20_0 l20_1 l20_2
  have hsz20 : fits.size = fs.length := by rw [← hfa.length, Array.length_toList]
  rw [hsz20, words_of] at hG20
  try dsimp only
  k_steps
  unfold Held
  rename Fr _ _ _ _ => hF21
  rename News _ _ _ _ => hN21
  refine ne_same (d := .list ((wordsL fs).map PyData.str)) (reads_list_at (News.get hN21 (.tail _ (.head _))) rfl rfl (reads_of_strs hws)) (reads_list_at (News.get hN21 (.head _)) rfl rfl (hG20 _)) (shaped_flats LW.flat) (by simp only [units_deeper]; (first | lia | omega)) ?_
  clear hG20
  k_steps
  -- modes
  unfold Held
  rename Fr _ _ _ _ => hF22
  rename News _ _ _ _ => hN22
  refine lct_assign (h₀ := hideAll s.heap [763]) (FAt fun i => .int (fs.getD i (Str.empty, 0)).2) (FAt.mono _) rfl rfl rfl (by decide) rfl (by decide) rfl rfl rfl ?_
  k_steps
  unfold Held
  rename Fr _ _ _ _ => hF22
  rename News _ _ _ _ => hN22
  have hwl : wacc.size = 2 * fs.length := by
    have := hws.length
    rw [Array.length_toList, words_len2] at this
    exact this
  refine' kmk_slice3_lit hF22 hN22 (News.isList hN22 (.tail _ (.head _))) (IsPart.int _ _) IsPart.none (IsPart.int _ _) (by decide) rfl ?_ ?s ?t (by show _ ≤ 2 ^ 24; (first | lia | omega))
  case s => with_unfolding_all rfl
  case t => intro _; with_unfolding_all rfl
  intro D23 h23 F23 N23 l23
  rw [Array.toArray_toList, pick_odd wacc _ hwl] at N23
  obtain ⟨hfl, hfg⟩ := figs_are hws
  unfold Stop
  refine Mine.in5 _ _ _ _ ps20 ⟨rfl, News.isList N23 (.head _), ?_, F23, N23, .tail _ (.tail _ (.tail _ (.tail _ (.tail _ (.head _))))), hg20, hb20, ?_, ?_⟩
  · refine Nat.le_trans (pick_le _ _) ?_
    show _ ≤ 2 ^ 24
    (first | lia | omega)
  · intro C i v b₃ s₃ m₃ ps3 rest E' hv hx hbk F3 N3 hg3 hb3 hr3 hall
    have st3 : (hideAll s.heap [763]).StaysIn b₃ := fun b o e => hbk b o (fun q => by rw [hideAll_none _ (q ▸ List.mem_singleton.mpr rfl)] at e; cases e) (F23.keep b o e)
    have X3 := X.keeps st3
    have T3 := T.keeps st3
    have M3 : ∃ bm ob, BMod b₃ mainGlobals mg bm ob := let ⟨bm, ob, M⟩ := M; ⟨bm, ob, M.keeps st3⟩
    have B3 : BelowIn dp un gd (hideAll s.heap [763]) L' b₃ := fun env h1 h2 => below_in F23 hbk (hideAll_none _ (List.mem_singleton.mpr rfl)) hL7 rfl h1 h2
    (have hZ49 := hfg i v (by simpa using hv); (refine Mine.xa2_2 hZ49 ?_; clear hZ49; intro p t hp eZ51; subst eZ51))
    have okp := hok p (List.mem_of_getElem? hp)
    have hpi : fs.getD i (Str.empty, 0) = p := by rw [List.getD_eq_getElem?_getD, hp]; rfl
    clear F23 N23 l23 X T M B0 hF22 hN22
    k_steps
    rename News _ _ _ _ => hN9
    exact eltT_done (fy := []) hall (Fr.keeps (by assumption) fun _ _ e => e) hN9 (fun p hp => .tail _ hp) (.head _) (by assumption) (by assumption) rfl ⟨rfl, fun _ => (by dsimp only; rw [hpi]; exact oct_reads okp.lo okp.hi)⟩ (fun a ha => nomatch ha)
  intro D24 s24 ys24 nn24 ps24 ho24 hb24 hg24 F24 hn24 hD24 hys24 hG24
  obtain ⟨N24, lks, l724, lt24⟩ := led_next (ks := [(D, listOf fits fn), (L' + 1, o5)]) (tups := tups) N23 (fun p hp => by
    rcases List.mem_cons.mp hp with rfl | hp
    · exact ⟨.tail _ (.tail _ (.tail _ (.head _))), hD2⟩
    rcases List.mem_cons.mp hp with rfl | hp
    · exact ⟨.tail _ (.tail _ (.tail _ (.tail _ (.head _)))), Nat.ne_of_gt (Nat.lt_succ_of_lt hL7)⟩
    exact (List.not_mem_nil hp).elim) (fun p hp => ⟨.tail _ (.tail _ (.tail _ (.tail _ (.tail _ (.tail _ (hp)))))), (htup p hp).1⟩) (.tail _ (.tail _ (.tail _ (.tail _ (.tail _ (.head _)))))) hn24 hD24
  have l24_0 := lks _ (.head _)
  have l24_1 := lks _ (.tail _ (.head _))
  have F24' : Fr (hideAll s.heap [763]) L' s24.heap _ := F24
  have N24' : News (hideAll s.heap [763]) L' s24.heap ((D24, _) :: (D, listOf fits fn) :: (L' + 1, o5) :: (763, tabO ps24) :: tups) := N24
  clear F23 N23 hn24 hD24 lks F24 N24
  dsimp only at l24_0 l24_1
  have hz24 : ys24.size = fs.length := hys24.trans (List.size_toArray.trans hfl)
  have hG24' := readsAt (h' := s24.heap) hG24
  rw [hz24, modes_of] at hG24'
  have hin24 := ints_of_reads hG24'
  clear hG24' hG24 hF22 hN22 hfl hfg hws hwl l23
  try dsimp only
  k_steps
  -- said
  unfold Held
  rename Fr _ _ _ _ => hF25
  rename News _ _ _ _ => hN25
  refine lct_assign (h₀ := hideAll s.heap [763]) (FTup fun i => saidD (fs.getD i (Str.empty, 0)).2) (FTup.mono _) rfl rfl rfl (by decide) rfl (by decide) rfl rfl rfl ?_
  refine ld_any (v := .ref D24) hF25 rfl ?_
  unfold Stop
  refine Mine.in5 D24 ys24 _ _ ps24 ⟨rfl, ⟨_, (hN25 _ (.head _)).1, rfl, _, rfl⟩, (by rw [hz24]; exact Nat.le_trans hlen (by decide)), hF25, hN25, .tail _ (.tail _ (.tail _ (.head _))), hg24, hb24, ?_, ?_⟩
  · intro C i v b₃ s₃ m₃ ps3 rest E' hv hx hbk F3 N3 hg3 hb3 hr3 hall
    have st3 : (hideAll s.heap [763]).StaysIn b₃ := fun b o e => hbk b o (fun q => by rw [hideAll_none _ (q ▸ List.mem_singleton.mpr rfl)] at e; cases e) (hF25.keep b o e)
    have X3 := X.keeps st3
    have T3 := T.keeps st3
    have M3 : ∃ bm ob, BMod b₃ mainGlobals mg bm ob := let ⟨bm, ob, M⟩ := M; ⟨bm, ob, M.keeps st3⟩
    have B3 : BelowIn dp un gd (hideAll s.heap [763]) L' b₃ := fun env h1 h2 => below_in hF25 hbk (hideAll_none _ (List.mem_singleton.mpr rfl)) hL7 rfl h1 h2
    (have hZ54 := ints_item hin24 hv; (refine Mine.xa2_2 hZ54 ?_; clear hZ54; intro p t hp eZ56; subst eZ56))
    (have hZ59 := hok p (List.mem_of_getElem? hp); (obtain ⟨okp1, okp2, okp3, okp4⟩ := hZ59))
    have hpi : fs.getD i (Str.empty, 0) = p := by rw [List.getD_eq_getElem?_getD, hp]; rfl
    clear hF25 hN25 X T M B0
    k_steps
    rename News _ _ _ _ => hN19
    rename Fr _ _ _ _ => hF19
    rename (763 < _ ∧ AllLt _ _) => hl19
    exact eltT_tup (said_fin hpi) hall hF19 hN19 hl19 hg3 hb3 rfl
  intro D26 s26 ys26 nn26 ps26 ho26 hb26 hg26 F26 hn26 hD26 hys26 hG26
  have hz26 : ys26.size = fs.length := hys26.trans hz24
  obtain ⟨tups2, ht2, hr2⟩ := readsTup (h₁ := _) ys26.toList 0 (fun j v e => by
    (have hZ60 := hG26 j v (by simpa using e); (refine Mine.xa1_2 hZ60 ?_; clear hZ60; intro fy g1 g2))
    exact ⟨fy, by rw [Nat.zero_add]; exact g1, fun a ha => (g2 a ha).2⟩)
  have h24t := (hN25 _ (.tail _ (.tail _ (.tail _ (.head _))))).1
  have N26 : News (hideAll s.heap [763]) L' s26.heap ((D26, listOf ys26 nn26) :: (D, listOf fits fn) :: (L' + 1, o5) :: (763, tabO ps26) :: (tups2 ++ tups)) := hn26 _ fun p hp => by
    rcases List.mem_cons.mp hp with rfl | hp
    · exact .inr (.inr (.inl rfl))
    rcases List.mem_cons.mp hp with rfl | hp
    · exact .inl ⟨.tail _ (.head _), hD2⟩
    rcases List.mem_cons.mp hp with rfl | hp
    · exact .inl ⟨.tail _ (.tail _ (.head _)), Nat.ne_of_gt (Nat.lt_succ_of_lt hL7)⟩
    rcases List.mem_cons.mp hp with rfl | hp
    · exact .inr (.inl rfl)
    rcases List.mem_append.mp hp with hp | hp
    · exact .inr (.inr (.inr ⟨(ht2 p hp).1, (ht2 p hp).2.1⟩))
    · exact .inl ⟨.tail _ (.tail _ (.tail _ (.tail _ hp))), (htup p hp).1⟩
  have h7t2 : ∀ p ∈ tups2, p.1 ≠ 763 := fun p hp q => by
    have := (ht2 p hp).1
    rw [q] at this
    rw [show Heap.get? _ 763 = some (tabO ps24) from h24t] at this
    cases this
  have h7D26 : D26 ≠ 763 := fun q => by
    have := Heap.lt_size h24t
    rw [q] at hD26
    exact Nat.lt_irrefl _ (Nat.lt_of_lt_of_le this hD26)
  have F26' : Fr (hideAll s.heap [763]) L' s26.heap _ := F26
  clear hF25 hN25 hn26 hG26 hD26 F26 h24t hin24
  try dsimp only
  k_steps
  -- the end
  unfold Held
  rename Fr _ _ _ _ => hF27
  rename News _ _ _ _ => hN27
  refine files_comp (h₀ := hideAll s.heap [763]) fs (GTup fun _ b => rowD b) (GTup.mono _) (by decide) rfl rfl rfl rfl (by decide) rfl (by decide) ?_
  refine ld_any (v := .ref D) hF27 rfl ?_
  refine Mine.in7 D fits fn tups _ _ ps26 ⟨rfl, .tail _ (.head _), hfa, fun p hp => .tail _ (.tail _ (.tail _ (.tail _ (List.mem_append_right _ hp)))), Nat.le_trans hlen (by decide), hF27, hN27, .tail _ (.tail _ (.tail _ (.head _))), hg26, hb26, ?_, ?_⟩
  · intro C x bt tx tb b₃ s₃ m₃ ps3 rest E' hm hx hb hbk F3 N3 hg3 hb3 hr3 hall
    have st3 : (hideAll s.heap [763]).StaysIn b₃ := fun b o e => hbk b o (fun q => by rw [hideAll_none _ (q ▸ List.mem_singleton.mpr rfl)] at e; cases e) (hF27.keep b o e)
    have X3 := X.keeps st3
    have T3 := T.keeps st3
    have M3 : ∃ bm ob, BMod b₃ mainGlobals mg bm ob := let ⟨bm, ob, M⟩ := M; ⟨bm, ob, M.keeps st3⟩
    have B3 : BelowIn dp un gd (hideAll s.heap [763]) L' b₃ := fun env h1 h2 => below_in hF27 hbk (hideAll_none _ (List.mem_singleton.mpr rfl)) hL7 rfl h1 h2
    (have hZ61 := hok _ hm; (obtain ⟨ok1, ok2, ok3, ok4⟩ := hZ61))
    dsimp only at ok1 ok2 ok3 ok4
    have ok1' : x.length ≤ 100 := Nat.le_trans ok1 (by decide)

    clear hF27 hN27 X T M B0
    k_steps
    rename News _ _ _ _ => hN19
    rename Fr _ _ _ _ => hF19
    rename (763 < _ ∧ AllLt _ _) => hl19
    exact eltT_tup row_fin hall hF19 hN19 hl19 hg3 hb3 rfl
  intro D28 s28 ys28 nn28 ps28 ho28 hb28 hg28 F28 hn28 hD28 hys28 hG28
  have N28 := hn28 ((D28, listOf ys28 nn28) :: (D26, listOf ys26 nn26) :: (763, tabO ps28) :: tups2) fun p hp => by
    rcases List.mem_cons.mp hp with rfl | hp
    · exact .inr (.inr (.inl rfl))
    rcases List.mem_cons.mp hp with rfl | hp
    · exact .inl ⟨.head _, h7D26⟩
    rcases List.mem_cons.mp hp with rfl | hp
    · exact .inr (.inl rfl)
    exact .inl ⟨.tail _ (.tail _ (.tail _ (.tail _ (List.mem_append_left _ hp)))), h7t2 p hp⟩
  have r26 : ReadsAll s28.heap ys26.toList (fs.map fun p => .tuple (rowD p.2)) [] := by
    have h := hr2 s28.heap fun p hp => (N28 _ (.tail _ (.tail _ (.tail _ hp)))).1
    rw [Array.length_toList, hz26] at h
    rw [← tups_range LW.modes]
    exact h
  have r28 : ReadsAll s28.heap ys28.toList (fs.map fun p => .tuple (rowD p.2)) [] := readsFT (d := fun _ b => rowD b) ys28.toList fs (by rw [Array.length_toList]; exact hys28) fun j v e => by
    (have hZ62 := hG28 j v (by simpa using e); (refine Mine.xa3_3 hZ62 ?_; clear hZ62; intro x b fy e1 g _))
    exact ⟨x, b, fy, e1, g⟩
  have hsh : SeqAt.shaped (.list (fs.map fun p => PyData.tuple (rowD p.2))) = true := by
    have := shaped_tups (xs := fs.map fun p => rowD p.2) fun x hx => by
      (have hZ63 := List.mem_map.mp hx; (refine Mine.xa1_2 hZ63 ?_; clear hZ63; intro p hp eZ65; subst eZ65))
      exact LW.flat2 p hp
    rwa [List.map_map] at this
  have F28' : Fr (hideAll s.heap [763]) L' s28.heap _ := F28
  clear hF27 hN27 hn28 hG28 hD28 F28
  try dsimp only
  k_steps
  unfold Held
  have ra : Reads s28.heap (.ref D26) (.list (fs.map fun p => .tuple (rowD p.2))) [D26] := reads_list_at (N28 (D26, listOf ys26 nn26) (.tail _ (.head _))).1 rfl rfl r26
  have rb : Reads s28.heap (.ref D28) (.list (fs.map fun p => .tuple (rowD p.2))) [D28] := reads_list_at (N28 (D28, listOf ys28 nn28) (.head _)).1 rfl rfl r28
  have ht28 : s28.heap.get? 763 = some (tabO ps28) := (N28 (763, tabO ps28) (.tail _ (.tail _ (.head _)))).1
  have kp28 : ∀ b o, b ≠ 763 → s.heap.get? b = some o → s28.heap.get? b = some o := fun b o hb e => F28'.keep b o (hideAll_get _ e (by simpa using hb))
  refine eq_same ra rb hsh (by simp only [units_deeper]; (first | lia | omega)) ?_
  have os28 : s28.os = s.os := by
    simp only [ho28, ho26, ho24, ho20, ho14, ho11, ho8, ho6, ho4]
  exact ret s28 ⟨kp28, ⟨ps28, hg28, ht28⟩, hb28, os28⟩
end Mine
end
theorem Mine.words37 : True := by k_with_none; trivial
section
open PySem PySem.W PyProof.Rows
set_option maxRecDepth 100000
set_option maxHeartbeats 8000000
set_option linter.unusedVariables false
namespace Mine
theorem and_bit (v : Int) (k : Nat) (b : Int) (hb : b = 2 ^ k) : Builtin.bitAnd v b = (v / b % 2) * b := by subst hb; exact kbt_bit v k
theorem and_even (v b : Int) (hb : b % 2 = 0) : Builtin.bitAnd v b = 2 * Builtin.bitAnd (v / 2) (b / 2) := by
  rw [kbt_halves, if_neg (fun h => by rw [hb] at h; exact absurd h.2 (by decide)), Int.add_zero]
theorem pow_succ2 (k : Nat) : (2 : Int) ^ (k + 1) = 2 * 2 ^ k := by rw [Int.pow_succ, Int.mul_comm]
theorem and_shift (b : Int) : ∀ (k : Nat) (v : Int), Builtin.bitAnd v (2 ^ k * b) = 2 ^ k * Builtin.bitAnd (v / 2 ^ k) b
  | 0, v => by rw [Int.pow_zero, Int.one_mul, Int.one_mul, Int.ediv_one]
  | k + 1, v => by
    rw [pow_succ2, Int.mul_assoc, and_even _ _ (Int.mul_emod_right ..), Int.mul_ediv_cancel_left _ (by decide), and_shift b k, Int.ediv_ediv_of_nonneg (by decide), Int.mul_assoc]
theorem and_two (v : Int) (j d : Nat) : Builtin.bitAnd v (2 ^ j * (2 ^ (d + 1) + 1)) = (v / 2 ^ (j + (d + 1)) % 2) * 2 ^ (j + (d + 1)) + (v / 2 ^ j % 2) * 2 ^ j := by
  have e1 : ((2 : Int) ^ (d + 1) + 1) / 2 = 2 ^ d := by
    rw [pow_succ2]
    generalize (2 : Int) ^ d = x
    (first | lia | omega)
  have e2 : ((2 : Int) ^ (d + 1) + 1) % 2 = 1 := by
    rw [pow_succ2]
    generalize (2 : Int) ^ d = x
    (first | lia | omega)
  rw [and_shift, kbt_halves, e1, e2, kbt_bit, Int.ediv_ediv_of_nonneg (by decide), ← pow_succ2, Int.ediv_ediv_of_nonneg (Int.le_of_lt (kbt_pos j)), ← Int.pow_add, Int.mul_add, Int.add_comm, Int.add_comm]
  congr 1
  · rw [Int.pow_add, pow_succ2]
    generalize (2 : Int) ^ d = x
    generalize (2 : Int) ^ j = y
    generalize v / _ % 2 = z
    rw [Int.mul_comm z x, ← Int.mul_assoc 2 x z, Int.mul_comm (2 * x) z, Int.mul_comm y (z * (2 * x)), Int.mul_assoc, Int.mul_comm (2 * x) y]
  · rcases Int.emod_two_eq (v / 2 ^ j) with h | h
    · rw [h]; simp
    · rw [h]; simp
theorem and_12 (v : Int) : Builtin.bitAnd v 4095 = v % 4096 := kbt_mask v 12
theorem and_kind {v : Int} (h0 : 0 ≤ v) (h1 : v < 65536) : Builtin.bitAnd v 61440 = 4096 * (v / 4096) := by
  have e1 : Builtin.bitAnd v 61440 = 4096 * Builtin.bitAnd (v / 4096) 15 := and_shift 15 12 v
  have e2 : v / 4096 < 16 := Int.ediv_lt_of_lt_mul (by decide) h1
  rw [e1, bitAnd_m4, Int.emod_eq_of_lt (Int.ediv_nonneg h0 (by decide)) e2]
theorem and_2112 (v : Int) : Builtin.bitAnd v 2112 = (v / 2048 % 2) * 2048 + (v / 64 % 2) * 64 := and_two v 6 4
theorem and_1032 (v : Int) : Builtin.bitAnd v 1032 = (v / 1024 % 2) * 1024 + (v / 8 % 2) * 8 := and_two v 3 6
theorem and_513 (v : Int) : Builtin.bitAnd v 513 = (v / 512 % 2) * 512 + v % 2 := by
  have h := and_two v 0 8
  rw [Int.pow_zero, Int.ediv_one, Int.mul_one] at h
  exact h
theorem fig_hi (x : Int) : x % 8 / 4 = x / 4 % 2 := by (first | lia | omega)
theorem fig_mid (x : Int) : x % 8 / 2 % 2 = x / 2 % 2 := by (first | lia | omega)
theorem fig_lo (x : Int) : x % 8 % 2 = x % 2 := Int.emod_emod_of_dvd x (by decide)
theorem dd (v : Int) {a b : Int} (ha : 0 ≤ a) : v / a / b = v / (a * b) := Int.ediv_ediv_of_nonneg ha
end Mine
end
section
open PySem PySem.W PyProof.Rows
set_option maxRecDepth 100000
set_option maxHeartbeats 8000000
set_option linter.unusedVariables false
namespace Mine
noncomputable def nlF : Bool → List Nat → List Nat
  | _, [] => []
  | cr, c :: r => if c = 13 then 10 :: nlF true r else if c = 10 then (if cr = true then nlF false r else 10 :: nlF false r) else c :: nlF false r
theorem nl_13 (cr : Bool) (r : List Nat) : nlF cr (13 :: r) = 10 :: nlF true r := rfl
theorem nl_10f (r : List Nat) : nlF false (10 :: r) = 10 :: nlF false r := rfl
theorem nl_10t (r : List Nat) : nlF true (10 :: r) = nlF false r := rfl
theorem nl_el (cr : Bool) {c : Nat} (r : List Nat) (h1 : c ≠ 13) (h2 : c ≠ 10) : nlF cr (c :: r) = c :: nlF false r := by
  show (if c = 13 then _ else if c = 10 then _ else _) = _
  rw [if_neg h1, if_neg h2]
theorem put_hit (c : Nat) (z r : List Nat) : putF c z (c :: r) = z ++ putF c z r := by
  show (if c = c then z else [c]) ++ putF c z r = _
  rw [if_pos rfl]
theorem put_no {c d : Nat} (z r : List Nat) (h : d ≠ c) : putF c z (d :: r) = d :: putF c z r := by
  show (if d = c then z else [d]) ++ putF c z r = _
  rw [if_neg h]; rfl
theorem crlf_nl : ∀ (cr : Bool) (l : List Nat), crlfF cr l = putF 10 [13, 10] (nlF cr l)
  | _, [] => rfl
  | cr, c :: r => by
    by_cases h1 : c = 13
    · subst h1
      rw [nl_13, put_hit]
      show 13 :: 10 :: crlfF true r = _
      rw [crlf_nl true r]; rfl
    · by_cases h2 : c = 10
      · subst h2
        cases cr with
        | true =>
          rw [nl_10t]
          show crlfF false r = _
          exact crlf_nl false r
        | false =>
          rw [nl_10f, put_hit]
          show 13 :: 10 :: crlfF false r = _
          rw [crlf_nl false r]; rfl
      · rw [nl_el cr r h1 h2, put_no _ _ h2]
        show (if c = 13 then _ else if c = 10 then _ else c :: crlfF false r) = _
        rw [if_neg h1, if_neg h2, crlf_nl false r]
theorem nl_no13 : ∀ (cr : Bool) (l : List Nat), 13 ∉ nlF cr l
  | _, [] => by simp [nlF]
  | cr, c :: r => by
    by_cases h1 : c = 13
    · subst h1
      rw [nl_13]
      have := nl_no13 true r
      simp [this]
    · by_cases h2 : c = 10
      · subst h2
        cases cr with
        | true => rw [nl_10t]; exact nl_no13 false r
        | false =>
          rw [nl_10f]
          have := nl_no13 false r
          simp [this]
      · rw [nl_el cr r h1 h2]
        have := nl_no13 false r
        simp [this]
        (first | lia | omega)
theorem nl_cr (cr : Bool) (l : List Nat) (h : l.head? ≠ some 10) : nlF cr l = nlF false l := by
  cases l with
  | nil => rfl
  | cons c r =>
    have h2 : c ≠ 10 := fun e => h (by rw [e]; rfl)
    by_cases h1 : c = 13
    · subst h1; rfl
    · rw [nl_el cr r h1 h2, nl_el false r h1 h2]
theorem nl_app : ∀ (cr : Bool) (a b : List Nat), b.head? ≠ some 10 → nlF cr (a ++ b) = nlF cr a ++ nlF false b
  | cr, [], b, h => nl_cr cr b h
  | cr, c :: r, b, h => by
    show nlF cr (c :: (r ++ b)) = _
    by_cases h1 : c = 13
    · subst h1
      rw [nl_13, nl_13, nl_app true r b h]; rfl
    · by_cases h2 : c = 10
      · subst h2
        cases cr with
        | true => rw [nl_10t, nl_10t, nl_app false r b h]
        | false => rw [nl_10f, nl_10f, nl_app false r b h]; rfl
      · rw [nl_el cr _ h1 h2, nl_el cr _ h1 h2, nl_app false r b h]; rfl
theorem nl_same : ∀ (a b : List Nat), 13 ∉ a → 10 ∉ a → nlF false (a ++ b) = a ++ nlF false b
  | [], _, _, _ => rfl
  | c :: r, b, h1, h2 => by
    have e1 : c ≠ 13 := fun e => h1 (e ▸ List.mem_cons_self ..)
    have e2 : c ≠ 10 := fun e => h2 (e ▸ List.mem_cons_self ..)
    show nlF false (c :: (r ++ b)) = c :: (r ++ nlF false b)
    rw [nl_el false _ e1 e2, nl_same r b (fun m => h1 (List.mem_cons_of_mem _ m)) fun m => h2 (List.mem_cons_of_mem _ m)]
theorem nl_same0 (a : List Nat) (h1 : 13 ∉ a) (h2 : 10 ∉ a) : nlF false a = a := by
  have := nl_same a [] h1 h2
  simpa [nlF] using this
noncomputable def apoZ : List Nat := [39, 34, 39, 34, 39]
theorem nl_put : ∀ (cr : Bool) (l : List Nat), nlF cr (putF 39 apoZ l) = putF 39 apoZ (nlF cr l)
  | _, [] => rfl
  | cr, c :: r => by
    by_cases h1 : c = 13
    · subst h1
      rw [put_no _ _ (by decide), nl_13, nl_13, put_no _ _ (by decide), nl_put true r]
    · by_cases h2 : c = 10
      · subst h2
        rw [put_no _ _ (by decide)]
        cases cr with
        | true => rw [nl_10t, nl_10t, nl_put false r]
        | false => rw [nl_10f, nl_10f, put_no _ _ (by decide), nl_put false r]
      · rw [nl_el cr r h1 h2]
        by_cases h3 : c = 39
        · subst h3
          rw [put_hit, put_hit]
          show nlF cr (39 :: 34 :: 39 :: 34 :: 39 :: putF 39 apoZ r) = 39 :: 34 :: 39 :: 34 :: 39 :: putF 39 apoZ (nlF false r)
          rw [nl_el cr _ (by decide) (by decide), nl_el false _ (by decide) (by decide), nl_el false _ (by decide) (by decide), nl_el false _ (by decide) (by decide), nl_el false _ (by decide) (by decide), nl_put false r]
        · rw [put_no _ _ h3, put_no _ _ h3, nl_el cr _ h1 h2, nl_put false r]
noncomputable def quoteL (bad : Nat → Bool) (l : List Nat) : List Nat := if l = [] then [39, 39] else if l.any bad = true then 39 :: (putF 39 apoZ l ++ [39]) else l
section
variable {bad : Nat → Bool} (b13 : bad 13 = true) (b10 : bad 10 = true)
include b13 b10
theorem nl_bad : ∀ (cr : Bool) (l : List Nat), ((nlF cr l).any bad || cr) = (l.any bad || cr)
  | _, [] => rfl
  | cr, c :: r => by
    by_cases h1 : c = 13
    · subst h1
      rw [nl_13, List.any_cons, List.any_cons, b13, b10]; rfl
    · by_cases h2 : c = 10
      · subst h2
        cases cr with
        | true => simp
        | false => rw [nl_10f, List.any_cons, List.any_cons, b10]; rfl
      · rw [nl_el cr r h1 h2, List.any_cons, List.any_cons]
        have := nl_bad false r
        rw [Bool.or_false, Bool.or_false] at this
        rw [this]
theorem nl_bad0 (l : List Nat) : (nlF false l).any bad = l.any bad := by
  have := nl_bad b13 b10 false l
  rwa [Bool.or_false, Bool.or_false] at this
theorem nl_quote (l : List Nat) : nlF false (quoteL bad l) = quoteL bad (nlF false l) := by
  cases l with
  | nil => rfl
  | cons c r =>
    have hne : nlF false (c :: r) ≠ [] := by
      by_cases h1 : c = 13
      · subst h1; rw [nl_13]; exact List.cons_ne_nil _ _
      · by_cases h2 : c = 10
        · subst h2; rw [nl_10f]; exact List.cons_ne_nil _ _
        · rw [nl_el _ r h1 h2]; exact List.cons_ne_nil _ _
    unfold quoteL
    rw [if_neg (List.cons_ne_nil _ _), if_neg hne, nl_bad0 b13 b10]
    by_cases hb : (c :: r).any bad = true
    · rw [if_pos hb, if_pos hb, nl_el false _ (by decide) (by decide), nl_app false _ [39] (by decide), nl_put]
      rfl
    · rw [if_neg hb, if_neg hb]
end
noncomputable def rowL (bad : Nat → Bool) (p : List Nat × List Nat) : List Nat := quoteL bad p.1 ++ (32 :: (p.2 ++ [10]))
noncomputable def textL (bad : Nat → Bool) (fs : List (List Nat × List Nat)) : List Nat := fs.flatMap (rowL bad)
theorem text_cons (bad : Nat → Bool) (p : List Nat × List Nat) (r : List (List Nat × List Nat)) : textL bad (p :: r) = quoteL bad p.1 ++ (32 :: (p.2 ++ (10 :: textL bad r))) := by
  show rowL bad p ++ textL bad r = _
  unfold rowL
  simp
noncomputable def nlP (p : List Nat × List Nat) : List Nat × List Nat := (nlF false p.1, p.2)
theorem nl_text {bad : Nat → Bool} (b13 : bad 13 = true) (b10 : bad 10 = true) : ∀ fs : List (List Nat × List Nat), (∀ p ∈ fs, 13 ∉ p.2 ∧ 10 ∉ p.2) → nlF false (textL bad fs) = textL bad (fs.map nlP)
  | [], _ => rfl
  | p :: r, h => by
    have hp := h p (List.mem_cons_self ..)
    have ih := nl_text b13 b10 r fun q hq => h q (List.mem_cons_of_mem _ hq)
    rw [text_cons, List.map_cons, text_cons, nl_app false _ _ (by show some 32 ≠ some 10; decide), nl_quote b13 b10, nl_el false _ (by decide) (by decide), nl_same _ _ hp.1 hp.2, nl_10f, ih]
    rfl
theorem nl_text_init {bad : Nat → Bool} (b13 : bad 13 = true) (b10 : bad 10 = true) : ∀ fs : List (List Nat × List Nat), (∀ p ∈ fs, 13 ∉ p.2 ∧ 10 ∉ p.2) → nlF false (textL bad fs).dropLast = (textL bad (fs.map nlP)).dropLast
  | [], _ => rfl
  | [p], h => by
    have hp := h p (List.mem_cons_self ..)
    have e : ∀ q : List Nat × List Nat, textL bad [q] = (quoteL bad q.1 ++ (32 :: q.2)) ++ [10] := fun q => by rw [text_cons]; simp [textL]
    rw [List.map_cons, List.map_nil, e, e, List.dropLast_concat, List.dropLast_concat, nl_app false _ _ (by show some 32 ≠ some 10; decide), nl_quote b13 b10, nl_el false _ (by decide) (by decide), nl_same0 _ hp.1 hp.2]
    rfl
  | p :: q :: r, h => by
    have hp := h p (List.mem_cons_self ..)
    have ih := nl_text_init b13 b10 (q :: r) fun q hq => h q (List.mem_cons_of_mem _ hq)
    have ne : ∀ (q : List Nat × List Nat) r, textL bad (q :: r) ≠ [] := fun q r => by rw [text_cons]; simp
    have e : ∀ (p q : List Nat × List Nat) r, (textL bad (p :: q :: r)).dropLast = quoteL bad p.1 ++ (32 :: (p.2 ++ (10 :: (textL bad (q :: r)).dropLast))) := fun p q r => by
      rw [text_cons, List.dropLast_append_of_ne_nil (by simp), List.dropLast_cons_of_ne_nil (by simp), List.dropLast_append_of_ne_nil (by simp), List.dropLast_cons_of_ne_nil (ne q r)]
    rw [List.map_cons, List.map_cons, e, e, nl_app false _ _ (by show some 32 ≠ some 10; decide), nl_quote b13 b10, nl_el false _ (by decide) (by decide), nl_same _ _ hp.1 hp.2, nl_10f, ih]
    rfl
noncomputable def dotRow (l : List Nat) : List Nat := if l.head? = some 46 then 46 :: l else l
theorem dotF_cons (st : Bool) (c : Nat) (r : List Nat) : dotF st (c :: r) = (if st = true ∧ c = 46 then [46, 46] else [c]) ++ dotF (c == 10) r := rfl
theorem dot_off (c : Nat) (r : List Nat) : dotF false (c :: r) = c :: dotF (c == 10) r := by
  rw [dotF_cons, if_neg (fun h => Bool.false_ne_true h.1)]; rfl
theorem dot_line : ∀ (x r : List Nat), 10 ∉ x → dotF false (x ++ (13 :: 10 :: r)) = x ++ (13 :: 10 :: dotF true r)
  | [], r, _ => rfl
  | c :: x, r, h => by
    have hc : c ≠ 10 := fun e => h (e ▸ List.mem_cons_self ..)
    show dotF false (c :: (x ++ _)) = c :: (x ++ _)
    rw [dot_off, beq_eq_false_iff_ne.mpr hc, dot_line x r fun m => h (List.mem_cons_of_mem _ m)]
theorem dot_last : ∀ (x : List Nat), 10 ∉ x → dotF false x = x
  | [], _ => rfl
  | c :: x, h => by
    have hc : c ≠ 10 := fun e => h (e ▸ List.mem_cons_self ..)
    rw [dot_off, beq_eq_false_iff_ne.mpr hc, dot_last x fun m => h (List.mem_cons_of_mem _ m)]
theorem dot_head (c : Nat) (r : List Nat) (hc : c ≠ 10) (z : List Nat) (hz : dotF false r = z) : dotF true (c :: r) = dotRow [c] ++ z := by
  rw [dotF_cons, beq_eq_false_iff_ne.mpr hc, hz]
  unfold dotRow
  by_cases h : c = 46
  · rw [if_pos ⟨rfl, h⟩, h]; rfl
  · rw [if_neg (fun q => h q.2), if_neg (by simpa using h)]
theorem dotRow_cons (c : Nat) (r : List Nat) : dotRow (c :: r) = dotRow [c] ++ r := by
  unfold dotRow
  show (if some c = some 46 then _ else _) = (if some c = some 46 then _ else _) ++ r
  split <;> rfl
theorem dot_line1 (x r : List Nat) (h : 10 ∉ x) : dotF true (x ++ (13 :: 10 :: r)) = dotRow x ++ (13 :: 10 :: dotF true r) := by
  cases x with
  | nil => rfl
  | cons c x =>
    have hc : c ≠ 10 := fun e => h (e ▸ List.mem_cons_self ..)
    rw [List.cons_append, dot_head c _ hc _ (dot_line x r fun m => h (List.mem_cons_of_mem _ m)), dotRow_cons c x, List.append_assoc]
theorem dot_last1 (x : List Nat) (h : 10 ∉ x) : dotF true x = dotRow x := by
  cases x with
  | nil => rfl
  | cons c x =>
    have hc : c ≠ 10 := fun e => h (e ▸ List.mem_cons_self ..)
    rw [dot_head c _ hc _ (dot_last x fun m => h (List.mem_cons_of_mem _ m)), dotRow_cons c x]
theorem joinL_cons (sep x y : List Nat) (r : List (List Nat)) : joinL sep (x :: y :: r) = x ++ (sep ++ joinL sep (y :: r)) := by
  show x ++ sep ++ joinL sep (y :: r) = _
  rw [List.append_assoc]
theorem dot_rows : ∀ (x : List Nat) (r : List (List Nat)), (∀ l ∈ x :: r, 10 ∉ l) → dotF true (joinL [13, 10] (x :: r)) = joinL [13, 10] ((x :: r).map dotRow)
  | x, [], h => dot_last1 x (h x (List.mem_cons_self ..))
  | x, y :: r, h => by
    have ih := dot_rows y r fun l hl => h l (List.mem_cons_of_mem _ hl)
    rw [joinL_cons, List.map_cons, List.map_cons, joinL_cons]
    show dotF true (x ++ (13 :: 10 :: joinL [13, 10] (y :: r))) = _
    rw [dot_line1 x _ (h x (List.mem_cons_self ..)), ih]; rfl
noncomputable def rowsL : List Nat → List Nat × List (List Nat)
  | [] => ([], [])
  | c :: r => if c = 10 then ([], (rowsL r).1 :: (rowsL r).2) else (c :: (rowsL r).1, (rowsL r).2)
theorem rowsL_el {c : Nat} (r : List Nat) (h : c ≠ 10) : rowsL (c :: r) = (c :: (rowsL r).1, (rowsL r).2) := if_neg h
theorem rows_join (sep : List Nat) : ∀ l : List Nat, joinL sep ((rowsL l).1 :: (rowsL l).2) = putF 10 sep l
  | [] => rfl
  | c :: r => by
    have ih := rows_join sep r
    by_cases h : c = 10
    · subst h
      rw [put_hit, ← ih]
      show joinL sep ([] :: (rowsL r).1 :: (rowsL r).2) = _
      rw [joinL_cons]; rfl
    · rw [put_no _ _ h, ← ih, rowsL_el r h]
      dsimp only
      cases (rowsL r).2 with
      | nil => rfl
      | cons a b => show joinL sep ((c :: (rowsL r).1) :: a :: b) = _; rw [joinL_cons, joinL_cons]; rfl
theorem rows_same (l : List Nat) : joinL [10] ((rowsL l).1 :: (rowsL l).2) = l := by
  rw [rows_join]
  induction l with
  | nil => rfl
  | cons c r ih =>
    by_cases h : c = 10
    · subst h; rw [put_hit, ih]; rfl
    · rw [put_no _ _ h, ih]
theorem rows_mem : ∀ (l : List Nat), ∀ x ∈ (rowsL l).1 :: (rowsL l).2, 10 ∉ x ∧ ∀ c ∈ x, c ∈ l
  | [], x, hx => by
    have : x = [] := by simpa [rowsL] using hx
    subst this
    exact ⟨List.not_mem_nil, fun c h => absurd h List.not_mem_nil⟩
  | c :: r, x, hx => by
    have ih := rows_mem r
    by_cases h : c = 10
    · subst h
      have hx' : x ∈ [] :: (rowsL r).1 :: (rowsL r).2 := hx
      rcases List.mem_cons.mp hx' with rfl | hx'
      · exact ⟨List.not_mem_nil, fun c h => absurd h List.not_mem_nil⟩
      · exact ⟨(ih x hx').1, fun d hd => List.mem_cons_of_mem _ ((ih x hx').2 d hd)⟩
    · rw [rowsL_el r h] at hx
      dsimp only at hx
      rcases List.mem_cons.mp hx with rfl | hx'
      · have h1 := ih _ (List.mem_cons_self ..)
        refine ⟨fun m => ?_, fun d hd => ?_⟩
        · rcases List.mem_cons.mp m with e | m
          · exact h e.symm
          · exact h1.1 m
        · rcases List.mem_cons.mp hd with e | hd
          · rw [e]; exact List.mem_cons_self ..
          · exact List.mem_cons_of_mem _ (h1.2 d hd)
      · exact ⟨(ih x (List.mem_cons_of_mem _ hx')).1, fun d hd => List.mem_cons_of_mem _ ((ih x (List.mem_cons_of_mem _ hx')).2 d hd)⟩
noncomputable def wireL (t : List Nat) : List Nat := dotF true (putF 10 [13, 10] t)
noncomputable def wireRows (t : List Nat) : List (List Nat) := ((rowsL t).1 :: (rowsL t).2).map dotRow
theorem wire_rows (t : List Nat) : wireL t = joinL [13, 10] (wireRows t) := by
  unfold wireL wireRows
  rw [← rows_join [13, 10] t]
  exact dot_rows _ _ fun l hl => (rows_mem t l hl).1
theorem dotRow_free (l : List Nat) (k : Nat) (hk : k ≠ 46) (h : k ∉ l) : k ∉ dotRow l := by
  unfold dotRow
  split
  · intro m
    rcases List.mem_cons.mp m with e | m
    · exact hk e
    · exact h m
  · exact h
theorem wireRows_free {t : List Nat} (h13 : 13 ∉ t) : ∀ l ∈ wireRows t, 13 ∉ l ∧ 10 ∉ l := by
  intro l hl
  obtain ⟨x, hx, rfl⟩ := List.mem_map.mp hl
  have := rows_mem t x hx
  exact ⟨dotRow_free x 13 (by decide) fun m => h13 (this.2 13 m), dotRow_free x 10 (by decide) this.1⟩
theorem count_join (k : Nat) (sep : List Nat) (hs : sep.count k = 1) : ∀ (x : List Nat) (r : List (List Nat)), (∀ l ∈ x :: r, k ∉ l) → (joinL sep (x :: r)).count k = r.length
  | x, [], h => List.count_eq_zero.mpr (h x (List.mem_cons_self ..))
  | x, y :: r, h => by
    rw [joinL_cons, List.count_append, List.count_append, hs, List.count_eq_zero.mpr (h x (List.mem_cons_self ..)), count_join k sep hs y r fun l hl => h l (List.mem_cons_of_mem _ hl), List.length_cons]
    (first | lia | omega)
theorem wire_count {t : List Nat} (h13 : 13 ∉ t) (k : Nat) (hk : k = 13 ∨ k = 10) : (wireL t).count k = t.count 10 := by
  have e1 : (wireL t).count k = (rowsL t).2.length := by
    rw [wire_rows]
    show (joinL [13, 10] (dotRow (rowsL t).1 :: (rowsL t).2.map dotRow)).count k = _
    rw [count_join k [13, 10] (by rcases hk with rfl | rfl <;> rfl), List.length_map]
    intro l hl
    have := wireRows_free h13 l hl
    rcases hk with rfl | rfl
    · exact this.1
    · exact this.2
  have e2 : t.count 10 = (rowsL t).2.length := by
    have := count_join 10 [10] rfl (rowsL t).1 (rowsL t).2 fun l hl => (rows_mem t l hl).1
    rwa [rows_same] at this
  rw [e1, e2]
noncomputable def undot (l : List Nat) : List Nat := if l.head? = some 46 then l.tail else l
theorem undot_dot (l : List Nat) : undot (dotRow l) = l := by
  unfold dotRow
  by_cases h : l.head? = some 46
  · rw [if_pos h]; rfl
  · rw [if_neg h]; unfold undot; rw [if_neg h]
theorem come_rows (t : List Nat) : joinL [10] ((wireRows t).map undot) = t := by
  unfold wireRows
  rw [List.map_map]
  have : undot ∘ dotRow = id := funext undot_dot
  rw [this, List.map_id, rows_same]
theorem dotRow_two (l : List Nat) (h : (dotRow l).head? = some 46) : (dotRow l).take 2 = [46, 46] := by
  unfold dotRow at h ⊢
  by_cases h1 : l.head? = some 46
  · rw [if_pos h1]
    cases l with
    | nil => cases h1
    | cons c r => have : c = 46 := by simpa using h1
                  subst this; rfl
  · rw [if_neg h1] at h; exact absurd h h1
theorem joinL_inj (k : Nat) (sep : List Nat) (sep' : List Nat) (hs : sep = k :: sep') : ∀ (a : List (List Nat)) (b : List (List Nat)), a ≠ [] → b ≠ [] → (∀ l ∈ a, k ∉ l) → (∀ l ∈ b, k ∉ l) → joinL sep a = joinL sep b → a = b := by
  have cut : ∀ (x y u v : List Nat), k ∉ x → k ∉ y → x ++ k :: u = y ++ k :: v → x = y ∧ u = v := by
    intro x
    induction x with
    | nil =>
      intro y u v _ hy e
      cases y with
      | nil => exact ⟨rfl, by simpa using e⟩
      | cons c y => 
        have : k = c := by injection e
        exact absurd (this ▸ List.mem_cons_self ..) hy
    | cons c x ih =>
      intro y u v hx hy e
      cases y with
      | nil =>
        have : c = k := by injection e
        exact absurd (this ▸ List.mem_cons_self ..) hx
      | cons d y =>
        injection e with e1 e2
        obtain ⟨rfl, rfl⟩ := ih y u v (fun m => hx (List.mem_cons_of_mem _ m)) (fun m => hy (List.mem_cons_of_mem _ m)) e2
        exact ⟨by rw [e1], rfl⟩
  intro a
  induction a with
  | nil => intro b h; exact absurd rfl h
  | cons x a ih =>
    intro b _ hb ha hbk e
    cases b with
    | nil => exact absurd rfl hb
    | cons y b =>
      have hx := ha x (List.mem_cons_self ..)
      have hy := hbk y (List.mem_cons_self ..)
      cases a with
      | nil =>
        cases b with
        | nil => show [x] = [y]; rw [show x = y from e]
        | cons z b =>
          rw [joinL_cons, hs] at e
          have e' : x = y ++ k :: (sep' ++ joinL (k :: sep') (z :: b)) := e
          exact absurd (by rw [e']; simp) hx
      | cons z a =>
        cases b with
        | nil =>
          rw [joinL_cons, hs] at e
          have e' : x ++ k :: (sep' ++ joinL (k :: sep') (z :: a)) = y := e
          exact absurd (by rw [← e']; simp) hy
        | cons z' b =>
          rw [joinL_cons, joinL_cons, hs] at e
          obtain ⟨rfl, e2⟩ := cut x y _ _ hx hy e
          have e3 : joinL sep (z :: a) = joinL sep (z' :: b) := by
            rw [hs]
            exact List.append_cancel_left e2
          rw [ih (z' :: b) (List.cons_ne_nil _ _) (List.cons_ne_nil _ _) (fun l hl => ha l (List.mem_cons_of_mem _ hl)) (fun l hl => hbk l (List.mem_cons_of_mem _ hl)) e3]
theorem wire_init {t u : List Nat} (e : t = u ++ [10]) : wireL t = wireL u ++ [13, 10] := by
  have snoc : ∀ (st : Bool) (x : List Nat), dotF st (x ++ [13, 10]) = dotF st x ++ [13, 10] := by
    intro st x
    induction x generalizing st with
    | nil =>
      show dotF st [13, 10] = [13, 10]
      rw [dotF_cons, if_neg (fun h => by have := h.2; (first | lia | omega)), dotF_cons, if_neg (fun h => by have := h.2; (first | lia | omega))]; rfl
    | cons c r ih => rw [List.cons_append, dotF_cons, dotF_cons, ih, List.append_assoc]
  unfold wireL
  rw [e, putF_app]
  exact snoc true _
theorem count_put (l : List Nat) : (putF 39 apoZ l).count 10 = l.count 10 := by
  induction l with
  | nil => rfl
  | cons c r ih =>
    by_cases h : c = 39
    · subst h
      rw [put_hit, List.count_append, ih, List.count_cons_of_ne (by decide)]
      show 0 + _ = _
      (first | lia | omega)
    · rw [put_no _ _ h, List.count_cons, List.count_cons, ih]
theorem count_quote (bad : Nat → Bool) (l : List Nat) : (quoteL bad l).count 10 = l.count 10 := by
  unfold quoteL
  split
  · rename_i h; rw [h]; rfl
  · split
    · rw [List.count_cons_of_ne (by decide), List.count_append, count_put]; rfl
    · rfl
theorem count_text (bad : Nat → Bool) : ∀ fs : List (List Nat × List Nat), (∀ p ∈ fs, 10 ∉ p.2) → (textL bad fs).count 10 = (fs.map fun p => p.1.count 10 + 1).sum
  | [], _ => rfl
  | p :: r, h => by
    rw [text_cons, List.count_append, List.count_cons_of_ne (by decide), List.count_append, List.count_cons_self, count_quote, count_text bad r fun q hq => h q (List.mem_cons_of_mem _ hq), List.count_eq_zero.mpr (h p (List.mem_cons_self ..)), List.map_cons, List.sum_cons]
    (first | lia | omega)
end Mine
end
section
open PySem PySem.W PyProof.Rows
set_option maxRecDepth 100000
set_option maxHeartbeats 8000000
set_option linter.unusedVariables false
namespace Mine
theorem findFrom_isSome (p : Nat → Bool) : ∀ (n s : Nat), (findFrom p n s).isSome = (List.range' s n).any p
  | 0, _ => rfl
  | n + 1, s => by
    rw [List.range'_succ, List.any_cons]
    show (if p s = true then some s else findFrom p n (s + 1)).isSome = _
    by_cases h : p s = true
    · rw [if_pos h, h]; rfl
    · rw [if_neg h, findFrom_isSome p n (s + 1), Bool.eq_false_iff.mpr h]; rfl
theorem badS_any (x : Str) : badS x = (li x).any badC := by
  unfold badS
  rw [findFrom_isSome]
  have e : li x = (List.range' 0 x.cps.size).map (fun i => x.cps.getD i 0) := by
    unfold li
    apply List.ext_getElem
    · simp
    · intro i h1 h2
      have : i < x.cps.size := by simpa using h1
      simp [Array.getD, this]
  rw [e, List.any_map]
  rfl
theorem li_quoteS (x : Str) : li (quoteS x) = quoteL badC (li x) := by
  have h0 : (x.length = 0) = (li x = []) := by
    rw [← li_len]; exact propext List.length_eq_zero_iff
  unfold quoteS quoteL
  simp only [h0]
  split
  · decide +kernel
  · rw [badS_any]
    split
    · rw [li_app, li_app, li_rep, show li apo = [39] by decide +kernel]
      rfl
    · rfl
noncomputable def nameA : List Nat := [97, 46, 10, 13, 39, 32, 98]
noncomputable def digA : List Nat := [48, 49, 50, 51, 52, 53, 54, 55]
theorem octN_digA (v : Int) : ∀ c ∈ octN v, c ∈ digA := fun c hc => by
  show c ∈ List.range' 48 8
  exact List.mem_range'_1.mpr (octN_oct v c hc)
theorem dig_good : ∀ c ∈ digA, badC c = false := by decide +kernel
theorem quote_oct (v : Int) : quoteL badC (octN v) = octN v := by
  unfold quoteL
  rw [if_neg (show octN v ≠ [] from List.cons_ne_nil _ _), if_neg]
  intro h
  obtain ⟨c, hc, hb⟩ := List.any_eq_true.mp h
  rw [dig_good c (octN_digA v c hc)] at hb
  cases hb
noncomputable def pairN (p : Str × Int) : List Nat × List Nat := (li p.1, octN p.2)
theorem li_rowS (x : Str) (b : Int) : li (rowS x b) = rowL badC (li x, octN b) := by
  unfold rowS rowL
  rw [li_app, li_app, li_app, li_quoteS, li_quoteS, li_octS, quote_oct, show li (Str.ofString " ") = [32] by decide +kernel, show li (Str.ofString "\n") = [10] by decide +kernel]
  simp
theorem li_textS (fs : List (Str × Int)) : li (textS fs) = textL badC (fs.map pairN) := by
  unfold textS textL
  rw [li_join0, List.map_map, List.flatMap_map]
  rw [List.flatMap_def]
  congr 1
  apply List.map_congr_left
  intro p _
  exact li_rowS p.1 p.2
theorem li_qdS (x : Str) : li (qdS x) = wireL (nlF false (li x)) := by
  unfold qdS wireL
  rw [li_dotS, li_crlfS, crlf_nl]
theorem bad_13 : badC 13 = true := by decide +kernel
theorem bad_10 : badC 10 = true := by decide +kernel
noncomputable def plainF : List Nat → List Nat
  | [] => []
  | c :: r => if c = 13 then (if r.head? = some 10 then plainF r else 10 :: plainF r) else c :: plainF r
theorem plain_nl : ∀ l : List Nat, plainF l = nlF false l
  | [] => rfl
  | c :: r => by
    have ih := plain_nl r
    unfold plainF
    by_cases h : c = 13
    · subst h
      rw [if_pos rfl, nl_13]
      by_cases h2 : r.head? = some 10
      · rw [if_pos h2, ih]
        cases r with
        | nil => cases h2
        | cons d r =>
          have : d = 10 := by simpa using h2
          subst this
          rfl
      · rw [if_neg h2, ih, nl_cr true r h2]
    · rw [if_neg h, ih]
      by_cases h2 : c = 10
      · subst h2; rfl
      · rw [nl_el false r h h2]
end Mine
end
section
open PySem PySem.W PyProof.Rows PySem.Builtin PySem.Builtin.Str
set_option maxRecDepth 100000
set_option maxHeartbeats 8000000
set_option linter.unusedVariables false
namespace Mine
theorem idx_clip_hi (l : Option Int) (j j' : Int) (n : Nat) (h : max 0 (min (if j < 0 then j + n else j) (n : Int)) = max 0 (min (if j' < 0 then j' + n else j') (n : Int))) : strSliceIndices l (some j) 1 n = strSliceIndices l (some j') 1 n := by
  unfold strSliceIndices
  dsimp only
  have e1 : (1 : Int) > 0 := by decide
  simp only [e1, if_true, h]
theorem idx_clip_lo (u : Option Int) (j j' : Int) (n : Nat) (h : max 0 (min (if j < 0 then j + n else j) (n : Int)) = max 0 (min (if j' < 0 then j' + n else j') (n : Int))) : strSliceIndices (some j) u 1 n = strSliceIndices (some j') u 1 n := by
  unfold strSliceIndices
  dsimp only
  have e1 : (1 : Int) > 0 := by decide
  simp only [e1, if_true, h]
theorem clipN (j n : Nat) : max 0 (min (if (j : Int) < 0 then (j : Int) + n else (j : Int)) (n : Int)) = ((min j n : Nat) : Int) := by
  rw [if_neg (Int.not_lt.mpr (Int.natCast_nonneg j))]
  rcases Nat.le_total j n with h | h
  · rw [Nat.min_eq_left h, Int.min_eq_left (Int.ofNat_le.mpr h), Int.max_eq_right (Int.natCast_nonneg _)]
  · rw [Nat.min_eq_right h, Int.min_eq_right (Int.ofNat_le.mpr h), Int.max_eq_right (Int.natCast_nonneg _)]
theorem clipM (k n : Nat) (hk : 0 < k) : max 0 (min (if (-(k : Int)) < 0 then -(k : Int) + n else -(k : Int)) (n : Int)) = ((n - k : Nat) : Int) := by
  rw [if_pos (by (first | lia | omega))]
  rcases Nat.le_total k n with h | h
  · rw [show -(k : Int) + n = ((n - k : Nat) : Int) by (first | lia | omega), Int.min_eq_left (Int.ofNat_le.mpr (Nat.sub_le n k)), Int.max_eq_right (Int.natCast_nonneg _)]
  · rw [Nat.sub_eq_zero_of_le h, Int.min_eq_left (by (first | lia | omega)), Int.max_eq_left (by (first | lia | omega))]; rfl
theorem li_slice (x : Str) {a b : Nat} (hab : a ≤ b) : li (Txt.slice x (some (a : Int)) (some (b : Int))) = ((li x).drop a).take (b - a) := by
  show li (StrLaws.sliceText x _ _) = _
  have cl : ∀ j : Nat, min (min j x.length) x.length = min j x.length := fun j => Nat.min_eq_left (Nat.min_le_right ..)
  have e : StrLaws.sliceText x (some (a : Int)) (some (b : Int)) = StrLaws.sliceText x (some ((min a x.length : Nat) : Int)) (some ((min b x.length : Nat) : Int)) := by
    unfold StrLaws.sliceText
    rw [idx_clip_lo (some (b : Int)) (a : Int) ((min a x.length : Nat) : Int) x.length (by rw [clipN, clipN, cl]), idx_clip_hi _ (b : Int) ((min b x.length : Nat) : Int) x.length (by rw [clipN, clipN, cl])]
  have hm : min a x.length ≤ min b x.length := Nat.le_min.mpr ⟨Nat.le_trans (Nat.min_le_left ..) hab, Nat.min_le_right ..⟩
  rw [e, StrLaws.sliceText_nat x hm (Nat.min_le_right ..)]
  show (x.cps.toList.drop (min a x.length)).take (min b x.length - min a x.length) = _
  have hn : x.length = (li x).length := (li_len x).symm
  show ((li x).drop (min a x.length)).take (min b x.length - min a x.length) = _
  rw [hn]
  rcases Nat.le_total a (li x).length with h1 | h1
  · rw [Nat.min_eq_left h1]
    rcases Nat.le_total b (li x).length with h2 | h2
    · rw [Nat.min_eq_left h2]
    · rw [Nat.min_eq_right h2, List.take_of_length_le (by rw [List.length_drop]; exact Nat.le_refl _), List.take_of_length_le (by rw [List.length_drop]; exact Nat.sub_le_sub_right h2 a)]
  · rw [Nat.min_eq_right h1, List.drop_of_length_le (Nat.le_refl _), List.drop_of_length_le h1, List.take_nil, List.take_nil]
theorem li_to (x : Str) (b : Nat) : li (Txt.slice x none (some (b : Int))) = (li x).take b := by
  have e : Txt.slice x none (some (b : Int)) = Txt.slice x (some ((0 : Nat) : Int)) (some (b : Int)) := by
    show StrLaws.sliceText x _ _ = StrLaws.sliceText x _ _
    unfold StrLaws.sliceText
    rw [StrLaws.sliceIdx_none_lo]; rfl
  rw [e, li_slice x (Nat.zero_le b)]; rfl
theorem li_from (x : Str) (a : Nat) : li (Txt.slice x (some (a : Int)) none) = (li x).drop a := by
  have e : Txt.slice x (some (a : Int)) none = Txt.slice x (some (a : Int)) (some ((max a x.length : Nat) : Int)) := by
    show StrLaws.sliceText x _ _ = StrLaws.sliceText x _ _
    unfold StrLaws.sliceText
    rw [StrLaws.sliceIdx_none_hi, idx_clip_hi _ (x.length : Int) ((max a x.length : Nat) : Int) x.length (by rw [clipN, clipN, Nat.min_self, Nat.min_eq_right (Nat.le_max_right ..)])]
  rw [e, li_slice x (Nat.le_max_left ..), List.take_of_length_le]
  rw [List.length_drop, li_len]
  exact Nat.sub_le_sub_right (Nat.le_max_right ..) a
theorem li_to_neg (x : Str) (k : Nat) (hk : 0 < k) : li (Txt.slice x none (some (-(k : Int)))) = (li x).take (x.length - k) := by
  have e : Txt.slice x none (some (-(k : Int))) = Txt.slice x none (some ((x.length - k : Nat) : Int)) := by
    show StrLaws.sliceText x _ _ = StrLaws.sliceText x _ _
    unfold StrLaws.sliceText
    rw [idx_clip_hi none (-(k : Int)) ((x.length - k : Nat) : Int) x.length (by rw [clipM k _ hk, clipN, Nat.min_eq_left (Nat.sub_le ..)])]
  rw [e, li_to]
theorem str_beq (a b : Str) : (a == b) = decide (li a = li b) := by
  by_cases h : a = b
  · subst h; simp
  · have h2 : ¬ li a = li b := fun e => h (li_inj e)
    rw [decide_eq_false h2, beq_eq_false_iff_ne]
    exact h
theorem li_item (x : Str) {k : Nat} (h : k < x.length) : li (Txt.item x (k : Int)) = [x.cps.getD k 0] := by
  have := eq_of_beq (item_closes (x := x) (i := (k : Int)) ⟨by (first | lia | omega), by (first | lia | omega)⟩)
  rw [this]
  rfl
theorem plain_inv (x : Str) : ∀ k, k ≤ x.length → li (plainP x k) ++ plainF ((li x).drop k) = plainF (li x)
  | 0, _ => by
    show li (Str.ofString "") ++ plainF ((li x).drop 0) = _
    rw [List.drop_zero, show li (Str.ofString "") = [] by decide +kernel]; rfl
  | k + 1, h => by
    have ih := plain_inv x k (by (first | lia | omega))
    have hk : k < x.length := h
    have ed : (li x).drop k = x.cps.getD k 0 :: (li x).drop (k + 1) := drop_at x.cps k hk
    rw [← ih, ed]
    have e13 : li (Str.ofString "\u000d") = [13] := by decide +kernel
    have e10 : li (Str.ofString "\n") = [10] := by decide +kernel
    have c1 : (Txt.item x (k : Int) != Str.ofString "\u000d") = !decide (x.cps.getD k 0 = 13) := by
      show (!(Txt.item x (k : Int) == Str.ofString "\u000d")) = _
      rw [str_beq, li_item x hk, e13]
      simp
    have c2 : (Txt.slice x (some ((k : Int) + 1)) (some ((k : Int) + 2)) != Str.ofString "\n") = !decide (((li x).drop (k + 1)).head? = some 10) := by
      show (!(Txt.slice x (some ((k : Int) + 1)) (some ((k : Int) + 2)) == Str.ofString "\n")) = _
      have : li (Txt.slice x (some ((k : Int) + 1)) (some ((k : Int) + 2))) = ((li x).drop (k + 1)).take 1 := by
        have := li_slice x (a := k + 1) (b := k + 2) (by (first | lia | omega))
        rw [show k + 2 - (k + 1) = 1 by (first | lia | omega)] at this
        exact this
      rw [str_beq, this, e10]
      cases (li x).drop (k + 1) <;> simp
    have eS : plainP x (k + 1) = (if (Txt.item x (k : Int) != Str.ofString "\u000d") = true then plainP x k ++ Txt.item x (k : Int) else if (Txt.slice x (some ((k : Int) + 1)) (some ((k : Int) + 2)) != Str.ofString "\n") = true then plainP x k ++ Str.ofString "\n" else plainP x k) := rfl
    rw [eS, c1]
    show _ = li (plainP x k) ++ (if x.cps.getD k 0 = 13 then (if ((li x).drop (k + 1)).head? = some 10 then plainF ((li x).drop (k + 1)) else 10 :: plainF ((li x).drop (k + 1))) else x.cps.getD k 0 :: plainF ((li x).drop (k + 1)))
    by_cases h1 : x.cps.getD k 0 = 13
    · rw [if_pos h1, decide_eq_true h1, if_neg (by simp), c2]
      by_cases h2 : ((li x).drop (k + 1)).head? = some 10
      · rw [if_pos h2, decide_eq_true h2, if_neg (by simp)]
      · rw [if_neg h2, decide_eq_false h2, if_pos (by simp), li_app, e10, List.append_assoc]; rfl
    · rw [if_neg h1, decide_eq_false h1, if_pos (by simp), li_app, li_item x hk, List.append_assoc]; rfl
theorem li_plainP (x : Str) : li (plainP x x.length) = nlF false (li x) := by
  have := plain_inv x x.length (Nat.le_refl _)
  rw [List.drop_of_length_le (by rw [li_len]; exact Nat.le_refl _)] at this
  rw [← plain_nl, ← this]
  show _ = _ ++ []
  rw [List.append_nil]
end Mine
end
section
open PySem PySem.W PyProof.Rows PySem.Builtin PySem.Builtin.Str
set_option maxRecDepth 100000
set_option maxHeartbeats 8000000
set_option linter.unusedVariables false
namespace Mine
theorem hit_in (v b : Int) {i : Nat} (hi : i ≠ 0) : hitF v i b = (Builtin.bitAnd v b == b) := by
  unfold hitF; rw [if_neg hi]
theorem char_one {v b : Int} {c : Str} {i : Nat} (hi : i ≠ 0) : charF v i [(b, c)] = if Builtin.bitAnd v b = b then c else Str.ofString "-" := by
  unfold charF
  rw [List.find?_cons, List.find?_nil]
  dsimp only
  rw [hit_in v b hi]
  by_cases h : Builtin.bitAnd v b = b
  · rw [if_pos h, show (Builtin.bitAnd v b == b) = true by simpa using h]
  · rw [if_neg h, show (Builtin.bitAnd v b == b) = false by simpa using h]
    exact if_neg hi
theorem char_three {v a b c : Int} {x y z : Str} {i : Nat} (hi : i ≠ 0) : charF v i [(a, x), (b, y), (c, z)] = if Builtin.bitAnd v a = a then x else if Builtin.bitAnd v b = b then y else if Builtin.bitAnd v c = c then z else Str.ofString "-" := by
  unfold charF
  rw [List.find?_cons, List.find?_cons, List.find?_cons, List.find?_nil]
  dsimp only
  rw [hit_in v a hi, hit_in v b hi, hit_in v c hi]
  by_cases h : Builtin.bitAnd v a = a
  · rw [if_pos h, show (Builtin.bitAnd v a == a) = true by simpa using h]
  · rw [if_neg h, show (Builtin.bitAnd v a == a) = false by simpa using h]
    dsimp only
    by_cases h : Builtin.bitAnd v b = b
    · rw [if_pos h, show (Builtin.bitAnd v b == b) = true by simpa using h]
    · rw [if_neg h, show (Builtin.bitAnd v b == b) = false by simpa using h]
      dsimp only
      by_cases h : Builtin.bitAnd v c = c
      · rw [if_pos h, show (Builtin.bitAnd v c == c) = true by simpa using h]
      · rw [if_neg h, show (Builtin.bitAnd v c == c) = false by simpa using h]
        exact if_neg hi
theorem one_eq {v b q j : Int} {c s : Str} {i : Nat} (hi : i ≠ 0) (hb : Builtin.bitAnd v b = q * b) (b0 : 0 < b) (hq : q = 0 ∨ q = 1) (hj : j = q) (h0 : Txt.item s 0 = Str.ofString "-") (h1 : Txt.item s 1 = c) : charF v i [(b, c)] = Txt.item s j := by
  rw [char_one hi, hb, hj]
  rcases hq with rfl | rfl
  · rw [if_neg (by (first | lia | omega)), h0]
  · rw [if_pos (by (first | lia | omega)), h1]
theorem three_eq {v a b c p q j : Int} {x y z s : Str} {i : Nat} (hi : i ≠ 0) (ha : Builtin.bitAnd v a = p * b + q * c) (ea : a = b + c) (hb : Builtin.bitAnd v b = p * b) (hc : Builtin.bitAnd v c = q * c) (b0 : 0 < b) (c0 : 0 < c) (hp : p = 0 ∨ p = 1) (hq : q = 0 ∨ q = 1) (hj : j = q + 2 * p)
    (h0 : Txt.item s 0 = Str.ofString "-") (h1 : Txt.item s 1 = z) (h2 : Txt.item s 2 = y) (h3 : Txt.item s 3 = x) : charF v i [(a, x), (b, y), (c, z)] = Txt.item s j := by
  rw [char_three hi, ha, hb, hc, hj, ea]
  rcases hp with rfl | rfl
  · rcases hq with rfl | rfl
    · rw [if_neg (by (first | lia | omega)), if_neg (by (first | lia | omega)), if_neg (by (first | lia | omega))]; exact h0.symm
    · rw [if_neg (by (first | lia | omega)), if_neg (by (first | lia | omega)), if_pos (by (first | lia | omega))]; exact h1.symm
  · rcases hq with rfl | rfl
    · rw [if_neg (by (first | lia | omega)), if_pos (by (first | lia | omega))]; exact h2.symm
    · rw [if_pos (by (first | lia | omega))]; exact h3.symm
theorem char_kind {v K : Int} {x y : Str} (h : Builtin.bitAnd v 61440 = K) (hx : charF K 0 [] = y → True) (hc : (match ([(40960, Str.ofString "l"), (49152, Str.ofString "s"), (32768, Str.ofString "-"), (24576, Str.ofString "b"), (16384, Str.ofString "d"), (8192, Str.ofString "c"), (4096, Str.ofString "p")] : List (Int × Str)).find? (fun q => K == q.1) with | some q => q.2 | none => Str.ofString "?") = x) : charF v 0 [(40960, Str.ofString "l"), (49152, Str.ofString "s"), (32768, Str.ofString "-"), (24576, Str.ofString "b"), (16384, Str.ofString "d"), (8192, Str.ofString "c"), (4096, Str.ofString "p")] = x := by
  unfold charF hitF
  simp only [if_true, h]
  exact hc
section
variable {v : Int} (h0 : 0 ≤ v) (h1 : v < 65536) (hk : v.fdiv 4096 ∈ [(8 : Int), 4, 10])
include h0 h1 hk
theorem kinds : v / 4096 = 8 ∨ v / 4096 = 4 ∨ v / 4096 = 10 := by
  rw [Int.fdiv_eq_ediv_of_nonneg _ (by decide)] at hk
  simpa using hk
theorem kind_char : charF v 0 [(40960, Str.ofString "l"), (49152, Str.ofString "s"), (32768, Str.ofString "-"), (24576, Str.ofString "b"), (16384, Str.ofString "d"), (8192, Str.ofString "c"), (4096, Str.ofString "p")] = rowK v := by
  have e := and_kind h0 h1
  unfold rowK
  rw [Int.fdiv_eq_ediv_of_nonneg _ (by decide)]
  rcases kinds h0 h1 hk with k | k | k <;> rw [k] at e ⊢
  · exact char_kind (y := Str.empty) e (fun _ => trivial) (by decide +kernel)
  · exact char_kind (y := Str.empty) e (fun _ => trivial) (by decide +kernel)
  · exact char_kind (y := Str.empty) e (fun _ => trivial) (by decide +kernel)
end
theorem fd (a : Int) {b : Int} (h : 0 ≤ b) : a.fdiv b = a / b := Int.fdiv_eq_ediv_of_nonneg _ h
theorem fm (a : Int) {b : Int} (h : 0 ≤ b) : a.fmod b = a % b := Int.fmod_eq_emod_of_nonneg _ h
theorem rw_0 (v : Int) : rowRW v 0 = charF v 1 [(256, Str.ofString "r")] ++ charF v 2 [(128, Str.ofString "w")] := by
  have e1 : ((v.fdiv (8 ^ (2 - 0))).fmod 8).fdiv 4 = v / 256 % 2 := by
    rw [fd v (by decide), fm _ (by decide), fd _ (by decide), fig_hi, dd v (by decide)]; rfl
  have e2 : (((v.fdiv (8 ^ (2 - 0))).fmod 8).fdiv 2).fmod 2 = v / 128 % 2 := by
    rw [fd v (by decide), fm _ (by decide), fd _ (by decide), fm _ (by decide), fig_mid, dd v (by decide)]; rfl
  unfold rowRW
  rw [one_eq (s := Str.ofString "-r") (by decide) (and_bit v 8 256 (by decide)) (by decide) (Int.emod_two_eq _) e1 (by decide +kernel) (by decide +kernel),
    one_eq (s := Str.ofString "-w") (by decide) (and_bit v 7 128 (by decide)) (by decide) (Int.emod_two_eq _) e2 (by decide +kernel) (by decide +kernel)]
theorem rw_1 (v : Int) : rowRW v 1 = charF v 4 [(32, Str.ofString "r")] ++ charF v 5 [(16, Str.ofString "w")] := by
  have e1 : ((v.fdiv (8 ^ (2 - 1))).fmod 8).fdiv 4 = v / 32 % 2 := by
    rw [fd v (by decide), fm _ (by decide), fd _ (by decide), fig_hi, dd v (by decide)]; rfl
  have e2 : (((v.fdiv (8 ^ (2 - 1))).fmod 8).fdiv 2).fmod 2 = v / 16 % 2 := by
    rw [fd v (by decide), fm _ (by decide), fd _ (by decide), fm _ (by decide), fig_mid, dd v (by decide)]; rfl
  unfold rowRW
  rw [one_eq (s := Str.ofString "-r") (by decide) (and_bit v 5 32 (by decide)) (by decide) (Int.emod_two_eq _) e1 (by decide +kernel) (by decide +kernel),
    one_eq (s := Str.ofString "-w") (by decide) (and_bit v 4 16 (by decide)) (by decide) (Int.emod_two_eq _) e2 (by decide +kernel) (by decide +kernel)]
theorem rw_2 (v : Int) : rowRW v 2 = charF v 7 [(4, Str.ofString "r")] ++ charF v 8 [(2, Str.ofString "w")] := by
  have e1 : ((v.fdiv (8 ^ (2 - 2))).fmod 8).fdiv 4 = v / 4 % 2 := by
    rw [fd v (by decide), fm _ (by decide), fd _ (by decide), fig_hi, dd v (by decide)]; rfl
  have e2 : (((v.fdiv (8 ^ (2 - 2))).fmod 8).fdiv 2).fmod 2 = v / 2 % 2 := by
    rw [fd v (by decide), fm _ (by decide), fd _ (by decide), fm _ (by decide), fig_mid, dd v (by decide)]; rfl
  unfold rowRW
  rw [one_eq (s := Str.ofString "-r") (by decide) (and_bit v 2 4 (by decide)) (by decide) (Int.emod_two_eq _) e1 (by decide +kernel) (by decide +kernel),
    one_eq (s := Str.ofString "-w") (by decide) (and_bit v 1 2 (by decide)) (by decide) (Int.emod_two_eq _) e2 (by decide +kernel) (by decide +kernel)]
theorem x_0 (v : Int) : rowX v 0 = charF v 3 [(2112, Str.ofString "s"), (2048, Str.ofString "S"), (64, Str.ofString "x")] := by
  have e1 : ((v.fdiv (8 ^ (2 - 0))).fmod 8).fmod 2 = v / 64 % 2 := by
    rw [fd v (by decide), fm _ (by decide), fm _ (by decide), fig_lo]; rfl
  have e2 : ((v.fdiv 512).fdiv (2 ^ (2 - 0))).fmod 2 = v / 2048 % 2 := by
    rw [fd v (by decide), fd _ (by decide), fm _ (by decide), dd v (by decide)]; rfl
  unfold rowX
  rw [if_neg (by decide), e1, e2]
  exact (three_eq (by decide) (and_2112 v) (by decide) (and_bit v 11 2048 (by decide)) (and_bit v 6 64 (by decide)) (by decide) (by decide) (Int.emod_two_eq _) (Int.emod_two_eq _) rfl (by decide +kernel) (by decide +kernel) (by decide +kernel) (by decide +kernel)).symm
theorem x_1 (v : Int) : rowX v 1 = charF v 6 [(1032, Str.ofString "s"), (1024, Str.ofString "S"), (8, Str.ofString "x")] := by
  have e1 : ((v.fdiv (8 ^ (2 - 1))).fmod 8).fmod 2 = v / 8 % 2 := by
    rw [fd v (by decide), fm _ (by decide), fm _ (by decide), fig_lo]; rfl
  have e2 : ((v.fdiv 512).fdiv (2 ^ (2 - 1))).fmod 2 = v / 1024 % 2 := by
    rw [fd v (by decide), fd _ (by decide), fm _ (by decide), dd v (by decide)]; rfl
  unfold rowX
  rw [if_neg (by decide), e1, e2]
  exact (three_eq (by decide) (and_1032 v) (by decide) (and_bit v 10 1024 (by decide)) (and_bit v 3 8 (by decide)) (by decide) (by decide) (Int.emod_two_eq _) (Int.emod_two_eq _) rfl (by decide +kernel) (by decide +kernel) (by decide +kernel) (by decide +kernel)).symm
theorem x_2 (v : Int) : rowX v 2 = charF v 9 [(513, Str.ofString "t"), (512, Str.ofString "T"), (1, Str.ofString "x")] := by
  have e1 : ((v.fdiv (8 ^ (2 - 2))).fmod 8).fmod 2 = v % 2 := by
    rw [fd v (by decide), fm _ (by decide), fm _ (by decide), fig_lo]; show v / 1 % 2 = _; rw [Int.ediv_one]
  have e2 : ((v.fdiv 512).fdiv (2 ^ (2 - 2))).fmod 2 = v / 512 % 2 := by
    rw [fd v (by decide), fd _ (by decide), fm _ (by decide), dd v (by decide)]; rfl
  have z1 : Builtin.bitAnd v 1 = (v % 2) * 1 := by have := and_bit v 0 1 (by decide); rwa [Int.ediv_one] at this
  have z2 : Builtin.bitAnd v 513 = (v / 512 % 2) * 512 + (v % 2) * 1 := by rw [and_513, Int.mul_one]
  unfold rowX
  rw [if_pos rfl, e1, e2]
  exact (three_eq (by decide) z2 (by decide) (and_bit v 9 512 (by decide)) z1 (by decide) (by decide) (Int.emod_two_eq _) (Int.emod_two_eq _) rfl (by decide +kernel) (by decide +kernel) (by decide +kernel) (by decide +kernel)).symm
theorem perm_row {v : Int} (h0 : 0 ≤ v) (h1 : v < 65536) (hk : v.fdiv 4096 ∈ [(8 : Int), 4, 10]) : permS v = rowP v 3 := by
  refine li_inj ?_
  have e : rowP v 3 = rowK v ++ rowRW v 0 ++ rowX v 0 ++ rowRW v 1 ++ rowX v 1 ++ rowRW v 2 ++ rowX v 2 := rfl
  rw [e, ← kind_char h0 h1 hk, rw_0, rw_1, rw_2, x_0, x_1, x_2]
  unfold permS
  rw [li_join0]
  simp only [tabsV, permL, List.map_cons, List.map_nil, List.flatten_cons, List.flatten_nil, li_app, List.append_assoc, List.append_nil]
theorem perm_signs (v : Int) : ∀ (tabs : List (List (Int × Str))) (k : Nat), (∀ ps ∈ tabs, ∀ q ∈ ps, PyData.strOk q.2 = true) → ∀ c ∈ permL v k tabs, PyData.strOk c = true
  | [], _, _, c, hc => absurd hc List.not_mem_nil
  | ps :: r, k, h, c, hc => by
    rcases List.mem_cons.mp hc with rfl | hc
    · unfold charF
      cases hf : ps.find? (fun q => hitF v k q.1) with
      | some q => exact h ps (.head _) q (List.mem_of_find?_eq_some hf)
      | none =>
        dsimp only
        split
        · decide +kernel
        · decide +kernel
    · exact perm_signs v r (k + 1) (fun p hp => h p (.tail _ hp)) c hc
theorem strOk_li (x : Str) : PyData.strOk x = true ↔ ∀ c ∈ li x, c < 0x110000 := by
  unfold PyData.strOk li
  rw [← Array.all_toList, List.all_eq_true]
  simp
theorem tabs_good : ∀ ps ∈ tabsV, ∀ q ∈ ps, PyData.strOk q.2 = true := by decide +kernel
theorem perm_ok (v : Int) : PyData.strOk (permS v) = true := by
  rw [strOk_li]
  unfold permS
  rw [li_join0]
  intro c hc
  obtain ⟨l, hl, hc⟩ := List.mem_flatten.mp hc
  obtain ⟨x, hx, rfl⟩ := List.mem_map.mp hl
  exact (strOk_li x).mp (perm_signs v tabsV 0 tabs_good x hx) c hc
end Mine
end
section
open PySem PySem.W PyProof.Rows PySem.Builtin PySem.Builtin.Str PySem.StrLaws
set_option maxRecDepth 100000
set_option maxHeartbeats 8000000
set_option linter.unusedVariables false
namespace Mine
theorem part_freeG {x sub : Str} {c : Nat} (hs : ∀ k : Nat, (li x)[k]? = some c → At x sub x.length k) {a b : Nat} (hn : ∀ k, a ≤ k → k < b → ¬ At x sub x.length k) : c ∉ li (strSub x a b) := by
  intro hm
  unfold li at hm
  rw [strSub_toList] at hm
  obtain ⟨j, hj⟩ := List.getElem?_of_mem hm
  have hlt : j < b - a := by
    have h1 : j < ((x.cps.toList.drop a).take (b - a)).length := (List.getElem?_eq_some_iff.mp hj).1
    simp at h1
    (first | lia | omega)
  rw [List.getElem?_take_of_lt hlt, List.getElem?_drop] at hj
  exact hn (a + j) (by (first | lia | omega)) (by (first | lia | omega)) (hs (a + j) hj)
theorem parts_freeG {x sub : Str} {c : Nat} (hs : ∀ k : Nat, (li x)[k]? = some c → At x sub x.length k) : ∀ (cuts : List Nat) (a f : Nat), ChainG x sub x.length a cuts f → (∀ k, f ≤ k → ¬ At x sub x.length k) → ∀ p ∈ partsFrom x sub.length a cuts, c ∉ li p
  | [], a, f, h, hn, p, hp => by
    have e : f = a := h
    subst e
    rw [List.mem_singleton.mp hp]
    exact part_freeG hs fun k h1 _ => hn k h1
  | d :: r, a, f, h, hn, p, hp => by
    rcases List.mem_cons.mp hp with rfl | hp'
    · exact part_freeG hs h.2.2.1
    · exact parts_freeG hs r _ f h.2.2.2 hn p hp'
theorem parts_length (x : Str) (w : Nat) : ∀ (cuts : List Nat) (a : Nat), (partsFrom x w a cuts).length = cuts.length + 1
  | [], _ => rfl
  | c :: r, a => by
    show (strSub x a c :: partsFrom x w (c + w) r).length = _
    rw [List.length_cons, parts_length x w r, List.length_cons]
theorem kind_pos (x : Str) : 1 ≤ Builtin.Str.strKind x := by
  unfold Builtin.Str.strKind
  split
  · (first | lia | omega)
  · split <;> (first | lia | omega)
theorem split_parts (x y : Str) (hy : 1 ≤ y.length) (hk : Builtin.Str.strKind y ≤ 1) : Txt.split x y = partsFrom x y.length 0 (occurrences x y 0 x.length (x.length + 1)) := by
  obtain ⟨f, hG, hn⟩ := occ_tight x y hy
  have kp := kind_pos x
  have none : occurrences x y 0 x.length (x.length + 1) = [] → [x] = partsFrom x y.length 0 (occurrences x y 0 x.length (x.length + 1)) := fun e => by
    rw [e]
    show [x] = [strSub x 0 x.length]
    rw [sub_whole]
  unfold Txt.split
  split
  · rename_i hc
    rw [Bool.or_eq_true, decide_eq_true_eq, decide_eq_true_eq] at hc
    refine none ?_
    have hlt : x.length < y.length := by (first | lia | omega)
    cases e : occurrences x y 0 x.length (x.length + 1) with
    | nil => rfl
    | cons d r =>
      rw [e] at hG
      have := hG.2.1.1
      (first | lia | omega)
  · split
    · rename_i he
      exact none (List.isEmpty_iff.mp he)
    · rw [partsBetween_eq]
theorem at_two (x : Str) (k : Nat) (h : (li x)[k]? = some 13) (h2 : (li x)[k + 1]? = some 10) : At x (Str.ofString "\u000d\n") x.length k := by
  have e : Str.ofString "\u000d\n" = ⟨#[13, 10]⟩ := by decide +kernel
  rw [e]
  have hlt := (List.getElem?_eq_some_iff.mp h2).1
  rw [li_len] at hlt
  refine ⟨by show k + 2 ≤ x.length; (first | lia | omega), ?_⟩
  rw [subAt_eq]
  show ((li x).drop k).take 2 == [13, 10]
  have h1 := (List.getElem?_eq_some_iff.mp h)
  have h3 := (List.getElem?_eq_some_iff.mp h2)
  rw [List.drop_eq_getElem_cons h1.1, List.drop_eq_getElem_cons h3.1, h1.2, h3.2]
  rfl
theorem good_join : ∀ (x : List Nat) (r : List (List Nat)), (∀ l ∈ x :: r, 13 ∉ l) → ∀ k : Nat, (joinL [13, 10] (x :: r))[k]? = some 13 → (joinL [13, 10] (x :: r))[k + 1]? = some 10
  | x, [], h, k, e => absurd (List.mem_of_getElem? e) (h x (List.mem_cons_self ..))
  | x, y :: r, h, k, e => by
    rw [joinL_cons] at e ⊢
    have hx := h x (List.mem_cons_self ..)
    by_cases h1 : k < x.length
    · rw [List.getElem?_append_left h1] at e
      exact absurd (List.mem_of_getElem? e) hx
    · rw [List.getElem?_append_right (by (first | lia | omega))] at e
      rw [List.getElem?_append_right (by (first | lia | omega))]
      have ek : k + 1 - x.length = (k - x.length) + 1 := by (first | lia | omega)
      rw [ek]
      generalize k - x.length = j at e
      cases j with
      | zero => rfl
      | succ j =>
        cases j with
        | zero => have e' : some 10 = some 13 := e; injection e' with e'; cases e'
        | succ j =>
          show (joinL [13, 10] (y :: r))[j + 1]? = some 10
          exact good_join y r (fun l hl => h l (List.mem_cons_of_mem _ hl)) j e
theorem wire_good {t : List Nat} (h13 : 13 ∉ t) : ∀ k : Nat, (wireL t)[k]? = some 13 → (wireL t)[k + 1]? = some 10 := by
  rw [wire_rows]
  exact good_join _ _ fun l hl => (wireRows_free h13 l hl).1
theorem crlf_kind : Builtin.Str.strKind (Str.ofString "\u000d\n") ≤ 1 := by decide +kernel
theorem crlf_len2 : 1 ≤ (Str.ofString "\u000d\n").length := by decide +kernel
theorem li_join' (sep : Str) : ∀ ts : List Str, li (Str.join sep ts) = joinL (li sep) (ts.map li) := by
  intro ts
  rw [← glued_eq_join]
  exact li_join sep ts
theorem split_wire {x : Str} {t : List Nat} (h13 : 13 ∉ t) (hx : li x = wireL t) : (Txt.split x (Str.ofString "\u000d\n")).map li = wireRows t := by
  obtain ⟨f, hG, hn⟩ := occ_tight x (Str.ofString "\u000d\n") crlf_len2
  have hs : ∀ k : Nat, (li x)[k]? = some 13 → At x (Str.ofString "\u000d\n") x.length k := fun k e => at_two x k e (by rw [hx] at e ⊢; exact wire_good h13 k e)
  have hj := congrArg li (join_split x (Str.ofString "\u000d\n"))
  rw [li_join', hx, wire_rows, show li (Str.ofString "\u000d\n") = [13, 10] by decide +kernel] at hj
  have hfree := parts_freeG hs _ 0 f hG hn
  rw [← split_parts x _ crlf_len2 crlf_kind] at hfree
  have hne : Txt.split x (Str.ofString "\u000d\n") ≠ [] := by
    intro e
    have := congrArg List.length (split_parts x _ crlf_len2 crlf_kind)
    rw [e, parts_length] at this
    cases this
  refine joinL_inj 13 [13, 10] [10] rfl _ _ (by simpa using hne) (List.cons_ne_nil _ _) ?_ ?_ hj
  · intro l hl
    obtain ⟨p, hp, rfl⟩ := List.mem_map.mp hl
    exact hfree p hp
  · exact fun l hl => (wireRows_free h13 l hl).1
theorem rows_count (t : List Nat) : t.count 10 = (rowsL t).2.length := by
  have := count_join 10 [10] rfl (rowsL t).1 (rowsL t).2 fun l hl => (rows_mem t l hl).1
  rwa [rows_same] at this
theorem cnt_count (c : Nat) : ∀ l : List Nat, cnt c l = (l.count c : Nat)
  | [] => rfl
  | n :: r => by
    rw [cnt_cons, cnt_count c r, List.count_cons]
    by_cases h : n = c
    · rw [if_pos h, if_pos (by simpa using h)]; (first | lia | omega)
    · rw [if_neg h, if_neg (by simpa using h)]; (first | lia | omega)
theorem count_sign (x : Str) (c : Nat) : Txt.count x ⟨#[c]⟩ = ((li x).count c : Nat) := by
  rw [count_is]
  exact cnt_count c (li x)
theorem count_crlf {x : Str} {t : List Nat} (h13 : 13 ∉ t) (hx : li x = wireL t) : Txt.count x (Str.ofString "\u000d\n") = (t.count 10 : Nat) := by
  have h1 := congrArg List.length (split_wire h13 hx)
  rw [List.length_map, split_parts x _ crlf_len2 crlf_kind, parts_length] at h1
  have h2 : (wireRows t).length = (rowsL t).2.length + 1 := by unfold wireRows; rw [List.length_map, List.length_cons]
  rw [h2, ← rows_count] at h1
  unfold Txt.count
  (first | lia | omega)
theorem count_lf {x : Str} {t : List Nat} (h13 : 13 ∉ t) (hx : li x = wireL t) : Txt.count x (Str.ofString "\n") = (t.count 10 : Nat) := by
  rw [show Str.ofString "\n" = ⟨#[10]⟩ by decide +kernel, count_sign, hx, wire_count h13 10 (.inr rfl)]
theorem count_cr {x : Str} {t : List Nat} (h13 : 13 ∉ t) (hx : li x = wireL t) : Txt.count x (Str.ofString "\u000d") = (t.count 10 : Nat) := by
  rw [show Str.ofString "\u000d" = ⟨#[13]⟩ by decide +kernel, count_sign, hx, wire_count h13 13 (.inl rfl)]
noncomputable def tL (fs : List (Str × Int)) : List Nat := textL badC ((fs.map pairN).map nlP)
theorem oct_free (v : Int) : 13 ∉ octN v ∧ 10 ∉ octN v := by
  constructor
  · intro h
    have := octN_oct v 13 h
    (first | lia | omega)
  · intro h
    have := octN_oct v 10 h
    (first | lia | omega)
theorem pairs_free (fs : List (Str × Int)) : ∀ p ∈ fs.map pairN, 13 ∉ p.2 ∧ 10 ∉ p.2 := by
  intro p hp
  obtain ⟨q, _, rfl⟩ := List.mem_map.mp hp
  exact oct_free q.2
theorem tL_eq (fs : List (Str × Int)) : nlF false (li (textS fs)) = tL fs := by
  rw [li_textS]
  exact nl_text bad_13 bad_10 _ (pairs_free fs)
theorem tL_no13 (fs : List (Str × Int)) : 13 ∉ tL fs := by rw [← tL_eq]; exact nl_no13 _ _
theorem wire_text (fs : List (Str × Int)) : li (qdS (textS fs)) = wireL (tL fs) := by rw [li_qdS, tL_eq]
theorem tL_count : ∀ fs : List (Str × Int), (((tL fs).count 10 : Nat) : Int) = (fs.map fun p => Txt.count (plainP p.1 p.1.length) (Str.ofString "\n") + 1).sum := by
  intro fs
  unfold tL
  rw [count_text]
  · induction fs with
    | nil => rfl
    | cons p r ih =>
      simp only [List.map_cons, List.sum_cons] at ih ⊢
      have e : Txt.count (plainP p.1 p.1.length) (Str.ofString "\n") = ((nlF false (li p.1)).count 10 : Nat) := by
        rw [show Str.ofString "\n" = ⟨#[10]⟩ by decide +kernel, count_sign, li_plainP]
      rw [e, ← ih]
      show (((nlF false (li p.1)).count 10 + 1 + _ : Nat) : Int) = _
      (first | lia | omega)
  · intro p hp
    obtain ⟨q, hq, rfl⟩ := List.mem_map.mp hp
    exact (pairs_free fs q hq).2
theorem law_counts (fs : List (Str × Int)) : Txt.count (qdS (textS fs)) (Str.ofString "\u000d\n") = (fs.map fun p => Txt.count (plainP p.1 p.1.length) (Str.ofString "\n") + 1).sum ∧ Txt.count (qdS (textS fs)) (Str.ofString "\n") = (fs.map fun p => Txt.count (plainP p.1 p.1.length) (Str.ofString "\n") + 1).sum ∧ Txt.count (qdS (textS fs)) (Str.ofString "\u000d") = (fs.map fun p => Txt.count (plainP p.1 p.1.length) (Str.ofString "\n") + 1).sum :=
  ⟨(count_crlf (tL_no13 fs) (wire_text fs)).trans (tL_count fs), (count_lf (tL_no13 fs) (wire_text fs)).trans (tL_count fs), (count_cr (tL_no13 fs) (wire_text fs)).trans (tL_count fs)⟩
theorem law_rows (fs : List (Str × Int)) : ∀ r ∈ Txt.split (qdS (textS fs)) (Str.ofString "\u000d\n"), (Txt.slice r none (some 1) == Str.ofString ".") = true → (Txt.slice r none (some 2) != Str.ofString "..") = false := by
  intro r hr h
  have hm : li r ∈ wireRows (tL fs) := by
    rw [← split_wire (tL_no13 fs) (wire_text fs)]
    exact List.mem_map_of_mem hr
  obtain ⟨l, _, e⟩ := List.mem_map.mp hm
  have h1 : (li r).take 1 = [46] := by
    rw [str_beq, show Txt.slice r none (some 1) = Txt.slice r none (some ((1 : Nat) : Int)) from rfl, li_to, show li (Str.ofString ".") = [46] by decide +kernel] at h
    exact of_decide_eq_true h
  have h2 : (li r).head? = some 46 := by
    cases hl : li r with
    | nil => rw [hl] at h1; cases h1
    | cons c q => rw [hl] at h1; injection h1 with h1; rw [h1]; rfl
  have h3 : (li r).take 2 = [46, 46] := by rw [← e] at h2 ⊢; exact dotRow_two l h2
  show (!(Txt.slice r none (some 2) == Str.ofString "..")) = false
  rw [str_beq, show Txt.slice r none (some 2) = Txt.slice r none (some ((2 : Nat) : Int)) from rfl, li_to, show li (Str.ofString "..") = [46, 46] by decide +kernel, h3]
  simp
theorem tL_last (fs : List (Str × Int)) (h : fs ≠ []) : ∃ u, tL fs = u ++ [10] := by
  unfold tL textL
  obtain ⟨r, p, rfl⟩ : ∃ r p, fs = r ++ [p] := by
    exact ⟨fs.dropLast, fs.getLast h, (List.dropLast_concat_getLast h).symm⟩
  rw [List.map_append, List.map_append, List.flatMap_append]
  refine ⟨List.flatMap (rowL badC) ((r.map pairN).map nlP) ++ (quoteL badC (nlF false (li p.1)) ++ (32 :: octN p.2)), ?_⟩
  rw [List.append_assoc]
  congr 1
  show rowL badC (nlF false (li p.1), octN p.2) ++ [] = _
  unfold rowL
  simp
theorem law_init (fs : List (Str × Int)) (h : fs ≠ []) : qdS (Txt.slice (textS fs) none (some (-1))) = Txt.slice (qdS (textS fs)) none (some (-2)) := by
  refine li_inj ?_
  have e1 : li (Txt.slice (textS fs) none (some (-1))) = (li (textS fs)).dropLast := by
    have := li_to_neg (textS fs) 1 (by decide)
    rw [← li_len, ← List.dropLast_eq_take] at this
    exact this
  obtain ⟨u, hu⟩ := tL_last fs h
  have e2 : li (Txt.slice (qdS (textS fs)) none (some (-2))) = wireL u := by
    have := li_to_neg (qdS (textS fs)) 2 (by decide)
    rw [← li_len, wire_text, wire_init hu, List.length_append] at this
    refine this.trans ?_
    exact List.take_left' (by simp)
  rw [li_qdS, e1, e2, li_textS, nl_text_init bad_13 bad_10 _ (pairs_free fs)]
  show wireL (tL fs).dropLast = _
  rw [hu, List.dropLast_concat]
theorem li_comeRow (r : Str) : li (comeRow r) = undot (li r) := by
  unfold comeRow undot
  have e : (Txt.slice r none (some 1) == Str.ofString ".") = decide ((li r).head? = some 46) := by
    rw [str_beq, show Txt.slice r none (some 1) = Txt.slice r none (some ((1 : Nat) : Int)) from rfl, li_to, show li (Str.ofString ".") = [46] by decide +kernel]
    cases li r <;> simp
  rw [e]
  by_cases h : (li r).head? = some 46
  · rw [decide_eq_true h, if_pos rfl, if_pos h]
    rw [show Txt.slice r (some 1) none = Txt.slice r (some ((1 : Nat) : Int)) none from rfl, li_from]
    simp
  · rw [decide_eq_false h, if_neg Bool.false_ne_true, if_neg h]
theorem come_text (fs : List (Str × Int)) : li (comeS (qdS (textS fs))) = tL fs := by
  unfold comeS
  rw [li_join, show li (Str.ofString "\n") = [10] by decide +kernel, List.map_map]
  have e : (Txt.split (qdS (textS fs)) (Str.ofString "\u000d\n")).map (li ∘ comeRow) = ((Txt.split (qdS (textS fs)) (Str.ofString "\u000d\n")).map li).map undot := by
    rw [List.map_map]
    exact List.map_congr_left fun r _ => li_comeRow r
  rw [e, split_wire (tL_no13 fs) (wire_text fs), come_rows]
end Mine
end
section
open PySem PySem.W PyProof.Rows PySem.Builtin PySem.Builtin.Str
set_option maxRecDepth 100000
set_option maxHeartbeats 8000000
set_option linter.unusedVariables false
namespace Mine
noncomputable def strL (l : List Nat) : Str := ⟨l.toArray⟩
theorem li_strL (l : List Nat) : li (strL l) = l := rfl
theorem li_ch (c : Nat) : li (ch c) = [c] := rfl
theorem li_e : li (Str.ofString "") = [] := by decide +kernel
theorem strL_nil (acc : Str) : acc ++ strL [] = acc := li_inj (by rw [li_app, li_strL, List.append_nil])
theorem strL_cons (acc : Str) (c : Nat) (l : List Nat) : acc ++ ch c ++ strL l = acc ++ strL (c :: l) := li_inj (by rw [li_app, li_app, li_app, li_strL, li_strL, li_ch, List.append_assoc]; rfl)
theorem ch39 : ch 39 = Str.ofString "'" := by decide +kernel
theorem ch34 : ch 34 = Str.ofString "\"" := by decide +kernel
section
variable {c : Nat} {r : List Nat} {acc : Str} {qd : Bool} {res : Option Str × List Nat}
theorem go_s (h1 : wsC c = false) (h2 : escC c = false) (h3 : quC c = false) (h : rt r (Str.ofString "a") (ch c) false = some res) : rt (c :: r) (Str.ofString " ") (Str.ofString "") false = some res := by
  unfold rt
  rw [if_pos rfl, if_pos ⟨rfl, rfl⟩, if_neg (ff h1), if_neg (ff h2), if_neg (ff h3)]
  split <;> exact h
theorem go_s_quote (h1 : wsC c = false) (h2 : escC c = false) (h3 : wcC c = false) (h4 : quC c = true) (h : rt r (ch c) (Str.ofString "") false = some res) : rt (c :: r) (Str.ofString " ") (Str.ofString "") false = some res := by
  unfold rt
  rw [if_pos rfl, if_pos ⟨rfl, rfl⟩, if_neg (ff h1), if_neg (ff h2), if_neg (ff h3), if_pos h4]
  exact h
theorem go_a (h1 : wsC c = false) (h2 : escC c = false) (h3 : quC c = false) (h : rt r (Str.ofString "a") (acc ++ ch c) qd = some res) : rt (c :: r) (Str.ofString "a") acc qd = some res := by
  unfold rt
  rw [if_neg ne_as, if_pos rfl, if_neg (ff h1), if_neg (ff h3), if_neg (ff h2)]
  exact h
theorem go_a_quote (h1 : wsC c = false) (h3 : quC c = true) (h : rt r (ch c) acc qd = some res) : rt (c :: r) (Str.ofString "a") acc qd = some res := by
  unfold rt
  rw [if_neg ne_as, if_pos rfl, if_neg (ff h1), if_pos h3]
  exact h
theorem go_a_end (h1 : wsC c = true) (h : acc ≠ Str.ofString "" ∨ qd = true) : rt (c :: r) (Str.ofString "a") acc qd = some (some acc, r) := by
  unfold rt
  rw [if_neg ne_as, if_pos rfl, if_pos h1, if_pos h]
theorem go_1 (hc : c ≠ 39) (h : rt r (Str.ofString "'") (acc ++ ch c) true = some res) : rt (c :: r) (Str.ofString "'") acc qd = some res := by
  have e : ¬ (ch c == Str.ofString "'") = true := by
    rw [str_beq, li_ch, show li (Str.ofString "'") = [39] by decide +kernel]
    simpa using hc
  unfold rt
  rw [if_neg ne_1s, if_neg ne_1a, if_pos rfl, if_neg e]
  exact h
theorem go_1_end (h : rt r (Str.ofString "a") acc true = some res) : rt (39 :: r) (Str.ofString "'") acc qd = some res := by
  unfold rt
  rw [if_neg ne_1s, if_neg ne_1a, if_pos rfl, if_pos (by decide +kernel)]
  exact h
theorem go_2 (h : rt r (Str.ofString "\"") (acc ++ ch 39) true = some res) : rt (39 :: r) (Str.ofString "\"") acc qd = some res := by
  unfold rt
  rw [if_neg ne_2s, if_neg ne_2a, if_neg ne_21, if_pos rfl, if_neg (by decide +kernel), if_neg (by decide +kernel)]
  exact h
theorem go_2_end (h : rt r (Str.ofString "a") acc true = some res) : rt (34 :: r) (Str.ofString "\"") acc qd = some res := by
  unfold rt
  rw [if_neg ne_2s, if_neg ne_2a, if_neg ne_21, if_pos rfl, if_pos (by decide +kernel)]
  exact h
theorem word_1 : ∀ (l : List Nat) (acc : Str) (qd : Bool), rt r (Str.ofString "a") (acc ++ strL l) true = some res → rt (putF 39 apoZ l ++ 39 :: r) (Str.ofString "'") acc qd = some res
  | [], acc, qd, h => by
    rw [strL_nil] at h
    exact go_1_end h
  | c :: l, acc, qd, h => by
    rw [← strL_cons] at h
    by_cases hc : c = 39
    · subst hc
      rw [put_hit]
      have ih := word_1 l (acc ++ ch 39) true h
      show rt (39 :: 34 :: 39 :: 34 :: 39 :: (putF 39 apoZ l ++ 39 :: r)) _ _ _ = _
      refine go_1_end (go_a_quote (by decide +kernel) (by decide +kernel) ?_)
      rw [ch34]
      refine go_2 (go_2_end (go_a_quote (by decide +kernel) (by decide +kernel) ?_))
      rw [ch39]
      exact ih
    · rw [put_no _ _ hc]
      exact go_1 hc (word_1 l (acc ++ ch c) true h)
theorem word_a : ∀ (l : List Nat) (acc : Str), (∀ c ∈ l, wsC c = false ∧ escC c = false ∧ quC c = false) → rt r (Str.ofString "a") (acc ++ strL l) qd = some res → rt (l ++ r) (Str.ofString "a") acc qd = some res
  | [], acc, _, h => by
    rw [strL_nil] at h
    exact h
  | c :: l, acc, hc, h => by
    rw [← strL_cons] at h
    have k := hc c (.head _)
    exact go_a k.1 k.2.1 k.2.2 (word_a l (acc ++ ch c) (fun d hd => hc d (.tail _ hd)) h)
end
noncomputable def signA : List Nat := nameA ++ digA
theorem plain_signs : ∀ c ∈ signA, badC c = false → wsC c = false ∧ escC c = false ∧ quC c = false := by decide +kernel
theorem tok_quote (y : Str) (hy : ∀ c ∈ li y, c ∈ signA) {c : Nat} (hc : wsC c = true) (r : List Nat) : rt (quoteL badC (li y) ++ c :: r) (Str.ofString " ") (Str.ofString "") false = some (some y, r) := by
  have ey : Str.ofString "" ++ strL (li y) = y := li_inj (by rw [li_app, li_e, li_strL]; rfl)
  have q39 : ∀ {r : List Nat} {res : Option Str × List Nat}, rt r (Str.ofString "'") (Str.ofString "") false = some res → rt (39 :: r) (Str.ofString " ") (Str.ofString "") false = some res := fun h => go_s_quote (by decide +kernel) (by decide +kernel) (by decide +kernel) (by decide +kernel) (by rw [ch39]; exact h)
  unfold quoteL
  by_cases h0 : li y = []
  · rw [if_pos h0]
    have e : y = Str.ofString "" := li_inj (by rw [h0, li_e])
    rw [e]
    exact q39 (go_1_end (go_a_end hc (.inr rfl)))
  · rw [if_neg h0]
    by_cases h1 : (li y).any badC = true
    · rw [if_pos h1]
      have e : (39 :: (putF 39 apoZ (li y) ++ [39])) ++ c :: r = 39 :: (putF 39 apoZ (li y) ++ 39 :: c :: r) := by simp
      rw [e]
      refine q39 (word_1 (li y) _ _ ?_)
      rw [ey]
      exact go_a_end hc (.inr rfl)
    · rw [if_neg h1]
      have hp : ∀ d ∈ li y, wsC d = false ∧ escC d = false ∧ quC d = false := fun d hd => plain_signs d (hy d hd) (by
        cases hb : badC d with
        | false => rfl
        | true => exact absurd (List.any_eq_true.mpr ⟨d, hd, hb⟩) h1)
      cases hl : li y with
      | nil => exact absurd hl h0
      | cons d l =>
        rw [hl] at hp
        have k := hp d (.head _)
        refine go_s k.1 k.2.1 k.2.2 (word_a l (ch d) (fun e he => hp e (.tail _ he)) ?_)
        have e : ch d ++ strL l = y := li_inj (by rw [li_app, li_ch, li_strL, hl]; rfl)
        rw [e]
        refine go_a_end hc (.inl fun q => h0 ?_)
        rw [q, li_e]
theorem ws_32 : wsC 32 = true := by decide +kernel
theorem ws_10 : wsC 10 = true := by decide +kernel
theorem toks_text : ∀ fs : List (Str × Int), (∀ p ∈ fs, ∀ c ∈ li (plainP p.1 p.1.length), c ∈ signA) → RtAll (tL fs) (fs.flatMap fun p => [plainP p.1 p.1.length, octS p.2])
  | [], _ => .nil (r := []) (by
    show rt [] _ _ _ = _
    unfold rt
    rw [if_pos rfl, if_pos ⟨rfl, rfl⟩])
  | p :: fs, h => by
    have ih := toks_text fs fun q hq => h q (.tail _ hq)
    have e : tL (p :: fs) = quoteL badC (li (plainP p.1 p.1.length)) ++ (32 :: (quoteL badC (li (octS p.2)) ++ (10 :: tL fs))) := by
      unfold tL
      rw [List.map_cons, List.map_cons, text_cons, li_plainP, li_octS, quote_oct]
      rfl
    rw [e]
    show RtAll _ (plainP p.1 p.1.length :: octS p.2 :: _)
    refine .cons (tok_quote _ (h p (.head _)) ws_32 _) (.cons (tok_quote _ (fun c hc => ?_) ws_10 _) ih)
    rw [li_octS] at hc
    exact List.mem_append_right _ (octN_digA p.2 c hc)
theorem nl_mem : ∀ (cr : Bool) (l : List Nat), ∀ c ∈ nlF cr l, c ∈ l ∨ c = 10
  | _, [], c, h => absurd h List.not_mem_nil
  | cr, d :: r, c, h => by
    have ih := fun b => nl_mem b r c
    by_cases h1 : d = 13
    · subst h1
      rw [nl_13] at h
      rcases List.mem_cons.mp h with h | h
      · exact .inr h
      · exact (ih true h).imp (fun h => .tail _ h) id
    · by_cases h2 : d = 10
      · subst h2
        cases cr with
        | true =>
          rw [nl_10t] at h
          exact (ih false h).imp (fun h => .tail _ h) id
        | false =>
          rw [nl_10f] at h
          rcases List.mem_cons.mp h with h | h
          · exact .inr h
          · exact (ih false h).imp (fun h => .tail _ h) id
      · rw [nl_el cr r h1 h2] at h
        rcases List.mem_cons.mp h with h | h
        · exact .inl (h ▸ .head _)
        · exact (ih false h).imp (fun h => .tail _ h) id
theorem nl_len : ∀ (cr : Bool) (l : List Nat), (nlF cr l).length ≤ l.length
  | _, [] => Nat.le_refl _
  | cr, d :: r => by
    by_cases h1 : d = 13
    · subst h1
      rw [nl_13]
      have := nl_len true r
      simp only [List.length_cons]; (first | lia | omega)
    · by_cases h2 : d = 10
      · subst h2
        cases cr with
        | true => rw [nl_10t]; have := nl_len false r; simp only [List.length_cons]; (first | lia | omega)
        | false => rw [nl_10f]; have := nl_len false r; simp only [List.length_cons]; (first | lia | omega)
      · rw [nl_el cr r h1 h2]; have := nl_len false r; simp only [List.length_cons]; (first | lia | omega)
theorem put_mem : ∀ (l : List Nat), ∀ c ∈ putF 39 apoZ l, c ∈ l ∨ c = 39 ∨ c = 34
  | [], c, h => absurd h List.not_mem_nil
  | d :: r, c, h => by
    have ih := put_mem r c
    by_cases h1 : d = 39
    · subst h1
      rw [put_hit] at h
      rcases List.mem_append.mp h with h | h
      · simp only [apoZ, List.mem_cons, List.not_mem_nil, or_false] at h
        right; (first | lia | omega)
      · exact (ih h).imp (fun h => .tail _ h) id
    · rw [put_no _ _ h1] at h
      rcases List.mem_cons.mp h with h | h
      · exact .inl (h ▸ .head _)
      · exact (ih h).imp (fun h => .tail _ h) id
theorem quote_mem (l : List Nat) : ∀ c ∈ quoteL badC l, c ∈ l ∨ c = 39 ∨ c = 34 := by
  intro c h
  unfold quoteL at h
  split at h
  · simp only [List.mem_cons, List.not_mem_nil, or_false] at h
    right; (first | lia | omega)
  · split at h
    · rcases List.mem_cons.mp h with h | h
      · exact .inr (.inl h)
      · rcases List.mem_append.mp h with h | h
        · exact put_mem l c h
        · exact .inr (.inl (List.mem_singleton.mp h))
    · exact .inl h
theorem esc_no : ∀ c ∈ signA ++ [34], escC c = false := by decide +kernel
theorem tL_signs (fs : List (Str × Int)) (h : ∀ p ∈ fs, ∀ c ∈ li (plainP p.1 p.1.length), c ∈ signA) : ∀ c ∈ tL fs, c ∈ signA ++ [34] := by
  intro c hc
  have k10 : (10 : Nat) ∈ signA ++ [34] := by decide
  have k32 : (32 : Nat) ∈ signA ++ [34] := by decide
  have k39 : (39 : Nat) ∈ signA ++ [34] := by decide
  have k34 : (34 : Nat) ∈ signA ++ [34] := by decide
  unfold tL textL at hc
  obtain ⟨q, hq, hc⟩ := List.mem_flatMap.mp hc
  rw [List.map_map] at hq
  obtain ⟨p, hp, rfl⟩ := List.mem_map.mp hq
  have hn := h p hp
  rw [li_plainP] at hn
  have hc' : c ∈ quoteL badC (nlF false (li p.1)) ++ (32 :: (octN p.2 ++ [10])) := hc
  rcases List.mem_append.mp hc' with h1 | h1
  · rcases quote_mem _ c h1 with h2 | h2 | h2
    · exact List.mem_append_left _ (hn c h2)
    · rw [h2]; exact k39
    · rw [h2]; exact k34
  · rcases List.mem_cons.mp h1 with h2 | h2
    · rw [h2]; exact k32
    · rcases List.mem_append.mp h2 with h3 | h3
      · exact List.mem_append_left _ (List.mem_append_right _ (octN_digA p.2 c h3))
      · rw [List.mem_singleton.mp h3]; exact k10
theorem pcs_signs : ∀ x ∈ pcs, ∀ c ∈ li x, c ∈ nameA := by decide +kernel
theorem pc_signs (e : Int) : ∀ c ∈ li (pc e), c ∈ nameA := by
  intro c hc
  unfold pc at hc
  rw [List.getD_eq_getElem?_getD] at hc
  cases h : pcs[e.toNat]? with
  | none => rw [h] at hc; exact absurd hc (by show c ∉ li Str.empty; rw [show li Str.empty = [] by decide +kernel]; exact List.not_mem_nil)
  | some x => rw [h] at hc; exact pcs_signs x (List.mem_of_getElem? h) c hc
theorem names_signs (ns : List Int) : ∀ p ∈ lawFiles ns, ∀ c ∈ li p.1, c ∈ nameA := by
  intro p hp c hc
  obtain ⟨i, hi⟩ := List.getElem?_of_mem hp
  unfold lawFiles at hi
  rw [filesF_get] at hi
  cases h : (lawNs ns)[i]? with
  | none => rw [h] at hi; cases hi
  | some x =>
    rw [h] at hi
    cases hi
    have hc' : c ∈ li (nameF x) := hc
    unfold nameF at hc'
    rw [li_app, li_app] at hc'
    rcases List.mem_append.mp hc' with h1 | h1
    · rcases List.mem_append.mp h1 with h2 | h2
      · exact pc_signs _ c h2
      · exact pc_signs _ c h2
    · exact pc_signs _ c h1
theorem plain_name (ns : List Int) : ∀ p ∈ lawFiles ns, ∀ c ∈ li (plainP p.1 p.1.length), c ∈ nameA := by
  intro p hp c hc
  rw [li_plainP] at hc
  rcases nl_mem _ _ c hc with h | h
  · exact names_signs ns p hp c h
  · rw [h]; decide
theorem plain_sign (ns : List Int) : ∀ p ∈ lawFiles ns, ∀ c ∈ li (plainP p.1 p.1.length), c ∈ signA := fun p hp c hc => List.mem_append_left _ (plain_name ns p hp c hc)
theorem come_len {fs : List (Str × Int)} (h : ∀ p ∈ fs, FileOk p) (hl : fs.length ≤ 11) : (comeS (qdS (textS fs))).length ≤ 100000 := by
  rw [← li_len, come_text, ← tL_eq]
  have h1 := nl_len false (li (textS fs))
  rw [li_len] at h1
  have := text_len h hl
  (first | lia | omega)
theorem come_toks (ns : List Int) : RtAll (comeS (qdS (textS (lawFiles ns)))).cps.toList ((lawFiles ns).flatMap fun p => [plainP p.1 p.1.length, octS p.2]) := by
  have e : (comeS (qdS (textS (lawFiles ns)))).cps.toList = tL (lawFiles ns) := come_text _
  rw [e]
  exact toks_text _ (plain_sign ns)
theorem come_esc (ns : List Int) : ∀ c ∈ (comeS (qdS (textS (lawFiles ns)))).cps.toList, escC c = false := by
  have e : (comeS (qdS (textS (lawFiles ns)))).cps.toList = tL (lawFiles ns) := come_text _
  rw [e]
  exact fun c hc => esc_no c (tL_signs _ (plain_sign ns) c hc)
end Mine
end
section
open PySem PySem.W PyProof.Rows PySem.Calls
set_option maxRecDepth 100000
set_option maxHeartbeats 8000000
set_option linter.unusedVariables false
namespace Mine
theorem mem_lt {l : List Nat} (h : ∀ c ∈ l, c ∈ signA) : ∀ c ∈ l, c < 0x110000 := fun c hc => (by decide : ∀ c ∈ signA, c < 0x110000) c (h c hc)
theorem words_flat (ns : List Int) : ((wordsL (lawFiles ns)).map PyData.str).all flatD = true := by
  rw [List.all_eq_true]
  intro d hd
  obtain ⟨x, hx, rfl⟩ := List.mem_map.mp hd
  show PyData.strOk x = true
  rw [strOk_li]
  unfold wordsL at hx
  obtain ⟨p, hp, hx⟩ := List.mem_flatMap.mp hx
  rcases List.mem_cons.mp hx with rfl | hx
  · exact mem_lt (plain_sign ns p hp)
  · rw [List.mem_singleton.mp hx, li_octS]
    exact mem_lt fun c hc => List.mem_append_right _ (octN_digA p.2 c hc)
theorem said_row {p : Str × Int} (h : FileOk p) : saidD p.2 = rowD p.2 := by
  obtain ⟨_, h0, h1, hk⟩ := h
  unfold saidD rowD
  rw [perm_row h0 h1 hk, and_kind h0 h1, and_12, fd p.2 (show (0 : Int) ≤ 4096 by decide), fm p.2 (show (0 : Int) ≤ 4096 by decide)]
  have e : ∀ K : Int, (4096 * (p.2 / 4096) == 4096 * K) = (p.2 / 4096 == K) := fun K => by
    by_cases q : p.2 / 4096 = K
    · rw [q]; simp
    · rw [beq_eq_false_iff_ne.mpr q, beq_eq_false_iff_ne.mpr (fun e => q (by (first | lia | omega)))]
  have e1 := e 4
  have e2 := e 10
  rw [show (4096 : Int) * 4 = 16384 by decide] at e1
  rw [show (4096 : Int) * 10 = 40960 by decide] at e2
  rw [e1, e2]
theorem row_flat {p : Str × Int} (h : FileOk p) : (rowD p.2).all flatD = true := by
  obtain ⟨_, h0, h1, hk⟩ := h
  have e : PyData.strOk (rowP p.2 3) = true := by rw [← perm_row h0 h1 hk]; exact perm_ok _
  unfold rowD
  simp only [List.all_cons, List.all_nil, flatD, e, Bool.and_true]
theorem files_ne (ns : List Int) : lawFiles ns ≠ [] := by
  intro e
  have := congrArg List.length e
  unfold lawFiles at this
  rw [filesF_len] at this
  unfold lawNs at this
  rw [List.length_append] at this
  simp at this
theorem law_ok (ns : List Int) : LawOk (lawFiles ns) where
  counts := law_counts _
  toks := come_toks ns
  flat := words_flat ns
  modes := fun p hp => said_row (files_ok ns p hp)
  flat2 := fun p hp => row_flat (files_ok ns p hp)
  esc := come_esc ns
  len := come_len (files_ok ns) (files_len ns)
  init := law_init _ (files_ne ns)
  rows := law_rows _
section
variable {w : World} {mg mb : Str → Option Value}
theorem ns_hide {h : Heap} {a P : Addr} {m : Str → Option Value} (ha : a ≠ P) (H : h.Ns a m) : (hideAll h [P]).Ns a m := by
  obtain ⟨o, es, ep, ho, r⟩ := H
  exact ⟨o, es, ep, hideAll_get _ ho (by simpa using ha), r⟩
theorem hd_not (P : Params) : ∀ a o, (hd.heap_39 P).lookup a = some o → a ≠ 763 := by
  intro a o e q
  subst q
  have : (hd.heap_39 P).lookup 763 = none := by kernel_rfl
  rw [this] at e; cases e
noncomputable def isDef : Stmt → Bool
  | .FunctionDef .. => true
  | _ => false
theorem fnD_is (s : Stmt) (h : isDef s = true) (q : Str) (dV kV doc pm : Value) (an : Option Addr) (cd ct : Value) : ∃ fd : FuncData, fnD s q dV kV doc pm an cd ct = .func fd ∧ fd.code = cd := by
  cases s <;> first | exact ⟨_, rfl, rfl⟩ | cases h
theorem join_find : ((recsOf hd.view_39).find? fun e => e.name == Str.ofString "join").isSome = true := by kernel_rfl
theorem join_nm (P : Params) : nsIn (hd.heap_39 P) mainGlobals (Str.ofString "join") = some (some (.ref 768)) := by kernel_rfl
theorem join_def : isDef (topS 29) = true := by kernel_rfl
theorem join_o (P : Params) : (hd.heap_39 P).lookup 768 = some ⟨.type "function", none, fnD (topS 29) (.ofString "join") .none .none .none (.str (.ofString "cpy313.shlex") 1156) none (.ref 767) .none, #[]⟩ := by kernel_rfl
theorem join_tab {mean : ExcName → Option Value} {s : Shared} (T : Top hd.view_39 (looseW hd.view_39 looseN) mean mg mb s.heap) (X : (hd.heap_39 w.params).In s.heap) : s.heap.get? 763 = some (tabO #[]) ∧ s.heap.TableAt 767 763 #[] := by
  obtain ⟨d, hd⟩ := Option.isSome_iff_exists.mp join_find
  obtain ⟨fd, e1, e2⟩ := fnD_is (topS 29) join_def (.ofString "join") .none .none .none (.str (.ofString "cpy313.shlex") 1156) none (.ref 767) .none
  obtain ⟨c, P, e3, B⟩ := based_of_top T hd (mg_of X T.g (join_nm _)) (X _ _ (join_o _)) e1
  rw [e2] at e3
  cases e3
  obtain ⟨_, e, vs, rfl, a1, a2, _⟩ := join_code w.params rfl
  have hc := X _ _ e
  obtain ⟨⟨o, vs', g1, _, g3, g4⟩, g5⟩ := B.tab
  rw [hc] at g1
  cases g1
  cases g3
  rw [a2] at g4
  cases g4
  exact ⟨g5, B.tab⟩
theorem topT_of {mean : ExcName → Option Value} {s : Shared} (T : Top hd.view_39 (looseW hd.view_39 looseN) mean mg mb s.heap) (X : (hd.heap_39 w.params).In s.heap) (hg : AllBare s.gens) : TopT w mg mb s ∧ s.heap.get? 763 = some (tabO #[]) ∧ s.heap.TableAt 767 763 #[] := by
  have hx : (hd.heap_39 w.params).In (hideAll s.heap [763]) := fun a o e => hideAll_get _ (X a o e) (by simpa using hd_not _ a o e)
  have g3 : mainGlobals ≠ 763 := by decide
  have g0 : builtinsNs ≠ 763 := by decide
  have gs : cStatics ≠ 763 := by decide
  have ht : s.heap.get? 763 = some (tabO #[]) ∧ s.heap.TableAt 767 763 #[] := join_tab T X
  obtain ⟨bm, ob, M⟩ := bmod_of_top T
  refine ⟨⟨hx, ⟨ns_hide g3 T.g, ns_hide g0 T.b, ?_, T.builtins, T.free⟩, ⟨bm, ob, ?_⟩, ⟨#[], .inl rfl, ht.1⟩, hg⟩, ht⟩
  · obtain ⟨mc, a, b⟩ := T.nolimit
    exact ⟨mc, ns_hide gs a, b⟩
  · refine ⟨ns_hide g3 M.ns, M.name, M.ne, hideAll_get _ M.obj ?_, M.cls, M.dict, M.data⟩
    intro q
    have q' : bm = 763 := by simpa using q
    have e := M.obj
    rw [q', ht.1] at e
    cases e
    exact absurd M.cls (by intro q; cases q)
theorem keep_old {s s' : Shared} (h7 : s.heap.get? 763 = some (tabO #[])) (ht : s.heap.TableAt 767 763 #[]) (k : KeepT s s') : OldK s.heap s'.heap := by
  obtain ⟨ps, _, g⟩ := k.tab
  refine ⟨fun b o e => ?_, fun b o e => ?_⟩
  · by_cases hb : b = 763
    · subst hb
      rw [h7] at e
      cases e
      exact .inr (.inl ⟨ht.isCodeTable, rfl, #[], ps, rfl, by rw [g]; simp⟩)
    · exact .inl (k.keep b o hb e)
  · by_cases hb : b = 763
    · exact ⟨_, hb ▸ g⟩
    · exact ⟨o, k.keep b o hb e⟩
theorem law_nm (P : Params) : nsIn (hd.heap_39 P) mainGlobals (Str.ofString "law") = some (some (.ref 880)) := by kernel_rfl
theorem law_name : hdD.name = Str.ofString "law" := by kernel_rfl
end
theorem law_holds : rwL.Holds := hd (by
  intro w s₀ s₁ mg mb G Y a o pm cd doc dV kV ho hdat hcd hD hmg hg args vals as hpre hlay hrd hwl hlo
  have KX := kIn_of Y
  have T := G.T
  have ha : a = 880 := by
    have e := mg_of KX T.g (law_nm w.params)
    rw [law_name, e] at hmg
    cases hmg
    rfl
  subst ha
  obtain ⟨TT, h7, ht⟩ := topT_of T KX (.of_eq hg)
  clear T G Y ho hdat hcd hD hmg
  wrow_args hpre hlay hrd hwl hlo
  rename_i ns _ _ _ _ _ _ _ l vs _ hl _ _ _ hI _ hn _
  refine enter_call ?_
  refine codeAny_mono (s_law l vs ns hI (by (first | lia | omega)) (law_ok ns) (1 + claimMargin) 4 (some []) s₁ (fun v s' => KeepT s₁ s' ∧ v = .bool true) (fun _ _ => False) TT hl (by decide) (by decide) (fun s' k => ⟨k, rfl⟩)) fun r s' h => ?_
  match r, h with
  | .ok (.ret v), h =>
    obtain ⟨k, rfl⟩ := h
    exact ⟨.inl ⟨.bool true, .bool true, [], rfl, fun _ => rfl, .bool true, by first | rfl | wrow_post, unshared_nil⟩, keep_old h7 ht k, k.os, k.bare⟩)
end Mine
end
theorem PySem.Challenge.cw_oy0416_01_holds : PySem.Challenge.rw_oy0416_01.Holds :=
  Mine.law_holds

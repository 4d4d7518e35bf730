import PyProof.Rows.All
import Wide.All
import OpenK.AllK
import Wide.FinOn
import Open.Tops
import KE.KLam
import Lean
import PySem.Challenge.RW_in0143_02
set_option Elab.async false
set_option autoImplicit false
set_option genInjectivity false
set_option genSizeOf false
set_option linter.all false
set_option compiler.extract_closed false
namespace Mine
section
variable {G : Prop}
theorem ba {p0 p1 : Prop} (h : p0 /\ p1) (k : p0 -> p1 -> G) : G := k h.1 h.2
theorem bI {α0 : Sort _} {p0 : α0 -> Prop} (h : ∃ x0, p0 x0) (k : ∀ x0, p0 x0 -> G) : G := h.elim fun x0 h1 => k x0 h1
theorem nr {p0 p1 p2 : Prop} (h : p0 /\ p1 /\ p2) (k : p0 -> p1 -> p2 -> G) : G := k h.1 h.2.1 h.2.2
theorem ae {α0 : Sort _} {p0 p1 : α0 -> Prop} (h : ∃ x0, p0 x0 /\ p1 x0) (k : ∀ x0, p0 x0 -> p1 x0 -> G) : G := h.elim fun x0 h1 => k x0 h1.1 h1.2
theorem pB {α0 α1 : Sort _} {p0 : α0 -> α1 -> Prop} (h : ∃ x0 x1, p0 x0 x1) (k : ∀ x0 x1, p0 x0 x1 -> G) : G := h.elim fun x0 h1 => h1.elim fun x1 h2 => k x0 x1 h2
theorem eR {p0 p1 p2 p3 : Prop} (h : p0 /\ p1 /\ p2 /\ p3) (k : p0 -> p1 -> p2 -> p3 -> G) : G := k h.1 h.2.1 h.2.2.1 h.2.2.2
theorem cj {α0 : Sort _} {p0 : Prop} {p1 p2 : α0 -> Prop} (h : p0 /\ ∃ x0, p1 x0 /\ p2 x0) (k : p0 -> ∀ x0, p1 x0 -> p2 x0 -> G) : G := h.2.elim fun x0 h1 => k h.1 x0 h1.1 h1.2
theorem af {α0 : Sort _} {p0 p1 p2 : α0 -> Prop} (h : ∃ x0, p0 x0 /\ p1 x0 /\ p2 x0) (k : ∀ x0, p0 x0 -> p1 x0 -> p2 x0 -> G) : G := h.elim fun x0 h1 => k x0 h1.1 h1.2.1 h1.2.2
theorem ag {α0 α1 : Sort _} {p0 p1 : α0 -> α1 -> Prop} (h : ∃ x0 x1, p0 x0 x1 /\ p1 x0 x1) (k : ∀ x0 x1, p0 x0 x1 -> p1 x0 x1 -> G) : G := h.elim fun x0 h1 => h1.elim fun x1 h2 => k x0 x1 h2.1 h2.2
theorem yl {α0 α1 α2 : Sort _} {p0 : α0 -> α1 -> α2 -> Prop} (h : ∃ x0 x1 x2, p0 x0 x1 x2) (k : ∀ x0 x1 x2, p0 x0 x1 x2 -> G) : G := h.elim fun x0 h1 => h1.elim fun x1 h2 => h2.elim fun x2 h3 => k x0 x1 x2 h3
theorem Cg {α0 : Sort _} {p0 p1 : Prop} {p2 p3 : α0 -> Prop} (h : p0 /\ p1 /\ ∃ x0, p2 x0 /\ p3 x0) (k : p0 -> p1 -> ∀ x0, p2 x0 -> p3 x0 -> G) : G := h.2.2.elim fun x0 h1 => k h.1 h.2.1 x0 h1.1 h1.2
theorem qJ {α0 : Sort _} {p0 : Prop} {p1 p2 p3 : α0 -> Prop} (h : p0 /\ ∃ x0, p1 x0 /\ p2 x0 /\ p3 x0) (k : p0 -> ∀ x0, p1 x0 -> p2 x0 -> p3 x0 -> G) : G := h.2.elim fun x0 h1 => k h.1 x0 h1.1 h1.2.1 h1.2.2
theorem m6 {α0 : Sort _} {p0 p1 p2 p3 : α0 -> Prop} (h : ∃ x0, p0 x0 /\ p1 x0 /\ p2 x0 /\ p3 x0) (k : ∀ x0, p0 x0 -> p1 x0 -> p2 x0 -> p3 x0 -> G) : G := h.elim fun x0 h1 => k x0 h1.1 h1.2.1 h1.2.2.1 h1.2.2.2
theorem yj {α0 α1 : Sort _} {p0 p1 : α0 -> Prop} {p2 : α0 -> α1 -> Prop} (h : ∃ x0, p0 x0 /\ p1 x0 /\ ∃ x1, p2 x0 x1) (k : ∀ x0, p0 x0 -> p1 x0 -> ∀ x1, p2 x0 x1 -> G) : G := h.elim fun x0 h1 => h1.2.2.elim fun x1 h2 => k x0 h1.1 h1.2.1 x1 h2
theorem aN {α0 α1 : Sort _} {p0 p1 p2 : α0 -> α1 -> Prop} (h : ∃ x0 x1, p0 x0 x1 /\ p1 x0 x1 /\ p2 x0 x1) (k : ∀ x0 x1, p0 x0 x1 -> p1 x0 x1 -> p2 x0 x1 -> G) : G := h.elim fun x0 h1 => h1.elim fun x1 h2 => k x0 x1 h2.1 h2.2.1 h2.2.2
theorem ak {α0 α1 α2 : Sort _} {p0 p1 : α0 -> α1 -> α2 -> Prop} (h : ∃ x0 x1 x2, p0 x0 x1 x2 /\ p1 x0 x1 x2) (k : ∀ x0 x1 x2, p0 x0 x1 x2 -> p1 x0 x1 x2 -> G) : G := h.elim fun x0 h1 => h1.elim fun x1 h2 => h2.elim fun x2 h3 => k x0 x1 x2 h3.1 h3.2
theorem j7 {α0 : Sort _} {p0 p1 p2 p3 p4 : α0 -> Prop} (h : ∃ x0, p0 x0 /\ p1 x0 /\ p2 x0 /\ p3 x0 /\ p4 x0) (k : ∀ x0, p0 x0 -> p1 x0 -> p2 x0 -> p3 x0 -> p4 x0 -> G) : G := h.elim fun x0 h1 => k x0 h1.1 h1.2.1 h1.2.2.1 h1.2.2.2.1 h1.2.2.2.2
theorem sG {α0 α1 : Sort _} {p0 p1 : α0 -> Prop} {p2 p3 : α0 -> α1 -> Prop} (h : ∃ x0, p0 x0 /\ p1 x0 /\ ∃ x1, p2 x0 x1 /\ p3 x0 x1) (k : ∀ x0, p0 x0 -> p1 x0 -> ∀ x1, p2 x0 x1 -> p3 x0 x1 -> G) : G := h.elim fun x0 h1 => h1.2.2.elim fun x1 h2 => k x0 h1.1 h1.2.1 x1 h2.1 h2.2
theorem s8 {α0 α1 : Sort _} {p0 : α0 -> Prop} {p1 p2 p3 : α0 -> α1 -> Prop} (h : ∃ x0, p0 x0 /\ ∃ x1, p1 x0 x1 /\ p2 x0 x1 /\ p3 x0 x1) (k : ∀ x0, p0 x0 -> ∀ x1, p1 x0 x1 -> p2 x0 x1 -> p3 x0 x1 -> G) : G := h.elim fun x0 h1 => h1.2.elim fun x1 h2 => k x0 h1.1 x1 h2.1 h2.2.1 h2.2.2
theorem bH {α0 α1 : Sort _} {p0 p1 p2 p3 : α0 -> α1 -> Prop} (h : ∃ x0 x1, p0 x0 x1 /\ p1 x0 x1 /\ p2 x0 x1 /\ p3 x0 x1) (k : ∀ x0 x1, p0 x0 x1 -> p1 x0 x1 -> p2 x0 x1 -> p3 x0 x1 -> G) : G := h.elim fun x0 h1 => h1.elim fun x1 h2 => k x0 x1 h2.1 h2.2.1 h2.2.2.1 h2.2.2.2
theorem du {α0 α1 α2 : Sort _} {p0 p1 p2 : α0 -> α1 -> α2 -> Prop} (h : ∃ x0 x1 x2, p0 x0 x1 x2 /\ p1 x0 x1 x2 /\ p2 x0 x1 x2) (k : ∀ x0 x1 x2, p0 x0 x1 x2 -> p1 x0 x1 x2 -> p2 x0 x1 x2 -> G) : G := h.elim fun x0 h1 => h1.elim fun x1 h2 => h2.elim fun x2 h3 => k x0 x1 x2 h3.1 h3.2.1 h3.2.2
theorem iG {α0 α1 α2 α3 : Sort _} {p0 p1 : α0 -> α1 -> α2 -> α3 -> Prop} (h : ∃ x0 x1 x2 x3, p0 x0 x1 x2 x3 /\ p1 x0 x1 x2 x3) (k : ∀ x0 x1 x2 x3, p0 x0 x1 x2 x3 -> p1 x0 x1 x2 x3 -> G) : G := h.elim fun x0 h1 => h1.elim fun x1 h2 => h2.elim fun x2 h3 => h3.elim fun x3 h4 => k x0 x1 x2 x3 h4.1 h4.2
theorem bP {α0 α1 : Sort _} {p0 : Prop} {p1 p2 : α0 -> Prop} {p3 p4 : α0 -> α1 -> Prop} (h : p0 /\ ∃ x0, p1 x0 /\ p2 x0 /\ ∃ x1, p3 x0 x1 /\ p4 x0 x1) (k : p0 -> ∀ x0, p1 x0 -> p2 x0 -> ∀ x1, p3 x0 x1 -> p4 x0 x1 -> G) : G := h.2.elim fun x0 h1 => h1.2.2.elim fun x1 h2 => k h.1 x0 h1.1 h1.2.1 x1 h2.1 h2.2
theorem wk {α0 α1 : Sort _} {p0 : α0 -> Prop} {p1 p2 p3 p4 : α0 -> α1 -> Prop} (h : ∃ x0, p0 x0 /\ ∃ x1, p1 x0 x1 /\ p2 x0 x1 /\ p3 x0 x1 /\ p4 x0 x1) (k : ∀ x0, p0 x0 -> ∀ x1, p1 x0 x1 -> p2 x0 x1 -> p3 x0 x1 -> p4 x0 x1 -> G) : G := h.elim fun x0 h1 => h1.2.elim fun x1 h2 => k x0 h1.1 x1 h2.1 h2.2.1 h2.2.2.1 h2.2.2.2
theorem b8 {α0 α1 : Sort _} {p0 p1 p2 p3 p4 : α0 -> α1 -> Prop} (h : ∃ x0 x1, p0 x0 x1 /\ p1 x0 x1 /\ p2 x0 x1 /\ p3 x0 x1 /\ p4 x0 x1) (k : ∀ x0 x1, p0 x0 x1 -> p1 x0 x1 -> p2 x0 x1 -> p3 x0 x1 -> p4 x0 x1 -> G) : G := h.elim fun x0 h1 => h1.elim fun x1 h2 => k x0 x1 h2.1 h2.2.1 h2.2.2.1 h2.2.2.2.1 h2.2.2.2.2
theorem iK {α0 α1 α2 : Sort _} {p0 p1 p2 p3 : α0 -> α1 -> α2 -> Prop} (h : ∃ x0 x1 x2, p0 x0 x1 x2 /\ p1 x0 x1 x2 /\ p2 x0 x1 x2 /\ p3 x0 x1 x2) (k : ∀ x0 x1 x2, p0 x0 x1 x2 -> p1 x0 x1 x2 -> p2 x0 x1 x2 -> p3 x0 x1 x2 -> G) : G := h.elim fun x0 h1 => h1.elim fun x1 h2 => h2.elim fun x2 h3 => k x0 x1 x2 h3.1 h3.2.1 h3.2.2.1 h3.2.2.2
theorem iJ {α0 α1 α2 α3 : Sort _} {p0 p1 p2 : α0 -> α1 -> α2 -> α3 -> Prop} (h : ∃ x0 x1 x2 x3, p0 x0 x1 x2 x3 /\ p1 x0 x1 x2 x3 /\ p2 x0 x1 x2 x3) (k : ∀ x0 x1 x2 x3, p0 x0 x1 x2 x3 -> p1 x0 x1 x2 x3 -> p2 x0 x1 x2 x3 -> G) : G := h.elim fun x0 h1 => h1.elim fun x1 h2 => h2.elim fun x2 h3 => h3.elim fun x3 h4 => k x0 x1 x2 x3 h4.1 h4.2.1 h4.2.2
theorem tV {α0 α1 α2 α3 : Sort _} {p0 p1 : α0 -> Prop} {p2 p3 : α0 -> α1 -> α2 -> α3 -> Prop} (h : ∃ x0, p0 x0 /\ p1 x0 /\ ∃ x1 x2 x3, p2 x0 x1 x2 x3 /\ p3 x0 x1 x2 x3) (k : ∀ x0, p0 x0 -> p1 x0 -> ∀ x1 x2 x3, p2 x0 x1 x2 x3 -> p3 x0 x1 x2 x3 -> G) : G := h.elim fun x0 h1 => h1.2.2.elim fun x1 h2 => h2.elim fun x2 h3 => h3.elim fun x3 h4 => k x0 h1.1 h1.2.1 x1 x2 x3 h4.1 h4.2
theorem a8 {α0 α1 : Sort _} {p0 p1 p2 p3 p4 p5 : α0 -> α1 -> Prop} (h : ∃ x0 x1, p0 x0 x1 /\ p1 x0 x1 /\ p2 x0 x1 /\ p3 x0 x1 /\ p4 x0 x1 /\ p5 x0 x1) (k : ∀ x0 x1, p0 x0 x1 -> p1 x0 x1 -> p2 x0 x1 -> p3 x0 x1 -> p4 x0 x1 -> p5 x0 x1 -> G) : G := h.elim fun x0 h1 => h1.elim fun x1 h2 => k x0 x1 h2.1 h2.2.1 h2.2.2.1 h2.2.2.2.1 h2.2.2.2.2.1 h2.2.2.2.2.2
theorem aY {α0 α1 α2 : Sort _} {p0 p1 p2 p3 p4 : α0 -> α1 -> α2 -> Prop} (h : ∃ x0 x1 x2, p0 x0 x1 x2 /\ p1 x0 x1 x2 /\ p2 x0 x1 x2 /\ p3 x0 x1 x2 /\ p4 x0 x1 x2) (k : ∀ x0 x1 x2, p0 x0 x1 x2 -> p1 x0 x1 x2 -> p2 x0 x1 x2 -> p3 x0 x1 x2 -> p4 x0 x1 x2 -> G) : G := h.elim fun x0 h1 => h1.elim fun x1 h2 => h2.elim fun x2 h3 => k x0 x1 x2 h3.1 h3.2.1 h3.2.2.1 h3.2.2.2.1 h3.2.2.2.2
theorem gZ {α0 α1 : Sort _} {p0 p1 p2 p3 p4 p5 p6 : α0 -> α1 -> Prop} (h : ∃ x0 x1, p0 x0 x1 /\ p1 x0 x1 /\ p2 x0 x1 /\ p3 x0 x1 /\ p4 x0 x1 /\ p5 x0 x1 /\ p6 x0 x1) (k : ∀ x0 x1, p0 x0 x1 -> p1 x0 x1 -> p2 x0 x1 -> p3 x0 x1 -> p4 x0 x1 -> p5 x0 x1 -> p6 x0 x1 -> G) : G := h.elim fun x0 h1 => h1.elim fun x1 h2 => k x0 x1 h2.1 h2.2.1 h2.2.2.1 h2.2.2.2.1 h2.2.2.2.2.1 h2.2.2.2.2.2.1 h2.2.2.2.2.2.2
theorem pk {α0 α1 α2 α3 : Sort _} {p0 p1 p2 p3 p4 p5 : α0 -> α1 -> α2 -> α3 -> Prop} (h : ∃ x0 x1 x2 x3, p0 x0 x1 x2 x3 /\ p1 x0 x1 x2 x3 /\ p2 x0 x1 x2 x3 /\ p3 x0 x1 x2 x3 /\ p4 x0 x1 x2 x3 /\ p5 x0 x1 x2 x3) (k : ∀ x0 x1 x2 x3, p0 x0 x1 x2 x3 -> p1 x0 x1 x2 x3 -> p2 x0 x1 x2 x3 -> p3 x0 x1 x2 x3 -> p4 x0 x1 x2 x3 -> p5 x0 x1 x2 x3 -> G) : G := h.elim fun x0 h1 => h1.elim fun x1 h2 => h2.elim fun x2 h3 => h3.elim fun x3 h4 => k x0 x1 x2 x3 h4.1 h4.2.1 h4.2.2.1 h4.2.2.2.1 h4.2.2.2.2.1 h4.2.2.2.2.2
theorem qa {α0 α1 α2 α3 α4 α5 : Sort _} {p0 p1 p2 p3 : α0 -> α1 -> α2 -> α3 -> α4 -> α5 -> Prop} (h : ∃ x0 x1 x2 x3 x4 x5, p0 x0 x1 x2 x3 x4 x5 /\ p1 x0 x1 x2 x3 x4 x5 /\ p2 x0 x1 x2 x3 x4 x5 /\ p3 x0 x1 x2 x3 x4 x5) (k : ∀ x0 x1 x2 x3 x4 x5, p0 x0 x1 x2 x3 x4 x5 -> p1 x0 x1 x2 x3 x4 x5 -> p2 x0 x1 x2 x3 x4 x5 -> p3 x0 x1 x2 x3 x4 x5 -> G) : G := h.elim fun x0 h1 => h1.elim fun x1 h2 => h2.elim fun x2 h3 => h3.elim fun x3 h4 => h4.elim fun x4 h5 => h5.elim fun x5 h6 => k x0 x1 x2 x3 x4 x5 h6.1 h6.2.1 h6.2.2.1 h6.2.2.2
theorem iP {α0 α1 : Sort _} {p0 p1 p2 p3 p4 p5 p6 p7 p8 : α0 -> α1 -> Prop} (h : ∃ x0 x1, p0 x0 x1 /\ p1 x0 x1 /\ p2 x0 x1 /\ p3 x0 x1 /\ p4 x0 x1 /\ p5 x0 x1 /\ p6 x0 x1 /\ p7 x0 x1 /\ p8 x0 x1) (k : ∀ x0 x1, p0 x0 x1 -> p1 x0 x1 -> p2 x0 x1 -> p3 x0 x1 -> p4 x0 x1 -> p5 x0 x1 -> p6 x0 x1 -> p7 x0 x1 -> p8 x0 x1 -> G) : G := h.elim fun x0 h1 => h1.elim fun x1 h2 => k x0 x1 h2.1 h2.2.1 h2.2.2.1 h2.2.2.2.1 h2.2.2.2.2.1 h2.2.2.2.2.2.1 h2.2.2.2.2.2.2.1 h2.2.2.2.2.2.2.2.1 h2.2.2.2.2.2.2.2.2
theorem nH {α0 α1 α2 α3 α4 : Sort _} {p0 p1 p2 p3 p4 p5 : α0 -> α1 -> α2 -> α3 -> α4 -> Prop} (h : ∃ x0 x1 x2 x3 x4, p0 x0 x1 x2 x3 x4 /\ p1 x0 x1 x2 x3 x4 /\ p2 x0 x1 x2 x3 x4 /\ p3 x0 x1 x2 x3 x4 /\ p4 x0 x1 x2 x3 x4 /\ p5 x0 x1 x2 x3 x4) (k : ∀ x0 x1 x2 x3 x4, p0 x0 x1 x2 x3 x4 -> p1 x0 x1 x2 x3 x4 -> p2 x0 x1 x2 x3 x4 -> p3 x0 x1 x2 x3 x4 -> p4 x0 x1 x2 x3 x4 -> p5 x0 x1 x2 x3 x4 -> G) : G := h.elim fun x0 h1 => h1.elim fun x1 h2 => h2.elim fun x2 h3 => h3.elim fun x3 h4 => h4.elim fun x4 h5 => k x0 x1 x2 x3 x4 h5.1 h5.2.1 h5.2.2.1 h5.2.2.2.1 h5.2.2.2.2.1 h5.2.2.2.2.2
theorem lY {α0 α1 α2 α3 : Sort _} {p0 p1 p2 p3 p4 p5 p6 p7 : α0 -> α1 -> α2 -> α3 -> Prop} (h : ∃ x0 x1 x2 x3, p0 x0 x1 x2 x3 /\ p1 x0 x1 x2 x3 /\ p2 x0 x1 x2 x3 /\ p3 x0 x1 x2 x3 /\ p4 x0 x1 x2 x3 /\ p5 x0 x1 x2 x3 /\ p6 x0 x1 x2 x3 /\ p7 x0 x1 x2 x3) (k : ∀ x0 x1 x2 x3, p0 x0 x1 x2 x3 -> p1 x0 x1 x2 x3 -> p2 x0 x1 x2 x3 -> p3 x0 x1 x2 x3 -> p4 x0 x1 x2 x3 -> p5 x0 x1 x2 x3 -> p6 x0 x1 x2 x3 -> p7 x0 x1 x2 x3 -> G) : G := h.elim fun x0 h1 => h1.elim fun x1 h2 => h2.elim fun x2 h3 => h3.elim fun x3 h4 => k x0 x1 x2 x3 h4.1 h4.2.1 h4.2.2.1 h4.2.2.2.1 h4.2.2.2.2.1 h4.2.2.2.2.2.1 h4.2.2.2.2.2.2.1 h4.2.2.2.2.2.2.2
theorem lH {α0 α1 α2 α3 α4 α5 α6 α7 : Sort _} {p0 p1 p2 p3 p4 : α0 -> α1 -> α2 -> α3 -> α4 -> α5 -> α6 -> α7 -> Prop} (h : ∃ x0 x1 x2 x3 x4 x5 x6 x7, p0 x0 x1 x2 x3 x4 x5 x6 x7 /\ p1 x0 x1 x2 x3 x4 x5 x6 x7 /\ p2 x0 x1 x2 x3 x4 x5 x6 x7 /\ p3 x0 x1 x2 x3 x4 x5 x6 x7 /\ p4 x0 x1 x2 x3 x4 x5 x6 x7) (k : ∀ x0 x1 x2 x3 x4 x5 x6 x7, p0 x0 x1 x2 x3 x4 x5 x6 x7 -> p1 x0 x1 x2 x3 x4 x5 x6 x7 -> p2 x0 x1 x2 x3 x4 x5 x6 x7 -> p3 x0 x1 x2 x3 x4 x5 x6 x7 -> p4 x0 x1 x2 x3 x4 x5 x6 x7 -> G) : G := h.elim fun x0 h1 => h1.elim fun x1 h2 => h2.elim fun x2 h3 => h3.elim fun x3 h4 => h4.elim fun x4 h5 => h5.elim fun x5 h6 => h6.elim fun x6 h7 => h7.elim fun x7 h8 => k x0 x1 x2 x3 x4 x5 x6 x7 h8.1 h8.2.1 h8.2.2.1 h8.2.2.2.1 h8.2.2.2.2
end
section
@[elab_as_elim] theorem aa.{u} {α : Sort u} {a b : α} {P : α -> Prop} (h : a = b) (k : P b) : P a := h ▸ k
@[elab_as_elim] theorem bw.{u} {α : Sort u} {a b : α} {P : α -> Prop} (h : a = b) (k : P a) : P b := h ▸ k
@[elab_as_elim] theorem oE.{u} {α : Type u} {a b : α} {P : α -> Prop} (h : some a = some b) (k : P a) : P b := Option.some.inj h ▸ k
end
section
open PySem PySem.W
set_option maxRecDepth 100000
set_option maxHeartbeats 0
noncomputable section
noncomputable abbrev pw : Program := PySem.Challenge.pw_in0143_02
noncomputable def e (P : Params) (x : String) (t : Tok) (v : Value) : DictEntry := ⟨PyData.keyHash P (Str.ofString x), .str (Str.ofString x) t, v⟩
noncomputable def dO (c : Value) (ep : Nat) (es : List DictEntry) : Obj := { cls := c, data := .dict ⟨es⟩ ep }
noncomputable def oS (P : Params) : Obj := dO (.none) 24 [e P "\x69mport.loaded._sre" 183 (.bool true), e P "class._frozen_importlib.BuiltinImporter" 185 (.ref 14), e P "watched.\x69mport" 206 (.ref 18), e P "class._frozen_importlib.ModuleSpec" 216 (.ref 22), e P "sys.modules.booked-epoch" 245 (.int 6 0), e P "\x69mport.later-laid._sre" 270 (.bool true), e P "watched.library" 272 (.ref 27), e P "watched.library-objects" 0 (.str "\x0c\x1e$;" 0), e P "watched.library-deep._sre" 273 (.str "\x04\x00\x00\x0b\x04\x00\x00\x0b\x04\x00\x00\x03\x04\x00\x00\x0b\x08\x04dict\x02" 0), e P "\x69mport.loaded._collections" 280 (.bool true), e P "sys.modules.landed._collections" 294 (.bool true), e P "\x69mport.later-laid._collections" 309 (.bool true), e P "watched.library-deep._collections" 311 (.str "\x04\x00\x00\x1d\x04\x00\x00\x1d\x04\x00\x00\x03\x04\x00\x00\x1d\x08\x04dict\x02" 0), e P "\x69mport.loaded._datetime" 326 (.bool true), e P "class._frozen_importlib_external._LoaderBasics" 331 (.ref 39), e P "class._frozen_importlib_external.FileLoader" 347 (.ref 44), e P "class._frozen_importlib_external.ExtensionFileLoader" 368 (.ref 49), e P "datetime.timedelta.zero" 418 (.ref 55), e P "datetime.timezone.utc" 419 (.ref 56), e P "\x69mport.later-laid._datetime" 422 (.bool true), e P "\x69mport.loaded._functools" 446 (.bool true), e P "sys.modules.landed._functools" 460 (.bool true), e P "\x69mport.later-laid._functools" 473 (.bool true), e P "watched.library-deep._functools" 475 (.str "\x04\x00\x00:\x04\x00\x00:\x04\x00\x00\x03\x04\x00\x00:\x08\x04dict\x02" 0)]
noncomputable def oR (P : Params) : Obj := dO (.type "dict") 17 [e P "__name__" 247 (.str "_sre" 246), e P "__doc__" 248 (.none), e P "__package__" 250 (.str "" 249), e P "__loader__" 251 (.builtin "off-the-table:_sre.__loader__:shared#opaque"), e P "__spec__" 252 (.builtin "off-the-table:_sre.__spec__:shared#opaque"), e P "compile" 253 (.builtin "_sre.compile"), e P "template" 254 (.builtin "off-the-table:_sre.template:shared#opaque"), e P "getcodesize" 255 (.builtin "off-the-table:_sre.getcodesize:shared#opaque"), e P "ascii_iscased" 256 (.builtin "off-the-table:_sre.ascii_iscased:shared#opaque"), e P "unicode_iscased" 257 (.builtin "off-the-table:_sre.unicode_iscased:shared#opaque"), e P "ascii_tolower" 258 (.builtin "off-the-table:_sre.ascii_tolower:shared#opaque"), e P "unicode_tolower" 259 (.builtin "off-the-table:_sre.unicode_tolower:shared#opaque"), e P "MAGIC" 261 (.int 20230612 260), e P "CODESIZE" 263 (.int 4 262), e P "MAXREPEAT" 265 (.int 4294967295 264), e P "MAXGROUPS" 267 (.int 1073741823 266), e P "copyright" 269 (.str " SRE 2.2.2 Copyright (c) 1997-2002 by Secret Labs AB " 268)]
noncomputable def mE (P : Params) : List DictEntry := [e P "__doc__" 166 (.none), e P "__package__" 167 (.none), e P "__loader__" 168 (.builtin "__main__.__loader__#opaque"), e P "__spec__" 169 (.none), e P "__annotations__" 170 (.ref 6), e P "__builtins__" 171 (.ref 4), e P "__file__" 173 (.str "/claim/cut.py" 172), e P "__cached__" 174 (.none), e P "_sre" 275 (.ref 12), e P "_tuplegetter" 317 (.type "collections._tuplegetter"), e P "date" 429 (.type "datetime.date"), e P "datetime" 432 (.type "datetime.datetime"), e P "time" 435 (.type "datetime.time"), e P "timedelta" 438 (.type "datetime.timedelta"), e P "timezone" 441 (.type "datetime.timezone"), e P "_lru_cache_wrapper" 481 (.type "functools._lru_cache_wrapper")]
noncomputable def mF (P : Params) : List DictEntry := [e P "_wall" 494 (.ref 73), e P "_WallAttr" 534 (.ref 98), e P "RE_NUMBER" 792 (.ref 107), e P "RE_LOCALTIME" 905 (.ref 112), e P "RE_DATETIME" 1210 (.ref 117), e P "match_to_datetime" 1236 (.ref 124), e P "WRAPPER_ASSIGNMENTS" 1244 (.ref 125), e P "WRAPPER_UPDATES" 1246 (.ref 126), e P "update_wrapper" 1258 (.ref 134), e P "CacheInfo" 1362 (.ref 198), e P "_CacheInfo" 1363 (.ref 198), e P "lru_cache" 1377 (.ref 209), e P "cached_tz" 1445 (.ref 232), e P "match_to_localtime" 1457 (.ref 252), e P "match_to_number" 1465 (.ref 259), e P "MAX_KEY_PARTS" 1469 (.int 1000 1468)]
noncomputable def oM (P : Params) : Obj := dO (.type "dict") 17 (e P "__name__" 165 (.str "__main__" 164) :: mE P)
noncomputable def oN (P : Params) : Obj := dO (.type "dict") 33 (e P "__name__" 165 (.str "cpy313.tomllib._parser" 1466) :: mE P ++ mF P)
noncomputable def oC : Obj := { cls := .none, data := .fields #[.int 5 0, .int 0 0, .ref 72, .int 8 0, .int 0 0, .ref 79, .int 18 0, .int 0 0, .ref 123, .int 35 0, .int 0 0, .ref 133, .int 80 0, .int 0 0, .ref 140, .int 116 0, .int 0 0, .ref 208, .int 135 0, .int 0 0, .ref 226, .int 138 0, .int 0 0, .ref 251, .int 142 0, .int 0 0, .ref 258] }
noncomputable def oK : Obj := { cls := .type "code", data := .fields #[.str "<module>" 483, .str "<module>" 484, .str "/claim/cut.py" 485, .int 1 0, .int 0 0, .int 0 0, .int 0 0, .int 0 0, .ref 63, .bool false, .int 482 0, .ref 64, .none, .none, .none, .none, .int 486 0, .int 1 0, .str "/claim/cut.py" 487] }
noncomputable def oW : Obj := { cls := .type "type", data := .cls { name := "_WallAttr", bases := [.type "object"], mro := [.ref 98, .type "object"], ns := 97, qualname := "_WallAttr" }, slots := #[none, none, some (.str "_WallAttr" 495), some (.str "_WallAttr" 503), some (.builtin "object.__new__"), some (.bool true)] }
noncomputable def oB (P : Params) : Obj := boot_o_0 P
noncomputable def oI : Obj := { cls := .type "module", dict := some 0 }
noncomputable def oJ : Obj := { cls := .type "module", dict := some 11 }
noncomputable def zZ : List (Nat × Obj) -> (Nat -> Obj) -> Nat -> Obj
 | [], Y, a => Y a
 | (k, o) :: r, Y, a => bif Nat.beq a k then o else zZ r Y a
noncomputable def pW (X : Nat -> Obj) : Nat -> Nat -> BT -> BT
 | 0, _, T => T
 | n + 1, a, T => pW X n (a + 1) (T.ins a (X a))
noncomputable def wN (P : Params) : List (Nat × Obj) := [(0, oB P), (2, oS P), (3, oM P), (4, oI), (11, oR P), (12, oJ)]
noncomputable def qy (P : Params) : List (Nat × Obj) := [(0, oB P), (2, oS P), (3, oN P), (4, oI), (64, oC), (65, oK), (98, oW)]
noncomputable abbrev cS : Array GenState := ⟨[]⟩
noncomputable abbrev ax : Array GenState := ⟨[.finished]⟩
noncomputable abbrev q0 : Pos := ⟨0, 0, 0, 0⟩
noncomputable def ay : List Stmt := behindTheImports pw
noncomputable def eB : Env := { scope := pw.main.scope, locals := mainNs, globals := mainNs, cells := [], code := .ref 65, frame := some 66 }
end
noncomputable section
noncomputable def sT (x : Option (SharedT × Thread)) : SharedT := match x with | some (a, _) => a | none => ⟨.nil, 0, {}, ⟨[]⟩, {}, 0, {}⟩
noncomputable def Fp (x : Option (SharedT × Thread)) : Thread := match x with | some (_, t) => t | none => topStub pw
noncomputable def yD (w : World) : Option (SharedT × Thread) := Fast.tw14789777615569096658 Fast.tw14364793385576792824 (opening pw) w 2036 ⟨.nil, 0, {}, ⟨[]⟩, {}, 1, (start (opening pw)).1.os⟩ (start (opening pw)).2
noncomputable def zE (w : World) : Shared := match Fast.tw14289696077712309145 pw (sT (yD w)).abs with | some s => s | none => ⟨{}, ⟨[]⟩, {}, 0, {}⟩
noncomputable def vX (o : Option Obj) : Bool := match o with | some o => (alive o).isSome | none => false
theorem v9 (w : World) : yD w = some (sT (yD w), Fp (yD w)) /\ (Fp (yD w)).atExitBegin = some [] /\ Fast.tw14289696077712309145 pw (sT (yD w)).abs = some (zE w) /\
  (zE w).heap.objs.size = 63 /\ (zE w).heap.life = {} /\ (zE w).gens = ⟨[]⟩ /\ (zE w).drawn = {} /\ (zE w).toks = 482 /\ (sT (yD w)).life = {} /\
  (wN w.params).map (fun p => (zE w).heap.objs[p.1]?) = (wN w.params).map (fun p => some p.2) /\ (List.range 63).all (fun a => vX (zE w).heap.objs[a]?) = true := by
 refine ⟨?_, ?_, ?_, ?_, ?_, ?_, ?_, ?_, ?_, ?_, ?_⟩ <;> kernel_rfl
end
end
section
open PySem PySem.W
section
variable {p : Program} {w : World}
inductive qw (p : Program) (w : World) : Shared -> Thread -> Shared -> Thread -> Prop
 | refl {s t} : qw p w s t s t
 | step {s t s₁ t₁ s' t'} : t.calm = true -> PySem.step (denote table) p w s t = .go s₁ t₁ -> qw p w s₁ t₁ s' t' -> qw p w s t s' t'
inductive Go (p : Program) (w : World) (b : Nat) : Shared -> Thread -> Shared -> Thread -> Prop
 | refl {s t} : Go p w b s t s t
 | step {s t s₁ t₁ s' t'} : endAt b t = none -> t.calm = true -> PySem.step (denote table) p w s t = .go s₁ t₁ -> Go p w b s₁ t₁ s' t' -> Go p w b s t s' t'
theorem qw.trans {s t s₁ t₁ s' t'} (a : qw p w s t s₁ t₁) : qw p w s₁ t₁ s' t' -> qw p w s t s' t' := by
 induction a with
 | refl => exact id
 | step hc hs _ ih => exact fun b => .step hc hs (ih b)
theorem Go.trans {b : Nat} {s t s₁ t₁ s' t'} (a : Go p w b s t s₁ t₁) : Go p w b s₁ t₁ s' t' -> Go p w b s t s' t' := by
 induction a with
 | refl => exact id
 | step he hc hs _ ih => exact fun b => .step he hc hs (ih b)
theorem lK {n₀ : Nat} {ann : Option Value} {t : Thread} (h : stepOk n₀ ann t = true) : t.calm = true := (Bool.and_eq_true_iff.mp h).1
theorem Go.lb {n₀ : Nat} {ann : Option Value} {b : Nat} : ∀ {n : Nat} {s s' : Shared} {t t' : Thread}, segGo table p w n₀ ann b n s t = some (s', t') -> Go p w b s t s' t'
 | 0, s, s', t, t', h => by
  obtain ⟨rfl, rfl⟩ : s = s' /\ t = t' := by simpa [segGo] using h
  exact .refl
 | n + 1, s, s', t, t', h => by
  unfold segGo at h
  cases he : endAt b t with
  | some f => rw [he] at h; cases h
  | none =>
   rw [he] at h
   cases hk : stepOk n₀ ann t with
   | false => rw [hk] at h; cases h
   | true =>
    rw [hk] at h
    cases hs : PySem.step (denote table) p w s t with
    | halt o s₂ => rw [hs] at h; exact nomatch h
    | go s₂ t₂ => rw [hs] at h; exact .step he (lK hk) hs (Go.lb h)
theorem Go.mZ {n₀ : Nat} {ann : Option Value} {b : Nat} : ∀ {n : Nat} {s s' : Shared} {t : Thread} {f : Flow} {c : Code} {q : Pos}, segRun table p w n₀ ann b n s t = some (f, s', c, q) ->
  ∃ t', Go p w b s t s' t' /\ endAt b t' = some f /\ t'.code = c /\ t'.pos = q
 | 0, _, _, _, _, _, _, h => by cases h
 | n + 1, s, s', t, f, c, q, h => by
  unfold segRun at h
  cases he : endAt b t with
  | some g =>
   rw [he] at h
   obtain ⟨rfl, rfl, rfl, rfl⟩ : g = f /\ s = s' /\ t.code = c /\ t.pos = q := by simpa using h
   exact ⟨t, .refl, he, rfl, rfl⟩
  | none =>
   rw [he] at h
   cases hk : stepOk n₀ ann t with
   | false => rw [hk] at h; cases h
   | true =>
    rw [hk] at h
    cases hs : PySem.step (denote table) p w s t with
    | halt o s₂ => rw [hs] at h; exact nomatch h
    | go s₂ t₂ =>
     rw [hs] at h
     refine ae (Go.mZ h) fun t' a r => ?_
     exact ⟨t', .step he (lK hk) hs a, r⟩
theorem lD {α : Type} {K K' : α -> Sem Fin} {H' : Value -> Sem Fin} {gd : Bool -> Bool} {lv : List Value -> List Value} {B : List Frame} {x : Sem α} {code : Code} {pos : Pos}
  (hp : ∀ a, x ≠ .pure a) (hr : ∀ e, x ≠ .raise e) (h : Thread.calm ⟨x.wrap K deadEnd gd lv, code, pos, B⟩ = true) : Thread.calm ⟨x.wrap K' H' gd lv, code, pos, B⟩ = true := by
 cases x with
 | pure a => exact absurd rfl (hp a)
 | raise e => exact absurd rfl (hr e)
 | _ => exact h
theorem ka {α : Type} {K K' : α -> Sem Fin} {H H' : Value -> Sem Fin} {gd : Bool -> Bool} {lv : List Value -> List Value} {B : List Frame} (hB : splitAtGen B = none) {cur : Sem Fin} {code : Code} {pos : Pos} {a b : List Frame}
  (F : Frames2 K K' H H' gd lv B a b) (h : Thread.calm ⟨cur, code, pos, a⟩ = true) : Thread.calm ⟨cur, code, pos, b⟩ = true := by
 have e : Thread.calm ⟨cur, code, pos, b⟩ = Thread.calm ⟨cur, code, pos, a⟩ := by
  rcases F.split hB with ⟨u, v⟩ | ⟨fs, n, k, k', c, p, ra, rb, u, v, _⟩ <;> (cases cur <;> first | rfl | simp only [Thread.calm, Thread.yieldsInsideHandler, Thread.atCollectorCode, Thread.atExit, u, v])
 exact e.trans h
section
variable {α : Type} {B : List Frame} {K' : α -> Sem Fin} {H' : Value -> Sem Fin} {gd : Bool -> Bool} {lv : List Value -> List Value} {res : α -> Flow}
theorem Go.lift (hB : splitAtGen B = none) {s s' : Shared} {t t' : Thread} (g : Go p w B.length s t s' t') : ∀ {f : Flow} {tt : Thread}, endAt B.length t' = some f ->
  Rel2 (fun a => .pure (.done (res a))) K' deadEnd H' gd lv B t tt -> ∃ a, res a = f /\ qw p w s tt s' ⟨K' a, t'.code, t'.pos, B⟩ := by
 induction g with
 | @refl s t =>
  intro f tt he R
  obtain ⟨cur, code, pos, st⟩ := t
  obtain ⟨cur', code', pos', st'⟩ := tt
  refine nr R ?_; clear R; intro e1 e2 R
  dsimp only at e1 e2 R
  subst e1 e2
  rcases R with ⟨rfl, rfl, x, rfl, rfl⟩ | ⟨rfl, F⟩
  ·have hx : ∃ a, x = .pure a /\ res a = f := by
    cases x with
    | pure a => simp only [endAt, Sem.wrap, beq_self_eq_true, Option.some.injEq] at he; exact ⟨a, rfl, he⟩
    | _ => simp [endAt, Sem.wrap] at he
   refine ae hx ?_; clear hx; intro a q1 q2; refine aa q1 ?_; refine bw q2 ?_
   exact ⟨a, rfl, .refl⟩
  ·have l := F.longer.1
   have : ((st.length == B.length) = false) := beq_eq_false_iff_ne.mpr (Nat.ne_of_gt l)
   simp only [endAt, this] at he
   exact nomatch he
 | @step s t s₁ t₁ s' t' he' hc hs _ ih =>
  intro f tt he R
  obtain ⟨cur, code, pos, st⟩ := t
  obtain ⟨cur', code', pos', st'⟩ := tt
  refine nr R ?_; clear R; intro e1 e2 R
  dsimp only at e1 e2 R
  subst e1 e2
  have key : Thread.calm ⟨cur', code, pos, st'⟩ = true /\ ∃ t₂', PySem.step (denote table) p w s ⟨cur', code, pos, st'⟩ = .go s₁ t₂' /\ Rel2 (fun a => .pure (.done (res a))) K' deadEnd H' gd lv B t₁ t₂' := by
   rcases R with ⟨rfl, rfl, x, rfl, rfl⟩ | ⟨rfl, F⟩
   ·have hp : ∀ a, x ≠ .pure a := by
     rintro a rfl
     simp [endAt, Sem.wrap] at he'
    have hr : ∀ e, x ≠ .raise e := by
     rintro e rfl
     obtain ⟨heap, gens, drawn, toks, os⟩ := s
     simp only [Sem.wrap, PySem.step] at hs
     cases hs
    exact ⟨lD hp hr hc, step_outer hB hp hs⟩
   ·exact ⟨ka hB F hc, step_inner hB F hs⟩
  refine cj key ?_; clear key; intro k1 t₂' k3 R'
  refine ae (ih he R') fun a ha hN => ?_
  exact ⟨a, ha, .step k1 k3 hN⟩
end
theorem qw.E5 {s s' : Shared} {t t' : Thread} (g : qw p w s t s' t') : s.asleep -> (∃ n, schedN (denote table) p w n (.single s t) = .running (.single s' t')) /\ s'.heap.life = s.heap.life := by
 induction g with
 | refl => exact fun _ => ⟨⟨0, rfl⟩, rfl⟩
 | @step s t s₁ t₁ s' t' hc hs _ ih =>
  intro hr
  have hl := step_life (denote table) p w s s₁ t t₁ hs
  refine ba (ih (Shared.asleep_of_life hl hr)) fun hn11_0 l => ?_; obtain ⟨m, hm⟩ := hn11_0
  have e : sstep (denote table) p w (.single s t) = .go (.single s₁ t₁) := by
   refine Or.elim (sstep_single (denote table) p w s t hc hr) (fun e => ?_) fun e => ?_
   ·refine aa e ?_; refine aa hs ?_; rfl
   ·rw [hs] at e; cases e
  exact ⟨⟨m + 1, by simp only [schedN, e]; exact hm⟩, l.trans hl⟩
theorem Go.pieces {l rest : List Stmt} {env : Env} {q : Pos} {s s' : Shared} {c : Code} {pos : Pos} {t' : Thread} (g : Go p w 1 s (piecesOf l env c pos [topFrame q]) s' t') (he : endAt 1 t' = some .next) :
  qw p w s (restOf (l ++ rest) env c pos [topFrame q]) s' (restOf rest env t'.code t'.pos [topFrame q]) := by
 obtain ⟨a, ha, hN⟩ := Go.lift (res := id) (K' := fun f => match f with | .next => (execs rest env).wrap doneF (leaveH env) id id | f => doneF f) (H' := leaveH env) (B := [topFrame q]) rfl g he
  (tt := ⟨(execs l env).wrap (fun f => match f with | .next => (execs rest env).wrap doneF (leaveH env) id id | f => doneF f) (leaveH env) id id, c, pos, [topFrame q]⟩) ⟨rfl, rfl, .inl ⟨rfl, rfl, _, rfl, rfl⟩⟩
 obtain rfl : a = .next := ha
 unfold restOf
 rw [execs_app_wrap]
 exact hN
theorem cD (b : Nat) (t : Thread) : endAt b t.forget = endAt b t := by
 obtain ⟨cur, code, pos, st⟩ := t
 simp only [endAt, Thread.forget, forgetAll, List.length_map]
theorem i5 {x : Step} {s : Shared} {t : Thread} (h : x.forget = (Step.go s t).forget) : ∃ s' t', x = .go s' t' /\ s'.forget = s.forget /\ t'.forget = t.forget := by
 cases x with
 | go s' t' => simp only [Step.forget, Step.go.injEq] at h; exact ⟨s', t', rfl, h.1, h.2⟩
 | halt o s' => cases h
theorem Go.same {b : Nat} {s s' : Shared} {t t' : Thread} (g : Go p w b s t s' t') : ∀ {s₂ : Shared} {t₂ : Thread}, s₂.forget = s.forget -> t₂.forget = t.forget ->
  ∃ s₂' t₂', Go p w b s₂ t₂ s₂' t₂' /\ s₂'.forget = s'.forget /\ t₂'.forget = t'.forget := by
 induction g with
 | refl => exact fun hs ht => ⟨_, _, .refl, hs, ht⟩
 | @step s t s₁ t₁ s' t' he hc hs _ ih =>
  intro s₂ t₂ es et
  have e := PySem.step_same (denote table) p w es et
  rw [hs] at e
  refine aN (i5 e) fun s₃ t₃ e3 es3 et3 => ?_
  refine aN (ih es3 et3) fun s₄ t₄ g4 es4 et4 => ?_
  refine ⟨s₄, t₄, .step ?_ ?_ e3 g4, es4, et4⟩
  ·rw [<- cD, et, cD]; exact he
  ·rw [<- Thread.calm_forget, et, Thread.calm_forget]; exact hc
theorem Go.xD {b : Nat} {B : List Frame} (hB : b < B.length) {s s' : Shared} {t : Sem Fin} {c : Code} {pos : Pos} {pre : List Frame} {e : End} (h : Reach (model p w) B s t c pos pre s' e) :
  ∀ {r : Result}, e = .ret r -> ∃ s'' tt c' p', Go p w b s ⟨t, c, pos, pre ++ B⟩ s'' tt /\ s''.forget = s'.forget /\ tt.forget = (⟨leafOf r, c', p', B⟩ : Thread).forget := by
 induction h with
 | exit hx =>
  rintro r rfl
  refine ba hx ?_; clear hx; intro q0 q1; refine bw q0 ?_; obtain rfl := q1
  exact ⟨_, _, _, _, .refl, rfl, rfl⟩
 | @step s t c pos pre s₁ t₁ c₁ p₁ pre₁ s' e hs _ ih =>
  intro r hr
  refine iJ (ih hr) fun s'' tt c' p' g es et => ?_
  have hl : Thread.loud ⟨t, c, pos, pre ++ B⟩ = false := by
   cases hl : Thread.loud ⟨t, c, pos, pre ++ B⟩ with
   | false => rfl
   | true => rw [Model.step_loud _ hl] at hs; cases hs
  rw [Model.step_quiet _ hl] at hs
  have hr' : Thread.refused ⟨t, c, pos, pre ++ B⟩ = false := by
   cases hr' : Thread.refused ⟨t, c, pos, pre ++ B⟩ with
   | false => rfl
   | true => refine bI (stepK_refused (den := (model p w).den) (prog := (model p w).prog) (w := (model p w).w) (s := s) hr') fun what q => ?_; rw [q] at hs; cases hs
  have e := stepK_forget (denote table) p w s ⟨t, c, pos, pre ++ B⟩
  rw [show stepK (denote table) p w s ⟨t, c, pos, pre ++ B⟩ = _ from hs] at e
  refine aN (i5 e.symm) fun s₃ t₃ e3 es3 et3 => ?_
  refine aN (g.same es3 et3) fun s₄ t₄ g4 es4 et4 => ?_
  refine ⟨s₄, t₄, c', p', .step ?_ ?_ e3 g4, es4.trans es, et4.trans et⟩
  ·have : ((pre ++ B).length == b) = false := beq_eq_false_iff_ne.mpr (by refine aa List.length_append ?_; lia)
   simp only [endAt, this]
  ·rw [Thread.calm_eq, hl]; refine aa hr' ?_; rfl
theorem Go.nC {b : Nat} {B : List Frame} (hB : b < B.length) {A : Around} {c : Code} {R : Result -> Shared -> Prop} {s : Shared} (pos : Pos)
  (h : codeAny (model p w) A c R s) (hA : (Ctx.of c B).Below A) :
  ∃ r s' s'' tt c' p', R r s' /\ Go p w b s ⟨denote table c, c, pos, B⟩ s'' tt /\ s''.forget = s'.forget /\ tt.forget = (⟨leafOf r, c', p', B⟩ : Thread).forget := by
 refine ag (h (Ctx.of c B) pos rfl hA) fun r s' hr hR => ?_
 have := runs_reach (M := model p w) hr B (Ctx.fits_of c B)
 refine iJ (Go.xD (pre := []) hB this rfl) fun s'' tt c' p' g es et => ?_
 exact ⟨r, s', s'', tt, c', p', hR, g, es, et⟩
end
end
section
open PySem PySem.W
section
variable {p : Program} {w : World}
noncomputable def gr (p : Program) (w : World) (b : Nat) (s : Shared) (t : Thread) (s' : Shared) (t' : Thread) : Prop :=
 ∃ s'' t'', Go p w b s t s'' t'' /\ s''.forget = s'.forget /\ t''.forget = t'.forget
theorem gr.of {b : Nat} {s s' : Shared} {t t' : Thread} (g : Go p w b s t s' t') : gr p w b s t s' t' := ⟨_, _, g, rfl, rfl⟩
theorem gr.trans {b : Nat} {s s₁ s' : Shared} {t t₁ t' : Thread} (x : gr p w b s t s₁ t₁) (y : gr p w b s₁ t₁ s' t') : gr p w b s t s' t' := by
 refine aN x ?_; clear x; intro s2 t2 g e1 e2
 refine aN y ?_; clear y; intro s3 t3 g' e3 e4
 refine aN (g'.same e1 e2) fun s4 t4 g4 e5 e6 => ?_
 exact ⟨s4, t4, g.trans g4, e5.trans e3, e6.trans e4⟩
theorem kS {b : Nat} {t : Thread} {f : Flow} (h : endAt b t = some f) : t.stack.length = b /\ t.cur = .pure (.done f) := by
 obtain ⟨cur, code, pos, st⟩ := t
 unfold endAt at h
 dsimp only at h ⊢
 split at h
 ·rename_i hl
  refine ⟨by simpa using hl, ?_⟩
  refine oE h ?_
  rfl
 ·exact nomatch h
theorem Go.pA {B : List Frame} (hB : B ≠ []) {s s' : Shared} {t : Sem Fin} {c : Code} {pos : Pos} {pre : List Frame} {e : End} (h : Reach (model p w) B s t c pos pre s' e) :
  ∀ {r : Result}, e = .ret r -> ∃ s'' tt c' p', Go p w B.length s ⟨t, c, pos, pre ++ B⟩ s'' tt /\ s''.forget = s'.forget /\ tt.forget = (⟨leafOf r, c', p', B⟩ : Thread).forget := by
 induction h with
 | exit hx =>
  rintro r rfl
  refine ba hx ?_; clear hx; intro q0 q1; refine bw q0 ?_; obtain rfl := q1
  exact ⟨_, _, _, _, .refl, rfl, rfl⟩
 | @step s t c pos pre s₁ t₁ c₁ p₁ pre₁ s' e hs _ ih =>
  intro r hr
  refine iJ (ih hr) fun s'' tt c' p' g es et => ?_
  have hl : Thread.loud ⟨t, c, pos, pre ++ B⟩ = false := by
   cases hl : Thread.loud ⟨t, c, pos, pre ++ B⟩ with
   | false => rfl
   | true => rw [Model.step_loud _ hl] at hs; cases hs
  rw [Model.step_quiet _ hl] at hs
  have hr' : Thread.refused ⟨t, c, pos, pre ++ B⟩ = false := by
   cases hr' : Thread.refused ⟨t, c, pos, pre ++ B⟩ with
   | false => rfl
   | true => refine bI (stepK_refused (den := (model p w).den) (prog := (model p w).prog) (w := (model p w).w) (s := s) hr') fun what q => ?_; rw [q] at hs; cases hs
  have e := stepK_forget (denote table) p w s ⟨t, c, pos, pre ++ B⟩
  rw [show stepK (denote table) p w s ⟨t, c, pos, pre ++ B⟩ = _ from hs] at e
  refine aN (i5 e.symm) fun s₃ t₃ e3 es3 et3 => ?_
  refine aN (g.same es3 et3) fun s₄ t₄ g4 es4 et4 => ?_
  refine ⟨s₄, t₄, c', p', .step ?_ ?_ e3 g4, es4.trans es, et4.trans et⟩
  ·cases q : endAt B.length ⟨t, c, pos, pre ++ B⟩ with
   | none => rfl
   | some f =>
    exfalso
    refine ba (kS q) fun hlen hcur => ?_
    dsimp only at hlen hcur
    have hpre : pre = [] := by
     rw [List.length_append] at hlen
     exact List.eq_nil_of_length_eq_zero (by lia)
    subst hpre
    subst hcur
    have hlen3 : t₃.stack.length = B.length + pre₁.length := by
     have := congrArg (fun x : Thread => x.stack.length) et3
     simp only [Thread.forget, forgetAll, List.length_map, List.length_append] at this
     lia
    obtain ⟨heap, gens, drawn, toks, os⟩ := s
    cases B with
    | nil => exact hB rfl
    | cons F rest =>
     cases F <;> (simp only [List.nil_append, PySem.step, Step.go.injEq] at e3; refine ba e3 ?_; clear e3; intro _ q1; obtain rfl := q1; simp only [List.length_cons] at hlen3; lia)
  ·rw [Thread.calm_eq, hl]; refine aa hr' ?_; rfl
section
variable {α : Type} {B : List Frame} {K' : α -> Sem Fin} {H' : Value -> Sem Fin} {gd : Bool -> Bool} {lv : List Value -> List Value} {res : α -> Flow}
theorem Frames2.len {K K' : α -> Sem Fin} {H : Value -> Sem Fin} {a b : List Frame} (F : Frames2 K K' H H' gd lv B a b) : B.length < b.length := by
 induction F with
 | ret | gen => simp
 | cons f _ ih => simp only [List.length_cons]; lia
theorem Go.yM (hB : splitAtGen B = none) {b : Nat} (hb : b < B.length) {s s' : Shared} {t t' : Thread} (g : Go p w B.length s t s' t') : ∀ {f : Flow} {tt : Thread}, endAt B.length t' = some f ->
  Rel2 (fun a => .pure (.done (res a))) K' deadEnd H' gd lv B t tt -> ∃ a, res a = f /\ Go p w b s tt s' ⟨K' a, t'.code, t'.pos, B⟩ := by
 induction g with
 | @refl s t =>
  intro f tt he R
  obtain ⟨cur, code, pos, st⟩ := t
  obtain ⟨cur', code', pos', st'⟩ := tt
  refine nr R ?_; clear R; intro e1 e2 R
  dsimp only at e1 e2 R
  subst e1 e2
  rcases R with ⟨rfl, rfl, x, rfl, rfl⟩ | ⟨rfl, F⟩
  ·have hx : ∃ a, x = .pure a /\ res a = f := by
    cases x with
    | pure a => simp only [endAt, Sem.wrap, beq_self_eq_true, Option.some.injEq] at he; exact ⟨a, rfl, he⟩
    | _ => simp [endAt, Sem.wrap] at he
   refine ae hx ?_; clear hx; intro a q1 q2; refine aa q1 ?_; refine bw q2 ?_
   exact ⟨a, rfl, .refl⟩
  ·have l := F.longer.1
   have : ((st.length == B.length) = false) := beq_eq_false_iff_ne.mpr (Nat.ne_of_gt l)
   simp only [endAt, this] at he
   exact nomatch he
 | @step s t s₁ t₁ s' t' he' hc hs _ ih =>
  intro f tt he R
  obtain ⟨cur, code, pos, st⟩ := t
  obtain ⟨cur', code', pos', st'⟩ := tt
  refine nr R ?_; clear R; intro e1 e2 R
  dsimp only at e1 e2 R
  subst e1 e2
  have key : B.length <= st'.length /\ Thread.calm ⟨cur', code, pos, st'⟩ = true /\ ∃ t₂', PySem.step (denote table) p w s ⟨cur', code, pos, st'⟩ = .go s₁ t₂' /\ Rel2 (fun a => .pure (.done (res a))) K' deadEnd H' gd lv B t₁ t₂' := by
   rcases R with ⟨rfl, rfl, x, rfl, rfl⟩ | ⟨rfl, F⟩
   ·have hp : ∀ a, x ≠ .pure a := by
     rintro a rfl
     simp [endAt, Sem.wrap] at he'
    have hr : ∀ e, x ≠ .raise e := by
     rintro e rfl
     obtain ⟨heap, gens, drawn, toks, os⟩ := s
     simp only [Sem.wrap, PySem.step] at hs
     cases hs
    exact ⟨Nat.le_refl _, lD hp hr hc, step_outer hB hp hs⟩
   ·exact ⟨Nat.le_of_lt (Frames2.len F), ka hB F hc, step_inner hB F hs⟩
  refine Cg key ?_; clear key; intro k0 k1 t₂' k3 R'
  refine ae (ih he R') fun a ha hN => ?_
  refine ⟨a, ha, .step ?_ k1 k3 hN⟩
  have : (st'.length == b) = false := beq_eq_false_iff_ne.mpr (by lia)
  simp only [endAt, this]
end
theorem xZ (Γ : Ctx) : Γ.over [] = Γ := by
 obtain ⟨c, h, o, b, q⟩ := Γ
 rfl
theorem gr.of_wp {α : Type} {b : Nat} {B : List Frame} (hb : b < B.length) (hG : splitAtGen B = none) {A : Around} {c : Code} {m : Sem α} {Q : α -> Shared -> Prop} {s : Shared} (pos : Pos)
  {K' : α -> Sem Fin} {H' : Value -> Sem Fin} {gd : Bool -> Bool} {lv : List Value -> List Value} (res : α -> Flow) (inj : ∀ a a', res a = res a' -> a = a')
  (h : wpAny (model p w) A m Q (fun _ _ => False) s) (hA : (Ctx.of c B).In A) :
  ∃ a s' c' p', Q a s' /\ gr p w b s ⟨m.wrap K' H' gd lv, c, pos, B⟩ s' ⟨K' a, c', p', B⟩ := by
 have h1 := h (Ctx.of c B) pos hA
 have hne : B ≠ [] := by rintro rfl; simp at hb
 obtain ⟨e, s₁, hr, a, rfl, hQ⟩ := runs_wrap_of_wp (Γ := Ctx.of c B) (fs := []) (Φ := fun e s' => ∃ a, e = .ret (.ok (res a)) /\ Q a s') (fun a => .pure (.done (res a))) deadEnd gd lv m (p := pos)
  (Q := fun a _ s' => Q a s') (E := fun _ _ _ => False) (by rw [xZ]; exact h1) (fun a p' s' hq => ⟨.ret (.ok (res a)), s', Runs.leaf (.ok (res a)), a, rfl, hq⟩) (fun _ _ _ h => h.elim)
 have := runs_reach (M := model p w) hr B (Ctx.fits_of c B)
 obtain ⟨s2, tt, c', p', g, es, et⟩ := Go.pA (pre := []) hne this rfl
 have he : endAt B.length tt = some (res a) := by
  rw [<- cD, et, cD]
  simp [endAt, leafOf]
 obtain ⟨a', ha, hN⟩ := Go.yM (res := res) (K' := K') (H' := H') (gd := gd) (lv := lv) hG hb g he (tt := ⟨m.wrap K' H' gd lv, c, pos, B⟩) ⟨rfl, rfl, .inl ⟨rfl, rfl, _, rfl, rfl⟩⟩
 obtain rfl := inj _ _ ha
 exact ⟨a', s₁, tt.code, tt.pos, hQ, s2, _, hN, es, rfl⟩
theorem gr.nC {b : Nat} {B : List Frame} (hB : b < B.length) {A : Around} {c : Code} {R : Result -> Shared -> Prop} {s : Shared} (pos : Pos)
  (h : codeAny (model p w) A c R s) (hA : (Ctx.of c B).Below A) :
  ∃ r s' c' p', R r s' /\ gr p w b s ⟨denote table c, c, pos, B⟩ s' ⟨leafOf r, c', p', B⟩ := by
 refine qa (Go.nC hB pos h hA) fun r s' s'' tt c' p' hR g es et => ?_
 exact ⟨r, s', c', p', hR, s'', tt, g, es, et⟩
theorem gr.again {b : Nat} {s : Shared} {c code : Code} {pos : Pos} {k : Result -> Sem Fin} {h : Option Value} {g : Bool} {l : List Value} {cd : Code} {p₀ : Pos} {kept : List Value} {rest : List Frame} (hb : b < (Frame.ret k h g l cd p₀ kept :: rest).length) (hq : c.quiet = true) :
  gr p w b s ⟨.pure (.again c), code, pos, .ret k h g l cd p₀ kept :: rest⟩ s ⟨denote table c, c, pos, .ret k h g l cd p₀ kept :: rest⟩ := by
 obtain ⟨heap, gens, drawn, toks, os⟩ := s
 refine ⟨_, _, .step (by cases q : endAt b (⟨.pure (.again c), code, pos, .ret k h g l cd p₀ kept :: rest⟩ : Thread) with | none => rfl | some f => exact absurd (kS q).1 (Nat.ne_of_gt hb)) ?_ step_again .refl, rfl, rfl⟩
 rw [Thread.calm_eq, Thread.loud_again]; refine aa hq ?_
 rfl
end
end
section
open PySem
noncomputable def lr (m x : Nat) : Nat := (x * 5 + 1) % (m + 1)
noncomputable def tr (m : Nat) (x : Nat) : Nat -> Nat
 | 0 => x
 | k + 1 => lr m (tr m x k)
noncomputable def gk (m : Nat) : Nat -> Nat -> List Nat
 | 0, _ => []
 | n + 1, x => x :: gk m n (lr m x)
theorem pq (m x : Nat) : ∀ k, tr m x (k + 1) = tr m (lr m x) k
 | 0 => rfl
 | k + 1 => by show lr m (tr m x (k + 1)) = _; rw [pq m x k]; rfl
theorem jR (m x : Nat) (a : Nat) : ∀ b, tr m x (a + b) = tr m (tr m x a) b
 | 0 => rfl
 | b + 1 => by show lr m (tr m x (a + b)) = _; rw [jR m x a b]; rfl
theorem jA (m : Nat) : ∀ n x k, k < n -> (gk m n x)[k]? = some (tr m x k)
 | 0, _, k, h => absurd h (Nat.not_lt_zero k)
 | n + 1, x, 0, _ => rfl
 | n + 1, x, k + 1, h => by
  show (gk m n (lr m x))[k]? = _
  refine aa (jA m n _ k (Nat.lt_of_succ_lt_succ h)) ?_; rw [pq]
theorem d9 (m : Nat) : ∀ n x, (gk m n x).length = n
 | 0, _ => rfl
 | n + 1, x => by simp [gk, d9 m n]
noncomputable def Full (m : Nat) : Prop := ∀ i j, i < m + 1 -> j < m + 1 -> ∃ k, k <= m /\ tr m i k = j
theorem sr (m : Nat) (h : ((List.range (m + 1)).all fun j => (gk m (m + 1) 0).contains j) = true) (h0 : tr m 0 (m + 1) = 0) : Full m := by
 have at_ : ∀ j, j < m + 1 -> ∃ k, k < m + 1 /\ tr m 0 k = j := by
  intro j hj
  have := List.all_eq_true.mp h j (List.mem_range.mpr hj)
  rw [List.contains_iff_mem] at this
  obtain ⟨k, hk, e⟩ := List.getElem_of_mem this
  rw [d9] at hk
  refine ⟨k, hk, ?_⟩
  have g := jA m (m + 1) 0 k hk
  rw [List.getElem?_eq_getElem (by rw [d9]; exact hk)] at g
  exact (Option.some.inj g).symm.trans e
 intro i j hi hj
 refine ae (at_ i hi) fun a ha ea => ?_
 refine ae (at_ j hj) fun b hb eb => ?_
 by_cases q : a <= b
 ·refine ⟨b - a, by omega, ?_⟩
  rw [<- ea, <- jR]; refine bw eb ?_
  congr 1; omega
 ·refine ⟨m + 1 + b - a, by omega, ?_⟩
  rw [<- ea, <- jR, show a + (m + 1 + b - a) = (m + 1) + b by omega, jR, h0, eb]
theorem Dx : Full 7 := sr 7 (by decide +kernel) (by decide +kernel)
theorem r6 : Full 127 := sr 127 (by decide +kernel) (by decide +kernel)
noncomputable def bG (m i pb : Nat) : Nat -> Nat × Nat
 | 0 => (i, pb)
 | k + 1 => SetTable.leap m (bG m i pb k).1 (bG m i pb k).2
theorem jx (m i pb : Nat) : ∀ k, bG m i pb (k + 1) = bG m (SetTable.leap m i pb).1 (SetTable.leap m i pb).2 k
 | 0 => rfl
 | k + 1 => by show SetTable.leap m (bG m i pb (k + 1)).1 (bG m i pb (k + 1)).2 = _; rw [jx m i pb k]; rfl
theorem uo (m i pb : Nat) (h : i < m + 1) : ∀ k, (bG m i pb k).1 < m + 1
 | 0 => h
 | k + 1 => by show (SetTable.leap m _ _).1 < _; skip; exact Nat.mod_lt _ (Nat.succ_pos _)
theorem mU (m i pb : Nat) : ∀ k, (bG m i pb k).2 = pb / 32 ^ k
 | 0 => by simp [bG]
 | k + 1 => by
  show (SetTable.leap m (bG m i pb k).1 (bG m i pb k).2).2 = _
  unfold SetTable.leap
  dsimp only
  refine aa (mU m i pb k) ?_; rw [Nat.div_div_eq_div_mul, Nat.pow_succ]
theorem jD (m i : Nat) : ∀ k, bG m i 0 k = (tr m i k, 0)
 | 0 => rfl
 | k + 1 => by
  show SetTable.leap m (bG m i 0 k).1 (bG m i 0 k).2 = _
  refine aa (jD m i k) ?_
  simp [SetTable.leap, tr, lr]
theorem k9 (m i pb a : Nat) : ∀ b, bG m i pb (a + b) = bG m (bG m i pb a).1 (bG m i pb a).2 b
 | 0 => rfl
 | b + 1 => by show SetTable.leap m (bG m i pb (a + b)).1 (bG m i pb (a + b)).2 = _; rw [k9 m i pb a b]; rfl
theorem mV {m : Nat} {owner : Array (Option Nat)} : ∀ (f i pb : Nat), SetTable.layClean.free m owner f i pb = none -> ∀ k, k < f -> owner.getD (bG m i pb k).1 (some 0) ≠ none
 | 0, _, _, _, k, h => absurd h (Nat.not_lt_zero k)
 | f + 1, i, pb, e, k, h => by
  unfold SetTable.layClean.free at e
  split at e
  ·cases e
  ·rename_i hn
   cases k with
   | zero =>
    have := List.find?_eq_none.mp hn 0 (List.mem_range.mpr (by unfold SetTable.runEnd; split <;> lia))
    intro q
    apply this
    show (owner.getD (i + 0) (some 0)).isNone = true
    rw [Nat.add_zero]; refine aa (show owner.getD i (some 0) = none from q) ?_
    rfl
   | succ k =>
    rw [jx]
    exact mV f _ _ e k (Nat.lt_of_succ_lt_succ h)
theorem mx {m : Nat} {owner : Array (Option Nat)} : ∀ (f i pb j : Nat), SetTable.layClean.free m owner f i pb = some j -> owner.getD j (some 0) = none
 | 0, _, _, _, h => by cases h
 | f + 1, i, pb, j, e => by
  unfold SetTable.layClean.free at e
  split at e
  ·rename_i k hk
   cases e
   have := List.find?_some hk
   simpa using this
  ·exact mx f _ _ _ e
theorem yX {m : Nat} (F : Full m) {owner : Array (Option Nat)} {j₀ : Nat} (hj : j₀ < m + 1) (h0 : owner.getD j₀ (some 0) = none) {i pb : Nat} (hi : i < m + 1) (hp : pb < 2 ^ 64) :
  ∃ j, SetTable.layClean.free m owner (SetTable.turns m) i pb = some j /\ owner.getD j (some 0) = none := by
 cases e : SetTable.layClean.free m owner (SetTable.turns m) i pb with
 | some j => exact ⟨j, rfl, mx _ _ _ _ e⟩
 | none =>
  exfalso
  have all := mV _ _ _ e
  have z : (bG m i pb 13).2 = 0 := by
   rw [mU]
   exact Nat.div_eq_of_lt (Nat.lt_of_lt_of_le hp (by decide))
  refine ae (F (bG m i pb 13).1 j₀ (uo m i pb hi 13) hj) fun k hk ek => ?_
  have := all (13 + k) (by unfold SetTable.turns; lia)
  rw [k9, z, jD, ek] at this
  exact this h0
structure Own (m : Nat) (owner : Array (Option Nat)) (k : Nat) : Prop where
 size : owner.size = m + 1
 cnt : owner.toList.countP Option.isSome = k
 low : ∀ v, some v ∈ owner.toList -> v < k
 all : ∀ v, v < k -> some v ∈ owner.toList
theorem Own.empty {m k : Nat} {owner : Array (Option Nat)} (O : Own m owner k) (h : k < m + 1) : ∃ j, j < m + 1 /\ owner.getD j (some 0) = none := by
 have : ¬ ∀ x ∈ owner.toList, Option.isSome x = true := by
  intro all
  have := List.countP_eq_length.mpr all
  rw [O.cnt, Array.length_toList, O.size] at this
  lia
 have : ∃ x, x ∈ owner.toList /\ Option.isSome x ≠ true := by
  refine Classical.byContradiction fun q => this fun x hx => ?_
  exact Classical.byContradiction fun r => q ⟨x, hx, r⟩
 refine ae this ?_; clear this; intro x hx hn
 obtain ⟨j, hj, e⟩ := List.getElem_of_mem hx
 have hj' : j < owner.size := by simpa using hj
 refine ⟨j, by refine bw O.size ?_; exact hj', ?_⟩
 refine aa (Array.getD_eq_getD_getElem?) ?_; refine aa (Array.getElem?_eq_getElem hj') ?_
 show owner[j] = none
 cases x with
 | none => simpa using e
 | some y => exact absurd rfl hn
theorem Own.put {m k j : Nat} {owner : Array (Option Nat)} (O : Own m owner k) (e : owner.getD j (some 0) = none) : Own m (owner.setIfInBounds j (some k)) (k + 1) := by
 have hj : j < owner.size := by
  refine Classical.byContradiction fun q => ?_
  rw [Array.getD_eq_getD_getElem?, Array.getElem?_eq_none (Nat.le_of_not_lt q)] at e
  exact nomatch e
 have ej : owner[j] = none := by
  rw [Array.getD_eq_getD_getElem?, Array.getElem?_eq_getElem hj] at e
  exact e
 refine ⟨by refine aa Array.size_setIfInBounds ?_; exact aa O.size rfl, ?_, ?_, ?_⟩
 ·refine aa Array.toList_setIfInBounds ?_; refine aa (List.countP_set (by simpa using hj)) ?_; refine aa O.cnt ?_
  simp [ej]
 ·intro v hv
  rw [Array.toList_setIfInBounds] at hv
  refine Or.elim (List.mem_or_eq_of_mem_set hv) (fun q => ?_) fun q => ?_
  ·exact Nat.lt_succ_of_lt (O.low v q)
  ·refine oE q ?_; exact Nat.lt_succ_self _
 ·intro v hv
  rw [Array.toList_setIfInBounds]
  by_cases q : v = k
  ·refine aa q ?_; exact List.mem_set (by simpa using hj) _
  ·obtain ⟨i, hi, ei⟩ := List.getElem_of_mem (O.all v (by lia))
   have hne : j ≠ i := by
    rintro rfl
    rw [Array.getElem_toList, ej] at ei
    exact nomatch ei
   have hs : i < (owner.toList.set j (some k)).length := by refine aa List.length_set ?_; exact hi
   have := List.getElem_mem hs
   rw [List.getElem_set_ne hne, ei] at this
   exact this
theorem Own.start (m : Nat) : Own m (Array.replicate (m + 1) none) 0 := by
 refine ⟨by simp, ?_, ?_, ?_⟩
 ·refine aa Array.toList_replicate ?_; refine aa List.countP_replicate ?_; simp
 ·intro v hv; simp [List.mem_replicate] at hv
 ·intro v hv; exact absurd hv (Nat.not_lt_zero v)
theorem qi {m : Nat} (F : Full m) (hashes : Array Int) (h : hashes.size <= m) : ∃ owner, SetTable.layClean m hashes = some owner /\ Own m owner hashes.size := by
 have go : ∀ (l : List Int) (owner : Array (Option Nat)) (k : Nat), Own m owner k -> k + l.length <= m -> ∃ owner', l.foldl (fun acc h => (do
   let (owner, k) <- acc
   let j <- SetTable.layClean.free m owner (SetTable.turns m) (SetTable.bits h % (m + 1)) (SetTable.bits h)
   pure (owner.setIfInBounds j (some k), k + 1) : Option (Array (Option Nat) × Nat))) (some (owner, k)) = some (owner', k + l.length) /\ Own m owner' (k + l.length) := by
  intro l
  induction l with
  | nil => intro owner k O _; exact ⟨owner, rfl, O⟩
  | cons a l ih =>
   intro owner k O hk
   rw [List.length_cons] at hk
   refine ae (O.empty (by lia)) ?_; intro j₀ hj h0
   have hb : SetTable.bits a < 2 ^ 64 := by unfold SetTable.bits; lia
   refine ae (yX F hj h0 (i := SetTable.bits a % (m + 1)) (pb := SetTable.bits a) (Nat.mod_lt _ (Nat.succ_pos _)) hb) fun j ej e0 => ?_
   refine ae (ih _ (k + 1) (O.put e0) (by omega)) ?_; intro o' e' O'
   refine ⟨o', ?_, ?_⟩
   ·refine aa List.foldl_cons ?_
    simp only [Option.bind_eq_bind, Option.bind_some, ej, Option.pure_def] at e' ⊢
    refine aa e' ?_; refine aa List.length_cons ?_
    congr 2; omega
   ·refine aa List.length_cons ?_; refine aa (show k + (l.length + 1) = k + 1 + l.length by omega) ?_; exact O'
 refine ae (go hashes.toList _ 0 (Own.start m) (by simpa using h)) ?_; intro o' e' O'
 refine ⟨o', ?_, ?_⟩
 ·unfold SetTable.layClean
  rw [<- Array.foldl_toList]; refine aa e' ?_
  rfl
 ·simpa using O'
theorem Own.live {m k : Nat} {owner : Array (Option Nat)} (O : Own m owner k) : ((List.range (m + 1)).filterMap fun j => (owner.getD j none).map (j, ·)).length = k := by
 have e : (List.range (m + 1)).map (fun j => owner.getD j none) = owner.toList := by
  apply List.ext_getElem
  ·rw [List.length_map, List.length_range, Array.length_toList, O.size]
  ·intro i h1 h2
   rw [List.getElem_map, List.getElem_range, Array.getD_eq_getD_getElem?]; refine aa (Array.getElem?_eq_getElem (by simpa using h2)) ?_
   simp
 have f : ∀ l : List Nat, (l.filterMap fun j => (owner.getD j none).map (j, ·)).length = (l.map (fun j => owner.getD j none)).countP Option.isSome := by
  intro l
  induction l with
  | nil => rfl
  | cons a l ih =>
   refine aa List.map_cons ?_; refine aa List.countP_cons ?_; refine bw ih ?_
   cases q : owner.getD a none with
   | none => refine aa (List.filterMap_cons_none (by rw [q]; rfl)) ?_; simp
   | some v => refine aa (List.filterMap_cons_some (b := (a, v)) (by rw [q]; rfl)) ?_; simp
 rw [f, e, O.cnt]
theorem sR {m : Nat} (F : Full m) (finger moves : Nat) (led plain : Bool) (hashes : Array Int) (h : hashes.size <= m) :
  ∃ t order, SetTable.laid m finger moves led plain hashes = some (t, order) /\ t.mask = m /\ t.place.size = hashes.size /\ t.dummies = #[] /\ t.led = led /\ t.plain = plain /\ order.size = hashes.size /\ (∀ v ∈ order.toList, v < hashes.size) /\ ∀ v, v < hashes.size -> v ∈ order.toList := by
 refine ae (qi F hashes h) fun owner e O => ?_
 have hl := O.live
 refine ⟨_, _, by unfold SetTable.laid; refine aa e ?_; rfl, rfl, ?_, rfl, rfl, rfl, ?_, ?_, ?_⟩
 ·refine aa List.size_toArray ?_; rw [List.length_map]; exact hl
 ·refine aa List.size_toArray ?_; rw [List.length_map]; exact hl
 ·intro v hv
  simp only [List.mem_map, List.mem_filterMap, List.mem_range] at hv
  refine ae hv ?_; clear hv; intro x hn12_1 q2; obtain ⟨j, hj, ex⟩ := hn12_1; obtain rfl := q2
  refine ae (Option.map_eq_some_iff.mp ex) fun y hy q2 => ?_; refine bw q2 ?_
  refine O.low y ?_
  rw [Array.getD_eq_getD_getElem?] at hy
  cases q : owner[j]? with
  | none => rw [q] at hy; exact nomatch hy
  | some z =>
   rw [q] at hy
   simp only [Option.getD_some] at hy
   refine bw hy ?_
   exact Array.mem_toList_iff.mpr (Array.mem_of_getElem? q)
 ·intro v hv
  obtain ⟨i, hi, ei⟩ := List.getElem_of_mem (O.all v hv)
  have hi' : i < owner.size := by simpa using hi
  have : owner[i]? = some (some v) := by
   refine aa (Array.getElem?_eq_getElem hi') ?_; rw [<- ei, Array.getElem_toList]
  simp only [List.mem_map, List.mem_filterMap, List.mem_range]
  refine ⟨(i, v), ⟨i, by refine bw O.size ?_; exact hi', ?_⟩, rfl⟩
  refine aa (Array.getD_eq_getD_getElem?) ?_; refine aa this ?_
  rfl
end
section
open PySem
set_option maxRecDepth 100000
section
variable {prog : Program} {w : World} {A : Around} {E : Value -> Shared -> Prop} {s : Shared}
noncomputable def jM (es : Array (Int × Value)) (ep : Nat) (t : SetTable) : Obj := { cls := .type "frozenset", dict := none, data := .set es ep t }
noncomputable abbrev E4 (prog : Program) (w : World) (es : List (Int × Value)) : Prop := ElemsOf (strKind prog w) es
noncomputable abbrev AI (prog : Program) (w : World) (k : Str) (v : Value) : Bool := (strKind prog w).is k v
noncomputable def FS (prog : Program) (w : World) (h : Heap) (a : Addr) (S : Str -> Bool) (n : Nat) (t : SetTable) : Prop :=
 ∃ es ep, h.get? a = some (jM es ep t) /\ E4 prog w es.toList /\ (∀ k, S k = true ↔ ∃ e ∈ es.toList, AI prog w k e.2 = true) /\ es.size = n /\ n < scanBound /\ t.fits n = true
theorem FS.congr {h : Heap} {a : Addr} {S S' : Str -> Bool} {n n' : Nat} {t t' : SetTable} (x : FS prog w h a S n t) (e : ∀ k, S k = S' k) (en : n = n') (et : t = t') : FS prog w h a S' n' t' := by
 have : S = S' := funext e
 refine bw this ?_; subst en; subst et; exact x
theorem FS.at' {h h' : Heap} {a : Addr} {S : Str -> Bool} {n : Nat} {t : SetTable} (x : FS prog w h a S n t) (e : h'.get? a = h.get? a) : FS prog w h' a S n t :=
 let ⟨es, ep, h1, r⟩ := x; ⟨es, ep, e.trans h1, r⟩
theorem jj {h : Heap} {a : Addr} {es es' : Array (Int × Value)} {ep : Nat} {t t' : SetTable} (ho : h.get? a = some (jM es ep t)) : (h.update a (Obj.putSet es' t')).get? a = some (jM es' (ep + 1) t') :=
 Heap.get?_update_self (Obj.putSet es' t') ho rfl
theorem mL {g : Bool -> Sem Unit} (hg : ∀ (b : Bool) (s₁ : Shared) (Q' : Unit -> Shared -> Prop), Q' () s₁ -> wpAny (model prog w) A (g b) Q' E s₁)
  {a : Addr} {es es1 : Array (Int × Value)} {ep : Nat} {t t2 : SetTable} (ho : s.heap.get? a = some (jM es ep t)) {S' : Str -> Bool}
  (hel : E4 prog w es1.toList) (hmem : ∀ k', S' k' = true ↔ ∃ e ∈ es1.toList, AI prog w k' e.2 = true) (hb : es1.size < scanBound) (hf : t2.fits es1.size = true) {dum : Bool} {R : Option Bool -> Shared -> Prop}
  (h : ∀ h' t', Heap.SameBut a s.heap h' -> FS prog w h' a S' es1.size t' -> R (some true) { s with heap := h' }) :
  wpAny (model prog w) A (do
    storeSet a es1 t2
    if (!dum && t2.tooFull) = true then do
      g (relayAll t2 es1 (SetTable.grown es1.size)).2.2
      storeSet a (relayAll t2 es1 (SetTable.grown es1.size)).1 (relayAll t2 es1 (SetTable.grown es1.size)).2.1
      pure (some true)
     else pure (some true)) R E s := by
 refine wpAny_bind (wpAny_storeSet_of ho rfl ?_ (fits_of_scanBound hb))
 have ho1 := jj (es' := es1) (t' := t2) ho
 have sb := Heap.SameBut.update s.heap a (Obj.putSet es1 t2)
 cases hc : (!dum && t2.tooFull) with
 | false =>
  skip
  exact wpAny_pure (h _ t2 sb ⟨es1, ep + 1, ho1, hel, hmem, rfl, hb, hf⟩)
 | true =>
  skip
  refine wpAny_bind (hg _ _ _ ?_)
  have p := relayAll_perm t2 es1 (SetTable.grown es1.size)
  have f := relayAll_fits t2 es1 (SetTable.grown es1.size)
  generalize relayAll t2 es1 (SetTable.grown es1.size) = L at p f ⊢
  have hsz : L.1.size = es1.size := by refine bw Array.length_toList ?_; refine aa p.length_eq ?_; exact aa Array.length_toList rfl
  refine wpAny_bind (wpAny_storeSet_of ho1 rfl ?_ (fits_of_scanBound (by refine aa hsz ?_; exact hb)))
  refine wpAny_pure (h _ L.2.1 (sb.trans (Heap.SameBut.update _ a _)) ⟨L.1, ep + 1 + 1, jj ho1, hel.perm p, fun k' => (hmem k').trans ?_, hsz, hb, by refine bw hsz ?_; exact f⟩)
  exact ⟨fun ⟨e, he, q⟩ => ⟨e, p.mem_iff.mpr he, q⟩, fun ⟨e, he, q⟩ => ⟨e, p.mem_iff.mp he, q⟩⟩
theorem qv {es : Array (Int × Value)} {S : Str -> Bool} {k : Str} (hmem : ∀ k, S k = true ↔ ∃ e ∈ es.toList, AI prog w k e.2 = true) :
  (List.findIdx? (fun e => AI prog w k e.2) es.toList).isSome = S k := by
 cases hr : List.findIdx? (fun e => AI prog w k e.2) es.toList with
 | none =>
  cases hk : S k with
  | false => rfl
  | true => refine ae ((hmem k).mp hk) fun e he hp => ?_; have := List.findIdx?_eq_none_iff.mp hr e he; rw [hp] at this; exact nomatch this
 | some j =>
  refine ae (List.findIdx?_eq_some_iff_getElem.mp hr) ?_; intro hj hpj _
  exact ((hmem k).mpr ⟨es.toList[j], List.getElem_mem hj, hpj⟩).symm
theorem ny {a : Addr} {S : Str -> Bool} {n : Nat} {t : SetTable} {k : Str} {tk : Tok} {Q : Option Nat -> Shared -> Prop} (hS : FS prog w s.heap a S n t)
  (h : ∀ r : Option Nat, r.isSome = S k -> (∀ i, r = some i -> i < n) -> Q r s) : wpAny (model prog w) A (setFind a (.str k tk) (hashStr w k)) Q E s := by
 refine a8 hS ?_; clear hS; intro es ep ho hel hmem hn hb hf
 subst hn
 have key := strKind_is prog w k tk
 skip
 refine wpAny_bind (wpAny_setState_of ho rfl hf ?_)
 dsimp only
 refine aa (byScan_of rfl hb hel) ?_
 skip
 refine wpAny_bind (wpAny_rule (wpAny_bind (wpAny_setScan_of key ho rfl hf hel ?_)))
 have e := qv (k := k) hmem
 cases hr : List.findIdx? (fun e => (strKind prog w).is k e.2) es.toList with
 | none => rw [hr] at e; exact wpAny_pure (h none e fun i q => by exact nomatch q)
 | some j =>
  rw [hr] at e
  refine bI (List.findIdx?_eq_some_iff_getElem.mp hr) ?_; intro hj _
  refine wpAny_pure (h (some (0 + j)) e fun i q => ?_)
  have : i = j := by simpa using q.symm
  refine aa this ?_; simpa using hj
theorem rH {a : Addr} {S : Str -> Bool} {n : Nat} {t : SetTable} {k : Str} {tk : Tok} {Q : Bool -> Shared -> Prop} (hS : FS prog w s.heap a S n t) (hroom : n + 1 < scanBound)
  (h : ∀ h' t' b, Heap.SameBut a s.heap h' -> FS prog w h' a (fun k' => S k' || decide (k' = k)) (if S k then n else n + 1) t' -> Q b { s with heap := h' }) :
  wpAny (model prog w) A (setAddHashed a (.str k tk) (hashStr w k)) Q E s := by
 refine a8 hS ?_; clear hS; intro es ep ho hel hmem hn hb hf
 subst hn
 have key := strKind_is prog w k tk
 have e := qv (k := k) hmem
 unfold setAddHashed setAddHashedIn
 refine wpAny_holding (wpAny_bind (wpAny_setState_of ho rfl hf ?_))
 dsimp only
 rw [byScan_of rfl hb hel]
 simp only [↓reduceIte]
 unfold setAddByScan
 refine wpAny_bind (wpAny_bind (wpAny_rule (wpAny_bind (wpAny_setScan_of key ho rfl hf hel ?_))))
 cases hr : List.findIdx? (fun e => (strKind prog w).is k e.2) es.toList with
 | some j =>
  rw [hr] at e
  dsimp only
  refine wpAny_pure (wpAny_pure ?_)
  have := h s.heap t false (Heap.SameBut.refl a s.heap) (FS.congr ⟨es, ep, ho, hel, hmem, rfl, hb, hf⟩ (fun k' => ?_) (by rw [<- e]; rfl) rfl)
  ·exact this
  ·by_cases q : k' = k
   ·subst q; rw [<- e]; rfl
   ·simp [q]
 | none =>
  rw [hr] at e
  have e : S k = false := e.symm
  dsimp only
  have hg : ∀ (b : Bool) (s₁ : Shared) (Q' : Unit -> Shared -> Prop), Q' () s₁ -> wpAny (model prog w) A (match b with | true => rule "set.scan.the-table-gave-way" | false => pure ()) Q' E s₁ :=
   fun b s₁ Q' hq => by cases b <;> first | exact wpAny_pure hq | exact wpAny_rule hq
  have p := layNew_perm t es (hashStr w k) (.str k tk)
  have f := layNew_fits t es (hashStr w k) (.str k tk)
  rw [Array.toList_push] at p
  generalize layNew t es (hashStr w k) (Value.str k tk) = L at p f ⊢
  obtain ⟨es1, t1, dum, gave⟩ := L
  dsimp only at p f ⊢
  have hel1 : E4 prog w es1.toList := (hel.push key rfl).perm p
  have hmem1 : ∀ k', (S k' || decide (k' = k)) = true ↔ ∃ e ∈ es1.toList, AI prog w k' e.2 = true := mem_push_iff key hmem p
  have hsz : es1.size = es.size + 1 := by rw [<- Array.length_toList, p.length_eq, List.length_append, Array.length_toList]; rfl
  have hb1 : es1.size < scanBound := by rw [hsz]; exact hroom
  have fin : ∀ h' t', Heap.SameBut a s.heap h' -> FS prog w h' a (fun k' => S k' || decide (k' = k)) es1.size t' -> Q true { s with heap := h' } := fun h' t' sb x =>
   h h' t' true sb (x.congr (fun _ => rfl) (by rw [e, hsz]; rfl) rfl)
  refine wpAny_bind (hg _ _ _ ?_)
  cases ht : t1.plain with
  | true =>
   simp only [if_true]
   refine wpAny_bind ?_
   rw [hashByValue_scannable 8 (x := .str k tk) rfl]
   refine wpAny_pure ?_
   refine mL (hg) ho hel1 hmem1 hb1 (t2 := if plainKind (.str k tk) = true then t1 else { t1 with plain := false }) (by split; exact f; exact SetTable.fits_plain_off f) fun h' t' sb x => ?_
   exact wpAny_pure (fin h' t' sb x)
  | false =>
   simp only [Bool.false_eq_true, if_false]
   refine wpAny_bind (wpAny_pure ?_)
   simp only [if_true]
   refine mL (hg) ho hel1 hmem1 hb1 (t2 := t1) f fun h' t' sb x => ?_
   exact wpAny_pure (fin h' t' sb x)
end
end
section
open PySem
set_option maxRecDepth 100000
section
variable {prog : Program} {w : World} {A : Around} {E : Value -> Shared -> Prop} {s : Shared}
theorem y0 {it : Addr} {x : Str} {t : Tok} {i : Nat} {Q : Option Value -> Shared -> Prop} (hh : A.handled = none)
  (hit : s.heap.IsStrIter it "str_ascii_iterator" x t i) (hx : x.cps[i]? = none)
  (hQ : ∀ h', h'.objs.size = s.heap.objs.size + 2 -> (∀ b, b ≠ it -> b < s.heap.objs.size -> h'.get? b = s.heap.get? b) -> Q none { s with heap := h' }) : wpAny (model prog w) A (pyNext (.ref it)) Q E s := by
 refine af (id hit) fun o ho hc hd => ?_
 skip
 refine wpAny_bind (wpAny_attempt (wpAny_callSpecial?_slot (name := Str.ofString "__next__") hit.typeIs F.slot_str_ascii_iterator_next
  (wpAny_call_entry F.slot_str_ascii_iterator_next hit.typeIs F.entry_str_ascii_iterator_next ?_ (F.args_str_ascii_iterator_next_1 _))))
 show wpAny _ _ (field (.ref it) 0 >>= _) _ _ s
 refine wpAny_bind (wpAny_field ho hd (x := .str x t) rfl ?_)
 show wpAny _ _ (field (.ref it) 1 >>= _) _ _ s
 refine wpAny_bind (wpAny_field ho hd (x := .int i 0) rfl ?_)
 simp only [Int.toNat_natCast, hx]
 refine wpAny_bind (wpAny_rule (wpAny_bind (wpAny_setField ho hd (by simp) (wpAny_bind (wpAny_letGo ?_)))))
 skip
 refine wpAny_bind ?_
 skip
 refine wpAny_bind (wpAny_newObj_type ?_ (by size_fits))
 refine wpAny_bind (m := firstArgMember _ _) (wpAny_of_eq (a := Value.none) (by first | rfl | (dsimp only [firstArgMember]; rfl)) ?_)
 refine wpAny_newObj_type ?_ (by size_fits)
 dsimp only [raiseNew]
 refine wpAny_bind (wpAny_handled ?_)
 refine aa (show A.in1.handled = none from hh) ?_
 refine wpAny_bind (wpAny_pure (wpAny_throw ?_))
 refine wpAny_bind (wpAny_isInstance (T := "StopIteration") (b := true) ⟨_, Heap.get?_push_size _ rfl, rfl⟩ isSubtype_stop ?_)
 refine wpAny_pure (hQ _ (by simp only [Heap.size_push, Heap.size_update]) fun b hb lt => ?_)
 refine (Heap.get?_push_ne _ _ _ ?_).trans ((Heap.get?_push_ne _ _ _ ?_).trans (Heap.get?_update_ne _ _ _ _ hb))
 ·rw [Heap.size_push, Heap.size_update]; exact Nat.ne_of_lt (Nat.lt_succ_of_lt lt)
 ·rw [Heap.size_update]; exact Nat.ne_of_lt lt
noncomputable def lW (l : List Str × Nat) (k : Str) : List Str × Nat := (k :: l.1, if l.1.contains k then l.2 else l.2 + 1)
noncomputable def rf (c : Nat) : Str := ⟨#[c]⟩
theorem rX (l : List Str × Nat) (k : Str) : (lW l k).2 <= l.2 + 1 := by delta lW; dsimp only; split <;> lia
theorem tI {h : Heap} {a : Addr} {l : List Str × Nat} {k : Str} {t : SetTable} (x : FS prog w h a (fun k' => l.1.contains k' || decide (k' = k)) (if l.1.contains k then l.2 else l.2 + 1) t) :
  FS prog w h a (fun k' => (lW l k).1.contains k') (lW l k).2 t :=
 x.congr (fun k' => by
  show _ = (k :: l.1).contains k'
  refine aa List.contains_cons ?_; rw [Bool.or_comm]
  by_cases e : k' = k
  ·refine bw e ?_; simp
  ·simp [e]) rfl rfl
theorem vF {S I : Addr} {x : Str} {t : Tok} (hh : A.handled = none) (hSI : S ≠ I) : ∀ (k i : Nat) (s : Shared) (l : List Str × Nat) (tb : SetTable) {R : Result -> Shared -> Prop},
  x.cps.size - i = k -> s.heap.IsStrIter I "str_ascii_iterator" x t i -> FS prog w s.heap S (fun k' => l.1.contains k') l.2 tb -> l.2 + k < scanBound ->
  (∀ h' tb', h'.objs.size = s.heap.objs.size + 2 -> (∀ b, b ≠ S -> b ≠ I -> b < s.heap.objs.size -> h'.get? b = s.heap.get? b) ->
   FS prog w h' S (fun k' => (((x.cps.toList.drop i).map rf).foldl lW l).1.contains k') (((x.cps.toList.drop i).map rf).foldl lW l).2 tb' -> R (.ok (.ret .none)) { s with heap := h', toks := s.toks + 2 * k }) ->
  codeAny (model prog w) A (.builtin "set.update.loop" ⟨[.ref S, .ref I], []⟩) R s := by
 intro k
 induction k with
 | zero =>
  intro i s l tb R hk hit hS hb hR
  have hx : x.cps[i]? = none := Array.getElem?_eq_none (by lia)
  refine codeAny_builtin PyProof.Rows.F.entry_set_update_loop ?_
  refine aa (Around.under_plainId PyProof.Rows.F.plain_set_update_loop _) ?_
  skip
  refine wpAny_bind (y0 hh hit hx fun h' hsz hk' => ?_)
  skip
  have hd : x.cps.toList.drop i = [] := List.drop_of_length_le (by refine aa Array.length_toList ?_; lia)
  rw [hd] at hR
  have lt : S < s.heap.objs.size := by refine ag hS ?_; clear hS; intro es ep ho _; exact Heap.lt_size ho
  exact wpAny_pure (hR h' tb hsz (fun b _ hb lt => hk' b hb lt) (hS.at' (hk' S hSI lt)))
 | succ k ih =>
  intro i s l tb R hk hit hS hb hR
  have lt : i < x.cps.size := by lia
  have hx : x.cps[i]? = some x.cps[i] := Array.getElem?_eq_getElem lt
  refine codeAny_builtin PyProof.Rows.F.entry_set_update_loop ?_
  refine aa (Around.under_plainId PyProof.Rows.F.plain_set_update_loop _) ?_
  skip
  refine wpAny_bind (wpAny_pyNext_ascii_item hit hx fun h₁ hit₁ sb₁ => ?_)
  skip
  refine wpAny_bind (wpAny_holding ?_)
  skip
  refine wpAny_holding (wpAny_bind (wpAny_pyHash_str ?_))
  have hS₁ : FS prog w h₁ S (fun k' => l.1.contains k') l.2 tb := hS.at' (sb₁.2 S hSI)
  refine rH (s := { s with heap := h₁, toks := s.toks + 1 + 1 }) hS₁ (by lia) fun h₂ t₂ b sb₂ hS₂ => ?_
  have hS₃ := tI hS₂
  have hd : x.cps.toList.drop i = x.cps[i] :: x.cps.toList.drop (i + 1) := by
   refine aa (List.drop_eq_getElem_cons (by rw [Array.length_toList]; exact lt)) ?_
   simp
  rw [hd] at hR
  have hle := rX l (rf x.cps[i])
  have hit₂ : h₂.IsStrIter I "str_ascii_iterator" x t (i + 1) := hit₁.extBut sb₂.extBut (Ne.symm hSI)
  refine wpAny_pure ⟨plainId_quiet PyProof.Rows.F.plain_set_update_loop _, ih (i + 1) _ _ t₂ (by lia) hit₂ hS₃ (by show (lW l (rf x.cps[i])).2 + k < scanBound; lia) fun h' tb' hsz hk' hS' => ?_⟩
  have e : s.toks + 1 + 1 + 2 * k = s.toks + 2 * (k + 1) := by lia
  have := hR h' tb' (by refine aa hsz ?_; skip; refine aa sb₂.1 ?_; skip; exact aa sb₁.1 rfl) (fun b hb1 hb2 lt => by
   have l1 : b < h₁.objs.size := by refine aa sb₁.1 ?_; exact lt
   have l2 : b < h₂.objs.size := by refine aa sb₂.1 ?_; exact l1
   refine aa (hk' b hb1 hb2 l2) ?_
   skip
   refine aa (sb₂.2 b hb1) ?_; exact aa (sb₁.2 b hb2) rfl) hS'
  rw [<- e] at this
  exact this
end
end
section
open PySem
set_option maxRecDepth 100000
theorem ly : isSubtype (.type "frozenset") (.type "set") = pure false := by rw [isSubtype_type]; kernel_rfl
theorem uv : isSubtype (.type "frozenset") (.type "frozenset") = pure true := by rw [isSubtype_type]; kernel_rfl
theorem gH {α β : Type} (f : α -> Option β) : ∀ l : List α, (∀ x ∈ l, (f x).isSome = true) -> (l.filterMap f).length = l.length
 | [], _ => rfl
 | a :: l, h => by
  have := h a (List.mem_cons_self ..)
  cases e : f a with
  | none => rw [e] at this; exact nomatch this
  | some b => refine aa (List.filterMap_cons_some e) ?_; refine aa List.length_cons ?_; refine aa List.length_cons ?_; exact aa (gH f l fun x hx => h x (List.mem_cons_of_mem _ hx)) rfl
theorem Dm {es : Array (Int × Value)} {order : Array Nat} (h1 : order.size = es.size) (h2 : ∀ v ∈ order.toList, v < es.size) (h3 : ∀ v, v < es.size -> v ∈ order.toList) :
  (order.filterMap (es[·]?)).size = es.size /\ ∀ e, e ∈ (order.filterMap (es[·]?)).toList ↔ e ∈ es.toList := by
 constructor
 ·refine bw Array.length_toList ?_; refine aa Array.toList_filterMap ?_; refine aa (gH _ _ fun x hx => by rw [Array.getElem?_eq_getElem (h2 x hx)]; rfl) ?_; refine aa Array.length_toList ?_; exact aa h1 rfl
 ·intro e
  refine aa Array.toList_filterMap ?_; rw [List.mem_filterMap]
  constructor
  ·rintro ⟨v, _, q⟩
   exact Array.mem_toList_iff.mpr (Array.mem_of_getElem? q)
  ·intro he
   obtain ⟨i, hi, rfl⟩ := List.getElem_of_mem he
   have hi' : i < es.size := by simpa using hi
   exact ⟨i, h3 i hi', by refine aa (Array.getElem?_eq_getElem hi') ?_; rw [Array.getElem_toList]⟩
section
variable {prog : Program} {w : World} {A : Around} {E : Value -> Shared -> Prop} {s : Shared}
theorem FS.typeIs {a : Addr} {S : Str -> Bool} {n : Nat} {t : SetTable} (x : FS prog w s.heap a S n t) : s.TypeIs (.ref a) "frozenset" :=
 let ⟨_, _, h, _⟩ := x; ⟨_, h, rfl⟩
theorem Ae {a : Addr} {S : Str -> Bool} {n : Nat} {t : SetTable} {Q : Value -> Shared -> Prop} (x : FS prog w s.heap a S n t) (h : Q (.type "frozenset") s) : wpAny (model prog w) A (Builtin.Frozenset.baseOf a) Q E s := by
 unfold Builtin.Frozenset.baseOf
 exact wpAny_bind (wpAny_isInstance x.typeIs ly (wpAny_pure h))
theorem BF {Q : Value -> Shared -> Prop}
  (h : ∀ led, Q (.ref s.heap.objs.size) { s with heap := s.heap.push (jM #[] 0 (.fresh 0 0 led)) }) :
  wpAny (model prog w) A (newSet (.type "frozenset")) Q E s := by
 skip
 refine wpAny_bind (wpAny_bind (wpAny_askSetting (wpAny_pure ?_)))
 dsimp only
 skip
 exact wpAny_bind (wpAny_alloc (wpAny_pure (h _)))
structure gD (n m : Nat) : Prop where
 full : Full m
 le : n <= m
 big : n * 5 >= 21 -> SetTable.sizeAbove (n * 2) - 1 = m /\ SetTable.sizeAbove (n * 2) <= sizeLine
 small : n * 5 < 21 -> m = 7
theorem kY {t : SetTable} {n m : Nat} (h1 : t.place.size = n) (h2 : t.dummies = #[]) (h3 : t.mask = m) (h : n <= m) : t.fits n = true := by
 delta SetTable.fits SetTable.fill
 refine aa h1 ?_; refine aa h2 ?_; refine aa h3 ?_
 simp [h]
theorem nY {r a : Addr} {S : Str -> Bool} {n m : Nat} {t : SetTable} {led : Bool} {Q : Unit -> Shared -> Prop} (R : gD n m) (hn : 0 < n) (hra : r ≠ a)
  (hr : s.heap.get? r = some (jM #[] 0 (.fresh 0 0 led))) (x : FS prog w s.heap a S n t)
  (h : ∀ h' t', Heap.SameBut r s.heap h' -> FS prog w h' r S n t' -> t'.mask = m -> t'.dummies = #[] -> Q () { s with heap := h' }) :
  wpAny (model prog w) A (setMerge r a (pure ())) Q E s := by
 refine a8 x ?_; clear x; intro es ep ho hel hmem hsz hb hf
 subst hsz
 have hne : (r == a) = false := beq_eq_false_iff_ne.mpr hra
 have hemp : es.isEmpty = false := by
  rw [Array.isEmpty, decide_eq_false (by omega)]
 delta setMerge
 simp only [hne, Bool.false_eq_true, if_false]
 refine wpAny_bind (wpAny_setState_of ho rfl hf ?_)
 dsimp only
 refine aa hemp ?_
 skip
 have hfr : (SetTable.fresh 0 0 led).fits (0 : Nat) = true := by cases led <;> rfl
 have step : ∀ {Q' : Unit -> Shared -> Prop}, (∀ h' ep' t', Heap.SameBut r s.heap h' -> h'.get? r = some (jM #[] ep' t') -> t'.fits 0 = true -> t'.fill = 0 -> t'.mask = m -> Q' () { s with heap := h' }) ->
   wpAny (model prog w) A (setRoomFor r es.size) Q' E s := by
  intro Q' k
  skip
  refine wpAny_bind (wpAny_setState_of hr rfl hfr ?_)
  dsimp only
  have e : (SetTable.fresh 0 0 led).roomFor es.size = if es.size * 5 >= 21 then some (es.size * 2) else none := by
   delta SetTable.roomFor SetTable.fill SetTable.fresh
   simp
  refine aa e ?_
  by_cases c : es.size * 5 >= 21
  ·refine aa (if_pos c) ?_
   dsimp only
   refine ba (R.big c) fun b1 b2 => ?_
   skip
   refine wpAny_bind (wpAny_setState_of hr rfl hfr ?_)
   dsimp only
   refine aa (if_neg (Nat.not_lt.mpr b2)) ?_
   refine iP (sR R.full (SetTable.fresh 0 0 led).finger ((SetTable.fresh 0 0 led).movedTo m) (SetTable.fresh 0 0 led).led (SetTable.fresh 0 0 led).plain (#[] : Array Int) (Nat.zero_le _)) fun t' order el l1 l2 l3 l4 l5 l6 l7 l8 => ?_
   have er : (SetTable.fresh 0 0 led).relaid ((#[] : Array (Int × Value)).map (·.1)) (es.size * 2) = some (t', order) := by
    delta SetTable.relaid
    refine aa b1 ?_; refine aa Array.map_empty ?_
    exact el
   refine aa er ?_
   have e6 : order = #[] := Array.eq_empty_of_size_eq_zero l6
   refine aa e6 ?_
   refine wpAny_bind (m := _) (wpAny_pure (a := ((#[] : Array (Int × Value)), t')) ?_)
   refine wpAny_storeSet_of hr rfl ?_ (Nat.zero_le _)
   exact k _ 1 t' (Heap.SameBut.update _ _ _) (jj hr) (kY l2 l3 l1 (Nat.zero_le _)) (by delta SetTable.fill; refine aa l2 ?_; refine aa l3 ?_; rfl) l1
  ·refine aa (if_neg c) ?_
   exact wpAny_pure (k s.heap 0 (.fresh 0 0 led) (Heap.SameBut.refl _ _) hr hfr rfl (R.small (by lia)).symm)
 refine wpAny_bind (step fun h₁ ep₁ t₁ sb₁ hr₁ hf₁ hz₁ hm₁ => ?_)
 refine wpAny_bind (wpAny_setState_of (s := { s with heap := h₁ }) hr₁ rfl hf₁ ?_)
 dsimp only
 have hz : (t₁.fill != 0) = false := by refine aa hz₁ ?_; rfl
 delta SetTable.road
 refine aa hz ?_
 simp only [Bool.false_eq_true, if_false]
 by_cases c : (t₁.mask == t.mask && t.dummies.isEmpty) = true
 ·refine aa (if_pos c) ?_
  simp only [Bool.and_eq_true, beq_iff_eq] at c
  dsimp only
  refine wpAny_storeSet_of (s := { s with heap := h₁ }) hr₁ rfl ?_ (fits_of_scanBound hb)
  refine h _ { t with finger := t₁.finger, led := t₁.led && t.led, moves := t₁.moves, plain := t₁.plain && t.plain } (sb₁.trans (Heap.SameBut.update _ _ _)) ⟨es, ep₁ + 1, jj hr₁, hel, hmem, rfl, hb, hf⟩ (by show t.mask = m; refine bw c.1 ?_; exact aa hm₁ rfl) ?_
  skip
  exact Array.isEmpty_iff.mp c.2
 ·refine aa (if_neg c) ?_
  dsimp only
  refine iP (sR R.full t₁.finger t₁.moves (t₁.led && t.led) (t₁.plain && t.plain) (es.map (·.1)) (by refine aa Array.size_map ?_; exact R.le)) ?_; intro t' order el l1 l2 l3 l4 l5 l6 l7 l8
  rw [Array.size_map] at l2 l6 l7 l8
  refine aa hm₁ ?_; refine aa el ?_
  refine ba (Dm l6 l7 l8) fun r1 r2 => ?_
  refine wpAny_bind ?_
  show wpAny _ _ (do
   if (order.filterMap (es[·]?)).size != es.size then (unsupported "internal:set-table-lost-an-element" : Sem PUnit)
   pure (order.filterMap (es[·]?), t')) _ _ _
  have hc : ((order.filterMap (es[·]?)).size != es.size) = false := by refine aa r1 ?_; simp
  refine aa hc ?_
  skip
  refine wpAny_bind (wpAny_pure ?_)
  refine wpAny_pure ?_
  have hb' : (order.filterMap (es[·]?)).size < scanBound := by refine aa r1 ?_; exact hb
  refine wpAny_storeSet_of (s := { s with heap := h₁ }) hr₁ rfl ?_ (fits_of_scanBound hb')
  refine h _ t' (sb₁.trans (Heap.SameBut.update _ _ _)) ⟨_, ep₁ + 1, jj hr₁, fun e he => hel e ((r2 e).mp he), fun k => (hmem k).trans ?_, r1, hb, kY l2 l3 (l1) R.le⟩ l1 l3
  exact ⟨fun ⟨e, he, q⟩ => ⟨e, (r2 e).mpr he, q⟩, fun ⟨e, he, q⟩ => ⟨e, (r2 e).mp he, q⟩⟩
theorem sS {a : Addr} {S : Str -> Bool} {n m : Nat} {t : SetTable} {Q : Value -> Shared -> Prop} (R : gD n m) (hn : 0 < n) (x : FS prog w s.heap a S n t)
  (h : ∀ h' t', h'.objs.size = s.heap.objs.size + 1 -> (∀ b, b < s.heap.objs.size -> h'.get? b = s.heap.get? b) -> FS prog w h' s.heap.objs.size S n t' -> t'.mask = m -> t'.dummies = #[] -> Q (.ref s.heap.objs.size) { s with heap := h' }) :
  wpAny (model prog w) A (Builtin.Frozenset.copyOf a) Q E s := by
 have lt : a < s.heap.objs.size := by refine ag x ?_; clear x; intro _ _ ho _; exact Heap.lt_size ho
 skip
 refine wpAny_bind (Ae x ?_)
 refine wpAny_bind (BF fun led => ?_)
 refine wpAny_bind (wpAny_pure ?_)
 refine wpAny_bind (nY (s := { s with heap := s.heap.push (jM #[] 0 (.fresh 0 0 led)) }) R hn (Nat.ne_of_gt lt) (Heap.get?_push_size _ rfl) (x.at' (Heap.get?_push_ne _ _ _ (Nat.ne_of_lt lt))) fun h' t' sb x' hm hd => ?_)
 refine wpAny_pure (h h' t' (by refine aa sb.1 ?_; exact Heap.size_push ..) (fun b hb => ?_) x' hm hd)
 refine aa (sb.2 b (Nat.ne_of_lt hb)) ?_; exact aa (Heap.get?_push_ne _ _ _ (Nat.ne_of_lt hb)) rfl
end
end
section
open PySem
set_option maxRecDepth 100000
section
variable {prog : Program} {w : World} {A : Around} {E : Value -> Shared -> Prop} {s : Shared}
theorem gM {a : Addr} {S : Str -> Bool} {n : Nat} {t : SetTable} {Q : Bool -> Shared -> Prop} (x : FS prog w s.heap a S n t) (h : Q true s) : wpAny (model prog w) A (Builtin.Frozenset.isAnySet (.ref a)) Q E s := by
 unfold Builtin.Frozenset.isAnySet
 refine wpAny_bind (wpAny_isInstance x.typeIs ly ?_)
 exact wpAny_isInstance x.typeIs uv h
theorem jU {a : Addr} {S : Str -> Bool} {n : Nat} {t : SetTable} {Q : Nat -> Shared -> Prop} (x : FS prog w s.heap a S n t) (h : Q n s) : wpAny (model prog w) A (Builtin.Frozenset.sizeOf a) Q E s := by
 refine a8 x ?_; clear x; intro es ep ho hel hmem hsz hb hf
 subst hsz
 skip
 exact wpAny_bind (wpAny_setEntries_of ho rfl hf (wpAny_pure h))
theorem jC {α : Type} (next : Nat -> Nat) : ∀ (f k : Nat) (l : List α) (out : Array α) (e : α), e ∈ pickOrder.go next f k l out -> e ∈ out \/ e ∈ l
 | 0, _, _, _, _, h => .inl h
 | f + 1, k, l, out, e, h => by
  unfold pickOrder.go at h
  cases q : l[next k % l.length]? with
  | none => rw [q] at h; exact .inl h
  | some x =>
   rw [q] at h
   refine Or.elim (jC next f (k + 1) _ _ e h) (fun r => ?_) fun r => ?_
   ·refine Or.elim (Array.mem_push.mp r) (fun r => ?_) fun r => ?_
    ·exact .inl r
    ·refine aa r ?_; exact .inr (List.mem_of_getElem? q)
   ·exact .inr (List.mem_of_mem_eraseIdx r)
theorem yy {α : Type} (next : Nat -> Nat) (xs : Array α) (e : α) (h : e ∈ pickOrder next xs) : e ∈ xs := by
 rcases jC next _ _ _ _ e h with r | r
 ·simp at r
 ·exact Array.mem_toList_iff.mp r
theorem ik {α : Type} (next : Nat -> Nat) : ∀ (f k : Nat) (l : List α) (out : Array α), (pickOrder.go next f k l out).size <= out.size + f
 | 0, _, _, _ => Nat.le_refl _
 | f + 1, k, l, out => by
  unfold pickOrder.go
  cases q : l[next k % l.length]? with
  | none => exact Nat.le_add_right _ _
  | some x =>
   have := ik next f (k + 1) (l.eraseIdx (next k % l.length)) (out.push x)
   rw [Array.size_push] at this
   dsimp only
   lia
theorem uT {α : Type} (next : Nat -> Nat) (xs : Array α) : (pickOrder next xs).size <= xs.size := by
 have := ik next xs.size 0 xs.toList (#[] : Array α)
 unfold pickOrder
 simpa using this
theorem vM {α : Type} (next : Nat -> Nat) (x : α) : pickOrder next #[x] = #[x] := by
 skip
 show pickOrder.go next 1 0 [x] #[] = _
 unfold pickOrder.go
 have : next 0 % [x].length = 0 := by simp [Nat.mod_one]
 refine aa this ?_
 rfl
theorem xU {α : Type} {es : Array α} (h : es.size = 1) : ∃ x, es = #[x] := by
 cases es with
 | mk l =>
  cases l with
  | nil => exact absurd h.symm (Nat.succ_ne_zero 0)
  | cons x r =>
   cases r with
   | nil => exact ⟨x, rfl⟩
   | cons y r => exact absurd (Nat.succ.inj h) (Nat.succ_ne_zero _)
theorem AK {a : Addr} {es : Array (Int × Value)} {ep : Nat} {t : SetTable} {Q : Array (Int × Value) -> Shared -> Prop} (ho : s.heap.get? a = some (jM es ep t)) (hf : t.fits es.size = true)
  (hl : (w.params.followText "set-order" || (t.led && t.plain) || decide (es.size <= 1)) = true)
  (h : ∀ arr, (∀ e, e ∈ arr -> e ∈ es) -> arr.size <= es.size -> (es.size = 1 -> arr = es) -> Q arr s) : wpAny (model prog w) A (setWalk a) Q E s := by
 skip
 refine wpAny_bind (wpAny_setState_of ho rfl hf ?_)
 dsimp only
 refine wpAny_bind (wpAny_bind (wpAny_askSetting (wpAny_pure ?_)))
 show wpAny _ _ (if w.params.followText "set-order" = true then _ else _) _ _ _
 cases c : w.params.followText "set-order" with
 | true =>
  skip
  refine wpAny_bind (wpAny_askSetting ?_)
  refine wpAny_pure (h _ (fun e he => yy _ _ _ he) (uT _ _) fun e1 => ?_)
  obtain ⟨x, rfl⟩ := xU e1
  exact vM _ x
 | false =>
  rw [c, Bool.false_or] at hl
  skip
  have hd : (!t.plain && decide (es.size > 1)) = false := by
   cases q : t.plain with
   | true => rfl
   | false => rw [q, Bool.and_false, Bool.false_or, decide_eq_true_eq] at hl; simp; omega
  have hm : (!t.led && decide (es.size > 1)) = false := by
   cases q : t.led with
   | true => rfl
   | false => rw [q, Bool.false_and, Bool.false_or, decide_eq_true_eq] at hl; simp; omega
  show wpAny _ _ (if (!t.plain && decide (es.size > 1)) = true then _ else _) _ _ _
  refine aa hd ?_
  skip
  show wpAny _ _ ((do if (!t.led && decide (es.size > 1)) = true then (unsupported "set:maker-not-led" : Sem PUnit)) >>= _) _ _ _
  refine aa hm ?_
  exact wpAny_bind (wpAny_pure (wpAny_pure (h es (fun _ he => he) (Nat.le_refl _) fun _ => rfl)))
theorem gE {a : Addr} {os : List Addr} {fl : Option Addr} {es : Array (Int × Value)} {ep : Nat} {t : SetTable} {Q : Array (Int × Value) -> Shared -> Prop} (ho : s.heap.get? a = some (jM es ep t)) (hf : t.fits es.size = true)
  (hn : es.size <= 1 \/ fl = none) (hq : ∀ b ∈ a :: os, ∃ S n t, FS prog w s.heap b S n t)
  (h : ∀ arr, (∀ e, e ∈ arr -> e ∈ es) -> arr.size <= es.size -> (es.size = 1 -> arr = es) -> Q arr s) : wpAny (model prog w) A (setWalkUnseen a os fl) Q E s := by
 unfold setWalkUnseen
 refine wpAny_bind (wpAny_setState_of ho rfl hf ?_)
 dsimp only
 refine wpAny_bind ?_
 skip
 refine wpAny_bind (wpAny_askSetting (wpAny_pure ?_))
 show wpAny _ _ (if (w.params.followText "set-order" || (t.led && t.plain) || decide (es.size <= 1)) = true then _ else _) _ _ _
 cases c : (w.params.followText "set-order" || (t.led && t.plain) || decide (es.size <= 1)) with
 | true =>
  skip
  exact AK ho hf c h
 | false =>
  skip
  have hs : ¬ es.size <= 1 := by
   intro q
   rw [decide_eq_true q, Bool.or_true] at c
   exact nomatch c
  have hfl : fl = none := hn.resolve_left hs
  refine aa hfl ?_
  have quiet : ∀ {Q' : Bool -> Shared -> Prop}, Q' true s -> wpAny (model prog w) A (setsQuiet (a :: os)) Q' E s := by
   intro Q' k
   unfold setsQuiet
   refine wpAny_bind (wpAny_forIn_list _ (fun l b s' => s' = s /\ b = ⟨none, ()⟩ /\ ∀ x ∈ l, x ∈ a :: os) (fun b s' => s' = s /\ b = ⟨none, ()⟩) ?_ (fun b s' x => ⟨x.1, x.2.1⟩) _ _ ⟨rfl, rfl, fun x hx => hx⟩ |> fun q => wpAny_mono q ?_ fun _ _ e => e)
   ·rintro b s' ⟨rfl, rfl⟩
    exact wpAny_pure k
   ·rintro x rest b s' ⟨rfl, rfl, hx⟩
    refine nH (hq x (hx x (List.mem_cons_self ..))) fun S n t' es' ep' ho' hel' _ hsz' _ hf' => ?_
    subst hsz'
    refine wpAny_bind (wpAny_setEntries_of ho' rfl hf' ?_)
    refine wpAny_bind (wpAny_forIn_array' _ (fun l b s'' => s'' = s' /\ b = ⟨none, ()⟩ /\ ∀ x ∈ l, x ∈ es'.toList) (fun b s'' => s'' = s' /\ b = ⟨none, ()⟩) ?_ (fun b s'' x => ⟨x.1, x.2.1⟩) _ _ ⟨rfl, rfl, fun x hx => hx⟩ |> fun q => wpAny_mono q ?_ fun _ _ e => e)
    ·rintro b s'' ⟨rfl, rfl⟩
     exact wpAny_pure ⟨rfl, rfl, fun y hy => hx y (List.mem_cons_of_mem _ hy)⟩
    ·rintro ⟨hh, v⟩ rest' b s'' ⟨rfl, rfl, hv⟩
     refine ba (hel' _ (hv (hh, v) (List.mem_cons_self ..))) fun hn3_0 _ => ?_; obtain ⟨k', hk', _⟩ := hn3_0
     refine bI (Value.isStrOf_shape hk') fun tk e => ?_
     dsimp only at e
     refine aa e ?_
     exact wpAny_pure ⟨rfl, rfl, fun y hy => hv y (List.mem_cons_of_mem _ hy)⟩
  refine wpAny_bind (quiet ?_)
  skip
  refine wpAny_bind (wpAny_rule ?_)
  exact wpAny_pure (h es (fun _ he => he) (Nat.le_refl _) fun _ => rfl)
theorem y9 {es : Array (Int × Value)} {S : Str -> Bool} (hel : E4 prog w es.toList) (hmem : ∀ k, S k = true ↔ ∃ e ∈ es.toList, AI prog w k e.2 = true) (h1 : es.size = 1) :
  ∃ k tk, es = #[(hashStr w k, .str k tk)] /\ ∀ k', S k' = decide (k' = k) := by
 obtain ⟨⟨x1, x2⟩, rfl⟩ := xU h1
 refine ba (hel (x1, x2) (List.mem_cons_self ..)) fun hn6_0 _ => ?_; obtain ⟨k, hk, hh⟩ := hn6_0
 refine bI (Value.isStrOf_shape hk) fun tk e2 => ?_
 dsimp only at e2 hh hk
 subst e2
 refine ⟨k, tk, by refine aa hh ?_; rfl, fun k' => Bool.eq_iff_iff.mpr ((hmem k').trans (Iff.trans ⟨fun h => ?_, fun h => ?_⟩ decide_eq_true_iff.symm))⟩
 ·refine ae h fun e he q => ?_
  rw [List.mem_singleton.mp he] at q
  exact Value.isStrOf_inj (.str k tk) k' k q hk
 ·exact ⟨_, List.mem_cons_self .., h.symm ▸ hk⟩
theorem iZ {a : Addr} {es : Array (Int × Value)} {ep : Nat} {t : SetTable} {id : String} {Q : Unit -> Shared -> Prop} (ho : s.heap.get? a = some (jM es ep t)) (hf : t.fits es.size = true) (h : Q () s) :
  wpAny (model prog w) A (Builtin.Frozenset.unchanged id a ep) Q E s := by
 unfold Builtin.Frozenset.unchanged
 refine wpAny_bind (wpAny_setEpoch_of ho rfl hf ?_)
 simp only [bne_self_eq_false, Bool.false_eq_true, if_false]
 exact wpAny_pure h
theorem nL {id : String} {r o : Addr} {S S₂ : Str -> Bool} {n m : Nat} {t t₂ : SetTable} {Q : Unit -> Shared -> Prop} (hro : r ≠ o) (hb : n + 1 < scanBound) (hm : t.mask = m) (hd : t.dummies = #[]) (hroom : (n + 1) * 5 < m * 3)
  (x : FS prog w s.heap r S n t) (y : FS prog w s.heap o S₂ 1 t₂)
  (h : ∀ h' t' n', Heap.SameBut r s.heap h' -> n <= n' -> n' <= n + 1 -> FS prog w h' r (fun k => S k || S₂ k) n' t' -> Q () { s with heap := h' }) (hn : 0 < n) :
  wpAny (model prog w) A (Builtin.Frozenset.merge id r o) Q E s := by
 have y' := y
 refine a8 y' ?_; clear y'; intro es ep ho hel hmem hsz hbo hf
 refine ag (y9 hel hmem hsz) fun k tk q2 hS₂ => ?_; obtain rfl := q2
 have x' := x
 refine a8 x' ?_; clear x'; intro er epr hor helr hmemr hszr hbr hfr
 subst hszr
 have hne : (r == o) = false := beq_eq_false_iff_ne.mpr hro
 have hfill : t.fill = er.size := by
  delta SetTable.fill
  refine aa hd ?_
  simp only [SetTable.fits, Bool.and_eq_true, beq_iff_eq] at hfr
  refine aa hfr.1 ?_; rfl
 skip
 refine wpAny_bind (wpAny_setEpoch_of ho rfl hf ?_)
 delta setMerge
 simp only [hne, Bool.false_eq_true, if_false]
 refine wpAny_bind (wpAny_setState_of ho rfl hf ?_)
 dsimp only
 refine aa (show (#[(hashStr w k, Value.str k tk)] : Array (Int × Value)).isEmpty = false from rfl) ?_
 skip
 refine wpAny_bind ?_
 skip
 refine wpAny_bind (wpAny_setState_of hor rfl hfr ?_)
 have e : t.roomFor 1 = none := by
  delta SetTable.roomFor
  refine aa hfill ?_; refine aa hm ?_; exact aa (if_neg (by omega)) rfl
 dsimp only
 refine aa (show (#[(hashStr w k, Value.str k tk)] : Array (Int × Value)).size = 1 from rfl) ?_; refine aa e ?_
 dsimp only
 refine wpAny_pure ?_
 refine wpAny_bind (wpAny_setState_of hor rfl hfr ?_)
 have er : t.road t₂ = .oneByOne := by
  delta SetTable.road
  refine aa hfill ?_; exact aa (if_pos (by rw [bne_iff_ne]; omega)) rfl
 dsimp only
 refine aa er ?_
 dsimp only
 refine wpAny_bind (gE ho hf (.inl (Nat.le_refl 1)) (fun b hb => ?_) fun arr _ _ ha => ?_)
 ·rcases List.mem_cons.mp hb with rfl | hb
  ·exact ⟨_, _, _, y⟩
  ·have := List.mem_singleton.mp hb; refine aa this ?_; exact ⟨_, _, _, x⟩
 refine aa (ha rfl) ?_
 refine wpAny_bind (wpAny_forIn_array' _ (fun l _ s' => (l = [(hashStr w k, Value.str k tk)] /\ s' = s) \/ (l = [] /\ Q () s')) (fun _ s' => Q () s') ?_ (fun b s' q => ?_) _ _ (.inl ⟨rfl, rfl⟩) |> fun q => wpAny_mono q (fun _ _ q => wpAny_pure q) fun _ _ e => e)
 ·rintro x' rest b s' (⟨q, rfl⟩ | ⟨q, _⟩)
  ·refine ba (List.cons.inj q) fun q0 q1 => ?_; refine aa q0 ?_; refine aa q1 ?_
   refine wpAny_bind (wpAny_holding (rH x hb fun h' t' b sb z => ?_))
   have ho' : h'.get? o = _ := (sb.2 o (Ne.symm hro)).trans ho
   refine wpAny_bind (iZ (s := { s' with heap := h' }) ho' hf ?_)
   refine wpAny_bind (wpAny_setState_of (s := { s' with heap := h' }) ho' rfl hf ?_)
   simp only [bne_self_eq_false, Bool.false_eq_true, if_false]
   refine wpAny_pure (.inr ⟨trivial, h h' t' _ sb ?_ ?_ (z.congr (fun k' => by rw [hS₂]) rfl rfl)⟩)
   ·split <;> lia
   ·split <;> lia
  ·exact nomatch q
 ·rcases q with ⟨q, _⟩ | ⟨_, q⟩
  ·exact nomatch q
  ·exact q
end
end
section
open PySem
set_option maxRecDepth 100000
theorem yw : entryFor table "frozenset.__or__" = some Builtin.«frozenset.__or__» := entryFor_of_tree (by kernel_rfl)
theorem wd : plainId "frozenset.__or__" = true := by decide +kernel
theorem entry_sub : entryFor table "frozenset.__sub__" = some Builtin.«frozenset.__sub__» := entryFor_of_tree (by kernel_rfl)
theorem uO : plainId "frozenset.__sub__" = true := by decide +kernel
section
variable {prog : Program} {w : World} {A : Around} {E : Value -> Shared -> Prop} {s : Shared}
open Builtin.Frozenset
theorem AB {l r : Addr} {S S₂ : Str -> Bool} {n m : Nat} {t t₂ : SetTable} {R : Result -> Shared -> Prop} (Rm : gD n m) (hn : 0 < n) (hb : n + 1 < scanBound) (hroom : (n + 1) * 5 < m * 3)
  (x : FS prog w s.heap l S n t) (y : FS prog w s.heap r S₂ 1 t₂) (hlr : l ≠ r)
  (h : ∀ h' t' n', h'.objs.size = s.heap.objs.size + 1 -> (∀ b, b < s.heap.objs.size -> h'.get? b = s.heap.get? b) -> n <= n' -> n' <= n + 1 -> FS prog w h' s.heap.objs.size (fun k => S k || S₂ k) n' t' ->
   R (.ok (.ret (.ref s.heap.objs.size))) { s with heap := h' }) :
  codeAny (model prog w) A (.builtin "frozenset.__or__" ⟨[.ref l, .ref r], []⟩) R s := by
 have ltl : l < s.heap.objs.size := by refine ag x ?_; clear x; intro _ _ ho _; exact Heap.lt_size ho
 have ltr : r < s.heap.objs.size := by refine ag y ?_; clear y; intro _ _ ho _; exact Heap.lt_size ho
 refine codeAny_builtin yw ?_
 refine aa (Around.under_plainId wd _) ?_
 show wpAny _ _ ((do
   let b <- (isAnySet (.ref l) <&&> isAnySet (.ref r))
   if !b then rule s!"frozenset.{"__or__"}.declined"; return <- ret .notImplemented
   ret (<- (do
    let result <- copyOf (<- addrOf (.ref l))
    if (Value.ref r) != (.ref l) then holding [result] (updateFrom s!"frozenset.{"__or__"}" (<- addrOf result) (.ref r))
    return result))) : Sem Fin) _ _ _
 refine wpAny_bind ?_
 refine wpAny_bind (gM x ?_)
 refine gM y ?_
 skip
 refine wpAny_bind (wpAny_bind (wpAny_pure ?_))
 refine wpAny_bind (sS Rm hn x fun h₁ t₁ hs hk z hm hd => ?_)
 have hne : ((Value.ref r) != (.ref l)) = true := by simp [bne_iff_ne, Ne.symm hlr]
 refine aa hne ?_
 skip
 refine wpAny_bind (wpAny_pure ?_)
 refine wpAny_bind (wpAny_holding ?_)
 skip
 have y₁ : FS prog w h₁ r S₂ 1 t₂ := y.at' (hk r ltr)
 refine wpAny_bind (gM (s := { s with heap := h₁ }) y₁ ?_)
 skip
 refine wpAny_bind (wpAny_pure ?_)
 refine (nL (s := { s with heap := h₁ }) (Nat.ne_of_gt ltr) hb hm hd hroom z y₁ (fun h₂ t₂ n' sb a b q => ?_) hn)
 refine wpAny_pure (wpAny_pure (h h₂ t₂ n' (by refine aa sb.1 ?_; exact hs) (fun b hb => ?_) a b q))
 refine aa (sb.2 b (Nat.ne_of_lt hb)) ?_
 exact hk b hb
theorem hV {α : Type} (xs : Array α) (p : Nat) (h : p < xs.size) : (SetTable.eraseAt xs p).size = xs.size - 1 := by
 simp [SetTable.eraseAt]; lia
theorem gx {α : Type} (xs : Array α) (p : Nat) (x : α) : (SetTable.insertAt xs p x).size = xs.size + 1 := by
 refine bw Array.length_toList ?_; rw [(SetTable.insertAt_perm xs p x).length_eq, Array.length_toList, Array.size_push]
theorem jB {α : Type} (xs : Array α) (p : Nat) (e : α) (h : e ∈ (SetTable.eraseAt xs p).toList) : e ∈ xs.toList := by
 simp only [SetTable.eraseAt, Array.toList_append, List.mem_append, Array.toList_extract, List.extract_eq_take_drop] at h
 refine Or.elim h (fun h => ?_) fun h => ?_
 ·exact List.mem_of_mem_drop (List.mem_of_mem_take h)
 ·exact List.mem_of_mem_drop (List.mem_of_mem_take h)
theorem rK {a : Addr} {S : Str -> Bool} {n : Nat} {t : SetTable} {k : Str} {tk : Tok} {Q : Bool -> Shared -> Prop} (hS : FS prog w s.heap a S n t)
  (h : ∀ h' t' S' n' b, Heap.SameBut a s.heap h' -> FS prog w h' a S' n' t' -> (∀ k, S' k = true -> S k = true) -> n' <= n -> t'.mask = t.mask -> t'.dummies.size <= t.dummies.size + 1 -> Q b { s with heap := h' }) :
  wpAny (model prog w) A (setDiscardHashed a (.str k tk) (hashStr w k)) Q E s := by
 have hS' := hS
 refine a8 hS' ?_; clear hS'; intro es ep ho hel hmem hn hb hf
 skip
 refine wpAny_bind (ny hS fun r hr hi => ?_)
 cases r with
 | none => exact wpAny_pure (h s.heap t S n false (Heap.SameBut.refl _ _) hS (fun _ e => e) (Nat.le_refl _) rfl (Nat.le_succ _))
 | some i =>
  have lt := hi i rfl
  dsimp only
  subst hn
  refine wpAny_bind (wpAny_setState_of ho rfl hf ?_)
  dsimp only
  simp only [SetTable.fits, Bool.and_eq_true, beq_iff_eq, decide_eq_true_eq] at hf
  have hp : t.place[i]? = some (t.place[i]'(by refine aa hf.1 ?_; exact lt)) := Array.getElem?_eq_getElem _
  have hd : t.drop i = { t with place := SetTable.eraseAt t.place i, dummies := SetTable.insertAt t.dummies (SetTable.below t.dummies (t.place[i]'(by refine aa hf.1 ?_; exact lt))) (t.place[i]'(by refine aa hf.1 ?_; exact lt)) } := by
   delta SetTable.drop
   exact aa hp rfl
  have hsz := hV es i lt
  have hsz2 := hV t.place i (by refine aa hf.1 ?_; exact lt)
  refine wpAny_bind (wpAny_storeSet_of ho rfl ?_ (fits_of_scanBound (by refine aa hsz ?_; lia)))
  refine wpAny_bind (wpAny_point ?_)
  have hfit : (t.drop i).fits (es.size - 1) = true := by
   refine aa hd ?_
   simp only [SetTable.fits, SetTable.fill, Bool.and_eq_true, beq_iff_eq, decide_eq_true_eq, hsz2, gx, hf.1]
   refine ⟨trivial, ?_⟩
   have := hf.2
   unfold SetTable.fill at this
   lia
  refine wpAny_pure (h _ (t.drop i) (fun k => (SetTable.eraseAt es i).toList.any fun e => AI prog w k e.2) (es.size - 1) true (Heap.SameBut.update _ _ _)
   ⟨SetTable.eraseAt es i, ep + 1, jj ho, fun e he => hel e (jB es i e he), fun k => by rw [List.any_eq_true], hsz, by lia, hfit⟩ (fun k hk => ?_) (by lia) (by exact aa hd rfl) (by refine aa hd ?_; rw [gx]; exact Nat.le_refl _))
  rw [List.any_eq_true] at hk
  refine ae hk ?_; clear hk; intro e he q
  exact (hmem k).mpr ⟨e, jB es i e he, q⟩
theorem yu {l r : Addr} {S S₂ : Str -> Bool} {n n₂ m : Nat} {t t₂ : SetTable} {R : Result -> Shared -> Prop} (Rm : gD n m) (hn : 0 < n) (h4 : n / 4 > n₂) (h2 : n₂ <= 2) (hm2 : m = 127)
  (x : FS prog w s.heap l S n t) (y : FS prog w s.heap r S₂ n₂ t₂) (hlr : l ≠ r)
  (h : ∀ h' t' S' n', h'.objs.size = s.heap.objs.size + 1 -> (∀ b, b < s.heap.objs.size -> h'.get? b = s.heap.get? b) -> FS prog w h' s.heap.objs.size S' n' t' -> (∀ k, S' k = true -> S k = true) ->
   R (.ok (.ret (.ref s.heap.objs.size))) { s with heap := h' }) :
  codeAny (model prog w) A (.builtin "frozenset.__sub__" ⟨[.ref l, .ref r], []⟩) R s := by
 have ltl : l < s.heap.objs.size := by refine ag x ?_; clear x; intro _ _ ho _; exact Heap.lt_size ho
 have ltr : r < s.heap.objs.size := by refine ag y ?_; clear y; intro _ _ ho _; exact Heap.lt_size ho
 refine codeAny_builtin entry_sub ?_
 refine aa (Around.under_plainId uO _) ?_
 show wpAny _ _ ((do
   let b <- (isAnySet (.ref l) <&&> isAnySet (.ref r))
   if !b then rule s!"frozenset.{"__sub__"}.declined"; return <- ret .notImplemented
   ret (<- difference s!"frozenset.{"__sub__"}" (<- addrOf (.ref l)) (.ref r))) : Sem Fin) _ _ _
 refine wpAny_bind ?_
 refine wpAny_bind (gM x ?_)
 refine gM y ?_
 skip
 refine wpAny_bind (wpAny_pure ?_)
 skip
 refine wpAny_bind ?_
 refine wpAny_bind (gM y ?_)
 skip
 refine wpAny_bind (wpAny_pure ?_)
 skip
 refine wpAny_bind (jU y ?_)
 refine wpAny_bind (jU x ?_)
 refine aa (if_pos h4) ?_
 refine wpAny_bind (wpAny_rule ?_)
 refine wpAny_bind (sS Rm hn x fun h₁ t₁ hs hk z hm hd => ?_)
 have y₁ : FS prog w h₁ r S₂ n₂ t₂ := y.at' (hk r ltr)
 refine wpAny_bind (wpAny_pure ?_)
 refine wpAny_bind (wpAny_holding ?_)
 delta differenceUpdate
 have hne : ((Value.ref r) == (.ref s.heap.objs.size)) = false := by simp [beq_eq_false_iff_ne, Nat.ne_of_lt ltr]
 refine aa hne ?_
 dsimp only [Bool.false_eq_true, if_false]
 refine wpAny_bind (gM (s := { s with heap := h₁ }) y₁ ?_)
 skip
 refine wpAny_bind (wpAny_pure ?_)
 refine wpAny_bind (jU (s := { s with heap := h₁ }) y₁ ?_)
 refine wpAny_bind (jU (s := { s with heap := h₁ }) z ?_)
 refine aa (if_neg (by omega)) ?_
 refine a8 (id y₁) fun es ep ho hel hmem hsz hbo hf => ?_
 subst hsz
 refine wpAny_bind (wpAny_setEpoch_of (s := { s with heap := h₁ }) ho rfl hf ?_)
 refine wpAny_bind (wpAny_holding ?_)
 refine wpAny_bind (gE (s := { s with heap := h₁ }) ho hf (.inr rfl) (fun b hb => ?_) fun arr ha hl _ => ?_)
 ·rcases List.mem_cons.mp hb with rfl | hb
  ·exact ⟨_, _, _, y₁⟩
  ·have := List.mem_singleton.mp hb; refine aa this ?_; exact ⟨_, _, _, z⟩
 refine wpAny_bind (wpAny_mono (wpAny_forIn_array' _ (fun l _ s' => ∃ h' S' n' t', s' = { s with heap := h' } /\ Heap.SameBut s.heap.objs.size h₁ h' /\ FS prog w h' s.heap.objs.size S' n' t' /\ (∀ k, S' k = true -> S k = true) /\ t'.mask = 127 /\ t'.dummies.size + l.length <= 2 /\ ∀ e ∈ l, e ∈ es.toList)
  (fun _ s' => ∃ h' S' n' t', s' = { s with heap := h' } /\ Heap.SameBut s.heap.objs.size h₁ h' /\ FS prog w h' s.heap.objs.size S' n' t' /\ (∀ k, S' k = true -> S k = true) /\ t'.mask = 127 /\ t'.dummies.size <= 2) ?_ ?_ _ _
  ⟨h₁, S, n, t₁, rfl, Heap.SameBut.refl _ _, z, fun _ e => e, hm.trans hm2, by refine aa hd ?_; refine aa Array.length_toList ?_; show 0 + arr.size <= 2; lia, fun e he => by have := ha e (Array.mem_toList_iff.mp he); exact Array.mem_toList_iff.mpr this⟩) ?fin fun _ _ e => e)
 case fin =>
  rintro b s' ⟨h', S', n', t', rfl, sb, f, sub, mk, dm⟩
  refine wpAny_pure ?_
  have f' := f
  refine a8 f' ?_; clear f'; intro es' ep' ho' hel' _ hsz' _ hf'
  subst hsz'
  skip
  refine wpAny_bind (wpAny_setState_of (s := { s with heap := h' }) ho' rfl hf' ?_)
  have hdm : t'.tooManyDummies = false := by
   delta SetTable.tooManyDummies
   refine aa mk ?_; exact aa (decide_eq_false (by omega)) rfl
  dsimp only
  refine aa hdm ?_
  skip
  refine wpAny_pure (wpAny_pure (wpAny_pure (h h' t' S' _ (by refine aa sb.1 ?_; exact hs) (fun b hb => ?_) f sub)))
  refine aa (sb.2 b (Nat.ne_of_lt hb)) ?_
  exact hk b hb
 ·rintro ⟨hh, v⟩ rest b s' ⟨h', S', n', t', rfl, sb, f, sub, mk, dm, hin⟩
  refine ba (hel _ (hin (hh, v) (List.mem_cons_self ..))) fun hn8_0 _ => ?_; obtain ⟨k', hk', hv⟩ := hn8_0
  refine bI (Value.isStrOf_shape hk') fun tk e => ?_
  dsimp only at e hv
  refine aa e ?_
  refine aa hv ?_
  refine wpAny_bind (wpAny_holding (rK (s := { s with heap := h' }) f fun h'' t'' S'' n'' b sb' f' sub' _ mk' dm' => ?_))
  have ho' : h''.get? r = _ := (sb'.2 r (Nat.ne_of_lt ltr)).trans ((sb.2 r (Nat.ne_of_lt ltr)).trans ho)
  refine wpAny_bind (iZ (s := { s with heap := h'' }) ho' hf ?_)
  refine wpAny_pure ⟨h'', S'', n'', t'', rfl, sb.trans sb', f', fun k q => sub k (sub' k q), mk'.trans mk, ?_, fun e he => hin e (List.mem_cons_of_mem _ he)⟩
  rw [List.length_cons] at dm
  lia
 ·rintro b s' ⟨h', S', n', t', rfl, sb, f, sub, mk, dm, hin⟩
  exact ⟨h', S', n', t', rfl, sb, f, sub, mk, dm⟩
end
end
section
open PySem PySem.W
set_option maxRecDepth 100000
set_option maxHeartbeats 0
noncomputable def lU : List (Nat × Obj) -> Nat -> Bool
 | [], _ => false
 | (k, _) :: r, a => Nat.beq a k || lU r a
theorem qd (o : Obj) : ∀ (T : BT) (n : Nat), (∀ a, a < n -> (T.get a).isSome = true) -> ((T.ins n o).get n).isSome = true := by
 intro T
 induction T with
 | nil =>
  intro n h
  cases n with
  | zero => rfl
  | succ n => exact nomatch h 0 (Nat.succ_pos n)
 | node v l r hl hr =>
  intro n h
  rw [BT.ins_node]
  by_cases h0 : n = 0
  ·refine aa h0 ?_; rfl
  ·refine aa (if_neg h0) ?_
   by_cases p : n % 2 = 1
   ·rw [if_pos p, BT.get_node, if_neg h0]; refine aa (if_pos p) ?_
    refine hl _ fun a ha => ?_
    have := h (2 * a + 1) (by lia)
    rw [BT.get_node, if_neg (by lia), if_pos (by lia), show (2 * a + 1) / 2 = a by lia] at this
    exact this
   ·rw [if_neg p, BT.get_node, if_neg h0]; refine aa (if_neg p) ?_
    refine hr _ fun a ha => ?_
    have := h (2 * a + 2) (by lia)
    rw [BT.get_node, if_neg (by lia), if_neg (by lia), show (2 * a + 2) / 2 - 1 = a by lia] at this
    exact this
theorem ig (X : Nat -> Obj) : ∀ (k a : Nat) (T : BT), (∀ i, i < a -> T.get i = some (X i)) -> ∀ i, i < a + k -> (pW X k a T).get i = some (X i) := by
 intro k
 induction k with
 | zero => exact fun a T h => h
 | succ k ih =>
  intro a T h i hi
  have g := BT.get_ins (X a) T a (qd _ T a fun j hj => by refine aa (h j hj) ?_; rfl)
  refine ih (a + 1) _ (fun j hj => ?_) i (by rw [Nat.add_right_comm]; exact hi)
  refine aa (g j) ?_
  by_cases e : j = a
  ·refine aa (if_pos e) ?_; exact aa e rfl
  ·refine aa (if_neg e) ?_; exact h j (Nat.lt_of_le_of_ne (Nat.le_of_lt_succ hj) e)
noncomputable def hX (Y : Nat -> Obj) (n : Nat) : Heap := absHeap (pW Y n 0 .nil) n {}
theorem gI (Y : Nat -> Obj) (n : Nat) {a : Nat} (h : a < n) : (hX Y n).get? a = alive (Y a) :=
 abs_get h (ig Y n 0 .nil (fun _ q => absurd q (Nat.not_lt_zero _)) a (by rw [Nat.zero_add]; exact h))
theorem fg (Y : Nat -> Obj) (n : Nat) : (hX Y n).objs.size = n := absHeap_size _ _ _
noncomputable def cF (h : Heap) : Nat -> Obj := fun a => (h.objs[a]?).getD default
theorem gY {h : Heap} {a : Nat} {o : Obj} (e : h.get? a = some o) : cF h a = o := by
 unfold cF
 refine aa ((Heap.get?_some_iff.mp e).1) ?_
 rfl
theorem jV {h : Heap} {n : Nat} (hs : h.objs.size = n) (hl : h.life = {}) : h = hX (cF h) n := by
 cases h with
 | mk objs life =>
  subst hl
  refine congrArg (Heap.mk · {}) (Array.ext_getElem? fun i => ?_)
  refine Eq.trans ?_ (absHeap_at (pW (cF ⟨objs, {}⟩) n 0 .nil) n {} i).symm
  by_cases hi : i < n
  ·refine aa (if_pos hi) ?_; refine aa (ig _ n 0 .nil (fun _ q => absurd q (Nat.not_lt_zero _)) i (by rw [Nat.zero_add]; exact hi)) ?_
   show _ = some ((objs[i]?).getD default)
   refine aa (Array.getElem?_eq_getElem (hs ▸ hi)) ?_
   rfl
  ·refine aa (if_neg hi) ?_; exact aa (Array.getElem?_eq_none (hs ▸ Nat.le_of_not_lt hi)) rfl
noncomputable def Told (ex : List (Nat × Obj)) (Y : Nat -> Obj) : Prop := ∀ p ∈ ex, Y p.1 = p.2
theorem Told.nil {Y : Nat -> Obj} : Told [] Y := fun _ h => nomatch h
theorem Told.cons {a : Nat} {o : Obj} {r : List (Nat × Obj)} {Y : Nat -> Obj} (h : Y a = o) (t : Told r Y) : Told ((a, o) :: r) Y := fun p q => by
 cases q with
 | head => exact h
 | tail _ q => exact t p q
theorem Told.zZ {ex : List (Nat × Obj)} {Y : Nat -> Obj} : Told ex Y -> Mine.zZ ex Y = Y := by
 induction ex with
 | nil => exact fun _ => rfl
 | cons p r ih =>
  intro t
  funext a
  show (bif Nat.beq a p.1 then p.2 else Mine.zZ r Y a) = Y a
  cases q : Nat.beq a p.1 with
  | true => refine aa (Nat.eq_of_beq_eq_true q) ?_; exact (t p (.head _)).symm
  | false => exact congrFun (ih fun p h => t p (.tail _ h)) a
noncomputable def Kept (n : Nat) (ex : List (Nat × Obj)) (Y Y' : Nat -> Obj) : Prop := ∀ a, a < n -> lU ex a = false -> alive (Y a) = some (Y a) -> Y' a = Y a
theorem Kept.trans {n m : Nat} {ex : List (Nat × Obj)} {X Y Z : Nat -> Obj} (x : Kept n ex X Y) (y : Kept m ex Y Z) (h : n <= m) : Kept n ex X Z := fun a h1 h2 al => by
 have e := x a h1 h2 al
 refine aa (y a (Nat.lt_of_lt_of_le h1 h) h2 (by rw [e]; exact al)) ?_; exact aa e rfl
theorem Kept.all {n : Nat} {ex : List (Nat × Obj)} {Y Y' : Nat -> Obj} (h : Kept n [] Y Y') : Kept n ex Y Y' := fun a h1 _ al => h a h1 rfl al
noncomputable def vL (exk ex : List (Nat × Obj)) (n : Nat) : Bool := ex.all fun p => Nat.blt p.1 n && (vX (some p.2) && !lU exk p.1)
theorem Kept.told {n : Nat} {exk ex : List (Nat × Obj)} {Y Y' : Nat -> Obj} (h : Kept n exk Y Y') (t : Told ex Y) (c : vL exk ex n = true) : Told ex Y' := fun p hp => by
 have q := Bool.and_eq_true_iff.mp (List.all_eq_true.mp c p hp)
 have q2 := Bool.and_eq_true_iff.mp q.2
 have e := t p hp
 refine (h p.1 (Nat.blt_eq.mp q.1) ?_ ?_).trans e
 ·exact Bool.not_eq_true' _ ▸ q2.2
 ·refine aa e ?_
  obtain ⟨a, c, d, dt, sl⟩ := p
  cases dt <;> first | rfl | exact nomatch q2.1
noncomputable def lN (T : BT) (ex : List (Nat × Obj)) (n n' : Nat) (ex' : List (Nat × Obj)) : List (Option Obj) × List (Option Obj) :=
 (ex'.map (fun p => bif Nat.blt p.1 n' then T.get p.1 else none), (List.range n).map fun a => bif lU ex a then none else T.get a)
noncomputable def kJ (ex : List (Nat × Obj)) (Y : Nat -> Obj) (n : Nat) (ex' : List (Nat × Obj)) : List (Option Obj) × List (Option Obj) :=
 (ex'.map (fun p => some p.2), (List.range n).map fun a => bif lU ex a then none else some (Y a))
theorem nV {α β : Type} {f g : α -> β} {l : List α} (e : l.map f = l.map g) {x : α} (h : x ∈ l) : f x = g x := by
 induction l with
 | nil => exact nomatch h
 | cons a r ih =>
  injection e with e1 e2
  cases h with
  | head => exact e1
  | tail _ h => exact ih e2 h
theorem nD {T : BT} {ex ex' : List (Nat × Obj)} {Y : Nat -> Obj} {n n' : Nat} (L : lN T ex n n' ex' = kJ ex Y n ex') (hn : n <= n') : ∃ Y', absHeap T n' {} = hX Y' n' /\ Told ex' Y' /\ Kept n ex Y Y' := by
 have at_ : ∀ {a o}, a < n' -> T.get a = some o -> cF (absHeap T n' {}) a = o := fun h e => by
  unfold cF
  rw [absHeap_at, if_pos h]; refine aa e ?_
  rfl
 refine ⟨cF (absHeap T n' {}), jV (absHeap_size _ _ _) rfl, fun p hp => ?_, fun a h1 h2 _ => ?_⟩
 ·have e := nV (congrArg Prod.fst L) hp
  cases q : Nat.blt p.1 n' with
  | false => rw [q] at e; exact nomatch e
  | true => rw [q] at e; exact at_ (Nat.blt_eq.mp q) e
 ·have e := nV (congrArg Prod.snd L) (List.mem_range.mpr h1)
  rw [h2] at e
  exact at_ (Nat.lt_of_lt_of_le h1 hn) e
end
section
open PySem PySem.W
set_option maxRecDepth 100000
set_option maxHeartbeats 0
noncomputable section
noncomputable abbrev RR := Option (Flow × SharedT × Code × Pos)
noncomputable abbrev R2 := Option (SharedT × Thread)
noncomputable def GN (x : RR) : Pos := match x with | some (_, _, _, q) => q | none => q0
noncomputable def Bq (x : RR) : BT := match x with | some (_, a, _) => a.tree | none => .nil
noncomputable def zu (x : R2) : BT := match x with | some (a, _) => a.tree | none => .nil
noncomputable def C9 (x : R2) : Pos := match x with | some (_, t) => t.pos | none => q0
noncomputable def i4 (x : R2) : List Frame := match x with | some (_, t) => t.stack | none => []
noncomputable abbrev TT := Fast.tw14364793385576792824
noncomputable def i0 (ex : List (Nat × Obj)) (Y : Nat -> Obj) (n : Nat) (g : Array GenState) (k : Nat) (os : OsState) : SharedT := ⟨pW (zZ ex Y) n 0 .nil, n, {}, g, {}, k, os⟩
noncomputable def sX (Y : Nat -> Obj) (n : Nat) (g : Array GenState) (k : Nat) (os : OsState) : Shared := ⟨hX Y n, g, {}, k, os⟩
theorem nU {ex : List (Nat × Obj)} {Y : Nat -> Obj} (t : Told ex Y) (n : Nat) (g : Array GenState) (k : Nat) (os : OsState) : (i0 ex Y n g k os).abs = sX Y n g k os := by
 unfold i0
 rw [t.zZ]
 rfl
noncomputable def gw (i n : Nat) (pos : Pos) : Thread := piecesOf ((ay.drop i).take n) eB (.body ay eB) pos [topFrame q0]
noncomputable def gW (w : World) (N : Nat) (s : SharedT) (t : Thread) : RR := Fast.tw10110043849684766642 TT pw w 63 (some (.ref 6)) 1 N s t
noncomputable def uE (w : World) (N : Nat) (s : SharedT) (t : Thread) : R2 := Fast.tw10295753902157049106 TT pw w 63 (some (.ref 6)) 1 N s t
noncomputable def pT (r : RR) (ex : List (Nat × Obj)) (n n' : Nat) (ex' : List (Nat × Obj)) : RR × List (Option Obj) × List (Option Obj) := (r, lN (Bq r) ex n n' ex')
noncomputable def pX (r : RR) (ex : List (Nat × Obj)) (Y : Nat -> Obj) (n n' : Nat) (g : Array GenState) (k : Nat) (os : OsState) (ex' : List (Nat × Obj)) : RR × List (Option Obj) × List (Option Obj) :=
 (some (.next, ⟨Bq r, n', {}, g, {}, k, os⟩, .body ay eB, GN r), kJ ex Y n ex')
noncomputable abbrev Ends (r : RR) (ex : List (Nat × Obj)) (Y : Nat -> Obj) (n n' : Nat) (g : Array GenState) (k : Nat) (os : OsState) (ex' : List (Nat × Obj)) : Prop := pT r ex n n' ex' = pX r ex Y n n' g k os ex'
noncomputable def iY (B : List Frame) : Bool := Nat.blt 1 B.length
noncomputable def d4 (c : Code) (B : List Frame) : Option Value := (Ctx.of c B).handled
noncomputable abbrev DC := R2 × (List (Option Obj) × List (Option Obj)) × Bool × Option Value
noncomputable def Ab (r : R2) (c : Code) (ex : List (Nat × Obj)) (n n' : Nat) (ex' : List (Nat × Obj)) : DC := (r, lN (zu r) ex n n' ex', iY (i4 r), d4 c (i4 r))
noncomputable def zr (r : R2) (c : Code) (ex : List (Nat × Obj)) (Y : Nat -> Obj) (n n' : Nat) (g : Array GenState) (k : Nat) (os : OsState) (ex' : List (Nat × Obj)) : DC :=
 (some (⟨zu r, n', {}, g, {}, k, os⟩, ⟨denote TT c, c, C9 r, i4 r⟩), kJ ex Y n ex', true, none)
noncomputable abbrev nk (r : R2) (c : Code) (ex : List (Nat × Obj)) (Y : Nat -> Obj) (n n' : Nat) (g : Array GenState) (k : Nat) (os : OsState) (ex' : List (Nat × Obj)) : Prop := Ab r c ex n n' ex' = zr r c ex Y n n' g k os ex'
structure V where
 Y : Nat -> Obj
 os : OsState
 pos : Pos
 Z : Nat -> Obj := Y
 c : Code := .body [] eB
 q : Pos := q0
 e : Array (Int × Value) × Nat × SetTable := default
 f : Array (Int × Value) × Nat × SetTable := e
 X : Nat -> Obj := Y
 d : Code := c
 r : Pos := q0
 W : Nat -> Obj := Y
 p : Pos := q0
 o : Array (Int × Value) × Nat × SetTable := e
theorem bothW {α : Type} {f g : World -> V -> α} (row : String) (h : (fun (w : World) v => (f (w.withFollow row false) v, f (w.withFollow row true) v)) = fun w v => (g (w.withFollow row false) v, g (w.withFollow row true) v)) (w : World) : f w = g w := by
 funext v
 have e := congrFun (congrFun h w) v
 have k : ∀ c, f (w.withFollow row c) v = g (w.withFollow row c) v := fun c => by
  cases c
  ·exact congrArg Prod.fst e
  ·exact congrArg Prod.snd e
 exact World.withFollow_self w row ▸ k (w.params.followText row)
theorem mm : TT = table := (table_eq_tree.trans Fast.te14364793385576792824).symm
section
variable {w : World}
theorem Ends.GK {r : RR} {N : Nat} {t : Thread} {ex ex' : List (Nat × Obj)} {Y : Nat -> Obj} {n n' k₀ k : Nat} {g₀ g : Array GenState} {os : OsState} (E : Ends r ex Y n n' g k os ex') (hr : r = gW w N (i0 ex Y n g₀ k₀ os) t) (hn : n <= n') (T : Told ex Y) :
  ∃ Y' t', absHeap (Bq r) n' {} = hX Y' n' /\ Told ex' Y' /\ Kept n ex Y Y' /\ Go pw w 1 (sX Y n g₀ k₀ os) t (sX Y' n' g k os) t' /\ endAt 1 t' = some .next /\ t'.code = .body ay eB := by
 refine af (nD (congrArg Prod.snd E) hn) fun Y' e T' K => ?_
 have h := congrArg Prod.fst E
 dsimp only [pT, pX] at h
 generalize Bq r = T0 at h e
 generalize GN r = q at h
 rw [hr, gW, mm, <- Fast.te10110043849684766642] at h
 have h := segRun_of h
 rw [nU T] at h
 refine m6 (Go.mZ h) fun t' G he hc _ => ⟨Y', t', e, T', K, ?_, he, hc⟩
 unfold sX
 rw [<- e]
 exact G
theorem Ends.go {N : Nat} {t : Thread} {ex ex' : List (Nat × Obj)} {Y : Nat -> Obj} {n n' k₀ k : Nat} {g₀ g : Array GenState} {os : OsState} (E : Ends (gW w N (i0 ex Y n g₀ k₀ os) t) ex Y n n' g k os ex') (hn : n <= n') (T : Told ex Y) :
  ∃ Y' t', Told ex' Y' /\ Kept n ex Y Y' /\ Go pw w 1 (sX Y n g₀ k₀ os) t (sX Y' n' g k os) t' /\ endAt 1 t' = some .next /\ t'.code = .body ay eB :=
 let ⟨Y', t', h⟩ := E.GK rfl hn T; ⟨Y', t', h.2⟩
theorem rR {N : Nat} {t t' : Thread} {T0 : BT} {ex ex' : List (Nat × Obj)} {Y : Nat -> Obj} {n n' k₀ k : Nat} {g₀ g : Array GenState} {os : OsState} (h : uE w N (i0 ex Y n g₀ k₀ os) t = some (⟨T0, n', {}, g, {}, k, os⟩, t')) (L : lN T0 ex n n' ex' = kJ ex Y n ex') (hn : n <= n') (T : Told ex Y) :
  ∃ Y', Told ex' Y' /\ Kept n ex Y Y' /\ gr pw w 1 (sX Y n g₀ k₀ os) t (sX Y' n' g k os) t' := by
 refine af (nD L hn) fun Y' e T' K => ⟨Y', T', K, ?_⟩
 unfold uE at h
 rw [mm, <- Fast.te10295753902157049106] at h
 have h := segGo_of h
 rw [nU T] at h
 unfold sX
 rw [<- e]
 exact gr.of (Go.lb h)
theorem nk.hd {r : R2} {c : Code} {ex ex' : List (Nat × Obj)} {Y : Nat -> Obj} {n n' k : Nat} {g : Array GenState} {os : OsState} (E : nk r c ex Y n n' g k os ex') : iY (i4 r) = true /\ d4 c (i4 r) = none := ⟨congrArg (·.2.2.1) E, congrArg (·.2.2.2) E⟩
theorem nk.go {N : Nat} {t : Thread} {c : Code} {ex ex' : List (Nat × Obj)} {Y : Nat -> Obj} {n n' k₀ k : Nat} {g₀ g : Array GenState} {os : OsState} (E : nk (uE w N (i0 ex Y n g₀ k₀ os) t) c ex Y n n' g k os ex') (hn : n <= n') (T : Told ex Y) :
  ∃ Y', Told ex' Y' /\ Kept n ex Y Y' /\ gr pw w 1 (sX Y n g₀ k₀ os) t (sX Y' n' g k os) ⟨denote table c, c, C9 (uE w N (i0 ex Y n g₀ k₀ os) t), i4 (uE w N (i0 ex Y n g₀ k₀ os) t)⟩ :=
 mm ▸ rR (congrArg Prod.fst E) (congrArg (·.2.1) E) hn T
end
noncomputable def Pc (w : World) (l : List Stmt) (s : Shared) (pos : Pos) (s' : Shared) (pos' : Pos) : Prop :=
 ∀ rest, qw pw w s (restOf (l ++ rest) eB (.body ay eB) pos [topFrame q0]) s' (restOf rest eB (.body ay eB) pos' [topFrame q0])
theorem Pc.trans {w : World} {l l' : List Stmt} {s s₁ s' : Shared} {pos pos₁ pos' : Pos} (x : Pc w l s pos s₁ pos₁) (y : Pc w l' s₁ pos₁ s' pos') : Pc w (l ++ l') s pos s' pos' := fun rest =>
 List.append_assoc l l' rest ▸ (x _).trans (y rest)
theorem oA {g : Array GenState} (h : g.map GenState.forget = ax.map GenState.forget) : g = ax := by
 obtain ⟨l⟩ := g
 have h := congrArg Array.toList h
 rw [Array.toList_map, Array.toList_map] at h
 cases l with
 | nil => exact nomatch h
 | cons x r =>
  have h1 := List.map_eq_nil_iff.mp (List.cons.inj h).2
  have h2 := (List.cons.inj h).1
  rw [h1]
  cases x <;> first | rfl | exact nomatch h2
theorem Pc.of {w : World} {i m : Nat} {pos : Pos} {s : Shared} {Y' : Nat -> Obj} {n' k : Nat} {os : OsState} {t' : Thread} (G : gr pw w 1 s (gw i m pos) (sX Y' n' ax k os) t') (he : endAt 1 t' = some .next) (hc : t'.code = .body ay eB) :
  Pc w ((ay.drop i).take m) s pos (sX Y' n' ax k os) t'.pos := fun rest => by
 refine aN G fun s2 t2 g es et => ?_
 have e2 : s2 = sX Y' n' ax k os := by
  obtain ⟨h1, g1, d1, k1, o1⟩ := s2
  have a2 : g1 = ax := oA (congrArg Shared.gens es)
  have a1 : h1 = hX Y' n' := congrArg Shared.heap es
  have a3 : d1 = {} := congrArg Shared.drawn es
  have a4 : k1 = k := congrArg Shared.toks es
  have a5 : o1 = os := congrArg Shared.os es
  rw [a1, a2, a3, a4, a5]
  rfl
 have hcode : t2.code = t'.code := (congrArg (fun t : Thread => t.code) et : t2.forget.code = t'.forget.code)
 have hpos : t2.pos = t'.pos := (congrArg (fun t : Thread => t.pos) et : t2.forget.pos = t'.forget.pos)
 have := Go.pieces (rest := rest) g (by rw [<- cD, et, cD]; exact he)
 rw [hcode, hpos, hc, e2] at this
 exact this
noncomputable def G9 (w : World) (i m : Nat) (ex : List (Nat × Obj)) (Y : Nat -> Obj) (n k : Nat) (g : Array GenState) (os : OsState) (pos : Pos) (ex' : List (Nat × Obj)) (n' k' : Nat) (g' : Array GenState) : Prop :=
 ∃ Y' pos', Told ex' Y' /\ Kept n ex Y Y' /\ Pc w ((ay.drop i).take m) (sX Y n g k os) pos (sX Y' n' g' k' os) pos'
theorem Ends.pc {w : World} {N i m : Nat} {pos : Pos} {ex ex' : List (Nat × Obj)} {Y : Nat -> Obj} {n n' k₀ k : Nat} {g₀ g : Array GenState} {os : OsState} (E : Ends (gW w N (i0 ex Y n g₀ k₀ os) (gw i m pos)) ex Y n n' g k os ex') (hn : n <= n') (T : Told ex Y) :
  G9 w i m ex Y n k₀ g₀ os pos ex' n' k g := by
 refine b8 (E.go hn T) fun Y' t' T' K G he hc => ⟨Y', t'.pos, T', K, fun rest => ?_⟩
 have := Go.pieces (rest := rest) G he
 rw [hc] at this
 exact this
end
end
section
open PySem PySem.W
set_option maxRecDepth 100000
set_option maxHeartbeats 0
noncomputable def cX (w : World) (o : Obj) (S : Str -> Bool) (n : Nat) (t : SetTable) : Prop :=
 ∃ es ep, o = jM es ep t /\ E4 pw w es.toList /\ (∀ k, S k = true ↔ ∃ e ∈ es.toList, AI pw w k e.2 = true) /\ es.size = n /\ n < scanBound /\ t.fits n = true
noncomputable abbrev E3 := Array (Int × Value) × Nat × SetTable
noncomputable def bf (e : E3) : Obj := { cls := .type "frozenset", dict := none, data := .set e.1 e.2.1 e.2.2 }
noncomputable def dj (w : World) : Obj := { cls := .type "frozenset", dict := none, data := .set #[] 0 (.fresh 0 0 (!w.params.followText "set-order")) }
noncomputable def gy (x : PySem.Str) (t : Tok) : Obj := { cls := .type "str_ascii_iterator", data := .fields #[.str x t, .int 0 0] }
noncomputable abbrev aU (a i : Nat) : Code := .builtin "set.update.loop" ⟨[.ref a, .ref i], []⟩
noncomputable abbrev C8 (a i : Nat) : Code := .builtin "frozenset.__or__" ⟨[.ref a, .ref i], []⟩
noncomputable abbrev xV (a i : Nat) : Code := .builtin "frozenset.__sub__" ⟨[.ref a, .ref i], []⟩
noncomputable def eZ (v : Value) (c : Code) (p : Pos) (k : List Frame) : Thread := ⟨.pure (.done (.ret v)), c, p, k⟩
noncomputable def jL (x : PySem.Str) : List PySem.Str × Nat := (x.cps.toList.map rf).foldl lW ([], 0)
section
variable {w : World}
theorem cX.bf {o : Obj} {S : PySem.Str -> Bool} {n : Nat} {t : SetTable} (x : cX w o S n t) : ∃ e : E3, o = Mine.bf e := let ⟨es, ep, h, _⟩ := x; ⟨(es, ep, t), h⟩
theorem cX.alive {o : Obj} {S : Str -> Bool} {n : Nat} {t : SetTable} (x : cX w o S n t) : alive o = some o := x.bf.elim fun _ h => h ▸ rfl
theorem cX.fs {o : Obj} {S : Str -> Bool} {n : Nat} {t : SetTable} (x : cX w o S n t) {h : Heap} {a : Addr} (e : h.get? a = some o) : FS pw w h a S n t :=
 let ⟨es, ep, r, q⟩ := x; ⟨es, ep, e.trans (congrArg some r), q⟩
theorem cX.at {Y : Nat -> Obj} {a n : Nat} {S : Str -> Bool} {m : Nat} {t : SetTable} (x : cX w (Y a) S m t) (h : a < n) : FS pw w (hX Y n) a S m t := x.fs ((gI Y n h).trans x.alive)
theorem FS.Fm {h : Heap} {a : Addr} {S : Str -> Bool} {n : Nat} {t : SetTable} (x : FS pw w h a S n t) : cX w (cF h a) S n t :=
 let ⟨es, ep, r, q⟩ := x; ⟨es, ep, gY r, q⟩
theorem cX.fresh (w : World) : cX w (dj w) (fun k => ([] : List Str).contains k) 0 (.fresh 0 0 (!w.params.followText "set-order")) :=
 ⟨#[], 0, rfl, fun e (he : e ∈ []) => (nomatch he), fun k => ⟨fun (h : false = true) => (nomatch h), fun h => h.elim fun e q => absurd q.1 List.not_mem_nil⟩, rfl, by decide, rfl⟩
theorem cX.kept {n : Nat} {Y Y' : Nat -> Obj} (K : Kept n [] Y Y') {a : Nat} (h : a < n) {S : Str -> Bool} {m : Nat} {t : SetTable} (x : cX w (Y a) S m t) : cX w (Y' a) S m t := K a h rfl x.alive ▸ x
theorem Go.life {b : Nat} {s s' : Shared} {t t' : Thread} (g : Go pw w b s t s' t') : s'.heap.life = s.heap.life := by
 induction g with
 | refl => rfl
 | step _ _ hs _ ih => exact ih.trans (step_life (denote table) pw w _ _ _ _ hs)
theorem mI {c : Code} {B : List Frame} (h : d4 c B = none) : (Ctx.of c B).Below ⟨none, frameCount (Ctx.of c B).below, none, none, unitsOf (Ctx.of c B).below⟩ :=
 ⟨h, Nat.le_refl _, nofun, nofun, Nat.le_refl _⟩
theorem goCode {Y : Nat -> Obj} {n a m k k' : Nat} {g : Array GenState} {os : OsState} {c : Code} {B : List Frame} {v : Value} {P : Heap -> Prop} (hB : iY B = true) (hh : d4 c B = none) (ha : a <= n)
  (code : ∀ A : Around, A.handled = none -> codeAny (model pw w) A c (fun r s' => r = .ok (.ret v) /\ ∃ h', s' = ⟨h', g, {}, k', os⟩ /\ h'.objs.size = m /\ (∀ b, b < a -> h'.get? b = (hX Y n).get? b) /\ P h') (sX Y n g k os)) (pos : Pos) :
  ∃ Y' c' p', Kept a [] Y Y' /\ (∃ h, Y' = cF h /\ P h) /\ gr pw w 1 (sX Y n g k os) ⟨denote table c, c, pos, B⟩ (sX Y' m g k' os) (eZ v c' p' B) := by
 obtain ⟨r, s', c', p', ⟨rfl, h', rfl, hs, hk, hP⟩, G⟩ := gr.nC (Nat.blt_eq.mp hB) pos (code _ rfl) (mI hh)
 have hl : h'.life = {} := by
  obtain ⟨s2, t2, g, e, _⟩ := G
  exact (congrArg (fun s : Shared => s.heap.life) e).symm.trans g.life
 refine ⟨cF h', c', p', fun b hb _ al => gY ((hk b hb).trans ((gI Y n (Nat.lt_of_lt_of_le hb ha)).trans al)), ⟨h', rfl, hP⟩, ?_⟩
 unfold sX
 refine bw (jV hs hl) ?_
 exact G
theorem vE {Y : Nat -> Obj} {a k : Nat} {g : Array GenState} {os : OsState} {B : List Frame} {x : PySem.Str} {t : Tok} (hB : iY B = true) (hh : d4 (aU a (a + 1)) B = none) (hx : x.cps.size < 4000) (e1 : Y a = dj w) (e2 : Y (a + 1) = gy x t) (pos : Pos) :
  ∃ Y' c' p', Kept a [] Y Y' /\ (∃ tb, cX w (Y' a) (fun k => (jL x).1.contains k) (jL x).2 tb) /\ gr pw w 1 (sX Y (a + 2) g k os) ⟨denote table (aU a (a + 1)), aU a (a + 1), pos, B⟩ (sX Y' (a + 4) g (k + 2 * x.cps.size) os) (eZ .none c' p' B) := by
 have l1 : a < a + 2 := by lia
 have l2 : a + 1 < a + 2 := by lia
 have f0 := cX.fresh w
 rw [<- e1] at f0
 refine du (goCode (P := fun h => ∃ tb, FS pw w h a (fun k => (jL x).1.contains k) (jL x).2 tb) hB hh (Nat.le_add_right a 2) (fun A hA => vF (prog := pw) (w := w) (A := A) hA (Nat.ne_of_lt (Nat.lt_succ_self a)) x.cps.size 0 (sX Y (a + 2) g k os) ([], 0) _ (Nat.sub_zero _)
  ⟨_, (gI Y _ l2).trans (by refine aa e2 ?_; rfl), rfl, rfl⟩ (f0.at l1) (by show 0 + x.cps.size < 4096; lia) fun h' tb' hs hk f => ⟨rfl, h', rfl, hs.trans (by show (hX Y (a + 2)).objs.size + 2 = _; rw [fg]), fun b hb => hk b (Nat.ne_of_lt hb) (Nat.ne_of_lt (Nat.lt_succ_of_lt hb)) (by show b < (hX Y (a + 2)).objs.size; rw [fg]; lia), tb', f⟩) pos) fun Y' c' p' K hP => ?_
 intro G
 refine ⟨Y', c', p', K, ?_, G⟩
 obtain ⟨h, rfl, tb, f⟩ := hP
 exact ⟨tb, FS.Fm f⟩
theorem Eb {Y : Nat -> Obj} {n l r n₁ m k : Nat} {S S₂ : PySem.Str -> Bool} {t t₂ : SetTable} {os : OsState} {B : List Frame} {g : Array GenState} (hB : iY B = true) (hh : d4 (C8 l r) B = none)
  (Rm : gD n₁ m) (h0 : 0 < n₁) (hb : n₁ + 1 < scanBound) (hroom : (n₁ + 1) * 5 < m * 3) (hl : l < n) (hr : r < n) (hlr : l ≠ r) (x : cX w (Y l) S n₁ t) (y : cX w (Y r) S₂ 1 t₂) (pos : Pos) :
  ∃ Y' c' p', Kept n [] Y Y' /\ (∃ n' tb, n₁ <= n' /\ n' <= n₁ + 1 /\ cX w (Y' n) (fun k => S k || S₂ k) n' tb) /\ gr pw w 1 (sX Y n g k os) ⟨denote table (C8 l r), C8 l r, pos, B⟩ (sX Y' (n + 1) g k os) (eZ (.ref n) c' p' B) := by
 refine du (goCode (P := fun h => ∃ n' tb, n₁ <= n' /\ n' <= n₁ + 1 /\ FS pw w h n (fun k => S k || S₂ k) n' tb) hB hh (Nat.le_refl n) (fun A _ => AB (prog := pw) (w := w) (A := A) (s := sX Y n g k os) Rm h0 hb hroom (x.at hl) (y.at hr) hlr fun h' t' n' hs hk a b f => by
  have e : (sX Y n g k os).heap.objs.size = n := fg Y n
  rw [e] at hs hk f ⊢
  exact ⟨rfl, h', rfl, hs, hk, n', t', a, b, f⟩) pos) fun Y' c' p' K hP => ?_
 intro G
 refine ⟨Y', c', p', K, ?_, G⟩
 obtain ⟨h, rfl, n', tb, a, b, f⟩ := hP
 exact ⟨n', tb, a, b, FS.Fm f⟩
theorem A6 {Y : Nat -> Obj} {n l r n₁ n₂ m k : Nat} {S S₂ : PySem.Str -> Bool} {t t₂ : SetTable} {os : OsState} {B : List Frame} {g : Array GenState} (hB : iY B = true) (hh : d4 (xV l r) B = none)
  (Rm : gD n₁ m) (h0 : 0 < n₁) (h4 : n₁ / 4 > n₂) (h2 : n₂ <= 2) (hm2 : m = 127) (hl : l < n) (hr : r < n) (hlr : l ≠ r) (x : cX w (Y l) S n₁ t) (y : cX w (Y r) S₂ n₂ t₂) (pos : Pos) :
  ∃ Y' c' p', Kept n [] Y Y' /\ (∃ S' n' tb, (∀ k, S' k = true -> S k = true) /\ cX w (Y' n) S' n' tb) /\ gr pw w 1 (sX Y n g k os) ⟨denote table (xV l r), xV l r, pos, B⟩ (sX Y' (n + 1) g k os) (eZ (.ref n) c' p' B) := by
 refine du (goCode (P := fun h => ∃ S' n' tb, (∀ k, S' k = true -> S k = true) /\ FS pw w h n S' n' tb) hB hh (Nat.le_refl n) (fun A _ => yu (prog := pw) (w := w) (A := A) (s := sX Y n g k os) Rm h0 h4 h2 hm2 (x.at hl) (y.at hr) hlr fun h' t' S' n' hs hk f sub => by
  have e : (sX Y n g k os).heap.objs.size = n := fg Y n
  rw [e] at hs hk f ⊢
  exact ⟨rfl, h', rfl, hs, hk, S', n', t', sub, f⟩) pos) fun Y' c' p' K hP => ?_
 intro G
 refine ⟨Y', c', p', K, ?_, G⟩
 obtain ⟨h, rfl, S', n', tb, sub, f⟩ := hP
 exact ⟨S', n', tb, sub, FS.Fm f⟩
end
end
section
open PySem PySem.W
set_option maxRecDepth 100000
set_option maxHeartbeats 0
theorem Kept.drop {n a : Nat} {o : Obj} {ex : List (Nat × Obj)} {Y Y' : Nat -> Obj} (K : Kept n ((a, o) :: ex) Y Y') (h : Y' a = Y a) : Kept n ex Y Y' := fun b h1 h2 al => by
 cases q : Nat.beq b a with
 | true => refine aa (Nat.eq_of_beq_eq_true q) ?_; exact h
 | false => exact K b h1 (by show (Nat.beq b a || lU ex b) = false; refine aa q ?_; refine aa h2 ?_; rfl) al
theorem Kept.mono {n m : Nat} {ex : List (Nat × Obj)} {X Y : Nat -> Obj} (x : Kept n ex X Y) (h : m <= n) : Kept m ex X Y := fun a h1 => x a (Nat.lt_of_lt_of_le h1 h)
section
variable {w : World} {Y : Nat -> Obj} {n k k₂ k₃ N i : Nat} {os : OsState} {B : List Frame} {x : PySem.Str} {t : Tok} {ex ex' : List (Nat × Obj)} {S0 : Shared} {pos q : Pos}
theorem FD (g0 : gr pw w 1 S0 (gw i 1 pos) (sX Y (n + 2) ax k os) ⟨denote table (aU n (n + 1)), aU n (n + 1), q, B⟩) (T : Told ((n, dj w) :: (n + 1, gy x t) :: ex) Y) (hB : iY B = true) (hh : d4 (aU n (n + 1)) B = none) (hx : x.cps.size < 4000) (al : vL [] ex n = true)
  (C : ∀ Z c q e, Ends (gW w N (i0 ((n, bf e) :: ex) Z (n + 4) ax (k + 2 * x.cps.size) os) (eZ .none c q B)) ((n, bf e) :: ex) Z (n + 4) (n + 4) ax k₂ os ((n, bf e) :: ex')) :
  ∃ Y' pos', Told ex' Y' /\ Kept n ex Y Y' /\ (∃ tb, cX w (Y' n) (fun k => (jL x).1.contains k) (jL x).2 tb) /\ Pc w ((ay.drop i).take 1) S0 pos (sX Y' (n + 4) ax k₂ os) pos' := by
 obtain ⟨Y1, c1, p1, K1, ⟨tb, F⟩, G1⟩ := vE (w := w) (k := k) (g := ax) (os := os) hB hh hx (T _ (.head _)) (T _ (.tail _ (.head _))) q
 obtain ⟨e, he⟩ := F.bf
 obtain ⟨Y2, t2, T2, K2, G2, he2, hc2⟩ := (C Y1 c1 p1 e).go (Nat.le_refl _) (.cons he (K1.told (fun p h => T p (.tail _ (.tail _ h))) al))
 have h := (T2 _ (.head _)).trans he.symm
 exact ⟨Y2, t2.pos, fun p h => T2 p (.tail _ h), K1.all.trans (K2.drop h) (Nat.le_add_right n 4), ⟨tb, h ▸ F⟩, .of ((g0.trans G1).trans (.of G2)) he2 hc2⟩
theorem DM {l : Nat} {op : Code} {Q : Obj -> Prop} (g0 : gr pw w 1 S0 (gw i 1 pos) (sX Y (n + 2) ax k os) ⟨denote table (aU n (n + 1)), aU n (n + 1), q, B⟩) (T : Told ((n, dj w) :: (n + 1, gy x t) :: ex) Y) (hB : iY B = true) (hh : d4 (aU n (n + 1)) B = none) (hx : x.cps.size < 4000) (al : vL [] ex n = true)
  {N₂ : Nat} (hl : l < n) {S : PySem.Str -> Bool} {m : Nat} {tl : SetTable} (L : cX w (Y l) S m tl)
  (M : ∀ Z c q e f, nk (uE w N (i0 ((l, bf e) :: (n, bf f) :: ex) Z (n + 4) ax (k + 2 * x.cps.size) os) (eZ .none c q B)) op ((l, bf e) :: (n, bf f) :: ex) Z (n + 4) (n + 4) ax k₂ os ((l, bf e) :: (n, bf f) :: ex))
  (hop : ∀ Z q B' tb, iY B' = true -> d4 op B' = none -> cX w (Z l) S m tl -> cX w (Z n) (fun k => (jL x).1.contains k) (jL x).2 tb -> ∃ Z' c' p', Kept (n + 4) [] Z Z' /\ Q (Z' (n + 4)) /\ gr pw w 1 (sX Z (n + 4) ax k₂ os) ⟨denote table op, op, q, B'⟩ (sX Z' (n + 5) ax k₂ os) (eZ (.ref (n + 4)) c' p' B'))
  (hq : ∀ o, Q o -> alive o = some o)
  (C : ∀ Z c q e f Z' c' q', Ends (gW w N₂ (i0 ex Z' (n + 5) ax k₂ os) (eZ (.ref (n + 4)) c' q' (i4 (uE w N (i0 ((l, bf e) :: (n, bf f) :: ex) Z (n + 4) ax (k + 2 * x.cps.size) os) (eZ .none c q B))))) ex Z' (n + 5) (n + 5) ax k₃ os ex')
  (hx4 : lU ex (n + 4) = false) :
  ∃ Y' pos', Told ex' Y' /\ Kept n ex Y Y' /\ Q (Y' (n + 4)) /\ Pc w ((ay.drop i).take 1) S0 pos (sX Y' (n + 5) ax k₃ os) pos' := by
 obtain ⟨Y1, c1, p1, K1, ⟨tb, F⟩, G1⟩ := vE (w := w) (k := k) (g := ax) (os := os) hB hh hx (T _ (.head _)) (T _ (.tail _ (.head _))) q
 have L1 := L.kept K1 hl
 obtain ⟨e, he⟩ := L1.bf
 obtain ⟨f, hf⟩ := F.bf
 have T1 := K1.told (fun p h => T p (.tail _ (.tail _ h))) al
 have M1 := M Y1 c1 p1 e f
 obtain ⟨Y2, T2, K2, G2⟩ := M1.go (Nat.le_refl _) (.cons he (.cons hf T1))
 have e1 := (T2 _ (.head _)).trans he.symm
 have e2 := (T2 _ (.tail _ (.head _))).trans hf.symm
 obtain ⟨Y3, c3, p3, K3, hQ, G3⟩ := hop Y2 (C9 _) _ tb (nk.hd M1).1 (nk.hd M1).2 (e1 ▸ L1) (e2 ▸ F)
 have T3 := (K3.mono (Nat.le_add_right n 4)).told (fun p h => T2 p (.tail _ (.tail _ h))) al
 obtain ⟨Y4, t4, T4, K4, G4, he4, hc4⟩ := (C Y1 c1 p1 e f Y3 c3 p3).go (Nat.le_refl _) T3
 exact ⟨Y4, t4.pos, T4, ((K1.all.trans ((K2.drop e1).drop e2) (Nat.le_add_right n 4)).trans K3.all (Nat.le_add_right n 4)).trans K4 (Nat.le_add_right n 5), (K4 (n + 4) (Nat.lt_succ_self _) hx4 (hq _ hQ)).symm ▸ hQ, .of ((((g0.trans G1).trans G2).trans G3).trans (.of G4)) he4 hc4⟩
end
end
section
open PySem PySem.W
set_option maxRecDepth 100000
set_option maxHeartbeats 0
noncomputable section
noncomputable def mD (P : Params) (nm : Value) (k : Nat) : Obj := dO (.type "dict") (17 + k) (e P "__name__" 165 nm :: mE P ++ (mF P).take k)
noncomputable def cL (k : Nat) : Obj := { cls := .none, data := .fields (match oC.data with | .fields vs => ⟨vs.toList.take k⟩ | _ => #[]) }
noncomputable def A1 (P : Params) (nm : Value) (k c : Nat) : List (Nat × Obj) := [(0, oB P), (2, oS P), (3, mD P nm k), (4, oI), (11, oR P), (12, oJ), (64, cL c), (65, oK)]
noncomputable def vG (P : Params) (nm : Value) (k c : Nat) : List (Nat × Obj) := (98, oW) :: A1 P nm k c
noncomputable def vg : Value := .str "__main__" 164
noncomputable def GU : Value := .str "functools" 1237
noncomputable abbrev hU : String := "special-get-raises"
noncomputable def Dc : Value := .str "cpy313.tomllib._re" 535
noncomputable abbrev FQ (w : World) (i m n k : Nat) (ex : List (Nat × Obj)) (n' k' : Nat) (ex' : List (Nat × Obj)) : Prop :=
 (fun v : V => pT (gW w 2000 (i0 ex v.Y n cS k v.os) (gw i m v.pos)) ex n n' ex') = fun v => pX (gW w 2000 (i0 ex v.Y n cS k v.os) (gw i m v.pos)) ex v.Y n n' cS k' v.os ex'
theorem DW : ∀ w : World, FQ w 0 2 67 488 (A1 w.params vg 0 0) 103 535 (vG w.params vg 2 6) := by refine bothW hU ?_; kernel_rfl
theorem DP : ∀ w : World, FQ w 2 2 103 535 (vG w.params vg 2 6) 108 793 (vG w.params Dc 3 6) := by refine bothW hU ?_; kernel_rfl
theorem ET : ∀ w : World, FQ w 4 1 108 793 (vG w.params Dc 3 6) 113 906 (vG w.params Dc 4 6) := by refine bothW hU ?_; kernel_rfl
theorem DH : ∀ w : World, FQ w 5 1 113 906 (vG w.params Dc 4 6) 118 1211 (vG w.params Dc 5 6) := by refine bothW hU ?_; kernel_rfl
theorem Dw : ∀ w : World, FQ w 6 4 118 1211 (vG w.params Dc 5 6) 127 1247 (vG w.params GU 8 9) := by refine bothW hU ?_; kernel_rfl
theorem DG : ∀ w : World, FQ w 10 10 127 1247 (vG w.params GU 8 9) 260 1470 ((11, oR w.params) :: (12, oJ) :: qy w.params) := by refine bothW hU ?_; kernel_rfl
end
noncomputable section
noncomputable def Hk : Value := .str "cpy313.tomllib._parser" 1466
noncomputable def G6 : Str := "abcdefghijklmnopqrstuvwxyzABCDEFGHIJKLMNOPQRSTUVWXYZ"
noncomputable def B6 : Str := "0123456789abcdefABCDEF"
noncomputable def tH : Str := "abcdefghijklmnopqrstuvwxyzABCDEFGHIJKLMNOPQRSTUVWXYZ0123456789-_"
noncomputable def mG (P : Params) : List DictEntry := [e P "ASCII_CTRL" 1613 (.ref 276), e P "ILLEGAL_BASIC_STR_CHARS" 1617 (.ref 281), e P "ILLEGAL_MULTILINE_BASIC_STR_CHARS" 1623 (.ref 286), e P "ILLEGAL_LITERAL_STR_CHARS" 1624 (.ref 281), e P "ILLEGAL_MULTILINE_LITERAL_STR_CHARS" 1625 (.ref 286),
 e P "ILLEGAL_COMMENT_CHARS" 1626 (.ref 281), e P "TOML_WS" 1632 (.ref 287), e P "TOML_WS_AND_NEWLINE" 1636 (.ref 295), e P "ascii_lowercase" 1638 (.str "abcdefghijklmnopqrstuvwxyz" 1637), e P "ascii_uppercase" 1640 (.str "ABCDEFGHIJKLMNOPQRSTUVWXYZ" 1639),
 e P "ascii_letters" 1642 (.str G6 1641), e P "digits" 1644 (.str "0123456789" 1643), e P "hexdigits" 1649 (.str B6 1648), e P "BARE_KEY_CHARS" 1781 (.ref 296), e P "HEXDIGIT_CHARS" 1826 (.ref 300)]
noncomputable def cW (P : Params) (s : Nat) : List (Nat × Obj) := [(0, oB P), (2, oS P), (3, dO (.type "dict") (33 + s) (e P "__name__" 165 Hk :: mE P ++ mF P ++ (mG P).take s)), (4, oI),
 (64, { cls := .none, data := .fields (match oC.data with | .fields vs => ⟨vs.toList ++ [.int 148 0, .int 23 0, .ref 264]⟩ | _ => #[]) }), (65, oK), (98, oW)]
noncomputable def rA (w : World) (s N n k : Nat) (Y : Nat -> Obj) (os : OsState) (pos : Pos) : R2 := uE w N (i0 (cW w.params s) Y n ax k os) (gw (20 + s) 1 pos)
noncomputable abbrev FA (w : World) (s N n k k₁ : Nat) (x : Str) (t : Tok) : Prop := (fun v : V => Ab (rA w s N n k v.Y v.os v.pos) (aU n (n + 1)) (cW w.params s) n (n + 2) ((n, dj w) :: (n + 1, gy x t) :: cW w.params s)) = fun v => zr (rA w s N n k v.Y v.os v.pos) (aU n (n + 1)) (cW w.params s) v.Y n (n + 2) ax k₁ v.os ((n, dj w) :: (n + 1, gy x t) :: cW w.params s)
noncomputable def rL (w : World) (s N n k k₁ : Nat) (x : Str) (v : V) : RR := gW w 19 (i0 ((n, bf v.e) :: cW w.params s) v.Z (n + 4) ax (k₁ + 2 * x.cps.size) v.os) (eZ .none v.c v.q (i4 (rA w s N n k v.Y v.os v.pos)))
noncomputable abbrev FL (w : World) (s N n k k₁ k₂ : Nat) (x : Str) : Prop := (fun v => pT (rL w s N n k k₁ x v) ((n, bf v.e) :: cW w.params s) (n + 4) (n + 4) ((n, bf v.e) :: cW w.params (s + 1))) = fun v => pX (rL w s N n k k₁ x v) ((n, bf v.e) :: cW w.params s) v.Z (n + 4) (n + 4) ax k₂ v.os ((n, bf v.e) :: cW w.params (s + 1))
noncomputable def rB (w : World) (s l n k : Nat) (v : V) (B : List Frame) : R2 := uE w 18 (i0 ((l, bf v.e) :: (n, bf v.f) :: cW w.params s) v.Z (n + 4) ax k v.os) (eZ .none v.c v.q B)
noncomputable abbrev FB (w : World) (s l n k k₂ : Nat) (B : V -> List Frame) (op : Code) : Prop := (fun v => Ab (rB w s l n k v (B v)) op ((l, bf v.e) :: (n, bf v.f) :: cW w.params s) (n + 4) (n + 4) ((l, bf v.e) :: (n, bf v.f) :: cW w.params s)) = fun v => zr (rB w s l n k v (B v)) op ((l, bf v.e) :: (n, bf v.f) :: cW w.params s) v.Z (n + 4) (n + 4) ax k₂ v.os ((l, bf v.e) :: (n, bf v.f) :: cW w.params s)
noncomputable def rC (w : World) (s n k : Nat) (v : V) (B : List Frame) : RR := gW w 10 (i0 (cW w.params s) v.X (n + 5) ax k v.os) (eZ (.ref (n + 4)) v.d v.r B)
noncomputable abbrev FC (w : World) (s l n k k₂ k₃ : Nat) (B : V -> List Frame) : Prop := (fun v => pT (rC w s n k₂ v (i4 (rB w s l n k v (B v)))) (cW w.params s) (n + 5) (n + 5) (cW w.params (s + 1))) = fun v => pX (rC w s n k₂ v (i4 (rB w s l n k v (B v)))) (cW w.params s) v.X (n + 5) (n + 5) ax k₃ v.os (cW w.params (s + 1))
noncomputable abbrev FP (w : World) (s m N n k k₁ : Nat) : Prop := (fun v : V => pT (gW w N (i0 (cW w.params s) v.Y n ax k v.os) (gw (20 + s) m v.pos)) (cW w.params s) n n (cW w.params (s + m))) = fun v => pX (gW w N (i0 (cW w.params s) v.Y n ax k v.os) (gw (20 + s) m v.pos)) (cW w.params s) v.Y n n ax k₁ v.os (cW w.params (s + m))
noncomputable def x1 : Str := ⟨#[9]⟩
noncomputable def x2 : Str := ⟨#[9, 10]⟩
noncomputable def x6 : Str := ⟨#[32, 9]⟩
noncomputable def x7 : Str := ⟨#[10]⟩
theorem a1 : ∀ w, FA w 1 21 277 1614 1615 x1 1614 := by refine bothW hU ?_; kernel_rfl
theorem b1 : ∀ w, FB w 1 276 277 (1615 + 2 * x1.cps.size) 1617 (fun v => i4 (rA w 1 21 277 1614 v.Y v.os v.pos)) (xV 276 277) := by refine bothW hU ?_; kernel_rfl
theorem d1 : ∀ w, FC w 1 276 277 (1615 + 2 * x1.cps.size) 1617 1618 (fun v => i4 (rA w 1 21 277 1614 v.Y v.os v.pos)) := by refine bothW hU ?_; kernel_rfl
theorem a2 : ∀ w, FA w 2 21 282 1618 1619 x2 1618 := by refine bothW hU ?_; kernel_rfl
theorem b2 : ∀ w, FB w 2 276 282 (1619 + 2 * x2.cps.size) 1623 (fun v => i4 (rA w 2 21 282 1618 v.Y v.os v.pos)) (xV 276 282) := by refine bothW hU ?_; kernel_rfl
theorem d2 : ∀ w, FC w 2 276 282 (1619 + 2 * x2.cps.size) 1623 1624 (fun v => i4 (rA w 2 21 282 1618 v.Y v.os v.pos)) := by refine bothW hU ?_; kernel_rfl
theorem p3 : ∀ w, FP w 3 3 31 287 1624 1627 := by refine bothW hU ?_; kernel_rfl
theorem a6 : ∀ w, FA w 6 19 287 1627 1628 x6 1627 := by refine bothW hU ?_; kernel_rfl
theorem l6 : ∀ w, FL w 6 19 287 1627 1628 1633 x6 := by refine bothW hU ?_; kernel_rfl
theorem a7 : ∀ w, FA w 7 21 291 1633 1634 x7 1633 := by refine bothW hU ?_; kernel_rfl
theorem b7 : ∀ w, FB w 7 287 291 (1634 + 2 * x7.cps.size) 1636 (fun v => i4 (rA w 7 21 291 1633 v.Y v.os v.pos)) (C8 287 291) := by refine bothW hU ?_; kernel_rfl
theorem d7 : ∀ w, FC w 7 287 291 (1634 + 2 * x7.cps.size) 1636 1637 (fun v => i4 (rA w 7 21 291 1633 v.Y v.os v.pos)) := by refine bothW hU ?_; kernel_rfl
theorem p8 : ∀ w, FP w 8 5 70 296 1637 1650 := by refine bothW hU ?_; kernel_rfl
theorem HN : ∀ w, FA w 13 35 296 1650 1653 tH 1652 := by refine bothW hU ?_; kernel_rfl
theorem HJ : ∀ w, FL w 13 35 296 1650 1653 1782 tH := by refine bothW hU ?_; kernel_rfl
theorem GZ : ∀ w, FA w 14 20 300 1782 1782 B6 1648 := by refine bothW hU ?_; kernel_rfl
theorem Hz : ∀ w, FL w 14 20 300 1782 1782 1827 B6 := by refine bothW hU ?_; kernel_rfl
end
noncomputable abbrev GD : String := "comprehension-iter-twice"
noncomputable def GI (w : World) : World := (w.withFollow hU false).withFollow GD false
noncomputable def HB (x : R2) : Array GenState := match x with | some (a, _) => a.gens | none => #[]
noncomputable def KM (M : Monad Sem) (H : {α : Type} -> List Value -> Sem α -> Sem α) (S : Addr -> Value -> Sem Bool) (A : Code -> Sem Fin) (i t : Nat) : Sem Fin := @bind Sem M.toBind _ _ (H [Value.str ⟨#[i]⟩ t] (S 267 (.str ⟨#[i]⟩ t))) fun _ => A (aU 267 266)
noncomputable def KK : Nat -> Nat -> Sem Fin := KM Sem.instMonad @holding setAdd again
noncomputable def KT : Nat -> Nat -> Sem Fin := KM Fast.tw12456147031677567982 @Fast.tw17359229931016689406 Fast.tw5518019106960326183 Fast.tw12377390311714414960
theorem EB : KT = KK := by
 unfold KT KK
 rw [<- Fast.te12456147031677567982, <- Fast.te17359229931016689406, <- Fast.te5518019106960326183, <- Fast.te12377390311714414960]
noncomputable def n0 : List Frame -> Bool
 | .ret .. :: _ => true
 | _ => false
noncomputable def rG (w : World) (Y : Nat -> Obj) (os : OsState) (pos : Pos) : R2 := uE w (bif w.params.followText GD then 132 else 142) (i0 (qy w.params) Y 260 cS 1470 os) (gw 20 1 pos)
noncomputable def kG (w : World) (Y : Nat -> Obj) (os : OsState) (pos : Pos) : List Frame := i4 (rG (GI w) Y os pos)
noncomputable def gG (w : World) (Y : Nat -> Obj) (os : OsState) (pos : Pos) : Array GenState := HB (rG (GI w) Y os pos)
noncomputable def qz (P : Params) (i : Nat) : List (Nat × Obj) := (261, { cls := .type "range_iterator", data := .fields #[.int i 0, .int (32 - i : Nat) 0, .int 1 0] }) ::
 (265, { cls := .type "frame", data := .dict ⟨[e P ".0" 1478 (.ref 261), e P "i" 1482 (.int (i - 1 : Nat) (1481 + 4 * (i - 1)))]⟩ 2 }) :: (266, { cls := .type "generator", data := .fields #[.int 0 0, .str "<genexpr>" 1479, .str "<genexpr>" 1480] }) :: cW P 0
noncomputable def Fl (B : List Frame) : Bool := match splitAtGen B with
 | none => true
 | _ => false
noncomputable abbrev F0 (w : World) : Prop := (fun v : V => (rG w v.Y v.os v.pos, lN (zu (rG w v.Y v.os v.pos)) (qy w.params) 260 268 ((267, dj w) :: qz w.params 1), iY (kG w v.Y v.os v.pos), d4 (aU 267 266) (kG w v.Y v.os v.pos), Fl (kG w v.Y v.os v.pos), n0 (kG w v.Y v.os v.pos))) =
 fun v => (some (⟨zu (rG w v.Y v.os v.pos), 268, {}, gG w v.Y v.os v.pos, {}, 1484, v.os⟩, ⟨KT 0 1483, aU 267 266, C9 (rG w v.Y v.os v.pos), kG w v.Y v.os v.pos⟩), kJ (qy w.params) v.Y 260 ((267, dj w) :: qz w.params 1), true, none, true, true)
theorem four {α : Type} {f g : World -> V -> α} (r s : String) (h : (fun (w : World) v => (f ((w.withFollow r false).withFollow s false) v, f ((w.withFollow r false).withFollow s true) v, f ((w.withFollow r true).withFollow s false) v, f ((w.withFollow r true).withFollow s true) v)) =
  fun w v => (g ((w.withFollow r false).withFollow s false) v, g ((w.withFollow r false).withFollow s true) v, g ((w.withFollow r true).withFollow s false) v, g ((w.withFollow r true).withFollow s true) v)) (w : World) : f w = g w := by
 funext v
 have e := congrFun (congrFun h w) v
 have k : ∀ c d, f ((w.withFollow r c).withFollow s d) v = g ((w.withFollow r c).withFollow s d) v := fun c d => by
  cases c <;> cases d
  ·exact congrArg (·.1) e
  ·exact congrArg (·.2.1) e
  ·exact congrArg (·.2.2.1) e
  ·exact congrArg (·.2.2.2) e
 have k := k (w.params.followText r) ((w.withFollow r (w.params.followText r)).params.followText s)
 rwa [World.withFollow_self, World.withFollow_self] at k
theorem f0 : ∀ w, F0 w := by refine four hU GD ?_; kernel_rfl
noncomputable def rT (w : World) (Y : Nat -> Obj) (os : OsState) (pos : Pos) (W : Nat -> Obj) (p : Pos) (o : E3) (i : Nat) : R2 := uE w 45 (i0 ((267, bf o) :: qz w.params i) W 268 (gG w Y os pos) (1481 + 4 * i) os) ⟨denote TT (aU 267 266), aU 267 266, p, kG w Y os pos⟩
noncomputable def fT (w : World) (Y : Nat -> Obj) (os : OsState) (pos : Pos) (W : Nat -> Obj) (p : Pos) (o : E3) (i : Nat) : R2 × List (Option Obj) × List (Option Obj) := (rT w Y os pos W p o i, lN (zu (rT w Y os pos W p o i)) ((267, bf o) :: qz w.params i) 268 268 ((267, bf o) :: qz w.params (i + 1)))
noncomputable def gT (w : World) (Y : Nat -> Obj) (os : OsState) (pos : Pos) (W : Nat -> Obj) (p : Pos) (o : E3) (i : Nat) : R2 × List (Option Obj) × List (Option Obj) := (some (⟨zu (rT w Y os pos W p o i), 268, {}, gG w Y os pos, {}, 1481 + 4 * i + 3, os⟩, ⟨KT i (1481 + 4 * i + 2), aU 267 266, p, kG w Y os pos⟩), kJ ((267, bf o) :: qz w.params i) W 268 ((267, bf o) :: qz w.params (i + 1)))
noncomputable def each {α : Type} (f : Nat -> α) : List α := [f 1, f 2, f 3, f 4, f 5, f 6, f 7, f 8, f 9, f 10, f 11, f 12, f 13, f 14, f 15, f 16, f 17, f 18, f 19, f 20, f 21, f 22, f 23, f 24, f 25, f 26, f 27, f 28, f 29, f 30, f 31]
theorem Ao {α : Type} {f g : Nat -> α} (h : each f = each g) (i : Nat) (hi : i < 31) : f (i + 1) = g (i + 1) :=
 nV (f := fun j => f (j + 1)) (g := fun j => g (j + 1)) (l := List.range 31) h (List.mem_range.mpr hi)
theorem turns : ∀ w : World, (fun v : V => each (fT w v.Y v.os v.pos v.W v.p v.o)) = fun v => each (gT w v.Y v.os v.pos v.W v.p v.o) := by
 refine bothW hU ?_; unfold each; kernel_rfl
theorem zV (w : World) (Y : Nat -> Obj) (os : OsState) (pos : Pos) (W : Nat -> Obj) (p : Pos) (o : E3) (i : Nat) (hi : i < 31) : fT w Y os pos W p o (i + 1) = gT w Y os pos W p o (i + 1) :=
 Ao (congrFun (turns w) { Y := Y, os := os, pos := pos, W := W, p := p, o := o }) i hi
noncomputable def x0 : Str := ⟨#[127]⟩
noncomputable def rE (w : World) (Y : Nat -> Obj) (os : OsState) (pos : Pos) (W : Nat -> Obj) (p : Pos) (o : E3) : R2 := uE w 68 (i0 ((267, bf o) :: qz w.params 32) W 268 (gG w Y os pos) 1609 os) ⟨denote TT (aU 267 266), aU 267 266, p, kG w Y os pos⟩
theorem fE : ∀ w : World, (fun v : V => Ab (rE w v.Y v.os v.pos v.W v.p v.o) (aU 272 273) ((267, bf v.o) :: qz w.params 32) 268 274 ((272, dj w) :: (273, gy x0 1610) :: (267, bf v.o) :: cW w.params 0)) = fun v => zr (rE w v.Y v.os v.pos v.W v.p v.o) (aU 272 273) ((267, bf v.o) :: qz w.params 32) v.W 268 274 ax 1611 v.os ((272, dj w) :: (273, gy x0 1610) :: (267, bf v.o) :: cW w.params 0) := by
 refine bothW hU ?_; kernel_rfl
theorem Bv (w : World) (Y : Nat -> Obj) (os : OsState) (pos : Pos) (W : Nat -> Obj) (p : Pos) (o : E3) : nk (rE w Y os pos W p o) (aU 272 273) ((267, bf o) :: qz w.params 32) W 268 274 ax 1611 os ((272, dj w) :: (273, gy x0 1610) :: (267, bf o) :: cW w.params 0) :=
 congrFun (fE w) { Y := Y, os := os, pos := pos, W := W, p := p, o := o }
theorem b0 : ∀ w, FB w 0 267 272 (1611 + 2 * x0.cps.size) 1613 (fun v => i4 (rE w v.Y v.os v.pos v.W v.p v.o)) (C8 267 272) := by refine bothW hU ?_; kernel_rfl
theorem d0 : ∀ w, FC w 0 267 272 (1611 + 2 * x0.cps.size) 1613 1614 (fun v => i4 (rE w v.Y v.os v.pos v.W v.p v.o)) := by refine bothW hU ?_; kernel_rfl
end
section
open PySem PySem.W
set_option maxRecDepth 100000
set_option maxHeartbeats 0
noncomputable def LL (i : Nat) : List PySem.Str × Nat := ((List.range i).map rf).foldl lW ([], 0)
theorem sL (i : Nat) : LL (i + 1) = lW (LL i) (rf i) := by
 unfold LL; rw [List.range_succ, List.map_append, List.foldl_append]; rfl
theorem Dk (i : Nat) : (LL i).2 <= i := by
 induction i with
 | zero => exact Nat.le_refl _
 | succ i ih => rw [sL]; exact Nat.le_trans (rX _ _) (Nat.succ_le_succ ih)
theorem wB (b b' : Bool) (h : Flow.ret (.bool b) = Flow.ret (.bool b')) : b = b' := by cases h; rfl
section
variable {w : World} {os : OsState}
theorem Am {Y : Nat -> Obj} {G : Array GenState} {B : List Frame} (hB : iY B = true) (hh : d4 (aU 267 266) B = none) (hG : Fl B = true) (hr : n0 B = true)
  (i tk k : Nat) (hi : i < 32) {e : E3} (he : Y 267 = bf e) (F : ∃ tb, cX w (bf e) (fun k => (LL i).1.contains k) (LL i).2 tb) (q : Pos) :
  ∃ Y' e' q', Kept 268 [(267, bf e)] Y Y' /\ Y' 267 = bf e' /\ (∃ tb, cX w (bf e') (fun k => (LL (i + 1)).1.contains k) (LL (i + 1)).2 tb) /\
   gr pw w 1 (sX Y 268 G k os) ⟨KK i tk, aU 267 266, q, B⟩ (sX Y' 268 G (k + 1) os) ⟨denote table (aU 267 266), aU 267 266, q', B⟩ := by
 obtain ⟨tb, F⟩ := F
 have fs : FS pw w (hX Y 268) 267 (fun k => (LL i).1.contains k) (LL i).2 tb := (he.symm ▸ F : cX w (Y 267) _ _ _).at (by decide)
 have hroom : (LL i).2 + 1 < scanBound := Nat.lt_of_le_of_lt (Nat.succ_le_succ (Dk i)) (Nat.lt_of_lt_of_le (Nat.succ_lt_succ hi) (by decide))
 have hw : wpAny (model pw w) ((⟨none, frameCount (Ctx.of (aU 267 266) B).below, none, none, unitsOf (Ctx.of (aU 267 266) B).below⟩ : Around).under (aU 267 266)) (holding [Value.str ⟨#[i]⟩ tk] (setAdd 267 (.str ⟨#[i]⟩ tk))) (fun _ s' => ∃ h' tb', s' = ⟨h', G, {}, k + 1, os⟩ /\ Heap.SameBut 267 (hX Y 268) h' /\
   FS pw w h' 267 (fun k => (LL (i + 1)).1.contains k) (LL (i + 1)).2 tb') (fun _ _ => False) (sX Y 268 G k os) := by
  refine wpAny_holding ?_
  unfold setAdd
  refine wpAny_holding (wpAny_bind (wpAny_pyHash_str ?_))
  refine rH (n := (LL i).2) (S := fun k => (LL i).1.contains k) (t := tb) fs hroom fun h' t' bb sb x => ?_
  rw [sL]
  exact ⟨h', t', rfl, sb, tI x⟩
 have hG : splitAtGen B = none := by
  unfold Fl at hG
  cases h : splitAtGen B with
  | none => rfl
  | some x => rw [h] at hG; cases hG
 obtain ⟨a, s', c', p', ⟨h', tb', rfl, sb, f'⟩, g⟩ := gr.of_wp (b := 1) (B := B) (Nat.blt_eq.mp hB) hG (c := aU 267 266) q (K' := fun _ => (again (aU 267 266) : Sem Fin)) (H' := .raise) (gd := id) (lv := id) (fun b : Bool => Flow.ret (.bool b)) wB hw (mI hh).in
 have hl : h'.life = {} := by
  obtain ⟨s2, t2, g, e, _⟩ := g
  exact (congrArg (fun s : Shared => s.heap.life) e).symm.trans g.life
 have F' := FS.Fm f'
 obtain ⟨e', he'⟩ := F'.bf
 refine ⟨cF h', e', p', fun b hb hx al => gY ((sb.2 b ?_).trans ((gI Y 268 hb).trans al)), he', ⟨tb', he' ▸ F'⟩, ?_⟩
 ·rintro rfl; exact nomatch hx
 have g1 : gr pw w 1 (sX Y 268 G k os) ⟨KK i tk, aU 267 266, q, B⟩ (sX (cF h') 268 G (k + 1) os) ⟨again (aU 267 266), c', p', B⟩ := by
  unfold sX
  rw [<- jV (sb.1.trans (fg _ _)) hl]
  unfold KK KM
  rw [Sem.bind_eq_wrap']
  exact g
 refine g1.trans ?_
 cases B with
 | nil => exact nomatch hr
 | cons F rest =>
  cases F with
  | gen => exact nomatch hr
  | ret k h gg l cd p₀ kept => exact gr.again (Nat.blt_eq.mp hB) (plainId_quiet PyProof.Rows.F.plain_set_update_loop _)
noncomputable def DF (v : V) (w : World) (i : Nat) : Prop := ∃ Y e q, Told ((267, bf e) :: qz w.params i) Y /\ Kept 260 (qy w.params) v.Y Y /\ (∃ tb, cX w (bf e) (fun k => (LL i).1.contains k) (LL i).2 tb) /\
 gr pw w 1 (sX v.Y 260 cS 1470 v.os) (gw 20 1 v.pos) (sX Y 268 (gG w v.Y v.os v.pos) (1481 + 4 * i) v.os) ⟨denote table (aU 267 266), aU 267 266, q, kG w v.Y v.os v.pos⟩
end
end
section
open PySem PySem.W
set_option maxRecDepth 100000
set_option maxHeartbeats 0
theorem Kept.low {n m a : Nat} {o : Obj} {ex : List (Nat × Obj)} {Y Y' : Nat -> Obj} (K : Kept m ((a, o) :: ex) Y Y') (h : n <= m) (ha : n <= a) : Kept n ex Y Y' := fun b h1 h2 al =>
 K b (Nat.lt_of_lt_of_le h1 h) (by
  show (Nat.beq b a || lU ex b) = false
  refine aa h2 ?_; rw [Bool.or_false]
  exact Bool.eq_false_iff.mpr fun e => absurd (Nat.eq_of_beq_eq_true e) (Nat.ne_of_lt (Nat.lt_of_lt_of_le h1 ha))) al
theorem six {A B C D E F : Type} {a a' : A} {b b' : B} {c c' : C} {d d' : D} {e e' : E} {f f' : F} (h : (a, b, c, d, e, f) = (a', b', c', d', e', f')) : a = a' /\ b = b' /\ c = c' /\ d = d' /\ e = e' /\ f = f' := by
 cases h; exact ⟨rfl, rfl, rfl, rfl, rfl, rfl⟩
theorem Kept.D3 {P : Params} {i : Nat} {o : Obj} {Y Y' : Nat -> Obj} (K : Kept 268 ((267, o) :: qz P i) Y Y') : Kept 260 (qy P) Y Y' :=
 (((K.low (n := 261) (by decide) (by decide)).low (n := 261) (by decide) (by decide)).low (n := 261) (by decide) (by decide)).low (by decide) (by decide)
section
variable {w : World}
theorem vm (v : V) : iY (kG w v.Y v.os v.pos) = true /\ d4 (aU 267 266) (kG w v.Y v.os v.pos) = none /\ Fl (kG w v.Y v.os v.pos) = true /\ n0 (kG w v.Y v.os v.pos) = true :=
 (six (congrFun (f0 w) v)).2.2
theorem pU {v : V} {i j tk k : Nat} {Y : Nat -> Obj} {e : E3} {q : Pos} (hi : i < 32) (hj : j = i + 1) (T : Told ((267, bf e) :: qz w.params j) Y) (K : Kept 260 (qy w.params) v.Y Y) (F : ∃ tb, cX w (bf e) (fun k => (LL i).1.contains k) (LL i).2 tb)
  (g : gr pw w 1 (sX v.Y 260 cS 1470 v.os) (gw 20 1 v.pos) (sX Y 268 (gG w v.Y v.os v.pos) k v.os) ⟨KT i tk, aU 267 266, q, kG w v.Y v.os v.pos⟩) (hk : k + 1 = 1481 + 4 * j) : DF v w j := by
 subst hj
 have f := vm (w := w) v
 rw [EB] at g
 obtain ⟨Y', e', q', K', he', F', g'⟩ := Am f.1 f.2.1 f.2.2.1 f.2.2.2 i tk k hi (T _ (.head _)) F q
 rw [hk] at g'
 exact ⟨Y', e', q', .cons he' (K'.told (fun p h => T p (.tail _ h)) rfl), K.trans (K'.low (by decide) (by decide)).all (Nat.le_refl _), F', g.trans g'⟩
theorem DI (v : V) (T : Told (qy w.params) v.Y) : DF v w 1 := by
 have e := six (congrFun (f0 w) v)
 obtain ⟨Y1, T1, K1, G1⟩ := rR e.1 e.2.1 (by decide) T
 exact pU (i := 0) (e := (#[], 0, .fresh 0 0 (!w.params.followText "set-order"))) (by decide) rfl T1 K1 ⟨_, cX.fresh w⟩ G1 rfl
theorem vK (v : V) (i : Nat) (hi : i < 31) (h : DF v w (i + 1)) : DF v w (i + 1 + 1) := by
 obtain ⟨Y, e, q, T, K, F, g⟩ := h
 have l := Prod.mk.inj (zV w v.Y v.os v.pos Y q e i hi)
 obtain ⟨Y1, T1, K1, G1⟩ := rR l.1 l.2 (Nat.le_refl _) T
 rw [mm] at G1
 exact pU (Nat.succ_lt_succ hi) rfl T1 (K.trans K1.D3 (Nat.le_refl _)) F (g.trans G1) (by lia)
theorem An (v : V) (T : Told (qy w.params) v.Y) : ∀ i, i <= 31 -> DF v w (i + 1) := by
 intro i
 induction i with
 | zero => exact fun _ => DI v T
 | succ i ih => exact fun h => vK v i h (ih (Nat.le_of_succ_le h))
end
end
section
open PySem PySem.W
set_option maxRecDepth 100000
set_option maxHeartbeats 0
theorem tw : gD 32 127 := ⟨r6, by decide, fun _ => ⟨by decide +kernel, by refine aa sizeLine_eq ?_; decide +kernel⟩, fun h => absurd h (by decide)⟩
theorem AD : gD 33 127 := ⟨r6, by decide, fun _ => ⟨by decide +kernel, by refine aa sizeLine_eq ?_; decide +kernel⟩, fun h => absurd h (by decide)⟩
theorem CJ : gD 2 7 := ⟨Dx, by decide, fun h => absurd h (by decide), fun _ => rfl⟩
noncomputable def yF (k : PySem.Str) : Bool := (LL 32).1.contains k || (jL x0).1.contains k
section
variable {w : World}
theorem Pc.join {i j m m' : Nat} {s s₁ s' : Shared} {pos pos₁ pos' : Pos} (x : Pc w ((ay.drop i).take m) s pos s₁ pos₁) (y : Pc w ((ay.drop j).take m') s₁ pos₁ s' pos') (h : j = i + m) : Pc w ((ay.drop i).take (m + m')) s pos s' pos' := by
 subst h
 refine aa List.take_add ?_; refine aa List.drop_drop ?_
 exact x.trans y
theorem cX.of {n : Nat} {ex : List (Nat × Obj)} {Y Y' : Nat -> Obj} (K : Kept n ex Y Y') {a : Nat} (h : a < n) (hx : lU ex a = false) {S : Str -> Bool} {m : Nat} {t : SetTable} (x : cX w (Y a) S m t) : cX w (Y' a) S m t := K a h hx x.alive ▸ x
theorem Ca {s N n k k₁ k₂ : Nat} {x : Str} {t : Tok} (A : FA w s N n k k₁ x t) (L : FL w s N n k k₁ k₂ x) (v : V) (T : Told (cW w.params s) v.Y) (hx : x.cps.size < 4000) (al : vL [] (cW w.params s) n = true) :
  {G : Prop} -> (∀ Y' pos', Told (cW w.params (s + 1)) Y' -> Kept n (cW w.params s) v.Y Y' -> (∃ tb, cX w (Y' n) (fun k => (jL x).1.contains k) (jL x).2 tb) -> Pc w ((ay.drop (20 + s)).take 1) (sX v.Y n ax k v.os) v.pos (sX Y' (n + 4) ax k₂ v.os) pos' -> G) -> G := fun G => by
 have a := congrFun A v
 obtain ⟨Y1, T1, K1, G1⟩ := nk.go a (Nat.le_add_right n 2) T
 obtain ⟨Y2, p2, T2, K2, F, P⟩ := FD G1 T1 (nk.hd a).1 (nk.hd a).2 hx al (fun Z c q e => congrFun L { v with Z := Z, c := c, q := q, e := e })
 exact G Y2 p2 T2 (K1.trans K2 (Nat.le_refl _)) F P
theorem CA {s n k k₁ k₂ k₃ l m : Nat} {x : Str} {t : Tok} {op : Code} {Q : Obj -> Prop} {S : PySem.Str -> Bool} {tl : SetTable} (A : FA w s 21 n k k₁ x t) (M : FB w s l n (k₁ + 2 * x.cps.size) k₂ (fun v => i4 (rA w s 21 n k v.Y v.os v.pos)) op) (C : FC w s l n (k₁ + 2 * x.cps.size) k₂ k₃ (fun v => i4 (rA w s 21 n k v.Y v.os v.pos)))
  (v : V) (T : Told (cW w.params s) v.Y) (hx : x.cps.size < 4000) (al : vL [] (cW w.params s) n = true) (hl : l < n) (hlx : lU (cW w.params s) l = false) (F : cX w (v.Y l) S m tl)
  (hop : ∀ Z q B' tb, iY B' = true -> d4 op B' = none -> cX w (Z l) S m tl -> cX w (Z n) (fun k => (jL x).1.contains k) (jL x).2 tb -> ∃ Z' c' p', Kept (n + 4) [] Z Z' /\ Q (Z' (n + 4)) /\ gr pw w 1 (sX Z (n + 4) ax k₂ v.os) ⟨denote table op, op, q, B'⟩ (sX Z' (n + 5) ax k₂ v.os) (eZ (.ref (n + 4)) c' p' B'))
  (hq : ∀ o, Q o -> alive o = some o) (hx4 : lU (cW w.params s) (n + 4) = false) :
  {G : Prop} -> (∀ Y' pos', Told (cW w.params (s + 1)) Y' -> Kept n (cW w.params s) v.Y Y' -> Q (Y' (n + 4)) -> Pc w ((ay.drop (20 + s)).take 1) (sX v.Y n ax k v.os) v.pos (sX Y' (n + 5) ax k₃ v.os) pos' -> G) -> G := fun G => by
 have a := congrFun A v
 obtain ⟨Y1, T1, K1, G1⟩ := nk.go a (Nat.le_add_right n 2) T
 obtain ⟨Y2, p2, T2, K2, F, P⟩ := DM G1 T1 (nk.hd a).1 (nk.hd a).2 hx al hl (F.of K1 hl hlx) (fun Z c q e f => congrFun M { v with Z := Z, c := c, q := q, e := e, f := f }) hop hq
  (fun Z c q e f X d r => congrFun C { v with Z := Z, c := c, q := q, e := e, f := f, X := X, d := d, r := r }) hx4
 exact G Y2 p2 T2 (K1.trans K2 (Nat.le_refl _)) F P
theorem nk.go' {r : R2} {N : Nat} {t t' : Thread} {c : Code} {ex ex' : List (Nat × Obj)} {Y : Nat -> Obj} {n n' k₀ k : Nat} {g₀ g : Array GenState} {os : OsState} (E : nk r c ex Y n n' g k os ex') (hr : r = uE w N (i0 ex Y n g₀ k₀ os) t) (ht : t = t') (hn : n <= n') (T : Told ex Y) :
  ∃ Y', Told ex' Y' /\ Kept n ex Y Y' /\ gr pw w 1 (sX Y n g₀ k₀ os) t' (sX Y' n' g k os) ⟨denote table c, c, C9 r, i4 r⟩ := by
 subst hr; subst ht; exact nk.go E hn T
theorem DK {Y : Nat -> Obj} {os : OsState} {pos : Pos} {W : Nat -> Obj} {p : Pos} {o : E3} (T : Told ((267, bf o) :: qz w.params 32) W) : ∃ Y', Told ((272, dj w) :: (273, gy x0 1610) :: (267, bf o) :: cW w.params 0) Y' /\ Kept 268 ((267, bf o) :: qz w.params 32) W Y' /\
  gr pw w 1 (sX W 268 (gG w Y os pos) 1609 os) ⟨denote table (aU 267 266), aU 267 266, p, kG w Y os pos⟩ (sX Y' 274 ax 1611 os) ⟨denote table (aU 272 273), aU 272 273, C9 (rE w Y os pos W p o), i4 (rE w Y os pos W p o)⟩ :=
 nk.go' (Bv w Y os pos W p o) rfl (by exact aa mm rfl) (by decide) T
theorem uS (rr : (Nat -> Obj) -> OsState -> Pos -> (Nat -> Obj) -> Pos -> E3 -> R2) (hb : FB w 0 267 272 (1611 + 2 * x0.cps.size) 1613 (fun v => i4 (rr v.Y v.os v.pos v.W v.p v.o)) (C8 267 272)) (hc : FC w 0 267 272 (1611 + 2 * x0.cps.size) 1613 1614 (fun v => i4 (rr v.Y v.os v.pos v.W v.p v.o)))
  (v : V) {W : Nat -> Obj} {p p1 : Pos} {o : E3} {tb : SetTable} {Y1 : Nat -> Obj} (hd : iY (i4 (rr v.Y v.os v.pos W p o)) = true /\ d4 (aU 272 273) (i4 (rr v.Y v.os v.pos W p o)) = none) (T1 : Told ((272, dj w) :: (273, gy x0 1610) :: (267, bf o) :: cW w.params 0) Y1)
  (F : cX w (bf o) (fun k => (LL 32).1.contains k) 32 tb) (g : gr pw w 1 (sX v.Y 260 cS 1470 v.os) (gw 20 1 v.pos) (sX Y1 274 ax 1611 v.os) ⟨denote table (aU 272 273), aU 272 273, p1, i4 (rr v.Y v.os v.pos W p o)⟩) :
  ∃ Y' pos', Told (cW w.params 1) Y' /\ Kept 272 (cW w.params 0) Y1 Y' /\ (∃ n' tb, 32 <= n' /\ n' <= 33 /\ cX w (Y' 276) yF n' tb) /\ Pc w ((ay.drop 20).take 1) (sX v.Y 260 cS 1470 v.os) v.pos (sX Y' 277 ax 1614 v.os) pos' :=
 DM (n := 272) (l := 267) (Q := fun o => ∃ n' tb, 32 <= n' /\ n' <= 33 /\ cX w o yF n' tb) g (.cons (T1 _ (.head _)) (.cons (T1 _ (.tail _ (.head _))) fun p h => T1 p (.tail _ (.tail _ (.tail _ h))))) hd.1 hd.2 (by decide) rfl (by decide) (S := fun k => (LL 32).1.contains k) (m := 32) (tl := tb)
  ((T1 _ (.tail _ (.tail _ (.head _)))).symm ▸ F) (fun Z c q' e' f => congrFun hb { v with W := W, p := p, o := o, Z := Z, c := c, q := q', e := e', f := f })
  (fun Z q B' tb hB hh x y => Eb hB hh tw (by decide) (by decide) (by decide) (by decide) (by decide) (by decide) x y q)
  (fun o h => h.elim fun _ h => h.elim fun _ h => h.2.2.alive)
  (fun Z c q' e' f X d r => congrFun hc { v with W := W, p := p, o := o, Z := Z, c := c, q := q', e := e', f := f, X := X, d := d, r := r }) rfl
theorem Gy : (LL 32).2 = 32 := by decide +kernel
theorem Cw (v : V) (T : Told (qy w.params) v.Y) : ∃ Y' pos', Told (cW w.params 1) Y' /\ Kept 260 (qy w.params) v.Y Y' /\ (∃ n' tb, 32 <= n' /\ n' <= 33 /\ cX w (Y' 276) yF n' tb) /\ Pc w ((ay.drop 20).take 1) (sX v.Y 260 cS 1470 v.os) v.pos (sX Y' 277 ax 1614 v.os) pos' := by
 obtain ⟨Y, e, q, T0, K0, ⟨tb, F0⟩, g⟩ := An v T 31 (Nat.le_refl _)
 rw [Gy] at F0
 obtain ⟨Y1, T1, K1, G1⟩ := DK (Y := v.Y) (os := v.os) (pos := v.pos) (p := q) T0
 obtain ⟨Y2, p2, T2, K2, F, P⟩ := uS (rE w) (b0 w) (d0 w) v (nk.hd (Bv w v.Y v.os v.pos Y q e)) T1 F0 (g.trans G1)
 exact ⟨Y2, p2, T2, K0.trans (K1.D3.trans (K2.mono (by decide)) (Nat.le_refl _)) (Nat.le_refl _), F, P⟩
end
end
section
open PySem PySem.W
set_option maxRecDepth 100000
set_option maxHeartbeats 0
structure Sets (w : World) (X : Nat -> Obj) : Prop where
 basic : ∃ S n t, cX w (X 281) S n t /\ ∀ k, S k = true -> yF k = true
 multi : ∃ S n t, cX w (X 286) S n t /\ ∀ k, S k = true -> yF k = true
 ws : ∃ t, cX w (X 287) (fun k => (jL x6).1.contains k) (jL x6).2 t
 wsnl : ∃ n t, cX w (X 295) (fun k => (jL x6).1.contains k || (jL x7).1.contains k) n t
 bare : ∃ t, cX w (X 296) (fun k => (jL tH).1.contains k) (jL tH).2 t
theorem lu : (jL x1).2 = 1 /\ (jL x2).2 = 2 /\ (jL x6).2 = 2 /\ (jL x7).2 = 1 := by decide +kernel
section
variable {w : World}
theorem El {s m N n k k₁ : Nat} (A : FP w s m N n k k₁) (v : V) (T : Told (cW w.params s) v.Y) :
  {G : Prop} -> (∀ Y' pos', Told (cW w.params (s + m)) Y' -> Kept n (cW w.params s) v.Y Y' -> Pc w ((ay.drop (20 + s)).take m) (sX v.Y n ax k v.os) v.pos (sX Y' n ax k₁ v.os) pos' -> G) -> G :=
 fun G => aN (Ends.pc (congrFun A v) (Nat.le_refl _) T) G
theorem zq {v : V} (T : Told (cW w.params 1) v.Y) {n' : Nat} {tb : SetTable} (h1 : n' = 32 \/ n' = 33) (F : cX w (v.Y 276) yF n' tb) :
  ∃ Y pos', Told (cW w.params 15) Y /\ Kept 277 (cW w.params 1) v.Y Y /\ Sets w Y /\ Pc w ((ay.drop 21).take 14) (sX v.Y 277 ax 1614 v.os) v.pos (sX Y 304 ax 1827 v.os) pos' := by
 have Rm : gD n' 127 := h1.elim (fun h => h ▸ tw) fun h => h ▸ AD
 have hn : 0 < n' /\ n' / 4 > 2 := by lia
 have Q1 : ∀ o, (∃ S m t, (∀ k, S k = true -> yF k = true) /\ cX w o S m t) -> alive o = some o := fun o h => h.elim fun _ h => h.elim fun _ h => h.elim fun _ h => h.2.alive
 refine CA (Q := fun o => ∃ S m t, (∀ k, S k = true -> yF k = true) /\ cX w o S m t) (a1 w) (b1 w) (d1 w) v T (by decide) rfl (by decide) rfl F
  (fun Z q B' tb hB hh x y => A6 hB hh Rm hn.1 (by refine aa lu.1 ?_; lia) (by refine aa lu.1 ?_; decide) rfl (by decide) (by decide) (by decide) x y q) Q1 rfl fun Y1 p1 T1 K1 S1 P1 => ?_
 have F1 := F.of K1 (by decide) rfl
 refine CA (Q := fun o => ∃ S m t, (∀ k, S k = true -> yF k = true) /\ cX w o S m t) (a2 w) (b2 w) (d2 w) { v with Y := Y1, pos := p1 } T1 (by decide) rfl (by decide) rfl F1
  (fun Z q B' tb hB hh x y => A6 hB hh Rm hn.1 (by refine aa lu.2.1 ?_; exact hn.2) (by refine aa lu.2.1 ?_; decide) rfl (by decide) (by decide) (by decide) x y q) Q1 rfl fun Y2 p2 T2 K2 S2 P2 => ?_
 refine El (p3 w) { v with Y := Y2, pos := p2 } T2 fun Y3 p3' T3 K3 P3 => ?_
 refine Ca (a6 w) (l6 w) { v with Y := Y3, pos := p3' } T3 (by decide) rfl fun Y4 p4 T4 K4 S4 P4 => bI S4 fun tb4 F4 => ?_
 rw [lu.2.2.1] at F4
 refine CA (Q := fun o => ∃ n' tb, 2 <= n' /\ n' <= 2 + 1 /\ cX w o (fun k => (jL x6).1.contains k || (jL x7).1.contains k) n' tb) (a7 w) (b7 w) (d7 w) { v with Y := Y4, pos := p4 } T4 (by decide) rfl (by decide) rfl F4
  (fun Z q B' tb hB hh x y => Eb hB hh CJ (by decide) (by decide) (by decide) (by decide) (by decide) (by decide) x (lu.2.2.2 ▸ y) q)
  (fun o h => h.elim fun _ h => h.elim fun _ h => h.2.2.alive) rfl fun Y5 p5 T5 K5 S5 P5 => ?_
 refine El (p8 w) { v with Y := Y5, pos := p5 } T5 fun Y6 p6 T6 K6 P6 => ?_
 refine Ca (HN w) (HJ w) { v with Y := Y6, pos := p6 } T6 (by decide) rfl fun Y7 p7 T7 K7 S7 P7 => bI S7 fun tb7 F7 => ?_
 refine Ca (GZ w) (Hz w) { v with Y := Y7, pos := p7 } T7 (by decide) rfl fun Y8 p8 T8 K8 _ P8 => ?_
 have e67 : Kept 296 (cW w.params 15) Y5 Y8 := (K6.trans K7 (by decide)).trans K8 (by decide)
 have e47 : Kept 291 (cW w.params 15) Y4 Y8 := K5.trans e67 (by decide)
 have e27 : Kept 287 (cW w.params 15) Y2 Y8 := (K3.trans K4 (by decide)).trans e47 (by decide)
 have e17 : Kept 282 (cW w.params 15) Y1 Y8 := K2.trans e27 (by decide)
 refine ⟨Y8, p8, T8, K1.trans e17 (by decide), ⟨?_, ?_, ⟨tb4, lu.2.2.1.symm ▸ F4.of e47 (by decide) rfl⟩, ?_, ⟨tb7, F7.of K8 (by decide) rfl⟩⟩,
  ((((((P1.join P2 rfl).join P3 rfl).join P4 rfl).join P5 rfl).join P6 rfl).join P7 rfl).join P8 rfl⟩
 ·obtain ⟨S, m, t, a, b⟩ := S1; exact ⟨S, m, t, b.of e17 (by decide) rfl, a⟩
 ·obtain ⟨S, m, t, a, b⟩ := S2; exact ⟨S, m, t, b.of e27 (by decide) rfl, a⟩
 ·obtain ⟨m, t, _, _, b⟩ := S5; exact ⟨m, t, b.of e67 (by decide) rfl⟩
theorem region {v : V} (T : Told (qy w.params) v.Y) :
  ∃ Y pos', Told (cW w.params 15) Y /\ Kept 260 (qy w.params) v.Y Y /\ Sets w Y /\ Pc w ((ay.drop 20).take 15) (sX v.Y 260 cS 1470 v.os) v.pos (sX Y 304 ax 1827 v.os) pos' := by
 obtain ⟨Y0, p0, T0, K0, ⟨n', tb, h1, h2, F⟩, P0⟩ := Cw v T
 obtain ⟨Y, p, T1, K1, S, P⟩ := zq (v := { v with Y := Y0, pos := p0 }) T0 (by lia : n' = 32 \/ n' = 33) F
 exact ⟨Y, p, T1, K0.trans K1 (by decide), S, P0.join P rfl⟩
end
end
section
open PySem PySem.W
set_option maxRecDepth 100000
set_option maxHeartbeats 0
theorem Go.Hs {w : World} {b : Nat} {s s' : Shared} {t t' : Thread} (g : Go pw w b s t s' t') : qw pw w s t s' t' := by
 induction g with
 | refl => exact .refl
 | step _ hc hs _ ih => exact .step hc hs ih
noncomputable abbrev vY (Y : Nat -> Obj) (os : OsState) (pos : Pos) : V := { Y := Y, os := os, pos := pos }
noncomputable abbrev mods : List Str := importedModules pw.main.body
noncomputable def Fg (w : World) (Y : Nat -> Obj) (os : OsState) : R2 := segGoT treeTable pw w 63 (some (.ref 6)) 1000 12 (i0 (wN w.params) Y 63 cS 482 os) (topStub pw)
theorem BH : (fun (w : World) (v : V) => (Fg w v.Y v.os, lN (zu (Fg w v.Y v.os)) (wN w.params) 63 67 (A1 w.params vg 0 0))) =
  fun w v => (some (⟨zu (Fg w v.Y v.os), 67, {}, cS, {}, 488, v.os⟩, ⟨denote treeTable (.body ay eB), .body ay eB, q0, [topFrame q0]⟩), kJ (wN w.params) v.Y 63 (A1 w.params vg 0 0)) := by kernel_rfl
theorem BO : blockStart ay eB = .pure () := by kernel_rfl
theorem Ez (w : World) {Y : Nat -> Obj} (os : OsState) (T : Told (wN w.params) Y) : ∃ Y', Told (A1 w.params vg 0 0) Y' /\ Kept 63 (wN w.params) Y Y' /\ qw pw w (sX Y 63 cS 482 os) (topStub pw) (sX Y' 67 cS 488 os) (restOf ay eB (.body ay eB) q0 [topFrame q0]) := by
 have e := Prod.mk.inj (congrFun (congrFun BH w) (vY Y os q0))
 refine af (nD e.2 (by decide)) fun Y' e' T' => ?_
 intro K
 refine ⟨Y', T', K, ?_⟩
 have h := e.1
 generalize zu _ = T0 at h e'
 unfold Fg at h
 have h := segGo_of h
 rw [nU T, <- table_eq_tree] at h
 have g := Go.Hs (Go.lb h)
 have e2 : (⟨denote table (.body ay eB), .body ay eB, q0, [topFrame q0]⟩ : Thread) = restOf ay eB (.body ay eB) q0 [topFrame q0] := by
  rw [body_wrap, BO]
  rfl
 rw [e2] at g
 unfold sX
 rw [<- e']
 exact g
theorem wz (w : World) (s : Shared) (pos : Pos) : ∃ t, qw pw w s (restOf [] eB (.body ay eB) pos [topFrame q0]) s t /\ through t = true := by
 obtain ⟨heap, gens, drawn, toks, os⟩ := s
 exact ⟨_, .step rfl rfl .refl, rfl⟩
theorem Ends.run {w : World} {N i m : Nat} {pos : Pos} {ex ex' : List (Nat × Obj)} {Y : Nat -> Obj} {n n' k₀ k : Nat} {g₀ g : Array GenState} {os : OsState} (E : Ends (gW w N (i0 ex Y n g₀ k₀ os) (gw i m pos)) ex Y n n' g k os ex') (hn : n <= n') (T : Told ex Y) {G : Prop}
  (h : ∀ Y' pos', Told ex' Y' -> Kept n ex Y Y' -> Pc w ((ay.drop i).take m) (sX Y n g₀ k₀ os) pos (sX Y' n' g k os) pos' -> G) : G := aN (E.pc hn T) h
theorem xC (w : World) {Y : Nat -> Obj} (os : OsState) (pos : Pos) (T : Told (A1 w.params vg 0 0) Y) : ∃ Y' pos', Told ((11, oR w.params) :: (12, oJ) :: qy w.params) Y' /\ Kept 67 (A1 w.params vg 0 0) Y Y' /\ Pc w ((ay.drop 0).take 20) (sX Y 67 cS 488 os) pos (sX Y' 260 cS 1470 os) pos' := by
 refine Ends.run (congrFun (DW w) (vY Y os pos)) (by decide) T fun Y1 p1 T1 K1 P1 => ?_
 refine Ends.run (congrFun (DP w) (vY Y1 os p1)) (by decide) T1 fun Y2 p2 T2 K2 P2 => ?_
 refine Ends.run (congrFun (ET w) (vY Y2 os p2)) (by decide) T2 fun Y3 p3 T3 K3 P3 => ?_
 refine Ends.run (congrFun (DH w) (vY Y3 os p3)) (by decide) T3 fun Y4 p4 T4 K4 P4 => ?_
 refine Ends.run (congrFun (Dw w) (vY Y4 os p4)) (by decide) T4 fun Y5 p5 T5 K5 P5 => ?_
 refine Ends.run (congrFun (DG w) (vY Y5 os p5)) (by decide) T5 fun Y6 p6 T6 K6 P6 => ?_
 refine ⟨Y6, p6, T6, ?_, ((((P1.join P2 rfl).join P3 rfl).join P4 rfl).join P5 rfl).join P6 rfl⟩
 have K26 : Kept 103 (vG w.params vg 2 6) Y1 Y6 := (((K2.trans K3 (by decide)).trans K4 (by decide)).trans K5 (by decide)).trans K6 (by decide)
 exact K1.trans (K26.low (n := 67) (by decide) (by decide)) (by decide)
noncomputable def He : Value := .str "cpy313.tomllib._parser" 1831
noncomputable def Dd (P : Params) : List (Nat × Obj) := [(0, oB P), (2, oS P), (3, dO (.type "dict") 51 (e P "__name__" 165 He :: mE P ++ mF P ++ mG P ++ [e P "MappingProxyType" 1830 (.type "mappingproxy"), e P "BASIC_STR_ESCAPE_REPLACEMENTS" 1854 (.ref 306), e P "TOMLDecodeError" 1872 (.ref 316)])), (4, oI),
 (64, { cls := .none, data := .fields (match oC.data with | .fields vs => ⟨vs.toList ++ [.int 148 0, .int 23 0, .ref 264, .int 167 0, .int 0 0, .ref 312]⟩ | _ => #[]) }), (65, oK)]
noncomputable def rY (w : World) (Y : Nat -> Obj) (os : OsState) (pos : Pos) : RR := gW w 2000 (i0 (cW w.params 15) Y 304 ax 1827 os) (gw 35 5 pos)
theorem DN : ∀ w : World, (fun v : V => pT (rY w v.Y v.os v.pos) (cW w.params 15) 304 320 (Dd w.params)) = fun v => pX (rY w v.Y v.os v.pos) (cW w.params 15) v.Y 304 320 ax 1873 v.os (Dd w.params) := by
 refine bothW hU ?_; kernel_rfl
noncomputable def rZ (w : World) (Y : Nat -> Obj) (os : OsState) (pos : Pos) : RR := gW w 4000 (i0 (Dd w.params) Y 320 ax 1873 os) (gw 40 40 pos)
noncomputable def hZ (w : World) (Y : Nat -> Obj) (os : OsState) (pos : Pos) : Heap := absHeap (Bq (rZ w Y os pos)) 732 {}
noncomputable def h0 (w : World) (Z : Nat -> Obj) : Heap := absHeap (pW (zZ (wN w.params) Z) 63 0 .nil) 63 {}
noncomputable def Dh (H₀ H : Heap) : List Bool × Option Value × (Option Str × List (Str × Value)) := ([H.isNs mainGlobals, H.isNs builtinsNs, H.accountedOkI mods, H.bmainOk, staticsOk mods H₀ H, namesBound pw H, laidKept H₀ H, H₀.isNs mainGlobals], H₀.nsMap mainGlobals "__annotations__", H.bltView)
noncomputable def D8 : List Bool × Option Value × (Option Str × List (Str × Value)) := ([true, true, true, true, true, true, true, true], some (.ref 6), bltViewBooted)
theorem D5 : (fun (w : World) (v : V) => (pT (rZ w v.Y v.os v.pos) (Dd w.params) 320 732 [(0, oB w.params), (4, oI)], Dh (h0 w v.Z) (hZ w v.Y v.os v.pos))) = fun w v => (pX (rZ w v.Y v.os v.pos) (Dd w.params) v.Y 320 732 ax 2487 v.os [(0, oB w.params), (4, oI)], D8) := by
 kernel_rfl
theorem opened (w : World) : ∃ s s₀ Y, AfterRun (opening pw) w s /\ fenceModules? pw s = some s₀ /\ s₀ = sX Y 63 cS 482 s₀.os /\ Told (wN w.params) Y /\ ∀ a, a < 63 -> alive (Y a) = some (Y a) := by
 obtain ⟨h1, h2, h3, h4, h5, h6, h7, h8, _, h10, h11⟩ := v9 w
 generalize sT (yD w) = s at h1 h3
 generalize Fp (yD w) = t at h1 h2
 generalize zE w = s₀ at h3 h4 h5 h6 h7 h8 h10 h11
 unfold yD at h1
 rw [show Fast.tw14364793385576792824 = table from mm, <- Fast.te14789777615569096658] at h1
 rw [<- Fast.te14289696077712309145] at h3
 have h := impGo_of h1
 have st : SharedT.abs ⟨.nil, 0, {}, ⟨[]⟩, {}, 1, (start (opening pw)).1.os⟩ = (start (opening pw)).1 := by kernel_rfl
 rw [st] at h
 have A : AfterImport (opening pw) w s.abs := AfterImport.of_importEnds (N := 2036 + 1) (imp_go h (by unfold importEnds; rw [h2]))
 refine ⟨s.abs, s₀, cF s₀.heap, A, h3, ?_, fun p hp => ?_, fun a ha => ?_⟩
 ·obtain ⟨hp, g, d, k, o⟩ := s₀
  have e : hp = hX (cF hp) 63 := jV h4 h5
  cases h6; cases h7; cases h8
  exact congrArg (fun x => (⟨x, _, _, _, _⟩ : Shared)) e
 ·have e := nV h10 hp
  unfold cF
  rw [e]
  rfl
 ·have e := List.all_eq_true.mp h11 a (List.mem_range.mpr ha)
  unfold cF
  cases q : s₀.heap.objs[a]? with
  | none => rw [q] at e; exact nomatch e
  | some o =>
   rw [q] at e
   obtain ⟨c, d, dt, sl⟩ := o
   cases dt <;> first | rfl | exact nomatch e
noncomputable def own (a : Nat) : Bool := Nat.beq a mainNs || Nat.beq a cStatics || Nat.beq a 6
theorem u7 {w : World} {Y Z : Nat -> Obj} {k₀ k n : Nat} {os : OsState} {t : Thread} (g : qw pw w (sX Z 63 cS k₀ os) (topStub pw) (sX Y n ax k os) t) (th : through t = true) (hn : 63 <= n)
  (kept : ∀ a, a < 63 -> own a = false -> Y a = Z a) (h : Dh (hX Z 63) (hX Y n) = D8) : TopRan pw w (sX Z 63 cS k₀ os) (sX Y n ax k os) := by
 have h0 := Prod.mk.inj h
 have h1 := h0.1
 simp only [List.cons.injEq, and_true] at h1
 obtain ⟨⟨m, hm⟩, hl⟩ := g.E5 ⟨rfl, rfl⟩
 have h2 := Prod.mk.inj h0.2
 refine ⟨⟨m, t, hm, th⟩, hl, Shared.rest_eq rfl, fun b o hb ho => ?_, Heap.accountedI_of_ok h1.2.2.1, statics_of_ok h1.2.2.2.2.1, Pin.keysAreStrs_of h1.1, fun x hx => (Pin.builtinOf_eq h1.2.1 x).trans (Heap.of_bltView h1.2.1 h2.2 x hx), ?_,
  gens_of_done (s := sX Y n ax k os) rfl, names_of_bound h1.2.2.2.2.2.1, laid_of_kept h1.2.2.2.2.2.2.1⟩
 ·have lt : b < 63 := (fg Z 63) ▸ Heap.lt_size hb
  have e : (hX Z 63).get? b = alive (Z b) := gI Z 63 lt
  cases q : own b with
  | false => exact (gI Y n (Nat.lt_of_lt_of_le lt hn)).trans (kept b lt q ▸ e.symm.trans hb)
  | true =>
   refine absurd ?_ ho
   unfold own at q
   rcases Bool.or_eq_true_iff.mp q with q | q
   ·rcases Bool.or_eq_true_iff.mp q with q | q
    ·exact .inl (Nat.eq_of_beq_eq_true q)
    ·exact .inr (.inl (Nat.eq_of_beq_eq_true q))
   ·rw [Nat.eq_of_beq_eq_true q]
    exact .inr (.inr ((Pin.globalOf_eq h1.2.2.2.2.2.2.2 _).trans h2.1))
 ·obtain ⟨bm, ob, a, _, c, d, f, _⟩ := Heap.bmainOk_spec h1.2.2.2.1
  exact ⟨bm, ob, (Pin.globalOf_eq h1.1 _).trans a, c, d, f⟩
noncomputable def GB (P : Params) : List (Nat × Obj) := [(11, oR P), (12, oJ), (0, oB P), (4, oI)]
theorem Told.same {ex : List (Nat × Obj)} {Y Z : Nat -> Obj} (y : Told ex Y) (z : Told ex Z) {a : Nat} (h : lU ex a = true) : Y a = Z a := by
 induction ex with
 | nil => exact nomatch h
 | cons p r ih =>
  rcases Bool.or_eq_true_iff.mp h with q | q
  ·rw [Nat.eq_of_beq_eq_true q]; exact (y p (.head _)).trans (z p (.head _)).symm
  ·exact ih (fun p h => y p (.tail _ h)) (fun p h => z p (.tail _ h)) q
theorem Kept.at {n : Nat} {ex : List (Nat × Obj)} {Y Y' : Nat -> Obj} (K : Kept n ex Y Y') {a : Nat} {o : Obj} (h1 : a < n) (h2 : lU ex a = false) (e : Y a = o) (al : alive o = some o) : Y' a = o := (K a h1 h2 (e.symm ▸ al)).trans e
theorem keys (P : Params) : ((List.range 63).all fun a => lU (GB P) a || (own a || (!lU (wN P) a && (!lU (A1 P vg 0 0) a && (!lU (qy P) a && !lU (Dd P) a))))) = true := by kernel_rfl
theorem Sets.kept {w : World} {Y Y' : Nat -> Obj} {n : Nat} {ex : List (Nat × Obj)} (S : Sets w Y) (K : Kept n ex Y Y') (h : [281, 286, 287, 295, 296].all (fun a => Nat.blt a n && !lU ex a) = true) : Sets w Y' := by
 have f : ∀ a ∈ [281, 286, 287, 295, 296], a < n /\ lU ex a = false := fun a ha => by
  have q := Bool.and_eq_true_iff.mp (List.all_eq_true.mp h a ha)
  exact ⟨Nat.blt_eq.mp q.1, Bool.not_eq_true' _ ▸ q.2⟩
 have g : ∀ a ∈ [281, 286, 287, 295, 296], ∀ {S m t}, cX w (Y a) S m t -> cX w (Y' a) S m t := fun a ha => fun x => x.of K (f a ha).1 (f a ha).2
 obtain ⟨⟨S1, n1, t1, b1, c1⟩, ⟨S2, n2, t2, b2, c2⟩, ⟨t3, b3⟩, ⟨n4, t4, b4⟩, ⟨t5, b5⟩⟩ := S
 exact ⟨⟨S1, n1, t1, g 281 (by decide) b1, c1⟩, ⟨S2, n2, t2, g 286 (by decide) b2, c2⟩, ⟨t3, g 287 (by decide) b3⟩, ⟨n4, t4, g 295 (by decide) b4⟩, ⟨t5, g 296 (by decide) b5⟩⟩
theorem topRun (w : World) (os : OsState) {Z : Nat -> Obj} (T : Told (wN w.params) Z) (al : ∀ a, a < 63 -> alive (Z a) = some (Z a)) :
  ∃ Y Y1 p1, Sets w Y /\ (∀ a, a < 63 -> own a = false -> Y a = Z a) /\ hX Y 732 = hZ w Y1 os p1 /\ TopRan pw w (sX Z 63 cS 482 os) (sX Y 732 ax 2487 os) := by
 obtain ⟨Ya, Ta, Ka, Ga⟩ := Ez w os T
 obtain ⟨Yb, pb, Tb, Kb, Pb⟩ := xC w os q0 Ta
 have Tb2 : Told (qy w.params) Yb := fun p h => Tb p (.tail _ (.tail _ h))
 obtain ⟨Yc, pc, Tc, Kc, S, P3⟩ := region (v := vY Yb os pb) Tb2
 refine Ends.run (congrFun (DN w) (vY Yc os pc)) (by decide) Tc fun Ye pe Te Ke Pe => ?_
 have e := Prod.mk.inj (congrFun (congrFun D5 w) { Y := Ye, os := os, pos := pe, Z := Z })
 obtain ⟨Yd, td, ed, Td, Kd, Gd, he, hc⟩ := Ends.GK (r := rZ w Ye os pe) e.1 rfl (by decide) Te
 have Pd : Pc w ((ay.drop 40).take 40) (sX Ye 320 ax 1873 os) pe (sX Yd 732 ax 2487 os) td.pos := fun rest => by
  have := Go.pieces (rest := rest) Gd he
  rw [hc] at this
  exact this
 obtain ⟨t, l, th⟩ := wz w (sX Yd 732 ax 2487 os) td.pos
 have all : ay = (ay.drop 0).take (20 + 15 + 5 + 40) ++ [] := by kernel_rfl
 have P := (((Pb.join P3 rfl).join Pe rfl).join Pd rfl) []
 rw [<- all] at P
 have kk : ∀ a, a < 63 -> own a = false -> Yd a = Z a := fun a ha ho => ?_
 ·refine ⟨Yd, Ye, pe, (S.kept Ke rfl).kept Kd rfl, kk, ed.symm, u7 ((Ga.trans P).trans l) th (by decide) kk ?_⟩
  rw [<- ed]
  have e0 : h0 w Z = hX Z 63 := by unfold h0; rw [T.zZ]; rfl
  rw [<- e0]
  exact e.2
 ·cases q : lU (GB w.params) a with
  | true =>
   refine Told.same (ex := GB w.params) ?_ (.cons (T _ (.tail _ (.tail _ (.tail _ (.tail _ (.head _)))))) (.cons (T _ (.tail _ (.tail _ (.tail _ (.tail _ (.tail _ (.head _))))))) (.cons (T _ (.head _)) (.cons (T _ (.tail _ (.tail _ (.tail _ (.head _))))) .nil)))) q
   have u : Told [(11, oR w.params), (12, oJ)] Yd := Kd.told (Ke.told (Kc.told (.cons (Tb _ (.head _)) (.cons (Tb _ (.tail _ (.head _))) .nil)) rfl) rfl) rfl
   exact .cons (u _ (.head _)) (.cons (u _ (.tail _ (.head _))) Td)
  | false =>
   have k := List.all_eq_true.mp (keys w.params) a (List.mem_range.mpr ha)
   rw [q, ho, Bool.false_or, Bool.false_or, Bool.and_eq_true, Bool.and_eq_true, Bool.and_eq_true, Bool.not_eq_true', Bool.not_eq_true', Bool.not_eq_true', Bool.not_eq_true'] at k
   have a0 := al a ha
   exact Kd.at (Nat.lt_trans ha (by decide)) k.2.2.2 (Ke.at (Nat.lt_trans ha (by decide)) k.2.2.1 (Kc.at (Nat.lt_trans ha (by decide)) k.2.2.1 (Kb.at (Nat.lt_trans ha (by decide)) k.2.1 (Ka.at ha k.1 rfl a0) a0) a0) a0) a0
end
section
open PySem PySem.W PyProof.Rows
set_option maxRecDepth 100000
set_option maxHeartbeats 0
inductive Kd where
 | loc | cel | cap
structure Cx where
 sc : Scope
 ns : List (Str × Kd)
 q : Bool
 t : Bool := true
 cd : Option Addr := none
 tk : Bool := false
structure BW where
 prm : Arguments
 body : Expr
 sc : Scope
 pos : Pos
 tab : Addr
structure Fd where
 addr : Addr
 kw : List Str
structure uk where
 prog : Program
 w : World
 B : Heap
 gs : Array GenState
 os : OsState
 fields : Addr -> List Str
 nodeC : Addr
 fn : Nat -> Fd
 lam : BW
noncomputable def qr : List (Str × NameKind) -> List (Str × Kd)
 | [] => []
 | (x, .local) :: r => (x, .loc) :: qr r
 | (x, .cell) :: r => (x, .cel) :: qr r
 | _ :: r => qr r
noncomputable def gq : Stmt -> List Stmt
 | .FunctionDef _ _ b _ _ _ _ _ _ _ => b
 | _ => []
noncomputable def CO : Stmt -> Cx
 | .FunctionDef _ _ _ _ _ _ sc _ _ _ => ⟨sc, qr sc.names, true, true, none, false⟩
 | _ => ⟨⟨.module, [], false, false, []⟩, [], true, true, none, false⟩
noncomputable def hK (s : Stmt) (c : Addr) : Cx := { CO s with cd := some c, tk := Nat.beq c 725 }
noncomputable def zk : Stmt -> List Stmt
 | .ClassDef _ _ _ b _ _ _ _ _ _ _ => b
 | _ => []
noncomputable def aR (b : List Stmt) (n : Nat) : Stmt := (b.drop n).headD (.Pass ⟨0, 0, 0, 0⟩)
noncomputable def dG : List Stmt := PySem.Challenge.pw_in0143_02.main.body
noncomputable def eK : Stmt := aR dG 46
noncomputable def eP : Stmt := aR dG 47
noncomputable def dH : Stmt := aR dG 48
noncomputable def bt : Stmt := aR dG 49
noncomputable def dY : Stmt := aR dG 54
noncomputable def d8 : Stmt := aR dG 62
noncomputable def c6 : Stmt := aR dG 67
noncomputable def eh : Stmt := aR dG 75
noncomputable def fY : Stmt := aR dG 76
noncomputable def gc : Stmt := aR dG 77
noncomputable def eO : Stmt := aR dG 78
noncomputable def ft : Stmt := aR dG 79
noncomputable def eN : Stmt := aR dG 80
noncomputable def eD : Stmt := aR dG 81
noncomputable def fS : Stmt := aR dG 82
noncomputable def gK : Stmt := aR dG 83
noncomputable def c7 : Stmt := aR (zk (aR dG 71)) 1
noncomputable def aA : Stmt := aR (zk (aR dG 73)) 0
noncomputable def a9 : Stmt := aR (zk (aR dG 73)) 1
noncomputable def aE : Stmt := aR (zk (aR dG 73)) 2
noncomputable def bA : Stmt := aR (zk (aR dG 73)) 3
noncomputable def bo : Stmt := aR (zk (aR dG 73)) 4
noncomputable def bp : Stmt := aR (zk (aR dG 73)) 5
noncomputable def aB : Stmt := aR (zk (aR dG 73)) 7
noncomputable def bh : Stmt := aR (zk (aR dG 73)) 8
inductive AV where
 | undef | none | bool (b : Bool) | int (i : Int) | str (n c : Nat) | ty (k : Nat) | glob (a : Nat)
 | ref (i : Nat) | tup (n : Nat) (l : AV) | lst (n : Nat) (l : AV) | dct (n : Nat) (e : AV) | fset (y m : Nat) | vals (v : AV) | rng (lo hi : Nat) | lam (k : Nat) | nxt (i : Nat)
 | nil | cons (a l : AV) | ent (n c : Nat) (v r : AV)
structure Row where
 st : Stmt
 a : Addr
 kw : List Str
 n : Nat
 m : Nat
 k : Nat
 d : AV
 df : Value
noncomputable def bR (m : Nat) : AV := @Nat.rec (fun _ => AV) .nil (fun _ ih => .cons .undef ih) m
noncomputable def rows : List Row := [
 ⟨eK, 418, [], 3, 0, 0, .none, .none⟩,
 ⟨eP, 425, ["error_on", "error_on_eof"], 5, 1, 0, .none, .none⟩,
 ⟨dH, 432, [], 2, 1, 0, .none, .none⟩,
 ⟨bt, 439, [], 2, 1, 0, .none, .none⟩,
 ⟨dY, 474, [], 3, 3, 0, .none, .none⟩,
 ⟨d8, 531, [], 3, 8, 0, .none, .none⟩,
 ⟨c6, 554, [], 3, 3, 1, .none, .ref 547⟩,
 ⟨eh, 681, [], 1, 3, 0, .none, .none⟩,
 ⟨fY, 686, [], 2, 0, 0, .none, .none⟩,
 ⟨gc, 693, [], 1, 3, 0, .none, .none⟩,
 ⟨eO, 700, [], 1, 3, 0, .none, .none⟩,
 ⟨ft, 707, [], 1, 1, 0, .none, .none⟩,
 ⟨eN, 712, [], 1, 5, 0, .none, .none⟩,
 ⟨eD, 719, [], 1, 0, 0, .none, .none⟩,
 ⟨fS, 726, [], 1, 3, 0, .none, .none⟩,
 ⟨gK, 731, [], 1, 3, 0, .none, .none⟩,
 ⟨c7, 569, [], 2, 0, 0, .none, .none⟩,
 ⟨aA, 606, [], 1, 2, 1, .none, .ref 599⟩,
 ⟨a9, 613, [], 2, 1, 0, .none, .none⟩,
 ⟨aE, 620, [], 2, 3, 2, .none, .none⟩,
 ⟨bA, 625, [], 1, 1, 0, .none, .none⟩,
 ⟨bo, 632, [], 1, 3, 0, .none, .none⟩,
 ⟨bp, 639, [], 1, 0, 0, .none, .none⟩,
 ⟨aB, 653, [], 1, 6, 2, .none, .none⟩,
 ⟨bh, 660, [], 1, 6, 0, .none, .none⟩]
noncomputable def jm (a : Addr) : List Str := if a = 670 then ["_node2info", "_ready_nodes", "_npassedout", "_nfinished"] else []
noncomputable def oH (f : Nat) : Fd := match rows[f]? with
 | some r => ⟨r.a, r.kw⟩
 | none => ⟨0, []⟩
noncomputable abbrev jJ : Nat := 25
noncomputable def EU (a : Addr) (s : Stmt) : BW := match gq s with
 | [.Return (some (.Call _ (.Lambda p b sc q :: _) _ _)) _] => ⟨p, b, sc, q, a⟩
 | _ => ⟨default, .Constant .none 0 ⟨0, 0, 0, 0⟩, ⟨.module, [], false, false, []⟩, ⟨0, 0, 0, 0⟩, a⟩
noncomputable def gL : BW := EU 714 eD
noncomputable def hole (Y : Nat -> Obj) : Nat -> Obj := zZ [(714, { cls := .none, data := .freed })] Y
noncomputable def Cr (w : World) (Y : Nat -> Obj) (os : OsState) : uk := { prog := pw, w := w, B := hX (hole Y) 732, gs := #[], os := os, fields := jm, nodeC := 573, fn := oH, lam := gL }
inductive Good : uk -> Prop
 | mk (w : World) (Y Y1 Z : Nat -> Obj) (os : OsState) (p1 : Pos) : Sets w Y -> hX Y 732 = hZ w Y1 os p1 -> (∀ a, a < 63 -> own a = false -> Y a = Z a) -> (∀ a, a < 63 -> alive (Z a) = some (Z a)) -> Good (Cr w Y os)
noncomputable def jv (D : uk) : Prop := ∀ (s : Shared) (a : Addr) (items : Array Value) (ep : Nat), (∀ b o, D.B.get? b = some o -> s.heap.get? b = some o) -> s.heap.get? D.lam.tab = some (PySem.W.tabObj #[]) -> s.gens = D.gs -> s.os = D.os ->
 s.heap.get? a = some { cls := .type "list", data := .seq items ep } -> (∀ v ∈ items.toList, ∃ i t, v = .int i t) -> items.size <= 63 ->
 codeAny (model D.prog D.w) callerA (.call (.ref 731) ⟨[.ref a], []⟩) (fun r s' => r = .ok (.ret (.bool true)) /\ (∀ b o, s.heap.get? b = some o -> s'.heap.get? b = some o \/ (b = D.lam.tab /\ ∃ ps, s'.heap.get? b = some (PySem.W.tabObj ps))) /\ s'.gens = D.gs /\ s'.os = D.os) s
noncomputable def w0 : World := ⟨fun _ _ => 0, { strHash := fun _ => 0, shareClass := fun _ => 0, mergeTok := fun _ => 0, idOf := fun _ => 0, idOfShared := fun _ _ => 0, followText := fun _ => true, idOfImm := fun _ => 0 }⟩
theorem zU : ∃ D, Good D :=
 (opened w0).elim fun _ h => h.elim fun _ h => h.elim fun _ h => (topRun w0 {} h.2.2.2.1 h.2.2.2.2).elim fun Y h1 => h1.elim fun Y1 h1 => h1.elim fun p1 h1 => ⟨_, .mk w0 Y Y1 _ {} p1 h1.1 h1.2.2.1 h1.2.1 h.2.2.2.2⟩
theorem DX : ∃ D, Good D /\ (jv D -> ∀ D', Good D' -> jv D') :=
 (Classical.em (∃ D, Good D /\ ¬ jv D)).elim (fun h => h.elim fun D h => ⟨D, h.1, fun l => absurd l h.2⟩) fun h => zU.elim fun D g => ⟨D, g, fun _ D' g' => Classical.byContradiction fun l => h ⟨D', g', l⟩⟩
@[irreducible] noncomputable def D : uk := Classical.choose DX
theorem Cs : Good D /\ (jv D -> ∀ D', Good D' -> jv D') := by unfold D; exact Classical.choose_spec DX
end
section
open PySem PyProof.Rows
noncomputable def AV.lO.{u} {β : Sort u} (z : β) (k : β) (v : AV) : β := @AV.rec (fun _ => β) z k (fun _ => z) (fun _ => z) (fun _ _ => z) (fun _ => z) (fun _ => z) (fun _ => z) (fun _ _ _ => z) (fun _ _ _ => z) (fun _ _ _ => z) (fun _ _ => z) (fun _ _ => z) (fun _ _ => z) (fun _ => z) (fun _ => z) z (fun _ _ _ _ => z) (fun _ _ _ _ _ _ => z) v
theorem AV.xS.{u} {β : Sort u} {z y : β} {k : β} {v : AV} (h : v.lO z k = y) (hz : z ≠ y) : v = .none /\ k = y := by
 have g : ∀ u, v = u -> u.lO z k = y -> v = .none /\ k = y := fun u => by
  induction u using AV.casesOn <;> first | exact fun _ h => absurd h hz | exact fun e h => ⟨e, h⟩
 exact g v rfl h
noncomputable def AV.cBool.{u} {β : Sort u} (z : β) (k : Bool -> β) (v : AV) : β := @AV.rec (fun _ => β) z z k (fun _ => z) (fun _ _ => z) (fun _ => z) (fun _ => z) (fun _ => z) (fun _ _ _ => z) (fun _ _ _ => z) (fun _ _ _ => z) (fun _ _ => z) (fun _ _ => z) (fun _ _ => z) (fun _ => z) (fun _ => z) z (fun _ _ _ _ => z) (fun _ _ _ _ _ _ => z) v
theorem AV.qc.{u} {β : Sort u} {z y : β} {k : Bool -> β} {v : AV} (h : v.cBool z k = y) (hz : z ≠ y) : ∃ x0, v = .bool x0 /\ k x0 = y := by
 have g : ∀ u, v = u -> u.cBool z k = y -> ∃ x0, v = .bool x0 /\ k x0 = y := fun u => by
  induction u using AV.casesOn <;> first | exact fun _ h => absurd h hz | exact fun e h => ⟨_, e, h⟩
 exact g v rfl h
noncomputable def AV.cInt.{u} {β : Sort u} (z : β) (k : Int -> β) (v : AV) : β := @AV.rec (fun _ => β) z z (fun _ => z) k (fun _ _ => z) (fun _ => z) (fun _ => z) (fun _ => z) (fun _ _ _ => z) (fun _ _ _ => z) (fun _ _ _ => z) (fun _ _ => z) (fun _ _ => z) (fun _ _ => z) (fun _ => z) (fun _ => z) z (fun _ _ _ _ => z) (fun _ _ _ _ _ _ => z) v
theorem AV.r7.{u} {β : Sort u} {z y : β} {k : Int -> β} {v : AV} (h : v.cInt z k = y) (hz : z ≠ y) : ∃ x0, v = .int x0 /\ k x0 = y := by
 have g : ∀ u, v = u -> u.cInt z k = y -> ∃ x0, v = .int x0 /\ k x0 = y := fun u => by
  induction u using AV.casesOn <;> first | exact fun _ h => absurd h hz | exact fun e h => ⟨_, e, h⟩
 exact g v rfl h
noncomputable def AV.cStr.{u} {β : Sort u} (z : β) (k : Nat -> Nat -> β) (v : AV) : β := @AV.rec (fun _ => β) z z (fun _ => z) (fun _ => z) k (fun _ => z) (fun _ => z) (fun _ => z) (fun _ _ _ => z) (fun _ _ _ => z) (fun _ _ _ => z) (fun _ _ => z) (fun _ _ => z) (fun _ _ => z) (fun _ => z) (fun _ => z) z (fun _ _ _ _ => z) (fun _ _ _ _ _ _ => z) v
theorem AV.ti.{u} {β : Sort u} {z y : β} {k : Nat -> Nat -> β} {v : AV} (h : v.cStr z k = y) (hz : z ≠ y) : ∃ x0 x1, v = .str x0 x1 /\ k x0 x1 = y := by
 have g : ∀ u, v = u -> u.cStr z k = y -> ∃ x0 x1, v = .str x0 x1 /\ k x0 x1 = y := fun u => by
  induction u using AV.casesOn <;> first | exact fun _ h => absurd h hz | exact fun e h => ⟨_, _, e, h⟩
 exact g v rfl h
noncomputable def AV.Fy.{u} {β : Sort u} (z : β) (k : Nat -> β) (v : AV) : β := @AV.rec (fun _ => β) z z (fun _ => z) (fun _ => z) (fun _ _ => z) k (fun _ => z) (fun _ => z) (fun _ _ _ => z) (fun _ _ _ => z) (fun _ _ _ => z) (fun _ _ => z) (fun _ _ => z) (fun _ _ => z) (fun _ => z) (fun _ => z) z (fun _ _ _ _ => z) (fun _ _ _ _ _ _ => z) v
theorem AV.BY.{u} {β : Sort u} {z y : β} {k : Nat -> β} {v : AV} (h : v.Fy z k = y) (hz : z ≠ y) : ∃ x0, v = .ty x0 /\ k x0 = y := by
 have g : ∀ u, v = u -> u.Fy z k = y -> ∃ x0, v = .ty x0 /\ k x0 = y := fun u => by
  induction u using AV.casesOn <;> first | exact fun _ h => absurd h hz | exact fun e h => ⟨_, e, h⟩
 exact g v rfl h
noncomputable def AV.sO.{u} {β : Sort u} (z : β) (k : Nat -> β) (v : AV) : β := @AV.rec (fun _ => β) z z (fun _ => z) (fun _ => z) (fun _ _ => z) (fun _ => z) k (fun _ => z) (fun _ _ _ => z) (fun _ _ _ => z) (fun _ _ _ => z) (fun _ _ => z) (fun _ _ => z) (fun _ _ => z) (fun _ => z) (fun _ => z) z (fun _ _ _ _ => z) (fun _ _ _ _ _ _ => z) v
theorem AV.wX.{u} {β : Sort u} {z y : β} {k : Nat -> β} {v : AV} (h : v.sO z k = y) (hz : z ≠ y) : ∃ x0, v = .glob x0 /\ k x0 = y := by
 have g : ∀ u, v = u -> u.sO z k = y -> ∃ x0, v = .glob x0 /\ k x0 = y := fun u => by
  induction u using AV.casesOn <;> first | exact fun _ h => absurd h hz | exact fun e h => ⟨_, e, h⟩
 exact g v rfl h
noncomputable def AV.jO.{u} {β : Sort u} (z : β) (k : Nat -> β) (v : AV) : β := @AV.rec (fun _ => β) z z (fun _ => z) (fun _ => z) (fun _ _ => z) (fun _ => z) (fun _ => z) k (fun _ _ _ => z) (fun _ _ _ => z) (fun _ _ _ => z) (fun _ _ => z) (fun _ _ => z) (fun _ _ => z) (fun _ => z) (fun _ => z) z (fun _ _ _ _ => z) (fun _ _ _ _ _ _ => z) v
theorem AV.tf.{u} {β : Sort u} {z y : β} {k : Nat -> β} {v : AV} (h : v.jO z k = y) (hz : z ≠ y) : ∃ x0, v = .ref x0 /\ k x0 = y := by
 have g : ∀ u, v = u -> u.jO z k = y -> ∃ x0, v = .ref x0 /\ k x0 = y := fun u => by
  induction u using AV.casesOn <;> first | exact fun _ h => absurd h hz | exact fun e h => ⟨_, e, h⟩
 exact g v rfl h
noncomputable def AV.pN.{u} {β : Sort u} (z : β) (k : Nat -> AV -> β) (v : AV) : β := @AV.rec (fun _ => β) z z (fun _ => z) (fun _ => z) (fun _ _ => z) (fun _ => z) (fun _ => z) (fun _ => z) (fun x0 x1 _ => k x0 x1) (fun _ _ _ => z) (fun _ _ _ => z) (fun _ _ => z) (fun _ _ => z) (fun _ _ => z) (fun _ => z) (fun _ => z) z (fun _ _ _ _ => z) (fun _ _ _ _ _ _ => z) v
theorem AV.yP.{u} {β : Sort u} {z y : β} {k : Nat -> AV -> β} {v : AV} (h : v.pN z k = y) (hz : z ≠ y) : ∃ x0 x1, v = .tup x0 x1 /\ k x0 x1 = y := by
 have g : ∀ u, v = u -> u.pN z k = y -> ∃ x0 x1, v = .tup x0 x1 /\ k x0 x1 = y := fun u => by
  induction u using AV.casesOn <;> first | exact fun _ h => absurd h hz | exact fun e h => ⟨_, _, e, h⟩
 exact g v rfl h
noncomputable def AV.rn.{u} {β : Sort u} (z : β) (k : Nat -> AV -> β) (v : AV) : β := @AV.rec (fun _ => β) z z (fun _ => z) (fun _ => z) (fun _ _ => z) (fun _ => z) (fun _ => z) (fun _ => z) (fun _ _ _ => z) (fun _ _ _ => z) (fun x0 x1 _ => k x0 x1) (fun _ _ => z) (fun _ _ => z) (fun _ _ => z) (fun _ => z) (fun _ => z) z (fun _ _ _ _ => z) (fun _ _ _ _ _ _ => z) v
theorem AV.Aa.{u} {β : Sort u} (z : β) (k : Nat -> AV -> β) (v : AV) : (∃ x0 x1, v = .dct x0 x1 /\ v.rn z k = k x0 x1) \/ v.rn z k = z := by
 induction v using AV.casesOn <;> first | exact .inr rfl | exact .inl ⟨_, _, rfl, rfl⟩
noncomputable def AV.vo.{u} {β : Sort u} (z : β) (k : Nat -> AV -> β) (v : AV) : β := @AV.rec (fun _ => β) z z (fun _ => z) (fun _ => z) (fun _ _ => z) (fun _ => z) (fun _ => z) (fun _ => z) (fun _ _ _ => z) (fun x0 x1 _ => k x0 x1) (fun _ _ _ => z) (fun _ _ => z) (fun _ _ => z) (fun _ _ => z) (fun _ => z) (fun _ => z) z (fun _ _ _ _ => z) (fun _ _ _ _ _ _ => z) v
noncomputable def AV.Eg.{u} {β : Sort u} (z : β) (k : AV -> β) (v : AV) : β := @AV.rec (fun _ => β) z z (fun _ => z) (fun _ => z) (fun _ _ => z) (fun _ => z) (fun _ => z) (fun _ => z) (fun _ _ _ => z) (fun _ _ _ => z) (fun _ _ _ => z) (fun _ _ => z) (fun x0 _ => k x0) (fun _ _ => z) (fun _ => z) (fun _ => z) z (fun _ _ _ _ => z) (fun _ _ _ _ _ _ => z) v
noncomputable def AV.Ft.{u} {β : Sort u} (z : β) (k : Nat -> β) (v : AV) : β := @AV.rec (fun _ => β) z z (fun _ => z) (fun _ => z) (fun _ _ => z) (fun _ => z) (fun _ => z) (fun _ => z) (fun _ _ _ => z) (fun _ _ _ => z) (fun _ _ _ => z) (fun _ _ => z) (fun _ _ => z) (fun _ _ => z) (fun _ => z) k z (fun _ _ _ _ => z) (fun _ _ _ _ _ _ => z) v
noncomputable def AV.tB.{u} {β : Sort u} (z : β) (k : Nat -> Nat -> β) (v : AV) : β := @AV.rec (fun _ => β) z z (fun _ => z) (fun _ => z) (fun _ _ => z) (fun _ => z) (fun _ => z) (fun _ => z) (fun _ _ _ => z) (fun _ _ _ => z) (fun _ _ _ => z) k (fun _ _ => z) (fun _ _ => z) (fun _ => z) (fun _ => z) z (fun _ _ _ _ => z) (fun _ _ _ _ _ _ => z) v
theorem AV.wm.{u} {β : Sort u} {z y : β} {k : Nat -> Nat -> β} {v : AV} (h : v.tB z k = y) (hz : z ≠ y) : ∃ x0 x1, v = .fset x0 x1 /\ k x0 x1 = y := by
 have g : ∀ u, v = u -> u.tB z k = y -> ∃ x0 x1, v = .fset x0 x1 /\ k x0 x1 = y := fun u => by
  induction u using AV.casesOn <;> first | exact fun _ h => absurd h hz | exact fun e h => ⟨_, _, e, h⟩
 exact g v rfl h
noncomputable def AV.zm.{u} {β : Sort u} (z : β) (k : Nat -> Nat -> β) (v : AV) : β := @AV.rec (fun _ => β) z z (fun _ => z) (fun _ => z) (fun _ _ => z) (fun _ => z) (fun _ => z) (fun _ => z) (fun _ _ _ => z) (fun _ _ _ => z) (fun _ _ _ => z) (fun _ _ => z) (fun _ _ => z) k (fun _ => z) (fun _ => z) z (fun _ _ _ _ => z) (fun _ _ _ _ _ _ => z) v
theorem AV.yU.{u} {β : Sort u} (z : β) (k : Nat -> Nat -> β) (v : AV) : (∃ x0 x1, v = .rng x0 x1 /\ v.zm z k = k x0 x1) \/ v.zm z k = z := by
 induction v using AV.casesOn <;> first | exact .inr rfl | exact .inl ⟨_, _, rfl, rfl⟩
noncomputable def AV.pM.{u} {β : Sort u} (z : β) (k : β) (v : AV) : β := @AV.rec (fun _ => β) z z (fun _ => z) (fun _ => z) (fun _ _ => z) (fun _ => z) (fun _ => z) (fun _ => z) (fun _ _ _ => z) (fun _ _ _ => z) (fun _ _ _ => z) (fun _ _ => z) (fun _ _ => z) (fun _ _ => z) (fun _ => z) (fun _ => z) k (fun _ _ _ _ => z) (fun _ _ _ _ _ _ => z) v
theorem AV.zW.{u} {β : Sort u} {z y : β} {k : β} {v : AV} (h : v.pM z k = y) (hz : z ≠ y) : v = .nil /\ k = y := by
 have g : ∀ u, v = u -> u.pM z k = y -> v = .nil /\ k = y := fun u => by
  induction u using AV.casesOn <;> first | exact fun _ h => absurd h hz | exact fun e h => ⟨e, h⟩
 exact g v rfl h
noncomputable def AV.fB.{u} {β : Sort u} (z : β) (k : AV -> AV -> β) (v : AV) : β := @AV.rec (fun _ => β) z z (fun _ => z) (fun _ => z) (fun _ _ => z) (fun _ => z) (fun _ => z) (fun _ => z) (fun _ _ _ => z) (fun _ _ _ => z) (fun _ _ _ => z) (fun _ _ => z) (fun _ _ => z) (fun _ _ => z) (fun _ => z) (fun _ => z) z (fun x0 x1 _ _ => k x0 x1) (fun _ _ _ _ _ _ => z) v
theorem AV.xy.{u} {β : Sort u} {z y : β} {k : AV -> AV -> β} {v : AV} (h : v.fB z k = y) (hz : z ≠ y) : ∃ x0 x1, v = .cons x0 x1 /\ k x0 x1 = y := by
 have g : ∀ u, v = u -> u.fB z k = y -> ∃ x0 x1, v = .cons x0 x1 /\ k x0 x1 = y := fun u => by
  induction u using AV.casesOn <;> first | exact fun _ h => absurd h hz | exact fun e h => ⟨_, _, e, h⟩
 exact g v rfl h
noncomputable def AV.Ad.{u} {β : Sort u} (z : β) (k : Nat -> Nat -> AV -> AV -> β) (v : AV) : β := @AV.rec (fun _ => β) z z (fun _ => z) (fun _ => z) (fun _ _ => z) (fun _ => z) (fun _ => z) (fun _ => z) (fun _ _ _ => z) (fun _ _ _ => z) (fun _ _ _ => z) (fun _ _ => z) (fun _ _ => z) (fun _ _ => z) (fun _ => z) (fun _ => z) z (fun _ _ _ _ => z) (fun x0 x1 x2 x3 _ _ => k x0 x1 x2 x3) v
theorem AV.Af.{u} {β : Sort u} {z y : β} {k : Nat -> Nat -> AV -> AV -> β} {v : AV} (h : v.Ad z k = y) (hz : z ≠ y) : ∃ x0 x1 x2 x3, v = .ent x0 x1 x2 x3 /\ k x0 x1 x2 x3 = y := by
 have g : ∀ u, v = u -> u.Ad z k = y -> ∃ x0 x1 x2 x3, v = .ent x0 x1 x2 x3 /\ k x0 x1 x2 x3 = y := fun u => by
  induction u using AV.casesOn <;> first | exact fun _ h => absurd h hz | exact fun e h => ⟨_, _, _, _, e, h⟩
 exact g v rfl h
noncomputable def dec : Nat -> Nat -> List Nat
 | 0, _ => []
 | n + 1, c => c % 256 :: dec n (c / 256)
noncomputable def toS (n c : Nat) : Str := ⟨(dec n c).toArray⟩
inductive cn where
 | free | az (o : Obj) | kept (o : Obj) | own | bu (i : Nat) | sub (i : Nat) | tab
noncomputable def Gh := Addr -> cn
noncomputable def Gh.le (W W' : Gh) : Prop := ∀ a, W a ≠ .free -> W' a = W a
theorem Gh.le.refl (W : Gh) : W.le W := fun _ _ => rfl
theorem Gh.le.trans {W W' W'' : Gh} (h : W.le W') (h' : W'.le W'') : W.le W'' := fun a ha => by
 have e := h a ha
 refine aa (h' a (by rw [e]; exact ha)) ?_; exact aa e rfl
noncomputable def Gh.set (W : Gh) (a : Addr) (l : cn) : Gh := fun b => if b = a then l else W b
theorem Gh.aq (W : Gh) (a : Addr) (l : cn) : W.set a l a = l := by simp [Gh.set]
theorem Gh.aD (W : Gh) {a b : Addr} (l : cn) (h : b ≠ a) : W.set a l b = W b := by simp [Gh.set, h]
theorem Gh.bg {W : Gh} {a b : Addr} {l x : cn} (h : W.set a l b = x) : (b = a /\ l = x) \/ (b ≠ a /\ W b = x) :=
 (Classical.em (b = a)).imp (fun e => ⟨e, by rw [e, Gh.aq] at h; exact h⟩) fun e => ⟨e, (Gh.aD W l e).symm.trans h⟩
theorem Gh.aQ {W : Gh} {a : Addr} {l : cn} (h : W a = .free) : W.le (W.set a l) := fun b hb => by
 rw [Gh.aD]; rintro rfl; exact hb h
structure Gh.bM (W W' : Gh) : Prop where
 az : ∀ {a : Addr} {o : Obj}, W a = .az o -> W' a = .az o
 bu : ∀ {a : Addr} {i : Nat}, W a = .bu i -> W' a = .bu i
 sub : ∀ {a : Addr} {i : Nat}, W a = .sub i -> W' a = .sub i
theorem Gh.bM.refl (W : Gh) : W.bM W := ⟨id, id, id⟩
theorem Gh.le.az {W W' : Gh} (h : W.le W') {a : Addr} {o : Obj} (e : W a = .az o) : W' a = .az o := by refine aa (h a (by rw [e]; exact fun x => nomatch x)) ?_; exact aa e rfl
theorem Gh.le.bu {W W' : Gh} (h : W.le W') {a : Addr} {i : Nat} (e : W a = .bu i) : W' a = .bu i := by refine aa (h a (by rw [e]; exact fun x => nomatch x)) ?_; exact aa e rfl
theorem Gh.le.sub {W W' : Gh} (h : W.le W') {a : Addr} {i : Nat} (e : W a = .sub i) : W' a = .sub i := by refine aa (h a (by rw [e]; exact fun x => nomatch x)) ?_; exact aa e rfl
theorem Gh.le.own {W W' : Gh} (h : W.le W') {a : Addr} (e : W a = .own) : W' a = .own := by refine aa (h a (by rw [e]; exact fun x => nomatch x)) ?_; exact aa e rfl
theorem Gh.le.kept {W W' : Gh} (h : W.le W') {a : Addr} {o : Obj} (e : W a = .kept o) : W' a = .kept o := by refine aa (h a (by rw [e]; exact fun x => nomatch x)) ?_; exact aa e rfl
theorem Gh.le.bM {W W' : Gh} (h : W.le W') : W.bM W' := ⟨h.az, h.bu, h.sub⟩
noncomputable def tyName : Nat -> String
 | 0 => "float" | 1 => "str" | 2 => "list" | 3 => "dict" | _ => "int"
noncomputable def aV (items : Array Value) (n : Nat) : Obj := { cls := .type "list", data := .seq items n }
noncomputable def cU (items : Array Value) (n : Nat) : Obj := { cls := .type "tuple", data := .seq items n }
noncomputable def kg (x : Value) : Obj := { cls := .type "dict_values", data := .fields #[x] }
noncomputable def nE (lo hi : Nat) (t u v : Tok) : Obj := { cls := .type "range", data := .fields #[.int lo t, .int hi u, .int 1 v] }
noncomputable def iw (x : Value) (k : Nat) : Obj := { cls := .type "list_iterator", data := .fields #[x, .int k 0] }
noncomputable def wrapObj (it : Addr) : Obj := { cls := .type "method-wrapper", data := .fields #[.builtin "list_iterator.__next__", .ref it] }
noncomputable def vd (o : Obj) (S : Str -> Bool) : Prop := ∃ es ep t n, o = { cls := .type "frozenset", dict := none, data := .set es ep t } /\ ElemsOf (strKind D.prog D.w) es.toList /\
 (∀ k, S k = true ↔ ∃ e ∈ es.toList, (strKind D.prog D.w).is k e.2 = true) /\ es.size = n /\ n < scanBound /\ t.fits n = true
noncomputable def mH (W : Gh) (a : Addr) : Prop := ∃ o fd c oc vs q t, W a = .az o /\ o.data = .func fd /\ fd.params = D.lam.prm /\ fd.body = .expr D.lam.body /\ fd.scope = D.lam.sc /\ fd.globals = mainGlobals /\ fd.builtins = builtinsNs /\ fd.closure = [] /\ fd.defaults = .none /\ fd.code = .ref c /\
 W c = .az oc /\ oc.data = .fields vs /\ vs[1]? = some (.str q t)
theorem mH.mono {W W' : Gh} (h : ∀ {a : Addr} {o : Obj}, W a = .az o -> W' a = .az o) {a : Addr} (r : mH W a) : mH W' a :=
 let ⟨o, fd, c, oc, vs, q, t, e, h1, h2, h3, h4, h5, h6, h7, h8, h9, e2, h10⟩ := r; ⟨o, fd, c, oc, vs, q, t, h e, h1, h2, h3, h4, h5, h6, h7, h8, h9, h e2, h10⟩
mutual
inductive RV (W : Gh) : AV -> Value -> Prop
 | none : RV W .none .none
 | bool (b : Bool) : RV W (.bool b) (.bool b)
 | int (i : Int) (t : Tok) : RV W (.int i) (.int i t)
 | str (n c : Nat) (t : Tok) : c < 256 ^ n -> n <= 1048576 -> RV W (.str n c) (.str (toS n c) t)
 | ty (k : Nat) : RV W (.ty k) (.type (tyName k))
 | glob (a : Addr) (o : Obj) : W a = .az o -> RV W (.glob a) (.ref a)
 | ref (i : Nat) (a : Addr) : W a = .bu i -> RV W (.ref i) (.ref a)
 | tup (n : Nat) (l : AV) (a : Addr) (items : Array Value) : W a = .az (cU items 0) -> items.size = n -> n <= 1048576 -> RL W l items.toList -> RV W (.tup n l) (.ref a)
 | lst (n : Nat) (l : AV) (a : Addr) (items : Array Value) (ep : Nat) : W a = .az (aV items ep) -> items.size = n -> n <= 1048576 -> RL W l items.toList -> RV W (.lst n l) (.ref a)
 | dct (n : Nat) (e : AV) (a : Addr) (o : Obj) (kvs : List (Str × Value)) : W a = .az o -> (∀ h : Heap, h.get? a = some o -> h.DictAt (strKind D.prog D.w) a kvs n) -> kvs.length = n -> n <= 1048576 -> (a == sysModules) = false -> RE W e kvs -> RV W (.dct n e) (.ref a)
 | vals (v : AV) (a : Addr) (x : Value) : W a = .az (kg x) -> RV W v x -> RV W (.vals v) (.ref a)
 | fset (y m : Nat) (a : Addr) (o : Obj) (S : Str -> Bool) : W a = .az o -> vd o S -> (∀ c, c < 256 -> y.testBit c = true -> S ⟨#[c]⟩ = true) -> (∀ c, c < 256 -> S ⟨#[c]⟩ = true -> m.testBit c = true) -> RV W (.fset y m) (.ref a)
 | rng (lo hi : Nat) (a : Addr) (t u v : Tok) : W a = .az (nE lo hi t u v) -> lo <= 1048576 -> hi <= 1048576 -> RV W (.rng lo hi) (.ref a)
 | nxt (i : Nat) (a it : Addr) : W a = .az (wrapObj it) -> W it = .bu i -> RV W (.nxt i) (.ref a)
 | lam (k : Nat) (a : Addr) : mH W a -> RV W (.lam k) (.ref a)
inductive RL (W : Gh) : AV -> List Value -> Prop
 | nil : RL W .nil []
 | cons (v l : AV) (x : Value) (xs : List Value) : RV W v x -> RL W l xs -> RL W (.cons v l) (x :: xs)
inductive RE (W : Gh) : AV -> List (Str × Value) -> Prop
 | nil : RE W .nil []
 | cons (n c : Nat) (v : AV) (r : AV) (x : Value) (xs : List (Str × Value)) : c < 256 ^ n -> RV W v x -> RE W r xs -> RE W (.ent n c v r) ((toS n c, x) :: xs)
end
section
section
variable {W W' : Gh} (h : W.bM W')
include h
theorem RV.mono {v : AV} {x : Value} (r : RV W v x) : RV W' v x :=
 @RV.rec W (fun v x _ => RV W' v x) (fun v x _ => RL W' v x) (fun v x _ => RE W' v x) .none .bool .int .str .ty (fun a o e => .glob a o (h.az e)) (fun i a e => .ref i a (h.bu e))
  (fun n l a items e hn hb _ r => .tup n l a items (h.az e) hn hb r) (fun n l a items ep e hn hb _ r => .lst n l a items ep (h.az e) hn hb r) (fun n e a o kvs e1 e2 hn hb hm _ r => .dct n e a o kvs (h.az e1) e2 hn hb hm r)
  (fun v a x e _ r => .vals v a x (h.az e) r) (fun y m a o S e1 e2 e3 e4 => .fset y m a o S (h.az e1) e2 e3 e4) (fun lo hi a t u v e hl hn => .rng lo hi a t u v (h.az e) hl hn) (fun i a it e1 e2 => .nxt i a it (h.az e1) (h.bu e2)) (fun k a e => .lam k a (e.mono h.az))
  .nil (fun v l x xs _ _ r t => .cons v l x xs r t) .nil (fun n c v r x xs hc _ _ a b => .cons n c v r x xs hc a b) v x r
theorem RL.mono {v : AV} {x : List Value} (r : RL W v x) : RL W' v x :=
 @RL.rec W (fun v x _ => RV W' v x) (fun v x _ => RL W' v x) (fun v x _ => RE W' v x) .none .bool .int .str .ty (fun a o e => .glob a o (h.az e)) (fun i a e => .ref i a (h.bu e))
  (fun n l a items e hn hb _ r => .tup n l a items (h.az e) hn hb r) (fun n l a items ep e hn hb _ r => .lst n l a items ep (h.az e) hn hb r) (fun n e a o kvs e1 e2 hn hb hm _ r => .dct n e a o kvs (h.az e1) e2 hn hb hm r)
  (fun v a x e _ r => .vals v a x (h.az e) r) (fun y m a o S e1 e2 e3 e4 => .fset y m a o S (h.az e1) e2 e3 e4) (fun lo hi a t u v e hl hn => .rng lo hi a t u v (h.az e) hl hn) (fun i a it e1 e2 => .nxt i a it (h.az e1) (h.bu e2)) (fun k a e => .lam k a (e.mono h.az))
  .nil (fun v l x xs _ _ r t => .cons v l x xs r t) .nil (fun n c v r x xs hc _ _ a b => .cons n c v r x xs hc a b) v x r
theorem RE.mono {v : AV} {x : List (Str × Value)} (r : RE W v x) : RE W' v x := by
 induction v generalizing x with
 | nil => cases r; exact .nil
 | ent n c v l _ ih =>
  cases r with
  | cons _ _ _ _ x xs hc rv re => exact .cons n c v l x xs hc (rv.mono h) (ih re)
 | _ => exact nomatch r
end
section
variable {W : Gh}
noncomputable def RV.Inv (W : Gh) (v : AV) (x : Value) : Prop := @AV.rec (fun _ => Prop) False (x = .none) (fun b => x = .bool b) (fun i => ∃ t, x = .int i t) (fun n c => ∃ t, x = .str (toS n c) t /\ c < 256 ^ n /\ n <= 1048576) (fun k => x = .type (tyName k))
 (fun a => x = .ref a /\ ∃ o, W a = .az o) (fun i => ∃ a, x = .ref a /\ W a = .bu i) (fun n l _ => ∃ a items, x = .ref a /\ W a = .az (cU items 0) /\ items.size = n /\ n <= 1048576 /\ RL W l items.toList)
 (fun n l _ => ∃ a items ep, x = .ref a /\ W a = .az (aV items ep) /\ items.size = n /\ n <= 1048576 /\ RL W l items.toList)
 (fun n e _ => ∃ a o kvs, x = .ref a /\ W a = .az o /\ (∀ h : Heap, h.get? a = some o -> h.DictAt (strKind D.prog D.w) a kvs n) /\ kvs.length = n /\ n <= 1048576 /\ (a == sysModules) = false /\ RE W e kvs)
 (fun y m => ∃ a o S, x = .ref a /\ W a = .az o /\ vd o S /\ (∀ c, c < 256 -> y.testBit c = true -> S ⟨#[c]⟩ = true) /\ ∀ c, c < 256 -> S ⟨#[c]⟩ = true -> m.testBit c = true) (fun v _ => ∃ a y, x = .ref a /\ W a = .az (kg y) /\ RV W v y)
 (fun lo hi => ∃ a t u v, x = .ref a /\ W a = .az (nE lo hi t u v) /\ lo <= 1048576 /\ hi <= 1048576) (fun _ => ∃ a, x = .ref a /\ mH W a) (fun i => ∃ a it, x = .ref a /\ W a = .az (wrapObj it) /\ W it = .bu i) False (fun _ _ _ _ => False) (fun _ _ _ _ _ _ => False) v
theorem RV.inv {v : AV} {x : Value} (r : RV W v x) : RV.Inv W v x :=
 @RV.casesOn W (fun v x _ => RV.Inv W v x) v x r rfl (fun _ => rfl) (fun _ t => ⟨t, rfl⟩) (fun _ _ t a b => ⟨t, rfl, a, b⟩) (fun _ => rfl) (fun _ o e => ⟨rfl, o, e⟩) (fun _ a e => ⟨a, rfl, e⟩) (fun _ _ a i e b c d => ⟨a, i, rfl, e, b, c, d⟩) (fun _ _ a i p e b c d => ⟨a, i, p, rfl, e, b, c, d⟩)
  (fun _ _ a o k e1 e2 h1 h2 h3 h4 => ⟨a, o, k, rfl, e1, e2, h1, h2, h3, h4⟩) (fun _ a x e r => ⟨a, x, rfl, e, r⟩) (fun _ _ a o S e1 e2 e3 e4 => ⟨a, o, S, rfl, e1, e2, e3, e4⟩) (fun _ _ a t u v e h1 h2 => ⟨a, t, u, v, rfl, e, h1, h2⟩) (fun _ a it e1 e2 => ⟨a, it, rfl, e1, e2⟩) (fun _ a e => ⟨a, rfl, e⟩)
theorem RV.Eh {motive : (x : Value) -> RV W .none x -> Prop} {x : Value} (r : RV W .none x) (mk : motive .none .none) : motive x r := by
 have h : RV.Inv W _ x := r.inv
 subst h; exact mk
theorem RV.Ec {b : Bool} {motive : (x : Value) -> RV W (.bool b) x -> Prop} {x : Value} (r : RV W (.bool b) x) (mk : motive (.bool b) (.bool b)) : motive x r := by
 have h : RV.Inv W _ x := r.inv
 subst h; exact mk
theorem RV.FV {i : Int} {motive : (x : Value) -> RV W (.int i) x -> Prop} {x : Value} (r : RV W (.int i) x) (mk : ∀ t, motive (.int i t) (.int i t)) : motive x r := by
 obtain ⟨t, rfl⟩ := (r.inv : RV.Inv W _ x)
 exact mk t
theorem RV.Gw {n c : Nat} {motive : (x : Value) -> RV W (.str n c) x -> Prop} {x : Value} (r : RV W (.str n c) x) (mk : ∀ t hc hn, motive (.str (toS n c) t) (.str n c t hc hn)) : motive x r := by
 obtain ⟨t, rfl, a, b⟩ := (r.inv : RV.Inv W _ x)
 exact mk t a b
theorem RV.Hy {k : Nat} {motive : (x : Value) -> RV W (.ty k) x -> Prop} {x : Value} (r : RV W (.ty k) x) (mk : motive (.type (tyName k)) (.ty k)) : motive x r := by
 have h : RV.Inv W _ x := r.inv
 subst h; exact mk
theorem RV.Et {a : Addr} {motive : (x : Value) -> RV W (.glob a) x -> Prop} {x : Value} (r : RV W (.glob a) x) (mk : ∀ o e, motive (.ref a) (.glob a o e)) : motive x r := by
 obtain ⟨rfl, o, e⟩ := (r.inv : RV.Inv W _ x)
 exact mk o e
theorem RV.cg {i : Nat} {motive : (x : Value) -> RV W (.ref i) x -> Prop} {x : Value} (r : RV W (.ref i) x) (mk : ∀ a e, motive (.ref a) (.ref i a e)) : motive x r := by
 obtain ⟨a, rfl, e⟩ := (r.inv : RV.Inv W _ x)
 exact mk a e
theorem RV.iu {n : Nat} {l : AV} {motive : (x : Value) -> RV W (.tup n l) x -> Prop} {x : Value} (r : RV W (.tup n l) x) (mk : ∀ a items e hn hb rl, motive (.ref a) (.tup n l a items e hn hb rl)) : motive x r := by
 obtain ⟨a, i, rfl, e, b, c, d⟩ := (r.inv : RV.Inv W _ x)
 exact mk a i e b c d
theorem RV.jE {n : Nat} {l : AV} {motive : (x : Value) -> RV W (.lst n l) x -> Prop} {x : Value} (r : RV W (.lst n l) x) (mk : ∀ a items ep e hn hb rl, motive (.ref a) (.lst n l a items ep e hn hb rl)) : motive x r := by
 obtain ⟨a, i, p, rfl, e, b, c, d⟩ := (r.inv : RV.Inv W _ x)
 exact mk a i p e b c d
theorem RV.AN {n : Nat} {l : AV} {motive : (x : Value) -> RV W (.dct n l) x -> Prop} {x : Value} (r : RV W (.dct n l) x) (mk : ∀ a o kvs e1 e2 hn hb hm re, motive (.ref a) (.dct n l a o kvs e1 e2 hn hb hm re)) : motive x r := by
 obtain ⟨a, o, k, rfl, e1, e2, h1, h2, h3, h4⟩ := (r.inv : RV.Inv W _ x)
 exact mk a o k e1 e2 h1 h2 h3 h4
theorem RV.Bd {v : AV} {motive : (x : Value) -> RV W (.vals v) x -> Prop} {x : Value} (r : RV W (.vals v) x) (mk : ∀ a y e rv, motive (.ref a) (.vals v a y e rv)) : motive x r := by
 obtain ⟨a, y, rfl, e, r⟩ := (r.inv : RV.Inv W _ x)
 exact mk a y e r
theorem RV.tF {y m : Nat} {motive : (x : Value) -> RV W (.fset y m) x -> Prop} {x : Value} (r : RV W (.fset y m) x) (mk : ∀ a o S e1 e2 e3 e4, motive (.ref a) (.fset y m a o S e1 e2 e3 e4)) : motive x r := by
 obtain ⟨a, o, S, rfl, e1, e2, e3, e4⟩ := (r.inv : RV.Inv W _ x)
 exact mk a o S e1 e2 e3 e4
theorem RV.FX {lo hi : Nat} {motive : (x : Value) -> RV W (.rng lo hi) x -> Prop} {x : Value} (r : RV W (.rng lo hi) x) (mk : ∀ a t u v e hl hn, motive (.ref a) (.rng lo hi a t u v e hl hn)) : motive x r := by
 obtain ⟨a, t, u, w, rfl, e, h1, h2⟩ := (r.inv : RV.Inv W _ x)
 exact mk a t u w e h1 h2
theorem RV.Fx {i : Nat} {motive : (x : Value) -> RV W (.nxt i) x -> Prop} {x : Value} (r : RV W (.nxt i) x) (mk : ∀ a it e1 e2, motive (.ref a) (.nxt i a it e1 e2)) : motive x r := by
 obtain ⟨a, it, rfl, e1, e2⟩ := (r.inv : RV.Inv W _ x)
 exact mk a it e1 e2
theorem RV.BQ {x : Value} {p : Prop} (r : RV W .undef x) : p := by cases r
theorem RL.BX {motive : (x : List Value) -> RL W .nil x -> Prop} {x : List Value} (r : RL W .nil x) (mk : motive [] .nil) : motive x r := by
 cases r; exact mk
theorem RL.iE {v l : AV} {motive : (x : List Value) -> RL W (.cons v l) x -> Prop} {x : List Value} (r : RL W (.cons v l) x) (mk : ∀ x xs rv rl, motive (x :: xs) (.cons v l x xs rv rl)) : motive x r := by
 cases r with | cons _ _ x0 x1 x2 x3 => exact mk x0 x1 x2 x3
theorem RE.BX {motive : (x : List (Str × Value)) -> RE W .nil x -> Prop} {x : List (Str × Value)} (r : RE W .nil x) (mk : motive [] .nil) : motive x r := by
 cases r; exact mk
theorem RE.iE {n c : Nat} {v l : AV} {motive : (x : List (Str × Value)) -> RE W (.ent n c v l) x -> Prop} {x : List (Str × Value)} (r : RE W (.ent n c v l) x) (mk : ∀ x xs hc rv re, motive ((toS n c, x) :: xs) (.cons n c v l x xs hc rv re)) : motive x r := by
 cases r with | cons _ _ _ _ x0 x1 x2 x3 x4 => exact mk x0 x1 x2 x3 x4
theorem RV.ne {v : AV} {x : Value} (r : RV W v x) : v ≠ .undef := fun e => (e ▸ r).BQ
theorem RL.ind {motive : AV -> List Value -> Prop} (nil : motive .nil []) (cons : ∀ v l x xs, RV W v x -> RL W l xs -> motive l xs -> motive (.cons v l) (x :: xs)) {l : AV} {xs : List Value} (r : RL W l xs) : motive l xs :=
 @RL.rec W (fun _ _ _ => True) (fun l xs _ => motive l xs) (fun _ _ _ => True) trivial (fun _ => trivial) (fun _ _ => trivial) (fun _ _ _ _ _ => trivial) (fun _ => trivial) (fun _ _ _ => trivial) (fun _ _ _ => trivial) (fun _ _ _ _ _ _ _ _ _ => trivial) (fun _ _ _ _ _ _ _ _ _ _ => trivial)
  (fun _ _ _ _ _ _ _ _ _ _ _ _ => trivial) (fun _ _ _ _ _ _ => trivial) (fun _ _ _ _ _ _ _ _ _ => trivial) (fun _ _ _ _ _ _ _ _ _ => trivial) (fun _ _ _ _ _ => trivial) (fun _ _ _ => trivial) nil (fun v l x xs rv rl _ ih => cons v l x xs rv rl ih) trivial (fun _ _ _ _ _ _ _ _ _ _ _ => trivial) l xs r
theorem RE.ind {motive : AV -> List (Str × Value) -> Prop} (nil : motive .nil []) (cons : ∀ n c v r x xs, c < 256 ^ n -> RV W v x -> RE W r xs -> motive r xs -> motive (.ent n c v r) ((toS n c, x) :: xs)) {e : AV} {xs : List (Str × Value)} (r : RE W e xs) : motive e xs :=
 @RE.rec W (fun _ _ _ => True) (fun _ _ _ => True) (fun e xs _ => motive e xs) trivial (fun _ => trivial) (fun _ _ => trivial) (fun _ _ _ _ _ => trivial) (fun _ => trivial) (fun _ _ _ => trivial) (fun _ _ _ => trivial) (fun _ _ _ _ _ _ _ _ _ => trivial) (fun _ _ _ _ _ _ _ _ _ _ => trivial)
  (fun _ _ _ _ _ _ _ _ _ _ _ _ => trivial) (fun _ _ _ _ _ _ => trivial) (fun _ _ _ _ _ _ _ _ _ => trivial) (fun _ _ _ _ _ _ _ _ _ => trivial) (fun _ _ _ _ _ => trivial) (fun _ _ _ => trivial) trivial (fun _ _ _ _ _ _ _ _ => trivial) nil (fun n c v r x xs hc rv re _ ih => cons n c v r x xs hc rv re ih) e xs r
end
end
inductive AO where
 | list (n : Nat) (l : AV) | dict (n ep : Nat) (e : AV) | set (n : Nat) (l : AV) | junk | inst (C : Nat) (l : AV) | node (l : AV) | iter (l : AV) (k : Nat)
inductive ab where
 | nil | cons (i : Nat) (o : AO) (r : ab)
noncomputable def AO.Bi.{u} {β : Sort u} (z : β) (k : Nat -> AV -> β) (v : AO) : β := @AO.rec (fun _ => β) k (fun _ _ _ => z) (fun _ _ => z) z (fun _ _ => z) (fun _ => z) (fun _ _ => z) v
theorem AO.oZ.{u} {β : Sort u} {z y : β} {k : Nat -> AV -> β} {v : AO} (h : v.Bi z k = y) (hz : z ≠ y) : ∃ x0 x1, v = .list x0 x1 /\ k x0 x1 = y := by
 have g : ∀ u, v = u -> u.Bi z k = y -> ∃ x0 x1, v = .list x0 x1 /\ k x0 x1 = y := fun u => by
  induction u using AO.casesOn <;> first | exact fun _ h => absurd h hz | exact fun e h => ⟨_, _, e, h⟩
 exact g v rfl h
noncomputable def AO.pP.{u} {β : Sort u} (z : β) (k : Nat -> Nat -> AV -> β) (v : AO) : β := @AO.rec (fun _ => β) (fun _ _ => z) k (fun _ _ => z) z (fun _ _ => z) (fun _ => z) (fun _ _ => z) v
theorem AO.xb.{u} {β : Sort u} (z : β) (k : Nat -> Nat -> AV -> β) (v : AO) : (∃ x0 x1 x2, v = .dict x0 x1 x2 /\ v.pP z k = k x0 x1 x2) \/ v.pP z k = z := by
 induction v using AO.casesOn <;> first | exact .inr rfl | exact .inl ⟨_, _, _, rfl, rfl⟩
theorem AO.qg.{u} {β : Sort u} {z y : β} {k : Nat -> Nat -> AV -> β} {v : AO} (h : v.pP z k = y) (hz : z ≠ y) : ∃ x0 x1 x2, v = .dict x0 x1 x2 /\ k x0 x1 x2 = y := by
 have g : ∀ u, v = u -> u.pP z k = y -> ∃ x0 x1 x2, v = .dict x0 x1 x2 /\ k x0 x1 x2 = y := fun u => by
  induction u using AO.casesOn <;> first | exact fun _ h => absurd h hz | exact fun e h => ⟨_, _, _, e, h⟩
 exact g v rfl h
noncomputable def AO.D0.{u} {β : Sort u} (z : β) (k : Nat -> AV -> β) (v : AO) : β := @AO.rec (fun _ => β) (fun _ _ => z) (fun _ _ _ => z) k z (fun _ _ => z) (fun _ => z) (fun _ _ => z) v
theorem AO.yK.{u} {β : Sort u} {z y : β} {k : Nat -> AV -> β} {v : AO} (h : v.D0 z k = y) (hz : z ≠ y) : ∃ x0 x1, v = .set x0 x1 /\ k x0 x1 = y := by
 have g : ∀ u, v = u -> u.D0 z k = y -> ∃ x0 x1, v = .set x0 x1 /\ k x0 x1 = y := fun u => by
  induction u using AO.casesOn <;> first | exact fun _ h => absurd h hz | exact fun e h => ⟨_, _, e, h⟩
 exact g v rfl h
noncomputable def AO.Bg.{u} {β : Sort u} (z : β) (k : Nat -> AV -> β) (v : AO) : β := @AO.rec (fun _ => β) (fun _ _ => z) (fun _ _ _ => z) (fun _ _ => z) z k (fun _ => z) (fun _ _ => z) v
theorem AO.yt.{u} {β : Sort u} {z y : β} {k : Nat -> AV -> β} {v : AO} (h : v.Bg z k = y) (hz : z ≠ y) : ∃ x0 x1, v = .inst x0 x1 /\ k x0 x1 = y := by
 have g : ∀ u, v = u -> u.Bg z k = y -> ∃ x0 x1, v = .inst x0 x1 /\ k x0 x1 = y := fun u => by
  induction u using AO.casesOn <;> first | exact fun _ h => absurd h hz | exact fun e h => ⟨_, _, e, h⟩
 exact g v rfl h
noncomputable def AO.A2.{u} {β : Sort u} (z : β) (k : AV -> β) (v : AO) : β := @AO.rec (fun _ => β) (fun _ _ => z) (fun _ _ _ => z) (fun _ _ => z) z (fun _ _ => z) k (fun _ _ => z) v
theorem AO.w7.{u} {β : Sort u} {z y : β} {k : AV -> β} {v : AO} (h : v.A2 z k = y) (hz : z ≠ y) : ∃ x0, v = .node x0 /\ k x0 = y := by
 have g : ∀ u, v = u -> u.A2 z k = y -> ∃ x0, v = .node x0 /\ k x0 = y := fun u => by
  induction u using AO.casesOn <;> first | exact fun _ h => absurd h hz | exact fun e h => ⟨_, e, h⟩
 exact g v rfl h
noncomputable def AO.Bm.{u} {β : Sort u} (z : β) (k : AV -> Nat -> β) (v : AO) : β := @AO.rec (fun _ => β) (fun _ _ => z) (fun _ _ _ => z) (fun _ _ => z) z (fun _ _ => z) (fun _ => z) k v
theorem AO.xJ.{u} {β : Sort u} {z y : β} {k : AV -> Nat -> β} {v : AO} (h : v.Bm z k = y) (hz : z ≠ y) : ∃ x0 x1, v = .iter x0 x1 /\ k x0 x1 = y := by
 have g : ∀ u, v = u -> u.Bm z k = y -> ∃ x0 x1, v = .iter x0 x1 /\ k x0 x1 = y := fun u => by
  induction u using AO.casesOn <;> first | exact fun _ h => absurd h hz | exact fun e h => ⟨_, _, e, h⟩
 exact g v rfl h
inductive qb : AV -> List Str -> Prop
 | nil : qb .nil []
 | cons (n c : Nat) (l : AV) (ks : List Str) : c < 256 ^ n -> qb l ks -> qb (.cons (.str n c) l) (toS n c :: ks)
noncomputable def Slot (W : Gh) (v : AV) (x : Option Value) : Prop := v = .undef \/ ∃ y, x = some y /\ RV W v y
theorem Slot.mono {W W' : Gh} (h : W.bM W') {v : AV} {x : Option Value} (r : Slot W v x) : Slot W' v x :=
 r.imp id fun ⟨y, e, r⟩ => ⟨y, e, r.mono h⟩
noncomputable def AV.fH {β : Sort _} (z : β) (f : AV -> AV -> β -> β) (l : AV) : β :=
 @AV.rec (fun _ => β) z z (fun _ => z) (fun _ => z) (fun _ _ => z) (fun _ => z) (fun _ => z) (fun _ => z) (fun _ _ _ => z) (fun _ _ _ => z) (fun _ _ _ => z) (fun _ _ => z) (fun _ _ => z) (fun _ _ => z) (fun _ => z) (fun _ => z) z (fun a l _ ih => f a l ih) (fun _ _ _ _ _ _ => z) l
noncomputable def AV.bB (l : AV) : Nat -> AV := AV.fH (fun _ => .undef) (fun a _ ih n => @Nat.rec (fun _ => AV) a (fun k _ => ih k) n) l
noncomputable def AV.put (l : AV) (v : AV) : Nat -> AV := AV.fH (fun _ => .nil) (fun a t ih n => @Nat.rec (fun _ => AV) (.cons v t) (fun k _ => .cons a (ih k)) n) l
noncomputable def AV.look (n c : Nat) (e : AV) : AV := @AV.rec (fun _ => AV) .undef .undef (fun _ => .undef) (fun _ => .undef) (fun _ _ => .undef) (fun _ => .undef) (fun _ => .undef) (fun _ => .undef) (fun _ _ _ => .undef) (fun _ _ _ => .undef) (fun _ _ _ => .undef) (fun _ _ => .undef) (fun _ _ => .undef) (fun _ _ => .undef) (fun _ => .undef) (fun _ => .undef) .undef (fun _ _ _ _ => .undef) (fun m d v _ _ ih => @Bool.rec (fun _ => AV) (ih) v (Nat.beq n m && Nat.beq c d)) e
noncomputable def OR (W : Gh) (h : Heap) (i : Nat) (a : Addr) : AO -> Prop
 | .list n l => ∃ items ep, h.get? a = some (aV items ep) /\ items.size = n /\ n <= 1048576 /\ RL W l items.toList
 | .dict n ep e => ∃ kvs ep', h.DictAt (strKind D.prog D.w) a kvs ep' /\ (ep = 0 \/ ep = ep' + 1) /\ kvs.length = n /\ n <= 1048576 /\ RE W e kvs
 | .set n l => ∃ (S : Str -> Bool) (k : Nat) (ks : List Str), h.SetOf (strKind D.prog D.w) a S k /\ k <= n /\ n <= 4000 /\ qb l ks /\ ∀ x, S x = true ↔ x ∈ ks
 | .junk => True
 | .inst C l => ∃ (o : Obj) (mA : Str -> Option Value), h.get? a = some o /\ o.cls = .ref C /\ (∀ c, o.data ≠ .cls c) /\ (∃ d, o.dict = some d /\ W d = .sub i /\ h.Ns1 d mA) /\
   (∀ x, x ∉ D.fields C -> mA x = none) /\ ∀ (k : Nat) (x : Str), (D.fields C)[k]? = some x -> Slot W (l.bB k) (mA x)
 | .node l => ∃ (o : Obj) (d : Addr), h.get? a = some o /\ o.cls = .ref D.nodeC /\ (∀ c, o.data ≠ .cls c) /\ o.dict = some d /\ W d = .sub i /\ (∃ od, h.get? d = some od) /\ ∀ k, k < 3 -> Slot W (l.bB k) ((o.slots[k]?).join)
 | .iter l k => ∃ (x : Value), h.get? a = some (iw x k) /\ RV W l x
theorem OR.keep {W W' : Gh} {h h' : Heap} {i : Nat} {a : Addr} {ao : AO} (hW : W.bM W') (ha : W a = .bu i)
  (hk : ∀ b o, (W b = .bu i \/ W b = .sub i) -> h.get? b = some o -> h'.get? b = some o) (r : OR W h i a ao) : OR W' h' i a ao := by
 induction ao using AO.casesOn with
 | list n l => refine bH r ?_; clear r; intro items ep e hn hb r; exact ⟨items, ep, hk _ _ (.inl ha) e, hn, hb, r.mono hW⟩
 | dict n ep e =>
  refine b8 r ?_; clear r; intro kvs ep' hn1_2 he hn hb r; obtain ⟨o, es, e1, e2⟩ := hn1_2
  exact ⟨kvs, ep', ⟨o, es, hk _ _ (.inl ha) e1, e2⟩, he, hn, hb, r.mono hW⟩
 | set n l =>
  refine du r ?_; clear r; intro S k ks hn2_3 hn r; obtain ⟨o, es, ep, t, e1, e2⟩ := hn2_3
  exact ⟨S, k, ks, ⟨o, es, ep, t, hk _ _ (.inl ha) e1, e2⟩, hn, r⟩
 | junk => trivial
 | inst C l =>
  refine a8 r ?_; clear r; intro o mA e hc hd hx hf hs
  refine tV hx ?_; clear hx; intro d e1 e2 o' es ep e3 e4
  exact ⟨o, mA, hk _ _ (.inl ha) e, hc, hd, ⟨d, e1, hW.sub e2, o', es, ep, hk _ _ (.inr e2) e3, e4⟩, hf, fun k x hkx => (hs k x hkx).mono hW⟩
 | node l =>
  refine gZ r ?_; clear r; intro o d e e1 e2 e3 e4 hn5_7 hs; obtain ⟨od, e5⟩ := hn5_7
  exact ⟨o, d, hk _ _ (.inl ha) e, e1, e2, e3, hW.sub e4, ⟨od, hk _ _ (.inr e4) e5⟩, fun k hk' => (hs k hk').mono hW⟩
 | iter l k => refine ae r ?_; clear r; intro x e r; exact ⟨x, hk _ _ (.inl ha) e, r.mono hW⟩
noncomputable def ab.next (s : ab) : Nat := @ab.rec (fun _ => Nat) 0 (fun i _ _ _ => Nat.succ i) s
inductive ab.At : ab -> Nat -> AO -> Prop
 | here (i : Nat) (o : AO) (r : ab) : ab.At (.cons i o r) i o
 | there (i j : Nat) (o p : AO) (r : ab) : j ≠ i -> ab.At r j p -> ab.At (.cons i o r) j p
noncomputable def fk (o : Obj) : Prop := (∃ es ep, o.data = .dict es ep) \/ ∃ ov, o.data = .cell ov
noncomputable def lL (o o' : Obj) : Prop := o' = o \/ (fk o /\ ∃ sl, o' = { o with slots := sl })
theorem lL.refl (o : Obj) : lL o o := .inl rfl
theorem lL.data {o o' : Obj} (h : lL o o') : o'.data = o.data := by rcases h with rfl | ⟨_, sl, rfl⟩ <;> rfl
theorem lL.soft {o o' : Obj} (h : lL o o') (k : fk o) : fk o' := by unfold fk; refine aa h.data ?_; exact k
theorem lL.trans {o o' o'' : Obj} (h : lL o o') (h' : lL o' o'') : lL o o'' := by
 rcases h with rfl | ⟨k, sl, rfl⟩
 ·exact h'
 ·rcases h' with rfl | ⟨_, sl', rfl⟩
  ·exact .inr ⟨k, sl, rfl⟩
  ·exact .inr ⟨k, sl', rfl⟩
theorem lL.wK {o o' : Obj} (h : lL o o') {fs : Array Value} (k : o.data = .fields fs) : o' = o := by
 rcases h with rfl | ⟨⟨_, _, q⟩ | ⟨_, q⟩, _⟩
 ·rfl
 ·rw [k] at q; cases q
 ·rw [k] at q; cases q
noncomputable def pg (W : Gh) (h : Heap) : Prop := W D.lam.tab = .tab /\ ∃ ps, h.get? D.lam.tab = some (PySem.W.tabObj ps) /\ (ps = #[] \/ ∃ c oc vs q t, ps = #[rawInt D.lam.pos.line, rawInt D.lam.pos.col, .ref c] /\ W c = .az oc /\ oc.data = .fields vs /\ vs[1]? = some (.str q t))
theorem pg.keep {W W' : Gh} {h h' : Heap} (r : pg W h) (e : W' D.lam.tab = .tab) (hf : ∀ {a : Addr} {o : Obj}, W a = .az o -> W' a = .az o) (hk : ∀ o, h.get? D.lam.tab = some o -> h'.get? D.lam.tab = some o) : pg W' h' :=
 let ⟨_, ps, e1, k⟩ := r; ⟨e, ps, hk _ e1, k.imp id fun ⟨c, oc, vs, q, t, h1, h2, h3⟩ => ⟨c, oc, vs, q, t, h1, hf h2, h3⟩⟩
structure Inv (W : Gh) (σ : ab) (s : Shared) : Prop where
 base : ∀ a o, D.B.get? a = some o -> W a = .az o
 az : ∀ a o, W a = .az o -> s.heap.get? a = some o
 kept : ∀ a o, W a = .kept o -> ∃ o', s.heap.get? a = some o' /\ lL o o'
 own : ∀ a, W a = .own -> ∃ o, s.heap.get? a = some o /\ fk o
 ex : ∀ a, W a ≠ .free -> ∃ o, s.heap.get? a = some o
 bu : ∀ i o, σ.At i o -> ∃ a, W a = .bu i /\ OR W s.heap i a o
 inj : ∀ i a b, W a = .bu i -> W b = .bu i -> a = b
 nxt : ∀ i a, (W a = .bu i \/ W a = .sub i) -> i < σ.next
 gens : s.gens = D.gs
 os : s.os = D.os
 tab : pg W s.heap
noncomputable def ab.put (i : Nat) (o : AO) (s : ab) : ab := @ab.rec (fun _ => ab) .nil (fun j p r ih => @Bool.rec (fun _ => ab) (.cons j p ih) (.cons j o r) (Nat.beq i j)) s
noncomputable def ab.look (i : Nat) (s : ab) : AO := @ab.rec (fun _ => AO) .junk (fun j p _ ih => @Bool.rec (fun _ => AO) ih p (Nat.beq i j)) s
theorem ab.kT (i j : Nat) (o p : AO) (r : ab) : (ab.cons j p r).put i o = bif Nat.beq i j then .cons j o r else .cons j p (r.put i o) := by
 show @Bool.rec _ _ _ _ = _
 cases Nat.beq i j <;> rfl
theorem ab.jl (i j : Nat) (p : AO) (r : ab) : (ab.cons j p r).look i = bif Nat.beq i j then p else r.look i := by
 show @Bool.rec _ _ _ _ = _
 cases Nat.beq i j <;> rfl
theorem ab.aw {i : Nat} {o : AO} : ∀ {s : ab}, s.look i = o -> o ≠ .junk -> s.At i o
 | .nil, e, h => absurd e.symm h
 | .cons j p r, e, h => by
  rw [ab.jl] at e
  cases hb : Nat.beq i j with
  | true => rw [hb] at e; obtain rfl := Nat.eq_of_beq_eq_true hb; refine bw e ?_; exact .here _ _ _
  | false => rw [hb] at e; exact .there _ _ _ _ _ (Nat.ne_of_beq_eq_false hb) (ab.aw e h)
theorem ab.vQ (i : Nat) (o : AO) : ∀ (s : ab), (s.put i o).next = s.next
 | .nil => rfl
 | .cons j p r => by rw [ab.kT]; cases Nat.beq i j <;> rfl
theorem ab.qK {k j : Nat} {q p : AO} {r : ab} (h : (ab.cons k q r).At j p) : (j = k /\ p = q) \/ (j ≠ k /\ r.At j p) := by
 cases h with
 | here => exact .inl ⟨rfl, rfl⟩
 | there _ _ _ _ _ hn h => exact .inr ⟨hn, h⟩
theorem ab.BR {i j : Nat} {o p : AO} {s : ab} : (s.put i o).At j p -> (j = i /\ p = o) \/ (j ≠ i /\ s.At j p) :=
 @ab.rec (fun s => (s.put i o).At j p -> (j = i /\ p = o) \/ (j ≠ i /\ s.At j p)) (fun h => nomatch h) (fun k q r ih h => by
  rw [ab.kT] at h
  cases hb : Nat.beq i k with
  | true =>
   rw [hb] at h
   have e := Nat.eq_of_beq_eq_true hb
   exact (ab.qK h).imp (fun x => ⟨x.1.trans e.symm, x.2⟩) fun x => ⟨fun y => x.1 (y.trans e), .there _ _ _ _ _ x.1 x.2⟩
  | false =>
   rw [hb] at h
   exact (ab.qK h).elim (fun x => .inr ⟨fun y => Nat.ne_of_beq_eq_false hb (y.symm.trans x.1), by rw [x.1, x.2]; exact .here _ _ _⟩) fun x => (ih x.2).imp id fun y => ⟨y.1, .there _ _ _ _ _ x.1 y.2⟩) s
section
variable {W : Gh} {σ : ab} {s : Shared}
theorem Inv.free (I : Inv W σ s) : W s.heap.objs.size = .free := by
 refine Classical.byContradiction fun h => ?_
 refine bI (I.ex _ h) fun o e => ?_
 exact Nat.lt_irrefl _ (Heap.lt_size e)
theorem Inv.tok (I : Inv W σ s) (t : Nat) : Inv W σ { s with toks := t } := ⟨I.base, I.az, I.kept, I.own, I.ex, I.bu, I.inj, I.nxt, I.gens, I.os, I.tab⟩
theorem Inv.BA {h' : Heap} {t : Nat} (I : Inv W σ s) (hk : ∀ b o, W b ≠ .free -> W b ≠ .own -> s.heap.get? b = some o -> h'.get? b = some o) (ho : ∀ b, W b = .own -> ∃ o, h'.get? b = some o /\ fk o) :
  Inv W σ { s with heap := h', toks := t } where
 base := I.base
 az a o e := hk a o (by refine aa e ?_; exact fun x => nomatch x) (by refine aa e ?_; exact fun x => nomatch x) (I.az a o e)
 kept a o e := let ⟨o', e', r⟩ := I.kept a o e; ⟨o', hk a o' (by refine aa e ?_; exact fun x => nomatch x) (by refine aa e ?_; exact fun x => nomatch x) e', r⟩
 own := ho
 ex a h := by
  by_cases q : W a = .own
  ·refine ae (ho a q) fun o e _ => ?_; exact ⟨o, e⟩
  ·refine bI (I.ex a h) fun o e => ?_; exact ⟨o, hk a o h q e⟩
 bu i o h := by
  refine ae (I.bu i o h) fun a e r => ?_
  refine ⟨a, e, r.keep (.refl W) e fun b ob hb => ?_⟩
  rcases hb with hb | hb <;> exact hk b ob (by refine aa hb ?_; exact fun x => nomatch x) (by refine aa hb ?_; exact fun x => nomatch x)
 inj := I.inj
 nxt := I.nxt
 gens := I.gens
 os := I.os
 tab := I.tab.keep I.tab.1 id fun o e => hk _ o (by refine aa I.tab.1 ?_; exact fun x => nomatch x) (by refine aa I.tab.1 ?_; exact fun x => nomatch x) e
noncomputable def Keeps (W : Gh) (h h' : Heap) : Prop := ∀ b o, W b ≠ .free -> h.get? b = some o -> h'.get? b = some o
theorem Inv.zN {W' : Gh} {h' : Heap} (I : Inv W σ s) (le : W.le W') (hk : Keeps W s.heap h') : pg W' h' :=
 have n : W D.lam.tab ≠ .free := by rw [I.tab.1]; exact fun x => nomatch x
 I.tab.keep ((le _ n).trans I.tab.1) le.az fun o e => hk _ o n e
theorem Inv.same {h' : Heap} {t : Nat} (I : Inv W σ s) (hk : Keeps W s.heap h') : Inv W σ { s with heap := h', toks := t } :=
 I.BA (fun b o h _ e => hk b o h e) fun b h => let ⟨o, e, k⟩ := I.own b h; ⟨o, hk b o (by refine aa h ?_; exact fun x => nomatch x) e, k⟩
theorem Keeps.bJ {h h' : Heap} (hk : ∀ b o, h.get? b = some o -> h'.get? b = some o) : Keeps W h h' := fun b o _ e => hk b o e
theorem Keeps.push (h : Heap) (o : Obj) : Keeps W h (h.push o) := fun b o' _ e => Heap.get?_push_of_some o e
theorem Keeps.ext {h h' : Heap} {a : Addr} (ha : W a = .free) (hs : Heap.ExtBut a h h') : Keeps W h h' := fun b o hb e => hs b o (by rintro rfl; exact hb ha) e
theorem Inv.push {l : cn} {h' : Heap} {t : Nat} {a : Addr} (I : Inv W σ s) (ha : W a = .free) (hl : ∀ i, l ≠ .bu i /\ l ≠ .sub i) (hf : ∀ o, l = .az o -> h'.get? a = some o) (hp : ∀ o, l = .kept o -> h'.get? a = some o) (hw : l = .own -> ∃ o, h'.get? a = some o /\ fk o)
  (hx : ∃ o, h'.get? a = some o) (hk : Keeps W s.heap h') : Inv (W.set a l) σ { s with heap := h', toks := t } := by
 have le := Gh.aQ (l := l) ha
 have J := I.same (t := t) hk
 exact ⟨fun b o e => le.az (I.base b o e), fun b o e => (Gh.bg e).elim (fun h => h.1 ▸ hf o h.2) fun h => J.az b o h.2, fun b o e => (Gh.bg e).elim (fun h => ⟨o, h.1 ▸ hp o h.2, .refl o⟩) fun h => J.kept b o h.2,
  fun b e => (Gh.bg e).elim (fun h => h.1 ▸ hw h.2) fun h => J.own b h.2, fun b e => (Classical.em (b = a)).elim (fun h => h ▸ hx) fun h => J.ex b fun z => e ((Gh.aD W l h).trans z),
  fun i o h => ae (J.bu i o h) fun b e r => ⟨b, le.bu e, r.keep le.bM e fun _ _ _ e => e⟩,
  fun i b c h1 h2 => (Gh.bg h1).elim (fun h => absurd h.2 (hl i).1) fun x => (Gh.bg h2).elim (fun h => absurd h.2 (hl i).1) fun y => I.inj i b c x.2 y.2,
  fun i b h => h.elim (fun h => (Gh.bg h).elim (fun h => absurd h.2 (hl i).1) fun x => I.nxt i b (.inl x.2)) fun h => (Gh.bg h).elim (fun h => absurd h.2 (hl i).2) fun x => I.nxt i b (.inr x.2), I.gens, I.os, I.zN le hk⟩
theorem Inv.fx {o : Obj} {h' : Heap} {t : Nat} {a : Addr} (I : Inv W σ s) (ha : W a = .free) (ho : h'.get? a = some o) (hk : Keeps W s.heap h') : Inv (W.set a (.az o)) σ { s with heap := h', toks := t } :=
 I.push ha (fun i => ⟨fun e => cn.noConfusion e, fun e => cn.noConfusion e⟩) (fun o' e => by cases e; exact ho) (fun o' e => cn.noConfusion e) (fun e => cn.noConfusion e) ⟨o, ho⟩ hk
theorem Inv.dy {o : Obj} {h' : Heap} {t : Nat} {a : Addr} (I : Inv W σ s) (ha : W a = .free) (ho : h'.get? a = some o) (hk : Keeps W s.heap h') : Inv (W.set a (.kept o)) σ { s with heap := h', toks := t } :=
 I.push ha (fun i => ⟨fun e => cn.noConfusion e, fun e => cn.noConfusion e⟩) (fun o' e => cn.noConfusion e) (fun o' e => by cases e; exact ho) (fun e => cn.noConfusion e) ⟨o, ho⟩ hk
theorem Inv.new {h' : Heap} {t : Nat} {a : Addr} {o : AO} (I : Inv W σ s) (ha : W a = .free) (hx : ∃ o, h'.get? a = some o) (hk : Keeps W s.heap h') (ho : OR (W.set a (.bu σ.next)) h' σ.next a o) :
  Inv (W.set a (.bu σ.next)) (.cons σ.next o σ) { s with heap := h', toks := t } := by
 have le := Gh.aQ (l := .bu σ.next) ha
 have J := I.same (t := t) hk
 exact ⟨fun b o e => le.az (I.base b o e), fun b o e => (Gh.bg e).elim (fun h => cn.noConfusion h.2) fun h => J.az b o h.2, fun b o e => (Gh.bg e).elim (fun h => cn.noConfusion h.2) fun h => J.kept b o h.2,
  fun b e => (Gh.bg e).elim (fun h => cn.noConfusion h.2) fun h => J.own b h.2, fun b e => (Classical.em (b = a)).elim (fun h => h ▸ hx) fun h => J.ex b fun z => e ((Gh.aD W _ h).trans z),
  fun i p h => (ab.qK h).elim (fun h => ⟨a, by rw [h.1]; exact Gh.aq .., by rw [h.1, h.2]; exact ho⟩) fun h => ae (J.bu i p h.2) fun b e r => ⟨b, le.bu e, r.keep le.bM e fun _ _ _ e => e⟩,
  fun i b c h1 h2 => (Gh.bg h1).elim (fun x => (Gh.bg h2).elim (fun y => x.1.trans y.1.symm) fun y => absurd (I.nxt _ _ (.inl (y.2.trans x.2.symm))) (Nat.lt_irrefl _))
   fun x => (Gh.bg h2).elim (fun y => absurd (I.nxt _ _ (.inl (x.2.trans y.2.symm))) (Nat.lt_irrefl _)) fun y => I.inj i b c x.2 y.2,
  fun i b h => h.elim (fun h => (Gh.bg h).elim (fun x => cn.noConfusion x.2 fun e => e ▸ Nat.lt_succ_self _) fun x => Nat.lt_succ_of_lt (I.nxt i b (.inl x.2))) fun h => (Gh.bg h).elim (fun x => cn.noConfusion x.2) fun x => Nat.lt_succ_of_lt (I.nxt i b (.inr x.2)), I.gens, I.os, I.zN le hk⟩
theorem Inv.upd {h' : Heap} {t : Nat} {a : Addr} {i : Nat} {o : AO} (I : Inv W σ s) (ha : W a = .bu i)
  (hk : ∀ b o, W b ≠ .free -> W b ≠ .bu i -> W b ≠ .sub i -> s.heap.get? b = some o -> h'.get? b = some o) (hx : ∀ b, W b = .bu i \/ W b = .sub i -> ∃ o, h'.get? b = some o) (ho : OR W h' i a o) :
  Inv W (σ.put i o) { s with heap := h', toks := t } where
 base := I.base
 az a o e := hk a o (by refine aa e ?_; exact fun x => nomatch x) (by refine aa e ?_; exact fun x => nomatch x) (by refine aa e ?_; exact fun x => nomatch x) (I.az a o e)
 kept a o e := let ⟨o', e', r⟩ := I.kept a o e; ⟨o', hk a o' (by refine aa e ?_; exact fun x => nomatch x) (by refine aa e ?_; exact fun x => nomatch x) (by refine aa e ?_; exact fun x => nomatch x) e', r⟩
 own a e := let ⟨o', e', r⟩ := I.own a e; ⟨o', hk a o' (by refine aa e ?_; exact fun x => nomatch x) (by refine aa e ?_; exact fun x => nomatch x) (by refine aa e ?_; exact fun x => nomatch x) e', r⟩
 ex b h := by
  by_cases q : W b = .bu i \/ W b = .sub i
  ·exact hx b q
  ·rw [not_or] at q
   refine bI (I.ex b h) fun o e => ?_; exact ⟨o, hk b o h q.1 q.2 e⟩
 bu j p h := by
  rcases ab.BR h with ⟨rfl, rfl⟩ | ⟨hn, h⟩
  ·exact ⟨a, ha, ho⟩
  ·refine ae (I.bu j p h) fun b e r => ?_
   refine ⟨b, e, r.keep (.refl W) e fun c ob hb => ?_⟩
   rcases hb with hb | hb <;> exact hk c ob (by refine aa hb ?_; exact fun x => nomatch x) (by refine aa hb fun x => ?_; cases x <;> exact hn rfl) (by refine aa hb fun x => ?_; cases x <;> exact hn rfl)
 inj := I.inj
 nxt i a h := by rw [ab.vQ]; exact I.nxt i a h
 gens := I.gens
 os := I.os
 tab := I.tab.keep I.tab.1 id fun o e => hk _ o (by refine aa I.tab.1 ?_; exact fun x => nomatch x) (by refine aa I.tab.1 ?_; exact fun x => nomatch x) (by refine aa I.tab.1 ?_; exact fun x => nomatch x) e
theorem Inv.fG {h' : Heap} {t : Nat} {a : Addr} {i : Nat} {o : AO} (I : Inv W σ s) (ha : W a = .bu i) (hs : ∀ b o, b ≠ a -> s.heap.get? b = some o -> h'.get? b = some o) (hx : ∃ o, h'.get? a = some o) (ho : OR W h' i a o) :
  Inv W (σ.put i o) { s with heap := h', toks := t } :=
 I.upd ha (fun b ob _ h1 _ e => hs b ob (by rintro rfl; exact h1 ha) e) (fun b hb => by
  by_cases q : b = a
  ·refine aa q ?_; exact hx
  ·refine bI (I.ex b (by rcases hb with hb | hb <;> refine aa hb ?_ <;> exact fun x => nomatch x)) ?_; intro ob e
   exact ⟨ob, hs b ob q e⟩) ho
noncomputable def cn.soft (l : cn) (h' : Heap) (a : Addr) : Prop := l = .free \/ ∃ o1, l = .kept o1 /\ h'.get? a = some o1
theorem Gh.d6 {a : Addr} {o : Obj} {l : cn} (ha : W a = .kept o) : W.bM (W.set a l) := by
 have ne : ∀ {b}, W b ≠ .kept o -> b ≠ a := fun h => by rintro rfl; exact h ha
 exact ⟨fun e => by refine aa (Gh.aD _ _ (ne (by rw [e]; exact fun x => nomatch x))) ?_; exact e, fun e => by refine aa (Gh.aD _ _ (ne (by rw [e]; exact fun x => nomatch x))) ?_; exact e,
  fun e => by refine aa (Gh.aD _ _ (ne (by rw [e]; exact fun x => nomatch x))) ?_; exact e⟩
theorem Inv.relabel {h' : Heap} {t : Nat} {a : Addr} {o : Obj} {l : cn} (I : Inv W σ s) (ha : W a = .kept o) (hl : l.soft h' a) (hs : ∀ b o, b ≠ a -> s.heap.get? b = some o -> h'.get? b = some o) :
  Inv (W.set a l) σ { s with heap := h', toks := t } := by
 have ne : ∀ {b}, W b ≠ .kept o -> b ≠ a := fun h => by rintro rfl; exact h ha
 have bM : W.bM (W.set a l) := Gh.d6 ha
 have nl : ∀ i, l ≠ .bu i /\ l ≠ .sub i := fun i => hl.elim (fun h => h ▸ ⟨(fun e => nomatch e), (fun e => nomatch e)⟩) fun ⟨o1, h, _⟩ => h ▸ ⟨(fun e => nomatch e), (fun e => nomatch e)⟩
 exact ⟨fun b o e => bM.az (I.base b o e), fun b o e => (Gh.bg e).elim (fun h => hl.elim (fun q => cn.noConfusion (q.symm.trans h.2)) fun ⟨o1, q, _⟩ => cn.noConfusion (q.symm.trans h.2)) fun h => hs b o h.1 (I.az b o h.2),
  fun b o e => (Gh.bg e).elim (fun h => hl.elim (fun q => cn.noConfusion (q.symm.trans h.2)) fun ⟨o1, q, g⟩ => ⟨o1, h.1 ▸ g, cn.noConfusion (q.symm.trans h.2) fun e => e ▸ .refl o1⟩) fun h => ae (I.kept b o h.2) fun o' e' r => ⟨o', hs b o' h.1 e', r⟩,
  fun b e => (Gh.bg e).elim (fun h => hl.elim (fun q => cn.noConfusion (q.symm.trans h.2)) fun ⟨o1, q, _⟩ => cn.noConfusion (q.symm.trans h.2)) fun h => ae (I.own b h.2) fun o' e' r => ⟨o', hs b o' h.1 e', r⟩,
  fun b e => (Classical.em (b = a)).elim (fun h => hl.elim (fun q => absurd ((congrArg (W.set a l) h).trans ((Gh.aq W a l).trans q)) e) fun ⟨o1, _, g⟩ => ⟨o1, h ▸ g⟩) fun h => bI (I.ex b fun z => e ((Gh.aD W l h).trans z)) fun ob eb => ⟨ob, hs b ob h eb⟩,
  fun i p h => ae (I.bu i p h) fun b e r => ⟨b, bM.bu e, r.keep bM e fun c ob hc ec => hs c ob (ne fun q => hc.elim (fun hc => cn.noConfusion (hc.symm.trans q)) fun hc => cn.noConfusion (hc.symm.trans q)) ec⟩,
  fun i b c h1 h2 => (Gh.bg h1).elim (fun h => absurd h.2 (nl i).1) fun x => (Gh.bg h2).elim (fun h => absurd h.2 (nl i).1) fun y => I.inj i b c x.2 y.2,
  fun i b h => h.elim (fun h => (Gh.bg h).elim (fun h => absurd h.2 (nl i).1) fun x => I.nxt i b (.inl x.2)) fun h => (Gh.bg h).elim (fun h => absurd h.2 (nl i).2) fun x => I.nxt i b (.inr x.2), I.gens, I.os, I.tab.keep (by refine aa (Gh.aD _ _ (ne (by rw [I.tab.1]; exact fun x => nomatch x))) ?_; exact I.tab.1) bM.az fun o e => hs _ o (ne (by rw [I.tab.1]; exact fun x => nomatch x)) e⟩
end
noncomputable def vr (C : Cx) (W : Gh) (env : Env) (h : Heap) (v : AV) (x : Str) : Kd -> Prop
 | .loc => C.sc.names.lookup x = some .local /\ ∃ m, h.Ns env.locals m /\ Slot W v (m x)
 | .cel => C.sc.names.lookup x = some .cell /\ ∃ c, env.cells.lookup x = some c /\ W c = .own /\ ∃ ov, h.IsCell c ov /\ Slot W v ov
 | .cap => (C.sc.names.lookup x = some .cell \/ C.sc.names.lookup x = some .free /\ (x == ("__classdict__" : Str)) = false) /\ ∃ c, env.cells.lookup x = some c /\ (∃ o, W c = .kept o) /\ ∃ ov, h.IsCell c ov /\ Slot W v ov
structure lT (C : Cx) (W : Gh) (Z : AV) (env : Env) (h : Heap) : Prop where
 sc : env.scope = C.sc
 kind : C.sc.kind = .function
 gl : env.globals = mainGlobals
 bi : env.builtins = builtinsNs
 own : W env.locals = .own
 ns : ∃ m, h.Ns env.locals m
 slot : ∀ i x k, C.ns[i]? = some (x, k) -> vr C W env h (Z.bB i) x k
 nodup : (C.ns.map (·.1)).Nodup
 apart : ∀ x y c, env.cells.lookup x = some c -> env.cells.lookup y = some c -> x = y
 cd : ∀ c, C.cd = some c -> env.code = .ref c
noncomputable def aJ (W : Gh) (h h' : Heap) : Prop := ∀ b o, W b = .own -> h.get? b = some o -> ∃ o', h'.get? b = some o' /\ lL o o'
theorem aJ.refl (W : Gh) (h : Heap) : aJ W h h := fun _ o _ e => ⟨o, e, .refl o⟩
theorem aJ.of {W : Gh} {h h' : Heap} (x : ∀ b o, W b = .own -> h.get? b = some o -> h'.get? b = some o) : aJ W h h' := fun b o h1 h2 => ⟨o, x b o h1 h2, .refl o⟩
theorem aJ.trans {W W' : Gh} {h h' h'' : Heap} (x : aJ W h h') (l : W.le W') (y : aJ W' h' h'') : aJ W h h'' := fun b o e1 e2 =>
 let ⟨o1, a1, r1⟩ := x b o e1 e2; let ⟨o2, a2, r2⟩ := y b o1 (l.own e1) a1; ⟨o2, a2, r1.trans r2⟩
theorem Keeps.own {W : Gh} {h h' : Heap} (k : Keeps W h h') : aJ W h h' := .of fun b o hb e => k b o (by refine aa hb ?_; exact fun x => nomatch x) e
theorem yB {h h' : Heap} {a : Addr} {m : Str -> Option Value} (x : h.Ns a m) (k : ∀ o, h.get? a = some o -> ∃ o', h'.get? a = some o' /\ lL o o') : h'.Ns a m :=
 let ⟨o, es, ep, e, d, r⟩ := x; let ⟨o', e', q⟩ := k o e; ⟨o', es, ep, e', q.data.trans d, r⟩
theorem xa {h h' : Heap} {a : Addr} {v : Option Value} (x : h.IsCell a v) (k : ∀ o, h.get? a = some o -> ∃ o', h'.get? a = some o' /\ lL o o') : h'.IsCell a v :=
 let ⟨o, e, d⟩ := x; let ⟨o', e', q⟩ := k o e; ⟨o', e', q.data.trans d⟩
theorem lT.keep {C : Cx} {W W' : Gh} {Z : AV} {env : Env} {h h' : Heap} (F : lT C W Z env h) (l : W.le W') (ko : aJ W h h') (kk : ∀ b o, W b = .kept o -> ∃ o', h'.get? b = some o' /\ lL o o') (kh : ∀ b o, W b = .kept o -> ∃ o', h.get? b = some o' /\ lL o o') : lT C W' Z env h' where
 sc := F.sc
 kind := F.kind
 gl := F.gl
 bi := F.bi
 own := l.own F.own
 ns := let ⟨m, x⟩ := F.ns; ⟨m, yB x fun o e => ko _ _ F.own e⟩
 slot i x k hx := by
  have hs := F.slot i x k hx
  induction k using Kd.casesOn with
  | loc => refine cj hs ?_; clear hs; intro a m x s; exact ⟨a, m, yB x fun o e => ko _ _ F.own e, s.mono l.bM⟩
  | cel => refine bP hs ?_; clear hs; intro a c b d ov x s; exact ⟨a, c, b, l.own d, ov, xa x fun o e => ko _ _ d e, s.mono l.bM⟩
  | cap =>
   refine bP hs ?_; clear hs; intro a c b hn22_3 ov hn22_5 s; obtain ⟨o', d⟩ := hn22_3; obtain ⟨o, e, r⟩ := hn22_5
   refine ae (kh _ _ d) fun o1 e1 q1 => ?_
   refine ae (kk _ _ d) fun o2 e2 q2 => ?_
   rw [e] at e1; cases e1
   exact ⟨a, c, b, ⟨o', l.kept d⟩, ov, ⟨o2, e2, q2.data.trans (q1.data.symm.trans r)⟩, s.mono l.bM⟩
 nodup := F.nodup
 apart := F.apart
 cd := F.cd
noncomputable def cZ (W : Gh) (l : List Env) : Prop := ∀ e ∈ l, e.scope.kind ≠ .module /\ ∃ L, e.frame = some L /\ (W L = .own \/ ∃ o, W L = .kept o /\ fk o)
theorem cZ.le {W W' : Gh} {l : List Env} (h : cZ W l) (w : W.le W') : cZ W' l := fun e he => let ⟨k, L, f, x⟩ := h e he; ⟨k, L, f, x.imp w.own fun ⟨o, a, b⟩ => ⟨o, w.kept a, b⟩⟩
end
section
open PySem PyProof.Rows
inductive R where
 | fail | val (v l : AV) (s : ab)
inductive RS where
 | fail | next (l : AV) (s : ab) | brk (l : AV) (s : ab) | cont (l : AV) (s : ab) | ret (v l : AV) (s : ab)
@[elab_as_elim] theorem R.ve {P : AV -> AV -> ab -> Prop} {a b : AV} {c : ab} {x y : AV} {z : ab} (h : R.val a b c = R.val x y z) (k : P a b c) : P x y z :=
 R.noConfusion h fun e1 e2 e3 => e1 ▸ e2 ▸ e3 ▸ k
noncomputable def R.bind (r : R) (f : AV -> AV -> ab -> R) : R := @R.rec (fun _ => R) .fail f r
noncomputable def R.aX (r : R) (f : AV -> AV -> ab -> RS) : RS := @R.rec (fun _ => RS) .fail f r
noncomputable def RS.bind (r : RS) (f : AV -> ab -> RS) : RS := @RS.rec (fun _ => RS) .fail f .brk .cont .ret r
theorem R.ai {r : R} {f : AV -> AV -> ab -> R} {v l : AV} {s : ab} (h : r.bind f = .val v l s) : ∃ x l1 s1, r = .val x l1 s1 /\ f x l1 s1 = .val v l s := by
 induction r using R.casesOn with
 | fail => exact R.noConfusion h
 | val x l1 s1 => exact ⟨x, l1, s1, rfl, h⟩
noncomputable abbrev CH := Nat -> AV -> ab -> R
noncomputable abbrev DE := CH -> AV -> ab -> R
noncomputable abbrev DS := CH -> AV -> ab -> RS
noncomputable def cP (r : Nat) (A : Around) : Prop := A.depth + r <= 950 /\ A.units + 12 * r <= 9800
noncomputable def aj (W : Gh) (s : Shared) (v : AV) (σ' : ab) (x : Value) (s' : Shared) : Prop :=
 ∃ W', W.le W' /\ Inv W' σ' s' /\ aJ W s.heap s'.heap /\ RV W' v x
noncomputable def mY (W : Gh) (f : Nat) (x : Value) : Prop := (Nat.beq f jJ = false /\ x = .ref (D.fn f).addr) \/ (Nat.beq f jJ = true /\ ∃ a, x = .ref a /\ mH W a)
noncomputable def c4 (r : Nat) (ih : CH) : Prop := ∀ f args σ v l σ', ih f args σ = .val v l σ' -> ∀ (A : Around) W s (x : Value) (pos kwv : List Value), mY W f x -> cP r A -> A.handled = none -> (∃ l, A.frames = some l /\ cZ W l) -> Inv W σ s -> RL W args (pos ++ kwv) ->
 kwv.length = (D.fn f).kw.length ->
 codeAny (model D.prog D.w) A (.call x ⟨pos, (D.fn f).kw.zip kwv⟩) (fun r s' => ∃ x, r = .ok (.ret x) /\ aj W s v σ' x s') s
noncomputable def St (C : Cx) (env : Env) (W : Gh) (Z : AV) (σ : ab) (s : Shared) : Prop := Inv W σ s /\ lT C W Z env s.heap
noncomputable def EPost (C : Cx) (env : Env) (W : Gh) (v Z' : AV) (σ' : ab) (x : Value) (s' : Shared) : Prop := ∃ W', W.le W' /\ St C env W' Z' σ' s' /\ RV W' v x
noncomputable def mh (C : Cx) (env : Env) (W : Gh) (v Z' : AV) (σ' : ab) (x : List Value) (s' : Shared) : Prop := ∃ W', W.le W' /\ St C env W' Z' σ' s' /\ RL W' v x
noncomputable def aO (C : Cx) (env : Env) (W : Gh) : RS -> Flow -> Shared -> Prop
 | .fail, _, _ => True
 | .next Z σ, f, s' => f = .next /\ ∃ W', W.le W' /\ St C env W' Z σ s'
 | .brk Z σ, f, s' => f = .brk /\ ∃ W', W.le W' /\ St C env W' Z σ s'
 | .cont Z σ, f, s' => f = .cont /\ ∃ W', W.le W' /\ St C env W' Z σ s'
 | .ret v Z σ, f, s' => ∃ x, f = .ret x /\ EPost C env W v Z σ x s'
noncomputable def No : Value -> Shared -> Prop := fun _ _ => False
structure Pre (C : Cx) (lv : Nat) (r : Nat) (ih : CH) (A : Around) (env : Env) (W : Gh) (Z : AV) (σ : ab) (s : Shared) : Prop where
 lv1 : 1 <= lv
 ok : c4 r ih
 room : cP (r + lv) A
 hn : C.q = true -> A.handled = none
 frs : ∃ f l, A.frames = some (f :: l) /\ cZ W (f :: l) /\ (C.t = true -> f = env)
 st : St C env W Z σ s
noncomputable def aS (C : Cx) (lv : Nat) (e : Expr) (d : DE) : Prop := ∀ r ih A env W Z σ s, Pre C lv r ih A env W Z σ s -> ∀ v Z' σ', d ih Z σ = .val v Z' σ' ->
 wpAny (model D.prog D.w) A (eval e env) (EPost C env W v Z' σ') No s
noncomputable def yH (C : Cx) (lv : Nat) (e : Expr) (d : DE) : Prop := ∀ r ih A env W Z σ s, Pre C lv r ih A env W Z σ s -> ∀ v Z' σ', d ih Z σ = .val v Z' σ' ->
 wpAny (model D.prog D.w) A (isTrue e env (eval e env)) (fun b s' => ∃ W', W.le W' /\ St C env W' Z' σ' s' /\ v = .bool b) No s
noncomputable def jZ (C : Cx) (lv : Nat) (es : List Expr) (d : DE) : Prop := ∀ r ih A env W Z σ s, Pre C lv r ih A env W Z σ s -> ∀ v Z' σ', d ih Z σ = .val v Z' σ' ->
 ∀ pos, wpAny (model D.prog D.w) A (spliced (backTo pos (starEach es env))) (mh C env W v Z' σ') No s
noncomputable def hM (C : Cx) (lv : Nat) (st : Stmt) (d : DS) : Prop := ∀ r ih A env W Z σ s, Pre C lv r ih A env W Z σ s -> d ih Z σ ≠ .fail ->
 wpAny (model D.prog D.w) A (exec st env) (aO C env W (d ih Z σ)) No s
noncomputable def dR (C : Cx) (lv : Nat) (b : List Stmt) (d : DS) : Prop := ∀ r ih A env W Z σ s, Pre C lv r ih A env W Z σ s -> d ih Z σ ≠ .fail ->
 wpAny (model D.prog D.w) A (execs b env) (aO C env W (d ih Z σ)) No s
variable {C : Cx} {lv : Nat}
theorem Pre.next {r : Nat} {ih : CH} {A : Around} {env : Env} {W W' : Gh} {Z Z' : AV} {σ σ' : ab} {s s' : Shared} (P : Pre C lv r ih A env W Z σ s) (h : St C env W' Z' σ' s') (w : W.le W' := by first | assumption | exact Gh.le.refl _ | (refine Gh.le.trans (by assumption) ?_; first | assumption | (refine Gh.le.trans (by assumption) ?_; first | assumption | (refine Gh.le.trans (by assumption) ?_; first | assumption | (refine Gh.le.trans (by assumption) ?_; assumption))))) : Pre C lv r ih A env W' Z' σ' s' :=
 ⟨P.lv1, P.ok, P.room, P.hn, let ⟨f, l, a, b, c⟩ := P.frs; ⟨f, l, a, b.le w, c⟩, h⟩
theorem St.value {env : Env} {W W' : Gh} {Z : AV} {σ σ' : ab} {s s' : Shared} (h : St C env W Z σ s) (l : W.le W') (I : Inv W' σ' s') (k : aJ W s.heap s'.heap) : St C env W' Z σ' s' :=
 ⟨I, h.2.keep l k (fun b o e => I.kept b o (l.kept e)) h.1.kept⟩
theorem aj.frame {env : Env} {W W₀ : Gh} {Z v : AV} {σ σ' : ab} {s s' : Shared} {x : Value} (h : St C env W Z σ s) (l₀ : W₀.le W) (p : aj W s v σ' x s') : EPost C env W₀ v Z σ' x s' :=
 let ⟨W', l, I, k, r⟩ := p; ⟨W', l₀.trans l, h.value l I k, r⟩
theorem aO.up {env : Env} {W W' : Gh} (l : W.le W') {r : RS} {f : Flow} {s' : Shared} (h : aO C env W' r f s') : aO C env W r f s' := by
 induction r using RS.casesOn with
 | fail => trivial
 | next Z σ => exact ⟨h.1, let ⟨W'', l', x⟩ := h.2; ⟨W'', l.trans l', x⟩⟩
 | brk Z σ => exact ⟨h.1, let ⟨W'', l', x⟩ := h.2; ⟨W'', l.trans l', x⟩⟩
 | cont Z σ => exact ⟨h.1, let ⟨W'', l', x⟩ := h.2; ⟨W'', l.trans l', x⟩⟩
 | ret v Z σ => exact let ⟨x, e, W'', l', y⟩ := h; ⟨x, e, W'', l.trans l', y⟩
theorem Pre.op {r : Nat} {ih : CH} {A : Around} {env : Env} {W : Gh} {Z : AV} {σ : ab} {s : Shared} (P : Pre C lv r ih A env W Z σ s) : cP 1 A :=
 ⟨by have := P.room.1; have := P.lv1; lia, by have := P.room.2; have := P.lv1; lia⟩
noncomputable def Ep : DE := fun _ _ _ => .fail
noncomputable def vj : DS := fun _ _ _ => .fail
theorem hY {e : Expr} : aS C lv e Ep := fun _ _ _ _ _ _ _ _ _ _ _ _ h => R.noConfusion h
theorem lI {st : Stmt} : hM C lv st vj := fun _ _ _ _ _ _ _ _ _ h => absurd rfl h
theorem ya {b : List Stmt} : dR C lv b vj := fun _ _ _ _ _ _ _ _ _ h => absurd rfl h
noncomputable def dK (v : AV) : DE := fun _ Z σ => .val v Z σ
theorem av {i : Int} {k : Nat} {pos : Pos} : aS C lv (.Constant (.int i) k pos) (dK (.int i)) := fun _ _ _ _ W Z σ s P v Z' σ' h => by
 refine R.ve h ?_
 exact wpAny_Constant_int ⟨W, .refl W, ⟨P.st.1.tok _, P.st.2⟩, .int _ _⟩
theorem dw {k : Nat} {pos : Pos} : aS C lv (.Constant .none k pos) (dK .none) := fun _ _ _ _ W Z σ s P v Z' σ' h => by
 refine R.ve h ?_
 exact wpAny_pure ⟨W, .refl W, P.st, .none⟩
theorem fj {b : Bool} {k : Nat} {pos : Pos} : aS C lv (.Constant (.bool b) k pos) (dK (.bool b)) := fun _ _ _ _ W Z σ s P v Z' σ' h => by
 refine R.ve h ?_
 exact wpAny_pure ⟨W, .refl W, P.st, .bool _⟩
theorem BN {x : Str} {k n c : Nat} {pos : Pos} (hx : toS n c = x) (hc : (Nat.blt c (256 ^ n) && Nat.ble n 1048576) = true) : aS C lv (.Constant (.str x) k pos) (dK (.str n c)) := fun _ _ _ _ W Z σ s P v Z' σ' h => by
 refine R.ve h ?_
 subst hx
 exact wpAny_Constant_str ⟨W, .refl W, ⟨P.st.1.tok _, P.st.2⟩, .str _ _ _ (Nat.blt_eq.mp (Bool.and_eq_true_iff.mp hc).1) (Nat.le_of_ble_eq_true (Bool.and_eq_true_iff.mp hc).2)⟩
noncomputable def AV.F8 (v : AV) (r : R) : R :=
 @AV.rec (fun _ => R) .fail r (fun _ => r) (fun _ => r) (fun _ _ => r) (fun _ => r) (fun _ => r) (fun _ => r) (fun _ _ _ => r) (fun _ _ _ => r) (fun _ _ _ => r) (fun _ _ => r) (fun _ _ => r) (fun _ _ => r) (fun _ => r) (fun _ => r) r (fun _ _ _ _ => r) (fun _ _ _ _ _ _ => r) v
theorem AV.wo {v : AV} {r : R} {x l : AV} {s : ab} (h : v.F8 r = .val x l s) : v ≠ .undef /\ r = .val x l s := by
 induction v using AV.casesOn <;> first | exact R.noConfusion h | exact ⟨fun e => AV.noConfusion e, h⟩
noncomputable def AV.A8 (v : AV) (k : AV -> R) : R := @AV.rec (fun _ => R) .fail (k AV.none) (fun x0 => k (AV.bool x0)) (fun x0 => k (AV.int x0)) (fun x0 x1 => k (AV.str x0 x1)) (fun x0 => k (AV.ty x0)) (fun x0 => k (AV.glob x0)) (fun x0 => k (AV.ref x0)) (fun x0 x1 _ => k (AV.tup x0 x1)) (fun x0 x1 _ => k (AV.lst x0 x1)) (fun x0 x1 _ => k (AV.dct x0 x1)) (fun x0 x1 => k (AV.fset x0 x1)) (fun x0 _ => k (AV.vals x0)) (fun x0 x1 => k (AV.rng x0 x1)) (fun x0 => k (AV.lam x0)) (fun x0 => k (AV.nxt x0)) (k AV.nil) (fun x0 x1 _ _ => k (AV.cons x0 x1)) (fun x0 x1 x2 x3 _ _ => k (AV.ent x0 x1 x2 x3)) v
theorem AV.vR {v : AV} {k : AV -> R} {x l : AV} {s : ab} (h : v.A8 k = .val x l s) : v ≠ .undef /\ k v = .val x l s := by
 induction v using AV.casesOn <;> first | exact R.noConfusion h | exact ⟨fun e => AV.noConfusion e, h⟩
noncomputable def AV.Dq (i : Nat) : AV -> (AV -> R) -> R := @Nat.rec (fun _ => AV -> (AV -> R) -> R)
 (fun l k => AV.fB (β := R) .fail (fun a _ => k a) l)
 (fun _ ih l k => AV.fB (β := R) .fail (fun _ t => ih t k) l) i
theorem AV.sJ : ∀ (i : Nat) {l : AV} {k : AV -> R} {x m : AV} {s : ab}, AV.Dq i l k = .val x m s -> k (l.bB i) = .val x m s
 | 0, l, k, x, m, s, h => by induction l using AV.casesOn <;> first | exact R.noConfusion h | exact h
 | i + 1, l, k, x, m, s, h => by
  induction l using AV.casesOn <;> first | exact R.noConfusion h | skip
  exact AV.sJ i h
noncomputable def AV.at (l : AV) (i : Nat) (k : AV -> R) : R := AV.Dq i l fun v => v.A8 k
theorem AV.jr {l : AV} {i : Nat} {k : AV -> R} {x m : AV} {s : ab} (h : l.at i k = .val x m s) : l.bB i ≠ .undef /\ k (l.bB i) = .val x m s := AV.vR (AV.sJ i h)
noncomputable def dN (i : Nat) : DE := fun _ Z σ => Z.at i fun v => .val v Z σ
inductive ar : List (Str × Kd) -> Nat -> Str -> Kd -> Prop
 | here {x : Str} {k : Kd} {t : List (Str × Kd)} : ar ((x, k) :: t) 0 x k
 | there {x y : Str} {k l : Kd} {i : Nat} {t : List (Str × Kd)} : ar t i x k -> ar ((y, l) :: t) (i + 1) x k
theorem ar.get {ns : List (Str × Kd)} {i : Nat} {x : Str} {k : Kd} (h : ar ns i x k) : ns[i]? = some (x, k) := by
 induction h with
 | here => rfl
 | there _ ih => simpa using ih
theorem Slot.val {W : Gh} {v : AV} {x : Option Value} (h : Slot W v x) (hn : v ≠ .undef) : ∃ y, x = some y /\ RV W v y := h.resolve_left hn
theorem je {x : Str} {i : Nat} {k : Kd} (ha : ar C.ns i x k) {M : Model} {A : Around} {E : Value -> Shared -> Prop} {env : Env} {W : Gh} {Z : AV} {σ : ab} {s : Shared} (T : St C env W Z σ s) (hu : Z.bB i ≠ .undef) :
  wpAny M A (loadName env x) (EPost C env W (Z.bB i) Z σ) E s := by
 have F := T.2
 have hk : env.scope.kind = .function := by refine aa F.sc ?_; exact F.kind
 have hs := F.slot i x k ha.get
 induction k using Kd.casesOn with
 | loc =>
  refine cj hs ?_; clear hs; intro hl m hm hs
  refine ae (hs.val hu) fun y e r => ?_
  exact wpAny_loadName_local hk (by unfold Env.kindOf; refine aa F.sc ?_; exact hl) hm e ⟨W, .refl W, T, r⟩
 | cel =>
  refine bP hs ?_; clear hs; intro hl c hc _ ov hov hs
  refine ae (hs.val hu) fun y q1 r => ?_; obtain rfl := q1
  exact wpAny_loadName_cell hk (by unfold Env.kindOf; refine aa F.sc ?_; exact hl) hc hov ⟨W, .refl W, T, r⟩
 | cap =>
  refine bP hs ?_; clear hs; intro hl c hc _ ov hov hs
  refine ae (hs.val hu) fun y q1 r => ?_; obtain rfl := q1
  rcases hl with hl | ⟨hl, hl'⟩
  ·exact wpAny_loadName_cell hk (by unfold Env.kindOf; refine aa F.sc ?_; exact hl) hc hov ⟨W, .refl W, T, r⟩
  ·exact wpAny_loadName_free hk (by unfold Env.kindOf; refine aa F.sc ?_; exact hl) hc hov ⟨W, .refl W, T, r⟩ hl'
theorem Br {i : Nat} {ih : CH} {Z v Z' : AV} {σ σ' : ab} (h : dN i ih Z σ = .val v Z' σ') : Z.bB i ≠ .undef /\ v = Z.bB i /\ Z' = Z /\ σ' = σ := by
 refine ba (AV.jr h) fun hu h => ?_
 refine R.ve h ?_
 exact ⟨hu, rfl, rfl, rfl⟩
theorem zB {x : Str} {i : Nat} {k : Kd} {pos : Pos} (ha : ar C.ns i x k) (hd : (x == ("__debug__" : Str)) = false) : aS C lv (.Name x pos) (dN i) := fun r ih A env W Z σ s P v Z' σ' h => by
 refine eR (Br h) fun hu q1 q2 q3 => ?_; refine aa q1 ?_; refine aa q2 ?_; refine aa q3 ?_
 exact wpAny_Name (je ha P.st hu) hd
end
section
open PySem PyProof.Rows
variable {C : Cx} {lv : Nat}
theorem AV.tj (l : AV) : (∃ a t, l = .cons a t) \/ (∀ n, l.bB n = .undef) /\ ∀ v n, l.put v n = .nil := by
 induction l using AV.casesOn <;> first | exact .inl ⟨_, _, rfl⟩ | exact .inr ⟨fun _ => rfl, fun _ _ => rfl⟩
theorem AV.fy (v : AV) : ∀ (i j : Nat) (l : AV), j ≠ i -> (l.put v i).bB j = l.bB j \/ (l.put v i).bB j = .undef
 | i, j, l, h => by
  rcases l.tj with ⟨a, t, rfl⟩ | ⟨_, e⟩
  ·induction i using Nat.casesOn with
   | zero => induction j using Nat.casesOn with
    | zero => exact absurd rfl h
    | succ j => exact .inl rfl
   | succ i => induction j using Nat.casesOn with
    | zero => exact .inl rfl
    | succ j => exact fy v i j t fun e => h (congrArg Nat.succ e)
  ·rw [e]; exact .inr rfl
theorem AV.ic (v : AV) : ∀ (i : Nat) (l : AV), (l.put v i).bB i = v \/ (l.put v i).bB i = .undef
 | i, l => by
  rcases l.tj with ⟨a, t, rfl⟩ | ⟨_, e⟩
  ·induction i using Nat.casesOn with
   | zero => exact .inl rfl
   | succ i => exact ic v i t
  ·rw [e]; exact .inr rfl
theorem ue {h : Heap} {a : Addr} {m m' : Str -> Option Value} (x : h.Ns a m) (y : h.Ns a m') : m = m' := by
 refine iK x ?_; clear x; intro o es ep e d _ f
 refine iK y ?_; clear y; intro o' es' ep' e' d' _ f'
 rw [e] at e'; cases e'
 rw [d] at d'; cases d'
 funext n
 refine bw (f n) ?_; exact aa (f' n) rfl
theorem fJ {h : Heap} {a : Addr} {m : Str -> Option Value} {ov : Option Value} (x : h.Ns a m) (y : h.IsCell a ov) : False := by
 refine iK x ?_; clear x; intro o es ep e d _ f
 refine ae y ?_; clear y; intro o' e' d'
 rw [e] at e'; cases e'
 rw [d] at d'; cases d'
theorem Inv.Bn {W : Gh} {σ : ab} {s : Shared} {h' : Heap} {t : Nat} {a : Addr} (I : Inv W σ s) (ho : W a = .own) (hs : Heap.SameBut a s.heap h') (hx : ∃ o, h'.get? a = some o /\ fk o) : Inv W σ { s with heap := h', toks := t } :=
 I.BA (fun b o _ hb e => (hs.2 b (by rintro rfl; exact hb ho)).trans e) fun b hb => by
  by_cases q : b = a
  ·refine aa q ?_; exact hx
  ·refine ae (I.own b hb) fun o e k => ?_; exact ⟨o, (hs.2 b q).trans e, k⟩
theorem ar.ne {ns : List (Str × Kd)} {i j : Nat} {x y : Str} {k l : Kd} (h : ar ns i x k) (hy : ns[j]? = some (y, l)) (hn : (ns.map (·.1)).Nodup) (hj : j ≠ i) : y ≠ x := by
 rintro rfl
 have h1 : (ns.map (·.1))[i]? = some y := by refine aa (List.getElem?_map) ?_; refine aa h.get ?_; rfl
 have h2 : (ns.map (·.1))[j]? = some y := by refine aa (List.getElem?_map) ?_; refine aa hy ?_; rfl
 exact hj ((List.getElem?_inj (List.getElem?_eq_some_iff.mp h2).1 hn).mp (h2.trans h1.symm))
theorem cO {x : Str} {i : Nat} {k : Kd} {env : Env} {W : Gh} {Z v : AV} {σ : ab} {s : Shared} {y : Value} {M : Model} {A : Around} {E : Value -> Shared -> Prop} {Q : Unit -> Shared -> Prop}
  (ha : ar C.ns i x k) (hk : k ≠ .cap) (T : St C env W Z σ s) (r : RV W v y) (h : ∀ s', St C env W (Z.put v i) σ s' -> Q () s') : wpAny M A (storeName env x y) Q E s := by
 have F := T.2
 have hkf : env.scope.kind = .function := by refine aa F.sc ?_; exact F.kind
 have hsc : ∀ z, env.kindOf z = C.sc.names.lookup z := fun z => by unfold Env.kindOf; exact aa F.sc rfl
 have hs := F.slot i x k ha.get
 have one : ∀ j z l, C.ns[j]? = some (z, l) -> j ≠ i -> (Z.put v i).bB j = Z.bB j \/ (Z.put v i).bB j = .undef := fun j z l _ hj => AV.fy v i j Z hj
 induction k using Kd.casesOn with
 | cap => exact absurd rfl hk
 | loc =>
  refine cj hs ?_; clear hs; intro hl m hm _
  refine wpAny_storeName_local (by rw [hsc]; exact hl) hm (fun h' hn hb => h _ ⟨T.1.Bn F.own hb (let ⟨o, es, ep, e, d, _⟩ := hn; ⟨o, e, .inl ⟨es, ep, d⟩⟩), ?_⟩) (by refine aa hkf ?_; rfl)
  refine ⟨F.sc, F.kind, F.gl, F.bi, F.own, ⟨_, hn⟩, fun j z l hj => ?_, F.nodup, F.apart, F.cd⟩
  by_cases hji : j = i
  ·subst hji
   rw [ha.get] at hj; cases hj
   refine ⟨hl, _, hn, ?_⟩
   rcases AV.ic v j Z with e | e <;> refine aa e ?_
   ·exact .inr ⟨y, by simp, r⟩
   ·exact .inl rfl
  ·have hz := ha.ne hj F.nodup hji
   have hs := F.slot j z l hj
   have un : ∀ {u : AV} {w : Option Value}, Slot W (Z.bB j) w -> u = (Z.put v i).bB j -> Slot W u w := fun hsl e => by
    rcases one j z l hj hji with e' | e' <;> rw [e, e']
    ·exact hsl
    ·exact .inl rfl
   induction l using Kd.casesOn with
   | loc =>
    refine cj hs ?_; clear hs; intro hl' m' hm' hsl
    obtain rfl := ue hm hm'
    exact ⟨hl', _, hn, by simp only [if_neg hz]; exact un hsl rfl⟩
   | cel =>
    refine bP hs ?_; clear hs; intro hl' c hc ho ov hov hsl
    exact ⟨hl', c, hc, ho, ov, hov.sameBut hb (by rintro rfl; exact fJ hm hov), un hsl rfl⟩
   | cap =>
    refine bP hs ?_; clear hs; intro hl' c hc hn10_3 ov hov hsl; obtain ⟨o, ho⟩ := hn10_3
    exact ⟨hl', c, hc, ⟨o, ho⟩, ov, hov.sameBut hb (by rintro rfl; exact fJ hm hov), un hsl rfl⟩
 | cel =>
  refine bP hs ?_; clear hs; intro hl c hc ho ov hov _
  refine wpAny_storeName_cell hkf (by rw [hsc]; exact hl) hc hov fun h' hv hb => h _ ⟨T.1.Bn ho hb (let ⟨o, e, d⟩ := hv; ⟨o, e, .inr ⟨_, d⟩⟩), ?_⟩
  refine bI (F.ns) fun m hm => ?_
  have hne : env.locals ≠ c := by rintro rfl; exact fJ hm hov
  refine ⟨F.sc, F.kind, F.gl, F.bi, F.own, ⟨m, hm.sameBut hb hne⟩, fun j z l hj => ?_, F.nodup, F.apart, F.cd⟩
  by_cases hji : j = i
  ·subst hji
   rw [ha.get] at hj; cases hj
   refine ⟨hl, c, hc, ho, _, hv, ?_⟩
   rcases AV.ic v j Z with e | e <;> refine aa e ?_
   ·exact .inr ⟨y, rfl, r⟩
   ·exact .inl rfl
  ·have hz := ha.ne hj F.nodup hji
   have hs := F.slot j z l hj
   have un : ∀ {u : AV} {w : Option Value}, Slot W (Z.bB j) w -> u = (Z.put v i).bB j -> Slot W u w := fun hsl e => by
    rcases one j z l hj hji with e' | e' <;> rw [e, e']
    ·exact hsl
    ·exact .inl rfl
   induction l using Kd.casesOn with
   | loc =>
    refine cj hs ?_; clear hs; intro hl' m' hm' hsl
    exact ⟨hl', m', hm'.sameBut hb hne, un hsl rfl⟩
   | cel =>
    refine bP hs ?_; clear hs; intro hl' c' hc' ho' ov' hov' hsl
    exact ⟨hl', c', hc', ho', ov', hov'.sameBut hb (by rintro rfl; exact hz (F.apart _ _ _ hc' hc)), un hsl rfl⟩
   | cap =>
    refine bP hs ?_; clear hs; intro hl' c' hc' hn15_3 ov' hov' hsl; obtain ⟨o, ho'⟩ := hn15_3
    exact ⟨hl', c', hc', ⟨o, ho'⟩, ov', hov'.sameBut hb (by rintro rfl; rw [ho] at ho'; cases ho'), un hsl rfl⟩
noncomputable def dU (d : DS) (e : DS) : DS := fun ih Z σ => (d ih Z σ).bind fun Z σ => e ih Z σ
noncomputable def AZ : DS := fun _ Z σ => .next Z σ
theorem bn : dR C lv [] AZ := fun r ih A env W Z σ s P _ => wpAny_execs_nil ⟨rfl, W, .refl W, P.st⟩
theorem bc {st : Stmt} {b : List Stmt} {d e : DS} (h1 : hM C lv st d) (h2 : dR C lv b e) : dR C lv (st :: b) (dU d e) := fun r ih A env W Z σ s P h => by
 have hd : d ih Z σ ≠ .fail := fun x => h (by show RS.bind _ _ = _; refine aa x ?_; rfl)
 refine wpAny_execs_cons (wpAny_mono (h1 r ih A env W Z σ s P hd) (fun f s' hf => ?_) fun _ _ x => x)
 have hg : dU d e ih Z σ = (d ih Z σ).bind fun Z σ => e ih Z σ := rfl
 rw [hg] at h ⊢
 cases hr : d ih Z σ with
 | fail => exact absurd hr hd
 | next Z' σ' =>
  rw [hr] at hf h
  refine cj hf ?_; clear hf; intro q0 W' l T; obtain rfl := q0
  exact wpAny_mono (h2 r ih A env W' Z' σ' s' (P.next T) h) (fun _ _ x => x.up l) fun _ _ x => x
 | brk Z' σ' => rw [hr] at hf; refine ba hf ?_; clear hf; intro q0 x; obtain rfl := q0; exact ⟨rfl, x⟩
 | cont Z' σ' => rw [hr] at hf; refine ba hf ?_; clear hf; intro q0 x; obtain rfl := q0; exact ⟨rfl, x⟩
 | ret v Z' σ' => rw [hr] at hf; refine ae hf ?_; clear hf; intro x q1 y; obtain rfl := q1; exact ⟨x, rfl, y⟩
noncomputable def AV.yE (v : AV) (t f : RS) : RS :=
 AV.cBool (β := RS) .fail (fun b => @Bool.rec (fun _ => RS) f t b) v
theorem AV.oQ (b : Bool) (t f : RS) : (AV.bool b).yE t f = bif b then t else f := by induction b using Bool.casesOn <;> rfl
noncomputable def GR (c : DE) (a b : DS) : DS := fun ih Z σ => (c ih Z σ).aX fun v Z σ => v.yE (a ih Z σ) (b ih Z σ)
theorem fZ {r : R} {f : AV -> AV -> ab -> RS} (h : r.aX f ≠ .fail) : ∃ x l1 s1, r = .val x l1 s1 /\ r.aX f = f x l1 s1 /\ f x l1 s1 ≠ .fail := by
 induction r using R.casesOn with
 | fail => exact absurd rfl h
 | val x l1 s1 => exact ⟨x, l1, s1, rfl, rfl, h⟩
theorem aW {r : R} {f : AV -> AV -> ab -> RS} {P : RS -> Prop} (h : r.aX f ≠ .fail) (k : ∀ x l1 s1, r = .val x l1 s1 -> f x l1 s1 ≠ .fail -> P (f x l1 s1)) : P (r.aX f) := by
 induction r using R.casesOn with
 | fail => exact absurd rfl h
 | val x l1 s1 => exact k x l1 s1 rfl h
theorem aI {c : Expr} {a b : List Stmt} {pos : Pos} {dc : DE} {da db : DS} (h1 : yH C lv c dc) (h2 : dR C lv a da) (h3 : dR C lv b db) : hM C lv (.If c a b pos) (GR dc da db) := fun r ih A env W Z σ s P h => by
 refine aW (P := fun r => wpAny _ _ _ (aO C env W r) _ _) h fun v l1 s1 e1 e3 => ?_
 refine wpAny_If (wpAny_mono (h1 r ih A env W Z σ s P v l1 s1 e1) (fun b s' hb => ?_) fun _ _ x => x)
 refine af hb ?_; clear hb; intro W' l T q3; obtain rfl := q3
 rw [AV.oQ] at e3 ⊢
 induction b using Bool.casesOn with
 | true => exact wpAny_mono (h2 r ih A env W' l1 s1 s' (P.next T) e3) (fun _ _ x => x.up l) fun _ _ x => x
 | false => exact wpAny_mono (h3 r ih A env W' l1 s1 s' (P.next T) e3) (fun _ _ x => x.up l) fun _ _ x => x
noncomputable def F3 (d : DE) : DS := fun ih Z σ => (d ih Z σ).aX fun v Z σ => .ret v Z σ
theorem aG {e : Expr} {pos : Pos} {d : DE} (h1 : aS C lv e d) : hM C lv (.Return (some e) pos) (F3 d) := fun r ih A env W Z σ s P h => by
 refine aW (P := fun r => wpAny _ _ _ (aO C env W r) _ _) h fun v l1 s1 e1 e3 => ?_
 exact wpAny_Return_some (wpAny_mono (h1 r ih A env W Z σ s P v l1 s1 e1) (fun x s' hx => ⟨x, rfl, hx⟩) fun _ _ x => x)
noncomputable def Gi : DS := fun _ Z σ => .brk Z σ
noncomputable def Fe : DS := fun _ Z σ => .cont Z σ
theorem mv {pos : Pos} : hM C lv (.Break pos) Gi := fun r ih A env W Z σ s P h => wpAny_Break ⟨rfl, W, .refl W, P.st⟩
theorem ni {pos : Pos} : hM C lv (.Continue pos) Fe := fun r ih A env W Z σ s P h => wpAny_Continue ⟨rfl, W, .refl W, P.st⟩
noncomputable def AV.qD (i : Nat) (v : AV) : AV -> (AV -> RS) -> RS := @Nat.rec (fun _ => AV -> (AV -> RS) -> RS)
 (fun l k => AV.fB (β := RS) .fail (fun _ t => k (.cons v t)) l)
 (fun _ ih l k => AV.fB (β := RS) .fail (fun a t => ih t fun t => k (.cons a t)) l) i
theorem AV.jW (v : AV) : ∀ (i : Nat) {l : AV} {k : AV -> RS}, AV.qD i v l k ≠ .fail -> AV.qD i v l k = k (l.put v i)
 | 0, l, k, h => by induction l using AV.casesOn <;> first | exact absurd rfl h | rfl
 | i + 1, l, k, h => by
  induction l using AV.casesOn <;> first | exact absurd rfl h | skip
  exact AV.jW v i h
theorem rd {i : Nat} {v l : AV} {k : AV -> RS} {P : RS -> Prop} (h : AV.qD i v l k ≠ .fail) (q : k (l.put v i) ≠ .fail -> P (k (l.put v i))) : P (AV.qD i v l k) :=
 (AV.jW v i h).symm ▸ q (AV.jW v i h ▸ h)
noncomputable def Ap (i : Nat) (d : DE) : DS := fun ih Z σ => (d ih Z σ).aX fun v Z σ => AV.qD i v Z fun Z => .next Z σ
theorem yO {x : Str} {i : Nat} {k : Kd} {px pos : Pos} {e : Expr} {d : DE} (ha : ar C.ns i x k) (hk : k ≠ .cap) (h1 : aS C lv e d) (hs : ∀ env, swapsWith e (some (.Name x px)) pos.line env = pure false) :
  hM C lv (.Assign [.Name x px] e pos) (Ap i d) := fun r ih A env W Z σ s P h => by
 refine aW (P := fun r => wpAny _ _ _ (aO C env W r) _ _) h fun v l1 s1 e1 e3 => ?_
 refine rd (P := fun r => wpAny _ _ _ (aO C env W r) _ _) e3 fun _ => ?_
 refine wpAny_Assign_Name (wpAny_mono (h1 r ih A env W Z σ s P v l1 s1 e1) (fun y s' hy => ?_) fun _ _ x => x) (hs env)
 refine af hy ?_; clear hy; intro W' l T rv
 exact cO ha hk T rv fun s'' T' => ⟨rfl, W', l, T'⟩
end
section
open PySem PyProof.Rows
noncomputable def AV.dM (v : AV) (k : Int -> R) : R :=
 AV.cInt (β := R) .fail k v
noncomputable def AV.onStr (v : AV) (k : Nat -> Nat -> R) : R :=
 AV.cStr (β := R) .fail k v
noncomputable def AV.qC (v : AV) (k : Bool -> R) : R :=
 AV.cBool (β := R) .fail k v
noncomputable def AV.fA (v : AV) (k : Nat -> R) : R :=
 AV.jO (β := R) .fail k v
noncomputable def AV.wC (v : AV) (k : Nat -> Nat -> R) : R :=
 AV.tB (β := R) .fail k v
noncomputable def AV.cM (v : AV) (z : R) (k : AV -> AV -> R) : R :=
 AV.pM (β := R) (AV.fB (β := R) .fail (fun x0_ x1_ => k x0_ x1_) v) z v
noncomputable def AO.eg (o : AO) (k : Nat -> AV -> R) : R :=
 @AO.rec (fun _ => R) k (fun _ _ _ => .fail) (fun _ _ => .fail) .fail (fun _ _ => .fail) (fun _ => .fail) (fun _ _ => .fail) o
noncomputable def AO.rF (o : AO) (k : Nat -> Nat -> AV -> R) : R :=
 @AO.rec (fun _ => R) (fun _ _ => .fail) k (fun _ _ => .fail) .fail (fun _ _ => .fail) (fun _ => .fail) (fun _ _ => .fail) o
noncomputable def AO.onSet (o : AO) (k : Nat -> AV -> R) : R :=
 @AO.rec (fun _ => R) (fun _ _ => .fail) (fun _ _ _ => .fail) k .fail (fun _ _ => .fail) (fun _ => .fail) (fun _ _ => .fail) o
noncomputable def AO.nI (o : AO) (k : Nat -> AV -> R) : R :=
 @AO.rec (fun _ => R) (fun _ _ => .fail) (fun _ _ _ => .fail) (fun _ _ => .fail) .fail k (fun _ => .fail) (fun _ _ => .fail) o
noncomputable def AO.wi (o : AO) (k : AV -> R) : R :=
 @AO.rec (fun _ => R) (fun _ _ => .fail) (fun _ _ _ => .fail) (fun _ _ => .fail) .fail (fun _ _ => .fail) k (fun _ _ => .fail) o
noncomputable def AO.rS (o : AO) (k : AV -> Nat -> R) : R :=
 @AO.rec (fun _ => R) (fun _ _ => .fail) (fun _ _ _ => .fail) (fun _ _ => .fail) .fail (fun _ _ => .fail) (fun _ => .fail) k o
noncomputable def AV.dP (σ : ab) (v : AV) (k : Nat -> AV -> R) : R :=
 AV.jO (β := R) (AV.vo (β := R) .fail (fun x0_ x1_ => k x0_ x1_) v) (fun i => (σ.look i).eg k) v
section
variable {v a l : AV} {s : ab}
theorem AV.bQ {a : AV} {k : Int -> R} (h : a.dM k = .val v l s) : ∃ x, a = .int x /\ k x = .val v l s := AV.r7 h fun e => R.noConfusion e
theorem AV.aZ {a : AV} {k : Nat -> Nat -> R} (h : a.onStr k = .val v l s) : ∃ x y, a = .str x y /\ k x y = .val v l s := AV.ti h fun e => R.noConfusion e
theorem AV.mr {a : AV} {k : Bool -> R} (h : a.qC k = .val v l s) : ∃ x, a = .bool x /\ k x = .val v l s := AV.qc h fun e => R.noConfusion e
theorem AV.cu {a : AV} {k : Nat -> R} (h : a.fA k = .val v l s) : ∃ x, a = .ref x /\ k x = .val v l s := AV.tf h fun e => R.noConfusion e
theorem AV.uq {a : AV} {k : Nat -> Nat -> R} (h : a.wC k = .val v l s) : ∃ x y, a = .fset x y /\ k x y = .val v l s := AV.wm h fun e => R.noConfusion e
theorem AV.bz {x : AV} {z : R} {k : AV -> AV -> R} (h : x.cM z k = .val v l s) : (x = .nil /\ z = .val v l s) \/ ∃ a t, x = .cons a t /\ k a t = .val v l s := by
 induction x using AV.casesOn <;> first | exact R.noConfusion h | exact .inl ⟨rfl, h⟩ | exact .inr ⟨_, _, rfl, h⟩
theorem AO.cy {a : AO} {k : Nat -> AV -> R} (h : a.eg k = .val v l s) : ∃ x y, a = .list x y /\ k x y = .val v l s := AO.oZ h fun e => R.noConfusion e
theorem AO.mw {a : AO} {k : Nat -> Nat -> AV -> R} (h : a.rF k = .val v l s) : ∃ x y z, a = .dict x y z /\ k x y z = .val v l s := AO.qg h fun e => R.noConfusion e
theorem AO.yC {a : AO} {k : Nat -> AV -> R} (h : a.onSet k = .val v l s) : ∃ x y, a = .set x y /\ k x y = .val v l s := AO.yK h fun e => R.noConfusion e
theorem AO.jg {a : AO} {k : Nat -> AV -> R} (h : a.nI k = .val v l s) : ∃ x y, a = .inst x y /\ k x y = .val v l s := AO.yt h fun e => R.noConfusion e
theorem AO.uW {a : AO} {k : AV -> R} (h : a.wi k = .val v l s) : ∃ x, a = .node x /\ k x = .val v l s := AO.w7 h fun e => R.noConfusion e
theorem AO.mi {a : AO} {k : AV -> Nat -> R} (h : a.rS k = .val v l s) : ∃ x y, a = .iter x y /\ k x y = .val v l s := AO.xJ h fun e => R.noConfusion e
theorem AV.ct {σ : ab} {x : AV} {k : Nat -> AV -> R} (h : x.dP σ k = .val v l s) : ∃ n c, ((x = .lst n c) \/ (∃ i, x = .ref i /\ σ.At i (.list n c))) /\ k n c = .val v l s := by
 induction x using AV.casesOn <;> first | exact R.noConfusion h | skip
 ·rename_i i
  exact ag (AO.cy h) fun n c e h => ⟨n, c, .inr ⟨i, rfl, ab.aw e fun x => AO.noConfusion x⟩, h⟩
 ·exact ⟨_, _, .inl rfl, h⟩
end
noncomputable def R.guard (b : Bool) (r : R) : R := @Bool.rec (fun _ => R) .fail r b
theorem R.ah {b : Bool} {r : R} {v l : AV} {s : ab} (h : R.guard b r = .val v l s) : b = true /\ r = .val v l s := by
 induction b using Bool.casesOn with
 | false => exact R.noConfusion h
 | true => exact ⟨rfl, h⟩
noncomputable def fits (n : Nat) : Bool := Nat.ble n 1048576
theorem bO {n : Nat} (h : fits n = true) : n <= 1048576 := Nat.le_of_ble_eq_true h
noncomputable def A4 (q : Bool) (sem : Value -> Sem Value) (f : ab -> AV -> (AV -> ab -> R) -> R) : Prop :=
 ∀ σ x k v Z σf, f σ x k = .val v Z σf -> ∃ z σ', k z σ' = .val v Z σf /\ ∀ A W s vx, cP 1 A -> (q = true -> A.handled = none) -> Inv W σ s -> RV W x vx -> wpAny (model D.prog D.w) A (sem vx) (aj W s z σ') No s
noncomputable def fR (q : Bool) (sem : Value -> Value -> Sem Value) (f : ab -> AV -> AV -> (AV -> ab -> R) -> R) : Prop :=
 ∀ σ x y k v Z σf, f σ x y k = .val v Z σf -> ∃ z σ', k z σ' = .val v Z σf /\ ∀ A W s vx vy, cP 1 A -> (q = true -> A.handled = none) -> Inv W σ s -> RV W x vx -> RV W y vy -> wpAny (model D.prog D.w) A (sem vx vy) (aj W s z σ') No s
noncomputable def bx (W : Gh) (s : Shared) (σ' : ab) (s' : Shared) : Prop := ∃ W', W.le W' /\ Inv W' σ' s' /\ aJ W s.heap s'.heap
noncomputable def eI (q : Bool) (op : CmpOp) (f : ab -> AV -> AV -> (Bool -> R) -> R) : Prop :=
 ∀ σ x y k v Z σf, f σ x y k = .val v Z σf -> ∃ b, k b = .val v Z σf /\ ∀ A W s vx vy, cP 1 A -> (q = true -> A.handled = none) -> Inv W σ s -> RV W x vx -> RV W y vy ->
  wpAny (model D.prog D.w) A (compareOp op vx vy) (fun r s' => r = .bool b /\ bx W s σ s') No s
noncomputable def Bb (f : ab -> AV -> (Bool -> R) -> R) : Prop :=
 ∀ σ x k v Z σf, f σ x k = .val v Z σf -> ∃ b, k b = .val v Z σf /\ ∀ A W s vx, cP 1 A -> Inv W σ s -> RV W x vx ->
  wpAny (model D.prog D.w) A (truthy vx) (fun r s' => r = b /\ bx W s σ s') No s
variable {C : Cx} {lv : Nat}
theorem bx.tok {W : Gh} {σ : ab} {s : Shared} (I : Inv W σ s) (t : Nat) : bx W s σ { s with toks := t } := ⟨W, .refl W, I.tok t, aJ.refl W _⟩
theorem aj.tok {W : Gh} {σ : ab} {s : Shared} (I : Inv W σ s) (t : Nat) {v : AV} {x : Value} (r : RV W v x) : aj W s v σ x { s with toks := t } := ⟨W, .refl W, I.tok t, aJ.refl W _, r⟩
noncomputable def o5 (f : ab -> AV -> AV -> (AV -> ab -> R) -> R) (d1 d2 : DE) : DE := fun ih Z σ => (d1 ih Z σ).bind fun x Z σ => (d2 ih Z σ).bind fun y Z σ => f σ x y fun z σ => .val z Z σ
noncomputable def xX (f : ab -> AV -> AV -> (Bool -> R) -> R) (d1 d2 : DE) : DE := fun ih Z σ => (d1 ih Z σ).bind fun x Z σ => (d2 ih Z σ).bind fun y Z σ => f σ x y fun b => .val (.bool b) Z σ
noncomputable def E7 (f : ab -> AV -> (Bool -> R) -> R) (d1 : DE) : DE := fun ih Z σ => (d1 ih Z σ).bind fun x Z σ => f σ x fun b => .val (.bool b) Z σ
theorem bD {op : Operator} {l r : Expr} {pos : Pos} {d1 d2 : DE} {f : ab -> AV -> AV -> (AV -> ab -> R) -> R} (hf : fR C.q (binaryOp op) f) (h1 : aS C lv l d1) (h2 : aS C lv r d2) :
  aS C lv (.BinOp l op r pos) (o5 f d1 d2) := fun rr ih A env W Z σ s P v Z' σ' h => by
 refine ak (R.ai h) fun x l1 s1 e1 h => ?_
 refine ak (R.ai h) fun y l2 s2 e2 h => ?_
 refine ag (hf _ _ _ _ _ _ _ h) fun z s3 h w => ?_
 refine R.ve h ?_
 refine wpAny_BinOp (wpAny_mono (h1 rr ih A env W Z σ s P _ _ _ e1) (fun vx sa ha => ?_) fun _ _ x => x)
 refine af ha ?_; clear ha; intro W1 w1 T1 r1
 refine wpAny_mono (h2 rr ih A env W1 _ _ sa (P.next T1) _ _ _ e2) (fun vy sb hb => ?_) fun _ _ x => x
 refine af hb ?_; clear hb; intro W2 w2 T2 r2
 exact wpAny_mono (w A W2 sb vx vy P.op P.hn T2.1 (r1.mono w2.bM) r2) (fun vz sc hc => hc.frame T2 (w1.trans w2)) fun _ _ x => x
theorem qp {op : CmpOp} {l r : Expr} {d1 d2 : DE} {f : ab -> AV -> AV -> (Bool -> R) -> R} (hf : eI C.q op f) (h1 : aS C lv l d1) (h2 : aS C lv r d2) {rr : Nat} {ih : CH} {A : Around} {env : Env} {W : Gh} {Z : AV} {σ : ab} {s : Shared}
  (P : Pre C lv rr ih A env W Z σ s) {v Z' : AV} {σ' : ab} (h : xX f d1 d2 ih Z σ = .val v Z' σ') :
  ∃ b, v = .bool b /\ wpAny (model D.prog D.w) A (eval l env) (fun a s₁ => wpAny (model D.prog D.w) A (eval r env) (fun c s₂ => wpAny (model D.prog D.w) A (compareOp op a c)
   (fun x s' => x = .bool b /\ ∃ W', W.le W' /\ St C env W' Z' σ' s') No s₂) No s₁) No s := by
 refine ak (R.ai h) fun x l1 s1 e1 h => ?_
 refine ak (R.ai h) fun y l2 s2 e2 h => ?_
 refine ae (hf _ _ _ _ _ _ _ h) fun b h w => ?_
 refine R.ve h ?_
 refine ⟨b, rfl, wpAny_mono (h1 rr ih A env W Z σ s P _ _ _ e1) (fun vx sa ha => ?_) fun _ _ x => x⟩
 refine af ha ?_; clear ha; intro W1 w1 T1 r1
 refine wpAny_mono (h2 rr ih A env W1 _ _ sa (P.next T1) _ _ _ e2) (fun vy sb hb => ?_) fun _ _ x => x
 refine af hb ?_; clear hb; intro W2 w2 T2 r2
 exact wpAny_mono (w A W2 sb vx vy P.op P.hn T2.1 (r1.mono w2.bM) r2) (fun vz sc hc => ⟨hc.1, let ⟨W3, w3, I, k⟩ := hc.2; ⟨W3, (w1.trans w2).trans w3, T2.value w3 I k⟩⟩) fun _ _ x => x
theorem BP {op : CmpOp} {l r : Expr} {pos : Pos} {d1 d2 : DE} {f : ab -> AV -> AV -> (Bool -> R) -> R} (hm : behindInMarks op r = false) (hf : eI C.q op f) (h1 : aS C lv l d1) (h2 : aS C lv r d2) :
  aS C lv (.Compare l [op] [r] pos) (xX f d1 d2) := fun rr ih A env W Z σ s P v Z' σ' h => by
 refine ae (qp hf h1 h2 P h) fun b q1 w => ?_; refine aa q1 ?_
 exact wpAny_Compare1 (wpAny_mono w (fun _ _ w => wpAny_mono w (fun _ _ w => wpAny_mono w (fun x s' hx => by
  refine cj hx ?_; clear hx; intro q0 W' l T; obtain rfl := q0; exact ⟨W', l, T, .bool b⟩) fun _ _ x => x) fun _ _ x => x) fun _ _ x => x) hm
theorem zi {op : CmpOp} {l r : Expr} {pos : Pos} {d1 d2 : DE} {f : ab -> AV -> AV -> (Bool -> R) -> R} (hm : behindInMarks op r = false) (hf : eI C.q op f) (h1 : aS C lv l d1) (h2 : aS C lv r d2) :
  yH C lv (.Compare l [op] [r] pos) (xX f d1 d2) := fun rr ih A env W Z σ s P v Z' σ' h => by
 refine ae (qp hf h1 h2 P h) fun b q1 w => ?_; refine aa q1 ?_
 exact wpAny_isTrue_Compare1 (wpAny_mono w (fun _ _ w => wpAny_mono w (fun _ _ w => wpAny_mono w (fun x s' hx => by
  refine cj hx ?_; clear hx; intro q0 W' l T; obtain rfl := q0; exact wpAny_truthy_bool ⟨W', l, T, rfl⟩) fun _ _ x => x) fun _ _ x => x) fun _ _ x => x) hm
theorem Aq {e : Expr} {d1 : DE} {f : ab -> AV -> (Bool -> R) -> R} (he : ∀ env whole, isTrue e env whole = (do let v <- whole; standAt e.pos; holding [v] (truthy v))) (hf : Bb f) (h1 : aS C lv e d1) :
  yH C lv e (E7 f d1) := fun rr ih A env W Z σ s P v Z' σ' h => by
 refine ak (R.ai h) fun x l1 s1 e1 h => ?_
 refine ae (hf _ _ _ _ _ _ h) fun b h w => ?_
 refine R.ve h ?_
 refine wpAny_isTrue_value (wpAny_mono (h1 rr ih A env W Z σ s P _ _ _ e1) (fun vx sa ha => ?_) fun _ _ x => x) (he _ _)
 refine af ha ?_; clear ha; intro W1 w1 T1 r1
 exact wpAny_mono (w A W1 sa vx P.op T1.1 r1) (fun c sc hc => let ⟨W3, w3, I, k⟩ := hc.2; ⟨W3, w1.trans w3, T1.value w3 I k, by exact aa hc.1 rfl⟩) fun _ _ x => x
noncomputable def Fw (d1 : DE) : DE := fun ih Z σ => (d1 ih Z σ).bind fun x Z σ => x.qC fun b => .val (.bool (@Bool.rec (fun _ => Bool) true false b)) Z σ
theorem AL {e : Expr} {pos : Pos} {d1 : DE} (h1 : yH C lv e d1) : yH C lv (.UnaryOp .Not e pos) (Fw d1) := fun rr ih A env W Z σ s P v Z' σ' h => by
 refine ak (R.ai h) fun x l1 s1 e1 h => ?_
 refine ae (AV.mr h) fun b q1 h => ?_; obtain rfl := q1
 refine R.ve h ?_
 refine wpAny_isTrue_Not (wpAny_mono (h1 rr ih A env W Z σ s P _ _ _ e1) (fun c sa ha => ?_) fun _ _ x => x)
 refine af ha ?_; clear ha; intro W1 w1 T1 r1
 cases r1
 exact ⟨W1, w1, T1, by induction b using Bool.casesOn <;> rfl⟩
noncomputable def EN (i : Nat) (f : ab -> AV -> AV -> (AV -> ab -> R) -> R) (d : DE) : DS := fun ih Z σ => (o5 f (dN i) d ih Z σ).aX fun z Z σ => AV.qD i z Z fun Z => .next Z σ
theorem Ak {x : Str} {i : Nat} {k : Kd} {px pos : Pos} {op : Operator} {e : Expr} {d : DE} {f : ab -> AV -> AV -> (AV -> ab -> R) -> R} (ha : ar C.ns i x k) (hd : (x == ("__debug__" : Str)) = false) (hk : k ≠ .cap) (hf : fR C.q (inplaceOp op) f)
  (h1 : aS C lv e d) : hM C lv (.AugAssign (.Name x px) op e pos) (EN i f d) := fun rr ih A env W Z σ s P hne => by
 refine aW (P := fun r => wpAny _ _ _ (aO C env W r) _ _) hne fun v l3 s3 h e3 => ?_
 refine rd (P := fun r => wpAny _ _ _ (aO C env W r) _ _) e3 fun _ => ?_
 refine ak (R.ai h) fun u l1 s1 eu h => ?_
 refine ak (R.ai h) fun y l2 s2 ey h => ?_
 refine ag (hf _ _ _ _ _ _ _ h) fun z s4 h w => ?_
 refine R.ve h ?_
 refine eR (Br eu) fun hu q1 q2 q3 => ?_; obtain rfl := q1; obtain rfl := q2; obtain rfl := q3
 refine wpAny_AugAssign_Name (wpAny_mono (je ha P.st hu) (fun vx sa ha' => ?_) fun _ _ x => x)
 refine af ha' ?_; clear ha'; intro W1 w1 T1 r1
 refine wpAny_mono (h1 rr ih A env W1 _ _ sa (P.next T1) _ _ _ ey) (fun vy sb hb => ?_) fun _ _ x => x
 refine af hb ?_; clear hb; intro W2 w2 T2 r2
 refine wpAny_mono (w A W2 sb vx vy P.op P.hn T2.1 (r1.mono w2.bM) r2) (fun vz sc hc => ?_) fun _ _ x => x
 refine af (hc.frame T2 (w1.trans w2)) fun W3 w3 T3 r3 => ?_
 exact cO ha hk T3 r3 fun s' T' => ⟨rfl, W3, w3, T'⟩
end
section
open PySem PyProof.Rows
variable {C : Cx} {lv : Nat}
noncomputable def RS.turn (r : RS) (k : AV -> ab -> RS) : RS := @RS.rec (fun _ => RS) .fail k .next k .ret r
noncomputable def xW (c : AV -> ab -> R) (b e : AV -> ab -> RS) (n : Nat) : AV -> ab -> RS :=
 @Nat.rec (fun _ => AV -> ab -> RS) (fun _ _ => .fail) (fun _ ih Z σ => (c Z σ).aX fun v Z σ => v.yE ((b Z σ).turn ih) (e Z σ)) n
noncomputable def rM (N : Nat) (c : DE) (b e : DS) : DS := fun ih Z σ => xW (c ih) (b ih) (e ih) N Z σ
noncomputable def Bw (M : Model) (A : Around) (env : Env) (b : List Stmt) (Q : Flow -> Shared -> Prop) (f : Flow) (s : Shared) : Prop := match f with
 | .next => wpAny M A (execs b env) Q No s
 | f => Q f s
noncomputable def Bf (M : Model) (A : Around) (env : Env) (hs : List ExceptHandler) (Q : Flow -> Shared -> Prop) (e : Value) (s : Shared) : Prop :=
 wpAny M A (noteFrame e env) (fun _ s₂ => wpAny M A (setFlight e none) (fun _ s₃ => wpAny M A (handleBy e env hs) Q No s₃) No s₂) No s
theorem zz {A : Around} {env : Env} {b e : List Stmt} {h₀ : ExceptHandler} {hs : List ExceptHandler} {pos : Pos} {Q : Flow -> Shared -> Prop} {s : Shared} (h : wpAny (model D.prog D.w) A (execs b env) (Bw (model D.prog D.w) A env e Q) (Bf (model D.prog D.w) A env (h₀ :: hs) Q) s) :
  wpAny (model D.prog D.w) A (exec (.Try b (h₀ :: hs) e [] pos) env) Q No s := wpAny_Try_except h
noncomputable def EG (M : Model) (A : Around) (env : Env) (b : List Stmt) (Q : Flow -> Shared -> Prop) (E : Value -> Shared -> Prop) (f : Flow) (s : Shared) : Prop := match f with
 | .next => wpAny M A (execs b env) Q E s
 | f => Q f s
theorem xF {M : Model} {A : Around} {env : Env} {st : Stmt} {b : List Stmt} {Q : Flow -> Shared -> Prop} {E : Value -> Shared -> Prop} {s : Shared} (h : wpAny M A (exec st env) (EG M A env b Q E) E s) : wpAny M A (execs (st :: b) env) Q E s := wpAny_execs_cons h
theorem aO.yg {env : Env} {W W0 : Gh} {r : RS} {f : Flow} {s : Shared} {M : Model} {A : Around} (w : W0.le W) (h : aO C env W r f s) : Bw M A env [] (aO C env W0 r) f s := by
 have h := aO.up w h
 induction f using PySem.Flow.casesOn <;> first | exact wpAny_execs_nil h | exact h
noncomputable def lB (M : Model) (A : Around) (env : Env) (Q : Flow -> Shared -> Prop) (r : Result) (s' : Shared) : Prop := match r with
 | .ok f => Q f s'
 | .error e => cameBackBy M A env No e s'
noncomputable def qm (I : Nat -> Shared -> Prop) (n : Nat) (R : Result -> Shared -> Prop) (f : Flow) (s : Shared) : Prop := match f with
 | .next => ∃ m, m < n /\ I m s
 | .cont => ∃ m, m < n /\ I m s
 | .brk => R (.ok .next) s
 | .ret v => R (.ok (.ret v)) s
noncomputable def pv (M : Model) (A : Around) (env : Env) (R : Result -> Shared -> Prop) : Value -> Shared -> Prop := notedBy M A env fun e s' => R (.error e) s'
noncomputable def kU (M : Model) (A : Around) (b e : List Stmt) (env : Env) (I : Nat -> Shared -> Prop) (n : Nat) (R : Result -> Shared -> Prop) (t : Bool) (s : Shared) : Prop :=
 if t = true then wpAny M A (execs b env) (qm I n R) (pv M A env R) s else wpAny M A (execs e env) (fun f s₃ => R (.ok f) s₃) (pv M A env R) s
noncomputable def yp (M : Model) (A : Around) (t : Expr) (it : Value) (b e : List Stmt) (env : Env) (I : Nat -> Shared -> Prop) (n : Nat) (R : Result -> Shared -> Prop) (r : Option Value) (s₁ : Shared) : Prop := match r with
 | none => wpAny M A (execs e env) (fun f s₃ => R (.ok f) s₃) (pv M A env R) s₁
 | some v => wpAny M A (letOwnedTupleGo t it v) (fun _ s => wpAny M A (assign t env v) (fun _ s₂ => wpAny M A (execs b env) (qm I n R) (pv M A env R) s₂) (pv M A env R) s) (pv M A env R) s₁
section
variable {A : Around} {env : Env} {b e : List Stmt} {I : Nat -> Shared -> Prop} {R : Result -> Shared -> Prop} {s : Shared} {n : Nat}
theorem uJ {c : Expr} {pos : Pos} {Q : Flow -> Shared -> Prop} (I : Nat -> Shared -> Prop) (h : ∀ n s, I n s -> wpAny (model D.prog D.w) A (isTrue c env (eval c env)) (kU (model D.prog D.w) A b e env I n (lB (model D.prog D.w) A env Q)) (pv (model D.prog D.w) A env (lB (model D.prog D.w) A env Q)) s) (N : Nat) (h0 : I N s) :
  wpAny (model D.prog D.w) A (exec (.While c b e pos) env) Q No s := wpAny_While (codeAny_whileLoop (R := lB (model D.prog D.w) A env Q) I h N h0)
theorem nz {t ie : Expr} {pos : Pos} {Q : Flow -> Shared -> Prop} (h : wpAny (model D.prog D.w) A (eval ie env) (fun x s₁ => wpAny (model D.prog D.w) A (pyIter x) (fun it s₂ => codeAny (model D.prog D.w) A (.forLoop t it b e env) (lB (model D.prog D.w) A env Q) s₂) No s₁) No s) (hf : ∀ x, foldedSetIterable ie env x = pure x) :
  wpAny (model D.prog D.w) A (exec (.For t ie b e pos) env) Q No s := wpAny_For h hf
theorem kP {t : Expr} {it : Value} (I : Nat -> Shared -> Prop) (h : ∀ n s, I n s -> wpAny (model D.prog D.w) A (pyNext it) (yp (model D.prog D.w) A t it b e env I n R) (pv (model D.prog D.w) A env R) s) (N : Nat) (h0 : I N s) : codeAny (model D.prog D.w) A (.forLoop t it b e env) R s :=
 codeAny_forLoop_any I h N h0
theorem yp.none {M : Model} {t : Expr} {it : Value} {Q : Flow -> Shared -> Prop} (h : wpAny M A (execs e env) Q No s) : yp M A t it b e env I n (lB M A env Q) none s :=
 wpAny_mono h (fun _ _ x => x) fun _ _ x => x.elim
theorem yp.some {M : Model} {t : Expr} {it z : Value} (hl : ∀ (Q : Unit -> Shared -> Prop) (E : Value -> Shared -> Prop), Q () s -> wpAny M A (letOwnedTupleGo t it z) Q E s) (h : wpAny M A (assign t env z) (fun _ s₂ => wpAny M A (execs b env) (qm I n R) No s₂) No s) : yp M A t it b e env I n R (some z) s :=
 hl _ _ (wpAny_mono h (fun _ _ x => wpAny_mono x (fun _ _ x => x) fun _ _ x => x.elim) fun _ _ x => x.elim)
theorem kU.tt {M : Model} (h : wpAny M A (execs b env) (qm I n R) No s) : kU M A b e env I n R true s := wpAny_mono h (fun _ _ x => x) fun _ _ x => x.elim
theorem kU.ff {M : Model} {Q : Flow -> Shared -> Prop} (h : wpAny M A (execs e env) Q No s) : kU M A b e env I n (lB M A env Q) false s := wpAny_mono h (fun _ _ x => x) fun _ _ x => x.elim
end
theorem j9 {r res : RS} {K : AV -> ab -> RS} (h : r.turn K = res) (hne : res ≠ .fail) : r ≠ .fail := fun q => hne (h.symm.trans (congrArg (RS.turn · K) q))
theorem nR {env : Env} {W W0 : Gh} {r res : RS} {K : AV -> ab -> RS} {f : Flow} {s : Shared} {I : Nat -> Shared -> Prop} {n : Nat} {M : Model} {A : Around} (h : r.turn K = res) (hne : res ≠ .fail) (w0 : W0.le W) (hc : aO C env W r f s) (k1 : ∀ W5 Z σ, W.le W5 -> St C env W5 Z σ s -> K Z σ = res -> I n s) :
  qm I (n + 1) (lB M A env (aO C env W0 res)) f s := by
 induction r using RS.casesOn with
 | fail => exact absurd h.symm hne
 | next Z σ => exact cj hc fun e W5 w5 T5 => e ▸ ⟨n, Nat.lt_succ_self n, k1 W5 Z σ w5 T5 h⟩
 | cont Z σ => exact cj hc fun e W5 w5 T5 => e ▸ ⟨n, Nat.lt_succ_self n, k1 W5 Z σ w5 T5 h⟩
 | brk Z σ =>
  refine bw h ?_
  exact hc.1 ▸ aO.up w0 (r := .next Z σ) ⟨rfl, hc.2⟩
 | ret v Z σ =>
  refine bw h ?_
  exact ae hc fun x e y => e ▸ aO.up w0 (r := .ret v Z σ) ⟨x, rfl, y⟩
inductive WhileI (C : Cx) (env : Env) (W : Gh) (F : Nat -> AV -> ab -> RS) (res : RS) (n : Nat) (s : Shared) : Prop
 | mk (W' : Gh) (Z' : AV) (σ' : ab) (w : W.le W') (T : St C env W' Z' σ' s) (h : F n Z' σ' = res)
theorem u0 {N : Nat} {c : Expr} {b e : List Stmt} {pos : Pos} {dc : DE} {db de : DS} (h1 : yH C lv c dc) (h2 : dR C lv b db) (h3 : dR C lv e de) : hM C lv (.While c b e pos) (rM N dc db de) := fun r ih A env W Z σ s P hne => by
 generalize hres : rM N dc db de ih Z σ = res at hne ⊢
 refine uJ (WhileI C env W (xW (dc ih) (db ih) (de ih)) res) (fun n s' hI => ?_) N (.mk W Z σ (.refl W) P.st hres)
 induction hI using WhileI.casesOn with
 | mk W1 l1 s1 w1 T1 e1 =>
  induction n using Nat.casesOn with
  | zero => exact absurd e1.symm hne
  | succ n =>
   refine du (fZ (r := dc ih l1 s1) fun q => hne (e1.symm.trans q)) fun v l2 s2 ec e2 _ => ?_
   have e1 := e2.symm.trans e1
   clear e2
   refine wpAny_mono (h1 r ih A env W1 _ _ _ (P.next T1) _ _ _ ec) (fun t sa ha => af ha fun W2 w2 T2 hv => ?_) fun _ _ x => x.elim
   subst hv
   induction t using Bool.casesOn with
   | true => exact .tt (wpAny_mono (h2 r ih A env W2 _ _ _ (P.next T2) (j9 e1 hne)) (fun f sb hb => nR e1 hne (w1.trans w2) hb fun W3 l3 s3 w3 T3 e4 => .mk W3 l3 s3 ((w1.trans w2).trans w3) T3 e4) fun _ _ x => x)
   | false =>
    subst e1
    exact .ff (wpAny_mono (h3 r ih A env W2 _ _ _ (P.next T2) hne) (fun f sb hb => hb.up (w1.trans w2)) fun _ _ x => x)
noncomputable def oY (C : Cx) (t : Expr) (a : AV -> AV -> (AV -> RS) -> RS) : Prop := ∀ Z v k, a Z v k ≠ .fail -> ∃ Z', a Z v k = k Z' /\ ∀ A env W σ s x, cP 1 A -> (C.q = true -> A.handled = none) -> St C env W Z σ s -> RV W v x ->
 wpAny (model D.prog D.w) A (assign t env x) (fun _ s' => ∃ W', W.le W' /\ St C env W' Z' σ s') No s
noncomputable def aName (i : Nat) : AV -> AV -> (AV -> RS) -> RS := fun Z v k => AV.qD i v Z k
theorem vn {x : Str} {i : Nat} {k : Kd} {px : Pos} (ha : ar C.ns i x k) (hk : k ≠ .cap) : oY C (.Name x px) (aName i) := fun Z v kk hne =>
 ⟨Z.put v i, AV.jW v i hne, fun A env W σ s y _ _ T r => wpAny_assign_Name (cO ha hk T r fun s' T' => ⟨W, .refl W, T'⟩)⟩
noncomputable def AV.opt (v : AV) (k : AV -> RS) (e : RS) : RS :=
 @AV.rec (fun _ => RS) e (k AV.none) (fun x0 => k (AV.bool x0)) (fun x0 => k (AV.int x0)) (fun x0 x1 => k (AV.str x0 x1)) (fun x0 => k (AV.ty x0)) (fun x0 => k (AV.glob x0)) (fun x0 => k (AV.ref x0)) (fun x0 x1 _ => k (AV.tup x0 x1)) (fun x0 x1 _ => k (AV.lst x0 x1)) (fun x0 x1 _ => k (AV.dct x0 x1)) (fun x0 x1 => k (AV.fset x0 x1)) (fun x0 _ => k (AV.vals x0)) (fun x0 x1 => k (AV.rng x0 x1)) (fun x0 => k (AV.lam x0)) (fun x0 => k (AV.nxt x0)) (k AV.nil) (fun x0 x1 _ _ => k (AV.cons x0 x1)) (fun x0 x1 x2 x3 _ _ => k (AV.ent x0 x1 x2 x3)) v
theorem AV.eU {v : AV} (h : v ≠ .undef) (k : AV -> RS) (e : RS) : v.opt k e = k v := by induction v using AV.casesOn <;> first | exact absurd rfl h | rfl
noncomputable def AO.nj (o : AO) (k : AV -> RS) : RS :=
 @AO.rec (fun _ => RS) (fun _ l => k l) (fun _ _ _ => .fail) (fun _ _ => .fail) .fail (fun _ _ => .fail) (fun _ => .fail) (fun _ _ => .fail) o
noncomputable def AV.qM {β : Sort _} (z : β) (f : Nat -> Nat -> AV -> AV -> β -> β) (e : AV) : β :=
 @AV.rec (fun _ => β) z z (fun _ => z) (fun _ => z) (fun _ _ => z) (fun _ => z) (fun _ => z) (fun _ => z) (fun _ _ _ => z) (fun _ _ _ => z) (fun _ _ _ => z) (fun _ _ => z) (fun _ _ => z) (fun _ _ => z) (fun _ => z) (fun _ => z) z (fun _ _ _ _ => z) (fun m d v r _ ih => f m d v r ih) e
noncomputable def AV.jF (e : AV) : Nat -> AV := AV.qM (fun _ => .undef) (fun n c _ _ ih j => @Nat.rec (fun _ => AV) (.str n c) (fun k _ => ih k) j) e
noncomputable def AV.iS (e : AV) : Nat -> AV := AV.qM (fun _ => .undef) (fun _ _ v _ ih j => @Nat.rec (fun _ => AV) v (fun k _ => ih k) j) e
noncomputable def AV.src (σ : ab) (v : AV) : AV := (AV.jO (β := AV) (AV.Eg (β := AV) v (fun u => (@AV.rec (fun _ => AV) v v (fun _ => v) (fun _ => v) (fun _ _ => v) (fun _ => v) (fun _ => v) (fun i => (@AO.rec (fun _ => AV) (fun _ _ => v) (fun n ep e => .ent i ep (.rng n 0) .nil) (fun _ _ => v) v (fun _ _ => v) (fun _ => v) (fun _ _ => v) (σ.look i))) (fun _ _ _ => v) (fun _ _ _ => v) (fun _ _ _ => v) (fun _ _ => v) (fun _ _ => v) (fun _ _ => v) (fun _ => v) (fun _ => v) v (fun _ _ _ _ => v) (fun _ _ _ _ _ _ => v) u)) v) (fun i => (@AO.rec (fun _ => AV) (fun _ _ => v) (fun n ep e => .ent i ep (.rng n 1) .nil) (fun _ _ => v) v (fun _ _ => v) (fun _ => v) (fun _ _ => v) (σ.look i))) v)
noncomputable def Fu (k : AV -> RS) (y : AV) : RS := AV.cStr (β := RS) .fail (fun n c => @Bool.rec (fun _ => RS) .fail (k (.str n c)) (fits n)) y
noncomputable def Bh (b : Nat) (e' : AV) (j : Nat) (k : AV -> RS) (e : RS) : RS := @Nat.rec (fun _ => RS) ((AV.iS e' j).opt k e) (fun _ _ => (AV.jF e' j).opt (Fu k) e) b
noncomputable def lG (o : AO) (ep n b j : Nat) (k : AV -> RS) (e : RS) : RS := o.pP .fail fun n' ep' e' => @Bool.rec (fun _ => RS) .fail (@Bool.rec (fun _ => RS) .fail (@Nat.rec (fun _ => RS) .fail (fun _ _ => Bh b e' j k e) ep) (Nat.beq ep ep')) (Nat.beq n n')
noncomputable def AV.walk (σ : ab) (v : AV) (j : Nat) (k : AV -> RS) (e : RS) : RS :=
 (@AV.rec (fun _ => RS) .fail .fail (fun _ => .fail) (fun _ => .fail) (fun _ _ => .fail) (fun _ => .fail) (fun _ => .fail) (fun i => (σ.look i).nj fun l => (l.bB j).opt k e) (fun n l _ => (l.bB j).opt k e) (fun n l _ => (l.bB j).opt k e) (fun _ _ _ => .fail) (fun _ _ => .fail) (fun u _ => (AV.rn (β := RS) .fail (fun n e' => (AV.iS e' j).opt k e) u)) (fun lo hi => @Bool.rec (fun _ => RS) e (k (.int (Int.ofNat (Nat.add lo j)))) (Nat.blt (Nat.add lo j) hi)) (fun _ => .fail) (fun _ => .fail) .fail (fun _ _ _ _ => .fail) (fun i ep u t _ _ => (AV.zm (β := RS) .fail (fun n b => lG (σ.look i) ep n b j k e) u)) v)
theorem RE.iS {W : Gh} {e : AV} {kvs : List (Str × Value)} (r : RE W e kvs) : ∀ j, (e.iS j = .undef /\ kvs[j]? = none) \/ (e.iS j ≠ .undef /\ ∃ k y, kvs[j]? = some (k, y) /\ RV W (e.iS j) y) :=
 RE.ind (motive := fun e kvs => ∀ j, (e.iS j = .undef /\ kvs[j]? = none) \/ (e.iS j ≠ .undef /\ ∃ k y, kvs[j]? = some (k, y) /\ RV W (e.iS j) y)) (fun j => .inl ⟨rfl, rfl⟩) (fun n c v r x xs hc rv rt ih j => @Nat.casesOn (fun j => (AV.iS (.ent n c v r) j = .undef /\ ((toS n c, x) :: xs)[j]? = none) \/ (AV.iS (.ent n c v r) j ≠ .undef /\ ∃ k y, ((toS n c, x) :: xs)[j]? = some (k, y) /\ RV W (AV.iS (.ent n c v r) j) y)) j (.inr ⟨rv.ne, _, x, rfl, rv⟩) ih) r
theorem RE.jF {W : Gh} {e : AV} {kvs : List (Str × Value)} (r : RE W e kvs) : ∀ j, (e.jF j = .undef /\ kvs[j]? = none) \/ ∃ n c y, e.jF j = .str n c /\ kvs[j]? = some (toS n c, y) /\ c < 256 ^ n :=
 RE.ind (motive := fun e kvs => ∀ j, (e.jF j = .undef /\ kvs[j]? = none) \/ ∃ n c y, e.jF j = .str n c /\ kvs[j]? = some (toS n c, y) /\ c < 256 ^ n) (fun j => .inl ⟨rfl, rfl⟩) (fun n c v r x xs hc rv rt ih j => @Nat.casesOn (fun j => (AV.jF (.ent n c v r) j = .undef /\ ((toS n c, x) :: xs)[j]? = none) \/ ∃ n' c' y, AV.jF (.ent n c v r) j = .str n' c' /\ ((toS n c, x) :: xs)[j]? = some (toS n' c', y) /\ c' < 256 ^ n') j (.inr ⟨n, c, x, rfl, rfl, hc⟩) ih) r
theorem RL.bB {W : Gh} {l : AV} {xs : List Value} (r : RL W l xs) : ∀ j, (l.bB j = .undef /\ xs[j]? = none) \/ (l.bB j ≠ .undef /\ ∃ y, xs[j]? = some y /\ RV W (l.bB j) y) :=
 RL.ind (motive := fun l xs => ∀ j, (l.bB j = .undef /\ xs[j]? = none) \/ (l.bB j ≠ .undef /\ ∃ y, xs[j]? = some y /\ RV W (l.bB j) y)) (fun j => .inl ⟨rfl, rfl⟩) (fun v l x xs rv rt ih j => @Nat.casesOn (fun j => (AV.bB (.cons v l) j = .undef /\ (x :: xs)[j]? = none) \/ (AV.bB (.cons v l) j ≠ .undef /\ ∃ y, (x :: xs)[j]? = some y /\ RV W (AV.bB (.cons v l) j) y)) j (.inr ⟨rv.ne, x, rfl, rv⟩) ih) r
noncomputable def iM (T : String) (fs : Array Value) (o : Obj) : Prop := o.cls = .type T /\ o.data = .fields fs
noncomputable def fh (v : AV) (x : Value) (o : Obj) (j : Nat) : Prop :=
 @AV.rec (fun _ => Prop) False False (fun _ => False) (fun _ => False) (fun _ _ => False) (fun _ => False) (fun _ => False) (fun _ => iM "list_iterator" #[x, .int j 0] o) (fun _ _ _ => iM "tuple_iterator" #[x, .int j 0] o) (fun _ _ _ => iM "list_iterator" #[x, .int j 0] o) (fun _ _ _ => False) (fun _ _ => False)
  (fun u _ => u.rn False fun n _ => iM "dict_valueiterator" #[x, .int j 0, .int n 0, .int n 0] o) (fun lo hi => o = { cls := .type "range_iterator", data := .fields #[rawInt (lo + j : Nat), rawInt (hi - (lo + j) : Nat), rawInt 1] }) (fun _ => False) (fun _ => False) False (fun _ _ _ _ => False)
  (fun _ ep u _ _ _ => u.zm False fun n b => @Nat.rec (fun _ => Prop) (iM "dict_valueiterator" #[x, .int j 0, .int n 0, .int (Nat.pred ep : Nat) 0] o) (fun _ _ => iM "dict_keyiterator" #[x, .int j 0, .int n 0, .int (Nat.pred ep : Nat) 0] o) b) v
noncomputable def jo (n : String) : Bool := ["list_iterator", "tuple_iterator", "range_iterator", "dict_valueiterator", "dict_keyiterator"].contains n
noncomputable def GP (o : Obj) : Prop := ∃ n fs, o.cls = .type n /\ o.data = .fields fs /\ jo n = true
theorem iM.c {T : String} {fs : Array Value} {o : Obj} (h : iM T fs o) (hn : jo T = true) : GP o := ⟨T, fs, h.1, h.2, hn⟩
theorem fh.Ay {v : AV} {x : Value} {o : Obj} {j : Nat} (h : fh v x o j) : GP o := by
 induction v using AV.casesOn <;> try exact False.elim h
 case ref => exact iM.c h (by decide)
 case tup => exact iM.c h (by decide)
 case lst => exact iM.c h (by decide)
 case vals u => exact (u.Aa False fun n _ => iM "dict_valueiterator" #[x, .int j 0, .int n 0, .int n 0] o).elim (fun h1 => ag h1 fun n e _ q => iM.c (cast q h) (by decide)) fun q => (cast q h).elim
 case rng lo hi =>
  have h : o = _ := h
  refine aa h ?_
  exact ⟨_, _, rfl, rfl, by decide⟩
 case ent i ep u t =>
  refine (u.yU False fun n b => @Nat.rec (fun _ => Prop) (iM "dict_valueiterator" #[x, .int j 0, .int n 0, .int (Nat.pred ep : Nat) 0] o) (fun _ _ => iM "dict_keyiterator" #[x, .int j 0, .int n 0, .int (Nat.pred ep : Nat) 0] o) b).elim (fun h1 => ag h1 fun n b _ q => ?_) fun q => (cast q h).elim
  have h := cast q h
  induction b using Nat.casesOn with
  | zero => exact iM.c h (by decide)
  | succ b => exact iM.c h (by decide)
theorem og {n : String} (h : jo n = true) : (["enumerate", "zip", "dict_itemiterator", "dict_reverseitemiterator", "odict_iterator", "itertools.zip_longest", "itertools.pairwise"].contains n) = false := by
 have : n = "list_iterator" \/ n = "tuple_iterator" \/ n = "range_iterator" \/ n = "dict_valueiterator" \/ n = "dict_keyiterator" := by simpa [jo] using h
 rcases this with rfl | rfl | rfl | rfl | rfl <;> decide
theorem fh.cls {v : AV} {x : Value} {o : Obj} {j : Nat} (h : fh v x o j) : ∃ n fs, o.cls = .type n /\ o.data = .fields fs /\ (["enumerate", "zip", "dict_itemiterator", "dict_reverseitemiterator", "odict_iterator", "itertools.zip_longest", "itertools.pairwise"].contains n) = false :=
 aN h.Ay fun n fs a b c => ⟨n, fs, a, b, og c⟩
noncomputable def pQ (W : Gh) (v : AV) (x : Value) : Prop :=
 @AV.rec (fun _ => Prop) False False (fun _ => False) (fun _ => False) (fun _ _ => False) (fun _ => False) (fun _ => False) (fun i => RV W (.ref i) x) (fun n l _ => RV W (.tup n l) x) (fun n l _ => RV W (.lst n l) x) (fun _ _ _ => False) (fun _ _ => False)
  (fun u _ => RV W u x) (fun lo hi => RV W (.rng lo hi) x) (fun _ => False) (fun _ => False) False (fun _ _ _ _ => False) (fun i _ _ _ _ _ => ∃ a, x = .ref a /\ W a = .bu i) v
theorem pQ.mono {W W' : Gh} (h : W.bM W') {v : AV} {x : Value} (r : pQ W v x) : pQ W' v x := by
 induction v using AV.casesOn <;> first | exact False.elim r | exact RV.mono h r | exact ae r fun a e w => ⟨a, e, h.bu w⟩
theorem fI {M : Model} {A : Around} {E : Value -> Shared -> Prop} {s : Shared} {t : Expr} {it : Addr} {y : Value} {o : Obj} {n : String} {fs : Array Value} {Q : Unit -> Shared -> Prop} (ho : s.heap.get? it = some o) (hc : o.cls = .type n) (hd : o.data = .fields fs)
  (hn : (["enumerate", "zip", "dict_itemiterator", "dict_reverseitemiterator", "odict_iterator", "itertools.zip_longest", "itertools.pairwise"].contains n) = false) (h : Q () s) : wpAny M A (letOwnedTupleGo t (.ref it) y) Q E s := by
 have body : ∀ b : Addr, wpAny M A (do
   let o <- load it
   match o.cls, o.data with
   | .type n, .fields vs =>
    if ["enumerate", "zip", "dict_itemiterator", "dict_reverseitemiterator", "odict_iterator", "itertools.zip_longest", "itertools.pairwise"].contains n && vs[0]? == some (rawInt b) then
     rule "for.unpacks-the-owned-tuple"
     updateField it 0 .none
   | _, _ => pure ()) Q E s := fun b => by
  refine wpAny_bind (wpAny_load ho ?_)
  refine aa hc ?_; refine aa hd ?_
  dsimp only
  refine aa (if_neg (by rw [hn, Bool.false_and]; exact Bool.false_ne_true)) ?_
  exact wpAny_pure h
 induction t using PySem.Expr.casesOn <;> first | exact wpAny_pure h | (induction y using PySem.Value.casesOn <;> first | exact body _ | exact wpAny_pure h)
theorem listAt {W : Gh} {σ : ab} {s : Shared} {i n : Nat} {l : AV} {a : Addr} (I : Inv W σ s) (h : σ.At i (.list n l)) (ha : W a = .bu i) : ∃ items ep, s.heap.get? a = some (aV items ep) /\ items.size = n /\ n <= 1048576 /\ RL W l items.toList := by
 refine ae (I.bu i _ h) fun b hb r => ?_
 refine aa (I.inj i a b ha hb) ?_
 exact r
theorem aH {h : Heap} {a : Addr} {items : Array Value} {ep : Nat} (e : h.get? a = some (aV items ep)) : h.IsList a items := ⟨_, e, rfl, ep, rfl⟩
theorem cN {h : Heap} {a : Addr} {items : Array Value} {ep : Nat} (e : h.get? a = some (cU items ep)) : h.IsTuple a items := ⟨_, e, rfl, ep, rfl⟩
noncomputable def yq (σ : ab) (v : AV) : Prop := (∃ n l, v = .lst n l) \/ (∃ n l, v = .tup n l) \/ (∃ lo hi, v = .rng lo hi) \/ (∃ i n l, v = .ref i /\ σ.At i (.list n l)) \/ (∃ n e, v = .vals (.dct n e)) \/ ∃ i ep n b t e, v = .ent i (ep + 1) (.rng n b) t /\ σ.At i (.dict n (ep + 1) e)
theorem sF {x : RS} {b : Bool} (h : @Bool.rec (fun _ => RS) .fail x b ≠ .fail) : b = true /\ @Bool.rec (fun _ => RS) .fail x b = x := by
 cases b
 ·exact absurd rfl h
 ·exact ⟨rfl, rfl⟩
theorem qo {o : AO} {ep n b j : Nat} {k : AV -> RS} {e : RS} (h : lG o ep n b j k e ≠ .fail) : ∃ ep' e', ep = ep' + 1 /\ o = .dict n (ep' + 1) e' /\ lG o ep n b j k e = Bh b e' j k e := by
 refine ak ((o.xb _ _).resolve_right h) fun n' ep2 e' ho hw => ?_
 have hw : lG o ep n b j k e = _ := hw
 rw [hw] at h
 have h1 := sF h
 rw [h1.2] at h
 have h2 := sF h
 rw [h2.2] at h
 obtain rfl := Nat.eq_of_beq_eq_true h1.1
 obtain rfl := Nat.eq_of_beq_eq_true h2.1
 induction ep using Nat.casesOn with
 | zero => exact absurd rfl h
 | succ ep' => exact ⟨ep', e', rfl, ho, (hw.trans h1.2).trans h2.2⟩
theorem nB {σ : ab} {v : AV} {j : Nat} {k : AV -> RS} {e : RS} (h : v.walk σ j k e ≠ .fail) : yq σ v := by
 induction v using AV.casesOn <;> try exact absurd rfl h
 case lst => exact .inl ⟨_, _, rfl⟩
 case tup => exact .inr (.inl ⟨_, _, rfl⟩)
 case rng => exact .inr (.inr (.inl ⟨_, _, rfl⟩))
 case ref i =>
  refine .inr (.inr (.inr (.inl ⟨i, ?_⟩)))
  have h : (σ.look i).nj (fun l => (l.bB j).opt k e) ≠ .fail := h
  cases hl : σ.look i with
  | list n l => exact ⟨n, l, rfl, ab.aw hl fun x => AO.noConfusion x⟩
  | _ => rw [hl] at h; exact absurd rfl h
 case vals u =>
  induction u using AV.casesOn <;> try exact absurd rfl h
  exact .inr (.inr (.inr (.inr (.inl ⟨_, _, rfl⟩))))
 case ent i ep u t =>
  induction u using AV.casesOn <;> try exact absurd rfl h
  rename_i n b
  have h : lG (σ.look i) ep n b j k e ≠ .fail := h
  refine aN (qo h) fun ep' e' q2 ho _ => ?_; refine aa q2 ?_
  exact .inr (.inr (.inr (.inr (.inr ⟨i, ep', n, b, t, e', rfl, ab.aw ho fun x => AO.noConfusion x⟩))))
theorem size_of (lo hi : Nat) : Builtin.Range.rangeSize lo hi 1 = ((hi - lo : Nat) : Int) := by
 unfold Builtin.Range.rangeSize
 refine aa (if_pos (by decide)) ?_
 split <;> lia
theorem oz {i : Int} (h1 : -9223372036854775808 <= i) (h2 : i < 9223372036854775808) : Builtin.Range.rangeFitsLong i = true := by
 unfold Builtin.Range.rangeFitsLong
 have e : (2 : Int) ^ 63 = 9223372036854775808 := by decide
 refine aa e ?_; rw [Bool.and_eq_true]
 exact ⟨decide_eq_true h1, decide_eq_true h2⟩
theorem x9 {lo hi : Nat} (hlo : lo <= 1048576) (h : hi <= 1048576) : Builtin.Range.small lo hi 1 = true := by
 unfold Builtin.Range.small
 rw [size_of, oz (by omega) (by omega), oz (by omega) (by omega), oz (by omega) (by omega), oz (by omega) (by omega), if_pos (by decide)]; refine aa (oz (by omega) (by omega)) ?_
 rw [Bool.or_true]
 rfl
theorem BV {i j : Nat} (h : j ≠ i) : Nat.beq j i = false := by
 cases hb : Nat.beq j i with
 | true => exact absurd (Nat.eq_of_beq_eq_true hb) h
 | false => rfl
theorem kl {i : Nat} {o : AO} {σ : ab} (h : σ.At i o) : σ.look i = o := by
 induction h with
 | here i o r => exact (ab.jl i i o r).trans (by rw [Nat.beq_refl]; rfl)
 | there i j o p r hn _ ih => exact (ab.jl j i o r).trans (by refine aa (BV hn) ?_; exact ih)
theorem AV.vD (σ : ab) (v : AV) : v.src σ = v \/ ∃ i n ep e b, σ.look i = .dict n ep e /\ v.src σ = .ent i ep (.rng n b) .nil /\ ((b = 1 /\ v = .ref i) \/ (b = 0 /\ v = .vals (.ref i))) := by
 have key : ∀ (o : AO) (b : Nat) (i : Nat) (u : AV), @AO.rec (fun _ => AV) (fun _ _ => u) (fun n ep e => .ent i ep (.rng n b) .nil) (fun _ _ => u) u (fun _ _ => u) (fun _ => u) (fun _ _ => u) o = u \/
   ∃ n ep e, o = .dict n ep e /\ @AO.rec (fun _ => AV) (fun _ _ => u) (fun n ep e => .ent i ep (.rng n b) .nil) (fun _ _ => u) u (fun _ _ => u) (fun _ => u) (fun _ _ => u) o = .ent i ep (.rng n b) .nil := fun o b i u => by
  induction o using AO.casesOn <;> first | exact .inl rfl | exact .inr ⟨_, _, _, rfl, rfl⟩
 have two : ∀ (b i : Nat) (u : AV), u.src σ = @AO.rec (fun _ => AV) (fun _ _ => u) (fun n ep e => .ent i ep (.rng n b) .nil) (fun _ _ => u) u (fun _ _ => u) (fun _ => u) (fun _ _ => u) (σ.look i) -> ((b = 1 /\ u = .ref i) \/ (b = 0 /\ u = .vals (.ref i))) ->
   u.src σ = u \/ ∃ i n ep e b, σ.look i = .dict n ep e /\ u.src σ = .ent i ep (.rng n b) .nil /\ ((b = 1 /\ u = .ref i) \/ (b = 0 /\ u = .vals (.ref i))) := fun b i u h g =>
  (key (σ.look i) b i u).imp h.trans fun ⟨n, ep, e, ho, hu⟩ => ⟨i, n, ep, e, b, ho, h.trans hu, g⟩
 induction v using AV.casesOn <;> try exact .inl rfl
 case ref i => exact two 1 i _ rfl (.inl ⟨rfl, rfl⟩)
 case vals u =>
  induction u using AV.casesOn <;> try exact .inl rfl
  case ref i => exact two 0 i _ rfl (.inr ⟨rfl, rfl⟩)
theorem yq.AM {σ : ab} {i ep : Nat} {u t : AV} (h : yq σ (.ent i ep u t)) : ∃ ep' n b e, ep = ep' + 1 /\ u = .rng n b /\ σ.At i (.dict n (ep' + 1) e) := by
 rcases h with ⟨_, _, h⟩ | ⟨_, _, h⟩ | ⟨_, _, h⟩ | ⟨_, _, _, h, _⟩ | ⟨_, _, h⟩ | ⟨_, ep', n, b, _, e, h, h2⟩
 case inr.inr.inr.inr.inr => cases h; exact ⟨ep', n, b, e, rfl, rfl, h2⟩
 all_goals exact AV.noConfusion h
theorem mS (hm : (D.B.get? sysModules).isSome = true) {A : Around} {W : Gh} {σ : ab} {s : Shared} {v : AV} {x : Value} {E : Value -> Shared -> Prop} {Q : Value -> Shared -> Prop} (I : Inv W σ s) (r : RV W v x)
  (hv : yq σ (v.src σ)) (hq : ∀ x' o, pQ W (v.src σ) x' -> o.isFreed = false -> (∀ ov, o.data ≠ .cell ov) -> fh (v.src σ) x' o 0 -> Q (.ref s.heap.objs.size) { s with heap := s.heap.push o }) : wpAny (model D.prog D.w) A (pyIter x) Q E s := by
 have trkOR : ∀ {i : Nat} {a : Addr} {ao : AO}, σ.At i ao -> W a = .bu i -> OR W s.heap i a ao := fun {i a ao} h ha =>
  ae (I.bu i _ h) fun b hb r => (I.inj i a b ha hb) ▸ r
 generalize hsz : Value.ref s.heap.objs.size = z at hq
 rcases v.vD σ with e | ⟨i, n, ep, e', b, ho, e, hb⟩
 ·rw [e] at hv hq
  clear e
  rcases hv with ⟨n, l, rfl⟩ | ⟨n, l, rfl⟩ | ⟨lo, hi, rfl⟩ | ⟨i, n, l, rfl, hat⟩ | ⟨n, e', rfl⟩ | ⟨i, ep, n, b, t, e', rfl, hat⟩
  ·induction r using RV.jE with
   | mk a items ep e hn hb rl => exact wpAny_pyIter_list (aH (I.az _ _ e)) (hsz ▸ hq _ _ (.lst _ _ _ _ _ e hn hb rl) rfl (fun ov h => nomatch h) ⟨rfl, rfl⟩)
  ·induction r using RV.iu with
   | mk a items e hn hb rl => exact wpAny_pyIter_tuple (cN (I.az _ _ e)) (hsz ▸ hq _ _ (.tup _ _ _ _ e hn hb rl) rfl (fun ov h => nomatch h) ⟨rfl, rfl⟩)
  ·induction r using RV.FX with
   | mk a t u v e hlo hb =>
    refine wpAny_pyIter_range (I.az _ _ e) (x9 hlo hb) (hsz ▸ hq _ _ (.rng _ _ _ _ _ _ e hlo hb) rfl (fun ov h => nomatch h) ?_)
    show _ = _
    rw [size_of]
    simp
  ·induction r using RV.cg with
   | mk a e =>
    refine ag (trkOR hat e) fun items ep h _ => ?_
    exact wpAny_pyIter_list (aH h) (hsz ▸ hq _ _ (.ref _ _ e) rfl (fun ov h => nomatch h) ⟨rfl, rfl⟩)
  ·induction r using RV.Bd with
   | mk va y e rv =>
    induction rv using RV.AN with
    | mk a o kvs e1 e2 hn hb hms re =>
     refine wpAny_pyIter_values ⟨_, I.az _ _ e, rfl, rfl⟩ (e2 _ (I.az _ _ e1)) (hsz ▸ hq _ _ (.dct _ _ _ _ _ e1 e2 hn hb hms re) rfl (fun ov h => nomatch h) ⟨rfl, ?_⟩)
     refine aa hn ?_; rfl
  ·exact nomatch r
 ·rw [e] at hv hq
  clear e
  refine iJ hv.AM fun ep' n' b' e2 h1 h2 hat => ?_
  subst h1
  cases h2
  have end' : ∀ a, W a = .bu i -> ∃ kvs, s.heap.DictAt (strKind D.prog D.w) a kvs ep' /\ kvs.length = n := fun a e => by
   refine b8 (trkOR hat e) fun kvs ep2 hd hep hn _ _ => ⟨kvs, ?_, hn⟩
   obtain rfl : ep2 = ep' := hep.elim (fun h => nomatch h) fun h => Nat.succ.inj h.symm
   exact hd
  rcases hb with ⟨rfl, rfl⟩ | ⟨rfl, rfl⟩
  ·induction r using RV.cg with
   | mk a e =>
    refine ae (end' a e) fun kvs hd hn => ?_
    have nm : (a == sysModules) = false := beq_eq_false_iff_ne.mpr fun q => by
     subst q
     obtain ⟨o, ho⟩ := Option.isSome_iff_exists.mp hm
     rw [I.base _ _ ho] at e; exact nomatch e
    refine wpAny_pyIter_dict nm hd (hsz ▸ hq _ _ ⟨a, rfl, e⟩ rfl (fun ov h => nomatch h) ⟨rfl, ?_⟩)
    refine aa hn ?_; rfl
  ·induction r using RV.Bd with
   | mk va y e rv =>
    induction rv using RV.cg with
    | mk a ea =>
     refine ae (end' a ea) fun kvs hd hn => ?_
     refine wpAny_pyIter_values ⟨_, I.az _ _ e, rfl, rfl⟩ hd (hsz ▸ hq _ _ ⟨a, rfl, ea⟩ rfl (fun ov h => nomatch h) ⟨rfl, ?_⟩)
     refine aa hn ?_; rfl
noncomputable def mT (W : Gh) (s : Shared) (v : AV) (x : Value) (j : Nat) (it : Addr) (r : RS) (k : AV -> RS) (e : RS) (Q : Option Value -> Shared -> Prop) : Prop :=
 (∀ y z o1 h' t, r = k y -> RV W y z -> h'.get? it = some o1 -> fh v x o1 (j + 1) -> (∀ b ob, b ≠ it -> s.heap.get? b = some ob -> h'.get? b = some ob) -> Q (some z) { s with heap := h', toks := t }) /\
 (r = e -> ∀ h', (∀ b ob, b ≠ it -> s.heap.get? b = some ob -> h'.get? b = some ob) -> Q none { s with heap := h' })
section
variable {A : Around} {W : Gh} {s : Shared} {v : AV} {j : Nat} {it a : Addr} {o : Obj} {k : AV -> RS} {e : RS} {E : Value -> Shared -> Prop} {Q : Option Value -> Shared -> Prop} (hh : A.handled = none) (ho : s.heap.get? it = some o)
include hh ho
theorem mP {l : AV} {items : Array Value} (hi : iM "list_iterator" #[.ref a, .int j 0] o) (hl : s.heap.IsList a items) (rl : RL W l items.toList) (hit : ∀ o1, iM "list_iterator" #[.ref a, .int ((j + 1 : Nat) : Int) 0] o1 -> fh v (.ref a) o1 (j + 1)) (H : mT W s v (.ref a) j it ((l.bB j).opt k e) k e Q) : wpAny (model D.prog D.w) A (pyNext (.ref it)) Q E s :=
 (rl.bB j).elim (fun h => wpAny_pyNext_list_end hh ⟨o, ho, hi⟩ hl (Array.getElem?_toList ▸ h.2) fun h' hb => H.2 (congrArg (AV.opt · k e) h.1) h' fun b ob n => hb b ob n) fun h => bI h.2 fun y hy =>
  wpAny_pyNext_list_item ⟨o, ho, hi⟩ hl (Array.getElem?_toList ▸ hy.1) fun h' hi' hb => ae hi' fun o1 e1 c1 => H.1 _ y o1 h' _ (AV.eU h.1 k e) hy.2 e1 (hit o1 c1) fun b ob n eb => (hb.2 b n).trans eb
theorem xH {l : AV} {items : Array Value} (hi : iM "tuple_iterator" #[.ref a, .int j 0] o) (hl : s.heap.IsTuple a items) (rl : RL W l items.toList) (hit : ∀ o1, iM "tuple_iterator" #[.ref a, .int ((j + 1 : Nat) : Int) 0] o1 -> fh v (.ref a) o1 (j + 1)) (H : mT W s v (.ref a) j it ((l.bB j).opt k e) k e Q) : wpAny (model D.prog D.w) A (pyNext (.ref it)) Q E s :=
 (rl.bB j).elim (fun h => wpAny_pyNext_tuple_end hh ⟨o, ho, hi⟩ hl (Array.getElem?_toList ▸ h.2) fun h' hb => H.2 (congrArg (AV.opt · k e) h.1) h' fun b ob n => hb b ob n) fun h => bI h.2 fun y hy =>
  wpAny_pyNext_tuple_item ⟨o, ho, hi⟩ hl (Array.getElem?_toList ▸ hy.1) fun h' hi' hb => ae hi' fun o1 e1 c1 => H.1 _ y o1 h' _ (AV.eU h.1 k e) hy.2 e1 (hit o1 c1) fun b ob n eb => (hb.2 b n).trans eb
theorem me {d : AV} {kvs : List (Str × Value)} {n ep : Nat} (hi : iM "dict_valueiterator" #[.ref a, .int j 0, .int n 0, .int ep 0] o) (hd : s.heap.DictAt (strKind D.prog D.w) a kvs ep) (hn : kvs.length = n) (re : RE W d kvs) {x : Value} (hit : ∀ o1, iM "dict_valueiterator" #[.ref a, .int ((j + 1 : Nat) : Int) 0, .int n 0, .int ep 0] o1 -> fh v x o1 (j + 1))
  (H : mT W s v x j it ((d.iS j).opt k e) k e Q) : wpAny (model D.prog D.w) A (pyNext (.ref it)) Q E s := by
 subst hn
 exact (re.iS j).elim (fun h => wpAny_pyNext_values_end hh ⟨o, ho, hi⟩ hd h.2 fun h' hb => H.2 (congrArg (AV.opt · k e) h.1) h' fun b ob n => hb b ob n) fun h => ag h.2 fun kk y hy ry =>
  wpAny_pyNext_values_item ⟨o, ho, hi⟩ hd hy fun h' hi' hb => ae hi' fun o1 e1 c1 => H.1 _ y o1 h' _ (AV.eU h.1 k e) ry e1 (hit o1 c1) fun b ob n eb => (hb.2 b n).trans eb
theorem yx {lo hi : Nat} {x : Value} (ht : fh (.rng lo hi) x o j) (H : mT W s (.rng lo hi) x j it (@Bool.rec (fun _ => RS) e (k (.int (Int.ofNat (Nat.add lo j)))) (Nat.blt (Nat.add lo j) hi)) k e Q) : wpAny (model D.prog D.w) A (pyNext (.ref it)) Q E s := by
 have ht : o = _ := ht
 subst ht
 cases hb : Nat.blt (Nat.add lo j) hi with
 | true =>
  rw [hb] at H
  have hlt : lo + j < hi := Nat.blt_eq.mp hb
  refine wpAny_pyNext_range_item ho (Int.ofNat_lt.mpr (Nat.sub_pos_of_lt hlt)) fun h' hr hs => H.1 _ _ _ h' _ rfl (.int _ _) hr ?_ fun b ob n eb => (hs.2 b n).trans eb
  show _ = _
  have e1 : ((lo + j : Nat) : Int) + 1 = ((lo + (j + 1) : Nat) : Int) := rfl
  have e2 : ((hi - (lo + j) : Nat) : Int) - 1 = ((hi - (lo + (j + 1)) : Nat) : Int) := (Int.ofNat_sub (Nat.sub_pos_of_lt hlt)).symm
  refine aa e1 ?_; exact aa e2 rfl
 | false =>
  rw [hb] at H
  have hge : hi <= lo + j := Nat.le_of_not_lt fun q => Bool.noConfusion (hb.symm.trans (Nat.blt_eq.mpr q))
  exact wpAny_pyNext_range_end hh ho (by refine aa (Nat.sub_eq_zero_of_le hge) ?_; exact Int.le_refl 0) fun h' hs => H.2 rfl h' fun b ob n => hs b ob n
theorem t6 {d : AV} {kvs : List (Str × Value)} {n ep : Nat} (hi : iM "dict_keyiterator" #[.ref a, .int j 0, .int n 0, .int ep 0] o) (hd : s.heap.DictAt (strKind D.prog D.w) a kvs ep) (hn : kvs.length = n) (re : RE W d kvs) {x : Value} (hit : ∀ o1, iM "dict_keyiterator" #[.ref a, .int ((j + 1 : Nat) : Int) 0, .int n 0, .int ep 0] o1 -> fh v x o1 (j + 1))
  {g : AV -> RS} (hg : ∀ m c, g (.str m c) = @Bool.rec (fun _ => RS) .fail (k (.str m c)) (fits m)) (hne : (d.jF j).opt g e ≠ .fail) (H : mT W s v x j it ((d.jF j).opt g e) k e Q) : wpAny (model D.prog D.w) A (pyNext (.ref it)) Q E s := by
 subst hn
 rcases re.jF j with h | ⟨m, c, y, hu, hx, hc⟩
 ·exact wpAny_pyNext_dict_end hh ⟨o, ho, hi⟩ hd h.2 fun h' hb => H.2 (congrArg (AV.opt · g e) h.1) h' fun b ob n => hb b ob n
 ·have hw : (d.jF j).opt g e = @Bool.rec (fun _ => RS) .fail (k (.str m c)) (fits m) := (congrArg (AV.opt · g e) hu).trans (hg m c)
  rw [hw] at H hne
  cases hf : fits m with
  | false => rw [hf] at hne; exact absurd rfl hne
  | true =>
   rw [hf] at H
   refine wpAny_pyNext_dict_item ⟨o, ho, hi⟩ hd hx fun key h' hkey hi' hb => ae hi' fun o1 e1 c1 => ?_
   induction key using PySem.Value.casesOn with
   | str y2 t2 =>
    obtain rfl : y2 = toS m c := eq_of_beq (show (y2 == toS m c) = true from hkey)
    exact H.1 _ _ o1 h' _ rfl (.str _ _ _ hc (bO hf)) e1 (hit o1 c1) fun b ob n eb => (hb.2 b n).trans eb
   | _ => exact absurd hkey Bool.false_ne_true
end
theorem kW {A : Around} {W : Gh} {σ : ab} {s : Shared} {v : AV} {x : Value} {j : Nat} {it : Addr} {o : Obj} {k : AV -> RS} {e : RS} {E : Value -> Shared -> Prop} {Q : Option Value -> Shared -> Prop} (I : Inv W σ s) (hh : A.handled = none)
  (r : pQ W v x) (ho : s.heap.get? it = some o) (hi : fh v x o j) (hne : v.walk σ j k e ≠ .fail) (H : mT W s v x j it (v.walk σ j k e) k e Q) : wpAny (model D.prog D.w) A (pyNext (.ref it)) Q E s := by
 rcases nB hne with ⟨n, l, rfl⟩ | ⟨n, l, rfl⟩ | ⟨lo, hi', rfl⟩ | ⟨i, n, l, rfl, hat⟩ | ⟨n, e', rfl⟩ | ⟨i, ep, n, b, t, e', rfl, hat⟩
 ·cases (show RV W (.lst n l) x from r) using RV.jE with
  | mk a items ep e1 hn hb rl => exact mP (v := .lst n l) hh ho hi (aH (I.az _ _ e1)) rl (fun _ h => h) H
 ·cases (show RV W (.tup n l) x from r) using RV.iu with
  | mk a items e1 hn hb rl => exact xH (v := .tup n l) hh ho hi (cN (I.az _ _ e1)) rl (fun _ h => h) H
 ·exact yx hh ho hi H
 ·cases (show RV W (.ref i) x from r) using RV.cg with
  | mk a e1 =>
   have hl : AV.walk σ (.ref i) j k e = (l.bB j).opt k e := congrArg (fun o => AO.nj o fun l => (l.bB j).opt k e) (kl hat)
   rw [hl] at H
   exact bH (listAt I hat e1) fun items ep e2 _ _ rl => mP (v := .ref i) hh ho hi (aH e2) rl (fun _ h => h) H
 ·cases (show RV W (.dct n e') x from r) using RV.AN with
  | mk a od kvs e1 e2 hn hb hms re => exact me (v := .vals (.dct n e')) hh ho hi (e2 _ (I.az _ _ e1)) hn re (fun _ h => h) H
 ·refine ae r fun a hx ea => ?_
  subst hx
  have hw : AV.walk σ (.ent i (ep + 1) (.rng n b) t) j k e = lG (.dict n (ep + 1) e') (ep + 1) n b j k e := congrArg (fun o => lG o (ep + 1) n b j k e) (kl hat)
  rw [hw] at H hne
  refine aN (qo hne) fun ep' e2 h1 h2 h3 => ?_
  refine aa h1 ?_
  cases h2
  rw [h3] at H hne
  refine b8 (ae (I.bu i _ hat) fun c hc r => (I.inj i a c ea hc) ▸ r) fun kvs ep2 hd hep hn hb re => ?_
  obtain rfl : ep2 = ep := hep.elim (fun q => nomatch q) fun q => Nat.succ.inj q.symm
  induction b using Nat.casesOn with
  | zero => exact me (v := .ent i (ep2 + 1) (.rng n 0) t) hh ho hi hd hn re (fun _ h => h) H
  | succ b => exact t6 (v := .ent i (ep2 + 1) (.rng n (b + 1)) t) hh ho hi hd hn re (fun _ h => h) (fun _ _ => rfl) hne H
theorem uy {A : Around} {W : Gh} {σ : ab} {s : Shared} {v : AV} {x : Value} {j : Nat} {it : Addr} {o : Obj} {k : AV -> RS} {e : RS} {E : Value -> Shared -> Prop} {Q : Option Value -> Shared -> Prop} (I : Inv W σ s) (hh : A.handled = none)
  (r : pQ W v x) (ho : s.heap.get? it = some o) (hi : fh v x o j) (hw : W it = .kept o) (hne : v.walk σ j k e ≠ .fail)
  (hq : ∀ y z o1 h' t, v.walk σ j k e = k y -> RV W y z -> h'.get? it = some o1 -> fh v x o1 (j + 1) -> (∀ b ob, b ≠ it -> s.heap.get? b = some ob -> h'.get? b = some ob) -> Q (some z) { s with heap := h', toks := t })
  (hend : v.walk σ j k e = e -> ∀ h', (∀ b ob, b ≠ it -> s.heap.get? b = some ob -> h'.get? b = some ob) -> Q none { s with heap := h' }) : wpAny (model D.prog D.w) A (pyNext (.ref it)) Q E s :=
 kW I hh r ho hi hne ⟨hq, hend⟩
theorem St.relabel {env : Env} {W : Gh} {Z : AV} {σ : ab} {s : Shared} {a : Addr} {o : Obj} {l : cn} {h' : Heap} {t : Nat} (T : St C env W Z σ s) (ha : W a = .kept o) (hc : ∀ ov, o.data ≠ .cell ov) (hl : l.soft h' a)
  (hs : ∀ b ob, b ≠ a -> s.heap.get? b = some ob -> h'.get? b = some ob) : St C env (W.set a l) Z σ { s with heap := h', toks := t } := by
 have F := T.2
 have bM := Gh.d6 (l := l) ha
 have ownk : ∀ b ob, W b = .own -> s.heap.get? b = some ob -> h'.get? b = some ob := fun b ob hb e => hs b ob (by rintro rfl; rw [ha] at hb; exact nomatch hb) e
 have ownl : ∀ b, W b = .own -> (W.set a l) b = .own := fun b hb => by refine aa (Gh.aD _ _ (by rintro rfl; rw [ha] at hb; cases hb)) ?_; exact hb
 refine ⟨T.1.relabel ha hl hs, F.sc, F.kind, F.gl, F.bi, ownl _ F.own, ?_, fun i x k hx => ?_, F.nodup, F.apart, F.cd⟩
 ·refine iG (F.ns) fun m ob es ep e r => ?_
  exact ⟨m, ob, es, ep, ownk _ _ F.own e, r⟩
 ·have hsl := F.slot i x k hx
  induction k using Kd.casesOn with
  | loc => refine cj hsl ?_; clear hsl; intro p m hn27_2 q; obtain ⟨ob, es, ep, e, r⟩ := hn27_2; exact ⟨p, m, ⟨ob, es, ep, ownk _ _ F.own e, r⟩, q.mono bM⟩
  | cel => refine bP hsl ?_; clear hsl; intro p c b d ov hn28_5 q; obtain ⟨ob, e, r⟩ := hn28_5; exact ⟨p, c, b, ownl _ d, ov, ⟨ob, ownk _ _ d e, r⟩, q.mono bM⟩
  | cap =>
   refine bP hsl ?_; clear hsl; intro p c b hn29_3 ov hn29_5 q; obtain ⟨o', d⟩ := hn29_3; obtain ⟨ob, e, r⟩ := hn29_5
   have hca : c ≠ a := by
    rintro rfl
    rw [ha] at d; refine aa d ?_
    refine ae (T.1.kept _ _ ha) fun o' e' sm => ?_
    rw [e'] at e; cases e
    exact hc _ (sm.data.symm.trans r)
   exact ⟨p, c, b, ⟨o', by refine aa (Gh.aD _ _ hca) ?_; exact d⟩, ov, ⟨ob, hs _ _ hca e, r⟩, q.mono bM⟩
noncomputable def hE (v : AV) (asg : AV -> AV -> (AV -> RS) -> RS) (b e : AV -> ab -> RS) (n : Nat) : Nat -> AV -> ab -> RS :=
 @Nat.rec (fun _ => Nat -> AV -> ab -> RS) (fun _ _ _ => .fail) (fun _ ih j Z σ => v.walk σ j (fun x => asg Z x fun Z => (b Z σ).turn (ih (Nat.succ j))) (e Z σ)) n
noncomputable def EH (N : Nat) (asg : AV -> AV -> (AV -> RS) -> RS) (d : DE) (b e : DS) : DS := fun ih Z σ => (d ih Z σ).aX fun v Z σ => hE (v.src σ) asg (b ih) (e ih) N 0 Z σ
theorem mR (v : AV) (asg : AV -> AV -> (AV -> RS) -> RS) (b e : AV -> ab -> RS) (n j : Nat) (Z : AV) (σ : ab) :
  hE v asg b e (n + 1) j Z σ = v.walk σ j (fun x => asg Z x fun Z => (b Z σ).turn (hE v asg b e n (j + 1))) (e Z σ) := rfl
inductive Ea (C : Cx) (env : Env) (W1 : Gh) (it : Addr) (x : Value) (vs : AV) (F : Nat -> Nat -> AV -> ab -> RS) (res : RS) (n : Nat) (s : Shared) : Prop
 | mk (W' : Gh) (j : Nat) (Z' : AV) (σ' : ab) (o' : Obj) (w : W1.le W') (T : St C env W' Z' σ' s) (hw : W' it = .kept o') (hi : fh vs x o' j) (hf : F n j Z' σ' = res)
theorem Gh.jT {W W' : Gh} {a : Addr} {l : cn} (h : W.le W') (fr : W a = .free) : W.le (W'.set a l) := fun b hb => (Gh.aD _ _ fun e => hb ((congrArg W e).trans fr)).trans (h b hb)
theorem fh.wF {v : AV} {x : Value} {o : Obj} {j : Nat} (h : fh v x o j) (ov : Option Value) : o.data ≠ .cell ov := aN h.Ay fun _ _ _ d _ q => Data.noConfusion (d.symm.trans q)
theorem St.dy {env : Env} {W : Gh} {Z : AV} {σ : ab} {s : Shared} {o : Obj} (T : St C env W Z σ s) (hf : o.isFreed = false) : St C env (W.set s.heap.objs.size (.kept o)) Z σ { s with heap := s.heap.push o } :=
 T.value (Gh.aQ T.1.free) (T.1.dy (t := s.toks) T.1.free (Heap.get?_push_size _ hf) (Keeps.push _ _)) (Keeps.own (Keeps.push _ _))
theorem yY {N : Nat} {t ie : Expr} {b e : List Stmt} {pos : Pos} {asg : AV -> AV -> (AV -> RS) -> RS} {d : DE} {db de : DS} (hms : (D.B.get? sysModules).isSome = true) (hq : C.q = true) (hfs : ∀ env x, foldedSetIterable ie env x = pure x) (ha : oY C t asg) (h1 : aS C lv ie d) (h2 : dR C lv b db) (h3 : dR C lv e de) :
  hM C lv (.For t ie b e pos) (EH N asg d db de) := fun r ih A env W Z σ s P hne => by
 refine aW (P := fun r => wpAny _ _ _ (aO C env W r) _ _) hne fun v l1 s1 e1 e3 => ?_
 generalize hres : hE (v.src s1) asg (db ih) (de ih) N 0 l1 s1 = res at e3
 refine nz (wpAny_mono (h1 r ih A env W Z σ s P _ _ _ e1) (fun x sa ha1 => af ha1 fun W1 w1 T1 r1 => ?_) fun _ _ x => x) (hfs env)
 induction N using Nat.casesOn with
 | zero => exact absurd hres.symm e3
 | succ N =>
 refine mS hms T1.1 r1 (nB fun q => e3 (hres.symm.trans q)) fun x o r1 hfo hco hit => ?_
 generalize v.src s1 = vs at *
 refine kP (Ea C env W1 sa.heap.objs.size x vs (hE vs asg (db ih) (de ih)) res) (fun n s' hI => ?_) (N + 1) (.mk _ 0 l1 s1 o (Gh.aQ T1.1.free) (T1.dy hfo) (Gh.aq ..) hit hres)
 induction hI using Ea.casesOn with
 | mk W' j Z' σ' o' w' T' hw' hi' hf =>
 induction n using Nat.casesOn with
 | zero => exact absurd hf.symm e3
 | succ n =>
  have hf : vs.walk σ' j (fun x => asg Z' x fun Z => (db ih Z σ').turn (hE vs asg (db ih) (de ih) n (j + 1))) (de ih Z' σ') = res := hf
  refine aN hi'.Ay fun _ _ _ d0 _ => ae (T'.1.kept _ _ hw') fun o2 ho' sm => ?_
  obtain rfl := sm.wK d0
  have lew : ∀ l, W1.le (W'.set sa.heap.objs.size l) := fun l => Gh.jT w' T1.1.free
  refine kW T'.1 (P.hn hq) (r1.mono w'.bM) ho' hi' (fun q => e3 (hf.symm.trans q)) ⟨fun y z o1 h' tk hk ry ho1 hi1 hs1 => ?_, fun hk h' hs1 => ?_⟩
  ·refine ae (ha Z' y _ fun q => e3 (hf.symm.trans (hk.trans q))) fun Z2 ea wa => aN hi1.cls fun nm fs c1 d1 c2 => .some (fun _ _ => fI ho1 c1 d1 c2) ?_
   have hf := ea.symm.trans (hk.symm.trans hf)
   refine wpAny_mono (wa A env _ σ' _ z P.op P.hn (T'.relabel (t := tk) hw' hi'.wF (.inr ⟨o1, rfl, ho1⟩) hs1) (ry.mono (Gh.d6 hw'))) (fun _ sb hb => ae hb fun W4 w4 T4 => ?_) fun _ _ x => x
   have w4' := (lew _).trans w4
   exact wpAny_mono (h2 r ih A env W4 _ _ _ (P.next T4 (w1.trans w4')) (j9 hf e3)) (fun f sc hc => nR hf e3 (w1.trans w4') hc fun W5 l5 s5 w5 T5 h5 => .mk W5 (j + 1) l5 s5 o1 (w4'.trans w5) T5 (w5.kept (w4.kept (Gh.aq ..))) hi1 h5) fun _ _ x => x
  ·have hf := hk.symm.trans hf
   subst hf
   exact .none (wpAny_mono (h3 r ih A env _ _ _ _ (P.next (T'.relabel (l := .free) (t := s'.toks) hw' hi'.wF (.inl rfl) hs1) (w1.trans (lew _))) e3) (fun f sb hb => hb.up (w1.trans (lew _))) fun _ _ x => x)
end
section
open PySem PyProof.Rows
variable {C : Cx} {lv : Nat}
noncomputable def cG (x : Str) (y : Value) : Prop := ∃ mg, D.B.Ns mainGlobals mg /\ (mg x = some y \/ mg x = none /\ ∃ mb, D.B.Ns builtinsNs mb /\ mb x = some y)
theorem Inv.bK {W : Gh} {σ : ab} {s : Shared} (I : Inv W σ s) : ∀ b o, D.B.get? b = some o -> s.heap.get? b = some o := fun b o e => I.az b o (I.base b o e)
theorem c5 {x : Str} {y : Value} {pos : Pos} {M : Model} {A : Around} {E : Value -> Shared -> Prop} {Q : Value -> Shared -> Prop} {env : Env} {W : Gh} {Z : AV} {σ : ab} {s : Shared} (hx : C.sc.names.lookup x = some .globalImplicit) (hg : cG x y)
  (hd : (x == ("__debug__" : Str)) = false) (T : St C env W Z σ s) (h : Q y s) : wpAny M A (eval (.Name x pos) env) Q E s := by
 refine ae hg ?_; clear hg; intro mg hn hv
 have F := T.2
 have hn' : s.heap.Ns env.globals mg := by refine aa F.gl ?_; exact hn.keeps T.1.bK
 refine Calls.Name_function_global (by refine aa F.sc ?_; exact F.kind) (by unfold Env.kindOf; refine aa F.sc ?_; exact hx) ?_ hd
 rcases hv with hv | ⟨hv, mb, hb, hv'⟩
 ·exact Calls.loadGlobal_global hn' hv h
 ·exact Calls.loadGlobal_builtin hn' hv (by refine aa F.bi ?_; exact hb.keeps T.1.bK) hv' h
theorem jY {x : Str} {y : Value} {v : AV} {pos : Pos} (hx : C.sc.names.lookup x = some .globalImplicit) (hd : (x == ("__debug__" : Str)) = false) (hg : cG x y) (hv : ∀ W : Gh, (∀ a o, D.B.get? a = some o -> W a = .az o) -> RV W v y) :
  aS C lv (.Name x pos) (dK v) := fun r ih A env W Z σ s P v' Z' σ' h => by
 refine R.ve h ?_
 exact c5 hx hg hd P.st ⟨W, .refl W, P.st, hv W P.st.1.base⟩
noncomputable def dE : DE := fun _ Z σ => .val .nil Z σ
noncomputable def dB (d e : DE) : DE := fun ih Z σ => (d ih Z σ).bind fun x Z σ => (e ih Z σ).bind fun l Z σ => .val (.cons x l) Z σ
theorem ln : jZ C lv [] dE := fun r ih A env W Z σ s P v Z' σ' h pos => by
 refine R.ve h ?_
 exact wpAny_items_nil ⟨W, .refl W, P.st, .nil⟩
theorem xN {e : Expr} {es : List Expr} {d1 d2 : DE} (he : ∀ env, starEach (e :: es) env = (false, eval e env) :: starEach es env) (h1 : aS C lv e d1) (h2 : jZ C lv es d2) : jZ C lv (e :: es) (dB d1 d2) := fun r ih A env W Z σ s P v Z' σ' h pos => by
 refine ak (R.ai h) fun x l1 s1 e1 h => ?_
 refine ak (R.ai h) fun l l2 s2 e2 h => ?_
 refine R.ve h ?_
 refine wpAny_items_cons (wpAny_mono (h1 r ih A env W Z σ s P _ _ _ e1) (fun vx sa ha => ?_) fun _ _ x => x) (he env)
 refine af ha ?_; clear ha; intro W1 w1 T1 r1
 refine wpAny_mono (h2 r ih A env W1 _ _ sa (P.next T1) _ _ _ e2 pos) (fun vy sb hb => ?_) fun _ _ x => x
 refine af hb ?_; clear hb; intro W2 w2 T2 r2
 exact ⟨W2, w1.trans w2, T2, .cons _ _ _ _ (r1.mono w2.bM) r2⟩
noncomputable def yG (C : Cx) (lv : Nat) (ks : List Keyword) (d : DE) : Prop := ∀ r ih A env W Z σ s, Pre C lv r ih A env W Z σ s -> ∀ v Z' σ', d ih Z σ = .val v Z' σ' ->
 ∀ pos, wpAny (model D.prog D.w) A (evalAll ((backToKw pos (keywordEach ks env)).map (·.2))) (mh C env W v Z' σ') No s
theorem aK : yG C lv [] dE := fun r ih A env W Z σ s P v Z' σ' h pos => by
 refine R.ve h ?_
 exact wpAny_evalAll_nil ⟨W, .refl W, P.st, .nil⟩
theorem qh {n : Str} {kp : Pos} {e : Expr} {ks : List Keyword} {d1 d2 : DE} (h1 : aS C lv e d1) (h2 : yG C lv ks d2) : yG C lv (⟨some n, e, kp⟩ :: ks) (dB d1 d2) := fun r ih A env W Z σ s P v Z' σ' h pos => by
 refine ak (R.ai h) fun x l1 s1 e1 h => ?_
 refine ak (R.ai h) fun l l2 s2 e2 h => ?_
 refine R.ve h ?_
 show wpAny _ _ (evalAll ((do let v <- eval e env; standAt pos; pure v) :: (backToKw pos (keywordEach ks env)).map (·.2))) _ _ _
 refine wpAny_evalAll_cons (wpAny_bind (wpAny_mono (h1 r ih A env W Z σ s P _ _ _ e1) (fun vx sa ha => ?_) fun _ _ x => x))
 refine af ha ?_; clear ha; intro W1 w1 T1 r1
 refine wpAny_bind (wpAny_standAt (wpAny_pure ?_))
 refine wpAny_mono (h2 r ih A env W1 _ _ sa (P.next T1) _ _ _ e2 pos) (fun vy sb hb => ?_) fun _ _ x => x
 refine af hb ?_; clear hb; intro W2 w2 T2 r2
 exact ⟨W2, w1.trans w2, T2, .cons _ _ _ _ (r1.mono w2.bM) r2⟩
noncomputable def dX (es : List Expr) : Prop := ∀ env, ∃ l, starEach es env = l /\ (es = [] \/ ∃ e rest, l = (false, e) :: rest)
theorem qj (pos : Pos) (e : Sem Value) (rest : List (Bool × Sem Value)) : backTo pos ((false, e) :: rest) = (false, e) :: backTo pos rest := rfl
theorem tm : ∀ (ks : List Keyword) (env : Env) (pos : Pos), (∀ k ∈ ks, k.arg.isSome = true) -> (backToKw pos (keywordEach ks env)).filterMap (·.1) = ks.filterMap (·.arg) /\ (backToKw pos (keywordEach ks env)).all (·.1.isSome) = true
 | [], _, _, _ => ⟨rfl, rfl⟩
 | ⟨none, e, _⟩ :: ks, env, pos, h => absurd (h _ List.mem_cons_self) (by simp)
 | ⟨some n, e, _⟩ :: ks, env, pos, h => by
  refine ba (tm ks env pos fun k hk => h k (List.mem_cons_of_mem _ hk)) fun a b => ?_
  constructor
  ·show n :: (backToKw pos (keywordEach ks env)).filterMap (·.1) = n :: ks.filterMap (·.arg)
   exact aa a rfl
  ·show (true && (backToKw pos (keywordEach ks env)).all (·.1.isSome)) = true
   refine aa b ?_; rfl
theorem dn {es : List Expr} {ks : List Keyword} {d k : DE} {f : Value} {r : Nat} {ih : CH} {A : Around} {env : Env} {W : Gh} {Z : AV} {σ : ab} {s : Shared} {Q : Args -> Shared -> Prop} (hs : dX es) (hk : ∀ k ∈ ks, k.arg.isSome = true)
  (P : Pre C lv r ih A env W Z σ s) (h1 : jZ C lv es d) (h2 : yG C lv ks k) {v1 l1 s1 v2 l2 s2} (e1 : d ih Z σ = .val v1 l1 s1) (e2 : k ih l1 s1 = .val v2 l2 s2) (pos : Pos)
  (h : ∀ W' vs kvs s', W.le W' -> St C env W' l2 s2 s' -> RL W' v1 vs -> RL W' v2 kvs -> Q ⟨vs, (ks.filterMap (·.arg)).zip kvs⟩ s') :
  wpAny (model D.prog D.w) A (evalArgs f true (backTo pos (starEach es env)) (backToKw pos (keywordEach ks env))) Q No s := by
 refine ba (tm ks env pos hk) fun n1 n2 => ?_
 have both : wpAny (model D.prog D.w) A (spliced (backTo pos (starEach es env))) (fun vs sa => wpAny (model D.prog D.w) A (evalAll ((backToKw pos (keywordEach ks env)).map (·.2))) (fun kvs sb => Q ⟨vs, ((backToKw pos (keywordEach ks env)).filterMap (·.1)).zip kvs⟩ sb) No sa) No s := by
  refine wpAny_mono (h1 r ih A env W Z σ s P _ _ _ e1 pos) (fun vs sa ha => ?_) fun _ _ x => x
  refine af ha ?_; clear ha; intro W1 w1 T1 r1
  refine wpAny_mono (h2 r ih A env W1 _ _ sa (P.next T1) _ _ _ e2 pos) (fun kvs sb hb => ?_) fun _ _ x => x
  refine af hb ?_; clear hb; intro W2 w2 T2 r2
  refine aa n1 ?_
  exact h W2 vs kvs sb (w1.trans w2) T2 (r1.mono w2.bM) r2
 refine ae (hs env) fun l hl hc => ?_
 rcases hc with rfl | ⟨e, rest, hc⟩
 ·have : backTo pos (starEach [] env) = [] := rfl
  rw [this] at both ⊢
  refine evalArgs_kw_nil n2 ?_
  exact fun Γ p hΓ => (both Γ p hΓ) Γ p hΓ
 ·rw [hl, hc, qj] at both ⊢
  exact evalArgs_kw n2 both
noncomputable def FnAt (f : Nat) : Prop := Nat.beq f jJ = false /\ ∃ o fd, D.B.get? (D.fn f).addr = some o /\ o.data = .func fd
theorem Pre.rr {r : Nat} {ih : CH} {A : Around} {env : Env} {W : Gh} {Z : AV} {σ : ab} {s : Shared} (P : Pre C lv r ih A env W Z σ s) : cP r A :=
 ⟨by have := P.room.1; lia, by have := P.room.2; lia⟩
theorem Pre.uj {r : Nat} {ih : CH} {A : Around} {env : Env} {W W' : Gh} {Z : AV} {σ : ab} {s : Shared} (P : Pre C lv r ih A env W Z σ s) (w : W.le W') : ∃ l, A.frames = some l /\ cZ W' l :=
 let ⟨f, l, a, b, _⟩ := P.frs; ⟨_, a, b.le w⟩
noncomputable def AV.app (a b : AV) : AV := AV.fH b (fun x _ ih => .cons x ih) a
theorem RL.app {W : Gh} {b : AV} {ys : List Value} (h : RL W b ys) {a : AV} {xs : List Value} (r : RL W a xs) : RL W (a.app b) (xs ++ ys) :=
 RL.ind (motive := fun a xs => RL W (a.app b) (xs ++ ys)) h (fun v l x xs r _ ih => .cons v _ x _ r ih) r
noncomputable def jw (f : Nat) (d k : DE) : DE := fun ih Z σ => (d ih Z σ).bind fun x Z σ => (k ih Z σ).bind fun y Z σ => (ih f (x.app y) σ).bind fun v _ σ => .val v Z σ
theorem AH {x : Str} {p pos : Pos} {f : Nat} {es : List Expr} {ks : List Keyword} {d k : DE} (hq : C.q = true) (hx : C.sc.names.lookup x = some .globalImplicit) (hd : (x == ("__debug__" : Str)) = false) (hg : cG x (.ref (D.fn f).addr)) (hf : FnAt f)
  (hkw : ks.filterMap (·.arg) = (D.fn f).kw) (hkl : (ks.filterMap (·.arg)).length = ks.length) (hs : dX es) (hk : ∀ k ∈ ks, k.arg.isSome = true) (hlen : ∀ ih Z σ v l s W vs, k ih Z σ = .val v l s -> RL W v vs -> vs.length = ks.length) (h1 : jZ C lv es d) (h2 : yG C lv ks k) :
  aS C lv (.Call (.Name x p) es ks pos) (jw f d k) := fun r ih A env W Z σ s P v Z' σ' h => by
 refine ak (R.ai h) fun v1 l1 s1 e1 h => ?_
 refine ak (R.ai h) fun v2 l2 s2 e2 h => ?_
 refine ak (R.ai h) fun u l3 s3 e3 h => ?_
 refine R.ve h ?_
 have fr := hf.1; have hf := hf.2
 refine ag hf ?_; clear hf; intro o fd ho hdat
 refine wpAny_Call_Name_kw (c5 hx hg hd P.st ?_)
 refine callWith_function_kw (o := o) (fd := fd) (dn hs hk P h1 h2 e1 e2 pos fun W' vs kvs s' w T r1 r2 => ⟨⟨T.1.bK _ _ ho, hdat⟩, ?_⟩)
 refine wpAny_call ?_
 rw [List.nil_append]; refine aa hkw ?_
 refine codeAny_mono (P.ok f (v1.app v2) s2 _ l3 _ e3 A W' s' _ vs kvs (.inl ⟨fr, rfl⟩) P.rr (P.hn hq) (P.uj w) T.1 (r2.app r1) (by refine aa (hlen _ _ _ _ _ _ _ _ e2 r2) ?_; refine bw hkl ?_; exact aa hkw rfl)) (fun rr s'' hr => ?_)
 refine ae hr ?_; clear hr; intro y q1 hv; obtain rfl := q1
 exact hv.frame T w
end
section
open PySem PyProof.Rows
variable {C : Cx} {lv : Nat}
noncomputable def cn.low (l : cn) : Prop := l = .own \/ ∃ o, l = .kept o
theorem Inv.swap {W1 W2 : Gh} {σ : ab} {s : Shared} (I : Inv W1 σ s) (h : ∀ b, W2 b = W1 b \/ (cn.low (W1 b) /\ cn.low (W2 b) /\ (∀ o, W2 b = .kept o -> ∃ o', s.heap.get? b = some o' /\ lL o o') /\ (W2 b = .own -> ∃ o, s.heap.get? b = some o /\ fk o))) : Inv W2 σ s := by
 have lev1 : ∀ {a : Addr} {l : cn}, W1 a = l -> ¬ cn.low l -> W2 a = l := fun {a l} e n => by
  rcases h a with q | ⟨q, _⟩
  ·refine aa q ?_; exact aa e rfl
  ·exact absurd (e ▸ q) n
 have bM : W1.bM W2 := ⟨fun e => lev1 e (by rintro (q | ⟨_, q⟩) <;> cases q), fun e => lev1 e (by rintro (q | ⟨_, q⟩) <;> cases q), fun e => lev1 e (by rintro (q | ⟨_, q⟩) <;> cases q)⟩
 have back : ∀ b l, W2 b = l -> ¬ cn.low l -> W1 b = l := fun b l e n => by
  rcases h b with q | ⟨_, q, _⟩
  ·refine bw q ?_; exact aa e rfl
  ·exact absurd (e ▸ q) n
 refine ⟨fun a o e => bM.az (I.base a o e), fun a o e => I.az a o (back a _ e (by rintro (q | ⟨_, q⟩) <;> cases q)), fun a o e => ?_, fun a e => ?_, fun a e => ?_, fun i o hi => ?_, fun i a b h1 h2 => ?_, fun i a hi => ?_, I.gens, I.os, I.tab.keep (lev1 I.tab.1 (by rintro (q | ⟨_, q⟩) <;> cases q)) (fun e => lev1 e (by rintro (q | ⟨_, q⟩) <;> cases q)) fun _ e => e⟩
 ·rcases h a with q | ⟨_, _, q, _⟩
  ·exact I.kept a o (by refine bw q ?_; exact aa e rfl)
  ·exact q o e
 ·rcases h a with q | ⟨_, _, _, q⟩
  ·exact I.own a (by refine bw q ?_; exact aa e rfl)
  ·exact q e
 ·refine I.ex a fun q => e ?_
  rcases h a with p | ⟨p, _, _⟩
  ·refine aa p ?_; exact aa q rfl
  ·rw [q] at p; rcases p with p | ⟨_, p⟩ <;> cases p
 ·refine ae (I.bu i o hi) fun a e r => ?_
  exact ⟨a, bM.bu e, r.keep bM e fun _ _ _ e => e⟩
 ·exact I.inj i a b (back a _ h1 (by rintro (q | ⟨_, q⟩) <;> cases q)) (back b _ h2 (by rintro (q | ⟨_, q⟩) <;> cases q))
 ·refine I.nxt i a ?_
  rcases hi with hi | hi
  ·exact .inl (back a _ hi (by rintro (q | ⟨_, q⟩) <;> cases q))
  ·exact .inr (back a _ hi (by rintro (q | ⟨_, q⟩) <;> cases q))
open Classical in
noncomputable def hide (W : Gh) (h : Heap) : Gh := fun b => if W b = .own then (match h.get? b with | some o => .kept o | none => .own) else W b
open Classical in
noncomputable def bN (W W' : Gh) : Gh := fun b => if W b = .own then .own else W' b
theorem d5 {W : Gh} {h : Heap} {b : Addr} {o : Obj} (e : W b = .own) (e' : h.get? b = some o) : hide W h b = .kept o := by unfold hide; refine aa (if_pos e) ?_; exact aa e' rfl
theorem dz {W : Gh} {h : Heap} {b : Addr} (e : W b ≠ .own) : hide W h b = W b := by unfold hide; exact aa (if_neg e) rfl
theorem qf (W : Gh) (h : Heap) : W.bM (hide W h) := ⟨fun e => by refine aa (dz (by rw [e]; exact fun x => nomatch x)) ?_; exact e, fun e => by refine aa (dz (by rw [e]; exact fun x => nomatch x)) ?_; exact e, fun e => by refine aa (dz (by rw [e]; exact fun x => nomatch x)) ?_; exact e⟩
theorem Inv.hide {W : Gh} {σ : ab} {s : Shared} (I : Inv W σ s) : Inv (hide W s.heap) σ s := I.swap fun b => by
 by_cases e : W b = .own
 ·refine ae (I.own b e) fun o ho _ => ?_
  exact .inr ⟨.inl e, .inr ⟨o, d5 e ho⟩, (fun o' h => by rw [d5 e ho] at h; cases h; exact ⟨o, ho, .refl o⟩), fun h => by rw [d5 e ho] at h; cases h⟩
 ·exact .inl (dz e)
theorem cZ.hide {W : Gh} {σ : ab} {s : Shared} {l : List Env} (h : cZ W l) (I : Inv W σ s) : cZ (Mine.hide W s.heap) l := fun e he => by
 refine cj (h e he) fun k L f x => ?_
 refine ⟨k, L, f, .inr ?_⟩
 rcases x with x | ⟨o, x, y⟩
 ·refine ae (I.own L x) fun o ho z => ?_
  exact ⟨o, d5 x ho, z⟩
 ·exact ⟨o, by refine aa (dz (by rw [x]; exact fun x => nomatch x)) ?_; exact x, y⟩
theorem Inv.bN {W W' : Gh} {σ σ' : ab} {s s' : Shared} (I : Inv W σ s) (l : (Mine.hide W s.heap).le W') (J : Inv W' σ' s') : W.le (bN W W') /\ Inv (bN W W') σ' s' /\ aJ W s.heap s'.heap /\ W'.bM (bN W W') := by
 have ow : ∀ b, W b = .own -> ∃ o, s.heap.get? b = some o /\ W' b = .kept o /\ fk o := fun b e => by
  refine ae (I.own b e) fun o ho z => ?_
  exact ⟨o, ho, l.kept (d5 e ho), z⟩
 have sw : ∀ b, Mine.bN W W' b = W' b \/ (cn.low (W' b) /\ cn.low (Mine.bN W W' b) /\ (∀ o, Mine.bN W W' b = .kept o -> ∃ o', s'.heap.get? b = some o' /\ lL o o') /\ (Mine.bN W W' b = .own -> ∃ o, s'.heap.get? b = some o /\ fk o)) := fun b => by
  by_cases e : W b = .own
  ·refine af (ow b e) fun o ho hk z => ?_
   have u : Mine.bN W W' b = .own := by unfold Mine.bN; rw [if_pos e]
   exact .inr ⟨.inr ⟨o, hk⟩, .inl u, (fun o' h => by rw [u] at h; cases h), fun _ => let ⟨o', e', r⟩ := J.kept b o hk; ⟨o', e', r.soft z⟩⟩
  ·exact .inl (by unfold Mine.bN; rw [if_neg e])
 refine ⟨fun b hb => ?_, J.swap sw, fun b o e ho => ?_, ?_⟩
 ·by_cases e : W b = .own
  ·unfold Mine.bN; rw [if_pos e, e]
  ·unfold Mine.bN; rw [if_neg e, l b (by rw [dz e]; exact hb), dz e]
 ·exact J.kept b o (l.kept (d5 e ho))
 ·have nl : ∀ {b l}, W' b = l -> ¬ cn.low l -> Mine.bN W W' b = l := fun {b l} e n => by
   rcases sw b with q | ⟨q, _⟩
   ·rw [q, e]
   ·exact absurd (e ▸ q) n
  exact ⟨fun e => nl e (by rintro (q | ⟨_, q⟩) <;> cases q), fun e => nl e (by rintro (q | ⟨_, q⟩) <;> cases q), fun e => nl e (by rintro (q | ⟨_, q⟩) <;> cases q)⟩
theorem kA (kindOf : Str -> Option NameKind) : ∀ (binds : List (Str × Value)) (m : Str -> Option Value) (x : Str), bindL kindOf binds m x = if kindOf x = some .local then (binds.reverse.lookup x).or (m x) else m x
 | [], m, x => by unfold bindL; simp
 | (n, v) :: r, m, x => by
  unfold bindL
  rw [kA kindOf r, List.reverse_cons, List.lookup_append]
  by_cases hx : kindOf x = some .local
  ·rw [if_pos hx, if_pos hx]
   by_cases hn : kindOf n = some .local
   ·rw [if_pos hn]
    by_cases e : x = n
    ·subst e; cases List.lookup x r.reverse <;> simp
    ·have : (x == n) = false := beq_eq_false_iff_ne.mpr e
     cases List.lookup x r.reverse <;> simp [e, this, List.lookup]
   ·refine aa (if_neg hn) ?_
    have e : x ≠ n := by rintro rfl; exact hn hx
    have : (x == n) = false := beq_eq_false_iff_ne.mpr e
    cases List.lookup x r.reverse <;> simp [this, List.lookup]
  ·refine aa (if_neg hx) ?_; refine aa (if_neg hx) ?_
   by_cases hn : kindOf n = some .local
   ·rw [if_pos hn]
    have e : x ≠ n := by rintro rfl; exact hx hn
    simp [e]
   ·exact aa (if_neg hn) rfl
theorem pG (kindOf : Str -> Option NameKind) : ∀ (binds : List (Str × Value)) (m : Str -> Option Value) (x : Str), bindC kindOf binds m x = if kindOf x = some .local then m x else (binds.reverse.lookup x).or (m x)
 | [], m, x => by unfold bindC; simp
 | (n, v) :: r, m, x => by
  unfold bindC
  rw [pG kindOf r, List.reverse_cons, List.lookup_append]
  by_cases hx : kindOf x = some .local
  ·rw [if_pos hx, if_pos hx]
   by_cases hn : kindOf n = some .local
   ·rw [if_pos hn]
   ·rw [if_neg hn]
    have e : x ≠ n := by rintro rfl; exact hn hx
    simp [e]
  ·refine aa (if_neg hx) ?_; refine aa (if_neg hx) ?_
   by_cases hn : kindOf n = some .local
   ·refine aa (if_pos hn) ?_
    have e : x ≠ n := by rintro rfl; exact hx hn
    have : (x == n) = false := beq_eq_false_iff_ne.mpr e
    cases List.lookup x r.reverse <;> simp [this, List.lookup]
   ·rw [if_neg hn]
    by_cases e : x = n
    ·refine aa e ?_; cases List.lookup x r.reverse <;> simp
    ·have : (x == n) = false := beq_eq_false_iff_ne.mpr e
     cases List.lookup x r.reverse <;> simp [e, this, List.lookup]
theorem cB : ∀ (names : List (Str × NameKind)) (n : Nat) (acc : List (Str × Addr)) (x : Str), ((x, NameKind.cell) ∈ names \/ (acc.lookup x).isSome = true) -> ((cellsFrom n names acc).lookup x).isSome = true
 | [], n, acc, x, h => by rcases h with h | h; exact (nomatch h); exact h
 | (y, k) :: r, n, acc, x, h => by
  unfold cellsFrom
  split
  ·rename_i hk
   refine cB r _ _ x ?_
   by_cases e : x = y
   ·refine aa e ?_; right; simp
   ·rcases h with h | h
    ·rcases List.mem_cons.mp h with h | h
     ·cases h; exact absurd rfl e
     ·exact .inl h
    ·right
     refine aa List.lookup_cons ?_; refine aa (beq_eq_false_iff_ne.mpr e) ?_; exact h
  ·rename_i hk
   refine cB r _ _ x ?_
   rcases h with h | h
   ·rcases List.mem_cons.mp h with h | h
    ·cases h; exact absurd rfl hk
    ·exact .inl h
   ·exact .inr h
noncomputable def Kd.Bx (k : Kd) (n : Option NameKind) : Bool := match k, n with | .loc, some .local => true | .cel, some .cell => true | _, _ => false
noncomputable def vC (C : Cx) : Bool := C.ns.all (fun xk => xk.2.Bx (C.sc.names.lookup xk.1)) && decide (C.ns.map (·.1)).Nodup && (C.sc.kind == .function) && !C.sc.isGenerator && !C.sc.isCoroutine
noncomputable def oD : FuncBody -> Env -> Code
 | .stmts b, env => .func b env
 | .expr e, env => .expr e env
structure BD (W : Gh) (C : Cx) (a : Addr) (fd : FuncData) (b : FuncBody) : Prop where
 get : ∃ o, W a = .az o /\ o.data = .func fd
 body : fd.body = b
 gl : fd.globals = mainGlobals
 bi : fd.builtins = builtinsNs
 clo : fd.closure = []
 sc : fd.scope = C.sc
 code : ∃ c oc vs q t, fd.code = .ref c /\ W c = .az oc /\ oc.data = .fields vs /\ vs[1]? = some (.str q t)
 lim : D.B.NoLimit
 cx : vC C = true
 cd : ∀ c, C.cd = some c -> fd.code = .ref c
 tk : C.tk = true -> ∀ x ∈ fd.scope.names, x.2 ≠ .cell
noncomputable def ja (f : Nat) (C : Cx) (fd : FuncData) (mk : AV -> (AV -> R) -> R) : Prop := ∀ args k v l σf, mk args k = .val v l σf -> ∃ Z, k Z = .val v l σf /\ ∀ A W σ s (pos kwv : List Value), cP 1 A -> Inv W σ s -> RL W args (pos ++ kwv) ->
 kwv.length = (D.fn f).kw.length -> wpAny (model D.prog D.w) A (bindArgs fd ⟨pos, (D.fn f).kw.zip kwv⟩) (fun binds s' => ∃ W', W.le W' /\ Inv W' σ s' /\ aJ W s.heap s'.heap /\ binds ≠ [] /\
  (∀ xv ∈ binds, ∃ (i : Nat) (k : Kd), C.ns[i]? = some (xv.1, k)) /\ ∀ (i : Nat) (x : Str) (k : Kd), C.ns[i]? = some (x, k) -> Slot W' (Z.bB i) (binds.reverse.lookup x)) No s
noncomputable def RS.zH (r : RS) : R := @RS.rec (fun _ => R) .fail (fun _ s => .val .none .nil s) (fun _ _ => .fail) (fun _ _ => .fail) (fun v _ s => .val v .nil s) r
noncomputable def enter (mk : AV -> (AV -> R) -> R) (d : DS) : CH -> AV -> ab -> R := fun ih args σ => mk args fun Z => (d ih Z σ).zH
theorem sy (h : vC C = true) {i : Nat} {x : Str} {k : Kd} (hx : C.ns[i]? = some (x, k)) : (k = .loc /\ C.sc.names.lookup x = some .local) \/ (k = .cel /\ C.sc.names.lookup x = some .cell) := by
 unfold vC at h
 simp only [Bool.and_eq_true, List.all_eq_true] at h
 have := h.1.1.1.1 _ (List.mem_of_getElem? hx)
 unfold Kd.Bx at this
 split at this
 ·rename_i h1 h2; exact .inl ⟨h1, h2⟩
 ·rename_i h1 h2; exact .inr ⟨h1, h2⟩
 ·exact nomatch this
open Classical in
noncomputable def Gh.c9 (W : Gh) (S : Addr -> Prop) : Gh := fun b => if S b then .own else W b
theorem Inv.ou {W : Gh} {σ : ab} {s : Shared} {S : Addr -> Prop} {h' : Heap} {t : Nat} (I : Inv W σ s) (hS : ∀ b, S b -> W b = .free /\ ∃ o, h'.get? b = some o /\ fk o) (hk : Keeps W s.heap h') : W.le (W.c9 S) /\ Inv (W.c9 S) σ { s with heap := h', toks := t } := by
 have J := I.same (t := t) hk
 have at1 : ∀ b, S b -> W.c9 S b = .own := fun b h => by unfold Gh.c9; exact aa (if_pos h) rfl
 have at2 : ∀ b, ¬ S b -> W.c9 S b = W b := fun b h => by unfold Gh.c9; exact aa (if_neg h) rfl
 have le : W.le (W.c9 S) := fun b hb => at2 b fun h => hb (hS b h).1
 have back : ∀ b l, W.c9 S b = l -> l ≠ .own -> W b = l := fun b l e n => by
  by_cases h : S b
  ·rw [at1 b h] at e; exact absurd e.symm n
  ·refine bw (at2 b h) ?_; exact e
 refine ⟨le, fun a o e => le.az (I.base a o e), fun a o e => J.az a o (back a _ e fun x => nomatch x), fun a o e => J.kept a o (back a _ e fun x => nomatch x), fun a e => ?_, fun a e => ?_, fun i o hi => ?_, fun i a b h1 h2 => I.inj i a b (back a _ h1 fun x => nomatch x) (back b _ h2 fun x => nomatch x), fun i a hi => ?_, I.gens, I.os, I.zN le hk⟩
 ·by_cases h : S a
  ·exact (hS a h).2
  ·exact J.own a (by refine bw (at2 a h) ?_; exact e)
 ·by_cases h : S a
  ·refine ae ((hS a h).2) fun o e _ => ?_; exact ⟨o, e⟩
  ·exact J.ex a (by refine bw (at2 a h) ?_; exact e)
 ·refine ae (J.bu i o hi) fun a e r => ?_
  exact ⟨a, le.bu e, r.keep le.bM e fun _ _ _ e => e⟩
 ·exact I.nxt i a (hi.imp (fun e => back a _ e fun x => nomatch x) fun e => back a _ e fun x => nomatch x)
noncomputable def dW (f : Nat) (C : Cx) (b : FuncBody) (mk : AV -> (AV -> R) -> R) : Prop := ∀ W x, (∀ a o, D.B.get? a = some o -> W a = .az o) -> mY W f x -> ∃ a fd, x = .ref a /\ BD W C a fd b /\ ja f C fd mk
noncomputable def aP (C : Cx) (d : DS) (b : FuncBody) : Prop := ∀ {r ih} {A : Around} {env W Z σ s}, Pre C 8 r ih (A.deeper env) env W Z σ s -> (C.tk = true -> 0 < s.toks) -> ∀ {v l σ'}, (d ih Z σ).zH = .val v l σ' ->
 codeAny (model D.prog D.w) A (oD b env) (fun r s' => ∃ x W', r = .ok (.ret x) /\ W.le W' /\ Inv W' σ' s' /\ RV W' v x) s
theorem aP.stmts {body : List Stmt} {d : DS} (hd : dR C 8 body d) : aP C d (.stmts body) := fun {r ih A env W Z σ s} P _ {v l σ'} hk => by
 have hne : d ih Z σ ≠ .fail := fun q => by rw [q] at hk; exact R.noConfusion hk
 refine codeAny_func (wpAny_mono (hd r ih _ env W Z σ s P hne) (fun fl s3 h3 => ?_) fun _ _ x => x.elim)
 cases hr : d ih Z σ with
 | fail => exact absurd hr hne
 | next l3 s4 =>
  rw [hr] at h3 hk; refine cj h3 ?_; clear h3; intro e0 W3 w3 T3; obtain rfl := e0
  cases hk
  exact ⟨_, W3, rfl, w3, T3.1, .none⟩
 | brk l3 s4 => rw [hr] at hk; exact R.noConfusion hk
 | cont l3 s4 => rw [hr] at hk; exact R.noConfusion hk
 | ret u l3 s4 =>
  rw [hr] at h3 hk; refine s8 h3 ?_; clear h3; intro y e0 W3 w3 T3 r3; obtain rfl := e0
  cases hk
  exact ⟨_, W3, rfl, w3, T3.1, r3⟩
theorem aP.expr {e : Expr} {d : DE} (hd : aS C 8 e d) : aP C (fun ih Z σ => (d ih Z σ).aX fun v Z σ => .ret v Z σ) (.expr e) := fun {r ih A env W Z σ s} P _ {v l σ'} hk => by
 have hk : ((d ih Z σ).aX fun v Z σ => .ret v Z σ).zH = .val v l σ' := hk
 cases hr : d ih Z σ with
 | fail => rw [hr] at hk; exact R.noConfusion hk
 | val u l3 s4 =>
  rw [hr] at hk
  cases hk
  exact PySem.W.kla_codeExpr (wpAny_mono (hd r ih _ env W Z σ s P _ _ _ hr) (fun y s3 h3 => af h3 fun W3 w3 T3 r3 => ⟨y, W3, rfl, w3, T3.1, r3⟩) fun _ _ x => x.elim)
noncomputable def CB (C : Cx) (lv : Nat) (b : List Stmt) (d : DS) : Prop := ∀ r ih A env W Z σ s, Pre C lv r ih A env W Z σ s -> 0 < s.toks -> d ih Z σ ≠ .fail -> wpAny (model D.prog D.w) A (execs b env) (aO C env W (d ih Z σ)) No s
theorem aP.CR {body : List Stmt} {d : DS} (ht : C.tk = true) (hd : CB C 8 body d) : aP C d (.stmts body) := fun {r ih A env W Z σ s} P tk {v l σ'} hk => by
 have hne : d ih Z σ ≠ .fail := fun q => by rw [q] at hk; exact R.noConfusion hk
 refine codeAny_func (wpAny_mono (hd r ih _ env W Z σ s P (tk ht) hne) (fun fl s3 h3 => ?_) fun _ _ x => x.elim)
 cases hr : d ih Z σ with
 | fail => exact absurd hr hne
 | next l3 s4 =>
  rw [hr] at h3 hk; refine cj h3 ?_; clear h3; intro e0 W3 w3 T3; obtain rfl := e0
  cases hk
  exact ⟨_, W3, rfl, w3, T3.1, .none⟩
 | brk l3 s4 => rw [hr] at hk; exact R.noConfusion hk
 | cont l3 s4 => rw [hr] at hk; exact R.noConfusion hk
 | ret u l3 s4 =>
  rw [hr] at h3 hk; refine s8 h3 ?_; clear h3; intro y e0 W3 w3 T3 r3; obtain rfl := e0
  cases hk
  exact ⟨_, W3, rfl, w3, T3.1, r3⟩
theorem yT {names : List (Str × NameKind)} : (∀ x ∈ names, x.2 ≠ .cell) -> ∀ n acc, cellsFrom n names acc = acc := by
 induction names with
 | nil => exact fun _ _ _ => rfl
 | cons x r ih =>
  intro h n acc
  unfold cellsFrom
  split
  ·rename_i hk
   exact absurd (eq_of_beq hk) (h _ (.head _))
  ·exact ih (fun y hy => h y (.tail _ hy)) n acc
theorem yJ {tk : Bool} {A : Around} {E : Value -> Shared -> Prop} {s : Shared} {scope : Scope} {globals : Addr} {binds : List (Str × Value)} {qual : Str} {func : Option Addr} {code : Value} {builtins : Addr} {Q : Env -> Shared -> Prop} (hk : scope.kind = .function)
  (hkind : ∀ x ∈ binds, scope.names.lookup x.1 = some .local \/ (scope.names.lookup x.1 = some .cell /\ ((cellsFrom (s.heap.objs.size + 1) scope.names []).lookup x.1).isSome = true)) (ht : tk = true -> (∀ x ∈ scope.names, x.2 ≠ .cell) /\ binds ≠ [])
  (hQ : ∀ env, env = newEnv scope s.heap.objs.size globals (cellsFrom (s.heap.objs.size + 1) scope.names []) qual func code none builtins ->
   ∀ s', InCallC s env.locals (bindL env.kindOf binds fun _ => none) env.cells (bindC env.kindOf binds fun _ => none) s' -> (tk = true -> 0 < s'.toks) -> Q env s') :
  wpAny (model D.prog D.w) A (newFunctionEnv scope globals [] binds qual func code none builtins) Q E s := by
 cases tk with
 | false => exact wpAny_newFunctionEnv_cells hk hkind fun env he s' x => hQ env he s' x fun e => Bool.noConfusion e
 | true =>
  obtain ⟨hc, hb⟩ := ht rfl
  have hl : ∀ x ∈ binds, scope.names.lookup x.1 = some .local := fun x hx => (hkind x hx).elim id fun h => absurd rfl (hc _ (mem_of_lookup h.1))
  refine wpAny_newFunctionEnv hc hl (fun h' hns hsb => ?_) hk
  refine hQ _ (by rw [yT hc]) _ ⟨⟨⟨_, _, rfl⟩, ?_, fun b o e => hsb.extBut b o (Nat.ne_of_lt (Heap.lt_size e)) (Heap.get?_push_of_some _ e), Nat.le_refl _⟩, (fun n c e => nomatch e), .nil, (fun n c e => nomatch e)⟩ fun _ => Nat.lt_of_lt_of_le (List.length_pos_iff.mpr hb) (Nat.le_add_left _ _)
  refine (funext fun x => ?_ : (fun x => binds.reverse.lookup x) = bindL _ binds fun _ => none) ▸ hns
  rw [kA]
  show _ = if scope.names.lookup x = some .local then _ else _
  by_cases q : scope.names.lookup x = some .local
  ·rw [if_pos q, Option.or_none]
  ·rw [if_neg q]
   cases e : List.lookup x binds.reverse with
   | none => rfl
   | some v => exact absurd (hl _ (List.mem_reverse.mp (mem_of_lookup e))) q
theorem yL {A : Around} {T : Result -> Shared -> Prop} {s : Shared} {a c : Addr} {args : Args} {o oc : Obj} {fd : FuncData} {vs : Array Value} {q : Str} {t : Tok} (hroom : A.depth < recursionLimit) (ho : s.heap.get? a = some o) (hd : o.data = .func fd) (hco : fd.scope.isCoroutine = false) (hgen : fd.scope.isGenerator = false)
  (hc : fd.code = .ref c) (hoc : s.heap.get? c = some oc) (hdc : oc.data = .fields vs) (hq : vs[1]? = some (.str q t))
  (h : wpAny (model D.prog D.w) A.in1 (bindArgs fd args) (fun binds s₁ => wpAny (model D.prog D.w) A.in1 (newFunctionEnv fd.scope fd.globals fd.closure binds (q ++ ".<locals>.") (some a) fd.code none fd.builtins)
   (fun env s₂ => s₂.heap.NoLimit /\ codeAny (model D.prog D.w) A (oD fd.body env) T s₂) No s₁) No s) : codeAny (model D.prog D.w) A (.call (.ref a) args) T s := by
 refine codeAny_of_tree ?_
 show wpAny _ A.in1 (callAny (.ref a) args) _ _ s
 unfold callAny
 refine wpAny_bind (wpAny_load ho ?_)
 rw [hd]
 show wpAny _ A.in1 (callFunction a fd args) _ _ s
 unfold callFunction
 rw [hco, hgen]
 rw [hc] at h ⊢
 refine wpAny_bind (m := field (.ref c) 1) (wpAny_field hoc hdc hq (wpAny_bind (wpAny_pure ?_)))
 refine wpAny_bind (wpAny_mono h (fun binds s₁ h₁ => wpAny_bind (wpAny_mono h₁ (fun env s₂ h₂ => wpAny_bind (wpAny_enterFrame h₂.1 hroom (wpAny_pure ?_))) fun _ _ x => x.elim)) fun _ _ x => x.elim)
 have k := h₂.2
 cases q2 : fd.body <;> rw [q2] at k <;> exact ⟨rfl, k⟩
theorem oU {f : Nat} {b : FuncBody} {mk : AV -> (AV -> R) -> R} {d : DS} (S0 : dW f C b mk) (hd : aP C d b) {r : Nat} {ih : CH} (hih : c4 r ih) :
  ∀ args σ v l σ', enter mk d ih args σ = .val v l σ' -> ∀ (A : Around) W s (x : Value) (pos kwv : List Value), mY W f x -> cP (r + 12) A -> A.handled = none -> (∃ l, A.frames = some l /\ cZ W l) -> Inv W σ s -> RL W args (pos ++ kwv) -> kwv.length = (D.fn f).kw.length ->
   codeAny (model D.prog D.w) A (.call x ⟨pos, (D.fn f).kw.zip kwv⟩) (fun r s' => ∃ x, r = .ok (.ret x) /\ aj W s v σ' x s') s := by
 intro args σ v l σ' he A W s x pos kwv href hroom hh hfrs I rl hlen
 obtain ⟨a, fd, rfl, S, B⟩ := S0 W x I.base href
 obtain ⟨oF, gF, dF⟩ := S.get
 obtain ⟨c, oc, vsc, qn, tq, hc1, hc2, hc3, hc4⟩ := S.code
 refine ae (B args _ v l σ' he) fun Z hk hb => ?_
 have hcx := S.cx
 have hfl : fd.scope.kind = .function /\ fd.scope.isGenerator = false /\ fd.scope.isCoroutine = false /\ (C.ns.map (·.1)).Nodup := by
  unfold vC at hcx
  simp only [Bool.and_eq_true, beq_iff_eq, Bool.not_eq_true', decide_eq_true_eq] at hcx
  refine aa S.sc ?_
  exact ⟨hcx.1.1.2, hcx.1.2, hcx.2, hcx.1.1.1.2⟩
 refine eR hfl ?_; clear hfl; intro k1 k2 k3 k4
 have J := I.hide
 refine yL (by have := hroom.1; show A.depth < 1000; omega) (I.az _ _ gF) dF k3 k2 hc1 (I.az _ _ hc2) hc3 hc4 ?_
 refine wpAny_mono (hb A.in1 (hide W s.heap) σ s pos kwv ⟨by have := hroom.1; show A.depth + 1 <= _; omega, by have := hroom.2; show A.units + 1 + 12 * 1 <= _; lia⟩ J (rl.mono (qf W _)) hlen) (fun binds s1 h1 => ?_) fun _ _ x => x.elim
 obtain ⟨W1, w1, I1, ko1, hne, hnm, hsl⟩ := h1
 refine aa S.gl ?_; refine aa S.bi ?_; refine aa S.clo ?_
 have hkind : ∀ x ∈ binds, fd.scope.names.lookup x.1 = some .local \/ (fd.scope.names.lookup x.1 = some .cell /\ ((cellsFrom (s1.heap.objs.size + 1) fd.scope.names []).lookup x.1).isSome = true) := fun x hx => by
  refine pB (hnm x hx) fun i k hi => ?_
  refine aa S.sc ?_
  rcases sy hcx hi with ⟨_, q⟩ | ⟨_, q⟩
  ·exact .inl q
  ·exact .inr ⟨q, cB _ _ _ _ (.inl (mem_of_lookup q))⟩
 refine yJ k1 hkind (fun e => ⟨S.tk e, hne⟩) fun env henv s2 X tks => ?_
 refine ag (X.done) fun h2 tk q2 keep => ?_; obtain rfl := q2
 have kp2 : Keeps W1 s1.heap h2 := fun b o _ e => keep b o e
 have hL : env.locals = s1.heap.objs.size := by refine aa henv ?_; rfl
 have hcells : env.cells = cellsFrom (s1.heap.objs.size + 1) fd.scope.names [] := by refine aa henv ?_; rfl
 have hsc : env.scope = C.sc := by refine aa henv ?_; exact S.sc
 have hkof : ∀ x, env.kindOf x = C.sc.names.lookup x := fun x => by unfold Env.kindOf; exact aa hsc rfl
 refine ak (X.toInCall.ns) fun oL esL epL eL rL => ?_
 have geL : s1.heap.objs.size <= env.locals := Nat.le_of_eq hL.symm
 have cell : ∀ n c, env.cells.lookup n = some c -> s1.heap.objs.size <= c /\ h2.IsCell c (bindC env.kindOf binds (fun _ => none) n) := fun n c hc =>
  ⟨Nat.le_of_lt (by have := X.above n c (mem_of_lookup hc); rw [hL] at this; exact this), X.cell n c hc⟩
 obtain ⟨le2, I2⟩ := I1.ou (S := fun b => b = env.locals \/ ∃ n, env.cells.lookup n = some b) (h' := h2) (t := tk) (fun b hbS => by
  have hge : s1.heap.objs.size <= b /\ ∃ o, h2.get? b = some o /\ fk o := by
   rcases hbS with rfl | ⟨n, hn⟩
   ·exact ⟨geL, oL, eL, .inl ⟨_, _, rL.1⟩⟩
   ·refine cj (cell n b hn) fun q o e d => ?_
    exact ⟨q, o, e, .inr ⟨_, d⟩⟩
  refine ⟨?_, hge.2⟩
  refine Classical.byContradiction fun q => ?_
  refine bI (I1.ex b q) fun o e => ?_
  exact Nat.lt_irrefl _ (Nat.lt_of_lt_of_le (Heap.lt_size e) hge.1)) kp2
 generalize hW2 : W1.c9 (fun b => b = env.locals \/ ∃ n, env.cells.lookup n = some b) = W2 at le2 I2
 have own2 : ∀ b, (b = env.locals \/ ∃ n, env.cells.lookup n = some b) -> W2 b = .own := fun b hb => by refine bw hW2 ?_; unfold Gh.c9; exact aa (if_pos hb) rfl
 have F : lT C W2 Z env h2 := by
  refine ⟨hsc, by refine bw S.sc ?_; exact k1, by refine aa henv ?_; rfl, by refine aa henv ?_; rfl, own2 _ (.inl rfl), ⟨_, oL, esL, epL, eL, rL⟩, fun i x k hx => ?_, k4, fun x y c h1 h2 => name_of_addr X.apart (mem_of_lookup h1) (mem_of_lookup h2), fun c e => by refine aa henv ?_; exact S.cd c e⟩
  have sl := (hsl i x k hx).mono le2.bM
  rcases sy hcx hx with ⟨rfl, q⟩ | ⟨rfl, q⟩
  ·refine ⟨q, _, ⟨oL, esL, epL, eL, rL⟩, ?_⟩
   rw [kA, if_pos (by rw [hkof]; exact q)]; refine aa Option.or_none ?_
   exact sl
  ·have : (env.cells.lookup x).isSome = true := by refine aa hcells ?_; refine aa S.sc ?_; exact cB _ _ _ _ (.inl (mem_of_lookup q))
   refine bI (Option.isSome_iff_exists.mp this) fun c hc => ?_
   refine ⟨q, c, hc, own2 _ (.inr ⟨x, hc⟩), _, (cell x c hc).2, ?_⟩
   rw [pG, if_neg (by rw [hkof, q]; exact fun e => nomatch e)]; refine aa Option.or_none ?_
   exact sl
 refine ⟨S.lim.keeps fun b o e => keep b o (I1.bK b o e), ?_⟩
 rw [S.body]
 have hfr2 : ∃ f l, (A.deeper env).frames = some (f :: l) /\ cZ W2 (f :: l) /\ (C.t = true -> f = env) := by
  refine ae hfrs ?_; clear hfrs; intro fl f1 f2
  refine ⟨env, fl, Around.frames_deeper f1, fun e he => ?_, fun _ => rfl⟩
  rcases List.mem_cons.mp he with rfl | he
  ·exact ⟨(by refine aa F.sc ?_; refine aa F.kind ?_; exact fun x => nomatch x), e.locals, (by refine aa henv ?_; rfl), .inl F.own⟩
  ·exact ((f2.hide I).le (w1.trans le2)) e he
 refine codeAny_mono (hd ⟨by decide, hih, ⟨by have := hroom.1; show A.depth + 1 + _ <= _; lia, by have := hroom.2; show A.units + 3 + _ <= _; lia⟩, fun _ => hh, hfr2, I2, F⟩ tks hk) fun rr s3 h3 => ?_
 obtain ⟨y, W3, e0, w3, I3, r3⟩ := h3
 refine eR (I.bN ((w1.trans le2).trans w3) I3) fun a1 a2 a3 a4 => ?_
 exact ⟨y, e0, _, a1, a2, a3, r3.mono a4⟩
end
section
open PySem PyProof.Rows
variable {C : Cx} {lv : Nat}
theorem ew : ∀ n c, (dec n c).length = n
 | 0, _ => rfl
 | n + 1, c => by simp [dec, ew n]
theorem aM (n c : Nat) : (toS n c).length = n := by show (dec n c).toArray.size = n; simp [ew]
theorem nh : ∀ n c d, c < 256 ^ n -> d < 256 ^ n -> dec n c = dec n d -> c = d
 | 0, c, d, h1, h2, _ => by simp at h1 h2; omega
 | n + 1, c, d, h1, h2, h => by
  simp only [dec, List.cons.injEq] at h
  have h1' : c / 256 < 256 ^ n := Nat.div_lt_of_lt_mul (by rw [Nat.pow_succ] at h1; lia)
  have h2' : d / 256 < 256 ^ n := Nat.div_lt_of_lt_mul (by rw [Nat.pow_succ] at h2; omega)
  have := nh n _ _ h1' h2' h.2
  lia
theorem sD {n c m d : Nat} (h1 : c < 256 ^ n) (h2 : d < 256 ^ m) : toS n c = toS m d ↔ n = m /\ c = d := by
 constructor
 ·intro h
  have e : dec n c = dec m d := by have := congrArg (fun s : Str => s.cps.toList) h; simpa [toS] using this
  have : n = m := by refine bw (ew n c) ?_; rw [e, ew]
  subst this
  exact ⟨rfl, nh n c d h1 h2 e⟩
 ·rintro ⟨rfl, rfl⟩; rfl
theorem sM : ∀ n c i, i < n -> (dec n c)[i]? = some (c / 256 ^ i % 256)
 | 0, _, _, h => absurd h (Nat.not_lt_zero _)
 | n + 1, c, 0, _ => by simp [dec]
 | n + 1, c, i + 1, h => by
  show (dec n (c / 256))[i]? = _
  refine aa (sM n _ i (by omega)) ?_; rw [Nat.div_div_eq_div_mul, Nat.pow_succ, Nat.mul_comm]
theorem lA : ∀ n c m d, c < 256 ^ n -> dec (n + m) (c + d * 256 ^ n) = dec n c ++ dec m d
 | 0, c, m, d, h => by simp at h; subst h; simp [dec]
 | n + 1, c, m, d, h => by
  have h' : c / 256 < 256 ^ n := Nat.div_lt_of_lt_mul (by rw [Nat.pow_succ] at h; omega)
  refine aa (show n + 1 + m = (n + m) + 1 by omega) ?_
  have e : c + d * 256 ^ (n + 1) = c + 256 * (d * 256 ^ n) := by rw [Nat.pow_succ]; simp [Nat.mul_comm, Nat.mul_left_comm]
  show (_ % 256) :: dec (n + m) (_ / 256) = _
  refine aa e ?_; rw [Nat.add_mul_mod_self_left, Nat.add_mul_div_left _ _ (by decide), lA n _ m d h']
  rfl
theorem ib : ∀ i n c, (dec n c).drop i = dec (n - i) (c / 256 ^ i)
 | 0, n, c => by simp
 | i + 1, 0, c => by simp [dec]
 | i + 1, n + 1, c => by
  show (dec n (c / 256)).drop i = _
  rw [ib i n, Nat.div_div_eq_div_mul, Nat.pow_succ, Nat.mul_comm, show n + 1 - (i + 1) = n - i by omega]
theorem ll : ∀ i n c, i <= n -> (dec n c).take i = dec i (c % 256 ^ i)
 | 0, n, c, _ => by simp [dec]
 | i + 1, 0, c, h => absurd h (Nat.not_succ_le_zero _)
 | i + 1, n + 1, c, h => by
  show (c % 256) :: (dec n (c / 256)).take i = (c % 256 ^ (i + 1) % 256) :: dec i (c % 256 ^ (i + 1) / 256)
  rw [ll i n _ (by omega)]
  have e1 : c % 256 ^ (i + 1) % 256 = c % 256 := Nat.mod_mod_of_dvd _ (by rw [Nat.pow_succ]; exact Nat.dvd_mul_left _ _)
  have e2 : c % 256 ^ (i + 1) / 256 = c / 256 % 256 ^ i := by rw [Nat.pow_succ, Nat.mul_comm, Nat.mod_mul_right_div_self]
  refine aa e1 ?_; exact aa e2 rfl
theorem fm {n c m d : Nat} (h : c < 256 ^ n) : toS n c ++ toS m d = toS (n + m) (c + d * 256 ^ n) := by
 show Str.append _ _ = _
 delta toS Str.append
 refine aa (lA n c m d h) ?_
 simp
theorem eE {n c m d : Nat} (h1 : c < 256 ^ n) (h2 : d < 256 ^ m) : c + d * 256 ^ n < 256 ^ (n + m) := by
 rw [Nat.pow_add]
 have : d + 1 <= 256 ^ m := h2
 have := Nat.mul_le_mul_right (256 ^ n) this
 rw [Nat.add_mul, Nat.one_mul] at this
 rw [Nat.mul_comm (256 ^ n)]
 omega
noncomputable def rI (a b : Int) : Int := @Int.rec (fun _ => Int) (fun m => @Int.rec (fun _ => Int) (fun n => Int.ofNat (Nat.add m n)) (fun n => Int.subNatNat m (Nat.succ n)) b) (fun m => @Int.rec (fun _ => Int) (fun n => Int.subNatNat n (Nat.succ m)) (fun n => Int.negSucc (Nat.succ (Nat.add m n))) b) a
theorem nZ (a b : Int) : rI a b = a + b := by induction a using Int.casesOn <;> induction b using Int.casesOn <;> rfl
noncomputable def CP (a : Int) : Int := @Int.rec (fun _ => Int) (fun m => Int.subNatNat 0 m) (fun m => Int.ofNat (Nat.succ m)) a
theorem tJ (a : Int) : CP a = -a := by
 induction a using Int.casesOn with
 | ofNat m => show Int.subNatNat 0 m = -(m : Int); refine aa Int.subNatNat_eq_coe ?_; simp
 | negSucc m => rfl
noncomputable def zY (a b : Int) : Bool := @Int.rec (fun _ => Bool) (fun m => @Int.rec (fun _ => Bool) (fun n => Nat.beq m n) (fun _ => false) b) (fun m => @Int.rec (fun _ => Bool) (fun _ => false) (fun n => Nat.beq m n) b) a
theorem cC (m n : Nat) : Nat.beq m n = decide (m = n) := by
 by_cases h : m = n
 ·subst h; rw [Nat.beq_refl]; simp
 ·cases hb : Nat.beq m n with
  | true => exact absurd (Nat.eq_of_beq_eq_true hb) h
  | false => simp [h]
theorem kF (a b : Int) : zY a b = decide (a = b) := by
 induction a using Int.casesOn with
 | ofNat m => induction b using Int.casesOn with
  | ofNat n => show Nat.beq m n = _; rw [cC, decide_eq_decide]; exact ⟨fun h => by exact aa h rfl, fun h => Int.ofNat.inj h⟩
  | negSucc n => show false = _; simp
 | negSucc m => induction b using Int.casesOn with
  | ofNat n => show false = _; simp
  | negSucc n => show Nat.beq m n = _; rw [cC]; simp
noncomputable def ltI (a b : Int) : Bool := @Int.rec (fun _ => Bool) (fun m => @Int.rec (fun _ => Bool) (fun n => Nat.blt m n) (fun _ => false) b) (fun m => @Int.rec (fun _ => Bool) (fun _ => true) (fun n => Nat.blt n m) b) a
theorem eT (m n : Nat) : Nat.blt m n = decide (m < n) := by
 by_cases h : m < n
 ·refine aa (Nat.blt_eq.mpr h) ?_; simp [h]
 ·cases hb : Nat.blt m n with
  | true => exact absurd (Nat.blt_eq.mp hb) h
  | false => simp [h]
theorem vt (a b : Int) : ltI a b = decide (a < b) := by
 induction a using Int.casesOn with
 | ofNat m => induction b using Int.casesOn with
  | ofNat n => show Nat.blt m n = _; rw [eT]; simp
  | negSucc n => show false = _; symm; rw [decide_eq_false_iff_not]; intro h; have h : (m : Int) < Int.negSucc n := h; lia
 | negSucc m => induction b using Int.casesOn with
  | ofNat n => show true = _; symm; rw [decide_eq_true_iff]; show Int.negSucc m < (n : Int); omega
  | negSucc n => show Nat.blt n m = _; rw [eT, decide_eq_decide]; omega
noncomputable def eW (b : Bool) : Bool := @Bool.rec (fun _ => Bool) true false b
theorem bY (b : Bool) : eW b = !b := by induction b using Bool.casesOn <;> rfl
noncomputable def Int.dZ (i : Int) (k : Nat -> R) : R := @Int.rec (fun _ => R) k (fun _ => .fail) i
theorem Int.bS {i : Int} {k : Nat -> R} {v l : AV} {s : ab} (h : Int.dZ i k = .val v l s) : ∃ n : Nat, i = n /\ k n = .val v l s := by
 induction i using Int.casesOn with
 | ofNat n => exact ⟨n, rfl, h⟩
 | negSucc n => exact R.noConfusion h
noncomputable def dZ (v : AV) (k : Nat -> R) : R := v.dM fun i => Int.dZ i k
theorem bS {a : AV} {k : Nat -> R} {v l : AV} {s : ab} (h : dZ a k = .val v l s) : ∃ n : Nat, a = .int n /\ k n = .val v l s := by
 refine ae (AV.bQ h) fun i e1 h1 => ?_
 refine ae (Int.bS h1) fun n e2 h2 => ?_
 exact ⟨n, by refine aa e1 ?_; exact aa e2 rfl, h2⟩
section
variable {q : Bool}
theorem RV.int_inv {W : Gh} {i : Int} {x : Value} (h : RV W (.int i) x) : ∃ t, x = .int i t := by cases h; exact ⟨_, rfl⟩
theorem RV.str_inv {W : Gh} {n c : Nat} {x : Value} (h : RV W (.str n c) x) : ∃ t, x = .str (toS n c) t /\ c < 256 ^ n /\ n <= 1048576 := by cases h; exact ⟨_, rfl, by assumption, by assumption⟩
noncomputable def xB (σ : ab) (x y : AV) (k : AV -> ab -> R) : R :=
 AV.cInt (β := R) (AV.cStr (β := R) .fail (fun n c => y.onStr fun m d => R.guard (fits (Nat.add n m)) (k (.str (Nat.add n m) (Nat.add c (Nat.mul d (Nat.pow 256 n)))) σ)) x) (fun i => y.dM fun j => k (.int (rI i j)) σ) x
theorem rV {σ : ab} {x y : AV} {k : AV -> ab -> R} {v l : AV} {s : ab} (h : xB σ x y k = .val v l s) : (∃ i j, x = .int i /\ y = .int j /\ k (.int (i + j)) σ = .val v l s) \/
  ∃ n c m d, x = .str n c /\ y = .str m d /\ n + m <= 1048576 /\ k (.str (n + m) (c + d * 256 ^ n)) σ = .val v l s := by
 induction x using AV.casesOn <;> first | exact R.noConfusion h | skip
 ·rename_i i
  have h : (y.dM fun j => k (.int (rI i j)) σ) = .val v l s := h
  refine ae (AV.bQ h) fun j e h' => ?_
  rw [nZ] at h'
  exact .inl ⟨i, j, rfl, e, h'⟩
 ·rename_i n c
  have h : (y.onStr fun m d => R.guard (fits (n + m)) (k (.str (n + m) (c + d * 256 ^ n)) σ)) = .val v l s := h
  refine ag (AV.aZ h) fun m d e h' => ?_
  refine ba (R.ah h') fun hb h' => ?_
  exact .inr ⟨n, c, m, d, rfl, e, bO hb, h'⟩
theorem Cq : fR q (binaryOp .Add) xB := fun σ x y k v Z σf h => by
 rcases rV h with ⟨i, j, rfl, rfl, h'⟩ | ⟨n, c, m, d, rfl, rfl, hb, h'⟩
 ·refine ⟨_, _, h', fun A W s vx vy _ _ I r1 r2 => ?_⟩
  refine bI (r1.int_inv) fun t q1 => ?_; refine aa q1 ?_
  refine bI (r2.int_inv) fun u q1 => ?_; refine aa q1 ?_
  exact wpAny_add_int (aj.tok I _ (.int _ _))
 ·refine ⟨_, _, h', fun A W s vx vy _ _ I r1 r2 => ?_⟩
  refine af (r1.str_inv) fun t q1 h1 h1' => ?_; refine aa q1 ?_
  refine af (r2.str_inv) fun u q1 h2 h2' => ?_; refine aa q1 ?_
  refine PyProof.Rows.add_str (fun t' tk => ?_) (by rw [aM, aM, sizeLine_eq]; lia)
  refine aa (fm h1) ?_
  exact aj.tok I _ (.str _ _ _ (eE h1 h2) hb)
theorem dq : fR q (inplaceOp .Add) xB := fun σ x y k v Z σf h => by
 rcases rV h with ⟨i, j, rfl, rfl, h'⟩ | ⟨n, c, m, d, rfl, rfl, hb, h'⟩
 ·refine ⟨_, _, h', fun A W s vx vy _ _ I r1 r2 => ?_⟩
  refine bI (r1.int_inv) fun t q1 => ?_; refine aa q1 ?_
  refine bI (r2.int_inv) fun u q1 => ?_; refine aa q1 ?_
  exact wpAny_iadd_int (aj.tok I _ (.int _ _))
 ·refine ⟨_, _, h', fun A W s vx vy _ _ I r1 r2 => ?_⟩
  refine af (r1.str_inv) fun t q1 h1 h1' => ?_; refine aa q1 ?_
  refine af (r2.str_inv) fun u q1 h2 h2' => ?_; refine aa q1 ?_
  refine PyProof.Rows.iadd_str (fun t' tk => ?_) (by rw [aM, aM, sizeLine_eq]; lia)
  refine aa (fm h1) ?_
  exact aj.tok I _ (.str _ _ _ (eE h1 h2) hb)
noncomputable def kQ (n c m d : Nat) : Bool := @Bool.rec (fun _ => Bool) false (Nat.beq c d) (Nat.beq n m)
theorem fb {n c m d : Nat} (h1 : c < 256 ^ n) (h2 : d < 256 ^ m) : kQ n c m d = decide (toS n c = toS m d) := by
 unfold kQ
 by_cases hn : n = m
 ·subst hn
  rw [Nat.beq_refl]
  show Nat.beq c d = _
  rw [cC, decide_eq_decide, sD h1 h2]; simp
 ·have : Nat.beq n m = false := by rw [cC]; simp [hn]
  refine aa this ?_
  show false = _
  symm; rw [decide_eq_false_iff_not, sD h1 h2]; exact fun h => hn h.1
theorem dp {α : Type} [DecidableEq α] (a b : α) : (a == b) = decide (a = b) := by
 by_cases h : a = b <;> simp [h]
noncomputable def CC (f : Int -> Int -> Bool) (σ : ab) (x y : AV) (k : Bool -> R) : R := x.dM fun i => y.dM fun j => k (f i j)
theorem sP {f : Int -> Int -> Bool} {σ : ab} {x y : AV} {k : Bool -> R} {v l : AV} {s : ab} (h : CC f σ x y k = .val v l s) : ∃ i j, x = .int i /\ y = .int j /\ k (f i j) = .val v l s := by
 refine ae (AV.bQ h) fun i e1 h1 => ?_
 refine ae (AV.bQ h1) fun j e2 h2 => ?_
 exact ⟨i, j, e1, e2, h2⟩
theorem yb : eI q .Lt (CC ltI) := fun σ x y k v Z σf h => by
 refine aN (sP h) fun i j q2 q3 h' => ?_; refine aa q2 ?_; refine aa q3 ?_
 refine ⟨_, h', fun A W s vx vy _ _ I r1 r2 => ?_⟩
 refine bI (r1.int_inv) fun t q1 => ?_; refine aa q1 ?_
 refine bI (r2.int_inv) fun u q1 => ?_; refine aa q1 ?_
 exact PyProof.Rows.lt_int ⟨by show _ = Value.bool (ltI _ _); rw [vt], bx.tok I _⟩
theorem Ek : eI q .GtE (CC fun i j => eW (ltI i j)) := fun σ x y k v Z σf h => by
 refine aN (sP h) fun i j q2 q3 h' => ?_; refine aa q2 ?_; refine aa q3 ?_
 refine ⟨_, h', fun A W s vx vy _ _ I r1 r2 => ?_⟩
 refine bI (r1.int_inv) fun t q1 => ?_; refine aa q1 ?_
 refine bI (r2.int_inv) fun u q1 => ?_; refine aa q1 ?_
 refine PyProof.Rows.ge_int ⟨?_, bx.tok I _⟩
 show _ = Value.bool (eW (ltI i j))
 rw [bY, vt, <- decide_not, Value.bool.injEq, decide_eq_decide]; lia
noncomputable def EF (σ : ab) (x y : AV) (k : AV -> ab -> R) : R := x.dM fun i => y.dM fun j => k (.int (rI i (CP j))) σ
theorem Ar {σ : ab} {x y : AV} {k : AV -> ab -> R} {v l : AV} {s : ab} (h : EF σ x y k = .val v l s) : ∃ i j, x = .int i /\ y = .int j /\ k (.int (i - j)) σ = .val v l s := by
 refine ae (AV.bQ h) fun i e1 h1 => ?_
 refine ae (AV.bQ h1) fun j e2 h2 => ?_
 rw [nZ, tJ, <- Int.sub_eq_add_neg] at h2
 exact ⟨i, j, e1, e2, h2⟩
theorem Ai : fR q (inplaceOp .Sub) EF := fun σ x y k v Z σf h => by
 refine aN (Ar h) fun i j q2 q3 h' => ?_; refine aa q2 ?_; refine aa q3 ?_
 refine ⟨_, _, h', fun A W s vx vy _ _ I r1 r2 => ?_⟩
 refine bI (r1.int_inv) fun t q1 => ?_; refine aa q1 ?_
 refine bI (r2.int_inv) fun u q1 => ?_; refine aa q1 ?_
 exact PyProof.Rows.isub_int (aj.tok I _ (.int _ _))
noncomputable def DY (σ : ab) (x y : AV) (k : AV -> ab -> R) : R := dZ x fun i => dZ y fun j => R.guard (Nat.blt 0 j) (R.guard (fits j) (k (.int (Int.ofNat (Nat.div i j))) σ))
theorem yQ {σ : ab} {x y : AV} {k : AV -> ab -> R} {v l : AV} {s : ab} (h : DY σ x y k = .val v l s) : ∃ i j : Nat, x = .int i /\ y = .int j /\ 0 < j /\ j <= 1048576 /\ k (.int (i / j : Nat)) σ = .val v l s := by
 refine ae (bS h) fun i e1 h1 => ?_
 refine ae (bS h1) fun j e2 h2 => ?_
 refine ba (R.ah h2) fun hb h3 => ?_
 refine ba (R.ah h3) fun hc h4 => ?_
 exact ⟨i, j, e1, e2, Nat.blt_eq.mp hb, bO hc, h4⟩
theorem qu : fR q (binaryOp .FloorDiv) DY := fun σ x y k v Z σf h => by
 refine b8 (yQ h) fun i j q2 q3 hj hj' h' => ?_; refine aa q2 ?_; refine aa q3 ?_
 refine ⟨_, _, h', fun A W s vx vy _ _ I r1 r2 => ?_⟩
 refine bI (r1.int_inv) fun t q1 => ?_; refine aa q1 ?_
 refine bI (r2.int_inv) fun u q1 => ?_; refine aa q1 ?_
 refine PyProof.Rows.floordiv_int (by omega) ?_ (Or.inl (PyProof.noPylong_small (by omega)))
 refine aa (Int.fdiv_eq_ediv_of_nonneg _ (by omega)) ?_; rw [<- Int.natCast_ediv]
 exact aj.tok I _ (.int _ _)
noncomputable def zx (σ : ab) (x y : AV) (k : AV -> ab -> R) : R := x.dM fun i => dZ y fun j => R.guard (Nat.blt 0 j) (k (.int (Int.emod i (Int.ofNat j))) σ)
theorem Ax {σ : ab} {x y : AV} {k : AV -> ab -> R} {v l : AV} {s : ab} (h : zx σ x y k = .val v l s) : ∃ (i : Int) (j : Nat), x = .int i /\ y = .int j /\ 0 < j /\ k (.int (i % (j : Int))) σ = .val v l s := by
 refine ae (AV.bQ h) fun i e1 h1 => ?_
 refine ae (bS h1) fun j e2 h2 => ?_
 refine ba (R.ah h2) fun hb h3 => ?_
 exact ⟨i, j, e1, e2, Nat.blt_eq.mp hb, h3⟩
theorem qI : fR q (binaryOp .Mod) zx := fun σ x y k v Z σf h => by
 refine bH (Ax h) fun i j q2 q3 hj h' => ?_; refine aa q2 ?_; refine aa q3 ?_
 refine ⟨_, _, h', fun A W s vx vy _ _ I r1 r2 => ?_⟩
 refine bI (r1.int_inv) fun t q1 => ?_; obtain rfl := q1
 refine bI (r2.int_inv) fun u q1 => ?_; refine aa q1 ?_
 refine PyProof.Rows.mod_int' (by omega) ?_
 refine aa (Int.fmod_eq_emod_of_nonneg _ (by omega)) ?_
 exact aj.tok I _ (.int _ _)
end
end
section
open PySem PyProof.Rows
variable {C : Cx} {lv : Nat}
noncomputable def up1 (n : Nat) : Nat := @Nat.rec (fun _ => Nat) 0 (fun k _ => Nat.succ (Nat.succ k)) n
noncomputable def both (a b : Nat) : Nat := @Nat.rec (fun _ => Nat) 0 (fun i _ => @Nat.rec (fun _ => Nat) 0 (fun j _ => @Bool.rec (fun _ => Nat) (Nat.succ i) (Nat.succ j) (Nat.ble i j)) b) a
noncomputable def AV.py (v : AV) : PyData × List PyData :=
 @AV.rec (fun _ => PyData × List PyData) (.none, []) (.none, []) (fun _ => (.none, [])) (fun i => (.int i, [])) (fun n c => (.str (toS n c), [])) (fun _ => (.none, [])) (fun _ => (.none, [])) (fun _ => (.none, [])) (fun _ _ ih => (.tuple ih.2, [])) (fun _ _ ih => (.list ih.2, [])) (fun _ _ _ => (.none, [])) (fun _ _ => (.none, [])) (fun _ _ => (.none, [])) (fun _ _ => (.none, [])) (fun _ => (.none, [])) (fun _ => (.none, [])) (.none, []) (fun _ _ a l => (.none, a.1 :: l.2)) (fun _ _ _ _ _ _ => (.none, [])) v
noncomputable def AV.gU (v : AV) : Nat :=
 @AV.rec (fun _ => Nat) 0 0 (fun _ => 0) (fun _ => 1) (fun _ _ => 1) (fun _ => 0) (fun _ => 0) (fun _ => 0) (fun _ _ ih => up1 ih) (fun _ _ ih => up1 ih) (fun _ _ _ => 0) (fun _ _ => 0) (fun _ _ => 0) (fun _ _ => 0) (fun _ => 0) (fun _ => 0) 1 (fun _ _ a l => both a l) (fun _ _ _ _ _ _ => 0) v
noncomputable def AV.eqStr (n c : Nat) (v : AV) : Bool :=
 AV.cStr (β := Bool) false (fun m d => kQ n c m d) v
noncomputable def AV.Dv (i : Int) (v : AV) : Bool :=
 AV.cInt (β := Bool) false (fun j => zY i j) v
noncomputable def AV.Dn (f : AV -> Bool) (v : AV) : Bool :=
 AV.vo (β := Bool) false (fun _ l => f l) v
noncomputable def AV.DO (f : AV -> Bool) (v : AV) : Bool :=
 AV.pN (β := Bool) false (fun _ l => f l) v
noncomputable def AV.C6 (f g : AV -> Bool) (v : AV) : Bool :=
 AV.fB (β := Bool) false (fun a l => @Bool.rec (fun _ => Bool) false (g l) (f a)) v
noncomputable def AV.E0 (v : AV) : Bool :=
 AV.pM (β := Bool) false true v
noncomputable def AV.xI (v : AV) : AV -> Bool :=
 @AV.rec (fun _ => AV -> Bool) (fun _ => false) (fun _ => false) (fun _ => (fun _ => false)) (fun i => AV.Dv i) (fun n c => AV.eqStr n c) (fun _ => (fun _ => false)) (fun _ => (fun _ => false)) (fun _ => (fun _ => false)) (fun _ _ ih => AV.DO ih) (fun _ _ ih => AV.Dn ih) (fun _ _ _ => (fun _ => false)) (fun _ _ => (fun _ => false)) (fun _ _ => (fun _ => false)) (fun _ _ => (fun _ => false)) (fun _ => (fun _ => false)) (fun _ => (fun _ => false)) AV.E0 (fun _ _ a l => AV.C6 a l) (fun _ _ _ _ _ _ => (fun _ => false)) v
theorem ir {a b : Nat} (h : 0 < both a b) : 0 < a /\ 0 < b /\ a <= both a b /\ b <= both a b := by
 cases a with
 | zero => exact absurd h (Nat.lt_irrefl _)
 | succ i => cases b with
  | zero => exact absurd h (Nat.lt_irrefl _)
  | succ j =>
   have e : both (i + 1) (j + 1) = @Bool.rec (fun _ => Nat) (Nat.succ i) (Nat.succ j) (Nat.ble i j) := rfl
   cases hb : Nat.ble i j with
   | true => rw [hb] at e; have e : both (i + 1) (j + 1) = j + 1 := e; have := Nat.le_of_ble_eq_true hb; lia
   | false =>
    rw [hb] at e
    have e : both (i + 1) (j + 1) = i + 1 := e
    have : ¬ i <= j := fun q => by rw [Nat.ble_eq_true_of_le q] at hb; exact nomatch hb
    lia
theorem gm {a : Nat} (h : 0 < up1 a) : 0 < a /\ up1 a = a + 1 := by
 induction a using Nat.casesOn with
 | zero => exact absurd h (Nat.lt_irrefl _)
 | succ i => exact ⟨Nat.succ_pos _, rfl⟩
theorem dec_lt : ∀ n c, ∀ x ∈ dec n c, x < 256
 | 0, _, _, h => nomatch h
 | n + 1, c, x, h => by
  rcases List.mem_cons.mp h with rfl | h
  ·exact Nat.mod_lt _ (by decide)
  ·exact dec_lt n _ x h
theorem t7 (n c : Nat) : PyData.strOk (toS n c) = true := by
 unfold PyData.strOk
 rw [Array.all_eq_true']
 intro x hx
 have := dec_lt n c x (by simpa [toS] using hx)
 simp; omega
theorem kO {W : Gh} {h : Heap} (hf : ∀ a o, W a = .az o -> h.get? a = some o) (v : AV) : 0 < v.gU ->
  (∀ x, RV W v x -> ∃ as, Reads h x v.py.1 as /\ v.py.1.canLay0 = true /\ v.py.1.depth <= v.gU) /\ (∀ xs, RL W v xs -> ∃ as, ReadsAll h xs v.py.2 as /\ PyData.canLayAll0 v.py.2 = true /\ PyData.depthAll v.py.2 <= v.gU) := by
 induction v with
 | int i => exact fun _ => ⟨fun x r => by cases r; exact ⟨_, .int _ _, rfl, Nat.zero_le _⟩, fun xs r => nomatch r⟩
 | str n c => exact fun _ => ⟨fun x r => by cases r; exact ⟨_, .str _ _, by simpa [PyData.canLay0, AV.py] using t7 n c, Nat.zero_le _⟩, fun xs r => nomatch r⟩
 | nil => exact fun _ => ⟨(fun x r => nomatch r), (fun xs r => by cases r; exact ⟨_, .nil, rfl, Nat.zero_le _⟩)⟩
 | cons a l iha ihl =>
  intro hp
  refine eR (ir (a := a.gU) (b := l.gU) hp) fun h1 h2 h3 h4 => ?_
  refine ⟨fun x r => (nomatch r), fun xs r => ?_⟩
  induction r using RL.iE with
  | mk x xs rv rl =>
   refine af ((iha h1).1 x rv) fun as p1 p2 p3 => ?_
   refine af ((ihl h2).2 xs rl) fun bs q1 q2 q3 => ?_
   refine ⟨as ++ bs, .cons p1 q1, ?_, ?_⟩
   ·show (PyData.canLay0 a.py.1 && PyData.canLayAll0 l.py.2) = true
    refine aa p2 ?_; refine aa q2 ?_; rfl
   ·show max a.py.1.depth (PyData.depthAll l.py.2) <= both a.gU l.gU
    lia
 | lst n l ih =>
  intro hp
  refine ba (gm (a := l.gU) hp) fun h1 h2 => ?_
  refine ⟨fun x r => ?_, fun xs r => (nomatch r)⟩
  induction r using RV.jE with
  | mk a items ep e hn hb rl =>
   refine af ((ih h1).2 _ rl) fun as p1 p2 p3 => ?_
   refine ⟨a :: as, .list (hf _ _ e) rfl rfl p1, p2, ?_⟩
   show PyData.depthAll l.py.2 + 1 <= up1 l.gU
   omega
 | tup n l ih =>
  intro hp
  refine ba (gm (a := l.gU) hp) fun h1 h2 => ?_
  refine ⟨fun x r => ?_, fun xs r => (nomatch r)⟩
  induction r using RV.iu with
  | mk a items e hn hb rl =>
   refine af ((ih h1).2 _ rl) fun as p1 p2 p3 => ?_
   refine ⟨as, .tuple (hf _ _ e) rfl rfl p1, p2, ?_⟩
   show PyData.depthAll l.py.2 + 1 <= up1 l.gU
   omega
 | _ => exact fun h => absurd h (Nat.lt_irrefl _)
theorem qW {W : Gh} (v : AV) : 0 < v.gU -> ∀ u : AV, 0 < u.gU -> (∀ x y, RV W v x -> RV W u y -> v.xI u = PyData.eqv v.py.1 u.py.1) /\ (∀ xs ys, RL W v xs -> RL W u ys -> v.xI u = PyData.eqvAll v.py.2 u.py.2) := by
 induction v with
 | int i =>
  intro _ u hu
  refine ⟨fun x y r r' => ?_, fun xs ys r => nomatch r⟩
  induction u using AV.casesOn <;> first | exact absurd hu (Nat.lt_irrefl _) | (refine R.ve r' ?_; done) | skip
  ·show zY i _ = (i == _); rw [kF, dp]
  all_goals rfl
 | str n c =>
  intro _ u hu
  refine ⟨fun x y r r' => ?_, fun xs ys r => nomatch r⟩
  induction u using AV.casesOn <;> first | exact absurd hu (Nat.lt_irrefl _) | (refine R.ve r' ?_; done) | skip
  ·rfl
  ·rename_i m d
   refine af (r.str_inv) fun _ _ h1 _ => ?_
   refine af (r'.str_inv) fun _ _ h2 _ => ?_
   show kQ n c m d = (toS n c == toS m d)
   refine aa (fb h1 h2) ?_; rw [dp]
  all_goals rfl
 | nil =>
  intro _ u hu
  refine ⟨fun x y r => (nomatch r), fun xs ys r r' => ?_⟩
  cases r' <;> rfl
 | cons a l iha ihl =>
  intro hp u hu
  refine eR (ir (a := a.gU) (b := l.gU) hp) fun h1 h2 _ _ => ?_
  refine ⟨fun x y r => (nomatch r), fun xs ys r r' => ?_⟩
  cases r' with
  | nil => rfl
  | cons b t y ys rb rt =>
   refine eR (ir (a := b.gU) (b := t.gU) hu) fun k1 k2 _ _ => ?_
   induction r using RL.iE with
   | mk x xs ra rl =>
    show @Bool.rec (fun _ => Bool) false (l.xI t) (a.xI b) = (PyData.eqv a.py.1 b.py.1 && PyData.eqvAll l.py.2 t.py.2)
    refine aa ((iha h1 b k1).1 x y ra rb) ?_; refine aa ((ihl h2 t k2).2 xs ys rl rt) ?_
    cases PyData.eqv a.py.1 b.py.1 <;> rfl
 | lst n l ih =>
  intro hp u hu
  refine ba (gm (a := l.gU) hp) fun h1 _ => ?_
  refine ⟨fun x y r r' => ?_, fun xs ys r => nomatch r⟩
  induction u using AV.casesOn <;> first | exact absurd hu (Nat.lt_irrefl _) | (refine R.ve r' ?_; done) | skip
  case lst m t =>
   refine ba (gm (a := t.gU) hu) fun k1 _ => ?_
   induction r using RV.jE with
   | mk _ _ _ _ _ _ rl => induction r' using RV.jE with
    | mk _ _ _ _ _ _ rt => exact (ih h1 t k1).2 _ _ rl rt
  all_goals rfl
 | tup n l ih =>
  intro hp u hu
  refine ba (gm (a := l.gU) hp) fun h1 _ => ?_
  refine ⟨fun x y r r' => ?_, fun xs ys r => nomatch r⟩
  induction u using AV.casesOn <;> first | exact absurd hu (Nat.lt_irrefl _) | (refine R.ve r' ?_; done) | skip
  case tup m t =>
   refine ba (gm (a := t.gU) hu) fun k1 _ => ?_
   induction r using RV.iu with
   | mk _ _ _ _ _ rl => induction r' using RV.iu with
    | mk _ _ _ _ _ rt => exact (ih h1 t k1).2 _ _ rl rt
  all_goals rfl
 | _ => exact fun h => absurd h (Nat.lt_irrefl _)
noncomputable def fv (v : AV) : Bool := @Bool.rec (fun _ => Bool) false (Nat.ble v.gU 50) (Nat.blt 0 v.gU)
theorem dQ {v : AV} (h : fv v = true) : 0 < v.gU /\ v.gU <= 50 := by
 unfold fv at h
 cases hb : Nat.blt 0 v.gU with
 | false => rw [hb] at h; exact nomatch h
 | true => rw [hb] at h; exact ⟨Nat.blt_eq.mp hb, Nat.le_of_ble_eq_true h⟩
noncomputable def FJ (neg : Bool -> Bool) (σ : ab) (x y : AV) (k : Bool -> R) : R :=
 @AV.rec (fun _ => R) .fail .fail (fun _ => .fail) (fun i => y.dM fun j => k (neg (zY i j))) (fun n c => y.onStr fun m d => k (neg (kQ n c m d))) (fun _ => .fail) (fun _ => .fail) (fun i => (σ.look i).eg fun _ a => y.dP σ fun _ b => R.guard (fv a) (R.guard (fv b) (k (neg (AV.xI a b))))) (fun _ _ _ => .fail) (fun _ a _ => y.dP σ fun _ b => R.guard (fv a) (R.guard (fv b) (k (neg (AV.xI a b))))) (fun _ _ _ => .fail) (fun _ _ => .fail) (fun _ _ => .fail) (fun _ _ => .fail) (fun _ => .fail) (fun _ => .fail) .fail (fun _ _ _ _ => .fail) (fun _ _ _ _ _ _ => .fail) x
theorem v8 {neg : Bool -> Bool} {σ : ab} {x y : AV} {k : Bool -> R} {v l : AV} {s : ab} (h : FJ neg σ x y k = .val v l s) : (∃ i j, x = .int i /\ y = .int j /\ k (neg (decide (i = j))) = .val v l s) \/
  (∃ n c m d, x = .str n c /\ y = .str m d /\ k (neg (kQ n c m d)) = .val v l s) \/
  ∃ n a m b, (x = .lst n a \/ ∃ i, x = .ref i /\ σ.At i (.list n a)) /\ (y = .lst m b \/ ∃ i, y = .ref i /\ σ.At i (.list m b)) /\ fv a = true /\ fv b = true /\ k (neg (a.xI b)) = .val v l s := by
 have two : ∀ {n : Nat} {a : AV}, (y.dP σ fun _ b => R.guard (fv a) (R.guard (fv b) (k (neg (AV.xI a b))))) = .val v l s -> ∃ m b, (y = .lst m b \/ ∃ i, y = .ref i /\ σ.At i (.list m b)) /\ fv a = true /\ fv b = true /\ k (neg (a.xI b)) = .val v l s := by
  intro n a h
  refine ag (AV.ct h) fun m b hy h1 => ?_
  refine ba (R.ah h1) fun p1 h2 => ?_
  refine ba (R.ah h2) fun p2 h3 => ?_
  exact ⟨m, b, hy, p1, p2, h3⟩
 induction x using AV.casesOn <;> first | exact R.noConfusion h | skip
 case int i =>
  have h : (y.dM fun j => k (neg (zY i j))) = .val v l s := h
  refine ae (AV.bQ h) fun j e h' => ?_
  rw [kF] at h'
  exact .inl ⟨i, j, rfl, e, h'⟩
 case str n c =>
  have h : (y.onStr fun m d => k (neg (kQ n c m d))) = .val v l s := h
  refine ag (AV.aZ h) fun m d e h' => ?_
  exact .inr (.inl ⟨n, c, m, d, rfl, e, h'⟩)
 case lst n a =>
  refine pB (two (n := n) h) fun m b r => ?_
  exact .inr (.inr ⟨n, a, m, b, .inl rfl, r⟩)
 case ref i =>
  refine ag (AO.cy h) fun n a e h1 => ?_
  refine pB (two (n := n) h1) fun m b r => ?_
  exact .inr (.inr ⟨n, a, m, b, .inr ⟨i, rfl, ab.aw e fun x => AO.noConfusion x⟩, r⟩)
theorem dS {W : Gh} {σ : ab} {s : Shared} {x : AV} {n : Nat} {a : AV} {y : Value} (I : Inv W σ s) (hx : x = .lst n a \/ ∃ i, x = .ref i /\ σ.At i (.list n a)) (r : RV W x y) (hp : fv a = true) :
  ∃ as xs, RL W a xs /\ Reads s.heap y (.list a.py.2) as /\ PyData.canLay0 (.list a.py.2) = true /\ PyData.depth (.list a.py.2) <= 51 := by
 refine ba (dQ hp) fun p1 p2 => ?_
 have key : ∀ {b : Addr} {items : Array Value} {ep : Nat}, s.heap.get? b = some (aV items ep) -> RL W a items.toList -> ∃ as xs, RL W a xs /\ Reads s.heap (.ref b) (.list a.py.2) as /\ PyData.canLay0 (.list a.py.2) = true /\ PyData.depth (.list a.py.2) <= 51 := by
  intro b items ep e rl
  refine af ((kO I.az a p1).2 _ rl) fun as q1 q2 q3 => ?_
  refine ⟨_, _, rl, .list e rfl rfl q1, q2, ?_⟩
  show PyData.depthAll a.py.2 + 1 <= 51
  lia
 rcases hx with rfl | ⟨i, rfl, hat⟩
 ·induction r using RV.jE with
  | mk b items ep e hn hb rl => exact key (I.az _ _ e) rl
 ·induction r using RV.cg with
  | mk b e =>
   refine bH (listAt I hat e) fun items ep e2 _ _ rl => ?_
   exact key e2 rl
section
variable {q : Bool}
theorem dI : eI q .Eq (FJ (fun b => b)) := fun σ x y k v Z σf h => by
 rcases v8 h with ⟨i, j, rfl, rfl, h'⟩ | ⟨n, c, m, d, rfl, rfl, h'⟩ | ⟨n, a, m, b, hx, hy, pa, pb, h'⟩
 ·refine ⟨_, h', fun A W s vx vy _ _ I r1 r2 => ?_⟩
  refine bI (r1.int_inv) fun t q1 => ?_; refine aa q1 ?_
  refine bI (r2.int_inv) fun u q1 => ?_; refine aa q1 ?_
  exact PyProof.Rows.eq_int ⟨by rw [dp], bx.tok I _⟩
 ·refine ⟨_, h', fun A W s vx vy _ _ I r1 r2 => ?_⟩
  refine af (r1.str_inv) fun t q1 h1 _ => ?_; refine aa q1 ?_
  refine af (r2.str_inv) fun u q1 h2 _ => ?_; refine aa q1 ?_
  exact PyProof.Rows.eq_str ⟨by refine aa (fb h1 h2) ?_; rw [dp], bx.tok I _⟩
 ·refine ⟨_, h', fun A W s vx vy hr _ I r1 r2 => ?_⟩
  refine bH (dS I hx r1 pa) fun as xs x1 x2 x3 x4 => ?_
  refine bH (dS I hy r2 pb) fun bs ys y1 y2 y3 y4 => ?_
  have e := (qW a (dQ pa).1 b (dQ pb).1).2 xs ys x1 y1
  skip
  refine SeqAt.eqOverData D.prog D.w A No s vx vy _ _ as bs _ x2 y2 x3 y3 (by have := hr.2; show _ < 9900; lia) ⟨?_, bx.tok I _⟩
  refine aa e ?_; rfl
theorem qk : eI q .NotEq (FJ eW) := fun σ x y k v Z σf h => by
 rcases v8 h with ⟨i, j, rfl, rfl, h'⟩ | ⟨n, c, m, d, rfl, rfl, h'⟩ | ⟨n, a, m, b, hx, hy, pa, pb, h'⟩
 ·refine ⟨_, h', fun A W s vx vy _ _ I r1 r2 => ?_⟩
  refine bI (r1.int_inv) fun t q1 => ?_; refine aa q1 ?_
  refine bI (r2.int_inv) fun u q1 => ?_; refine aa q1 ?_
  exact PyProof.Rows.ne_int ⟨by rw [bY, bne, dp], bx.tok I _⟩
 ·refine ⟨_, h', fun A W s vx vy _ _ I r1 r2 => ?_⟩
  refine af (r1.str_inv) fun t q1 h1 _ => ?_; refine aa q1 ?_
  refine af (r2.str_inv) fun u q1 h2 _ => ?_; refine aa q1 ?_
  exact PyProof.Rows.ne_str ⟨by rw [bY, fb h1 h2, bne, dp], bx.tok I _⟩
 ·refine ⟨_, h', fun A W s vx vy hr _ I r1 r2 => ?_⟩
  refine bH (dS I hx r1 pa) fun as xs x1 x2 x3 x4 => ?_
  refine bH (dS I hy r2 pb) fun bs ys y1 y2 y3 y4 => ?_
  have e := (qW a (dQ pa).1 b (dQ pb).1).2 xs ys x1 y1
  skip
  refine SeqAt.neOverData D.prog D.w A No s vx vy _ _ as bs _ x2 y2 x3 y3 (by have := hr.2; show _ < 9900; lia) ⟨?_, bx.tok I _⟩
  rw [bY]; refine aa e ?_; rfl
end
end
section
open PySem PyProof.Rows
variable {C : Cx} {lv : Nat}
noncomputable def AV.isNone (v : AV) (k : Bool -> R) : R :=
 @AV.rec (fun _ => R) .fail (k true) (fun _ => (k false)) (fun _ => (k false)) (fun _ _ => (k false)) (fun _ => (k false)) (fun _ => (k false)) (fun _ => (k false)) (fun _ _ _ => (k false)) (fun _ _ _ => (k false)) (fun _ _ _ => (k false)) (fun _ _ => (k false)) (fun _ _ => (k false)) (fun _ _ => (k false)) (fun _ => (k false)) (fun _ => (k false)) .fail (fun _ _ _ _ => .fail) (fun _ _ _ _ _ _ => .fail) v
noncomputable def AV.jb (v : AV) (k : R) : R :=
 AV.lO (β := R) .fail k v
theorem kZ {y : Value} (h : y ≠ .none) : (y == Value.none) = false := by rw [dp]; exact decide_eq_false h
theorem RV.kZ {W : Gh} {x : AV} {y : Value} (r : RV W x y) : x ≠ .none -> y ≠ .none := by
 induction r using RV.casesOn <;> first | exact fun h => absurd rfl h | exact fun _ e => Value.noConfusion e
theorem AV.isNone_or {x v l : AV} {k : Bool -> R} {s : ab} {G : Prop} (k1 : x = .none -> k true = .val v l s -> G) (k2 : x ≠ .none -> k false = .val v l s -> G) : x.isNone k = .val v l s -> G := by
 induction x using AV.casesOn <;> first | exact R.noConfusion | exact k1 rfl | exact k2 (fun e => AV.noConfusion e)
theorem AV.mJ {x v l : AV} {k : Bool -> R} {s : ab} (h : x.isNone k = .val v l s) : ∃ b, k b = .val v l s /\ ∀ (W : Gh) (y : Value), RV W x y -> (y == Value.none) = b :=
 AV.isNone_or (fun e h => ⟨true, h, fun W y r => by rw [e] at r; cases r; rfl⟩) (fun n h => ⟨false, h, fun W y r => kZ (r.kZ n)⟩) h
theorem AV.jn {x v l : AV} {k : R} {s : ab} (h : x.jb k = .val v l s) : x = .none /\ k = .val v l s := by
 induction x using AV.casesOn <;> first | exact R.noConfusion h | exact ⟨rfl, h⟩
noncomputable def FK (neg : Bool -> Bool) (σ : ab) (x y : AV) (k : Bool -> R) : R := y.jb (x.isNone fun b => k (neg b))
section
variable {q : Bool}
theorem E8 : eI q .Is (FK fun b => b) := fun σ x y k v Z σf h => by
 refine ba (AV.jn h) fun q0 h1 => ?_; refine aa q0 ?_
 refine ae (AV.mJ h1) fun b h2 hb => ?_
 refine ⟨_, h2, fun A W s vx vy _ _ I r1 r2 => ?_⟩
 cases r2
 exact is_none ⟨by exact aa (hb _ _ r1) rfl, bx.tok I _⟩
theorem kq : eI q .IsNot (FK eW) := fun σ x y k v Z σf h => by
 refine ba (AV.jn h) fun q0 h1 => ?_; refine aa q0 ?_
 refine ae (AV.mJ h1) fun b h2 hb => ?_
 refine ⟨_, h2, fun A W s vx vy _ _ I r1 r2 => ?_⟩
 cases r2
 exact isNot_none ⟨by refine aa (hb _ _ r1) ?_; rw [bY], bx.tok I _⟩
end
noncomputable def wj (c m : Nat) : Nat -> Bool := @Nat.rec (fun _ => Nat -> Bool) (fun _ => false) (fun _ ih d => @Bool.rec (fun _ => Bool) (ih (Nat.div d 256)) true (Nat.beq (Nat.mod d 256) c)) m
theorem ng (c : Nat) : ∀ m d, wj c m d = decide (c ∈ dec m d)
 | 0, d => rfl
 | m + 1, d => by
  have e : wj c (m + 1) d = @Bool.rec (fun _ => Bool) (wj c m (d / 256)) true (Nat.beq (d % 256) c) := rfl
  refine aa e ?_; rw [ng c m, cC]
  by_cases h : d % 256 = c
  ·refine aa (decide_eq_true h) ?_; simp [dec, h]
  ·refine aa (decide_eq_false h) ?_
   have : c ≠ d % 256 := fun q => h q.symm
   simp [dec, this]
noncomputable def AV.uu (x l : AV) : Bool := AV.fH false (fun a _ ih => @Bool.rec (fun _ => Bool) ih true (a.xI x)) l
noncomputable def AV.z7 (n c : Nat) (l : AV) : Bool := AV.fH false (fun a _ ih => @Bool.rec (fun _ => Bool) ih true (AV.eqStr n c a)) l
noncomputable def AV.k8 (n c : Nat) (e : AV) : Bool :=
 @AV.rec (fun _ => Bool) false false (fun _ => false) (fun _ => false) (fun _ _ => false) (fun _ => false) (fun _ => false) (fun _ => false) (fun _ _ _ => false) (fun _ _ _ => false) (fun _ _ _ => false) (fun _ _ => false) (fun _ _ => false) (fun _ _ => false) (fun _ => false) (fun _ => false) false (fun _ _ _ _ => false) (fun m d _ _ _ ih => @Bool.rec (fun _ => Bool) ih true (kQ n c m d)) e
noncomputable def Fv (neg : Bool -> Bool) (x l : AV) (k : Bool -> R) : R := R.guard (fv x) (R.guard (fv l) (k (neg (AV.uu x l))))
noncomputable def GL (neg : Bool -> Bool) (x : AV) (o : AO) (k : Bool -> R) : R :=
 @AO.rec (fun _ => R) (fun _ l => Fv neg x l k) (fun _ _ e => x.onStr fun n c => k (neg (AV.k8 n c e))) (fun _ l => x.onStr fun n c => k (neg (AV.z7 n c l))) .fail (fun _ _ => .fail) (fun _ => .fail) (fun _ _ => .fail) o
noncomputable def wg (m c : Nat) : Bool := Nat.beq (Nat.land (Nat.shiftRight m c) 1) 1
theorem tD (m c : Nat) : wg m c = Nat.testBit m c := by
 have h : (m >>> c &&& 1) = 0 \/ (m >>> c &&& 1) = 1 := by rw [Nat.and_one_is_mod]; lia
 have e : wg m c = Nat.beq (m >>> c &&& 1) 1 := rfl
 refine aa e ?_; rw [Nat.testBit, Nat.and_comm 1]
 rcases h with h | h <;> refine aa h ?_ <;> rfl
noncomputable def FZ (neg : Bool -> Bool) (σ : ab) (x y : AV) (k : Bool -> R) : R :=
 @AV.rec (fun _ => R) .fail .fail (fun _ => .fail) (fun _ => .fail) (fun m d => x.onStr fun n c => R.guard (Nat.beq n 1) (k (neg (wj c m d)))) (fun _ => .fail) (fun _ => .fail) (fun i => GL neg x (σ.look i) k) (fun _ _ _ => .fail) (fun _ l _ => Fv neg x l k) (fun _ _ _ => .fail) (fun ye ma => x.onStr fun n c => R.guard (Nat.beq n 1) (@Bool.rec (fun _ => R) (R.guard (eW (wg ma c)) (k (neg false))) (k (neg true)) (wg ye c))) (fun _ _ => .fail) (fun _ _ => .fail) (fun _ => .fail) (fun _ => .fail) .fail (fun _ _ _ _ => .fail) (fun _ _ _ _ _ _ => .fail) y
theorem sg {W : Gh} {x : AV} (hx : 0 < x.gU) {vx : Value} (rx : RV W x vx) {l : AV} {xs : List Value} (r : RL W l xs) : 0 < l.gU -> x.uu l = l.py.2.any fun y => PyData.eqv y x.py.1 :=
 RL.ind (motive := fun l _ => 0 < l.gU -> x.uu l = l.py.2.any fun y => PyData.eqv y x.py.1) (fun _ => rfl) (fun a t y ys r rt ih h => by
  refine eR (ir (a := a.gU) (b := t.gU) h) fun h1 h2 _ _ => ?_
  show @Bool.rec (fun _ => Bool) (x.uu t) true (a.xI x) = (PyData.eqv a.py.1 x.py.1 || t.py.2.any _)
  refine aa (ih h2) ?_; refine aa ((qW a h1 x hx).1 _ _ r rx) ?_
  cases PyData.eqv a.py.1 x.py.1 <;> rfl) r
theorem sf {W : Gh} {n c : Nat} (hc : c < 256 ^ n) {e : AV} {kvs : List (Str × Value)} (r : RE W e kvs) : AV.k8 n c e = (valueAt kvs (toS n c)).isSome :=
 RE.ind (motive := fun e kvs => AV.k8 n c e = (valueAt kvs (toS n c)).isSome) rfl (fun m d v r x xs hd rv rt ih => by
  show @Bool.rec (fun _ => Bool) (AV.k8 n c r) true (kQ n c m d) = _
  rw [fb hc hd, ih]
  unfold valueAt
  rw [List.find?_cons]
  by_cases h : toS n c = toS m d
  ·rw [decide_eq_true h, h]; simp
  ·rw [decide_eq_false h]
   have : ¬ toS m d = toS n c := fun q => h q.symm
   simp [this]) r
theorem sY {n c : Nat} (hc : c < 256 ^ n) {l : AV} {ks : List Str} (r : qb l ks) : AV.z7 n c l = decide (toS n c ∈ ks) := by
 induction r with
 | nil => rfl
 | cons m d l ks hd r ih =>
  show @Bool.rec (fun _ => Bool) (AV.z7 n c l) true (kQ n c m d) = _
  refine aa (fb hc hd) ?_; refine aa ih ?_
  by_cases h : toS n c = toS m d
  ·refine aa (decide_eq_true h) ?_; refine aa h ?_; simp
  ·refine aa (decide_eq_false h) ?_; simp [h]
theorem vV {neg : Bool -> Bool} {x l v m : AV} {k : Bool -> R} {s : ab} (h : Fv neg x l k = .val v m s) : fv x = true /\ fv l = true /\ k (neg (x.uu l)) = .val v m s := by
 refine ba (R.ah h) fun h1 h2 => ?_
 refine ba (R.ah h2) fun h3 h4 => ?_
 exact ⟨h1, h3, h4⟩
theorem wR {neg : Bool -> Bool} {σ : ab} {x y v m : AV} {k : Bool -> R} {s : ab} (h : FZ neg σ x y k = .val v m s) :
  (∃ ye ma c b, y = .fset ye ma /\ x = .str 1 c /\ (b = true -> Nat.testBit ye c = true) /\ (b = false -> Nat.testBit ma c = false) /\ k (neg b) = .val v m s) \/
  (∃ n d c, y = .str n d /\ x = .str 1 c /\ k (neg (wj c n d)) = .val v m s) \/
  (∃ n l, (y = .lst n l \/ ∃ i, y = .ref i /\ σ.At i (.list n l)) /\ fv x = true /\ fv l = true /\ k (neg (x.uu l)) = .val v m s) \/
  (∃ i n ep e a c, y = .ref i /\ σ.At i (.dict n ep e) /\ x = .str a c /\ k (neg (AV.k8 a c e)) = .val v m s) \/
  ∃ i n l a c, y = .ref i /\ σ.At i (.set n l) /\ x = .str a c /\ k (neg (AV.z7 a c l)) = .val v m s := by
 induction y using AV.casesOn <;> first | exact R.noConfusion h | skip
 case fset ye ma =>
  refine ag (AV.aZ h) fun n c e h1 => ?_
  refine ba (R.ah h1) fun h2 h3 => ?_
  simp only [tD] at h3
  refine bw (Nat.eq_of_beq_eq_true h2) ?_
  refine .inl ⟨ye, ma, c, Nat.testBit ye c, rfl, e, id, ?_⟩
  cases hb : Nat.testBit ye c with
  | true => rw [hb] at h3; exact ⟨(fun q => nomatch q), h3⟩
  | false =>
   rw [hb] at h3
   refine ba (R.ah h3) fun h4 h5 => ?_
   rw [bY] at h4
   exact ⟨fun _ => by simpa using h4, h5⟩
 case str n d =>
  refine ag (AV.aZ h) fun a c e h1 => ?_
  refine ba (R.ah h1) fun h2 h3 => ?_
  obtain rfl := Nat.eq_of_beq_eq_true h2
  exact .inr (.inl ⟨n, d, c, rfl, e, h3⟩)
 case lst n l =>
  exact .inr (.inr (.inl ⟨n, l, .inl rfl, vV h⟩))
 case ref i =>
  have h : GL neg x (σ.look i) k = .val v m s := h
  cases ho : σ.look i with
  | list n l =>
   rw [ho] at h
   exact .inr (.inr (.inl ⟨n, l, .inr ⟨i, rfl, ab.aw ho fun x => AO.noConfusion x⟩, vV h⟩))
  | dict n ep e =>
   rw [ho] at h
   refine ag (AV.aZ h) fun a c e' h1 => ?_
   exact .inr (.inr (.inr (.inl ⟨i, n, ep, e, a, c, rfl, ab.aw ho fun x => AO.noConfusion x, e', h1⟩)))
  | set n l =>
   rw [ho] at h
   refine ag (AV.aZ h) fun a c e' h1 => ?_
   exact .inr (.inr (.inr (.inr ⟨i, n, l, a, c, rfl, ab.aw ho fun x => AO.noConfusion x, e', h1⟩)))
  | _ => rw [ho] at h; exact R.noConfusion h
theorem dV {c : Nat} (h : c < 256 ^ 1) : toS 1 c = ⟨#[c]⟩ := by
 have : c < 256 := by simpa using h
 unfold toS dec dec
 exact aa (Nat.mod_eq_of_lt this) rfl
theorem slot_frozenset_contains : PySem.Slot "frozenset" "__contains__" "frozenset.__contains__" :=
 .of (owner := "frozenset") (n := "__contains__") (by rw [typeLookup_type]; refine aa builtinLookup_eq_fast ?_; kernel_rfl) (by decide +kernel) (by decide +kernel) (by decide +kernel)
  (by first | exact .inl (by decide +kernel) | exact .inr (by decide +kernel)) (by rw [isSubtype_type]; kernel_rfl)
theorem entry_frozenset_contains : entryFor table "frozenset.__contains__" = some Builtin.«frozenset.__contains__» := entryFor_of_tree (by kernel_rfl)
theorem eY (a b : Value) : argsOk "frozenset.__contains__" ⟨[a, b], []⟩ := by skip; kernel_rfl
section
variable {A : Around} {E : Value -> Shared -> Prop} {s : Shared} {a : Addr}
theorem jy {S : Str -> Bool} {n : Nat} {t : SetTable} {k : Str} {tk : Tok} {Q : Bool -> Shared -> Prop} (hS : FS D.prog D.w s.heap a S n t) (h : Q (S k) { s with toks := s.toks + 1 }) : wpAny (model D.prog D.w) A (contains (.ref a) (.str k tk)) Q E s := by
 have hT : s.TypeIs (.ref a) "frozenset" := let ⟨es, ep, e, _⟩ := hS; ⟨_, e, rfl⟩
 unfold contains
 try with_reducible refine wpAny_holding ?_
 refine wpAny_bind (wpAny_specialOf hT slot_frozenset_contains.lookup ?_)
 skip
 refine aa (if_neg (by rw [beq_builtin_none]; exact Bool.false_ne_true)) ?_
 refine wpAny_bind (wpAny_callSpecialUnlessNone?_slot (name := Str.ofString "__contains__") hT slot_frozenset_contains
  (wpAny_call_entry slot_frozenset_contains hT entry_frozenset_contains ?_ (eY _ _)))
 unfold Builtin.«frozenset.__contains__» Builtin.Frozenset.oneOther
 simp only [List.isEmpty_nil, bind_assoc]
 skip
 refine wpAny_bind (wpAny_pure ?_)
 try dsimp only
 refine wpAny_bind (wpAny_pure ?_)
 try dsimp only
 refine wpAny_bind (wpAny_tryCatch ?_)
 refine wpAny_holding ?_
 refine wpAny_bind ((strKind D.prog D.w).pyHash (k := k) (strKind_is D.prog D.w k tk) ?_)
 refine wpAny_bind (ny (s := { s with toks := s.toks + 1 }) hS fun r hr _ => ?_)
 refine wpAny_pure ?_
 show wpAny _ _ (ret (Value.bool r.isSome)) _ _ _
 refine aa hr ?_
 exact wpAny_pure ⟨_, rfl, wpAny_truthy_bool h⟩
end
theorem vd.fs {o : Obj} {S : Str -> Bool} (x : vd o S) {h : Heap} {a : Addr} (e : h.get? a = some o) : ∃ n t, FS D.prog D.w h a S n t := by
 refine pk x ?_; clear x; intro es ep t n q4 h1 h2 h3 h4 h5; obtain rfl := q4
 exact ⟨n, t, es, ep, e, h1, h2, h3, h4, h5⟩
theorem Inv.iX {W : Gh} {σ : ab} {s : Shared} {a : Addr} {i : Nat} (I : Inv W σ s) (hm : (D.B.get? sysModules).isSome = true) (e : W a = .bu i) : (a == sysModules) = false := by
 rw [beq_eq_false_iff_ne]
 rintro rfl
 refine bI (Option.isSome_iff_exists.mp hm) fun o ho => ?_
 rw [I.base _ _ ho] at e; exact nomatch e
theorem cY {W : Gh} {σ : ab} {s : Shared} {i : Nat} {a : Addr} {ao : AO} (I : Inv W σ s) (h : σ.At i ao) (ha : W a = .bu i) : OR W s.heap i a ao := by
 refine ae (I.bu i _ h) fun b hb r => ?_
 refine aa (I.inj i a b ha hb) ?_
 exact r
section
variable {q : Bool}
theorem qe (hm : (D.B.get? sysModules).isSome = true) : eI q .In (FZ fun b => b) := fun σ x y k v Z σf h => by
 rcases wR h with ⟨ye, ma, c, b, rfl, rfl, hb1, hb2, h'⟩ | ⟨n, d, c, rfl, rfl, h'⟩ | ⟨n, l, hy, px, pl, h'⟩ | ⟨i, n, ep, e, a, c, rfl, hat, rfl, h'⟩ | ⟨i, n, l, a, c, rfl, hat, rfl, h'⟩
 ·refine ⟨_, h', fun A W s vx vy _ _ I r1 r2 => ?_⟩
  refine af (r1.str_inv) fun t q1 h1 _ => ?_; refine aa q1 ?_
  have h1' : c < 256 := by simpa using h1
  induction r2 using RV.tF with
  | mk a o S e1 e2 e3 e4 =>
   refine pB (e2.fs (I.az _ _ e1)) fun n tb F => ?_
   skip
   refine wpAny_bind (jy F (wpAny_pure ⟨?_, bx.tok I _⟩))
   refine aa (dV h1) ?_
   induction b using Bool.casesOn with
   | true => exact aa (e3 c h1' (hb1 rfl)) rfl
   | false =>
    cases hs : S ⟨#[c]⟩ with
    | false => rfl
    | true => have := e4 c h1' hs; rw [hb2 rfl] at this; exact nomatch this
 ·refine ⟨_, h', fun A W s vx vy _ _ I r1 r2 => ?_⟩
  refine af (r1.str_inv) fun t q1 h1 _ => ?_; refine aa q1 ?_
  refine af (r2.str_inv) fun u q1 h2 _ => ?_; refine aa q1 ?_
  refine PyProof.Rows.in_str ⟨?_, bx.tok I s.toks⟩
  refine aa (dV h1) ?_; rw [StrLaws.found_one, ng]; rfl
 ·refine ⟨_, h', fun A W s vx vy hr _ I r1 r2 => ?_⟩
  refine bH (dS I hy r2 pl) fun as xs x1 x2 x3 x4 => ?_
  refine ba (dQ px) fun p1 p2 => ?_
  refine af ((kO I.az x p1).1 _ r1) fun bs y2 y3 y4 => ?_
  refine SeqAt.in_list_reads x2 y2 x3 y3 (by have := hr.2; have := Nat.min_le_right (PyData.depthAll l.py.2) x.py.1.depth; show _ < 9900; lia) ⟨?_, bx.tok I s.toks⟩
  exact aa (sg p1 r1 x1 (dQ pl).1) rfl
 ·refine ⟨_, h', fun A W s vx vy _ _ I r1 r2 => ?_⟩
  refine af (r1.str_inv) fun t q1 h1 _ => ?_; obtain rfl := q1
  induction r2 using RV.cg with
  | mk b e1 =>
   refine b8 (cY I hat e1) fun kvs ep' hd _ _ _ re => ?_
   refine wpAny_in_of (strKind_is D.prog D.w _ _) (I.iX hm e1) hd.dictOf.mapOf ⟨?_, bx.tok I _⟩
   exact aa (sf h1 re) rfl
 ·refine ⟨_, h', fun A W s vx vy _ _ I r1 r2 => ?_⟩
  refine af (r1.str_inv) fun t q1 h1 _ => ?_; refine aa q1 ?_
  induction r2 using RV.cg with
  | mk b e1 =>
   refine aY (cY I hat e1) fun S kn ks hs _ _ rk hS => ?_
   refine wpAny_inSet_of (strKind_is D.prog D.w _ _) rfl hs ⟨?_, bx.tok I _⟩
   refine aa (sY h1 rk) ?_
   congr 1
   rw [Bool.eq_iff_iff, hS, decide_eq_true_iff]
theorem o9 (hm : (D.B.get? sysModules).isSome = true) : eI q .NotIn (FZ eW) := fun σ x y k v Z σf h => by
 rcases wR h with ⟨ye, ma, c, b, rfl, rfl, hb1, hb2, h'⟩ | ⟨n, d, c, rfl, rfl, h'⟩ | ⟨n, l, hy, px, pl, h'⟩ | ⟨i, n, ep, e, a, c, rfl, hat, rfl, h'⟩ | ⟨i, n, l, a, c, rfl, hat, rfl, h'⟩
 ·refine ⟨_, h', fun A W s vx vy _ _ I r1 r2 => ?_⟩
  refine af (r1.str_inv) fun t q1 h1 _ => ?_; refine aa q1 ?_
  have h1' : c < 256 := by simpa using h1
  induction r2 using RV.tF with
  | mk a o S e1 e2 e3 e4 =>
   refine pB (e2.fs (I.az _ _ e1)) fun n tb F => ?_
   skip
   refine wpAny_bind (jy F (wpAny_pure ⟨?_, bx.tok I _⟩))
   refine aa (dV h1) ?_; rw [bY]
   induction b using Bool.casesOn with
   | true => exact aa (e3 c h1' (hb1 rfl)) rfl
   | false =>
    cases hs : S ⟨#[c]⟩ with
    | false => rfl
    | true => have := e4 c h1' hs; rw [hb2 rfl] at this; exact nomatch this
 ·refine ⟨_, h', fun A W s vx vy _ _ I r1 r2 => ?_⟩
  refine af (r1.str_inv) fun t q1 h1 _ => ?_; refine aa q1 ?_
  refine af (r2.str_inv) fun u q1 h2 _ => ?_; refine aa q1 ?_
  refine PyProof.Rows.notIn_str ⟨?_, bx.tok I s.toks⟩
  refine aa (dV h1) ?_; rw [StrLaws.found_one, ng, bY]; rfl
 ·refine ⟨_, h', fun A W s vx vy hr _ I r1 r2 => ?_⟩
  refine bH (dS I hy r2 pl) fun as xs x1 x2 x3 x4 => ?_
  refine ba (dQ px) fun p1 p2 => ?_
  refine af ((kO I.az x p1).1 _ r1) fun bs y2 y3 y4 => ?_
  refine SeqAt.notIn_list_reads x2 y2 x3 y3 (by have := hr.2; have := Nat.min_le_right (PyData.depthAll l.py.2) x.py.1.depth; show _ < 9900; lia) ⟨?_, bx.tok I s.toks⟩
  refine aa (sg p1 r1 x1 (dQ pl).1) ?_; rw [bY]
 ·refine ⟨_, h', fun A W s vx vy _ _ I r1 r2 => ?_⟩
  refine af (r1.str_inv) fun t q1 h1 _ => ?_; obtain rfl := q1
  induction r2 using RV.cg with
  | mk b e1 =>
   refine b8 (cY I hat e1) fun kvs ep' hd _ _ _ re => ?_
   refine wpAny_notIn_of (strKind_is D.prog D.w _ _) (I.iX hm e1) hd.dictOf.mapOf ⟨?_, bx.tok I _⟩
   refine aa (sf h1 re) ?_; rw [bY]
 ·refine ⟨_, h', fun A W s vx vy _ _ I r1 r2 => ?_⟩
  refine af (r1.str_inv) fun t q1 h1 _ => ?_; refine aa q1 ?_
  induction r2 using RV.cg with
  | mk b e1 =>
   refine aY (cY I hat e1) fun S kn ks hs _ _ rk hS => ?_
   refine wpAny_notInSet_of (strKind_is D.prog D.w _ _) rfl hs ⟨?_, bx.tok I _⟩
   refine aa (sY h1 rk) ?_; rw [bY]
   congr 2
   rw [Bool.eq_iff_iff, hS, decide_eq_true_iff]
end
noncomputable def EK (σ : ab) (v : AV) (k : Bool -> R) : R :=
 @AV.rec (fun _ => R) .fail (k false) k (fun i => k (eW (zY i 0))) (fun n _ => k (eW (Nat.beq n 0))) (fun _ => .fail) (fun _ => .fail) (fun i => (σ.look i).eg fun n _ => k (eW (Nat.beq n 0))) (fun n _ _ => k (eW (Nat.beq n 0))) (fun n _ _ => k (eW (Nat.beq n 0))) (fun _ _ _ => .fail) (fun _ _ => .fail) (fun _ _ => .fail) (fun _ _ => .fail) (fun _ => .fail) (fun _ => .fail) .fail (fun _ _ _ _ => .fail) (fun _ _ _ _ _ _ => .fail) v
theorem v5 (items : Array Value) : (!items.isEmpty) = ((items.size : Int) != 0) := by
 rw [bne, dp, Array.isEmpty]
 by_cases h : items.size = 0 <;> simp [h]
theorem w9 : Bb EK := fun σ x k v Z σf h => by
 have z : ∀ n : Nat, eW (Nat.beq n 0) = ((n : Int) != 0) := fun n => by
  rw [bY, cC, bne, dp]
  by_cases h : n = 0 <;> simp [h]
 have lst : ∀ {n : Nat} {l : AV}, (x = .lst n l \/ ∃ i, x = .ref i /\ σ.At i (.list n l)) -> k (eW (Nat.beq n 0)) = .val v Z σf -> ∃ b, k b = .val v Z σf /\ ∀ A W s vx, cP 1 A -> Inv W σ s -> RV W x vx ->
   wpAny (model D.prog D.w) A (truthy vx) (fun r s' => r = b /\ bx W s σ s') No s := fun {n l} hx h => by
  refine ⟨_, h, fun A W s vx hr I r => ?_⟩
  have key : ∀ {a : Addr} {items : Array Value} {ep : Nat}, s.heap.get? a = some (aV items ep) -> items.size = n -> n <= 1048576 -> wpAny (model D.prog D.w) A (truthy (.ref a)) (fun r s' => r = eW (Nat.beq n 0) /\ bx W s σ s') No s := by
   intro a items ep e hn hb
   refine wpAny_truthy_list (aH e) (by omega) ?_
   rw [z]
   exact ⟨by rw [v5, hn], bx.tok I _⟩
  rcases hx with rfl | ⟨i, rfl, hat⟩
  ·induction r using RV.jE with
   | mk a items ep e hn hb rl => exact key (I.az _ _ e) hn hb
  ·induction r using RV.cg with
   | mk a e => refine bH (listAt I hat e) fun items ep e2 hn hb _ => ?_; exact key e2 hn hb
 induction x using AV.casesOn <;> first | exact R.noConfusion h | skip
 case none => exact ⟨_, h, fun A W s vx _ I r => by cases r; exact PyProof.Rows.truthy_none ⟨rfl, bx.tok I _⟩⟩
 case bool b => exact ⟨_, h, fun A W s vx _ I r => by cases r; exact wpAny_truthy_bool ⟨rfl, bx.tok I _⟩⟩
 case int i =>
  refine ⟨_, h, fun A W s vx _ I r => ?_⟩
  cases r
  exact PyProof.Rows.truthy_int ⟨by rw [bY, kF, bne, dp], bx.tok I _⟩
 case str n c =>
  refine ⟨_, h, fun A W s vx _ I r => ?_⟩
  refine af (r.str_inv) fun t q1 h1 h2 => ?_; obtain rfl := q1
  exact P.truthy_str (by rw [aM]; lia) ⟨by rw [z, aM], bx.tok I _⟩
 case tup n l =>
  refine ⟨_, h, fun A W s vx _ I r => ?_⟩
  induction r using RV.iu with
  | mk a items e hn hb rl => exact PyProof.Rows.truthy_tuple (cN (I.az _ _ e)) (by omega) ⟨by rw [z, v5, hn], bx.tok I _⟩
 case lst n l => exact lst (.inl rfl) h
 case ref i =>
  refine ag (AO.cy h) fun n l e h1 => ?_
  exact lst (.inr ⟨i, rfl, ab.aw e fun x => AO.noConfusion x⟩) h1
end
section
open PySem PyProof.Rows
variable {C : Cx} {lv : Nat}
noncomputable def AV.len (l : AV) : Nat := AV.fH 0 (fun _ _ ih => Nat.succ ih) l
theorem RL.len {W : Gh} : ∀ {l : AV} {xs : List Value}, RL W l xs -> l.len = xs.length
 | _, _, .nil => rfl
 | _, _, .cons v l x xs r t => by show Nat.succ l.len = xs.length + 1; exact aa t.len rfl
noncomputable def Gr (d : DE) : DE := fun ih Z σ => (d ih Z σ).bind fun l Z σ => R.guard (fits l.len) (.val (.tup l.len l) Z σ)
noncomputable def Gq (d : DE) : DE := fun ih Z σ => (d ih Z σ).bind fun l Z σ => R.guard (fits l.len) (.val (.lst l.len l) Z σ)
noncomputable def E6 (d : DE) : DE := fun ih Z σ => (d ih Z σ).bind fun l Z σ => R.guard (fits l.len) (.val (.ref σ.next) Z (.cons σ.next (.list l.len l) σ))
theorem aj.az {W : Gh} {σ : ab} {s : Shared} {o : Obj} {v : AV} (I : Inv W σ s) (hf : o.isFreed = false) (t : Nat) (r : ∀ W' : Gh, W.le W' -> W' s.heap.objs.size = .az o -> RV W' v (.ref s.heap.objs.size)) :
  aj W s v σ (.ref s.heap.objs.size) { s with heap := s.heap.push o, toks := t } :=
 ⟨_, Gh.aQ I.free, I.fx I.free (Heap.get?_push_size _ hf) (Keeps.push _ _), Keeps.own (Keeps.push _ _), r _ (Gh.aQ I.free) (Gh.aq ..)⟩
theorem aj.new {W : Gh} {σ : ab} {s : Shared} {o : Obj} {ao : AO} (I : Inv W σ s) (hf : o.isFreed = false) (t : Nat) (r : ∀ W' : Gh, W.le W' -> W' s.heap.objs.size = .bu σ.next -> OR W' (s.heap.push o) σ.next s.heap.objs.size ao) :
  aj W s (.ref σ.next) (.cons σ.next ao σ) (.ref s.heap.objs.size) { s with heap := s.heap.push o, toks := t } :=
 ⟨_, Gh.aQ I.free, I.new I.free ⟨_, Heap.get?_push_size _ hf⟩ (Keeps.push _ _) (r _ (Gh.aQ I.free) (Gh.aq ..)), Keeps.own (Keeps.push _ _), .ref _ _ (Gh.aq ..)⟩
theorem eV {es : List Expr} {k : Nat} {pos : Pos} {d : DE} (h1 : jZ C lv es d) : aS C lv (.Tuple es k pos) (Gr d) := fun r ih A env W Z σ s P v Z' σ' h => by
 refine ak (R.ai h) fun l l1 s1 e1 h => ?_
 refine ba (R.ah h) fun hb h => ?_
 refine R.ve h ?_
 refine wpAny_Tuple (wpAny_mono (h1 r ih A env W Z σ s P _ _ _ e1 pos) (fun vs sa ha => ?_) fun _ _ x => x)
 refine af ha ?_; clear ha; intro W1 w1 T1 r1
 have hl := r1.len
 have hb := bO hb
 refine ⟨by refine bw hl ?_; refine aa sizeLine_eq ?_; lia, ?_⟩
 exact aj.frame (s' := { sa with heap := sa.heap.push _ }) T1 w1 (aj.az (o := cU vs.toArray 0) T1.1 rfl sa.toks fun W' l e => .tup _ _ _ _ e (by simp [hl]) hb (by simpa using r1.mono l.bM))
theorem tM {es : List Expr} {pos : Pos} {d : DE} (h1 : jZ C lv es d) : aS C lv (.List es pos) (Gq d) := fun r ih A env W Z σ s P v Z' σ' h => by
 refine ak (R.ai h) fun l l1 s1 e1 h => ?_
 refine ba (R.ah h) fun hb h => ?_
 refine R.ve h ?_
 refine wpAny_List (wpAny_mono (h1 r ih A env W Z σ s P _ _ _ e1 pos) (fun vs sa ha => ?_) fun _ _ x => x)
 refine af ha ?_; clear ha; intro W1 w1 T1 r1
 have hl := r1.len
 have hb := bO hb
 refine ⟨by refine bw hl ?_; refine aa sizeLine_eq ?_; lia, ?_⟩
 exact aj.frame (s' := { sa with heap := sa.heap.push _ }) T1 w1 (aj.az (o := aV vs.toArray 0) T1.1 rfl sa.toks fun W' l e => .lst _ _ _ _ 0 e (by simp [hl]) hb (by simpa using r1.mono l.bM))
theorem dC {es : List Expr} {pos : Pos} {d : DE} (h1 : jZ C lv es d) : aS C lv (.List es pos) (E6 d) := fun r ih A env W Z σ s P v Z' σ' h => by
 refine ak (R.ai h) fun l l1 s1 e1 h => ?_
 refine ba (R.ah h) fun hb h => ?_
 refine R.ve h ?_
 refine wpAny_List (wpAny_mono (h1 r ih A env W Z σ s P _ _ _ e1 pos) (fun vs sa ha => ?_) fun _ _ x => x)
 refine af ha ?_; clear ha; intro W1 w1 T1 r1
 have hl := r1.len
 have hb := bO hb
 refine ⟨by refine bw hl ?_; refine aa sizeLine_eq ?_; lia, ?_⟩
 exact aj.frame (s' := { sa with heap := sa.heap.push _ }) T1 w1 (aj.new (o := aV vs.toArray 0) T1.1 rfl sa.toks fun W' l e => ⟨vs.toArray, 0, Heap.get?_push_size _ rfl, by simp [hl], hb, by simpa using r1.mono l.bM⟩)
noncomputable def Cn : DE := fun _ Z σ => .val (.ref σ.next) Z (.cons σ.next (.dict 0 1 .nil) σ)
theorem lg {pos : Pos} : aS C lv (.Dict [] [] pos) Cn := fun r ih A env W Z σ s P v Z' σ' h => by
 refine R.ve h ?_
 refine wpAny_Dict_empty ?_
 exact aj.frame (s' := { s with heap := s.heap.push _ }) P.st (.refl W) (aj.new (o := { cls := .type "dict", data := .dict #[] }) P.st.1 rfl s.toks fun W' l e =>
  ⟨[], 0, ⟨_, #[], Heap.get?_push_size _ rfl, ⟨rfl, rfl, rfl⟩, rfl, fun _ he => by simp at he, .nil, List.nodup_nil⟩, .inr rfl, rfl, by decide, .nil⟩)
noncomputable def ef (s : Shared) (x : Value) : Prop := ∃ T id, s.TypeIs x T /\ typeLookup (.type T) "__getitem__" = pure (some (.builtin id))
noncomputable def vU (q : Bool) (f : ab -> AV -> AV -> (AV -> ab -> R) -> R) : Prop :=
 ∀ σ x y k v Z σf, f σ x y k = .val v Z σf -> ∃ z σ', k z σ' = .val v Z σf /\ ∀ A W s vx vy, cP 1 A -> (q = true -> A.handled = none) -> Inv W σ s -> RV W x vx -> RV W y vy ->
  ef s vx /\ wpAny (model D.prog D.w) A (getItem vx vy) (aj W s z σ') No s
noncomputable def w6 (q : Bool) (f : ab -> AV -> AV -> AV -> (AV -> ab -> R) -> R) : Prop :=
 ∀ σ x lo hi k v Z σf, f σ x lo hi k = .val v Z σf -> ∃ z σ', k z σ' = .val v Z σf /\ ∀ A W s vx vl vu a, cP 1 A -> (q = true -> A.handled = none) -> Inv W σ s -> RV W x vx -> RV W lo vl -> RV W hi vu ->
  s.heap.IsSliceOf a vl vu .none -> ef s vx /\ wpAny (model D.prog D.w) A (getItem vx (.ref a)) (aj W s z σ') No s
theorem gR {A : Around} {E : Value -> Shared -> Prop} {s : Shared} {value slice : Expr} {o i : Value} {Q : Value -> Shared -> Prop} (hT : ef s o) (hs : subscripted slice false o i = operate [o, i] (getItem o i) \/ subscripted slice false o i = operate [i, o] (getItem o i))
  (h : wpAny (model D.prog D.w) A (getItem o i) Q E s) : wpAny (model D.prog D.w) A (subscriptTail value slice o i) Q E s := by
 refine ag hT ?_; clear hT; intro T id hT hl
 skip
 refine wpAny_bind ?_
 refine aa (getitemInPython_of_ne hT.not_modules) ?_
 refine wpAny_bind (wpAny_specialOf hT hl ?_)
 have fin : wpAny (model D.prog D.w) A (subscripted slice false o i) (fun r s₃ => wpAny (model D.prog D.w) A (letTemporaryGo value o r >>= fun _ => pure r) Q E s₃) E s := by
  rcases hs with hs | hs <;> refine aa hs ?_ <;> exact wpAny_operating (wpAny_mono h (fun r s₃ h₃ => wpAny_bind (wpAny_letTemporaryGo (wpAny_pure h₃))) fun _ _ x => x)
 first
  | exact wpAny_pure (wpAny_bind fin)
  | exact wpAny_bind (wpAny_pure (wpAny_bind fin))
  | exact wpAny_bind fin
theorem wW {value ix : Expr} {pos : Pos} {f : ab -> AV -> AV -> (AV -> ab -> R) -> R} {d1 d2 : DE} (hs : ∀ o i, subscripted ix false o i = operate [o, i] (getItem o i)) (hf : vU C.q f) (h1 : aS C lv value d1) (h2 : aS C lv ix d2) :
  aS C lv (.Subscript value ix pos) (o5 f d1 d2) := fun rr ih A env W Z σ s P v Z' σ' h => by
 refine ak (R.ai h) fun x l1 s1 e1 h => ?_
 refine ak (R.ai h) fun y l2 s2 e2 h => ?_
 refine ag (hf _ _ _ _ _ _ _ h) fun z s3 h w => ?_
 cases h
 refine Subscript_ (wpAny_mono (h1 rr ih A env W Z σ s P _ _ _ e1) (fun vx sa ha => ?_) fun _ _ x => x)
 refine af ha ?_; clear ha; intro W1 w1 T1 r1
 refine wpAny_mono (h2 rr ih A env W1 _ _ sa (P.next T1) _ _ _ e2) (fun vy sb hb => ?_) fun _ _ x => x
 refine af hb ?_; clear hb; intro W2 w2 T2 r2
 refine ba (w A W2 sb vx vy P.op P.hn T2.1 (r1.mono w2.bM) r2) fun hT w => ?_
 exact gR hT (.inl (hs _ _)) (wpAny_mono w (fun vz sc hc => hc.frame T2 (w1.trans w2)) fun _ _ x => x)
noncomputable def Ff (C : Cx) (lv : Nat) (x : Option Expr) (d : DE) : Prop := ∀ r ih A env W Z σ s, Pre C lv r ih A env W Z σ s -> ∀ v Z' σ', d ih Z σ = .val v Z' σ' -> wpAny (model D.prog D.w) A (evalPart x env) (EPost C env W v Z' σ') No s
theorem iH : Ff C lv none (dK .none) := fun r ih A env W Z σ s P v Z' σ' h => by
 refine R.ve h ?_
 rw [evalPart_none]
 exact wpAny_pure ⟨W, .refl W, P.st, .none⟩
theorem cc {e : Expr} {d : DE} (h : aS C lv e d) : Ff C lv (some e) d := h
noncomputable def CW (f : ab -> AV -> AV -> AV -> (AV -> ab -> R) -> R) (d1 d2 d3 : DE) : DE := fun ih Z σ => (d1 ih Z σ).bind fun x Z σ => (d2 ih Z σ).bind fun y Z σ => (d3 ih Z σ).bind fun z Z σ => f σ x y z fun v σ => .val v Z σ
theorem dA {value : Expr} {lo hi : Option Expr} {p pos : Pos} {f : ab -> AV -> AV -> AV -> (AV -> ab -> R) -> R} {d1 d2 d3 : DE} (hf : w6 C.q f) (h1 : aS C lv value d1) (h2 : Ff C lv lo d2) (h3 : Ff C lv hi d3) :
  aS C lv (.Subscript value (.Slice lo hi none p) pos) (CW f d1 d2 d3) := fun rr ih A env W Z σ s P v Z' σ' h => by
 refine ak (R.ai h) fun x l1 s1 e1 h => ?_
 refine ak (R.ai h) fun y l2 s2 e2 h => ?_
 refine ak (R.ai h) fun u l3 s3 e3 h => ?_
 refine ag (hf _ _ _ _ _ _ _ _ h) fun z s4 h w => ?_
 cases h
 refine Subscript_ (wpAny_mono (h1 rr ih A env W Z σ s P _ _ _ e1) (fun vx sa ha => ?_) fun _ _ x => x)
 refine af ha ?_; clear ha; intro W1 w1 T1 r1
 refine wpAny_Slice (wpAny_mono (h2 rr ih A env W1 _ _ sa (P.next T1) _ _ _ e2) (fun vy sb hb => ?_) fun _ _ x => x)
 refine af hb ?_; clear hb; intro W2 w2 T2 r2
 refine wpAny_mono (h3 rr ih A env W2 _ _ sb (P.next T2) _ _ _ e3) (fun vu sc hc => ?_) fun _ _ x => x
 refine af hc ?_; clear hc; intro W3 w3 T3 r3
 rw [evalPart_none]
 refine wpAny_pure ?_
 have K : Keeps W3 sc.heap (sc.heap.push { cls := .type "slice", data := .fields #[vy, vu, .none] }) := Keeps.push _ _
 have T4 : St C env W3 Z' s3 { sc with heap := sc.heap.push { cls := .type "slice", data := .fields #[vy, vu, .none] } } := T3.value (.refl W3) (T3.1.same (t := sc.toks) K) K.own
 refine ba (w A W3 _ vx vy vu sc.heap.objs.size P.op P.hn T4.1 (r1.mono (w2.trans w3).bM) (r2.mono w3.bM) r3 (Heap.IsSliceOf.new ..)) fun hT w => ?_
 exact gR hT (.inr rfl) (wpAny_mono w (fun vz sd hd => hd.frame T4 ((w1.trans w2).trans w3)) fun _ _ x => x)
noncomputable def ju (n : Nat) (i : Int) : Nat := @Int.rec (fun _ => Nat) (fun a => @Bool.rec (fun _ => Nat) n a (Nat.ble a n)) (fun k => Nat.sub n (Nat.succ k)) i
theorem xM (n : Nat) (i : Int) : ju n i = clipAt n i := by
 induction i using Int.casesOn with
 | ofNat a =>
  show @Bool.rec (fun _ => Nat) n a (Nat.ble a n) = clipAt n (a : Int)
  rw [clipAt_nat]
  cases hb : Nat.ble a n with
  | true => have := Nat.le_of_ble_eq_true hb; show a = _; lia
  | false =>
   have : ¬ a <= n := fun q => by rw [Nat.ble_eq_true_of_le q] at hb; exact nomatch hb
   show n = _; lia
 | negSucc k =>
  show n - (k + 1) = clipAt n (Int.negSucc k)
  rw [Int.negSucc_eq]
  have := clipAt_neg n (k + 1) (by lia)
  refine bw this ?_; rfl
noncomputable def so (n : Nat) (v : AV) (k : Nat -> R) : R := v.dM fun i => @Int.rec (fun _ => R) (fun a => R.guard (Nat.blt a n) (k a)) (fun j => R.guard (Nat.blt j n) (k (Nat.sub n (Nat.succ j)))) i
theorem kz {n : Nat} {x v l : AV} {k : Nat -> R} {s : ab} (h : so n x k = .val v l s) : ∃ i j, x = .int i /\ seqIndex? i n = some j /\ j < n /\ -(n : Int) <= i /\ i < n /\ k j = .val v l s := by
 refine ae (AV.bQ h) fun i e h1 => ?_
 induction i using Int.casesOn with
 | ofNat a =>
  refine ba (R.ah h1) fun h2 h3 => ?_
  have := Nat.blt_eq.mp h2
  refine ⟨_, a, e, ?_, this, ?_, ?_, h3⟩
  ·have := seqIndex_of (k := (a : Int)) (n := n) (by lia) (by omega)
   simpa using this
  ·show -(n : Int) <= (a : Int); omega
  ·show (a : Int) < n; omega
 | negSucc j =>
  refine ba (R.ah h1) fun h2 h3 => ?_
  have := Nat.blt_eq.mp h2
  refine ⟨_, n - (j + 1), e, ?_, by omega, by omega, by omega, h3⟩
  have q := seqIndex_neg (k := Int.negSucc j) (n := n) (by omega) (by omega)
  refine aa q ?_
  congr 1
  lia
noncomputable def A3 (o : AO) (y : AV) (k : AV -> R) : R :=
 @AO.rec (fun _ => R) (fun n l => so n y fun i => l.at i fun v_ => (k v_)) (fun _ _ e => y.onStr fun n c => (AV.look n c e).F8 (k (AV.look n c e))) (fun _ _ => .fail) .fail (fun _ _ => .fail) (fun _ => .fail) (fun _ _ => .fail) o
noncomputable def xn (σ : ab) (x y : AV) (k : AV -> ab -> R) : R :=
 @AV.rec (fun _ => R) .fail .fail (fun _ => .fail) (fun _ => .fail) (fun n c => dZ y fun i => R.guard (Nat.blt i n) (k (.str 1 (Nat.mod (Nat.div c (Nat.pow 256 i)) 256)) σ)) (fun _ => .fail) (fun _ => .fail) (fun i => A3 (σ.look i) y fun v => k v σ) (fun n l _ => so n y fun i => l.at i fun v_ => (k v_ σ)) (fun n l _ => so n y fun i => l.at i fun v_ => (k v_ σ)) (fun _ _ _ => .fail) (fun _ _ => .fail) (fun _ _ => .fail) (fun _ _ => .fail) (fun _ => .fail) (fun _ => .fail) .fail (fun _ _ _ _ => .fail) (fun _ _ _ _ _ _ => .fail) x
theorem RL.at {W : Gh} {l : AV} {xs : List Value} (r : RL W l xs) {j : Nat} (h : l.bB j ≠ .undef) : ∃ y, xs[j]? = some y /\ RV W (l.bB j) y := by
 rcases r.bB j with ⟨q, _⟩ | ⟨_, y, q⟩
 ·exact absurd q h
 ·exact ⟨y, q⟩
theorem j8 {W : Gh} {n c : Nat} (hc : c < 256 ^ n) : ∀ {e : AV} {kvs : List (Str × Value)}, RE W e kvs -> (AV.look n c e = .undef /\ valueAt kvs (toS n c) = none) \/ ∃ y, valueAt kvs (toS n c) = some y /\ RV W (AV.look n c e) y
 | _, _, .nil => .inl ⟨rfl, rfl⟩
 | _, _, .cons m d v r x xs hd rv rt => by
  have e1 : AV.look n c (.ent m d v r) = @Bool.rec (fun _ => AV) (AV.look n c r) v (Nat.beq n m && Nat.beq c d) := rfl
  have e2 : (Nat.beq n m && Nat.beq c d) = kQ n c m d := by unfold kQ; cases Nat.beq n m <;> rfl
  refine aa e1 ?_; refine aa e2 ?_; refine aa (fb hc hd) ?_
  unfold valueAt
  refine aa (List.find?_cons) ?_
  by_cases h : toS n c = toS m d
  ·refine aa (decide_eq_true h) ?_; refine aa h ?_; exact .inr ⟨x, by simp, rv⟩
  ·refine aa (decide_eq_false h) ?_
   have : ¬ toS m d = toS n c := fun q => h q.symm
   simp only [this, decide_false]
   exact j8 hc rt
theorem tA {q : Bool} : vU q xn := fun σ x y k v Z σf h => by
 have list : ∀ {n : Nat} {l : AV} {i : Int} {j : Nat}, (x = .lst n l \/ ∃ i, x = .ref i /\ σ.At i (.list n l)) -> y = .int i -> seqIndex? i n = some j -> j < n -> -(n : Int) <= i -> i < n -> l.bB j ≠ .undef -> k (l.bB j) σ = .val v Z σf ->
   ∃ z σ', k z σ' = .val v Z σf /\ ∀ A W s vx vy, cP 1 A -> (q = true -> A.handled = none) -> Inv W σ s -> RV W x vx -> RV W y vy -> ef s vx /\ wpAny (model D.prog D.w) A (getItem vx vy) (aj W s z σ') No s := by
  intro n l i j hx hy hj hjn h1 h2 hu hk
  refine ⟨_, _, hk, fun A W s vx vy hr _ I r1 r2 => ?_⟩
  subst hy
  refine bI (r2.int_inv) fun t q1 => ?_; refine aa q1 ?_
  have key : ∀ {a : Addr} {items : Array Value} {ep : Nat}, s.heap.get? a = some (aV items ep) -> items.size = n -> n <= 1048576 -> RL W l items.toList -> ef s (.ref a) /\ wpAny (model D.prog D.w) A (getItem (.ref a) (.int i t)) (aj W s (l.bB j) σ) No s := by
   intro a items ep e hn hb rl
   refine ae (rl.at hu) fun u hu ru => ?_
   have hu : items[j]? = some u := by refine bw hu ?_; simp
   have hl := aH e
   refine ⟨⟨"list", _, hl.typeIs, slot_list_getitem.lookup⟩, ?_⟩
   by_cases hi : 0 <= i
   ·have : j = i.toNat := by have := seqIndex_of hi (show i < (n : Int) from h2); rw [this] at hj; refine oE hj ?_; rfl
    subst this
    exact wpAny_getItem_list hl hi (by lia) hu (aj.tok I _ ru)
   ·have : j = (i + n).toNat := by have := seqIndex_neg (by lia) h1; rw [this] at hj; refine oE hj ?_; rfl
    subst this
    exact wpAny_getItem_list_neg hl (by lia) (by lia) (by lia) (by refine aa hn ?_; exact hu) (aj.tok I _ ru)
  rcases hx with rfl | ⟨i', rfl, hat⟩
  ·induction r1 using RV.jE with
   | mk a items ep e hn hb rl => exact key (I.az _ _ e) hn hb rl
  ·induction r1 using RV.cg with
   | mk a e => refine bH (listAt I hat e) fun items ep e2 hn hb rl => ?_; exact key e2 hn hb rl
 induction x using AV.casesOn <;> first | exact R.noConfusion h | skip
 case str n c =>
  refine ae (bS h) fun i e h1 => ?_
  refine ba (R.ah h1) fun h2 h3 => ?_
  have hlt := Nat.blt_eq.mp h2
  refine ⟨_, _, h3, fun A W s vx vy hr _ I r1 r2 => ?_⟩
  subst e
  refine bI (r2.int_inv) fun t q1 => ?_; refine aa q1 ?_
  refine af (r1.str_inv) fun u q1 hc hn => ?_; refine aa q1 ?_
  refine ⟨⟨"str", _, typeIs_str s _ _, F.slot_str_getitem.lookup⟩, ?_⟩
  have hc' : c / 256 ^ i % 256 < 256 := Nat.mod_lt _ (by decide)
  refine P.getItem_str (c := c / 256 ^ i % 256) ?_ ?_ ?_
  ·rw [Bool.or_eq_false_iff]
   exact ⟨decide_eq_false (by omega), decide_eq_false (by lia)⟩
  ·rw [aM]; refine aa (seqIndex_of (by omega) (by omega)) ?_
   show (toS n c).cps[(i : Int).toNat]? = _
   rw [Int.toNat_natCast]
   have : (toS n c).cps[i]? = (dec n c)[i]? := by simp [toS]
   refine aa this ?_; exact aa (sM n c i hlt) rfl
  ·refine bw (dV (c := c / 256 ^ i % 256) (by simpa using hc')) ?_
   exact aj.tok I _ (.str 1 (c / 256 ^ i % 256) _ (by simpa using hc') (by decide))
 case lst n l =>
  refine a8 (kz h) fun i j e h1 h2 h3 h4 h5 => ?_
  refine ba (AV.jr h5) fun hu h6 => ?_
  exact list (.inl rfl) e h1 h2 h3 h4 hu h6
 case tup n l =>
  refine a8 (kz h) fun i j e h1 h2 h3 h4 h5 => ?_
  refine ba (AV.jr h5) fun hu h6 => ?_
  refine ⟨_, _, h6, fun A W s vx vy hr _ I r1 r2 => ?_⟩
  subst e
  refine bI (r2.int_inv) fun t q1 => ?_; refine aa q1 ?_
  induction r1 using RV.iu with
  | mk a items e hn hb rl =>
   refine ae (rl.at hu) fun u hu ru => ?_
   have hu : items[j]? = some u := by refine bw hu ?_; simp
   have ht := cN (I.az _ _ e)
   refine ⟨⟨"tuple", _, ht.typeIs, slot_tuple_getitem.lookup⟩, ?_⟩
   exact PyProof.Rows.getItem_tuple ht (by lia) (by omega) (by refine aa hn ?_; exact h1) hu (aj.tok I _ ru)
 case ref i =>
  have h : A3 (σ.look i) y (fun v => k v σ) = .val v Z σf := h
  cases ho : σ.look i with
  | list n l =>
   rw [ho] at h
   refine a8 (kz h) fun i' j e h1 h2 h3 h4 h5 => ?_
   refine ba (AV.jr h5) fun hu h6 => ?_
   exact list (.inr ⟨i, rfl, ab.aw ho fun x => AO.noConfusion x⟩) e h1 h2 h3 h4 hu h6
  | dict n ep e =>
   rw [ho] at h
   have hat := ab.aw ho fun x => AO.noConfusion x
   refine ag (AV.aZ h) fun a c ey h1 => ?_
   refine ba (AV.wo h1) fun hu h2 => ?_
   refine ⟨_, _, h2, fun A W s vx vy hr _ I r1 r2 => ?_⟩
   subst ey
   refine af (r2.str_inv) fun u q1 hc hn => ?_; refine aa q1 ?_
   induction r1 using RV.cg with
   | mk b e1 =>
    refine b8 (cY I hat e1) fun kvs ep' hd _ _ _ re => ?_
    refine ⟨⟨"dict", _, hd.dictOf.typeIs, slot_dict_getitem.lookup⟩, ?_⟩
    rcases j8 hc re with ⟨q, _⟩ | ⟨z, hz, rz⟩
    ·exact absurd q hu
    ·exact wpAny_getItem_of (strKind_is D.prog D.w _ _) hd.dictOf.mapOf hz (aj.tok I _ rz)
  | _ => rw [ho] at h; exact R.noConfusion h
end
section
open PySem PyProof.Rows
variable {C : Cx} {lv : Nat}
noncomputable def AV.tail (l : AV) : AV := AV.fH .nil (fun _ t _ => t) l
noncomputable def AV.drop (l : AV) (k : Nat) : AV := @Nat.rec (fun _ => AV -> AV) (fun l => l) (fun _ ih l => ih l.tail) k l
noncomputable def AV.take (l : AV) : Nat -> AV := AV.fH (fun _ => .nil) (fun a _ ih n => @Nat.rec (fun _ => AV) .nil (fun k _ => .cons a (ih k)) n) l
theorem RL.drop {W : Gh} : ∀ {k : Nat} {l : AV} {xs : List Value}, RL W l xs -> RL W (l.drop k) (xs.drop k)
 | 0, _, _, r => r
 | k + 1, _, _, .nil => by
  have : AV.drop .nil (k + 1) = AV.drop .nil k := rfl
  refine aa this ?_; simpa using (RL.drop (k := k) (RL.nil (W := W)))
 | k + 1, _, _, .cons v l x xs r t => t.drop (k := k)
theorem RL.take {W : Gh} : ∀ {k : Nat} {l : AV} {xs : List Value}, RL W l xs -> RL W (l.take k) (xs.take k)
 | k, _, _, .nil => by rw [List.take_nil]; exact .nil
 | 0, _, _, .cons v l x xs r t => .nil
 | k + 1, _, _, .cons v l x xs r t => .cons _ _ _ _ r (t.take (k := k))
noncomputable def eX (n dflt : Nat) (v : AV) (k : Nat -> R) : R :=
 AV.lO (β := R) (AV.cInt (β := R) .fail (fun i => k (ju n i)) v) (k dflt) v
theorem iA {n dflt : Nat} {x v l : AV} {k : Nat -> R} {s : ab} (h : eX n dflt x k = .val v l s) : ∃ i : Option Int, k (i.elim dflt (clipAt n)) = .val v l s /\ ((x = .none /\ i = none) \/ ∃ j, x = .int j /\ i = some j) := by
 induction x using AV.casesOn <;> first | exact R.noConfusion h | skip
 ·exact ⟨none, h, .inl ⟨rfl, rfl⟩⟩
 ·rename_i j
  have h : k (ju n j) = .val v l s := h
  rw [xM] at h
  exact ⟨some j, h, .inr ⟨j, rfl, rfl⟩⟩
theorem ij {W : Gh} {x : AV} {i : Option Int} {y : Value} (hx : (x = .none /\ i = none) \/ ∃ j, x = .int j /\ i = some j) (r : RV W x y) : IsPart y i /\ ∃ p : Option (Int × Tok), y = partValue p /\ p.map (·.1) = i := by
 rcases hx with ⟨rfl, rfl⟩ | ⟨j, rfl, rfl⟩
 ·cases r; exact ⟨.none, none, rfl, rfl⟩
 ·refine bI (r.int_inv) fun t q1 => ?_; refine aa q1 ?_; exact ⟨.int _ _, some (j, t), rfl, rfl⟩
noncomputable def w8 (σ : ab) (x lo hi : AV) (k : AV -> ab -> R) : R :=
 @AV.rec (fun _ => R) .fail .fail (fun _ => .fail) (fun _ => .fail) (fun n c => eX n 0 lo fun a => eX n n hi fun b => k (.str (Nat.sub b a) (Nat.mod (Nat.div c (Nat.pow 256 a)) (Nat.pow 256 (Nat.sub b a)))) σ) (fun _ => .fail) (fun _ => .fail) (fun i => (σ.look i).eg fun n l => eX n 0 lo fun a => eX n n hi fun b => k (.lst (Nat.sub b a) (AV.take (AV.drop l a) (Nat.sub b a))) σ) (fun _ _ _ => .fail) (fun n l _ => eX n 0 lo fun a => eX n n hi fun b => k (.lst (Nat.sub b a) (AV.take (AV.drop l a) (Nat.sub b a))) σ) (fun _ _ _ => .fail) (fun _ _ => .fail) (fun _ _ => .fail) (fun _ _ => .fail) (fun _ => .fail) (fun _ => .fail) .fail (fun _ _ _ _ => .fail) (fun _ _ _ _ _ _ => .fail) x
theorem gb (lo hi : Option Int) (n : Nat) : Builtin.Str.strSliceIndices lo hi 1 n = sliceRange ((lo.elim 0 (clipAt n) : Nat) : Int) ((hi.elim n (clipAt n) : Nat) : Int) 1 := by
 have e : Builtin.Str.strSliceIndices lo hi 1 n = sliceRange (sliceBounds lo hi none n).1 (sliceBounds lo hi none n).2.1 1 := by
  delta Builtin.Str.strSliceIndices sliceBounds
  induction lo using Option.casesOn <;> induction hi using Option.casesOn <;> simp
 refine aa e ?_; rw [sliceBounds_plain]
theorem nX (n : Nat) (lo : Option Int) : lo.elim n (clipAt n) <= n := by
 induction lo using Option.casesOn with
 | none => exact Nat.le_refl _
 | some i => show clipAt n i <= n; have := clipAt_cast n i; omega
theorem picked_eq {x : Str} {lo hi : Option Int} : (Builtin.Str.strSliceIndices lo hi 1 x.length).filterMap (x.cps[·]?) = (x.cps.toList.drop (lo.elim 0 (clipAt x.length))).take (hi.elim x.length (clipAt x.length) - lo.elim 0 (clipAt x.length)) := by
 rw [gb, sliceRange_one, pick_run]
theorem qA {x : Str} {lo hi : Option Int} : (Builtin.Str.strSliceIndices lo hi 1 x.length).length = hi.elim x.length (clipAt x.length) - lo.elim 0 (clipAt x.length) := by
 rw [gb, sliceRange_one]; simp
theorem wY {q : Bool} : w6 q w8 := fun σ x lo hi k v Z σf h => by
 have list : ∀ {n : Nat} {l : AV}, (x = .lst n l \/ ∃ i, x = .ref i /\ σ.At i (.list n l)) -> (eX n 0 lo fun a => eX n n hi fun b => k (.lst (Nat.sub b a) (AV.take (AV.drop l a) (Nat.sub b a))) σ) = .val v Z σf ->
   ∃ z σ', k z σ' = .val v Z σf /\ ∀ A W s vx vl vu a, cP 1 A -> (q = true -> A.handled = none) -> Inv W σ s -> RV W x vx -> RV W lo vl -> RV W hi vu ->
    s.heap.IsSliceOf a vl vu .none -> ef s vx /\ wpAny (model D.prog D.w) A (getItem vx (.ref a)) (aj W s z σ') No s := by
  intro n l hx h
  refine ae (iA h) fun i h1 hi1 => ?_
  refine ae (iA h1) fun j h2 hi2 => ?_
  refine ⟨_, _, h2, fun A W s vx vl vu a hr _ I r1 r2 r3 hsl => ?_⟩
  refine ba (ij hi1 r2) fun p1 _ => ?_
  refine ba (ij hi2 r3) fun p2 _ => ?_
  have key : ∀ {b : Addr} {items : Array Value} {ep : Nat}, s.heap.get? b = some (aV items ep) -> items.size = n -> n <= 1048576 -> RL W l items.toList -> ef s (.ref b) /\
    wpAny (model D.prog D.w) A (getItem (.ref b) (.ref a)) (aj W s (.lst (j.elim n (clipAt n) - i.elim 0 (clipAt n)) (AV.take (AV.drop l (i.elim 0 (clipAt n))) (j.elim n (clipAt n) - i.elim 0 (clipAt n)))) σ) No s := by
   intro b items ep e hn hb rl
   have hl := aH e
   refine ⟨⟨"list", _, hl.typeIs, slot_list_getitem.lookup⟩, ?_⟩
   refine wpAny_getItem_list_slice hl hsl p1 p2 .none (fun q => nomatch q) ?_ (by refine aa sizeLine_eq ?_; lia)
   rw [slicePick_plain]; refine aa hn ?_
   refine aj.az (o := aV _ 0) I rfl s.toks fun W' le e => .lst _ _ _ _ 0 e ?_ ?_ ?_
   ·have hle : j.elim n (clipAt n) <= n := nX n j
    simp only [List.size_toArray, List.length_take, List.length_drop, Array.length_toList]
    omega
   ·have hle : j.elim n (clipAt n) <= n := nX n j
    omega
   ·simpa using ((rl.mono le.bM).drop).take
  rcases hx with rfl | ⟨i', rfl, hat⟩
  ·induction r1 using RV.jE with
   | mk b items ep e hn hb rl => exact key (I.az _ _ e) hn hb rl
  ·induction r1 using RV.cg with
   | mk b e => refine bH (listAt I hat e) fun items ep e2 hn hb rl => ?_; exact key e2 hn hb rl
 induction x using AV.casesOn <;> first | exact R.noConfusion h | skip
 case lst n l => exact list (.inl rfl) h
 case ref i =>
  have h : (σ.look i).eg (fun n l => eX n 0 lo fun a => eX n n hi fun b => k (.lst (Nat.sub b a) (AV.take (AV.drop l a) (Nat.sub b a))) σ) = .val v Z σf := h
  refine ag (AO.cy h) fun n l e h1 => ?_
  exact list (.inr ⟨i, rfl, ab.aw e fun x => AO.noConfusion x⟩) h1
 case str n c =>
  have h : (eX n 0 lo fun a => eX n n hi fun b => k (.str (Nat.sub b a) (Nat.mod (Nat.div c (Nat.pow 256 a)) (Nat.pow 256 (Nat.sub b a)))) σ) = .val v Z σf := h
  refine ae (iA h) fun i h1 hi1 => ?_
  refine ae (iA h1) fun j h2 hi2 => ?_
  refine ⟨_, _, h2, fun A W s vx vl vu a hr _ I r1 r2 r3 hsl => ?_⟩
  refine cj (ij hi1 r2) fun _ p1 q1 m1 => ?_
  refine cj (ij hi2 r3) fun _ p2 q2 m2 => ?_
  refine af (r1.str_inv) fun t q1 hc hn => ?_; obtain rfl := q1
  refine ⟨⟨"str", _, typeIs_str s _ _, F.slot_str_getitem.lookup⟩, ?_⟩
  refine af hsl ?_; clear hsl; intro o ho hcl hd
  refine wpAny_getItem_str_slice (l := p1) (u := p2) (st := none) ⟨o, ho, hcl, by refine aa hd ?_; refine aa q1 ?_; refine aa q2 ?_; rfl⟩ rfl ?_
  have pl := qA (x := toS n c) (lo := i) (hi := j)
  have pe := picked_eq (x := toS n c) (lo := i) (hi := j)
  rw [aM] at pl pe
  have hle : j.elim n (clipAt n) <= n := nX n j
  delta sliceMade slicePicked
  refine aa m1 ?_; rw [m2, aM]
  show Made.post (if ((1 : Int) == 1 && (Builtin.Str.strSliceIndices i j 1 n).length == n) = true then _ else _) _ _
  generalize ha : i.elim 0 (clipAt n) = lo' at pl pe h2 ⊢
  generalize hb : j.elim n (clipAt n) = hi' at pl pe h2 hle ⊢
  have code : c / 256 ^ lo' % 256 ^ (hi' - lo') < 256 ^ (hi' - lo') := Nat.mod_lt _ (Nat.pow_pos (by decide))
  by_cases hw : (Builtin.Str.strSliceIndices i j 1 n).length = n
  ·refine aa (if_pos (by rw [hw]; simp)) ?_
   have e : hi' - lo' = n := by refine bw pl ?_; exact aa hw rfl
   by_cases hn0 : n = 0
   ·subst hn0
    have : c = 0 := by simpa using hc
    subst this
    have : toS (hi' - lo') (0 / 256 ^ lo' % 256 ^ (hi' - lo')) = toS 0 0 := by refine aa e ?_; rfl
    show aj W s (.str (hi' - lo') (0 / 256 ^ lo' % 256 ^ (hi' - lo'))) σ (.str (toS 0 0) t) s
    refine bw this ?_
    exact aj.tok I s.toks (.str _ _ _ code (by lia))
   ·have h0 : lo' = 0 := by lia
    subst h0
    have hc2 : c / 256 ^ 0 % 256 ^ (hi' - 0) = c := by refine aa e ?_; simp [Nat.mod_eq_of_lt hc]
    show aj W s (.str (hi' - 0) (c / 256 ^ 0 % 256 ^ (hi' - 0))) σ (.str (toS n c) t) s
    refine aa hc2 ?_; refine aa e ?_
    exact aj.tok I s.toks (.str _ _ _ hc hn)
  ·refine aa (if_neg (by simp [hw])) ?_
   have ee : (⟨((Builtin.Str.strSliceIndices i j 1 n).filterMap ((toS n c).cps[·]?)).toArray⟩ : Str) = toS (hi' - lo') (c / 256 ^ lo' % 256 ^ (hi' - lo')) := by
    refine aa pe ?_
    skip
    congr 2
    show ((dec n c).drop lo').take (hi' - lo') = _
    rw [ib, ll _ _ _ (by omega)]
   show Made.post (.str (⟨((Builtin.Str.strSliceIndices i j 1 n).filterMap ((toS n c).cps[·]?)).toArray⟩ : Str)) _ _
   refine aa ee ?_
   exact ⟨by rw [aM]; refine aa sizeLine_eq ?_; omega, aj.tok I _ (.str _ _ _ code (by show hi' - lo' <= _; omega))⟩
end
section
open PySem PyProof.Rows
variable {C : Cx} {lv : Nat}
theorem Inv.B4 {W : Gh} {σ : ab} {s : Shared} {h' : Heap} (I : Inv W σ s) (hk : Keeps W s.heap h') : W h'.objs.size = .free := by
 refine Classical.byContradiction fun q => ?_
 refine bI (I.ex _ q) fun o e => ?_
 exact Nat.lt_irrefl _ (Heap.lt_size (hk _ _ q e))
theorem aj.s9 {W : Gh} {σ : ab} {s : Shared} {o : Obj} {v : AV} {a : Addr} {h' : Heap} {t : Nat} (I : Inv W σ s) (ha : W a = .free) (ho : h'.get? a = some o) (hk : Keeps W s.heap h')
  (r : ∀ W' : Gh, W.le W' -> W' a = .az o -> RV W' v (.ref a)) : aj W s v σ (.ref a) { s with heap := h', toks := t } :=
 ⟨_, Gh.aQ ha, I.fx ha ho hk, hk.own, r _ (Gh.aQ ha) (Gh.aq ..)⟩
theorem aj.Dz {W : Gh} {σ : ab} {s : Shared} {ao : AO} {a : Addr} {h' : Heap} {t : Nat} (I : Inv W σ s) (ha : W a = .free) (ho : ∃ o, h'.get? a = some o) (hk : Keeps W s.heap h')
  (r : ∀ W' : Gh, W.le W' -> W' a = .bu σ.next -> OR W' h' σ.next a ao) : aj W s (.ref σ.next) (.cons σ.next ao σ) (.ref a) { s with heap := h', toks := t } :=
 ⟨_, Gh.aQ ha, I.new ha ho hk (r _ (Gh.aQ ha) (Gh.aq ..)), hk.own, .ref _ _ (Gh.aq ..)⟩
theorem aj.fG {W : Gh} {σ : ab} {s : Shared} {h' : Heap} {t : Nat} {a : Addr} {i : Nat} {o : AO} {v : AV} {x : Value} (I : Inv W σ s) (ha : W a = .bu i) (hs : ∀ b o, b ≠ a -> s.heap.get? b = some o -> h'.get? b = some o) (hx : ∃ o, h'.get? a = some o)
  (ho : OR W h' i a o) (r : RV W v x) : aj W s v (σ.put i o) x { s with heap := h', toks := t } :=
 ⟨W, .refl W, I.fG ha hs hx ho, .of fun b ob hb e => hs b ob (by rintro rfl; rw [ha] at hb; exact nomatch hb) e, r⟩
noncomputable def eG (q : Bool) (f : Value) (F : ab -> AV -> (AV -> ab -> R) -> R) : Prop :=
 ∀ σ l k v Z σf, F σ l k = .val v Z σf -> ∃ z σ', k z σ' = .val v Z σf /\ ∀ A W s vs, cP 1 A -> (q = true -> A.handled = none) -> Inv W σ s -> RL W l vs -> wpAny (model D.prog D.w) A (call f vs) (aj W s z σ') No s
noncomputable def qZ (F : ab -> AV -> (AV -> ab -> R) -> R) (d : DE) : DE := fun ih Z σ => (d ih Z σ).bind fun l Z σ => F σ l fun z σ => .val z Z σ
noncomputable def Plain (es : List Expr) : Prop := ∀ env pos, (backTo pos (starEach es env)).any (·.1) = false
theorem fu {es : List Expr} {d : DE} {f : Value} {r : Nat} {ih : CH} {A : Around} {env : Env} {W : Gh} {Z : AV} {σ : ab} {s : Shared} {Q : Args -> Shared -> Prop} (hs : dX es)
  (P : Pre C lv r ih A env W Z σ s) (h1 : jZ C lv es d) {v1 l1 s1} (e1 : d ih Z σ = .val v1 l1 s1) (pos : Pos)
  (h : ∀ W' vs s', W.le W' -> St C env W' l1 s1 s' -> RL W' v1 vs -> Q ⟨vs, []⟩ s') :
  wpAny (model D.prog D.w) A (evalArgs f true (backTo pos (starEach es env)) []) Q No s :=
 dn (ks := []) hs (fun _ h => nomatch h) P h1 aK e1 rfl pos fun W' vs kvs s' w T r1 r2 => h W' vs s' w T r1
theorem wb {x : Str} {p pos : Pos} {f : Value} {es : List Expr} {d : DE} {F : ab -> AV -> (AV -> ab -> R) -> R} (hF : eG C.q f F) (hx : C.sc.names.lookup x = some .globalImplicit) (hd : (x == ("__debug__" : Str)) = false) (hg : cG x f)
  (hf : (∃ id, f = .builtin id) \/ ∃ T, f = .type T) (hs : dX es) (hp : Plain es) (h1 : jZ C lv es d) : aS C lv (.Call (.Name x p) es [] pos) (qZ F d) := fun r ih A env W Z σ s P v Z' σ' h => by
 refine ak (R.ai h) fun l l1 s1 e1 h => ?_
 refine ag (hF _ _ _ _ _ _ h) fun z s2 h w => ?_
 cases h
 have args : wpAny (model D.prog D.w) A (evalArgs f true (backTo pos (starEach es env)) []) (fun a s₁ => wpAny (model D.prog D.w) A (call f ([] ++ a.pos) a.kw) (EPost C env W v Z' σ') No s₁) No s :=
  fu hs P h1 e1 pos fun W' vs s' w' T r1 => wpAny_mono (w A W' s' vs P.op P.hn T.1 r1) (fun _ _ hv => hv.frame T w') fun _ _ x => x
 refine Call_Name rfl (c5 hx hg hd P.st ?_)
 rcases hf with ⟨id, rfl⟩ | ⟨T, rfl⟩
 ·exact Calls.callWith_builtin (hp env pos) args
 ·exact PyProof.Rows.callWith_type (hp env pos) args
structure Recv (T : String) (name : Str) (id : String) (recv : ab -> AV -> Bool) : Prop where
 ok : ∀ σ x, recv σ x = true -> ∀ W s vx, Inv W σ s -> RV W x vx -> s.TypeIs vx T /\ ∀ a, vx = .ref a -> ∃ ob, s.heap.get? a = some ob /\ ob.dict = none
 pa : PlainAttrs T
 slot : PySem.Slot T name id
 ty : typeOf (.builtin id) = pure (.type "method_descriptor")
noncomputable def eA (q : Bool) (id : String) (F : ab -> AV -> AV -> (AV -> ab -> R) -> R) : Prop :=
 ∀ σ x l k v Z σf, F σ x l k = .val v Z σf -> ∃ z σ', k z σ' = .val v Z σf /\ ∀ A W s vx vs, cP 1 A -> (q = true -> A.handled = none) -> Inv W σ s -> RV W x vx -> RL W l vs ->
  wpAny (model D.prog D.w) A (call (.builtin id) (vx :: vs)) (aj W s z σ') No s
noncomputable def vW (recv : ab -> AV -> Bool) (F : ab -> AV -> AV -> (AV -> ab -> R) -> R) (d1 d2 : DE) : DE := fun ih Z σ => (d1 ih Z σ).bind fun x Z σ => R.guard (recv σ x) ((d2 ih Z σ).bind fun l Z σ => F σ x l fun z σ => .val z Z σ)
theorem zj {o : Expr} {name : Str} {apos pos : Pos} {es : List Expr} {T id : String} {recv : ab -> AV -> Bool} {F : ab -> AV -> AV -> (AV -> ab -> R) -> R} {d1 d2 : DE} (hR : Recv T name id recv) (hF : eA C.q id F)
  (hbase : ∀ env, attributeBase o name env (eval o env) = eval o env)
  (hfew : ∀ env, ((backTo pos (starEach es env)).all (fun x => !x.1) && (backToKw pos (keywordEach [] env)).all (fun x => x.1.isSome) && decide (es.length + ([] : List Keyword).length + (if ([] : List Keyword).isEmpty then 0 else 1) < 30)) = true)
  (hline : (apos.endLine == pos.line) = true) (hs : dX es) (hp : Plain es) (h1 : aS C lv o d1) (h2 : jZ C lv es d2) : aS C lv (.Call (.Attribute o name apos) es [] pos) (vW recv F d1 d2) := fun r ih A env W Z σ s P v Z' σ' h => by
 refine ak (R.ai h) fun x l1 s1 e1 h => ?_
 refine ba (R.ah h) fun hr h => ?_
 refine ak (R.ai h) fun l l2 s2 e2 h => ?_
 refine ag (hF _ _ _ _ _ _ _ h) fun z s3 h w => ?_
 refine R.ve h ?_
 refine wpAny_Call_method (hbase env) (hfew env) hline hR.pa hR.slot hR.ty (wpAny_mono (h1 r ih A env W Z σ s P _ _ _ e1) (fun vx sa ha => ?_) fun _ _ x => x)
 refine af ha ?_; clear ha; intro W1 w1 T1 r1
 refine ba (hR.ok _ _ hr W1 sa vx T1.1 r1) fun q1 q2 => ?_
 refine ⟨q1, q2, Calls.callWith_builtin (hp env pos) (fu hs (P.next T1) h2 e2 pos fun W' vs s' w' T rl => ?_)⟩
 exact wpAny_mono (w A W' s' vx vs P.op P.hn T.1 (r1.mono w'.bM) rl) (fun _ _ hv => hv.frame T (w1.trans w')) fun _ _ x => x
noncomputable def fP (σ : ab) (v : AV) : Bool :=
 AV.cStr (β := Bool) false (fun _ _ => true) v
noncomputable def te (σ : ab) (v : AV) : Bool :=
 AV.tB (β := Bool) false (fun _ _ => true) v
noncomputable def AO.kind (o : AO) : Nat := @AO.rec (fun _ => Nat) (fun _ _ => 1) (fun _ _ _ => 2) (fun _ _ => 3) 0 (fun _ _ => 4) (fun _ => 5) (fun _ _ => 6) o
noncomputable def gO (n : Nat) (σ : ab) (v : AV) : Bool :=
 AV.jO (β := Bool) false (fun i => Nat.beq (σ.look i).kind n) v
noncomputable def qB (σ : ab) (v : AV) : Bool :=
 AV.jO (β := Bool) (AV.rn (β := Bool) false (fun _ _ => true) v) (fun i => Nat.beq (σ.look i).kind 2) v
theorem fM {name : Str} {id : String} (slot : PySem.Slot "str" name id) (ty : typeOf (.builtin id) = pure (.type "method_descriptor")) : Recv "str" name id fP where
 ok σ x hx W s vx I r := by
  induction x using AV.casesOn <;> first | exact Bool.noConfusion hx | skip
  refine ae (r.str_inv) fun t q1 _ => ?_; refine aa q1 ?_
  exact ⟨typeIs_str s _ _, fun a e => nomatch e⟩
 pa := F.plainAttrs_str
 slot := slot
 ty := ty
theorem m5 {n : Nat} {σ : ab} {x : AV} (h : gO n σ x = true) : ∃ i, x = .ref i /\ (σ.look i).kind = n := by
 induction x using AV.casesOn <;> first | exact Bool.noConfusion h | skip
 exact ⟨_, rfl, Nat.eq_of_beq_eq_true h⟩
theorem i6 {name : Str} {id : String} (slot : PySem.Slot "list" name id) (ty : typeOf (.builtin id) = pure (.type "method_descriptor")) : Recv "list" name id (gO 1) where
 ok σ x hx W s vx I r := by
  refine ae (m5 hx) fun i q1 hk => ?_; obtain rfl := q1
  induction r using RV.cg with
  | mk a e =>
   cases ho : σ.look i <;> rw [ho] at hk <;> first | (cases hk; done) | skip
   refine ag (listAt I (ab.aw ho fun x => AO.noConfusion x) e) fun items ep e1 _ => ?_
   exact ⟨(aH e1).typeIs, fun b hb => by cases hb; exact ⟨_, e1, rfl⟩⟩
 pa := F.plainAttrs_list
 slot := slot
 ty := ty
theorem mK {name : Str} {id : String} (slot : PySem.Slot "dict" name id) (ty : typeOf (.builtin id) = pure (.type "method_descriptor")) : Recv "dict" name id qB where
 ok σ x hx W s vx I r := by
  have key : ∀ {a : Addr} {kvs : List (Str × Value)}, s.heap.DictOf (strKind D.prog D.w) a kvs -> s.TypeIs (.ref a) "dict" /\ ∀ b, Value.ref a = .ref b -> ∃ ob, s.heap.get? b = some ob /\ ob.dict = none := fun {a kvs} hd => by
   refine ⟨hd.typeIs, fun b hb => ?_⟩
   cases hb
   refine du hd ?_; clear hd; intro o es ep e hn12_4 _; obtain ⟨hc, hn, hd'⟩ := hn12_4
   exact ⟨o, e, hn⟩
  induction x using AV.casesOn <;> first | exact Bool.noConfusion hx | skip
  ·rename_i i
   have hk : (σ.look i).kind = 2 := Nat.eq_of_beq_eq_true hx
   induction r using RV.cg with
   | mk a e =>
    cases ho : σ.look i <;> rw [ho] at hk <;> first | (cases hk; done) | skip
    refine ag (cY I (ab.aw ho fun x => AO.noConfusion x) e) fun kvs ep' hd _ => ?_
    exact key hd.dictOf
  ·cases r with
   | dct n e a o kvs e1 e2 => exact key (e2 _ (I.az _ _ e1)).dictOf
 pa := F.plainAttrs_dict
 slot := slot
 ty := ty
theorem wA {name : Str} {id : String} (slot : PySem.Slot "set" name id) (ty : typeOf (.builtin id) = pure (.type "method_descriptor")) : Recv "set" name id (gO 3) where
 ok σ x hx W s vx I r := by
  refine ae (m5 hx) fun i q1 hk => ?_; obtain rfl := q1
  induction r using RV.cg with
  | mk a e =>
   cases ho : σ.look i <;> rw [ho] at hk <;> first | (cases hk; done) | skip
   refine ak (cY I (ab.aw ho fun x => AO.noConfusion x) e) fun S kn ks hn15_3 _ => ?_; obtain ⟨o, es, ep, t, e1, e2⟩ := hn15_3
   refine ⟨⟨o, e1, ?_⟩, fun b hb => ?_⟩
   ·exact e2.1.1
   ·cases hb
    exact ⟨o, e1, e2.1.2.1⟩
 pa := F.plainAttrs_set
 slot := slot
 ty := ty
end
section
open PySem PyProof.Rows
variable {C : Cx} {lv : Nat} {q : Bool}
noncomputable def AV.qx (l : AV) (k : AV -> R) : R := l.cM .fail fun x t => t.cM (k x) fun _ _ => .fail
noncomputable def AV.FF (l : AV) (k : AV -> AV -> R) : R := l.cM .fail fun x t => t.cM .fail fun y u => u.cM (k x y) fun _ _ => .fail
noncomputable def AV.DR (l : AV) (k1 : AV -> R) (k2 : AV -> AV -> R) : R := l.cM .fail fun x t => t.cM (k1 x) fun y u => u.cM (k2 x y) fun _ _ => .fail
theorem AV.cV {l v m : AV} {s : ab} {k : AV -> R} (h : l.qx k = .val v m s) : ∃ x, l = .cons x .nil /\ k x = .val v m s := by
 rcases AV.bz h with ⟨_, h1⟩ | ⟨x, t, rfl, h1⟩
 ·exact R.noConfusion h1
 ·rcases AV.bz h1 with ⟨rfl, h2⟩ | ⟨_, _, _, h2⟩
  ·exact ⟨x, rfl, h2⟩
  ·exact R.noConfusion h2
theorem AV.wq {l v m : AV} {s : ab} {k : AV -> AV -> R} (h : l.FF k = .val v m s) : ∃ x y, l = .cons x (.cons y .nil) /\ k x y = .val v m s := by
 rcases AV.bz h with ⟨_, h1⟩ | ⟨x, t, rfl, h1⟩
 ·exact R.noConfusion h1
 ·rcases AV.bz h1 with ⟨_, h2⟩ | ⟨y, u, rfl, h2⟩
  ·exact R.noConfusion h2
  ·rcases AV.bz h2 with ⟨rfl, h3⟩ | ⟨_, _, _, h3⟩
   ·exact ⟨x, y, rfl, h3⟩
   ·exact R.noConfusion h3
theorem AV.AG {l v m : AV} {s : ab} {k1 : AV -> R} {k2 : AV -> AV -> R} (h : l.DR k1 k2 = .val v m s) : (∃ x, l = .cons x .nil /\ k1 x = .val v m s) \/ ∃ x y, l = .cons x (.cons y .nil) /\ k2 x y = .val v m s := by
 rcases AV.bz h with ⟨_, h1⟩ | ⟨x, t, rfl, h1⟩
 ·exact R.noConfusion h1
 ·rcases AV.bz h1 with ⟨rfl, h2⟩ | ⟨y, u, rfl, h2⟩
  ·exact .inl ⟨x, rfl, h2⟩
  ·rcases AV.bz h2 with ⟨rfl, h3⟩ | ⟨_, _, _, h3⟩
   ·exact .inr ⟨x, y, rfl, h3⟩
   ·exact R.noConfusion h3
theorem RL.one {W : Gh} {x : AV} {vs : List Value} (r : RL W (.cons x .nil) vs) : ∃ a, vs = [a] /\ RV W x a := by
 induction r using RL.iE with
 | mk a _ r t => cases t; exact ⟨a, rfl, r⟩
theorem RL.two {W : Gh} {x y : AV} {vs : List Value} (r : RL W (.cons x (.cons y .nil)) vs) : ∃ a b, vs = [a, b] /\ RV W x a /\ RV W y b := by
 induction r using RL.iE with
 | mk a _ r t => refine ae (t.one) fun b q1 r2 => ?_; refine aa q1 ?_; exact ⟨a, b, rfl, r, r2⟩
theorem eF {W : Gh} {σ : ab} {s : Shared} {x : AV} {n : Nat} {l : AV} {y : Value} (I : Inv W σ s) (hx : x = .lst n l \/ ∃ i, x = .ref i /\ σ.At i (.list n l)) (r : RV W x y) :
  ∃ a items ep, y = .ref a /\ s.heap.get? a = some (aV items ep) /\ items.size = n /\ n <= 1048576 /\ RL W l items.toList := by
 rcases hx with rfl | ⟨i, rfl, hat⟩
 ·induction r using RV.jE with
  | mk a items ep e hn hb rl => exact ⟨a, items, ep, rfl, I.az _ _ e, hn, hb, rl⟩
 ·induction r using RV.cg with
  | mk a e => refine bH (listAt I hat e) fun items ep e2 hn hb rl => ?_; exact ⟨a, items, ep, rfl, e2, hn, hb, rl⟩
noncomputable def F9 (σ : ab) (l : AV) (k : AV -> ab -> R) : R := l.qx fun x => (@AV.rec (fun _ => R) .fail .fail (fun _ => .fail) (fun _ => .fail) (fun n c => k (.int (Int.ofNat n)) σ) (fun _ => .fail) (fun _ => .fail) (fun i => (σ.look i).eg fun n _ => k (.int (Int.ofNat n)) σ) (fun n l _ => k (.int (Int.ofNat n)) σ) (fun n l _ => k (.int (Int.ofNat n)) σ) (fun _ _ _ => .fail) (fun _ _ => .fail) (fun _ _ => .fail) (fun _ _ => .fail) (fun _ => .fail) (fun _ => .fail) .fail (fun _ _ _ _ => .fail) (fun _ _ _ _ _ _ => .fail) x)
theorem fL : eG q (.builtin "len") F9 := fun σ l k v Z σf h => by
 refine ae (AV.cV h) fun x q1 h1 => ?_; refine aa q1 ?_
 have lst : ∀ {n : Nat} {l : AV}, (x = .lst n l \/ ∃ i, x = .ref i /\ σ.At i (.list n l)) -> k (.int (Int.ofNat n)) σ = .val v Z σf -> ∃ z σ', k z σ' = .val v Z σf /\ ∀ A W s vs, cP 1 A -> (q = true -> A.handled = none) -> Inv W σ s -> RL W (.cons x .nil) vs ->
   wpAny (model D.prog D.w) A (call (.builtin "len") vs) (aj W s z σ') No s := fun {n l} hx h => by
  refine ⟨_, _, h, fun A W s vs _ _ I r => ?_⟩
  refine ae (r.one) fun y q1 ry => ?_; refine aa q1 ?_
  refine aY (eF I hx ry) fun a items ep q3 e hn hb rl => ?_; refine aa q3 ?_
  refine Calls.call_len_list (aH e) (by omega) ?_
  refine aa hn ?_
  exact aj.tok I _ (.int _ _)
 induction x using AV.casesOn <;> first | exact R.noConfusion h1 | skip
 ·refine ⟨_, _, h1, fun A W s vs _ _ I r => ?_⟩
  refine ae (r.one) fun y q1 ry => ?_; obtain rfl := q1
  refine af (ry.str_inv) fun t q1 hc hn => ?_; refine aa q1 ?_
  refine P.len_str (by rw [aM]; omega) ?_
  rw [aM]
  exact aj.tok I _ (.int _ _)
 ·rename_i i
  refine ag (AO.cy h1) fun n l e h2 => ?_
  exact lst (.inr ⟨i, rfl, ab.aw e fun x => AO.noConfusion x⟩) h2
 ·refine ⟨_, _, h1, fun A W s vs _ _ I r => ?_⟩
  refine ae (r.one) fun y q1 ry => ?_; refine aa q1 ?_
  induction ry using RV.iu with
  | mk a items e hn hb rl =>
   refine P.len_tuple (items := items) (n := 0) (I.az _ _ e) (by omega) ?_
   refine aa hn ?_
   exact aj.tok I _ (.int _ _)
 ·exact lst (.inl rfl) h1
noncomputable def Cu (σ : ab) (l : AV) (k : AV -> ab -> R) : R := l.DR (fun x => dZ x fun n => R.guard (fits n) (k (.rng 0 n) σ)) fun x y => dZ x fun a => dZ y fun b => R.guard (fits a) (R.guard (fits b) (k (.rng a b) σ))
theorem lE : eG q (.type "range") Cu := fun σ l k v Z σf h => by
 rcases AV.AG h with ⟨x, rfl, h1⟩ | ⟨x, y, rfl, h1⟩
 ·refine ae (bS h1) fun n q1 h2 => ?_; refine aa q1 ?_
  refine ba (R.ah h2) fun g h3 => ?_
  refine ⟨_, _, h3, fun A W s vs _ _ I r => ?_⟩
  refine ae (r.one) fun y q1 ry => ?_; refine aa q1 ?_
  refine bI (ry.int_inv) fun t q1 => ?_; refine aa q1 ?_
  refine call_range_1 ?_
  exact aj.az (o := nE 0 n _ _ _) I rfl _ fun W' l e => .rng _ _ _ _ _ _ e (by decide) (bO g)
 ·refine ae (bS h1) fun a q1 h2 => ?_; refine aa q1 ?_
  refine ae (bS h2) fun b q1 h2 => ?_; refine aa q1 ?_
  refine ba (R.ah h2) fun g h3 => ?_
  refine ba (R.ah h3) fun g' h3 => ?_
  refine ⟨_, _, h3, fun A W s vs _ _ I r => ?_⟩
  refine aN (r.two) fun y z q2 ry rz => ?_; refine aa q2 ?_
  refine bI (ry.int_inv) fun t q1 => ?_; refine aa q1 ?_
  refine bI (rz.int_inv) fun u q1 => ?_; refine aa q1 ?_
  refine call_range_2 ?_
  exact aj.az (o := nE a b _ _ _) I rfl _ fun W' l e => .rng _ _ _ _ _ _ e (bO g) (bO g')
noncomputable def Cd (σ : ab) (l : AV) (k : AV -> ab -> R) : R := l.qx fun x => (@AV.rec (fun _ => R) .fail .fail (fun _ => .fail) (fun _ => .fail) (fun _ _ => .fail) (fun _ => .fail) (fun _ => .fail) (fun i => (σ.look i).eg fun n l => k (.tup n l) σ) (fun n l _ => k (.tup n l) σ) (fun n l _ => k (.tup n l) σ) (fun _ _ _ => .fail) (fun _ _ => .fail) (fun _ _ => .fail) (fun _ _ => .fail) (fun _ => .fail) (fun _ => .fail) .fail (fun _ _ _ _ => .fail) (fun _ _ _ _ _ _ => .fail) x)
theorem wV : eG q (.type "tuple") Cd := fun σ l k v Z σf h => by
 refine ae (AV.cV h) fun x q1 h1 => ?_; refine aa q1 ?_
 have lst : ∀ {n : Nat} {l : AV}, (x = .lst n l \/ ∃ i, x = .ref i /\ σ.At i (.list n l)) -> k (.tup n l) σ = .val v Z σf -> ∃ z σ', k z σ' = .val v Z σf /\ ∀ A W s vs, cP 1 A -> (q = true -> A.handled = none) -> Inv W σ s -> RL W (.cons x .nil) vs ->
   wpAny (model D.prog D.w) A (call (.type "tuple") vs) (aj W s z σ') No s := fun {n l} hx h => by
  refine ⟨_, _, h, fun A W s vs _ _ I r => ?_⟩
  refine ae (r.one) fun y q1 ry => ?_; refine aa q1 ?_
  refine aY (eF I hx ry) fun a items ep q3 e hn hb rl => ?_; refine aa q3 ?_
  refine call_tuple_list (aH e) (fun h' hk => ?_) (by refine aa sizeLine_eq ?_; omega)
  have hk' : Keeps W s.heap h' := Keeps.bJ hk
  exact aj.s9 (o := cU items 0) (t := s.toks) I (I.B4 hk') (Heap.get?_push_size _ rfl) (fun b ob hb e => Heap.get?_push_of_some _ (hk _ _ e)) fun W' le e => .tup _ _ _ _ e hn hb (rl.mono le.bM)
 induction x using AV.casesOn <;> first | exact R.noConfusion h1 | skip
 ·rename_i i
  refine ag (AO.cy h1) fun n l e h2 => ?_
  exact lst (.inr ⟨i, rfl, ab.aw e fun x => AO.noConfusion x⟩) h2
 ·refine ⟨_, _, h1, fun A W s vs _ _ I r => ?_⟩
  refine ae (r.one) fun y q1 ry => ?_; refine aa q1 ?_
  have ry' := ry
  induction ry using RV.iu with
  | mk a items e hn hb rl => exact call_tuple_same (cN (I.az _ _ e)) (aj.tok I s.toks ry')
 ·exact lst (.inl rfl) h1
end
section
open PySem PyProof.Rows PySem.Spec
variable {C : Cx} {lv : Nat} {q : Bool}
noncomputable def zG (n : Nat) : Nat -> Nat -> Nat -> Bool := @Nat.rec (fun _ => Nat -> Nat -> Nat -> Bool) (fun _ m _ => Nat.blt 0 m) (fun _ ih c m d => @Nat.rec (fun _ => Bool) false (fun k _ => @Bool.rec (fun _ => Bool) (@Bool.rec (fun _ => Bool) false (ih (Nat.div c 256) k (Nat.div d 256)) (Nat.beq (Nat.mod c 256) (Nat.mod d 256))) true (Nat.blt (Nat.mod c 256) (Nat.mod d 256))) m) n
theorem qN : ∀ n c m d, zG n c m d = decide (dec n c < dec m d)
 | 0, c, 0, d => by rw [show zG 0 c 0 d = Nat.blt 0 0 from rfl, eT]; simp [dec]
 | 0, c, m + 1, d => by rw [show zG 0 c (m + 1) d = Nat.blt 0 (m + 1) from rfl, eT]; simp [dec]
 | n + 1, c, 0, d => by rw [show zG (n + 1) c 0 d = false from rfl]; simp [dec]
 | n + 1, c, m + 1, d => by
  have e : zG (n + 1) c (m + 1) d = @Bool.rec (fun _ => Bool) (@Bool.rec (fun _ => Bool) false (zG n (c / 256) m (d / 256)) (Nat.beq (c % 256) (d % 256))) true (Nat.blt (c % 256) (d % 256)) := rfl
  refine aa e ?_; rw [qN n, eT, cC]
  show _ = decide (c % 256 :: dec n (c / 256) < d % 256 :: dec m (d / 256))
  rw [StrLaws.lt_cons_cons]
  by_cases h1 : c % 256 < d % 256
  ·refine aa (decide_eq_true h1) ?_; rfl
  ·refine aa (decide_eq_false h1) ?_
   by_cases h2 : c % 256 = d % 256
   ·refine aa (decide_eq_true h2) ?_; refine aa h2 ?_; simp
   ·refine aa (decide_eq_false h2) ?_; simp [h2]
inductive SK : AV -> List Str -> Prop
 | nil : SK .nil []
 | cons (n c : Nat) (l : AV) (ks : List Str) : c < 256 ^ n -> n <= 1048576 -> SK l ks -> SK (.cons (.str n c) l) (toS n c :: ks)
noncomputable def AV.uN (l : AV) : Bool := AV.fH true (fun a _ ih => @Bool.rec (fun _ => Bool) false ih (fP .nil a)) l
theorem RL.sk {W : Gh} {l : AV} {vs : List Value} (r : RL W l vs) : l.uN = true -> ∃ ss, SK l ss /\ StrsAre vs ss := by
 refine RL.ind (motive := fun l vs => l.uN = true -> ∃ ss, SK l ss /\ StrsAre vs ss) (fun _ => ⟨[], .nil, .nil⟩) (fun a t x xs r _ ih h => ?_) r
 have h : @Bool.rec (fun _ => Bool) false t.uN (fP .nil a) = true := h
 induction a using AV.casesOn <;> first | exact Bool.noConfusion h | skip
 refine ae (ih h) fun ss h1 h2 => ?_
 refine af (r.str_inv) fun tk q1 hc hn => ?_; refine aa q1 ?_
 exact ⟨_, .cons _ _ _ _ hc hn h1, .cons _ _ h2⟩
theorem SK.rl {W : Gh} {l : AV} {ss : List Str} (h : SK l ss) : ∀ {vs : List Value}, StrsAre vs ss -> RL W l vs := by
 induction h with
 | nil => intro vs h; cases h; exact .nil
 | cons n c l ks hc hn _ ih => intro vs h; cases h with
  | cons y t h => exact .cons _ _ _ _ (.str _ _ _ hc hn) (ih h)
noncomputable def AV.AA (n c : Nat) (l : AV) : AV := AV.fH (.cons (.str n c) .nil) (fun a t ih => (AV.cStr (β := AV) .nil (fun m d => @Bool.rec (fun _ => AV) (.cons (.str n c) (.cons (.str m d) t)) (.cons (.str m d) ih) (zG m d n c)) a)) l
noncomputable def AV.wy (l : AV) : AV := AV.fH .nil (fun a _ ih => (AV.cStr (β := AV) .nil (fun m d => AV.AA m d ih) a)) l
noncomputable def vh (x y : Str) : Prop := x.cps.toList <= y.cps.toList
theorem mW {x y z : Str} (h : vh x y) (h' : vh y z) : vh x z := List.le_trans h h'
theorem ql {x y : Str} (h : vh x y) (h' : vh y x) : x = y := Str.ext' (Array.toList_inj.mp (List.le_antisymm h h'))
theorem BU {n c : Nat} (hc : c < 256 ^ n) (hn : n <= 1048576) {l : AV} {ss : List Str} (h : SK l ss) : ss.Pairwise vh -> ∃ ss', SK (l.AA n c) ss' /\ ss'.Perm (toS n c :: ss) /\ ss'.Pairwise vh := by
 induction h with
 | nil => exact fun _ => ⟨_, .cons _ _ _ _ hc hn .nil, .refl _, by simp⟩
 | cons m d l ks hd hm hl ih =>
  intro hp
  have e : AV.AA n c (.cons (.str m d) l) = @Bool.rec (fun _ => AV) (.cons (.str n c) (.cons (.str m d) l)) (.cons (.str m d) (l.AA n c)) (zG m d n c) := rfl
  refine aa e ?_
  rw [List.pairwise_cons] at hp
  cases hb : zG m d n c with
  | true =>
   rw [qN, decide_eq_true_iff] at hb
   refine af (ih hp.2) fun ss' h1 h2 h3 => ?_
   refine ⟨_, .cons _ _ _ _ hd hm h1, (h2.cons _).trans (.swap _ _ _), ?_⟩
   rw [List.pairwise_cons]
   refine ⟨fun y hy => ?_, h3⟩
   rcases List.mem_cons.mp (h2.subset hy) with rfl | hy
   ·show dec m d <= dec n c
    exact List.le_of_lt hb
   ·exact hp.1 y hy
  | false =>
   rw [qN, decide_eq_false_iff_not] at hb
   refine ⟨_, .cons _ _ _ _ hc hn (.cons _ _ _ _ hd hm hl), .refl _, ?_⟩
   rw [List.pairwise_cons]
   have h1 : vh (toS n c) (toS m d) := List.not_lt.mp hb
   refine ⟨fun y hy => ?_, List.pairwise_cons.mpr hp⟩
   rcases List.mem_cons.mp hy with rfl | hy
   ·exact h1
   ·exact mW h1 (hp.1 y hy)
theorem sE {l : AV} {ss : List Str} (h : SK l ss) : ∃ ss', SK l.wy ss' /\ ss'.Perm ss /\ ss'.Pairwise vh := by
 induction h with
 | nil => exact ⟨_, .nil, .refl _, .nil⟩
 | cons n c l ks hc hn hl ih =>
  refine af ih ?_; clear ih; intro ss' h1 h2 h3
  refine af (BU hc hn h1 h3) fun st k1 k2 k3 => ?_
  exact ⟨st, k1, k2.trans (h2.cons _), k3⟩
theorem m4 : ∀ (p : Str) (r : List Str), risingS p r = true -> (p :: r).Pairwise vh
 | p, [], _ => by simp
 | p, x :: r, h => by
  have h : (!ltCps x.cps.toList p.cps.toList && risingS x r) = true := h
  rw [Bool.and_eq_true, ltCps_eq, Bool.not_eq_true', decide_eq_false_iff_not] at h
  have ih := m4 x r h.2
  have h1 : vh p x := List.not_lt.mp h.1
  rw [List.pairwise_cons] at ih ⊢
  refine ⟨fun y hy => ?_, List.pairwise_cons.mpr ih⟩
  rcases List.mem_cons.mp hy with rfl | hy
  ·exact h1
  ·exact mW h1 (ih.1 y hy)
theorem kX : ∀ (l : List Str), sortedS l = true -> l.Pairwise vh
 | [], _ => .nil
 | x :: r, h => m4 x r h
noncomputable def tK (σ : ab) (l : AV) (k : AV -> ab -> R) : R := l.qx fun x => x.dP σ fun n a => R.guard (Nat.blt n 64) (R.guard a.uN (k (.lst n a.wy) σ))
theorem uQ : eG q (.builtin "sorted") tK := fun σ l k v Z σf h => by
 refine ae (AV.cV h) fun x q1 h1 => ?_; refine aa q1 ?_
 refine ag (AV.ct h1) fun n a hx h2 => ?_
 refine ba (R.ah h2) fun g1 h3 => ?_
 refine ba (R.ah h3) fun g2 h4 => ?_
 refine ⟨_, _, h4, fun A W s vs _ _ I r => ?_⟩
 refine ae (r.one) fun y q1 ry => ?_; refine aa q1 ?_
 refine aY (eF I hx ry) fun b items ep q3 e hn hb rl => ?_; refine aa q3 ?_
 refine ae (rl.sk g2) fun ss k1 k2 => ?_
 refine af (sE k1) fun st m1 m2 m3 => ?_
 have h64 : items.toList.length < 64 := by have := Nat.blt_eq.mp g1; refine aa Array.length_toList ?_; refine aa hn ?_; exact this
 refine sorted_strs (vs := items.toList) (by simpa using aH e) k2 h64 fun out ss' p1 p2 p3 => ?_
 have es : ss' = st := List.Perm.eq_of_pairwise (fun x y _ _ => ql) (kX _ p3) m3 (p2.trans m2.symm)
 subst es
 refine bI (sortedAll_at s.heap items.toList out) fun ep' he => ?_
 have hk : Keeps W s.heap (sortedAll s.heap items.toList out) := Keeps.bJ fun _ _ e => sortedAll_old e
 have hfree : W (s.heap.objs.size + 1) = .free := by
  refine Classical.byContradiction fun z => ?_
  refine bI (I.ex _ z) fun o eo => ?_
  exact absurd (Heap.lt_size eo) (Nat.not_lt.mpr (Nat.le_succ _))
 refine aj.s9 (t := s.toks) I hfree he hk fun W' le e' => .lst _ _ _ out ep' e' ?_ hb (m1.rl p1)
 have h1 : out.toList.length = _ := StrsAre.length p1
 have h2 : items.toList.length = _ := StrsAre.length k2
 have h3 := p2.length_eq
 have h4 : out.toList.length = items.toList.length := by refine aa h1 ?_; refine aa h2 ?_; exact aa h3 rfl
 simp only [Array.length_toList] at h4
 refine aa h4 ?_; exact aa hn rfl
noncomputable def AV.allI (l : AV) : Bool := AV.fH true (fun a _ ih => (AV.cInt (β := Bool) false (fun i => ih) a)) l
end
section
open PySem PyProof.Rows PySem.Builtin.Str
variable {C : Cx} {lv : Nat} {q : Bool}
noncomputable def zI (σ : ab) (x y : AV) (k : AV -> ab -> R) : R := x.dP σ fun n a => y.dP σ fun m b => R.guard (fits (Nat.add n m)) (k (.lst (Nat.add n m) (a.app b)) σ)
theorem u9 {σ : ab} {x y v Z : AV} {k : AV -> ab -> R} {σf : ab} (h : zI σ x y k = .val v Z σf) : ∃ z, k z σ = .val v Z σf /\ ∀ A W s vx vy, Inv W σ s -> RV W x vx -> RV W y vy -> wpAny (model D.prog D.w) A (binaryOp .Add vx vy) (aj W s z σ) No s := by
 refine ag (AV.ct h) fun n a hx h1 => ?_
 refine ag (AV.ct h1) fun m b hy h2 => ?_
 refine ba (R.ah h2) fun g h3 => ?_
 refine ⟨_, h3, fun A W s vx vy I r1 r2 => ?_⟩
 refine aY (eF I hx r1) fun a1 it1 ep1 q3 e1 n1 b1 rl1 => ?_; refine aa q3 ?_
 refine aY (eF I hy r2) fun a2 it2 ep2 q3 e2 n2 b2 rl2 => ?_; refine aa q3 ?_
 have hb := bO g
 have hb : n + m <= 1048576 := hb
 refine P.add_list (items := it1) (n := ep1) (items2 := it2) (n2 := ep2) e1 e2 ?_ (by refine aa sizeLine_eq ?_; lia)
 exact aj.az (o := aV (it1 ++ it2) 0) I rfl s.toks fun W' le e => .lst _ _ _ _ 0 e (by simp [n1, n2]) hb (by
  refine aa Array.toList_append ?_
  exact RL.app (rl2.mono le.bM) (rl1.mono le.bM))
noncomputable def D7 (σ : ab) (x y : AV) (k : AV -> ab -> R) : R := (@AV.rec (fun _ => R) .fail .fail (fun _ => .fail) (fun i => xB σ x y k) (fun n c => xB σ x y k) (fun _ => .fail) (fun _ => .fail) (fun i => zI σ x y k) (fun _ _ _ => .fail) (fun n l _ => zI σ x y k) (fun _ _ _ => .fail) (fun _ _ => .fail) (fun _ _ => .fail) (fun _ _ => .fail) (fun _ => .fail) (fun _ => .fail) .fail (fun _ _ _ _ => .fail) (fun _ _ _ _ _ _ => .fail) x)
theorem bE : fR q (binaryOp .Add) D7 := fun σ x y k v Z σf h => by
 have cat : zI σ x y k = .val v Z σf -> ∃ z σ', k z σ' = .val v Z σf /\ ∀ A W s vx vy, cP 1 A -> (q = true -> A.handled = none) -> Inv W σ s -> RV W x vx -> RV W y vy -> wpAny (model D.prog D.w) A (binaryOp .Add vx vy) (aj W s z σ') No s := fun h => by
  refine ae (u9 h) fun z h1 h2 => ?_
  exact ⟨z, σ, h1, fun A W s vx vy _ _ I r1 r2 => h2 A W s vx vy I r1 r2⟩
 induction x using AV.casesOn <;> first | exact R.noConfusion h | exact cat h | exact Cq σ _ y k v Z σf h
noncomputable def zl (σ : ab) (x l : AV) (k : AV -> ab -> R) : R := x.onStr fun n c => l.FF fun p j => p.onStr fun m d => dZ j fun i => k (.bool (@Bool.rec (fun _ => Bool) false (Nat.beq (Nat.mod (Nat.div c (Nat.pow 256 i)) (Nat.pow 256 m)) d) (Nat.ble (Nat.add i m) n))) σ
theorem uw {n c m d i : Nat} (hc : c < 256 ^ n) (hd : d < 256 ^ m) : Txt.startswith3 (toS n c) (toS m d) (i : Int) = @Bool.rec (fun _ => Bool) false (Nat.beq (c / 256 ^ i % 256 ^ m) d) (Nat.ble (i + m) n) := by
 have f : fromIndex (toS n c).length (i : Int) = i := by
  unfold fromIndex
  refine aa (if_neg (by omega)) ?_; lia
 unfold Txt.startswith3
 refine aa f ?_; rw [aM, aM]
 by_cases h : i + m <= n
 ·refine aa (Nat.ble_eq_true_of_le h) ?_; rw [decide_eq_true h, Bool.true_and, StrLaws.subAt_eq]
  show (((dec n c).drop i).take (toS m d).length == dec m d) = Nat.beq (c / 256 ^ i % 256 ^ m) d
  rw [aM, ib, ll _ _ _ (by omega), cC, Bool.eq_iff_iff, beq_iff_eq, decide_eq_true_iff]
  exact ⟨fun h => nh _ _ _ (Nat.mod_lt _ (Nat.pow_pos (by decide))) hd h, fun h => by exact aa h rfl⟩
 ·have : Nat.ble (i + m) n = false := by
   cases hb : Nat.ble (i + m) n with
   | true => exact absurd (Nat.le_of_ble_eq_true hb) h
   | false => rfl
  refine aa this ?_; refine aa (decide_eq_false h) ?_; rfl
theorem dT : eA q "str.startswith" zl := fun σ x l k v Z σf h => by
 refine ag (AV.aZ h) fun n c q2 h1 => ?_; obtain rfl := q2
 refine ag (AV.wq h1) fun p j q2 h2 => ?_; refine aa q2 ?_
 refine ag (AV.aZ h2) fun m d q2 h3 => ?_; refine aa q2 ?_
 refine ae (bS h3) fun i q1 h4 => ?_; refine aa q1 ?_
 refine ⟨_, _, h4, fun A W s vx vs _ _ I r rl => ?_⟩
 refine af (r.str_inv) fun t q1 hc hn => ?_; refine aa q1 ?_
 refine aN (rl.two) fun a b q2 ra rb => ?_; refine aa q2 ?_
 refine af (ra.str_inv) fun u q1 hd hm => ?_; refine aa q1 ?_
 refine bI (rb.int_inv) fun u' q1 => ?_; refine aa q1 ?_
 refine SC.startswith3 ?_
 refine aa (uw hc hd) ?_
 exact aj.tok I s.toks (.bool _)
theorem p9 (x y : Str) (hi lim : Nat) : ∀ (l : List Nat) (st : Array Nat × Nat), (∀ i ∈ l, ¬ (i + y.length <= hi /\ subAt x y i = true)) -> (forIn l st (StrLaws.occBody x y hi lim)).run = st
 | [], st, _ => rfl
 | a :: l, st, h => by
  rw [List.forIn_cons]
  have : ¬ (((st.fst.size < lim /\ st.snd <= a) /\ a + y.length <= hi) /\ subAt x y a = true) := fun q => h a List.mem_cons_self ⟨q.1.2, q.2⟩
  unfold StrLaws.occBody
  refine aa (if_neg this) ?_
  exact p9 x y hi lim l st fun i hi => h i (List.mem_cons_of_mem _ hi)
theorem pD (x y : Str) (hi lim : Nat) : ∀ (l : List Nat) (st : Array Nat × Nat), lim <= st.fst.size -> (forIn l st (StrLaws.occBody x y hi lim)).run = st
 | [], st, _ => rfl
 | a :: l, st, h => by
  rw [List.forIn_cons]
  have : ¬ (((st.fst.size < lim /\ st.snd <= a) /\ a + y.length <= hi) /\ subAt x y a = true) := fun q => Nat.not_lt.mpr h q.1.1.1
  unfold StrLaws.occBody
  refine aa (if_neg this) ?_
  exact pD x y hi lim l st h
theorem eS {β : Type} {f : Nat -> β -> Id (ForInStep β)} (hy : ∀ a b, ∃ c, f a b = pure (.yield c)) : ∀ (l l' : List Nat) (b : β), (forIn (l ++ l') b f).run = (forIn l' (forIn l b f).run f).run
 | [], l', b => rfl
 | a :: l, l', b => by
  refine bI (hy a b) fun c e => ?_
  rw [List.cons_append, List.forIn_cons, List.forIn_cons]; refine aa e ?_
  exact eS hy l l' c
theorem uR (x y : Str) (hi lim : Nat) : ∀ a b, ∃ c, StrLaws.occBody x y hi lim a b = pure (.yield c) := fun a b => by
 unfold StrLaws.occBody
 split <;> exact ⟨_, rfl⟩
theorem occ_first {x : Str} {c lo i : Nat} (h1 : lo <= i) (h2 : x.cps.toList[i]? = some c) (h3 : ∀ j, lo <= j -> j < i -> x.cps.toList[j]? ≠ some c) : occurrences x ⟨#[c]⟩ lo x.length 1 = [i] := by
 have hlt : i < x.length := by
  refine bI (List.getElem?_eq_some_iff.mp h2) ?_; intro h _
  simpa [Str.length] using h
 rw [StrLaws.occ_eq]
 have e : List.range' lo (x.length + 1 - lo) = List.range' lo (i - lo) ++ i :: List.range' (i + 1) (x.length - i) := by
  have : x.length + 1 - lo = (i - lo) + (1 + (x.length - i)) := by lia
  rw [this, <- List.range'_append, Nat.add_comm 1]; refine aa List.range'_succ ?_
  have e2 : lo + 1 * (i - lo) = i := by omega
  exact aa e2 rfl
 refine aa e ?_; rw [eS (uR x _ _ _), p9 x _ _ _ (List.range' lo (i - lo))]
 ·rw [List.forIn_cons]
  have pos : ((((#[] : Array Nat), lo).fst.size < 1 /\ ((#[] : Array Nat), lo).snd <= i) /\ i + (⟨#[c]⟩ : Str).length <= x.length) /\ subAt x ⟨#[c]⟩ i = true := by
   have := (StrLaws.subAt_one x c i).mpr h2
   exact ⟨⟨⟨by simp, h1⟩, this.1⟩, this.2⟩
  have e3 : StrLaws.occBody x ⟨#[c]⟩ x.length 1 i (#[], lo) = pure (.yield (#[i], i + (⟨#[c]⟩ : Str).length)) := by
   unfold StrLaws.occBody
   refine aa (if_pos pos) ?_; rfl
  refine aa e3 ?_
  show (forIn (List.range' (i + 1) (x.length - i)) (#[i], _) (StrLaws.occBody x ⟨#[c]⟩ x.length 1)).run.fst.toList = [i]
  rw [pD]
  exact Nat.le_refl 1
 ·intro j hj q
  rw [List.mem_range'] at hj
  refine ae hj ?_; clear hj; intro d hd q2; obtain rfl := q2
  exact h3 _ (by lia) (by omega) ((StrLaws.subAt_one x c _).mp q)
noncomputable def lR (c n : Nat) : Nat -> Nat := @Nat.rec (fun _ => Nat -> Nat) (fun _ => 0) (fun _ ih d => @Bool.rec (fun _ => Nat) (Nat.succ (ih (Nat.div d 256))) 0 (Nat.beq (Nat.mod d 256) c)) n
theorem my (c : Nat) : ∀ n d, lR c n d < n -> (dec n d)[lR c n d]? = some c /\ ∀ j, j < lR c n d -> (dec n d)[j]? ≠ some c
 | 0, d, h => absurd h (Nat.not_lt_zero _)
 | n + 1, d, h => by
  have e : lR c (n + 1) d = @Bool.rec (fun _ => Nat) (Nat.succ (lR c n (d / 256))) 0 (Nat.beq (d % 256) c) := rfl
  rw [e] at h ⊢
  cases hb : Nat.beq (d % 256) c with
  | true =>
   have := Nat.eq_of_beq_eq_true hb
   exact ⟨by show (d % 256 :: _)[0]? = _; refine aa this ?_; rfl, fun j hj => absurd hj (Nat.not_lt_zero _)⟩
  | false =>
   rw [hb] at h
   have hne := Nat.ne_of_beq_eq_false hb
   refine ba (my c n (d / 256) (Nat.lt_of_succ_lt_succ h)) fun h1 h2 => ?_
   refine ⟨by show (d % 256 :: dec n (d / 256))[lR c n (d / 256) + 1]? = _; simpa using h1, fun j hj => ?_⟩
   induction j using Nat.casesOn with
   | zero => show (d % 256 :: _)[0]? ≠ _; simpa using hne
   | succ j => show (d % 256 :: dec n (d / 256))[j + 1]? ≠ _; simpa using h2 j (Nat.lt_of_succ_lt_succ hj)
noncomputable def Ck (σ : ab) (x l : AV) (k : AV -> ab -> R) : R := x.onStr fun n c => l.FF fun p j => p.onStr fun m d => R.guard (Nat.beq m 1) (dZ j fun i => R.guard (Nat.blt (lR d (Nat.sub n i) (Nat.div c (Nat.pow 256 i))) (Nat.sub n i)) (k (.int (Int.ofNat (Nat.add i (lR d (Nat.sub n i) (Nat.div c (Nat.pow 256 i)))))) σ))
theorem jh (x y : Str) (i : Int) (t u v : Tok) (j : Nat) (rest : List Nat) (h : occurrences x y (fromIndex x.length i) x.length 1 = j :: rest) : Gives (Builtin.«str.index» ⟨[.str x t, .str y u, .int i v], []⟩) (.int j) := by
 show Gives (match occurrences x y (fromIndex x.length i) (min x.length x.length) 1 with | k :: _ => retInt k | [] => (do rule "str.index.not-found"; raiseError "ValueError" "substring not found")) _
 rw [Nat.min_self]; refine aa h ?_
 exact .of_eq rfl
theorem wu : eA q "str.index" Ck := fun σ x l k v Z σf h => by
 refine ag (AV.aZ h) fun n c q2 h1 => ?_; refine aa q2 ?_
 refine ag (AV.wq h1) fun p j q2 h2 => ?_; refine aa q2 ?_
 refine ag (AV.aZ h2) fun m d q2 h3 => ?_; refine aa q2 ?_
 refine ba (R.ah h3) fun g h3 => ?_
 refine aa (Nat.eq_of_beq_eq_true g) ?_
 refine ae (bS h3) fun i q1 h4 => ?_; refine aa q1 ?_
 refine ba (R.ah h4) fun g2 h5 => ?_
 have hlt : lR d (n - i) (c / 256 ^ i) < n - i := Nat.blt_eq.mp g2
 refine ⟨_, _, h5, fun A W s vx vs _ _ I r rl => ?_⟩
 refine af (r.str_inv) fun t q1 hc hn => ?_; refine aa q1 ?_
 refine aN (rl.two) fun a b q2 ra rb => ?_; refine aa q2 ?_
 refine af (ra.str_inv) fun u q1 hd hm => ?_; refine aa q1 ?_
 refine bI (rb.int_inv) fun u' q1 => ?_; refine aa q1 ?_
 refine ba (my d (n - i) (c / 256 ^ i) hlt) fun p1 p2 => ?_
 rw [<- ib] at p1 p2
 have f : fromIndex (toS n c).length (i : Int) = i := by
  unfold fromIndex
  refine aa (if_neg (by omega)) ?_; lia
 have occ : occurrences (toS n c) (toS 1 d) (fromIndex (toS n c).length (i : Int)) (toS n c).length 1 = [i + lR d (n - i) (c / 256 ^ i)] := by
  refine aa f ?_; refine aa (dV hd) ?_
  refine occ_first (Nat.le_add_right _ _) ?_ fun j hj1 hj2 => ?_
  ·rw [List.getElem?_drop] at p1; exact p1
  ·have := p2 (j - i) (by omega)
   rw [List.getElem?_drop] at this
   rw [show i + (j - i) = j by omega] at this
   exact this
 refine call_gives F.slot_str_index (typeIs_str _ _ _) F.entry_str_index (F.args_str_index_3 _ _ _) (jh _ _ _ _ _ _ _ _ occ) ?_
 exact aj.tok I _ (.int _ _)
end
section
open PySem PyProof.Rows PySem.Builtin.Str
variable {C : Cx} {lv : Nat} {q : Bool}
theorem aL {a : Addr} {h h' : Heap} (hs : Heap.SameBut a h h') : ∀ b o, b ≠ a -> h.get? b = some o -> h'.get? b = some o := fun b o hb e => (hs.2 b hb).trans e
theorem pK {h : Heap} {a : Addr} {items : Array Value} {ep : Nat} (e : h.get? a = some (aV items ep)) (f : Array Value -> Array Value) : ∃ ep', (h.update a (Obj.mapSeq f)).get? a = some (aV (f items) ep') := ⟨_, get?_update_seq e f⟩
noncomputable def sq (σ : ab) (x l : AV) (k : AV -> ab -> R) : R := x.fA fun i => (σ.look i).eg fun n a => l.qx fun v => R.guard (fits (Nat.succ n)) (k .none (σ.put i (.list (Nat.succ n) (a.app (.cons v .nil)))))
theorem cA : eA q "list.append" sq := fun σ x l k v Z σf h => by
 refine ae (AV.cu h) fun i q1 h1 => ?_; refine aa q1 ?_
 refine ag (AO.cy h1) fun n a ho h2 => ?_
 refine ae (AV.cV h2) fun u q1 h3 => ?_; refine aa q1 ?_
 refine ba (R.ah h3) fun g h4 => ?_
 have hat := ab.aw ho fun x => AO.noConfusion x
 refine ⟨_, _, h4, fun A W s vx vs _ _ I r rl => ?_⟩
 refine ae (rl.one) fun y q1 ry => ?_; refine aa q1 ?_
 induction r using RV.cg with
 | mk b e =>
  refine bH (listAt I hat e) fun items ep e1 hn hb rl => ?_
  refine wpAny_list_append_plain ⟨ep, e1⟩ (fun h' hp hs => ?_) (by refine aa sizeLine_eq ?_; omega)
  refine bI hp ?_; clear hp; intro ep' e2
  exact aj.fG (t := s.toks) I e (aL hs) ⟨_, e2⟩ ⟨_, ep', e2, by simp [hn], bO g, by refine aa Array.toList_push ?_; exact RL.app (.cons _ _ _ _ ry .nil) rl⟩ .none
noncomputable def B2 (σ : ab) (x l : AV) (k : AV -> ab -> R) : R := x.fA fun i => (σ.look i).eg fun n a => l.cM (k .none (σ.put i (.list 0 .nil))) fun _ _ => .fail
theorem xT : eA q "list.clear" B2 := fun σ x l k v Z σf h => by
 refine ae (AV.cu h) fun i q1 h1 => ?_; refine aa q1 ?_
 refine ag (AO.cy h1) fun n a ho h2 => ?_
 rcases AV.bz h2 with ⟨rfl, h3⟩ | ⟨_, _, _, h3⟩
 case inr => exact R.noConfusion h3
 have hat := ab.aw ho fun x => AO.noConfusion x
 refine ⟨_, _, h3, fun A W s vx vs _ _ I r rl => ?_⟩
 cases rl
 induction r using RV.cg with
 | mk b e =>
  refine bH (listAt I hat e) fun items ep e1 hn hb rl => ?_
  refine call_meets F.slot_list_clear ⟨_, e1, rfl⟩ F.entry_list_clear (F.args_list_clear_1 _) (AutoSeq1.list_clear_list_0 b items ep (by refine aa sizeLine_eq ?_; omega)) ⟨e1, ?_⟩
  refine bI (pK e1 (fun _ => #[])) fun ep' e2 => ?_
  exact aj.fG (t := s.toks) I e (aL (Heap.SameBut.update ..)) ⟨_, e2⟩ ⟨_, ep', e2, rfl, by decide, .nil⟩ .none
theorem kD (items : Array Value) : (items.eraseIdxIfInBounds (items.size - 1)).toList = items.toList.take (items.size - 1) := by
 rcases Nat.eq_zero_or_pos items.size with h | h
 ·have : items = #[] := Array.size_eq_zero_iff.mp h
  refine aa this ?_; rfl
 ·have hb : items.size - 1 < items.size := by omega
  rw [Array.eraseIdxIfInBounds, dif_pos hb, Array.toList_eraseIdx, List.eraseIdx_eq_take_drop_succ]
  have : items.toList.drop (items.size - 1 + 1) = [] := by rw [List.drop_eq_nil_iff]; simp; omega
  refine aa this ?_; rw [List.append_nil]
noncomputable def FO (σ : ab) (x l : AV) (k : AV -> ab -> R) : R := x.fA fun i => (σ.look i).eg fun n a => l.cM (a.at (Nat.pred n) fun v_ => (k v_ (σ.put i (.list (Nat.pred n) (a.take (Nat.pred n)))))) fun _ _ => .fail
theorem xd : eA q "list.pop" FO := fun σ x l k v Z σf h => by
 refine ae (AV.cu h) fun i q1 h1 => ?_; refine aa q1 ?_
 refine ag (AO.cy h1) fun n a ho h2 => ?_
 rcases AV.bz h2 with ⟨rfl, h3⟩ | ⟨_, _, _, h3⟩
 case inr => exact R.noConfusion h3
 refine ba (AV.jr h3) fun hu h4 => ?_
 have hat := ab.aw ho fun x => AO.noConfusion x
 refine ⟨_, _, h4, fun A W s vx vs _ _ I r rl => ?_⟩
 cases rl
 induction r using RV.cg with
 | mk b e =>
  refine bH (listAt I hat e) fun items ep e1 hn hb rl => ?_
  refine ae (rl.at hu) fun y hy ry => ?_
  have hp : Nat.pred n = items.size - 1 := by refine aa hn ?_; rfl
  have hy : items[items.size - 1]? = some y := by refine bw hy ?_; refine aa hp ?_; simp
  refine call_meets F.slot_list_pop ⟨_, e1, rfl⟩ F.entry_list_pop (F.args_list_pop_1 _) (MeetsSeq.list_pop_last b items ep y hy (by refine aa sizeLine_eq ?_; lia)) ⟨e1, ?_⟩
  refine bI (pK e1 (fun xs => xs.eraseIdxIfInBounds (items.size - 1))) fun ep' e2 => ?_
  refine aj.fG (t := s.toks) I e (aL (Heap.SameBut.update ..)) ⟨_, e2⟩ ⟨_, ep', e2, ?_, ?_, ?_⟩ ry
  ·have := congrArg List.length (kD items)
   rw [Array.length_toList, List.length_take, Array.length_toList] at this
   refine aa this ?_; refine aa hp ?_; lia
  ·show n - 1 <= _; omega
  ·rw [kD]; refine aa hp ?_; exact rl.take
noncomputable def FW (σ : ab) (l : AV) (k : AV -> ab -> R) : R := l.cM (k (.ref σ.next) (.cons σ.next (.set 0 .nil) σ)) fun _ _ => .fail
theorem Cv : eG q (.type "set") FW := fun σ l k v Z σf h => by
 rcases AV.bz h with ⟨rfl, h1⟩ | ⟨_, _, _, h1⟩
 case inr => exact R.noConfusion h1
 refine ⟨_, _, h1, fun A W s vs _ _ I rl => ?_⟩
 cases rl
 refine call_set_0 fun led => ?_
 refine aj.new I rfl s.toks fun W' le e => ⟨fun _ => false, 0, [], ?_, Nat.le_refl _, by decide, .nil, fun x => by simp⟩
 exact (setObjOf_fresh (knd := strKind D.prog D.w) led).setOf (Heap.get?_push_size _ rfl) (by decide)
noncomputable def zt (σ : ab) (x l : AV) (k : AV -> ab -> R) : R := x.fA fun i => (σ.look i).onSet fun n a => l.qx fun v => (AV.cInt (β := R) (AV.cStr (β := R) .fail (fun m c => R.guard (Nat.blt n 4000) (k .none (σ.put i (.set (Nat.succ n) (.cons (.str m c) a))))) v) (fun j => a.cM (k .none (σ.put i .junk)) fun _ _ => .fail) v)
theorem uh : eA q "set.add" zt := fun σ x l k v Z σf h => by
 refine ae (AV.cu h) fun i q1 h1 => ?_; refine aa q1 ?_
 refine ag (AO.yC h1) fun n a ho h2 => ?_
 refine ae (AV.cV h2) fun u q1 h3 => ?_; refine aa q1 ?_
 have hat := ab.aw ho fun x => AO.noConfusion x
 clear h h1 h2
 induction u using AV.casesOn <;> first | exact R.noConfusion h3 | skip
 case int j =>
  rcases AV.bz h3 with ⟨rfl, h4⟩ | ⟨_, _, _, h4⟩
  case inr => exact R.noConfusion h4
  refine ⟨_, _, h4, fun A W s vx vs _ _ I r rl => ?_⟩
  refine ae (rl.one) fun y q1 ry => ?_; obtain rfl := q1
  refine bI (ry.int_inv) fun t q1 => ?_; refine aa q1 ?_
  induction r using RV.cg with
  | mk b e =>
   refine aY (cY I hat e) fun S kn ks hS hk hn rk hm => ?_
   cases rk
   refine lY hS ?_; clear hS; intro o es ep tb e1 hex hd hel hmem hsc hf hkn
   have hes : es = #[] := by
    have : es.toList = [] := by
     cases hl : es.toList with
     | nil => rfl
     | cons a r =>
      rw [hl] at hel hmem
      refine ba (hel a (.head _)) fun hn24_0 _ => ?_; obtain ⟨kk, hkk, _⟩ := hn24_0
      have := (hm kk).mp ((hmem kk).mpr ⟨a, .head _, hkk⟩)
      cases this
    exact Array.toList_inj.mp this
   subst hes
   have hS' : s.heap.SetOf (intKind D.prog D.w) b (fun _ => false) 0 := ⟨o, #[], ep, tb, e1, hex, hd, (fun e he => by simp at he), (fun k => by simp), by decide, hf, rfl⟩
   refine call_set_add (knd := intKind D.prog D.w) (k := j) (by show Value.isInt j (.int j t) = true; simp [Value.isInt]) rfl hS' (by decide) fun h' hs hS2 => ?_
   refine iG hS2 ?_; clear hS2; intro o2 _ _ _ e2 _
   exact aj.fG (t := s.toks + 1) I e (aL hs) ⟨_, e2⟩ trivial .none
 case str m c =>
  refine ba (R.ah h3) fun g h4 => ?_
  have hlt := Nat.blt_eq.mp g
  refine ⟨_, _, h4, fun A W s vx vs _ _ I r rl => ?_⟩
  refine ae (rl.one) fun y q1 ry => ?_; obtain rfl := q1
  refine af (ry.str_inv) fun t q1 hc _ => ?_; refine aa q1 ?_
  induction r using RV.cg with
  | mk b e =>
   refine aY (cY I hat e) fun S kn ks hS hk hn rk hm => ?_
   refine call_set_add (knd := strKind D.prog D.w) (k := toS m c) (strKind_is D.prog D.w _ _) rfl hS (by have : scanBound = 4096 := rfl; lia) fun h' hs hS2 => ?_
   refine iG (id hS2) fun o2 _ _ _ e2 _ => ?_
   refine aj.fG (t := s.toks + 1) I e (aL hs) ⟨_, e2⟩ ⟨_, _, _, hS2, ?_, ?_, .cons _ _ _ _ hc rk, fun x => ?_⟩ .none
   ·split
    ·exact Nat.le_succ_of_le hk
    ·exact Nat.succ_le_succ hk
   ·skip; lia
   ·rw [Bool.or_eq_true, hm, decide_eq_true_iff, List.mem_cons]
    exact or_comm
noncomputable def AV.orNone (v : AV) : AV := (@AV.rec (fun _ => AV) (.none) v (fun _ => v) (fun _ => v) (fun _ _ => v) (fun _ => v) (fun _ => v) (fun _ => v) (fun _ _ _ => v) (fun _ _ _ => v) (fun _ _ _ => v) (fun _ _ => v) (fun _ _ => v) (fun _ _ => v) (fun _ => v) (fun _ => v) v (fun _ _ _ _ => v) (fun _ _ _ _ _ _ => v) v)
noncomputable def Gb (o : AO) (σ : ab) (l : AV) (k : AV -> ab -> R) : R := o.rF fun n ep e => l.qx fun v => v.onStr fun m c => k (AV.orNone (AV.look m c e)) σ
noncomputable def FG (σ : ab) (x l : AV) (k : AV -> ab -> R) : R := x.fA fun i => Gb (σ.look i) σ l k
theorem uF {v : AV} (h : v ≠ .undef) : v.orNone = v := by induction v using AV.casesOn <;> first | rfl | exact absurd rfl h
theorem wM (hms : (D.B.get? sysModules).isSome = true) : eA q "dict.get" FG := fun σ x l k v Z σf h => by
 refine ae (AV.cu h) fun i q1 h1 => ?_; refine aa q1 ?_
 refine ak (AO.mw h1) fun n ep e ho h2 => ?_
 refine ae (AV.cV h2) fun u q1 h3 => ?_; refine aa q1 ?_
 refine ag (AV.aZ h3) fun m c q2 h4 => ?_; refine aa q2 ?_
 have hat := ab.aw ho fun x => AO.noConfusion x
 refine ⟨_, _, h4, fun A W s vx vs _ _ I r rl => ?_⟩
 refine ae (rl.one) fun y q1 ry => ?_; refine aa q1 ?_
 refine af (ry.str_inv) fun t q1 hc _ => ?_; refine aa q1 ?_
 induction r using RV.cg with
 | mk b e1 =>
  refine b8 (cY I hat e1) fun kvs ep' hd _ _ _ re => ?_
  refine call_meetsIn F.slot_dict_get hd.dictOf.typeIs F.entry_dict_get (F.args_dict_get_2 _ _) (meets_dict_get (strKind D.prog D.w) b (strKind_is D.prog D.w _ _) (I.iX hms e1)) ⟨_, hd.dictOf.mapOf, ?_⟩
  rcases j8 hc re with ⟨q1, q2⟩ | ⟨z, hz, rz⟩
  ·refine aa q1 ?_; refine aa q2 ?_; exact aj.tok I _ .none
  ·have hne : AV.look m c e ≠ .undef := by intro q; rw [q] at rz; exact nomatch rz
   refine aa hz ?_; refine aa (uF hne) ?_; exact aj.tok I _ rz
noncomputable def zv (σ : ab) (x l : AV) (k : AV -> ab -> R) : R := l.cM (AV.jO (β := R) (AV.rn (β := R) .fail (fun n e => k (.vals x) σ) x) (fun i => (σ.look i).rF fun _ _ _ => k (.vals x) σ) x) fun _ _ => .fail
theorem uH (hms : (D.B.get? sysModules).isSome = true) : eA q "dict.values" zv := fun σ x l k v Z σf h => by
 rcases AV.bz h with ⟨rfl, h1⟩ | ⟨_, _, _, h1⟩
 case inr => exact R.noConfusion h1
 clear h
 have fin : k (.vals x) σ = .val v Z σf -> (∀ W s vx, Inv W σ s -> RV W x vx -> ∃ a kvs, vx = .ref a /\ s.heap.DictOf (strKind D.prog D.w) a kvs /\ (a == sysModules) = false) -> ∃ z σ', k z σ' = .val v Z σf /\ ∀ A W s vx vs, cP 1 A -> (q = true -> A.handled = none) -> Inv W σ s -> RV W x vx -> RL W .nil vs ->
   wpAny (model D.prog D.w) A (call (.builtin "dict.values") (vx :: vs)) (aj W s z σ') No s := fun h hx => by
  refine ⟨_, _, h, fun A W s vx vs _ _ I r rl => ?_⟩
  cases rl
  refine aN (hx W s vx I r) fun a kvs q2 hd hm => ?_; obtain rfl := q2
  refine call_meetsIn F.slot_dict_values hd.typeIs F.entry_dict_values (F.args_dict_values_1 _) (meets_dict_values (strKind D.prog D.w) a hm) ⟨⟨kvs, hd⟩, ?_⟩
  exact aj.az (o := kg (.ref a)) I rfl s.toks fun W' le e => .vals _ _ _ e (r.mono le.bM)
 induction x using AV.casesOn <;> first | exact R.noConfusion h1 | skip
 case dct n e =>
  refine fin h1 fun W s vx I r => ?_
  induction r using RV.AN with
  | mk a o kvs e1 e2 hn hb hm re => exact ⟨a, kvs, rfl, (e2 _ (I.az _ _ e1)).dictOf, hm⟩
 case ref i =>
  refine ak (AO.mw h1) fun n ep e ho h2 => ?_
  have hat := ab.aw ho fun x => AO.noConfusion x
  refine fin h2 fun W s vx I r => ?_
  induction r using RV.cg with
  | mk b e1 =>
   refine ag (cY I hat e1) fun kvs ep' hd _ => ?_
   exact ⟨b, kvs, rfl, hd.dictOf, I.iX hms e1⟩
noncomputable def AV.B7 (sn sc : Nat) (l : AV) : Nat -> Nat -> (Nat -> Nat -> R) -> R := AV.fH (fun n c k => k n c) (fun a _ ih n c k => a.onStr fun m d => ih (Nat.add (Nat.add n sn) m) (Nat.add (Nat.add c (Nat.mul sc (Nat.pow 256 n))) (Nat.mul d (Nat.pow 256 (Nat.add n sn)))) k) l
noncomputable def D1 (σ : ab) (x l : AV) (k : AV -> ab -> R) : R := x.onStr fun sn sc => l.qx fun y => y.dP σ fun N a => R.guard (Nat.ble N 65536) (R.guard a.uN (a.cM (k (.str 0 0) σ) fun u t => u.onStr fun n c => t.B7 sn sc n c fun n c => R.guard (Nat.ble n 65536) (R.guard (Nat.ble sn 16) (k (.str n c) σ))))
theorem ub {sn sc : Nat} {k : Nat -> Nat -> R} {v Z : AV} {σf : ab} (t : AV) : ∀ n c, t.B7 sn sc n c k = .val v Z σf -> ∃ n' c', k n' c' = .val v Z σf /\ ∀ ss, SK t ss -> sc < 256 ^ sn -> c < 256 ^ n ->
  c' < 256 ^ n' /\ Str.join (toS sn sc) (toS n c :: ss) = toS n' c' /\ n + (ss.map (·.length)).sum + ss.length * sn = n' := by
 induction t with
 | nil => exact fun n c h => ⟨n, c, h, fun ss hk hs hc => by cases hk; exact ⟨hc, rfl, by simp⟩⟩
 | cons a l _ ih =>
  intro n c h
  refine ag (AV.aZ (show (a.onStr fun m d => AV.B7 sn sc l (Nat.add (Nat.add n sn) m) (Nat.add (Nat.add c (Nat.mul sc (Nat.pow 256 n))) (Nat.mul d (Nat.pow 256 (Nat.add n sn)))) k) = .val v Z σf from h)) fun m d q2 h1 => ?_; refine aa q2 ?_
  refine ag (ih _ _ h1) fun n' c' h2 h3 => ?_
  refine ⟨n', c', h2, fun ss hk hs hc => ?_⟩
  cases hk with
  | cons _ _ _ ks hd hm hk =>
   have e1 := eE hc hs
   have e2 := eE e1 hd
   refine nr (h3 ks hk hs e2) fun p1 p2 p3 => ?_
   refine ⟨p1, ?_, ?_⟩
   ·refine bw p2 ?_; refine aa (show Nat.add (Nat.add n sn) m = n + sn + m from rfl) ?_; refine aa (show Nat.add (Nat.add c (Nat.mul sc (Nat.pow 256 n))) (Nat.mul d (Nat.pow 256 (Nat.add n sn))) = c + sc * 256 ^ n + d * 256 ^ (n + sn) from rfl) ?_; refine bw (fm e1) ?_; refine bw (fm hc) ?_
    exact (StrLaws.join_shift _ _ _ _).symm
   ·simp only [List.map_cons, List.sum_cons, List.length_cons, aM, Nat.succ_mul]
    refine bw p3 ?_; refine aa (show Nat.add (Nat.add n sn) m = n + sn + m from rfl) ?_; lia
 | _ => exact fun n c h => ⟨n, c, h, fun ss hk => nomatch hk⟩
theorem o8 {vs : List Value} {ss : List Str} (h : StrsAre vs ss) : ∃ l : List (Str × Tok), vs = strValues l /\ l.map (·.1) = ss := by
 induction h with
 | nil => exact ⟨[], rfl, rfl⟩
 | cons y t _ ih => refine ae ih ?_; clear ih; intro l q1 q2; refine aa q1 ?_; refine bw q2 ?_; exact ⟨(y, t) :: l, rfl, rfl⟩
theorem ze : eA q "str.join" D1 := fun σ x l k v Z σf h => by
 refine ag (AV.aZ h) fun sn sc q2 h1 => ?_; refine aa q2 ?_
 refine ae (AV.cV h1) fun y q1 h2 => ?_; refine aa q1 ?_
 refine ag (AV.ct h2) fun n a hy h3 => ?_
 refine ba (R.ah h3) fun g0 h3 => ?_
 refine ba (R.ah h3) fun g h4 => ?_
 have hn64 : n <= 65536 := Nat.le_of_ble_eq_true g0
 have go : ∀ {z : AV}, k z σ = .val v Z σf -> (∀ {W : Gh} {vs : List Value} {ss : List Str}, SK a ss -> sc < 256 ^ sn -> ss.length <= 65536 -> JoinOk (toS sn sc) ss = true /\ ∀ t, RV W z (.str (Str.join (toS sn sc) ss) t)) -> ∃ z σ', k z σ' = .val v Z σf /\ ∀ A W s vx vs, cP 1 A -> (q = true -> A.handled = none) -> Inv W σ s -> RV W (.str sn sc) vx -> RL W (.cons y .nil) vs ->
   wpAny (model D.prog D.w) A (call (.builtin "str.join") (vx :: vs)) (aj W s z σ') No s := fun {z} h hz => by
  refine ⟨z, σ, h, fun A W s vx vs _ _ I r rl => ?_⟩
  refine af (r.str_inv) fun t q1 hc _ => ?_; refine aa q1 ?_
  refine ae (rl.one) fun u q1 ru => ?_; refine aa q1 ?_
  refine aY (eF I hy ru) fun b items ep q3 e hn hb rla => ?_; refine aa q3 ?_
  refine ae (rla.sk g) fun ss k1 k2 => ?_
  refine ae (o8 k2) fun l hl hls => ?_
  have hlen : ss.length <= 65536 := by
   have := StrsAre.length k2
   refine bw this ?_; refine aa Array.length_toList ?_; refine aa hn ?_; exact hn64
  refine ba (hz (W := W) (vs := []) k1 hc hlen) fun z1 z2 => ?_
  have hit : items = (strValues l).toArray := by apply Array.toList_inj.mp; exact bw hl rfl
  refine SC.join (hit ▸ aH e) hls z1 fun t' tk => ?_
  refine aa (show Txt.join (toS sn sc) ss = Str.join (toS sn sc) ss from StrLaws.glued_eq_join _ _) ?_
  exact aj.tok I tk (z2 t')
 rcases AV.bz h4 with ⟨rfl, h5⟩ | ⟨u, t, rfl, h5⟩
 ·exact go h5 fun {W vs ss} hk hc _ => by cases hk; exact ⟨by skip; rfl, fun t => .str 0 0 t (by decide) (by decide)⟩
 ·refine ag (AV.aZ h5) fun m d q2 h6 => ?_; obtain rfl := q2
  refine ag (ub t m d h6) fun n' c' h7 h8 => ?_
  refine ba (R.ah h7) fun g1 h9 => ?_
  refine ba (R.ah h9) fun g2 h10 => ?_
  have g1 := Nat.le_of_ble_eq_true g1
  have g2 := Nat.le_of_ble_eq_true g2
  refine go h10 fun {W vs ss} hk hc hl => ?_
  cases hk with
  | cons _ _ _ ks hd hm hk =>
   refine nr (h8 ks hk hc hd) fun p1 p2 p3 => ?_
   refine ⟨joinOk_of_weight ?_ ?_, fun tk => ?_⟩
   ·simp only [List.map_cons, List.sum_cons, List.length_cons, aM] at hl ⊢
    lia
   ·rw [aM]; exact g2
   ·refine aa p2 ?_; exact .str _ _ _ p1 (by lia)
end
section
open PySem PyProof.Rows
set_option maxRecDepth 100000
theorem jH : typeLookup (.type "list_iterator") "__getattr__" = pure none := by rw [typeLookup_type, builtinLookup_eq_fast]; kernel_rfl
theorem nW : PySem.Slot "list_iterator" "__getattribute__" "object.__getattribute__" :=
 .of (owner := "object") (n := "__getattribute__") (by rw [typeLookup_type, builtinLookup_eq_fast]; kernel_rfl) (by decide +kernel) (by decide +kernel) (by decide +kernel)
  (by first | exact .inl (by decide +kernel) | exact .inr (by decide +kernel)) (by rw [isSubtype_type]; kernel_rfl)
theorem zf (a b : Value) : argsOk "object.__getattribute__" ⟨[a, b], []⟩ := by unfold argsOk; kernel_rfl
theorem AF : typeLookup (.type "list_iterator") "__next__" = pure (some (.builtin "list_iterator.__next__")) := by rw [typeLookup_type, builtinLookup_eq_fast]; kernel_rfl
theorem tL : typeOf (.builtin "list_iterator.__next__") = pure (.type "wrapper_descriptor") := by show builtinType _ = _; rw [builtinType_eq_fast]; kernel_rfl
theorem B0 : typeLookup (.type "wrapper_descriptor") "__get__" = pure (some (.builtin "wrapper_descriptor.__get__")) := by rw [typeLookup_type, builtinLookup_eq_fast]; kernel_rfl
theorem B3 : typeLookup (.type "wrapper_descriptor") "__set__" = pure none := by rw [typeLookup_type, builtinLookup_eq_fast]; kernel_rfl
theorem C2 : typeLookup (.type "wrapper_descriptor") "__delete__" = pure none := by rw [typeLookup_type, builtinLookup_eq_fast]; kernel_rfl
theorem sQ : PySem.Slot "wrapper_descriptor" "__get__" "wrapper_descriptor.__get__" :=
 .of (owner := "wrapper_descriptor") (n := "__get__") (by rw [typeLookup_type, builtinLookup_eq_fast]; kernel_rfl) (by decide +kernel) (by decide +kernel) (by decide +kernel)
  (by first | exact .inl (by decide +kernel) | exact .inr (by decide +kernel)) (by rw [isSubtype_type]; kernel_rfl)
theorem yi : entryFor table "wrapper_descriptor.__get__" = some Builtin.«wrapper_descriptor.__get__» := entryFor_of_tree (by kernel_rfl)
theorem zc (a b c : Value) : argsOk "wrapper_descriptor.__get__" ⟨[a, b, c], []⟩ := by unfold argsOk; kernel_rfl
theorem BS : isSubtype (.type "list_iterator") (.type "list_iterator") = pure true := by rw [isSubtype_type]; kernel_rfl
theorem wx (a : Addr) (u : Tok) (vs : Array Value) (sl : Array (Option Value)) :
  Meets (Builtin.«object.__getattribute__» ⟨[.ref a, .str (Str.ofString "__next__") u], []⟩) (fun A R s => s.heap.get? a = some { cls := .type "list_iterator", dict := none, data := .fields vs, slots := sl } /\ R (.ok (.ret (.ref s.heap.objs.size))) { s with heap := s.heap.push (wrapObj a) }) :=
 Meets.of_wp fun P w A R s hs => by
  obtain ⟨hp, g, d, tk, os⟩ := s
  refine ba hs ?_; clear hs; intro hx hs
  have hT : (⟨hp, g, d, tk, os⟩ : Shared).TypeIs (.ref a) "list_iterator" := ⟨_, hx, rfl⟩
  have f1 := AF
  have f2 := tL
  have f3 := B0
  have f4 := B3
  have f5 := C2
  unfold Builtin.«object.__getattribute__»
  repeat (any_goals (first | assumption | wp_step))
  refine codeAny_call_builtin sQ.plain yi (sQ.check _ _ _ _ _ _ _ _ (show Shared.TypeIs _ (.builtin "list_iterator.__next__") "wrapper_descriptor" from tL) (zc _ _ _) ?_)
  unfold Builtin.«wrapper_descriptor.__get__»
  refine wpAny_bind (wpAny_of_eq (a := (.builtin "list_iterator.__next__", some (.ref a), some (.type "list_iterator"))) (by first | rfl | kernel_rfl) ?_)
  refine wpAny_bind ?_
  refine wpAny_bind (wpAny_of_eq (a := (Str.ofString "__next__", .type "list_iterator")) (by first | rfl | kernel_rfl) ?_)
  refine wpAny_bind (wpAny_isInstance hT BS ?_)
  refine wpAny_pure ?_
  refine wpAny_bind (wpAny_newObj_type (wpAny_pure ?_))
  exact wpAny_pure ⟨_, rfl, hs⟩
section
variable {A : Around} {E : Value -> Shared -> Prop} {s : Shared}
theorem Aj {a : Addr} {vs : Array Value} {sl : Array (Option Value)} {Q : Value -> Shared -> Prop} (hx : s.heap.get? a = some { cls := .type "list_iterator", dict := none, data := .fields vs, slots := sl })
  (h : Q (.ref s.heap.objs.size) { s with heap := s.heap.push (wrapObj a), toks := s.toks + 1 }) : wpAny (model D.prog D.w) A (getAttr (.ref a) "__next__" true) Q E s := by
 obtain ⟨hp, g, d, tk, os⟩ := s
 have hT : ∀ tk', (⟨hp, g, d, tk', os⟩ : Shared).TypeIs (.ref a) "list_iterator" := fun _ => ⟨_, hx, rfl⟩
 have f3 := nW.lookup
 have f4 := nW.bind (.ref a)
 have f5 := jH
 unfold getAttr getAttrBy
 repeat (any_goals (first | assumption | exact hT _ | ((with_reducible show wpAny _ _ (call (Value.builtin "object.__getattribute__") _ _) _ _ _); refine call_meets nW (hT _) F.entry_object_getattribute (zf _ _) (wx a _ vs sl) ⟨hx, ?_⟩) | wp_step))
 exact wpAny_pure h
end
end
section
open PySem PyProof.Rows
variable {C : Cx} {lv : Nat} {q : Bool}
theorem cQ : PySem.Slot "frozenset" "isdisjoint" "frozenset.isdisjoint" :=
 .of (owner := "frozenset") (n := "isdisjoint") (by rw [typeLookup_type]; refine aa builtinLookup_eq_fast ?_; kernel_rfl) (by decide +kernel) (by decide +kernel) (by decide +kernel)
  (by first | exact .inl (by decide +kernel) | exact .inr (by decide +kernel)) (by rw [isSubtype_type]; kernel_rfl)
theorem gu : entryFor table "frozenset.isdisjoint" = some Builtin.«frozenset.isdisjoint» := entryFor_of_tree (by kernel_rfl)
theorem cI : entryFor table "frozenset.isdisjoint.loop" = some Builtin.«frozenset.isdisjoint.loop» := entryFor_of_tree (by kernel_rfl)
theorem br : plainId "frozenset.isdisjoint.loop" = true := by decide +kernel
theorem gP (a b : Value) : argsOk "frozenset.isdisjoint" ⟨[a, b], []⟩ := by skip; kernel_rfl
theorem hJ : typeOf (.builtin "frozenset.isdisjoint") = pure (.type "method_descriptor") := by show builtinType _ = _; rw [builtinType_eq_fast]; kernel_rfl
theorem md : PlainAttrs "frozenset" :=
 ⟨⟨"object.__getattribute__", by rw [typeLookup_type]; refine aa builtinLookup_eq_fast ?_; kernel_rfl, by decide +kernel⟩, by rw [typeLookup_type]; refine aa builtinLookup_eq_fast ?_; kernel_rfl⟩
section
variable {A : Around} {s : Shared} {a : Addr}
theorem lF {S : Str -> Bool} {n : Nat} {t : SetTable} {k : Str} {tk : Tok} {Q : Bool -> Shared -> Prop} {E : Value -> Shared -> Prop} (hS : FS D.prog D.w s.heap a S n t) (h : Q (S k) { s with toks := s.toks + 1 }) : wpAny (model D.prog D.w) A (setContains a (.str k tk)) Q E s := by
 unfold setContains
 refine wpAny_holding ?_
 refine wpAny_bind ((strKind D.prog D.w).pyHash (k := k) (strKind_is D.prog D.w k tk) ?_)
 refine wpAny_bind (ny (s := { s with toks := s.toks + 1 }) hS fun r hr _ => ?_)
 refine wpAny_pure ?_
 refine aa hr ?_; exact h
theorem lX {I : Addr} {fp wr : List Addr} {n : Nat} {P : Nat -> Value -> Prop} {St : Nat -> Heap -> Prop} (W : Walks D.prog D.w A.in1 I fp wr n P St) (st : St n s.heap) {R : Result -> Shared -> Prop}
  (h : ∀ h' tk, (∀ b o, b ∉ wr -> s.heap.get? b = some o -> h'.get? b = some o) -> R (.ok (.ret (.bool true))) { s with heap := h', toks := tk }) :
  codeAny (model D.prog D.w) A (.builtin "frozenset.isdisjoint.loop" ⟨[.ref a, .ref I], []⟩) R s := by
 refine codeAny_builtin cI ?_
 refine aa (Around.under_plainId br _) ?_
 show wpAny _ A.in1 (pyNext (.ref I) >>= _) _ _ s
 exact wpAny_bind (W.done s _ _ st fun h' tk hk => wpAny_pure (h h' tk hk))
theorem lS {S : Str -> Bool} {n : Nat} {t : SetTable} {c : Nat} {tk : Tok} {Q : Value -> Shared -> Prop} {E : Value -> Shared -> Prop} (hh : A.handled = none) (hS : FS D.prog D.w s.heap a S n t) (hc : S ⟨#[c]⟩ = false)
  (h : ∀ h' tk, (∀ b o, s.heap.get? b = some o -> h'.get? b = some o) -> Q (.bool true) { s with heap := h', toks := tk }) : wpAny (model D.prog D.w) A (call (.builtin "frozenset.isdisjoint") [.ref a, .str ⟨#[c]⟩ tk]) Q E s := by
 have hT : s.TypeIs (.ref a) "frozenset" := let ⟨es, ep, e, _⟩ := hS; ⟨_, e, rfl⟩
 have hlt : a < s.heap.objs.size := let ⟨es, ep, e, _⟩ := hS; Heap.lt_size e
 refine wpAny_call (codeAny_call_builtin cQ.plain gu (cQ.check _ _ _ _ _ _ _ _ hT (gP _ _) ?_))
 unfold Builtin.«frozenset.isdisjoint» Builtin.Frozenset.oneOther
 simp only [List.isEmpty_nil, bind_assoc]
 skip
 refine wpAny_bind (wpAny_pure ?_)
 try dsimp only
 refine wpAny_bind (wpAny_pure ?_)
 try dsimp only
 skip
 refine aa (if_neg (show ¬ ((Value.str ⟨#[c]⟩ tk == Value.ref a) = true) from Bool.false_ne_true)) ?_
 refine wpAny_bind (wpAny_typeOf (typeIs_str s _ tk) ?_)
 show wpAny _ _ (if (Value.type "str" == Value.type "set" || Value.type "str" == Value.type "frozenset") = true then _ else _) _ _ _
 refine aa (if_neg (by decide)) ?_
 refine wpAny_bind (wpAny_pyIter_str fun o St hw st => ?_)
 have W := hw A.in1 hh
 have fresh : ∀ b o', s.heap.get? b = some o' -> b ∉ [s.heap.objs.size] := fun b o' e hm => by
  have := Heap.lt_size e
  rw [List.mem_singleton.mp hm] at this
  exact Nat.lt_irrefl _ this
 refine wpAny_pure ⟨plainId_quiet br _, ?_⟩
 refine codeAny_builtin cI ?_
 refine aa (Around.under_plainId br _) ?_
 show wpAny _ A.in1 (pyNext (.ref s.heap.objs.size) >>= _) _ _ _
 refine wpAny_bind (W.item 0 _ _ _ Nat.zero_lt_one st fun v h' tk' hP st' hk => ?_)
 obtain ⟨c', u, hc', rfl⟩ : ∃ c' u, (⟨#[c]⟩ : Str).cps[0]? = some c' /\ v = .str ⟨#[c']⟩ u := by
  unfold SignAt at hP
  exact hP
 refine oE hc' ?_
 have e2 : ∀ b o', s.heap.get? b = some o' -> h'.get? b = some o' := fun b o' e => hk b o' (fresh b o' e) (Heap.get?_push_of_some _ e)
 have hS' : FS D.prog D.w h' a S n t := by
  refine ag hS ?_; clear hS; intro es ep e r
  exact ⟨es, ep, e2 _ _ e, r⟩
 show wpAny _ A.in1 (holding [Value.str ⟨#[c]⟩ u] (setContains a (.str ⟨#[c]⟩ u)) >>= _) _ _ _
 refine wpAny_bind (wpAny_holding (lF hS' ?_))
 refine aa hc ?_
 show wpAny _ _ (if false = true then _ else _) _ _ _
 refine aa (if_neg Bool.false_ne_true) ?_
 refine wpAny_pure ⟨plainId_quiet br _, lX W st' fun h'' tk'' hk2 => ?_⟩
 exact h _ _ fun b o' e => hk2 b o' (fresh b o' e) (e2 b o' e)
end
noncomputable def Ey (σ : ab) (x l : AV) (k : AV -> ab -> R) : R := x.wC fun ye ma => l.qx fun v => v.onStr fun n c => R.guard (Nat.beq n 1) (R.guard (eW (wg ma c)) (k (.bool true) σ))
theorem tS {name : Str} {id : String} (slot : PySem.Slot "frozenset" name id) (ty : typeOf (.builtin id) = pure (.type "method_descriptor")) : Recv "frozenset" name id te where
 ok σ x hx W s vx I r := by
  induction x using AV.casesOn <;> first | exact Bool.noConfusion hx | skip
  induction r using RV.tF with
  | mk a o S e1 e2 e3 e4 =>
   refine iG e2 ?_; clear e2; intro es ep t n q4 _; obtain rfl := q4
   exact ⟨⟨_, I.az _ _ e1, rfl⟩, fun b hb => by cases hb; exact ⟨_, I.az _ _ e1, rfl⟩⟩
 pa := md
 slot := slot
 ty := ty
theorem zg : eA true "frozenset.isdisjoint" Ey := fun σ x l k v Z σf h => by
 refine ag (AV.uq h) fun ye ma q2 h1 => ?_; refine aa q2 ?_
 refine ae (AV.cV h1) fun u q1 h2 => ?_; refine aa q1 ?_
 refine ag (AV.aZ h2) fun n c q2 h3 => ?_; refine aa q2 ?_
 refine ba (R.ah h3) fun g1 h4 => ?_
 refine ba (R.ah h4) fun g2 h5 => ?_
 rw [tD] at g2
 refine aa (Nat.eq_of_beq_eq_true g1) ?_
 refine ⟨_, _, h5, fun A W s vx vs _ hh I r rl => ?_⟩
 refine ae (rl.one) fun y q1 ry => ?_; refine aa q1 ?_
 refine af (ry.str_inv) fun t q1 hc _ => ?_; refine aa q1 ?_
 induction r using RV.tF with
 | mk a o S e1 e2 e3 e4 =>
  refine pB (e2.fs (I.az _ _ e1)) fun n tb F => ?_
  refine aa (dV hc) ?_
  refine lS (hh rfl) F ?_ fun h' tk hk => ?_
  ·cases hs : S ⟨#[c]⟩ with
   | false => rfl
   | true => have := e4 c (by simpa using hc) hs; rw [bY, this] at g2; exact nomatch g2
  ·exact ⟨W, .refl W, I.same (Keeps.bJ hk), (Keeps.bJ hk).own, .bool _⟩
end
section
open PySem PyProof.Rows
section
variable {A : Around} {E : Value -> Shared -> Prop} {s : Shared}
theorem nN {it l : Addr} {k : Nat} {items : Array Value} {x : Value} {P : Fin -> Shared -> Prop} (hit : s.heap.get? it = some (iw (.ref l) k)) (hl : s.heap.IsList l items) (hx : items[k]? = some x)
  (hQ : ∀ h', h'.get? it = some (iw (.ref l) (k + 1)) -> Heap.SameBut it s.heap h' -> P (.done (.ret x)) { s with heap := h' }) : wpAny (model D.prog D.w) A (Builtin.«list_iterator.__next__» ⟨[.ref it], []⟩) P E s := by
 refine yj hl ?_; clear hl; intro ol hol _ nl hdl
 show wpAny _ _ (field (.ref it) 0 >>= _) _ _ s
 refine wpAny_bind (wpAny_field hit rfl (x := .ref l) rfl ?_)
 show wpAny _ _ (if (Value.ref l == Value.none) = true then _ else _) _ _ s
 rw [if_neg (show ¬ ((Value.ref l == Value.none) = true) from Bool.false_ne_true)]
 show wpAny _ _ (field (.ref it) 1 >>= _) _ _ s
 refine wpAny_bind (wpAny_field hit rfl (x := .int k 0) rfl ?_)
 show wpAny _ _ (seqItems? (.ref l) >>= _) _ _ s
 refine wpAny_bind (wpAny_seqItems hol hdl ?_)
 simp only [Int.toNat_natCast, hx]
 refine wpAny_bind (wpAny_setField hit rfl (by simp) (wpAny_pure (hQ _ ?_ (Heap.SameBut.update ..))))
 rw [Heap.get?_update_self _ hit rfl]
 rfl
theorem vI {it l : Addr} {k : Nat} {items : Array Value} {P : Fin -> Shared -> Prop} (hh : A.handled = none) (hit : s.heap.get? it = some (iw (.ref l) k)) (hl : s.heap.IsList l items) (hx : items[k]? = none)
  (hQ : ∀ h' e oe vs, (∀ b o, b ≠ it -> s.heap.get? b = some o -> h'.get? b = some o) -> (∃ o, h'.get? it = some o) -> s.heap.get? e = none -> h'.get? e = some oe -> oe.cls = .type "StopIteration" -> oe.data = .fields vs -> vs[1]? = some .none -> E (.ref e) { s with heap := h' }) :
  wpAny (model D.prog D.w) A (Builtin.«list_iterator.__next__» ⟨[.ref it], []⟩) P E s := by
 refine yj hl ?_; clear hl; intro ol hol _ nl hdl
 show wpAny _ _ (field (.ref it) 0 >>= _) _ _ s
 refine wpAny_bind (wpAny_field hit rfl (x := .ref l) rfl ?_)
 show wpAny _ _ (if (Value.ref l == Value.none) = true then _ else _) _ _ s
 rw [if_neg (show ¬ ((Value.ref l == Value.none) = true) from Bool.false_ne_true)]
 show wpAny _ _ (field (.ref it) 1 >>= _) _ _ s
 refine wpAny_bind (wpAny_field hit rfl (x := .int k 0) rfl ?_)
 show wpAny _ _ (seqItems? (.ref l) >>= _) _ _ s
 refine wpAny_bind (wpAny_seqItems hol hdl ?_)
 simp only [Int.toNat_natCast, hx]
 refine wpAny_bind (wpAny_rule (wpAny_bind (wpAny_setField hit rfl (by simp) ?_)))
 show wpAny _ _ (newExc (.type "StopIteration") [] >>= _) _ _ _
 refine wpAny_bind ?_
 simp only [newExc, newTuple]
 refine wpAny_bind (wpAny_newObj_type ?_ (by size_fits))
 refine wpAny_bind (m := firstArgMember _ _) (wpAny_of_eq (a := Value.none) (by first | rfl | (simp only [firstArgMember]; rfl)) ?_)
 refine wpAny_newObj_type ?_ (by size_fits)
 simp only [raiseNew]
 refine wpAny_bind (wpAny_handled ?_)
 rw [hh]
 refine wpAny_bind (wpAny_pure (wpAny_throw ?_))
 have hit2 := Heap.get?_update_self (Obj.mapFields (·.setIfInBounds 0 Value.none)) hit rfl
 refine hQ _ _ _ _ (fun b o hb e => ?_) ⟨_, Heap.get?_push_of_some _ (Heap.get?_push_of_some _ hit2)⟩ ?_ (Heap.get?_push_size _ rfl) rfl rfl ?_
 ·exact Heap.get?_push_of_some _ (Heap.get?_push_of_some _ ((Heap.get?_update_other _ _ (Ne.symm hb)).trans e))
 ·exact Heap.get?_none_of_le (by rw [Heap.size_push, Heap.size_after_update]; omega)
 ·rfl
end
end
section
open PySem PyProof.Rows
variable {C : Cx} {lv : Nat} {q : Bool}
theorem nT : entryFor table "iter" = some Builtin.«iter» := entryFor_of_fast (by kernel_rfl)
theorem nO : entryFor table "next" = some Builtin.«next» := entryFor_of_fast (by kernel_rfl)
theorem oy (a : Value) : argsOk "iter" ⟨[a], []⟩ := by skip; kernel_rfl
theorem qt (a : Value) : argsOk "next" ⟨[a], []⟩ := by skip; kernel_rfl
noncomputable def E9 (σ : ab) (l : AV) (k : AV -> ab -> R) : R := l.qx fun x => x.dP σ fun _ _ => k (.ref σ.next) (.cons σ.next (.iter x 0) σ)
theorem sh : eG q (.builtin "iter") E9 := fun σ l k v Z σf h => by
 refine ae (AV.cV h) fun x q1 h1 => ?_; obtain rfl := q1
 refine ag (AV.ct h1) fun n a hx h2 => ?_
 refine ⟨_, _, h2, fun A W s vs _ _ I r => ?_⟩
 refine ae (r.one) fun y q1 ry => ?_; obtain rfl := q1
 refine aY (eF I hx ry) fun b items ep q3 e hn hb rl => ?_; obtain rfl := q3
 refine Calls.call_function_entry (by decide +kernel) (by decide +kernel) nT (oy _) ?_
 unfold Builtin.«iter»
 refine wpAny_bind (m := someArgs "iter" 1 2 _) (wpAny_of_eq (a := [Value.ref b]) (by first | rfl | kernel_rfl) ?_)
 show wpAny _ _ (pyIter (.ref b) >>= _) _ _ _
 refine wpAny_bind (wpAny_pyIter_list (aH e) ?_)
 refine wpAny_pure ⟨_, rfl, ?_⟩
 exact aj.new (o := iw (.ref b) 0) I rfl s.toks fun W' le e' => ⟨.ref b, Heap.get?_push_size _ rfl, ry.mono le.bM⟩
noncomputable def EX (σ : ab) (l : AV) (k : AV -> ab -> R) : R := l.qx fun x => x.fA fun i => (σ.look i).rS fun l j => l.dP σ fun _ a => a.at j fun v_ => (k v_ (σ.put i (.iter l (Nat.succ j))))
theorem kc {W : Gh} {σ : ab} {s : Shared} {i : Nat} {l : AV} {j : Nat} {a : Addr} (I : Inv W σ s) (h : σ.At i (.iter l j)) (ha : W a = .bu i) : ∃ x, s.heap.get? a = some (iw x j) /\ RV W l x := cY I h ha
theorem zQ : eG q (.builtin "next") EX := fun σ l k v Z σf h => by
 refine ae (AV.cV h) fun x q1 h1 => ?_; obtain rfl := q1
 refine ae (AV.cu h1) fun i q1 h2 => ?_; obtain rfl := q1
 refine ag (AO.mi h2) fun l j ho h3 => ?_
 refine ag (AV.ct h3) fun n a hx h4 => ?_
 refine ba (AV.jr h4) fun hu h5 => ?_
 have hat := ab.aw ho fun x => AO.noConfusion x
 refine ⟨_, _, h5, fun A W s vs _ _ I r => ?_⟩
 refine ae (r.one) fun y q1 ry => ?_; obtain rfl := q1
 induction ry using RV.cg with
 | mk b e =>
  refine ae (kc I hat e) fun x e1 rx => ?_
  refine aY (eF I hx rx) fun c items ep q3 e2 hn hb rl => ?_; obtain rfl := q3
  refine ae (rl.at hu) fun y hy ry => ?_
  have hy : items[j]? = some y := by rw [<- hy]; simp
  have hT : s.TypeIs (.ref b) "list_iterator" := ⟨_, e1, rfl⟩
  refine Calls.call_function_entry (by decide +kernel) (by decide +kernel) nO (qt _) ?_
  unfold Builtin.«next»
  refine wpAny_bind (m := someArgs "next" 1 2 _) (wpAny_of_eq (a := [Value.ref b]) (by first | rfl | kernel_rfl) ?_)
  dsimp only
  refine wpAny_bind (wpAny_specialOf (name := Str.ofString "__next__") hT slot_listiter_next.lookup ?_)
  refine wpAny_ite_split (fun hab => absurd hab (by decide)) (fun _ => ?_)
  refine wpAny_bind (wpAny_callSpecial?_slot (name := Str.ofString "__next__") hT slot_listiter_next (wpAny_call_entry slot_listiter_next hT entry_listiter_next ?_ (args_listiter_next _)))
  refine nN e1 (aH e2) hy fun h' hit hs => ⟨_, rfl, ?_⟩
  refine wpAny_pure ⟨_, rfl, ?_⟩
  exact aj.fG (t := s.toks) I e (aL hs) ⟨_, hit⟩ ⟨_, hit, rx⟩ ry
noncomputable def Gs (d : DE) : DE := fun ih Z σ => (d ih Z σ).bind fun v Z σ => v.fA fun i => (σ.look i).rS fun _ _ => .val (.nxt i) Z σ
theorem C7 {e : Expr} {pos : Pos} {d : DE} (he : ∀ env, eval (.Attribute e (Str.ofString "__next__") pos) env = (do
   let o <- eval e env
   standAt pos.atName
   let r <- holding [o] (getAttr o (Str.ofString "__next__") true)
   letTemporaryGo e o r
   pure r)) (h1 : aS C lv e d) : aS C lv (.Attribute e (Str.ofString "__next__") pos) (Gs d) := fun r ih A env W Z σ s P v Z' σ' h => by
 refine ak (R.ai h) fun x l1 s1 e1 h => ?_
 refine ae (AV.cu h) fun i q1 h => ?_; obtain rfl := q1
 refine ag (AO.mi h) fun l j ho h => ?_
 refine R.ve h ?_
 have hat := ab.aw ho fun x => AO.noConfusion x
 refine Attribute_any_ (wpAny_mono (h1 r ih A env W Z σ s P _ _ _ e1) (fun y s1 hy => ?_) fun _ _ x => x) (he env)
 refine af hy ?_; clear hy; intro W1 w1 T1 r1
 induction r1 using RV.cg with
 | mk b e =>
  refine ae (kc T1.1 hat e) fun x e1 rx => ?_
  refine Aj e1 ?_
  exact aj.frame T1 w1 (aj.az (o := wrapObj b) T1.1 rfl _ fun W' le e' => .nxt _ _ _ e' (le.bu e))
section
variable {A : Around} {E : Value -> Shared -> Prop} {s : Shared}
theorem rD (it : Addr) : checkBoundCall "list_iterator.__next__" ⟨[.ref it], []⟩ = pure () := by first | kernel_rfl | rfl
theorem u6 {wa it : Addr} {Q : Value -> Shared -> Prop} (ho : s.heap.get? wa = some (wrapObj it))
  (h : wpAny (model D.prog D.w) A.in1 (Builtin.«list_iterator.__next__» ⟨[.ref it], []⟩) (fun fin s' => ∃ v, fin = .done (.ret v) /\ Q v s') E s) : wpAny (model D.prog D.w) A (call (.ref wa) []) Q E s := by
 refine wpAny_call (codeAny_of_tree ?_)
 skip
 dsimp only [callAny]
 refine wpAny_bind (wpAny_load ho ?_)
 skip
 show wpAny _ _ (if (Value.type "method-wrapper" != Value.type "method") = true then _ else _) _ _ _
 refine aa (if_pos (by decide)) ?_
 refine wpAny_bind (wpAny_of_eq (a := ()) (rD it) ?_)
 refine wpAny_bind (wpAny_pure (wpAny_pure ?_))
 refine ⟨Code.quiet_builtin _ (by decide +kernel), codeAny_builtin entry_listiter_next ?_⟩
 refine aa (Around.under_plainId slot_listiter_next.plain _) ?_
 exact wpAny_mono h (fun fin s' ⟨v, e, q⟩ => by refine aa e ?_; exact q) fun _ _ x => x
theorem lZ {pos : Pos} {wa it : Addr} {env : Env} {Q : Value -> Shared -> Prop} (ho : s.heap.get? wa = some (wrapObj it)) (h : wpAny (model D.prog D.w) A (call (.ref wa) []) Q E s) : wpAny (model D.prog D.w) A (callWith pos (.ref wa) [] (backTo pos (starEach [] env)) []) Q E s := by
 unfold callWith
 refine wpAny_bind (wpAny_holding (evalArgs_nil3 (wpAny_bind (wpAny_standAt ?_))))
 skip
 refine wpAny_bind ?_
 skip
 refine wpAny_bind (wpAny_load ho ?_)
 skip
 refine wpAny_pure ?_
 exact wpAny_bind (wpAny_mono h (fun r s₂ hr => wpAny_bind (wpAny_holding (wpAny_point (wpAny_pure hr)))) fun _ _ x => x)
end
theorem Inv.slots {W : Gh} {σ : ab} {s : Shared} {h' : Heap} {F : List Addr} (I : Inv W σ s) (hF : ∀ L ∈ F, W L = .own \/ ∃ o, W L = .kept o /\ fk o) (h1 : ∀ b o, W b ≠ .free -> b ∉ F -> s.heap.get? b = some o -> h'.get? b = some o)
  (h2 : ∀ b o, b ∈ F -> s.heap.get? b = some o -> ∃ sl, h'.get? b = some { o with slots := sl }) : Inv W σ { s with heap := h' } /\ aJ W s.heap h' := by
 have nF : ∀ b, (∀ o, W b ≠ .kept o) -> W b ≠ .own -> b ∉ F := fun b n1 n2 hm => by
  rcases hF b hm with e | ⟨o, e, _⟩
  ·exact n2 e
  ·exact n1 o e
 have sim : ∀ b o, fk o -> W b ≠ .free -> s.heap.get? b = some o -> ∃ o', h'.get? b = some o' /\ lL o o' := fun b o hs hb e => by
  by_cases hm : b ∈ F
  ·refine bI (h2 b o hm e) fun sl e' => ?_; exact ⟨_, e', .inr ⟨hs, sl, rfl⟩⟩
  ·exact ⟨o, h1 b o hb hm e, .refl o⟩
 refine ⟨⟨I.base, fun a o e => ?_, fun a o e => ?_, fun a e => ?_, fun a e => ?_, fun i o h => ?_, I.inj, I.nxt, I.gens, I.os, I.tab.keep I.tab.1 id fun o e => h1 _ o (by refine aa I.tab.1 ?_; exact fun x => nomatch x) (nF _ (fun o q => by rw [I.tab.1] at q; cases q) (by refine aa I.tab.1 ?_; exact fun x => nomatch x)) e⟩, fun b o e1 e2 => ?_⟩
 ·exact h1 a o (by refine aa e ?_; exact fun x => nomatch x) (nF a (fun o q => by rw [e] at q; cases q) (by refine aa e ?_; exact fun x => nomatch x)) (I.az a o e)
 ·refine ae (I.kept a o e) fun o' e' r => ?_
  by_cases hm : a ∈ F
  ·rcases hF a hm with q | ⟨o2, q, k⟩
   ·rw [e] at q; exact nomatch q
   ·rw [e] at q; cases q
    refine ae (sim a o' (r.soft k) (by refine aa e ?_; exact fun x => nomatch x) e') ?_; intro o3 e3 r3
    exact ⟨o3, e3, r.trans r3⟩
  ·exact ⟨o', h1 a o' (by refine aa e ?_; exact fun x => nomatch x) hm e', r⟩
 ·refine ae (I.own a e) fun o e' k => ?_
  refine ae (sim a o k (by refine aa e ?_; exact fun x => nomatch x) e') ?_; intro o3 e3 r3
  exact ⟨o3, e3, r3.soft k⟩
 ·refine bI (I.ex a e) fun o e' => ?_
  by_cases hm : a ∈ F
  ·refine bI (h2 a o hm e') fun sl e'' => ?_; exact ⟨_, e''⟩
  ·exact ⟨o, h1 a o e hm e'⟩
 ·refine ae (I.bu i o h) fun a e r => ?_
  refine ⟨a, e, r.keep (.refl W) e fun b ob hb eb => ?_⟩
  rcases hb with hb | hb <;> exact h1 b ob (by refine aa hb ?_; exact fun x => nomatch x) (nF b (fun o q => by rw [hb] at q; cases q) (by refine aa hb ?_; exact fun x => nomatch x)) eb
 ·refine ae (I.own b e1) fun o1 e3 k => ?_
  rw [e2] at e3; cases e3
  exact sim b o k (by refine aa e1 ?_; exact fun x => nomatch x) e2
theorem St.slots {env : Env} {W : Gh} {Z : AV} {σ : ab} {s : Shared} {h' : Heap} {F : List Addr} (T : St C env W Z σ s) (hF : ∀ L ∈ F, W L = .own \/ ∃ o, W L = .kept o /\ fk o) (h1 : ∀ b o, W b ≠ .free -> b ∉ F -> s.heap.get? b = some o -> h'.get? b = some o)
  (h2 : ∀ b o, b ∈ F -> s.heap.get? b = some o -> ∃ sl, h'.get? b = some { o with slots := sl }) : St C env W Z σ { s with heap := h' } := by
 refine ba (T.1.slots hF h1 h2) fun J k => ?_
 exact T.value (.refl W) J k
theorem cZ.mu {W : Gh} {σ : ab} {s : Shared} (I : Inv W σ s) : ∀ {l : List Env}, cZ W l -> s.heap.FunFrames D.B l
 | [], _ => trivial
 | e :: r, h => by
  refine cj (h e List.mem_cons_self) fun k L f x => ?_
  refine ⟨k, ⟨L, ?_⟩, cZ.mu I fun e' he' => h e' (List.mem_cons_of_mem _ he')⟩
  have nb : D.B.get? L = none := by
   cases hq : D.B.get? L with
   | none => rfl
   | some o =>
    have := I.base L o hq
    rcases x with x | ⟨o', x, _⟩ <;> rw [x] at this <;> cases this
  have soft : ∀ o, fk o -> ∀ vs, o.data ≠ .fields vs := fun o k vs q => by
   rcases k with ⟨_, _, k⟩ | ⟨_, k⟩ <;> rw [k] at q <;> cases q
  rcases x with x | ⟨o, x, y⟩
  ·refine ae (I.own L x) fun o e k => ?_
   exact ⟨o, f, nb, e, soft o k⟩
  ·refine ae (I.kept L o x) fun o' e r => ?_
   exact ⟨o', f, nb, e, soft o' (r.soft y)⟩
theorem cZ.mem {W : Gh} {l : List Env} (h : cZ W l) : ∀ L ∈ l.filterMap (·.frame), W L = .own \/ ∃ o, W L = .kept o /\ fk o := fun L hL => by
 refine ae (List.mem_filterMap.mp hL) fun e he hf => ?_
 refine cj (h e he) fun _ L' f x => ?_
 rw [hf] at f; cases f
 exact x
section
variable {M : Model} {A : Around} {E : Value -> Shared -> Prop} {s : Shared}
theorem q8 {base : Heap} {env : Env} {outer : List Env} {L e : Addr} {oe : Obj} {vs : Array Value} {Q : Unit -> Shared -> Prop} (hfr : A.frames = some (env :: outer)) (hl : s.heap.FunFrames base (env :: outer)) (hf : env.frame = some L)
  (he : s.heap.get? e = some oe) (hd : oe.data = .fields vs) (h1 : vs[1]? = some .none)
  (h : ∀ h' T oe' oT vs' ts, (∀ b o, b ≠ e -> b ∉ (env :: outer).filterMap (·.frame) -> s.heap.get? b = some o -> h'.get? b = some o) -> (∀ b o, b ∈ (env :: outer).filterMap (·.frame) -> s.heap.get? b = some o -> ∃ sl, h'.get? b = some { o with slots := sl }) ->
   h'.get? e = some oe' -> oe'.cls = oe.cls -> oe'.data = .fields vs' -> vs'[1]? = some (.ref T) -> T ≠ e -> s.heap.get? T = none -> h'.get? T = some oT -> oT.data = .fields ts -> 3 < ts.size -> Q () { s with heap := h' }) :
  wpAny M A (noteFrame (.ref e) env) (fun _ s' => wpAny M A (setFlight (.ref e) none) Q E s') E s := by
 have hsz : 1 < vs.size := (Array.getElem?_eq_some_iff.mp h1).1
 have hene : e ∉ (env :: outer).filterMap (·.frame) := fun hm => by
  refine cj (hl.mem hm) fun _ o ho hnf => ?_
  rw [he] at ho; injection ho with ho; subst ho; exact hnf vs hd
 unfold noteFrame
 simp only [hf]
 refine wpAny_bind (wpAny_field he hd h1 ?_)
 refine aa (if_neg (by decide)) ?_
 refine wpAny_bind (wpAny_frameOf_fun hfr hl hf fun h₁ hs₁ => ?_)
 refine wpAny_bind (wpAny_entryPlaceOf fun pl hpl => ?_)
 skip
 refine wpAny_bind (wpAny_newObj_type ?_ (hpl.sizeOk5 _ _ _ _ _))
 have he₁ : h₁.get? e = some oe := (hs₁.2.1 e hene).trans he
 generalize hto : ({ cls := .type "traceback", dict := none, data := .fields ([Value.none, .ref L, .none, rawInt L, .none] ++ (if pl.isEmpty then List.replicate 6 Value.none else pl)).toArray } : Obj) = to
 have hto2 : to.data = .fields ([Value.none, .ref L, .none, rawInt L, .none] ++ (if pl.isEmpty then List.replicate 6 Value.none else pl)).toArray := by exact bw hto rfl
 have htf : to.isFreed = false := by refine bw hto ?_; rfl
 have he₂ := Heap.get?_push_of_some (h := h₁) to he₁
 refine wpAny_setField he₂ hd hsz ?_
 have hTe : h₁.objs.size ≠ e := Nat.ne_of_gt (Heap.lt_size he₁)
 have hd₃ := Obj.data_mapFields hd (·.setIfInBounds 1 (Value.ref h₁.objs.size))
 have he₃ := Heap.get?_update_self (Obj.mapFields (·.setIfInBounds 1 (Value.ref h₁.objs.size))) he₂ (Obj.isFreed_of_fields hd₃)
 have hT₃ := (Heap.get?_update_other (h₁.push to) (Obj.mapFields (·.setIfInBounds 1 (Value.ref h₁.objs.size))) (Ne.symm hTe)).trans (Heap.get?_push_size h₁ htf)
 skip
 refine wpAny_bind (wpAny_field he₃ hd₃ (x := .ref h₁.objs.size) (by simp [hsz]) ?_)
 refine aa (if_pos (show (Value.ref h₁.objs.size != Value.none) = true from by simp)) ?_
 have h3 : 3 < ([Value.none, .ref L, .none, rawInt L, .none] ++ (if pl.isEmpty then List.replicate 6 Value.none else pl)).toArray.size := by
  simp only [List.size_toArray, List.length_append, List.length_cons, List.length_nil]; lia
 refine wpAny_setField hT₃ hto2 h3 ?_
 have hd4 := Obj.data_mapFields hto2 (·.setIfInBounds 3 ((none : Option Addr).elim Value.none fun f => rawInt f))
 have keep : ∀ b o, b ≠ e -> h₁.get? b = some o -> (((h₁.push to).update e (Obj.mapFields (·.setIfInBounds 1 (Value.ref h₁.objs.size)))).update h₁.objs.size (Obj.mapFields (·.setIfInBounds 3 ((none : Option Addr).elim Value.none fun f => rawInt f)))).get? b = some o := fun b o hbe hb => by
  have hbT : h₁.objs.size ≠ b := Nat.ne_of_gt (Heap.lt_size hb)
  refine aa (Heap.get?_update_other _ _ hbT) ?_; refine aa (Heap.get?_update_other _ _ (Ne.symm hbe)) ?_
  exact Heap.get?_push_of_some _ hb
 refine h _ h₁.objs.size _ _ _ _ (fun b o hbe hbF hb => keep b o hbe ((hs₁.2.1 b hbF).trans hb)) (fun b o hbF hb => ?_) ((Heap.get?_update_other _ _ hTe).trans he₃) (Obj.cls_mapFields _ _) hd₃ (by simp [hsz]) hTe (Heap.get?_none_of_le (by refine aa hs₁.1 ?_; exact Nat.le_refl _)) (Heap.get?_update_self _ hT₃ (Obj.isFreed_of_fields hd4)) hd4 (by simp)
 refine bI (hs₁.2.2 b o hb) fun sl hs => ?_
 exact ⟨sl, keep b _ (fun q => hene (q ▸ hbF)) hs⟩
end
end
section
open PySem PyProof.Rows
variable {C : Cx} {lv : Nat} {q : Bool}
noncomputable def AV.qL (v : AV) (k : Nat -> RS) : RS := (AV.Ft (β := RS) .fail (fun i => k i) v)
noncomputable def AV.gX (v : AV) (k : Nat -> RS) : RS := (AV.jO (β := RS) .fail (fun i => k i) v)
noncomputable def AO.j6 (o : AO) (k : AV -> Nat -> RS) : RS := (@AO.rec (fun _ => RS) (fun _ _ => .fail) (fun _ _ _ => .fail) (fun _ _ => .fail) .fail (fun _ _ => .fail) (fun _ => .fail) (fun l j => k l j) o)
noncomputable def AO.nK (o : AO) (k : AV -> RS) : RS := (@AO.rec (fun _ => RS) (fun n l => k l) (fun _ _ _ => .fail) (fun _ _ => .fail) .fail (fun _ _ => .fail) (fun _ => .fail) (fun _ _ => .fail) o)
noncomputable def AV.nJ (σ : ab) (v : AV) (k : AV -> RS) : RS := (AV.jO (β := RS) (AV.vo (β := RS) .fail (fun n l => k l) v) (fun i => (σ.look i).nK k) v)
theorem AV.tU {v : AV} {k : Nat -> RS} (h : v.qL k ≠ .fail) : ∃ i, v = .nxt i /\ v.qL k = k i := by
 induction v using AV.casesOn <;> first | exact absurd rfl h | exact ⟨_, rfl, rfl⟩
theorem AV.eQ {v : AV} {k : Nat -> RS} (h : v.gX k ≠ .fail) : ∃ i, v = .ref i /\ v.gX k = k i := by
 induction v using AV.casesOn <;> first | exact absurd rfl h | exact ⟨_, rfl, rfl⟩
theorem AO.gV {o : AO} {k : AV -> Nat -> RS} (h : o.j6 k ≠ .fail) : ∃ l j, o = .iter l j /\ o.j6 k = k l j := by
 induction o using AO.casesOn <;> first | exact absurd rfl h | exact ⟨_, _, rfl, rfl⟩
theorem AO.qF {o : AO} {k : AV -> RS} (h : o.nK k ≠ .fail) : ∃ n l, o = .list n l /\ o.nK k = k l := by
 induction o using AO.casesOn <;> first | exact absurd rfl h | exact ⟨_, _, rfl, rfl⟩
theorem AV.mX {σ : ab} {v : AV} {k : AV -> RS} (h : v.nJ σ k ≠ .fail) : ∃ n l, (v = .lst n l \/ ∃ i, v = .ref i /\ σ.At i (.list n l)) /\ v.nJ σ k = k l := by
 induction v using AV.casesOn <;> first | exact absurd rfl h | skip
 case lst n l => exact ⟨n, l, .inl rfl, rfl⟩
 case ref i =>
  refine ag (AO.qF (o := σ.look i) (k := k) h) fun n l e e2 => ?_
  exact ⟨n, l, .inr ⟨i, rfl, ab.aw e fun x => AO.noConfusion x⟩, e2⟩
noncomputable def EC (x : Nat) (df : DE) (db dh : DS) : DS := fun ih Z σ => (df ih Z σ).aX fun f Z σ => f.qL fun i => (σ.look i).j6 fun l j => l.nJ σ fun a => (a.bB j).opt (fun y => db ih (Z.put y x) (σ.put i (.iter l (Nat.succ j)))) (dh ih Z (σ.put i .junk))
theorem lT.cast {C C' : Cx} {W : Gh} {Z : AV} {env : Env} {h : Heap} (F : lT C W Z env h) (h1 : C'.sc = C.sc) (h2 : C'.ns = C.ns) (h3 : C'.cd = C.cd := by rfl) : lT C' W Z env h := by
 refine ⟨by refine aa h1 ?_; exact F.sc, by refine aa h1 ?_; exact F.kind, F.gl, F.bi, F.own, F.ns, fun i x k hx => ?_, by refine aa h2 ?_; exact F.nodup, F.apart, fun c e => F.cd c (h3 ▸ e)⟩
 have := F.slot i x k (by refine bw h2 ?_; exact hx)
 induction k using Kd.casesOn <;> (unfold vr at this ⊢; simp only [h1]; exact this)
theorem St.cast {C C' : Cx} {env : Env} {W : Gh} {Z : AV} {σ : ab} {s : Shared} (T : St C env W Z σ s) (h1 : C'.sc = C.sc) (h2 : C'.ns = C.ns) (h3 : C'.cd = C.cd := by rfl) : St C' env W Z σ s := ⟨T.1, T.2.cast h1 h2 h3⟩
theorem aO.cast {C C' : Cx} {env : Env} {W : Gh} {r : RS} {f : Flow} {s : Shared} (h : aO C env W r f s) (h1 : C'.sc = C.sc) (h2 : C'.ns = C.ns) (h3 : C'.cd = C.cd := by rfl) : aO C' env W r f s := by
 induction r using RS.casesOn with
 | fail => trivial
 | next Z σ => exact ⟨h.1, let ⟨W', l, x⟩ := h.2; ⟨W', l, x.cast h1 h2 h3⟩⟩
 | brk Z σ => exact ⟨h.1, let ⟨W', l, x⟩ := h.2; ⟨W', l, x.cast h1 h2 h3⟩⟩
 | cont Z σ => exact ⟨h.1, let ⟨W', l, x⟩ := h.2; ⟨W', l, x.cast h1 h2 h3⟩⟩
 | ret v Z σ => exact let ⟨x, e, W', l, y, z⟩ := h; ⟨x, e, W', l, y.cast h1 h2 h3, z⟩
theorem tP : isSubtype (.type "StopIteration") (.type "BaseException") = pure true := by rw [isSubtype_type]; kernel_rfl
theorem uK : isSubtype (.type ((Manifest.find? "StopIteration").elim "type" fun x => x.metatype)) (.type "tuple") = pure false := by rw [isSubtype_type]; kernel_rfl
theorem St.fG {env : Env} {W : Gh} {Z : AV} {σ : ab} {s : Shared} {h' : Heap} {t : Nat} {a : Addr} {i : Nat} {o : AO} (T : St C env W Z σ s) (ha : W a = .bu i) (hs : ∀ b o, b ≠ a -> s.heap.get? b = some o -> h'.get? b = some o) (hx : ∃ o, h'.get? a = some o) (ho : OR W h' i a o) :
  St C env W Z (σ.put i o) { s with heap := h', toks := t } := T.value (.refl _) (T.1.fG ha hs hx ho) (.of fun b o hb eb => hs b o (fun q => cn.noConfusion (hb.symm.trans ((congrArg W q).trans ha))) eb)
theorem Inv.sN {W : Gh} {σ : ab} {s : Shared} {a : Addr} (I : Inv W σ s) (h : s.heap.get? a = none) : W a = .free := Classical.byContradiction fun z => bI (I.ex a z) fun o e => Option.some_ne_none o (e.symm.trans h)
theorem xx {x : Str} {pt ph : Pos} {b₀ : Stmt} {hb : List Stmt} {dh : DS} (hq : C.q = true) (ht : C.t = true) (hx : C.sc.names.lookup (Str.ofString "StopIteration") = some .globalImplicit) (hg : cG (Str.ofString "StopIteration") (.type "StopIteration")) (h3 : dR { C with q := false } lv (b₀ :: hb) dh)
  {r : Nat} {ih : CH} {A : Around} {env : Env} {W W1 : Gh} {Z l1 : AV} {σ s1 : ab} {s : Shared} (P : Pre C lv r ih A env W Z σ s) (w1 : W.le W1) (e3 : dh ih l1 s1 ≠ .fail) {s' : Shared} {e : Addr} {oe : Obj} {vs : Array Value} (T2 : St C env W1 l1 s1 s') (hfree : W1 e = .free) (k4 : s'.heap.get? e = some oe) (k5 : oe.cls = .type "StopIteration") (k6 : oe.data = .fields vs) (k7 : vs[1]? = some .none) :
  Bf (model D.prog D.w) A env [.ExceptHandler (some (.Name (Str.ofString "StopIteration") pt)) none (b₀ :: hb) ph] (aO C env W (dh ih l1 s1)) (.ref e) s' := by
 refine aN P.frs fun f0 fl fr1 fr2 fr3 => ?_
 obtain rfl := fr3 ht
 have fr4 := fr2.le w1
 refine cj (fr4 f0 List.mem_cons_self) fun _ L hL _ => q8 (base := D.B) fr1 (cZ.mu T2.1 fr4) hL k4 k6 k7 fun h2 T oe' oT vs' ts n1 n2 n3 n4 n5 n6 n7 n8 n9 n10 n11 => ?_
 have T3 : St C f0 W1 l1 s1 { s' with heap := h2 } := T2.slots (cZ.mem fr4) (fun b o hb hF eb => n1 b o (fun q => hb ((congrArg W1 q).trans hfree)) hF eb) n2
 refine wpAny_handleBy_builtin (X := "StopIteration") (T := "StopIteration") (b := true) tP uK isSubtype_stop (c5 hx hg (by decide) T3 ⟨rfl, ⟨oe', n3, n4.trans k5⟩, ?_⟩)
 refine aa (if_pos rfl) ?_
 refine wpAny_setFlight_none n3 n5 n6 n9 n10 n11 ?_
 have kp : Keeps W1 h2 (h2.update T (Obj.mapFields (·.setIfInBounds 3 .none))) := fun b o hb eb => (Heap.get?_update_other _ _ fun q => hb ((congrArg W1 q.symm).trans (T2.1.sN n8))).trans eb
 exact wpAny_mono (h3 r ih _ f0 W1 l1 _ _ ⟨P.lv1, P.ok, P.room, fun h => Bool.noConfusion h, ⟨f0, fl, fr1, fr4, fun _ => rfl⟩, (T3.value (.refl _) (T3.1.same (t := s'.toks) kp) kp.own).cast rfl rfl⟩ e3) (fun fl' sb hb => (hb.cast (C' := C) rfl rfl).up w1) fun _ _ x => x.elim
theorem yv {x : Str} {i : Nat} {k : Kd} {px pc pa pt ph pos : Pos} {fe : Expr} {rest : List Stmt} {b₀ : Stmt} {hb : List Stmt} {df : DE} {db dh : DS} (hq : C.q = true) (ht : C.t = true) (ha : ar C.ns i x k) (hk : k ≠ .cap)
  (hcall : ∀ env, eval (.Call fe [] [] pc) env = (do callWith pc (<- eval fe env) [] (backTo pc (starEach [] env)) (backToKw pc (keywordEach [] env))))
  (hsw : ∀ env, swapsWith (.Call fe [] [] pc) (some (.Name x px)) pa.line env = pure false)
  (hx : C.sc.names.lookup (Str.ofString "StopIteration") = some .globalImplicit) (hg : cG (Str.ofString "StopIteration") (.type "StopIteration"))
  (h1 : aS C lv fe df) (h2 : dR C lv rest db) (h3 : dR { C with q := false } lv (b₀ :: hb) dh) :
  hM C lv (.Try (.Assign [.Name x px] (.Call fe [] [] pc) pa :: rest) [.ExceptHandler (some (.Name (Str.ofString "StopIteration") pt)) none (b₀ :: hb) ph] [] [] pos) (EC i df db dh) := fun r ih A env W Z σ s P hne => by
 refine aW (P := fun r => wpAny _ _ _ (aO C env W r) _ _) hne fun f l1 s1 e1 e3 => ?_
 refine ae (AV.tU e3) fun n hf e4 => ?_
 subst hf
 rw [e4] at e3 ⊢
 refine ag (AO.gV e3) fun l j ho e5 => ?_
 rw [e5] at e3 ⊢
 refine ag (AV.mX e3) fun m a hl e6 => ?_
 rw [e6] at e3 ⊢
 clear e4 e5 e6
 have hat := ab.aw ho fun x => AO.noConfusion x
 generalize hres : (a.bB j).opt (fun y => db ih (l1.put y i) (s1.put n (.iter l (Nat.succ j)))) (dh ih l1 (s1.put n .junk)) = res at e3 ⊢
 refine zz (xF (wpAny_Assign_Name (Call_ (wpAny_mono (h1 r ih A env W Z σ s P _ _ _ e1) (fun y sa hy => af hy fun W1 w1 T1 r1 => ?_) fun _ _ x => x.elim) (hcall env)) (hsw env)))
 induction r1 using RV.Fx with
 | mk wa it f1 f2 =>
 refine ae (kc T1.1 hat f2) fun xl i1 i2 => aY (eF T1.1 hl i2) fun la items ep hxl l2 l3 l4 l5 => ?_
 subst hxl
 refine lZ (T1.1.az _ _ f1) (u6 (T1.1.az _ _ f1) ?_)
 refine (l5.bB j).elim (fun h => ?_) fun h => bI h.2 fun y hy => ?_
 ·obtain rfl : dh ih l1 (s1.put n .junk) = res := (congrArg (AV.opt · _ _) h.1).symm.trans hres
  refine vI (show A.in1.handled = none from P.hn hq) i1 (aH l2) (Array.getElem?_toList ▸ h.2) fun h' e oe vs k1 k2 k3 k4 k5 k6 k7 => ?_
  exact xx (x := x) hq ht hx hg h3 P w1 e3 (T1.fG (t := sa.toks) f2 k1 k2 trivial) (T1.1.sN k3) k4 k5 k6 k7
 ·obtain rfl : db ih (l1.put (a.bB j) i) (s1.put n (.iter l (j + 1))) = res := (AV.eU h.1 _ _).symm.trans hres
  refine nN i1 (aH l2) (Array.getElem?_toList ▸ hy.1) fun h' hit hs => ⟨_, rfl, cO ha hk (T1.fG (t := sa.toks) (o := .iter l (j + 1)) f2 (aL hs) ⟨_, hit⟩ ⟨_, hit, i2⟩) hy.2 fun s' T' => ?_⟩
  exact wpAny_mono (h2 r ih A env W1 _ _ _ (P.next T') e3) (fun fl sb hb => hb.yg w1) fun _ _ x => x.elim
end
section
open PySem PyProof.Rows
variable {C : Cx} {lv : Nat} {q : Bool}
section
variable {K : Type} [DecidableEq K] {knd : KeyKind D.prog D.w K} {A : Around} {E : Value -> Shared -> Prop} {s : Shared}
noncomputable def fO (kvs : List (K × Value)) (k : K) : Bool := kvs.any fun kv => decide (kv.1 = k)
theorem rh {d : Addr} {kvs : List (K × Value)} {ep : Nat} {k : K} {key v : Value} {Q : Unit -> Shared -> Prop} (hkey : knd.is k key = true) (hm : s.heap.DictAt knd d kvs ep)
  (hQ : ∀ h', h'.DictAt knd d (stored kvs k v) (if fO kvs k = true then ep else ep + 1) -> Heap.SameBut d s.heap h' -> Q () { s with heap := h', toks := s.toks + 1 })
  (hsz : kvs.length <= sizeLine) : wpAny (model D.prog D.w) A (dictSet d key v) Q E s := by
 refine a8 hm ?_; clear hm; intro o es ho hc hd hk hp hn
 have hes : es.size <= sizeLine := by
  have e1 := hp.length; have e2 : es.toList.length = es.size := by simp
  lia
 unfold dictSet
 try with_reducible refine wpAny_holding ?_
 refine wpAny_bind (knd.pyHash hkey ?_)
 unfold dictSetHashed
 try with_reducible refine wpAny_holding ?_
 refine wpAny_bind (wpAny_dictFind_of (s := { s with toks := s.toks + 1 }) hkey ho hd hk ?_)
 have hidx : (es.findIdx? fun e => knd.is k e.key) = kvs.findIdx? fun kv => decide (kv.1 = k) := by
  refine bw (hp.findIdx k) ?_; obtain ⟨l⟩ := es; simp
 cases hi : es.findIdx? fun e => knd.is k e.key with
 | some i =>
  have hany : fO kvs k = true := any_of_findIdx_some (hidx ▸ hi)
  rw [if_pos hany] at hQ
  refine wpAny_bind (wpAny_rule (wpAny_bind (wpAny_updateDict (s := { s with toks := s.toks + 1 }) ho hd (wpAny_point (hQ _ ⟨_, _, Heap.get?_update_self _ ho (Obj.isFreed_of_dict (Obj.data_mapDict hd _)),
   hc.mapDict _, Obj.data_mapDict hd _, hk.modify _ _, ?_, ?_⟩ (Heap.SameBut.update ..))))))
  ·rw [stored]; refine aa (if_pos (show (kvs.any fun kv => decide (kv.1 = k)) = true from hany)) ?_
   have hl : (es.toList.findIdx? fun e => knd.is k e.key) = some i := by refine bw hi ?_; obtain ⟨l⟩ := es; simp
   have := hp.modify hn hl v
   obtain ⟨l⟩ := es
   simpa using this
  ·rw [stored, if_pos (show (kvs.any fun kv => decide (kv.1 = k)) = true from hany), keys_map_store]; exact hn
 | none =>
  have hnot : k ∉ kvs.map (·.1) := not_mem_of_findIdx_none (hidx ▸ hi)
  have hany : ¬ fO kvs k = true := by
   unfold fO
   rw [List.any_eq_true]; rintro ⟨kv, hkv, he⟩
   exact hnot (List.mem_map.mpr ⟨kv, hkv, of_decide_eq_true he⟩)
  rw [if_neg hany] at hQ
  refine wpAny_bind (wpAny_rule (wpAny_updateDictKeys (hz := hes) (s := { s with toks := s.toks + 1 }) ho hd (hQ _ ⟨_, _, Heap.get?_update_self _ ho (Obj.isFreed_of_dict (Obj.data_mapDictKeys hd _)),
   hc.mapDictKeys _, Obj.data_mapDictKeys hd _, hk.push hkey _, ?_, ?_⟩ (Heap.SameBut.update ..))))
  ·rw [stored]; refine aa (if_neg (show ¬ (kvs.any fun kv => decide (kv.1 = k)) = true from hany)) ?_
   have := hp.append hkey (knd.hash k) v
   obtain ⟨l⟩ := es
   simpa using this
  ·rw [stored, if_neg (show ¬ (kvs.any fun kv => decide (kv.1 = k)) = true from hany), List.map_append, List.nodup_append]
   refine ⟨hn, by simp, ?_⟩
   intro a ha b hb
   simp only [List.map_cons, List.map_nil, List.mem_singleton] at hb
   refine aa hb ?_
   exact fun e => hnot (e ▸ ha)
theorem qP {d : Addr} {kvs : List (K × Value)} {ep : Nat} {k : K} {key v : Value} {Q : Unit -> Shared -> Prop} (hkey : knd.is k key = true) (hm : s.heap.DictAt knd d kvs ep)
  (hQ : ∀ h', h'.DictAt knd d (stored kvs k v) (if fO kvs k = true then ep else ep + 1) -> Heap.SameBut d s.heap h' -> Q () { s with heap := h', toks := s.toks + 1 })
  (hsz : kvs.length <= sizeLine) : wpAny (model D.prog D.w) A (setItem (.ref d) key v) Q E s := by
 have hT := hm.dictOf.typeIs
 unfold setItem
 try with_reducible refine wpAny_holding ?_
 refine wpAny_bind (wpAny_sequenceKey hT (by decide) ?_)
 refine wpAny_bind (wpAny_callSpecial?_slot (name := Str.ofString "__setitem__") hT slot_dict_setitem
  (wpAny_call_entry slot_dict_setitem hT entry_dict_setitem ?_ (args_dict_setitem _ _ _)))
 skip
 refine wpAny_bind (wpAny_notOrdered_dict hT ?_)
 show wpAny _ _ (dictSet d key v >>= _) _ _ s
 exact wpAny_bind (rh (hsz := hsz) hkey hm fun h' hm' hs' => wpAny_pure ⟨.none, rfl, wpAny_pure (hQ h' hm' hs')⟩)
theorem rP {d : Addr} {kvs : List (K × Value)} {ep : Nat} {k : K} {key : Value} {Q : Option DictEntry -> Shared -> Prop} (hkey : knd.is k key = true) (hm : s.heap.DictAt knd d kvs ep) (hv : fO kvs k = true)
  (hsome : ∀ e h', h'.DictAt knd d (without kvs k) (ep + 1) -> Heap.SameBut d s.heap h' -> Q (some e) { s with heap := h', toks := s.toks + 1 })
  (hsz : kvs.length <= sizeLine) : wpAny (model D.prog D.w) A (Builtin.Dict.takeOut d key) Q E s := by
 refine a8 hm ?_; clear hm; intro o es ho hc hd hk hp hn
 have hes : es.size <= sizeLine := by
  have e1 := hp.length; have e2 : es.toList.length = es.size := by simp
  lia
 unfold Builtin.Dict.takeOut
 try with_reducible refine wpAny_holding ?_
 refine wpAny_bind (knd.pyHash hkey ?_)
 refine wpAny_bind (wpAny_dictFind_of (s := { s with toks := s.toks + 1 }) hkey ho hd hk ?_)
 have hidx : (es.findIdx? fun e => knd.is k e.key) = kvs.findIdx? fun kv => decide (kv.1 = k) := by
  refine bw (hp.findIdx k) ?_; obtain ⟨l⟩ := es; simp
 cases hi : es.findIdx? fun e => knd.is k e.key with
 | none =>
  have hnot : k ∉ kvs.map (·.1) := not_mem_of_findIdx_none (hidx ▸ hi)
  exfalso
  unfold fO at hv
  rw [List.any_eq_true] at hv
  refine ae hv ?_; clear hv; intro kv hkv he
  exact hnot (List.mem_map.mpr ⟨kv, hkv, of_decide_eq_true he⟩)
 | some i =>
  have hl : (es.toList.findIdx? fun e => knd.is k e.key) = some i := by refine bw hi ?_; obtain ⟨l⟩ := es; simp
  refine af (hp.at hl) fun e he hek hev => ?_
  refine wpAny_bind (wpAny_dictEntries (s := { s with toks := s.toks + 1 }) ho hd ?_)
  have he' : es[i]? = some e := by refine bw he ?_; obtain ⟨l⟩ := es; simp
  refine aa he' ?_
  refine wpAny_bind (wpAny_updateDictKeys (hz := hes) (s := { s with toks := s.toks + 1 }) ho hd (wpAny_pure (hsome e _ ⟨_, _, Heap.get?_update_self _ ho (Obj.isFreed_of_dict (Obj.data_mapDictKeys hd _)),
   hc.mapDictKeys _, Obj.data_mapDictKeys hd _, hk.erase _, ?_, nodup_without hn k⟩ (Heap.SameBut.update ..))))
  have := hp.erase hn hl
  obtain ⟨l⟩ := es
  simpa using this
theorem delItem_at {d : Addr} {kvs : List (K × Value)} {ep : Nat} {k : K} {key : Value} {Q : Unit -> Shared -> Prop} (hkey : knd.is k key = true) (hm : s.heap.DictAt knd d kvs ep) (hv : fO kvs k = true)
  (hQ : ∀ h', h'.DictAt knd d (without kvs k) (ep + 1) -> Heap.SameBut d s.heap h' -> Q () { s with heap := h', toks := s.toks + 1 })
  (hsz : kvs.length <= sizeLine) : wpAny (model D.prog D.w) A (delItem (.ref d) key) Q E s := by
 have hT := hm.dictOf.typeIs
 refine wpAny_delItem_slot hT (by decide) F.slot_dict_delitem (wpAny_call_entry F.slot_dict_delitem hT F.entry_dict_delitem ?_ (F.args_dict_delitem_2 _ _))
 unfold Builtin.«dict.__delitem__»
 refine wpAny_bind (m := Builtin.Dict.dictSlotArgs _ _) ?_
 refine wpAny_mono (Q := fun r s' => r = (.ref d, key) /\ s' = s) (E := fun _ _ => False) ?_ (fun r s' hr => ?_) fun _ _ x => x.elim
 ·skip
  exact wpAny_bind (wpAny_notOrdered_dict hT (wpAny_pure ⟨rfl, rfl⟩))
 ·refine ba hr ?_; clear hr; intro q0 q1; refine aa q0 ?_; refine aa q1 ?_
  show wpAny _ _ (Builtin.Dict.takeOut d key >>= _) _ _ _
  refine wpAny_bind (rP (hsz := hsz) hkey hm hv fun e h' hm' hs' => ?_)
  skip
  exact wpAny_bind (wpAny_letGo (wpAny_pure ⟨_, rfl, hQ h' hm' hs'⟩))
end
end
section
open PySem PyProof.Rows
variable {C : Cx} {lv : Nat} {q : Bool}
noncomputable def AV.Cb (n c : Nat) (v e : AV) : AV := AV.qM .nil (fun m d u _ ih => .ent m d (@Bool.rec (fun _ => AV) u v (kQ n c m d)) ih) e
noncomputable def AV.EI (n c : Nat) (v e : AV) : AV := AV.qM (.ent n c v .nil) (fun m d u _ ih => .ent m d u ih) e
noncomputable def AV.xu (n c : Nat) (e : AV) : AV := AV.qM .nil (fun m d u _ ih => @Bool.rec (fun _ => AV) (.ent m d u ih) ih (kQ n c m d)) e
noncomputable def AV.ro (n c : Nat) (v e : AV) : AV := @Bool.rec (fun _ => AV) (AV.EI n c v e) (AV.Cb n c v e) (AV.k8 n c e)
theorem iR {W : Gh} {n c : Nat} (hc : c < 256 ^ n) : ∀ {e : AV} {kvs : List (Str × Value)}, RE W e kvs -> AV.k8 n c e = fO kvs (toS n c)
 | _, _, .nil => rfl
 | _, _, .cons m d v r x xs hd rv rt => by
  show @Bool.rec (fun _ => Bool) (AV.k8 n c r) true (kQ n c m d) = (decide (toS m d = toS n c) || fO xs (toS n c))
  refine aa (fb hc hd) ?_; refine aa (iR hc rt) ?_
  by_cases h : toS n c = toS m d
  ·refine aa (decide_eq_true h) ?_; refine aa (decide_eq_true h.symm) ?_; rfl
  ·refine aa (decide_eq_false h) ?_; refine aa (decide_eq_false fun q => h q.symm) ?_; rfl
theorem nM {W : Gh} {n c : Nat} (hc : c < 256 ^ n) {v : AV} {y : Value} (rv : RV W v y) : ∀ {e : AV} {kvs : List (Str × Value)}, RE W e kvs -> RE W (AV.Cb n c v e) (kvs.map fun kv => if kv.1 = toS n c then (kv.1, y) else kv)
 | _, _, .nil => .nil
 | _, _, .cons m d u r x xs hd ru rt => by
  show RE W (.ent m d (@Bool.rec (fun _ => AV) u v (kQ n c m d)) (AV.Cb n c v r)) ((if toS m d = toS n c then (toS m d, y) else (toS m d, x)) :: _)
  refine aa (fb hc hd) ?_
  by_cases h : toS n c = toS m d
  ·refine aa (decide_eq_true h) ?_; refine aa (if_pos h.symm) ?_; exact .cons _ _ _ _ _ _ hd rv (nM hc rv rt)
  ·refine aa (decide_eq_false h) ?_; refine aa (if_neg fun q => h q.symm) ?_; exact .cons _ _ _ _ _ _ hd ru (nM hc rv rt)
theorem s7 {W : Gh} {n c : Nat} (hc : c < 256 ^ n) {v : AV} {y : Value} (rv : RV W v y) : ∀ {e : AV} {kvs : List (Str × Value)}, RE W e kvs -> RE W (AV.EI n c v e) (kvs ++ [(toS n c, y)])
 | _, _, .nil => .cons _ _ _ _ _ _ hc rv .nil
 | _, _, .cons m d u r x xs hd ru rt => .cons _ _ _ _ _ _ hd ru (s7 hc rv rt)
theorem sH {W : Gh} {n c : Nat} (hc : c < 256 ^ n) : ∀ {e : AV} {kvs : List (Str × Value)}, RE W e kvs -> RE W (AV.xu n c e) (without kvs (toS n c))
 | _, _, .nil => .nil
 | _, _, .cons m d u r x xs hd ru rt => by
  show RE W (@Bool.rec (fun _ => AV) (.ent m d u (AV.xu n c r)) (AV.xu n c r) (kQ n c m d)) (without ((toS m d, x) :: xs) (toS n c))
  have ih := sH hc rt
  refine aa (fb hc hd) ?_
  unfold without at ih ⊢
  refine aa List.filter_cons ?_
  by_cases h : toS n c = toS m d
  ·refine aa (decide_eq_true h) ?_; refine aa (if_neg (by simp [h])) ?_; exact ih
  ·refine aa (decide_eq_false h) ?_; refine aa (if_pos (by simp; exact fun q => h q.symm)) ?_; exact .cons _ _ _ _ _ _ hd ru ih
theorem uD {W : Gh} {n c : Nat} (hc : c < 256 ^ n) {v : AV} {y : Value} (rv : RV W v y) {e : AV} {kvs : List (Str × Value)} (re : RE W e kvs) : RE W (AV.ro n c v e) (stored kvs (toS n c) y) := by
 unfold AV.ro stored
 refine aa (iR hc re) ?_
 by_cases h : fO kvs (toS n c) = true
 ·refine aa h ?_; refine aa (if_pos (show (kvs.any fun kv => decide (kv.1 = toS n c)) = true from h)) ?_; exact nM hc rv re
 ·refine aa (Bool.eq_false_iff.mpr h) ?_; refine aa (if_neg (show ¬ (kvs.any fun kv => decide (kv.1 = toS n c)) = true from h)) ?_; exact s7 hc rv re
noncomputable def EY (ep : Nat) : Nat := @Nat.rec (fun _ => Nat) 0 (fun k _ => Nat.succ (Nat.succ k)) ep
theorem we {ep e : Nat} (h : ep = 0 \/ ep = e + 1) : EY ep = 0 \/ EY ep = e + 1 + 1 := by
 rcases h with rfl | rfl
 ·exact .inl rfl
 ·exact .inr rfl
noncomputable def AO.iL (o : AO) (k : Nat -> Nat -> AV -> RS) : RS := (@AO.rec (fun _ => RS) (fun _ _ => .fail) (fun n ep e => k n ep e) (fun _ _ => .fail) .fail (fun _ _ => .fail) (fun _ => .fail) (fun _ _ => .fail) o)
theorem AO.kf {o : AO} {k : Nat -> Nat -> AV -> RS} (h : o.iL k ≠ .fail) : ∃ n ep e, o = .dict n ep e /\ o.iL k = k n ep e := by
 induction o using AO.casesOn <;> first | exact absurd rfl h | exact ⟨_, _, _, rfl, rfl⟩
noncomputable def AV.km (v : AV) (k : Nat -> Nat -> RS) : RS := (AV.cStr (β := RS) .fail (fun n c => k n c) v)
theorem AV.mz {v : AV} {k : Nat -> Nat -> RS} (h : v.km k ≠ .fail) : ∃ n c, v = .str n c /\ v.km k = k n c := by
 induction v using AV.casesOn <;> first | exact absurd rfl h | exact ⟨_, _, rfl, rfl⟩
noncomputable def RS.guard (b : Bool) (r : RS) : RS := @Bool.rec (fun _ => RS) .fail r b
theorem RS.fX {b : Bool} {r : RS} (h : RS.guard b r ≠ .fail) : b = true /\ RS.guard b r = r := by
 induction b using Bool.casesOn with
 | false => exact absurd rfl h
 | true => exact ⟨rfl, rfl⟩
noncomputable def dictPut (σ : ab) (i n ep : Nat) (e : AV) (m c : Nat) (v : AV) : ab := σ.put i (.dict (@Bool.rec (fun _ => Nat) (Nat.succ n) n (AV.k8 m c e)) (@Bool.rec (fun _ => Nat) (EY ep) ep (AV.k8 m c e)) (AV.ro m c v e))
noncomputable def setAt (σ : ab) (x y v : AV) (k : ab -> RS) : RS := x.gX fun i => (σ.look i).iL fun n ep e => y.km fun m c => RS.guard (fits (Nat.succ n)) (k (dictPut σ i n ep e m c v))
theorem o6 {σ : ab} {x y v : AV} {k : ab -> RS} (h : setAt σ x y v k ≠ .fail) : ∃ σ', setAt σ x y v k = k σ' /\ ∀ {A : Around} {W : Gh} {s : Shared} {vx vy vv : Value}, Inv W σ s -> RV W x vx -> RV W y vy -> RV W v vv ->
  wpAny (model D.prog D.w) A (setItem vx vy vv) (fun _ s' => Inv W σ' s' /\ aJ W s.heap s'.heap) No s := by
 refine ae (AV.eQ h) fun i q1 e1 => ?_; obtain rfl := q1
 have h1 : ((σ.look i).iL fun n ep e => y.km fun m c => RS.guard (fits (Nat.succ n)) (k (dictPut σ i n ep e m c v))) ≠ .fail := h
 refine ak (AO.kf h1) fun n ep e ho e2 => ?_
 rw [e2] at h1
 refine ag (AV.mz h1) fun m c q2 e3 => ?_; obtain rfl := q2
 rw [e3] at h1
 refine ba (RS.fX h1) fun g e4 => ?_
 have hat := ab.aw ho fun x => AO.noConfusion x
 refine ⟨_, (e1.trans e2).trans (e3.trans e4), fun {A W s vx vy vv} I r1 r2 r3 => ?_⟩
 refine af (r2.str_inv) fun t q1 hc _ => ?_; obtain rfl := q1
 induction r1 using RV.cg with
 | mk b eb =>
  refine b8 (cY I hat eb) fun kvs ep' hd hep hn hb re => ?_
  refine qP (strKind_is D.prog D.w _ _) hd (fun h' hd' hs' => ?_) (by refine aa sizeLine_eq ?_; lia)
  have ks := iR hc re
  refine ag (id hd') fun o2 es2 q2 _ => ?_
  refine ⟨I.fG (t := s.toks + 1) eb (aL hs') ⟨_, q2⟩ ⟨_, _, hd', ?_, ?_, ?_, uD hc r3 re⟩, .of fun b ob hb e => aL hs' b ob (by rintro rfl; rw [eb] at hb; exact nomatch hb) e⟩
  ·refine aa ks ?_
   by_cases hh : fO kvs (toS m c) = true
   ·refine aa hh ?_; refine aa (if_pos rfl) ?_; exact hep
   ·refine aa (if_neg hh) ?_; refine aa (Bool.eq_false_iff.mpr hh) ?_; exact we hep
  ·refine aa ks ?_
   unfold stored
   by_cases hh : fO kvs (toS m c) = true
   ·rw [hh, if_pos (show (kvs.any fun kv => decide (kv.1 = toS m c)) = true from hh), List.length_map]; exact hn
   ·refine aa (Bool.eq_false_iff.mpr hh) ?_; refine aa (if_neg (show ¬ (kvs.any fun kv => decide (kv.1 = toS m c)) = true from hh)) ?_; refine aa List.length_append ?_; refine aa hn ?_; rfl
  ·have hg := bO g
   refine aa ks ?_
   cases fO kvs (toS m c)
   ·exact hg
   ·exact hb
noncomputable def pS (dv do' di : DE) : DS := fun ih Z σ => (dv ih Z σ).aX fun v Z σ => (do' ih Z σ).aX fun x Z σ => (di ih Z σ).aX fun y Z σ => setAt σ x y v fun σ => .next Z σ
theorem pF {o i value : Expr} {p pos : Pos} {dv do' di : DE} (hs : ∀ env, swapsWith value (some (.Subscript o i p)) pos.line env = pure false) (h1 : aS C lv value dv) (h2 : aS C lv o do') (h3 : aS C lv i di) :
  hM C lv (.Assign [.Subscript o i p] value pos) (pS dv do' di) := fun r ih A env W Z σ s P hne => by
 refine aW (P := fun r => wpAny _ _ _ (aO C env W r) _ _) hne fun v l1 s1 e1 e3 => ?_
 refine aW (P := fun r => wpAny _ _ _ (aO C env W r) _ _) e3 fun x l2 s2 f1 f3 => ?_
 refine aW (P := fun r => wpAny _ _ _ (aO C env W r) _ _) f3 fun y l3 s3 g1 g3 => ?_
 refine ae (o6 g3) fun σ' k1 k2 => ?_
 refine aa k1 ?_
 refine wpAny_Assign_Subscript (wpAny_mono (h1 r ih A env W Z σ s P _ _ _ e1) (fun vv sa ha => ?_) fun _ _ x => x) (hs env)
 refine af ha ?_; clear ha; intro W1 w1 T1 r1
 refine wpAny_mono (h2 r ih A env W1 _ _ sa (P.next T1) _ _ _ f1) (fun vx sb hb => ?_) fun _ _ x => x
 refine af hb ?_; clear hb; intro W2 w2 T2 r2
 refine wpAny_mono (h3 r ih A env W2 _ _ sb (P.next T2) _ _ _ g1) (fun vy sc hc => ?_) fun _ _ x => x
 refine af hc ?_; clear hc; intro W3 w3 T3 r3
 refine wpAny_mono (k2 T3.1 (r2.mono w3.bM) r3 (r1.mono (w2.trans w3).bM)) (fun _ sd hd => ?_) fun _ _ x => x
 exact ⟨rfl, W3, (w1.trans w2).trans w3, T3.value (.refl _) hd.1 hd.2⟩
noncomputable def Fo (do' di : DE) : DS := fun ih Z σ => (do' ih Z σ).aX fun x Z σ => (di ih Z σ).aX fun y Z σ => x.gX fun i => (σ.look i).iL fun n ep e => y.km fun m c => RS.guard (AV.k8 m c e) (.next Z (σ.put i (.dict (Nat.pred n) (EY ep) (AV.xu m c e))))
theorem fQ {K : Type} [DecidableEq K] {k : K} : ∀ {kvs : List (K × Value)}, (kvs.map (·.1)).Nodup -> fO kvs k = true -> (without kvs k).length = kvs.length - 1
 | [], _, h => Bool.noConfusion h
 | (a, b) :: r, hn, h => by
  rw [List.map_cons, List.nodup_cons] at hn
  unfold without
  rw [List.filter_cons]
  by_cases e : a = k
  ·subst e
   rw [if_neg (by simp)]
   have := without_of_not_mem r a hn.1
   unfold without at this
   refine aa this ?_; simp
  ·have h' : fO r k = true := by
    unfold fO at h ⊢
    rw [List.any_cons, decide_eq_false e, Bool.false_or] at h
    exact h
   have ih := fQ hn.2 h'
   have pos : 0 < r.length := by
    induction r using List.casesOn with
    | nil => cases h'
    | cons _ _ => exact Nat.succ_pos _
   refine aa (if_pos (by simp [e])) ?_
   unfold without at ih
   refine aa List.length_cons ?_; refine aa ih ?_; refine aa List.length_cons ?_; lia
theorem z9 {o i : Expr} {p pos : Pos} {do' di : DE} (h2 : aS C lv o do') (h3 : aS C lv i di) : hM C lv (.Delete [.Subscript o i p] pos) (Fo do' di) := fun r ih A env W Z σ s P hne => by
 refine aW (P := fun r => wpAny _ _ _ (aO C env W r) _ _) hne fun x l1 s1 f1 f3 => ?_
 refine aW (P := fun r => wpAny _ _ _ (aO C env W r) _ _) f3 fun y l2 s2 g1 g3 => ?_
 refine ae (AV.eQ g3) fun j q1 e1 => ?_; obtain rfl := q1
 rw [e1] at g3 ⊢
 refine ak (AO.kf g3) fun n ep e ho e2 => ?_
 rw [e2] at g3 ⊢
 refine ag (AV.mz g3) fun m c q2 e3 => ?_; obtain rfl := q2
 rw [e3] at g3 ⊢
 refine ba (RS.fX g3) fun g e4 => ?_
 refine aa e4 ?_
 have hat := ab.aw ho fun x => AO.noConfusion x
 refine wpAny_Delete (wpAny_deleteEach_cons ?_)
 rw [arm_delete_Subscript]
 refine wpAny_bind (wpAny_mono (h2 r ih A env W Z σ s P _ _ _ f1) (fun vx sb hb => ?_) fun _ _ x => x)
 refine af hb ?_; clear hb; intro W2 w2 T2 r2
 refine wpAny_bind (wpAny_holding (wpAny_mono (h3 r ih A env W2 _ _ sb (P.next T2) _ _ _ g1) (fun vy sc hc => ?_) fun _ _ x => x))
 refine af hc ?_; clear hc; intro W3 w3 T3 r3
 refine af (r3.str_inv) fun t q1 hc _ => ?_; refine aa q1 ?_
 induction r2 using RV.cg with
 | mk b eb =>
  have eb := w3.bu eb
  refine b8 (cY T3.1 hat eb) fun kvs ep' hd hep hn hb re => ?_
  refine wpAny_bind (wpAny_standAt (wpAny_bind (wpAny_holding (delItem_at (strKind_is D.prog D.w _ _) hd (by refine bw (iR hc re) ?_; exact g) (fun h' hd' hs' => ?_) (by refine aa sizeLine_eq ?_; lia)))))
  have fin : St C env W3 l2 (s2.put j (.dict (Nat.pred n) (EY ep) (AV.xu m c e))) { sc with heap := h', toks := sc.toks + 1 } := by
   refine ag (id hd') fun o2 es2 q2 _ => ?_
   refine T3.value (.refl _) (T3.1.fG (t := sc.toks + 1) eb (aL hs') ⟨_, q2⟩ ⟨_, _, hd', we hep, ?_, ?_, sH hc re⟩) (.of fun b ob hb e => aL hs' b ob (by rintro rfl; rw [eb] at hb; exact nomatch hb) e)
   ·refine a8 hd ?_; clear hd; intro o es _ _ _ _ _ d4
    refine aa (fQ d4 (by rw [<- iR hc re]; exact g)) ?_; refine aa hn ?_; rfl
   ·show n - 1 <= _; omega
  have rel : ∀ {vs : List Value} {Q : Unit -> Shared -> Prop} {s : Shared}, Q () s -> wpAny (model D.prog D.w) A (release vs []) Q No s := fun h => by
   first
    | exact wpAny_release h
    | exact wpAny_pure h
  exact rel (wpAny_deleteEach_nil ⟨rfl, W3, w2.trans w3, fin⟩)
end
section
open PySem PyProof.Rows
noncomputable def kB (elt : Expr) (gens : List Comprehension) (scope : Scope) (pos : Pos) (depth : Nat) (acc : Value) (env : Env) : Sem Unit :=
 match gens[depth + 1]? with
 | some g' => do
  let x <- eval g'.iter env
  standAt g'.iter.pos
  let x <- foldedSetIterable g'.iter env x
  let _ <- runOwn (.compStart (.ListComp elt gens scope pos) (depth + 1) (<- holding [x] (pyIter x)) acc env) env
 | none => do let _ <- call (.builtin "list.append") [acc, <- eval elt env]
theorem oO {elt : Expr} {gens : List Comprehension} {g : Comprehension} {scope : Scope} {pos : Pos} {depth : Nat} {it acc : Value} {env : Env} (hg : gens[depth]? = some g) (ha : g.is_async = 0) (ha' : ∀ g', gens[depth + 1]? = some g' -> g'.is_async = 0) :
  compTurn (.ListComp elt gens scope pos) depth it acc env = (standAt g.iter.pos >>= fun _ => pyNext it >>= fun r => match r with
   | none => pure (.done .next)
   | some v => letOwnedTupleGo g.target it v >>= fun _ => assign g.target env v >>= fun _ =>
    (forIn g.ifs true fun c ok => if ok = true then do let ok <- isTrue c env (eval c env); pure (ForInStep.yield ok) else pure (ForInStep.yield ok)) >>= fun ok =>
     if ok = true then kB elt gens scope pos depth acc env >>= fun _ => again (.compLoop (.ListComp elt gens scope pos) depth it acc env) else again (.compLoop (.ListComp elt gens scope pos) depth it acc env)) := by
 delta compTurn
 simp only [hg, ha]
 delta kB
 cases hn : gens[depth + 1]? with
 | none =>
  skip
  rfl
 | some g' =>
  simp only [bne_self_eq_false, Bool.false_eq_true, if_false, ha' g' hn, bind_assoc, pure_bind]
  rfl
end
section
open PySem PyProof.Rows
variable {C : Cx} {lv : Nat} {q : Bool}
noncomputable def Gh.leB (S : Addr -> Prop) (W W' : Gh) : Prop := ∀ b, ¬ S b -> W b ≠ .free -> W' b = W b
theorem Gh.le.leB {W W' : Gh} (h : W.le W') (S : Addr -> Prop) : Gh.leB S W W' := fun b _ hb => h b hb
theorem Gh.leB.trans {S T : Addr -> Prop} {W W' W'' : Gh} (h : Gh.leB S W W') (h' : Gh.leB T W' W'') (hT : ∀ b, T b -> S b \/ W b = .free) : Gh.leB S W W'' := fun b hS hb => by
 have e := h b hS hb
 refine aa (h' b (fun t => (hT b t).elim hS hb) (by rw [e]; exact hb)) ?_; exact aa e rfl
theorem Gh.leB.bM {S : Addr -> Prop} {W W' : Gh} (h : Gh.leB S W W') (hS : ∀ b, S b -> W b = .free \/ ∃ o, W b = .kept o) : W.bM W' := by
 have key : ∀ {b l}, W b = l -> l ≠ .free -> (∀ o, l ≠ .kept o) -> W' b = l := fun {b l} e h1 h2 => by
  rw [h b (fun s => ?_) (by rw [e]; exact h1), e]
  rcases hS b s with q | ⟨o, q⟩
  ·exact h1 (e.symm.trans q)
  ·exact h2 o (e.symm.trans q)
 exact ⟨fun e => key e (fun x => nomatch x) (fun _ x => nomatch x), fun e => key e (fun x => nomatch x) (fun _ x => nomatch x), fun e => key e (fun x => nomatch x) (fun _ x => nomatch x)⟩
theorem cZ.leB {S : Addr -> Prop} {W W' : Gh} {l : List Env} (x : cZ W l) (h : Gh.leB S W W') (hS : ∀ b, S b -> W b = .free \/ ∃ o fs n, W b = .kept o /\ (o.data = .seq fs n \/ o.data = .fields fs)) : cZ W' l := fun e he => by
 refine cj (x e he) fun k L f y => ?_
 refine ⟨k, L, f, ?_⟩
 have nS : ¬ S L := fun s => by
  rcases hS L s with q | ⟨o, fs, n, q, d⟩
  ·rcases y with y | ⟨o', y, _⟩ <;> rw [q] at y <;> cases y
  ·rcases y with y | ⟨o', y, z⟩
   ·rw [q] at y; exact nomatch y
   ·rw [q] at y; cases y
    rcases z with ⟨_, _, z⟩ | ⟨_, z⟩ <;> rcases d with d | d <;> rw [d] at z <;> cases z
 rcases y with y | ⟨o, y, z⟩
 ·exact .inl (by refine aa (h L nS (by rw [y]; exact fun x => nomatch x)) ?_; exact y)
 ·exact .inr ⟨o, by refine aa (h L nS (by rw [y]; exact fun x => nomatch x)) ?_; exact y, z⟩
noncomputable def AccAt (W : Gh) (a : Addr) (acc : AV) : Prop := ∃ items ep, W a = .kept (aV items ep) /\ RL W acc items.toList
noncomputable def AV.fc (v : AV) (k : AV -> AV -> RS) : RS := (AV.fB (β := RS) .fail (fun a t => k a t) v)
theorem AV.qV {v : AV} {k : AV -> AV -> RS} (h : v.fc k ≠ .fail) : ∃ a t, v = .cons a t /\ v.fc k = k a t := by
 induction v using AV.casesOn <;> first | exact absurd rfl h | exact ⟨_, _, rfl, rfl⟩
noncomputable abbrev TD := CH -> AV -> ab -> RS
noncomputable def gJ (asg : AV -> AV -> (AV -> RS) -> RS) : AV -> AV -> (AV -> RS) -> RS := fun p x k => p.fc fun acc Z => asg Z x fun Z => k (.cons acc Z)
noncomputable def lQ : AV -> ab -> RS := fun p σ => p.fc fun acc Z => .next (.cons acc Z) σ
noncomputable def EV (de : DE) : TD := fun ih p σ => p.fc fun acc Z => (de ih Z σ).aX fun y Z σ => RS.guard (fits (Nat.succ acc.len)) (.next (.cons (acc.app (.cons y .nil)) Z) σ)
noncomputable def Hn (dc : DE) (t : TD) : TD := fun ih p σ => p.fc fun acc Z => (dc ih Z σ).aX fun b Z σ => b.yE (t ih (.cons acc Z) σ) (.next (.cons acc Z) σ)
noncomputable def GX (f : AV -> ab -> RS) : Prop := ∀ acc Z σ, f (.cons acc Z) σ ≠ .fail -> ∃ acc' Z' σ', f (.cons acc Z) σ = .next (.cons acc' Z') σ'
structure qH (C : Cx) (lv : Nat) (elt : Expr) (gens : List Comprehension) (scope : Scope) (pos : Pos) (depth : Nat) (t : TD) : Prop where
 shp : ∀ ih, GX (t ih)
 run : ∀ r ih A env W Z acc σ s a acc' Z' σ', Pre C lv r ih A env W Z σ s -> AccAt W a acc -> t ih (.cons acc Z) σ = .next (.cons acc' Z') σ' ->
  wpAny (model D.prog D.w) A (kB elt gens scope pos depth (.ref a) env) (fun _ s' => ∃ W', Gh.leB (· = a) W W' /\ St C env W' Z' σ' s' /\ AccAt W' a acc') No s
structure lh (C : Cx) (lv : Nat) (elt : Expr) (gens : List Comprehension) (scope : Scope) (pos : Pos) (depth : Nat) (ifs : List Expr) (t : TD) : Prop where
 shp : ∀ ih, GX (t ih)
 run : ∀ r ih A env W Z acc σ s a acc' Z' σ', Pre C lv r ih A env W Z σ s -> AccAt W a acc -> t ih (.cons acc Z) σ = .next (.cons acc' Z') σ' -> ∀ (k : Sem Fin) (Q : Fin -> Shared -> Prop),
  (∀ s', (∃ W', Gh.leB (· = a) W W' /\ St C env W' Z' σ' s' /\ AccAt W' a acc') -> wpAny (model D.prog D.w) A k Q No s') ->
  wpAny (model D.prog D.w) A ((forIn ifs true fun c ok => if ok = true then do let ok <- isTrue c env (eval c env); pure (ForInStep.yield ok) else pure (ForInStep.yield ok)) >>= fun ok =>
     if ok = true then kB elt gens scope pos depth (.ref a) env >>= fun _ => k else k) Q No s
theorem AccAt.le {W W' : Gh} {a : Addr} {acc : AV} (h : AccAt W a acc) (w : W.le W') : AccAt W' a acc := let ⟨items, ep, e, r⟩ := h; ⟨items, ep, w.kept e, r.mono w.bM⟩
theorem gj {elt : Expr} {gens : List Comprehension} {scope : Scope} {pos : Pos} {depth : Nat} {t : TD} (h : qH C lv elt gens scope pos depth t) : lh C lv elt gens scope pos depth [] t where
 shp := h.shp
 run r ih A env W Z acc σ s a acc' Z' σ' P ha e k Q hk := by
  refine aa List.forIn_nil ?_
  refine wpAny_bind (wpAny_pure ?_)
  refine aa (if_pos rfl) ?_
  exact wpAny_bind (wpAny_mono (h.run r ih A env W Z acc σ s a acc' Z' σ' P ha e) (fun _ s' h' => hk s' h') fun _ _ x => x)
theorem vc {v : AV} {x y : RS} (h : v.yE x y ≠ .fail) : v.yE x y = x \/ v.yE x y = y := by
 induction v using AV.casesOn <;> first | exact absurd rfl h | skip
 rename_i b
 cases b
 ·exact .inr rfl
 ·exact .inl rfl
theorem jd {elt c : Expr} {gens : List Comprehension} {scope : Scope} {pos : Pos} {depth : Nat} {t : TD} {dc : DE} (hc : yH C lv c dc) (h : qH C lv elt gens scope pos depth t) : lh C lv elt gens scope pos depth [c] (Hn dc t) where
 shp ih acc Z σ hne := by
  have hne : ((dc ih Z σ).aX fun b Z σ => b.yE (t ih (.cons acc Z) σ) (.next (.cons acc Z) σ)) ≠ .fail := hne
  show ∃ acc' Z' σ', ((dc ih Z σ).aX fun b Z σ => b.yE (t ih (.cons acc Z) σ) (.next (.cons acc Z) σ)) = _
  refine du (fZ hne) fun v l1 s1 e1 e2 e3 => ?_
  refine aa e2 ?_
  rcases vc e3 with e | e
  ·rw [e] at e3 ⊢; exact h.shp ih acc l1 s1 e3
  ·refine aa e ?_; exact ⟨_, _, _, rfl⟩
 run r ih A env W Z acc σ s a acc' Z' σ' P ha e k Q hk := by
  have e : ((dc ih Z σ).aX fun b Z σ => b.yE (t ih (.cons acc Z) σ) (.next (.cons acc Z) σ)) = .next (.cons acc' Z') σ' := e
  refine du (fZ (by refine aa e ?_; exact fun x => RS.noConfusion x)) ?_; intro v l1 s1 e1 e2 e3
  rw [e2] at e
  rw [List.forIn_cons]; refine aa (if_pos rfl) ?_
  refine wpAny_bind (wpAny_bind (wpAny_bind (wpAny_mono (hc r ih A env W Z σ s P _ _ _ e1) (fun b s1' hb => ?_) fun _ _ x => x)))
  refine af hb ?_; clear hb; intro W1 w1 T1 q3; obtain rfl := q3
  refine wpAny_pure ?_
  show wpAny _ _ (forIn [] b _) _ _ _
  refine aa List.forIn_nil ?_
  refine wpAny_pure ?_
  rw [AV.oQ] at e
  induction b using Bool.casesOn with
  | true =>
   refine aa (if_pos rfl) ?_
   refine wpAny_bind (wpAny_mono (h.run r ih A env W1 l1 acc s1 s1' a acc' Z' σ' (P.next T1) (ha.le w1) e) (fun _ s' h' => ?_) fun _ _ x => x)
   refine af h' ?_; clear h'; intro W2 w2 T2 a2
   exact hk s' ⟨W2, (w1.leB _).trans w2 fun b hb => .inl hb, T2, a2⟩
  | false =>
   refine aa (if_neg (fun x => Bool.noConfusion x)) ?_
   cases e
   exact hk s1' ⟨W1, w1.leB _, T1, ha.le w1⟩
end
section
open PySem PyProof.Rows
variable {C : Cx} {lv : Nat} {q : Bool}
theorem Pre.move {r : Nat} {ih : CH} {A : Around} {env : Env} {W W' : Gh} {Z Z' : AV} {σ σ' : ab} {s s' : Shared} (P : Pre C lv r ih A env W Z σ s) (h : St C env W' Z' σ' s') (w : ∀ l, cZ W l -> cZ W' l) : Pre C lv r ih A env W' Z' σ' s' :=
 ⟨P.lv1, P.ok, P.room, P.hn, let ⟨f, l, a, b, c⟩ := P.frs; ⟨f, l, a, w _ b, c⟩, h⟩
theorem AccAt.leB {S : Addr -> Prop} {W W' : Gh} {a : Addr} {acc : AV} (x : AccAt W a acc) (h : Gh.leB S W W') (ha : ¬ S a) (l : W.bM W') : AccAt W' a acc :=
 let ⟨items, ep, e, r⟩ := x; ⟨items, ep, by refine aa (h a ha (by rw [e]; exact fun x => nomatch x)) ?_; exact e, r.mono l⟩
theorem Gh.nG (W : Gh) (a : Addr) (l : cn) : Gh.leB (· = a) W (W.set a l) := fun b hb _ => Gh.aD W l hb
theorem ui {elt : Expr} {gens : List Comprehension} {g : Comprehension} {scope : Scope} {pos : Pos} {depth : Nat} {asg : AV -> AV -> (AV -> RS) -> RS} {t : TD} (hq : C.q = true) (hg : gens[depth]? = some g) (hga : g.is_async = 0) (hga' : ∀ g', gens[depth + 1]? = some g' -> g'.is_async = 0)
  (hasg : oY C g.target asg) (ht : lh C lv elt gens scope pos depth g.ifs t) : ∀ n j r ih A env W Z acc σ s a v x it o acc' Z' σ', Pre C lv r ih A env W Z σ s -> AccAt W a acc -> pQ W v x -> W it = .kept o -> fh v x o j -> it ≠ a ->
  hE v (gJ asg) (t ih) lQ n j (.cons acc Z) σ = .next (.cons acc' Z') σ' ->
  codeAny (model D.prog D.w) A (.compLoop (.ListComp elt gens scope pos) depth (.ref it) (.ref a) env) (fun r s' => r = .ok .next /\ ∃ W', Gh.leB (fun b => b = a \/ b = it) W W' /\ St C env W' Z' σ' s' /\ AccAt W' a acc') s := by
 intro n
 induction n with
 | zero => intro j r ih A env W Z acc σ s a v x it o acc' Z' σ' P ha rx hw hi hne h; exact RS.noConfusion h
 | succ n IH =>
 intro j r ih A env W Z acc σ s a v x it o acc' Z' σ' P ha rx hw hi hia h
 rw [mR] at h
 have hh := P.hn hq
 have hne : v.walk σ j (fun x => gJ asg (.cons acc Z) x fun Z => (t ih Z σ).turn (hE v (gJ asg) (t ih) lQ n (j + 1))) (lQ (.cons acc Z) σ) ≠ .fail := by refine aa h ?_; exact fun x => RS.noConfusion x
 refine aN (hi.cls) fun vg fs0 _ d0 _ => ?_
 have hc0 : ∀ ov, o.data ≠ .cell ov := fun ov q => by rw [d0] at q; cases q
 refine ae (P.st.1.kept _ _ hw) fun o2 ho sm => ?_
 obtain rfl := sm.wK d0
 refine codeAny_of_tree ?_
 refine aa (Around.under_of_weight rfl) ?_
 show wpAny _ _ ((compTurn (.ListComp elt gens scope pos) depth (.ref it) (.ref a) env).onRaise (fun x => do noteFrame x env; theTreesLotGoes x)) _ _ s
 refine wpAny_noted ?_
 refine aa (oO hg hga hga') ?_
 refine wpAny_bind (wpAny_standAt (wpAny_bind ?_))
 have aNe : W a ≠ .free := by refine ag ha ?_; clear ha; intro items ep e _; refine aa e ?_; exact fun x => nomatch x
 refine uy P.st.1 hh rx ho hi hw hne (fun y z o1 h' tk hk ry ho1 hi1 hs1 => ?_) (fun hk h' hs1 => ?_)
 ·rw [hk] at h hne
  have h : (asg Z y fun Z => (t ih (.cons acc Z) σ).turn (hE v (gJ asg) (t ih) lQ n (j + 1))) = .next (.cons acc' Z') σ' := h
  have T3 := P.st.relabel (t := tk) hw hc0 (.inr ⟨o1, rfl, ho1⟩) hs1
  refine ae (hasg Z y _ (by refine aa h ?_; exact fun x => RS.noConfusion x)) ?_; intro Z2 ea wa
  rw [ea] at h
  refine aN (hi1.cls) fun nm fs c1 d1 c2 => ?_
  refine wpAny_bind (fI ho1 c1 d1 c2 ?_)
  refine wpAny_bind (wpAny_mono (wa A env _ σ _ z P.op P.hn T3 (ry.mono (Gh.d6 hw))) (fun _ sb hb => ?_) fun _ _ x => x.elim)
  refine ae hb ?_; clear hb; intro W4 w4 T4
  have hb1 : t ih (.cons acc Z2) σ ≠ .fail := fun q => by rw [q] at h; exact RS.noConfusion h
  refine yl (ht.shp ih acc Z2 σ hb1) fun acc2 Z3 σ3 e2 => ?_
  rw [e2] at h
  have h : hE v (gJ asg) (t ih) lQ n (j + 1) (.cons acc2 Z3) σ3 = .next (.cons acc' Z') σ' := h
  have b4 : Gh.leB (· = it) W W4 := (Gh.nG W it (.kept o1)).trans (w4.leB (· = it)) fun b hb => .inl hb
  have lev4 : W.bM W4 := b4.bM fun b hb => .inr ⟨_, (congrArg W hb).trans hw⟩
  have P4 : Pre C lv r ih A env W4 Z2 σ sb := P.move T4 fun l x => x.leB b4 fun b hb => .inr ⟨_, fs0, 0, (congrArg W hb).trans hw, .inr d0⟩
  have ha4 := ha.leB b4 (fun q => hia q.symm) lev4
  have k4 : W4 it = .kept o1 := w4.kept (Gh.aq ..)
  refine wpAny_mono (ht.run r ih A env W4 Z2 acc σ sb a acc2 Z3 σ3 P4 ha4 e2 _ _ fun s5 h5 => wpAny_pure ⟨rfl, ?_⟩) (fun _ _ x => x) fun _ _ x => x.elim
  refine af h5 ?_; clear h5; intro W5 b5 T5 a5
  refine ag ha4 ?_; clear ha4; intro it4 ep4 e4 _
  have lev5 : W4.bM W5 := b5.bM fun b hb => .inr ⟨_, (congrArg W4 hb).trans e4⟩
  have P5 : Pre C lv r ih A env W5 Z3 σ3 s5 := P4.move T5 fun l x => x.leB b5 fun b hb => .inr ⟨_, it4, ep4, (congrArg W4 hb).trans e4, .inl rfl⟩
  have k5 : W5 it = .kept o1 := by refine aa (b5 it hia (by rw [k4]; exact fun x => nomatch x)) ?_; exact k4
  refine codeAny_mono (IH (j + 1) r ih A env W5 Z3 acc2 σ3 s5 a v x it o1 acc' Z' σ' P5 a5 ((rx.mono lev4).mono lev5) k5 hi1 hia h) (fun rr s6 h6 => ?_)
  refine qJ h6 ?_; clear h6; intro q0 W6 b6 T6 a6; obtain rfl := q0
  refine ⟨rfl, W6, fun b hb hf => ?_, T6, a6⟩
  rw [not_or] at hb
  have q4 := b4 b hb.2 hf
  have q5 := b5 b hb.1 (by refine aa q4 ?_; exact hf)
  refine aa (b6 b (by rw [not_or]; exact hb) (by rw [q5, q4]; exact hf)) ?_; refine aa q5 ?_; exact aa q4 rfl
 ·rw [hk] at h
  have h : RS.next (.cons acc Z) σ = .next (.cons acc' Z') σ' := h
  cases h
  have T3 := P.st.relabel (l := .free) (t := s.toks) hw hc0 (.inl rfl) hs1
  have b4 := Gh.nG W it .free
  have lev4 : W.bM (W.set it .free) := b4.bM fun b hb => .inr ⟨_, (congrArg W hb).trans hw⟩
  exact wpAny_pure ⟨rfl, W.set it .free, fun b hb hf => b4 b (fun q => hb (.inr q)) hf, T3, ha.leB b4 (fun q => hia q.symm) lev4⟩
theorem rJ {elt : Expr} {gens : List Comprehension} {g : Comprehension} {scope : Scope} {pos : Pos} {depth : Nat} {asg : AV -> AV -> (AV -> RS) -> RS} {t : TD} (hq : C.q = true) (hg : gens[depth]? = some g) (hga : g.is_async = 0) (hga' : ∀ g', gens[depth + 1]? = some g' -> g'.is_async = 0)
  (hasg : oY C g.target asg) (ht : lh C lv elt gens scope pos depth g.ifs t) {n r : Nat} {ih : CH} {A : Around} {env : Env} {W : Gh} {Z acc : AV} {σ : ab} {s : Shared} {a : Addr} {v : AV} {x : Value} {it : Addr} {o : Obj} {acc' Z' : AV} {σ' : ab} (P : Pre C lv r ih A env W Z σ s) (ha : AccAt W a acc)
  (rx : pQ W v x) (hw : W it = .kept o) (hi : fh v x o 0) (hia : it ≠ a) (h : hE v (gJ asg) (t ih) lQ n 0 (.cons acc Z) σ = .next (.cons acc' Z') σ') :
  codeAny (model D.prog D.w) A (.compStart (.ListComp elt gens scope pos) depth (.ref it) (.ref a) env) (fun r s' => r = .ok .next /\ ∃ W', Gh.leB (fun b => b = a \/ b = it) W W' /\ St C env W' Z' σ' s' /\ AccAt W' a acc') s := by
 have loop := ui hq hg hga hga' hasg ht n 0 r ih A env W Z acc σ s a v x it o acc' Z' σ' P ha rx hw hi hia h
 refine aN (hi.cls) fun vg fs0 _ d0 _ => ?_
 refine ae (P.st.1.kept _ _ hw) fun o2 ho sm => ?_
 obtain rfl := sm.wK d0
 have nx : ∀ {n : String}, jo n = true -> n = "list_iterator" \/ n = "tuple_iterator" \/ n = "range_iterator" \/ n = "dict_valueiterator" \/ n = "dict_keyiterator" := fun h => by simpa [jo] using h
 have self : ∀ {Q : Value -> Shared -> Prop}, Q (.ref it) s -> wpAny (model D.prog D.w) A (pyIter (.ref it)) Q No s := fun {Q} hq => by
  refine aN (hi.Ay) fun n fs hc hd hn => ?_
  have hT : s.TypeIs (.ref it) n := ⟨_, ho, hc⟩
  rcases nx hn with rfl | rfl | rfl | rfl | rfl
  ·refine wpAny_pyIter_slot hT slot_listiter_iter (wpAny_call_entry slot_listiter_iter hT entry_listiter_iter ?_ (args_listiter_iter _))
   skip
   exact wpAny_pure ⟨_, rfl, "list_iterator", _, hT, slot_listiter_next.lookup, hq⟩
  ·refine wpAny_pyIter_slot hT F.slot_tuple_iterator_iter (wpAny_call_entry F.slot_tuple_iterator_iter hT F.entry_tuple_iterator_iter ?_ (F.args_tuple_iterator_iter_1 _))
   skip
   exact wpAny_pure ⟨_, rfl, "tuple_iterator", _, hT, F.slot_tuple_iterator_next.lookup, hq⟩
  ·refine wpAny_pyIter_slot hT F.slot_range_iterator_iter (wpAny_call_entry F.slot_range_iterator_iter hT F.entry_range_iterator_iter ?_ (F.args_range_iterator_iter_1 _))
   skip
   exact wpAny_pure ⟨_, rfl, "range_iterator", _, hT, F.slot_range_iterator_next.lookup, hq⟩
  ·refine wpAny_pyIter_slot hT F.slot_dict_valueiterator_iter (wpAny_call_entry F.slot_dict_valueiterator_iter hT entry_dict_valueiterator_iter ?_ (F.args_dict_valueiterator_iter_1 _))
   show wpAny _ _ (ret (.ref it)) _ _ s
   exact wpAny_pure ⟨_, rfl, "dict_valueiterator", _, hT, F.slot_dict_valueiterator_next.lookup, hq⟩
  ·refine wpAny_pyIter_slot hT F.slot_dict_keyiterator_iter (wpAny_call_entry F.slot_dict_keyiterator_iter hT F.entry_dict_keyiterator_iter ?_ (F.args_dict_keyiterator_iter_1 _))
   show wpAny _ _ (ret (.ref it)) _ _ s
   exact wpAny_pure ⟨_, rfl, "dict_keyiterator", _, hT, F.slot_dict_keyiterator_next.lookup, hq⟩
 refine codeAny_of_tree ?_
 refine aa (Around.under_of_weight rfl) ?_
 show wpAny _ _ ((compStart (.ListComp elt gens scope pos) depth (.ref it) (.ref a) env).onRaise (fun x => do noteFrame x env; standAt theWindowsPlace)) _ _ s
 refine wpAny_notedAt ?_
 unfold compStart
 have hcl : ((clausesOf (.ListComp elt gens scope pos))[depth]?).elim false (·.is_async != 0) = false := by
  show (gens[depth]?).elim false (·.is_async != 0) = false
  refine aa hg ?_
  show (g.is_async != 0) = false
  refine aa hga ?_; rfl
 refine aa hcl ?_
 show wpAny _ _ (ask >>= _) _ _ s
 refine wpAny_bind (wpAny_askSetting (wpAny_ite ?_))
 split
 ·first
   | exact wpAny_bind (wpAny_pure (wpAny_pure (And.intro rfl loop)))
   | exact wpAny_pure (And.intro rfl loop)
 ·refine wpAny_bind (wpAny_rule ?_)
  have hg2 : (clausesOf (.ListComp elt gens scope pos))[depth]? = some g := hg
  simp only [hg2]
  exact wpAny_bind (wpAny_standAt (wpAny_bind (wpAny_mono (self (Q := fun y s' => y = .ref it /\ s' = s) ⟨rfl, rfl⟩) (fun y s' hy => by refine ba hy ?_; clear hy; intro q0 q1; obtain rfl := q0; refine aa q1 ?_; exact wpAny_pure (And.intro rfl loop)) fun _ _ x => x.elim)))
end
section
open PySem PyProof.Rows
variable {C : Cx} {lv : Nat} {q : Bool}
theorem lL.E1 {o o' : Obj} (h : lL o o') {fs : Array Value} {n : Nat} (k : o.data = .seq fs n) : o' = o := by
 rcases h with rfl | ⟨⟨_, _, q⟩ | ⟨_, q⟩, _⟩
 ·rfl
 ·rw [k] at q; cases q
 ·rw [k] at q; cases q
theorem AccAt.get {W : Gh} {σ : ab} {s : Shared} {a : Addr} {acc : AV} (h : AccAt W a acc) (I : Inv W σ s) : ∃ items ep, W a = .kept (aV items ep) /\ s.heap.get? a = some (aV items ep) /\ RL W acc items.toList := by
 refine ag h ?_; clear h; intro items ep e r
 refine ae (I.kept _ _ e) fun o ho sm => ?_
 obtain rfl := sm.E1 rfl
 exact ⟨items, ep, e, ho, r⟩
theorem cw {elt : Expr} {gens : List Comprehension} {scope : Scope} {pos : Pos} {depth : Nat} {de : DE} (hn : gens[depth + 1]? = none) (he : aS C lv elt de) : qH C lv elt gens scope pos depth (EV de) where
 shp ih acc Z σ hne := by
  have hne : ((de ih Z σ).aX fun y Z σ => RS.guard (fits (Nat.succ acc.len)) (.next (.cons (acc.app (.cons y .nil)) Z) σ)) ≠ .fail := hne
  show ∃ acc' Z' σ', ((de ih Z σ).aX fun y Z σ => RS.guard (fits (Nat.succ acc.len)) (.next (.cons (acc.app (.cons y .nil)) Z) σ)) = _
  refine du (fZ hne) fun v l1 s1 e1 e2 e3 => ?_
  refine aa e2 ?_
  refine ba (RS.fX e3) fun _ e4 => ?_
  refine aa e4 ?_; exact ⟨_, _, _, rfl⟩
 run r ih A env W Z acc σ s a acc' Z' σ' P ha e := by
  have e : ((de ih Z σ).aX fun y Z σ => RS.guard (fits (Nat.succ acc.len)) (.next (.cons (acc.app (.cons y .nil)) Z) σ)) = .next (.cons acc' Z') σ' := e
  refine du (fZ (by refine aa e ?_; exact fun x => RS.noConfusion x)) ?_; intro v l1 s1 e1 e2 e3
  rw [e2] at e
  refine ba (RS.fX e3) fun g e4 => ?_
  rw [e4] at e
  cases e
  have g := bO g
  unfold kB
  refine aa hn ?_
  refine wpAny_bind (wpAny_mono (he r ih A env W Z σ s P _ _ _ e1) (fun y sa hy => ?_) fun _ _ x => x)
  refine af hy ?_; clear hy; intro W1 w1 T1 r1
  refine aN ((ha.le w1).get T1.1) fun items ep k1 k2 k3 => ?_
  have hl := k3.len
  refine wpAny_bind (wpAny_list_append_plain ⟨ep, k2⟩ (fun h' hp hs => ?_) (by refine aa sizeLine_eq ?_; rw [Array.length_toList] at hl; show items.size <= _; refine bw hl ?_; lia))
  refine bI hp ?_; clear hp; intro ep' e5
  have T2 := T1.relabel (l := .kept (aV (items.push y) ep')) (t := sa.toks) k1 (fun ov q => nomatch q) (.inr ⟨_, rfl, e5⟩) (aL hs)
  refine wpAny_pure ⟨_, (w1.leB _).trans (Gh.nG W1 a (.kept (aV (items.push y) ep'))) (fun b hb => .inl hb), T2, items.push y, ep', Gh.aq .., ?_⟩
  refine aa Array.toList_push ?_
  exact RL.app (.cons _ _ _ _ (r1.mono (Gh.d6 k1)) .nil) (k3.mono (Gh.d6 k1))
end
section
open PySem PyProof.Rows
variable {C : Cx} {lv : Nat} {q : Bool}
noncomputable def nc (osc scope : Scope) : Scope :=
 { scope with names := scope.names.map fun (n, k) => if (k == .free && osc.kind == .function && osc.names.lookup n == some .cell) then (n, .cell) else (n, k) }
theorem ri {scope osc : Scope} {env : Env} (h : env.scope = osc) : relabel scope env = nc osc scope := by subst h; rfl
inductive dJ (C : Cx) : List (Str × NameKind) -> List (Str × Kd) -> (AV -> AV) -> Prop
 | nil : dJ C [] [] fun _ => .nil
 | loc {x : Str} {r : List (Str × NameKind)} {ns : List (Str × Kd)} {mk : AV -> AV} : dJ C r ns mk -> dJ C ((x, .local) :: r) ((x, .loc) :: ns) fun Z => .cons .undef (mk Z)
 | cel {x : Str} {r : List (Str × NameKind)} {ns : List (Str × Kd)} {mk : AV -> AV} : dJ C r ns mk -> dJ C ((x, .cell) :: r) ((x, .cel) :: ns) fun Z => .cons .undef (mk Z)
 | cap {x : Str} {i : Nat} {k : Kd} {r : List (Str × NameKind)} {ns : List (Str × Kd)} {mk : AV -> AV} : ar C.ns i x k -> k ≠ .loc -> (x == ("__classdict__" : Str)) = false -> dJ C r ns mk -> dJ C ((x, .free) :: r) ((x, .cap) :: ns) fun Z => .cons (Z.bB i) (mk Z)
 | skip {x : Str} {k : NameKind} {r : List (Str × NameKind)} {ns : List (Str × Kd)} {mk : AV -> AV} : k ≠ .local -> k ≠ .cell -> k ≠ .free -> dJ C r ns mk -> dJ C ((x, k) :: r) ns mk
theorem dJ.at {names : List (Str × NameKind)} {ns : List (Str × Kd)} {mk : AV -> AV} (h : dJ C names ns mk) : ∀ i x k, ns[i]? = some (x, k) ->
  (k = .loc /\ (x, NameKind.local) ∈ names /\ ∀ Z, (mk Z).bB i = .undef) \/ (k = .cel /\ (x, NameKind.cell) ∈ names /\ ∀ Z, (mk Z).bB i = .undef) \/
  (k = .cap /\ (x, NameKind.free) ∈ names /\ (x == ("__classdict__" : Str)) = false /\ ∃ j k', ar C.ns j x k' /\ k' ≠ .loc /\ ∀ Z, (mk Z).bB i = Z.bB j) := by
 induction h with
 | nil => intro i x k h; cases h
 | loc _ ih =>
  intro i x k h
  induction i using Nat.casesOn with
  | zero => cases h; exact .inl ⟨rfl, .head _, fun _ => rfl⟩
  | succ i =>
   rcases ih i x k h with ⟨a, b, c⟩ | ⟨a, b, c⟩ | ⟨a, b, cd, j, k', c, d, e⟩
   ·exact .inl ⟨a, .tail _ b, c⟩
   ·exact .inr (.inl ⟨a, .tail _ b, c⟩)
   ·exact .inr (.inr ⟨a, .tail _ b, cd, j, k', c, d, e⟩)
 | cel _ ih =>
  intro i x k h
  induction i using Nat.casesOn with
  | zero => cases h; exact .inr (.inl ⟨rfl, .head _, fun _ => rfl⟩)
  | succ i =>
   rcases ih i x k h with ⟨a, b, c⟩ | ⟨a, b, c⟩ | ⟨a, b, cd, j, k', c, d, e⟩
   ·exact .inl ⟨a, .tail _ b, c⟩
   ·exact .inr (.inl ⟨a, .tail _ b, c⟩)
   ·exact .inr (.inr ⟨a, .tail _ b, cd, j, k', c, d, e⟩)
 | cap hx hk hcd _ ih =>
  intro i x k h
  induction i using Nat.casesOn with
  | zero => cases h; exact .inr (.inr ⟨rfl, .head _, hcd, _, _, hx, hk, fun _ => rfl⟩)
  | succ i =>
   rcases ih i x k h with ⟨a, b, c⟩ | ⟨a, b, c⟩ | ⟨a, b, cd, j, k', c, d, e⟩
   ·exact .inl ⟨a, .tail _ b, c⟩
   ·exact .inr (.inl ⟨a, .tail _ b, c⟩)
   ·exact .inr (.inr ⟨a, .tail _ b, cd, j, k', c, d, e⟩)
 | skip _ _ _ _ ih =>
  intro i x k h
  rcases ih i x k h with ⟨a, b, c⟩ | ⟨a, b, c⟩ | ⟨a, b, cd, j, k', c, d, e⟩
  ·exact .inl ⟨a, .tail _ b, c⟩
  ·exact .inr (.inl ⟨a, .tail _ b, c⟩)
  ·exact .inr (.inr ⟨a, .tail _ b, cd, j, k', c, d, e⟩)
theorem dJ.free {names : List (Str × NameKind)} {ns : List (Str × Kd)} {mk : AV -> AV} (h : dJ C names ns mk) : ∀ x, (x, NameKind.free) ∈ names -> ∃ j k', ar C.ns j x k' /\ k' ≠ .loc := by
 induction h with
 | nil => intro x h; cases h
 | loc _ ih => intro x h; rcases List.mem_cons.mp h with h | h; cases h; exact ih x h
 | cel _ ih => intro x h; rcases List.mem_cons.mp h with h | h; cases h; exact ih x h
 | cap hx hk _ _ ih =>
  intro x h
  refine Or.elim (List.mem_cons.mp h) (fun h => ?_) fun h => ?_
  ·cases h; exact ⟨_, _, hx, hk⟩
  ·exact ih x h
 | skip _ _ h3 _ ih =>
  intro x h
  refine Or.elim (List.mem_cons.mp h) (fun h => ?_) fun h => ?_
  ·cases h; exact absurd rfl h3
  ·exact ih x h
theorem dJ.names {names : List (Str × NameKind)} {ns : List (Str × Kd)} {mk : AV -> AV} (h : dJ C names ns mk) : ∀ x ∈ ns.map (·.1), x ∈ names.map (·.1) := by
 induction h with
 | nil => intro x h; exact h
 | loc _ ih => intro x h; rcases List.mem_cons.mp h with h | h; (refine aa h ?_; exact List.mem_cons_self); exact List.mem_cons_of_mem _ (ih x h)
 | cel _ ih => intro x h; rcases List.mem_cons.mp h with h | h; (refine aa h ?_; exact List.mem_cons_self); exact List.mem_cons_of_mem _ (ih x h)
 | cap _ _ _ _ ih => intro x h; rcases List.mem_cons.mp h with h | h; (refine aa h ?_; exact List.mem_cons_self); exact List.mem_cons_of_mem _ (ih x h)
 | skip _ _ _ _ ih => intro x h; exact List.mem_cons_of_mem _ (ih x h)
theorem dJ.nodup {names : List (Str × NameKind)} {ns : List (Str × Kd)} {mk : AV -> AV} (h : dJ C names ns mk) : (names.map (·.1)).Nodup -> (ns.map (·.1)).Nodup := by
 induction h with
 | nil => exact fun h => h
 | loc h ih => intro hn; rw [List.map_cons, List.nodup_cons] at hn ⊢; exact ⟨fun q => hn.1 (h.names _ q), ih hn.2⟩
 | cel h ih => intro hn; rw [List.map_cons, List.nodup_cons] at hn ⊢; exact ⟨fun q => hn.1 (h.names _ q), ih hn.2⟩
 | cap _ _ _ h ih => intro hn; rw [List.map_cons, List.nodup_cons] at hn ⊢; exact ⟨fun q => hn.1 (h.names _ q), ih hn.2⟩
 | skip _ _ _ h ih => intro hn; rw [List.map_cons, List.nodup_cons] at hn; exact ih hn.2
theorem bq {β : Type} : ∀ {l : List (Str × β)} {x : Str} {k : β}, (l.map (·.1)).Nodup -> (x, k) ∈ l -> l.lookup x = some k
 | (y, k') :: r, x, k, hn, h => by
  rw [List.map_cons, List.nodup_cons] at hn
  rw [List.lookup_cons]
  rcases List.mem_cons.mp h with h | h
  ·cases h; simp
  ·have : x ≠ y := fun e => hn.1 (e ▸ List.mem_map.mpr ⟨(x, k), h, rfl⟩)
   refine aa (beq_eq_false_iff_ne.mpr this) ?_
   exact bq hn.2 h
theorem rN {osc scope : Scope} : (nc osc scope).names.map (·.1) = scope.names.map (·.1) := by
 unfold nc
 refine aa List.map_map ?_
 apply List.map_congr_left
 rintro ⟨n, k⟩ _
 show (if _ then (n, NameKind.cell) else (n, k)).1 = n
 split <;> rfl
theorem kL {osc scope : Scope} {x : Str} {k : NameKind} (h : (x, k) ∈ scope.names) : (k ≠ .free -> (x, k) ∈ (nc osc scope).names) /\ (k = .free -> (x, NameKind.cell) ∈ (nc osc scope).names \/ (x, NameKind.free) ∈ (nc osc scope).names) := by
 have hm : (if (k == .free && osc.kind == .function && osc.names.lookup x == some .cell) then (x, NameKind.cell) else (x, k)) ∈ (nc osc scope).names := List.mem_map.mpr ⟨(x, k), h, rfl⟩
 constructor
 ·intro hk
  have : (k == NameKind.free) = false := beq_eq_false_iff_ne.mpr hk
  rw [this] at hm; simpa using hm
 ·rintro rfl
  split at hm
  ·exact .inl hm
  ·exact .inr hm
theorem gQ {env : Env} (hap : ∀ x y c, env.cells.lookup x = some c -> env.cells.lookup y = some c -> x = y) : ∀ (names : List (Str × NameKind)) (acc : List (Str × Addr)), (∀ x, (x, NameKind.free) ∈ names -> (env.cells.lookup x).isSome = true) -> (∀ x c, (x, c) ∈ acc -> env.cells.lookup x = some c) ->
  (names.map (·.1)).Nodup -> acc.Pairwise (fun x y => x.2 ≠ y.2) -> (∀ x c, (x, c) ∈ acc -> x ∉ names.map (·.1)) ->
  ∃ cl, (forIn names acc (fun (x : Str × NameKind) cs => if x.2 == .free then do let c <- cellOf env x.1; pure (ForInStep.yield ((x.1, c) :: cs)) else pure (ForInStep.yield cs)) : Sem (List (Str × Addr))) = pure cl /\
   (∀ x c, (x, c) ∈ cl -> env.cells.lookup x = some c /\ ((x, c) ∈ acc \/ (x, NameKind.free) ∈ names)) /\ (∀ x, (x, NameKind.free) ∈ names -> ∃ c, (x, c) ∈ cl) /\ (∀ x c, (x, c) ∈ acc -> (x, c) ∈ cl) /\ cl.Pairwise (fun x y => x.2 ≠ y.2)
 | [], acc, _, h2, _, hp, _ => ⟨acc, by rw [List.forIn_nil], fun x c h => ⟨h2 x c h, .inl h⟩, (fun x h => nomatch h), (fun x c h => h), hp⟩
 | (y, k) :: r, acc, h1, h2, hn, hp, hd => by
  rw [List.forIn_cons]
  rw [List.map_cons, List.nodup_cons] at hn
  have hd' : ∀ x c, (x, c) ∈ acc -> x ∉ r.map (·.1) := fun x c h q => hd x c h (List.mem_cons_of_mem _ q)
  by_cases hk : k = .free
  ·subst hk
   refine bI (Option.isSome_iff_exists.mp (h1 y List.mem_cons_self)) fun c hc => ?_
   obtain ⟨cl, e, f1, f2, f3, f4⟩ := gQ hap r ((y, c) :: acc) (fun x h => h1 x (List.mem_cons_of_mem _ h)) (fun x c' h => by
    rcases List.mem_cons.mp h with h | h
    ·cases h; exact hc
    ·exact h2 x c' h) hn.2 (List.pairwise_cons.mpr ⟨fun z hz q => by
    have e1 := h2 z.1 z.2 hz
    rw [<- q] at e1
    have e2 := hap _ _ _ hc e1
    exact hd z.1 z.2 hz (e2 ▸ List.mem_cons_self), hp⟩) (fun x c' h => by
    rcases List.mem_cons.mp h with h | h
    ·cases h; exact hn.1
    ·exact hd' x c' h)
   refine ⟨cl, ?_, fun x c' h => ?_, fun x h => ?_, fun x c' h => f3 x c' (List.mem_cons_of_mem _ h), f4⟩
   ·have e1 : cellOf env y = pure c := by unfold cellOf; exact aa hc rfl
    show ((if (NameKind.free == NameKind.free) = true then do let c <- cellOf env y; pure (ForInStep.yield ((y, c) :: acc)) else pure (ForInStep.yield acc)) >>= _) = _
    refine aa (if_pos (by decide)) ?_; rw [e1, pure_bind, pure_bind]
    exact e
   ·refine ba (f1 x c' h) fun a b => ?_
    refine ⟨a, ?_⟩
    rcases b with b | b
    ·rcases List.mem_cons.mp b with b | b
     ·cases b; exact .inr (.head _)
     ·exact .inl b
    ·exact .inr (.tail _ b)
   ·refine Or.elim (List.mem_cons.mp h) (fun h => ?_) fun h => ?_
    ·cases h; exact ⟨c, f3 _ _ (.head _)⟩
    ·exact f2 x h
  ·refine j7 (gQ hap r acc (fun x h => h1 x (List.mem_cons_of_mem _ h)) h2 hn.2 hp hd') fun cl e f1 f2 f3 f4 => ?_
   refine ⟨cl, ?_, fun x c' h => ?_, fun x h => ?_, f3, f4⟩
   ·skip
    refine aa (if_neg (by rw [beq_eq_false_iff_ne.mpr hk]; exact Bool.false_ne_true)) ?_; rw [pure_bind]
    exact e
   ·refine ba (f1 x c' h) fun a b => ?_
    exact ⟨a, b.imp id fun b => .tail _ b⟩
   ·refine Or.elim (List.mem_cons.mp h) (fun h => ?_) fun h => ?_
    ·cases h; exact absurd rfl hk
    ·exact f2 x h
theorem gz {scope : Scope} {env : Env} (hap : ∀ x y c, env.cells.lookup x = some c -> env.cells.lookup y = some c -> x = y) (d4 : (scope.names.map (·.1)).Nodup) (h1 : ∀ x, (x, NameKind.free) ∈ scope.names -> (env.cells.lookup x).isSome = true) :
  ∃ cl, closureFor scope env = pure cl /\ (∀ x c, (x, c) ∈ cl -> env.cells.lookup x = some c /\ (x, NameKind.free) ∈ scope.names) /\ (∀ x, (x, NameKind.free) ∈ scope.names -> ∃ c, (x, c) ∈ cl) /\ cl.Pairwise (fun x y => x.2 ≠ y.2) := by
 refine j7 (gQ hap scope.names [] h1 (fun x c h => nomatch h) d4 .nil (fun x c h => nomatch h)) fun cl e f1 f2 _ f4 => ?_
 refine ⟨cl, ?_, fun x c h => let ⟨a, b⟩ := f1 x c h; ⟨a, b.resolve_left fun q => nomatch q⟩, f2, f4⟩
 unfold closureFor
 refine bw e ?_
 simp only [bind_pure]
theorem kN : ∀ (names : List (Str × NameKind)) (h : Heap) (acc : List (Str × Addr)), (∀ x c, (x, c) ∈ acc -> c < h.objs.size) -> acc.Pairwise (fun x y => x.2 ≠ y.2) ->
  (∀ x c, (x, c) ∈ cellsFrom h.objs.size names acc -> (x, c) ∈ acc \/ (h.objs.size <= c /\ (pushCells h names).IsCell c none /\ (x, NameKind.cell) ∈ names)) /\ (∀ x c, (x, c) ∈ acc -> (x, c) ∈ cellsFrom h.objs.size names acc) /\
  (cellsFrom h.objs.size names acc).Pairwise (fun x y => x.2 ≠ y.2) /\ ∀ x, (x, NameKind.cell) ∈ names -> ∃ c, (x, c) ∈ cellsFrom h.objs.size names acc /\ h.objs.size <= c
 | [], h, acc, h1, h2 => ⟨fun x c h => .inl h, fun x c h => h, h2, fun x h => nomatch h⟩
 | (y, k) :: r, h, acc, h1, h2 => by
  unfold cellsFrom pushCells
  by_cases hk : k = .cell
  ·subst hk
   rw [if_pos (by decide), if_pos (by decide)]
   have sz : (h.push { cls := .type "cell", data := .cell none }).objs.size = h.objs.size + 1 := Heap.size_push ..
   have ih := kN r (h.push { cls := .type "cell", data := .cell none }) ((y, h.objs.size) :: acc) (fun x c hc => by
    refine aa sz ?_
    rcases List.mem_cons.mp hc with hc | hc
    ·cases hc; exact Nat.lt_succ_self _
    ·exact Nat.lt_succ_of_lt (h1 x c hc)) (List.pairwise_cons.mpr ⟨fun z hz q => by
     have := h1 z.1 z.2 hz
     rw [<- q] at this; exact Nat.lt_irrefl _ this, h2⟩)
   rw [sz] at ih
   refine eR ih ?_; clear ih; intro a b c d
   refine ⟨fun x c' hc => ?_, fun x c' hc => b x c' (.tail _ hc), c, fun x hx => ?_⟩
   ·rcases a x c' hc with q | ⟨q1, q2, q3⟩
    ·rcases List.mem_cons.mp q with q | q
     ·cases q
      exact .inr ⟨Nat.le_refl _, ⟨_, pushCells_keeps r _ _ _ (Heap.get?_push_size _ rfl), rfl⟩, .head _⟩
     ·exact .inl q
    ·exact .inr ⟨Nat.le_of_succ_le q1, q2, .tail _ q3⟩
   ·rcases List.mem_cons.mp hx with hx | hx
    ·cases hx; exact ⟨_, b _ _ (.head _), Nat.le_refl _⟩
    ·refine ae (d x hx) fun c' m1 m2 => ?_; exact ⟨c', m1, Nat.le_of_succ_le m2⟩
  ·have hb : (k == NameKind.cell) = false := beq_eq_false_iff_ne.mpr hk
   refine aa (if_neg (by rw [hb]; exact Bool.false_ne_true)) ?_; refine aa (if_neg (by rw [hb]; exact Bool.false_ne_true)) ?_
   refine eR (kN r h acc h1 h2) fun a b c d => ?_
   refine ⟨fun x c' hc => (a x c' hc).imp id fun ⟨q1, q2, q3⟩ => ⟨q1, q2, .tail _ q3⟩, b, c, fun x hx => ?_⟩
   refine Or.elim (List.mem_cons.mp hx) (fun hx => ?_) fun hx => ?_
   ·cases hx; exact absurd rfl hk
   ·exact d x hx
theorem xr {scope : Scope} {globals : Addr} {cl : List (Str × Addr)} {qual : Str} {outer : Env} {M : Model} {A : Around} {E : Value -> Shared -> Prop} {s : Shared} {Q : Env -> Shared -> Prop}
  (h : Q (newEnv scope s.heap.objs.size globals (cellsFrom (s.heap.objs.size + 1) scope.names cl) qual none .none (some outer) builtinsNs) { s with heap := pushCells (s.heap.push { cls := .type "dict", data := .dict #[] }) scope.names }) :
  wpAny M A (newFunctionEnv scope globals cl [] qual none .none (some outer)) Q E s := by
 simp only [newFunctionEnv, Option.isSome_some, if_true]
 refine wpAny_bind (wpAny_alloc ?_)
 refine wpAny_bind (wpAny_layCells _ (fun name kind cells => by cases hkc : kind == NameKind.cell <;> simp [hkc]) _ _ _ _ ?_)
 refine aa (show ({ s with heap := s.heap.push { cls := .type "dict", data := .dict #[] } } : Shared).heap.objs.size = s.heap.objs.size + 1 from Heap.size_push ..) ?_
 exact wpAny_bind (wpAny_pure (wpAny_pure h))
end
section
open PySem PyProof.Rows
variable {C : Cx} {lv : Nat} {q : Bool}
theorem Inv.Ag {W : Gh} {σ : ab} {s : Shared} {L : Addr} {h' : Heap} {t : Nat} (I : Inv W σ s) (hL : W L = .own) (hs : ∀ b o, b ≠ L -> s.heap.get? b = some o -> h'.get? b = some o) : Inv (W.set L .free) σ { s with heap := h', toks := t } := by
 refine ae (I.own L hL) fun o ho _ => ?_
 have J : Inv (W.set L (.kept o)) σ s := I.swap fun b => by
  by_cases e : b = L
  ·subst e; exact .inr ⟨.inl hL, .inr ⟨o, Gh.aq ..⟩, (fun o' h => by rw [Gh.aq] at h; cases h; exact ⟨o, ho, .refl o⟩), fun h => by rw [Gh.aq] at h; exact nomatch h⟩
  ·exact .inl (Gh.aD _ _ e)
 have K := J.relabel (l := .free) (h' := h') (t := t) (Gh.aq ..) (.inl rfl) hs
 have e : (W.set L (.kept o)).set L .free = W.set L .free := by
  funext b
  by_cases q : b = L
  ·refine aa q ?_; rw [Gh.aq, Gh.aq]
  ·refine aa (Gh.aD _ _ q) ?_; refine aa (Gh.aD _ _ q) ?_; exact aa (Gh.aD _ _ q) rfl
 rw [e] at K; exact K
theorem Gh.AE {W : Gh} {L : Addr} {l : cn} (ha : W L = .own) : W.bM (W.set L l) := by
 have ne : ∀ {b}, W b ≠ .own -> b ≠ L := fun h => by rintro rfl; exact h ha
 exact ⟨fun e => by refine aa (Gh.aD _ _ (ne (by rw [e]; exact fun x => nomatch x))) ?_; exact e, fun e => by refine aa (Gh.aD _ _ (ne (by rw [e]; exact fun x => nomatch x))) ?_; exact e,
  fun e => by refine aa (Gh.aD _ _ (ne (by rw [e]; exact fun x => nomatch x))) ?_; exact e⟩
noncomputable def Az (C : Cx) (scope : Scope) (ns : List (Str × Kd)) : Cx := { sc := nc C.sc scope, ns := ns, q := true, t := false }
theorem jP {env : Env} {h : Heap} {W : Gh} {Z : AV} (F : lT C W Z env h) {j : Nat} {x : Str} {k : Kd} (hx : ar C.ns j x k) (hk : k ≠ .loc) : ∃ c, env.cells.lookup x = some c /\ (W c = .own \/ ∃ o, W c = .kept o) /\ ∃ ov, h.IsCell c ov /\ Mine.Slot W (Z.bB j) ov := by
 have hs := F.slot j x k hx.get
 induction k using Kd.casesOn with
 | loc => exact absurd rfl hk
 | cel => refine bP hs ?_; clear hs; intro _ c e w ov a b; exact ⟨c, e, .inl w, ov, a, b⟩
 | cap => refine bP hs ?_; clear hs; intro _ c e w ov a b; exact ⟨c, e, .inr w, ov, a, b⟩
theorem vO {elt : Expr} {g : Comprehension} {gs : List Comprehension} {scope : Scope} {pos : Pos} {ns : List (Str × Kd)} {mk : AV -> AV} {asg : AV -> AV -> (AV -> RS) -> RS} {t : TD} {N : Nat} (hms : (D.B.get? sysModules).isSome = true) (hq : C.q = true) (hkind : scope.kind = .function)
  (d4 : (scope.names.map (·.1)).Nodup) (hns : dJ C scope.names ns mk) (hg0 : g.is_async = 0) (hg1 : ∀ g', (g :: gs)[1]? = some g' -> g'.is_async = 0) (ha : oY (Az C scope ns) g.target asg) (ht : lh (Az C scope ns) lv elt (g :: gs) scope pos 0 g.ifs t)
  {r : Nat} {ih : CH} {A : Around} {env : Env} {W W1 : Gh} {Z l1 : AV} {σ s1 : ab} {s sa : Shared} {v : AV} {y : Value} (P : Pre C lv r ih A env W Z σ s) (w1 : W.le W1) (T1 : St C env W1 l1 s1 sa) (r1 : RV W1 v y)
  {acc Z' : AV} {σ' : ab} (hf : hE (v.src s1) (gJ asg) (t ih) lQ N 0 (.cons .nil (mk l1)) s1 = .next (.cons acc Z') σ') {RR : Value -> Addr -> Result -> Shared -> Prop}
  (hR : ∀ a L W3 s' items ep, W1.le W3 -> Inv W3 σ' s' -> aJ W1 sa.heap s'.heap -> W1 a = .free -> W3 a = .free -> s'.heap.get? a = some (aV items ep) -> RL W3 acc items.toList -> W1 L = .free -> W3 L = .own -> (∃ m, s'.heap.Ns L m) -> L ≠ a -> RR (.ref a) L (.ok .next) s') :
  ∃ cl, closureFor scope env = pure cl /\ wpAny (model D.prog D.w) A (pyIter y) (fun it s₂ => wpAny (model D.prog D.w) A (newList []) (fun acc s₃ => wpAny (model D.prog D.w) A (newFunctionEnv scope env.globals cl [] env.qual none .none (some env)) (fun cenv s₄ =>
   codeAny (model D.prog D.w) A (.compStart (.ListComp elt (g :: gs) scope pos) 0 it acc { cenv with scope := relabel scope env }) (RR acc cenv.locals) s₄) No s₃) No s₂) No sa := by
 have F := T1.2
 have I := T1.1
 obtain ⟨cl, hcl, cl1, cl2, clap⟩ := gz (scope := scope) (env := env) F.apart d4 fun x hx => by
  obtain ⟨j, k', n1, n2⟩ := hns.free x hx
  refine ae (jP F n1 n2) fun c e _ => ?_
  refine aa e ?_; rfl
 refine ⟨cl, hcl, ?_⟩
 induction N using Nat.casesOn with
 | zero => exact RS.noConfusion hf
 | succ N =>
 have hwk : yq s1 (v.src s1) := nB (by rw [<- mR]; refine aa hf ?_; exact fun x => RS.noConfusion x)
 refine mS hms I r1 hwk fun x o rs hfo hco hit => ?_
 refine wpAny_newObj_type (xr ?_)
 generalize hit0 : sa.heap.objs.size = it at *
 generalize hh1 : sa.heap.push o = h1
 have ho1 : h1.get? it = some o := by refine bw hh1 ?_; refine bw hit0 ?_; exact Heap.get?_push_size _ hfo
 have kp1 : ∀ b o', sa.heap.get? b = some o' -> h1.get? b = some o' := fun b o' e => by refine bw hh1 ?_; exact Heap.get?_push_of_some _ e
 dsimp only
 generalize ha0 : h1.objs.size = a
 generalize hh2 : h1.push { cls := .type "list", dict := none, data := .seq ([] : List Value).toArray } = h2
 have ho2 : h2.get? a = some (aV #[] 0) := by refine bw hh2 ?_; refine bw ha0 ?_; exact Heap.get?_push_size _ rfl
 have kp2 : ∀ b o', h1.get? b = some o' -> h2.get? b = some o' := fun b o' e => by refine bw hh2 ?_; exact Heap.get?_push_of_some _ e
 generalize hL0 : h2.objs.size = L
 generalize hh3 : h2.push { cls := .type "dict", data := .dict #[] } = h3
 have ho3 : h3.get? L = some { cls := .type "dict", data := .dict #[] } := by refine bw hh3 ?_; refine bw hL0 ?_; exact Heap.get?_push_size _ rfl
 have kp3 : ∀ b o', h2.get? b = some o' -> h3.get? b = some o' := fun b o' e => by refine bw hh3 ?_; exact Heap.get?_push_of_some _ e
 have sz1 : h1.objs.size = it + 1 := by refine bw hh1 ?_; rw [Heap.size_push, hit0]
 have sz2 : h2.objs.size = it + 2 := by refine bw hh2 ?_; rw [Heap.size_push, sz1]
 have sz3 : h3.objs.size = L + 1 := by rw [<- hh3, Heap.size_push, hL0]
 have aeq : a = it + 1 := by refine bw ha0 ?_; exact aa sz1 rfl
 have Leq : L = it + 2 := by refine bw hL0 ?_; exact aa sz2 rfl
 generalize hh4 : pushCells h3 scope.names = h4
 have kp4 : ∀ b o', h3.get? b = some o' -> h4.get? b = some o' := fun b o' e => by refine bw hh4 ?_; exact pushCells_keeps _ _ _ _ e
 have clt : ∀ x c, (x, c) ∈ cl -> c < it := fun x c hc => by
  refine ba (cl1 x c hc) fun e hm => ?_
  refine ag (hns.free x hm) fun j k' n1 n2 => ?_
  refine sG (jP F n1 n2) fun c' e' _ ov hn8_4 _ => ?_; obtain ⟨oc, hoc, _⟩ := hn8_4
  rw [e] at e'; cases e'
  refine bw hit0 ?_; exact Heap.lt_size hoc
 have cs := kN scope.names h3 cl (fun x c hc => by refine aa sz3 ?_; refine aa Leq ?_; exact Nat.lt_of_lt_of_le (clt x c hc) (Nat.le_add_right it 3)) clap
 rw [sz3] at cs
 generalize hcs : cellsFrom (L + 1) scope.names cl = cells at cs ⊢
 refine eR cs ?_; clear cs; intro cs1 cs2 cs3 cs4
 rw [hh4] at cs1
 have Ih := I.hide
 have lev0 := qf W1 sa.heap
 generalize hWh : hide W1 sa.heap = Wh at Ih lev0
 have fit : Wh it = .free := by have := Ih.free; rw [hit0] at this; exact this
 have I1 : Inv (Wh.set it (.kept o)) s1 { sa with heap := h1, toks := sa.toks } := Ih.dy (t := sa.toks) fit ho1 (Keeps.bJ kp1)
 have le1 := Gh.aQ (l := cn.kept o) fit
 generalize hWi : Wh.set it (.kept o) = Wi at I1 le1
 have kit : Wi it = .kept o := by refine bw hWi ?_; exact Gh.aq ..
 have fa : Wi a = .free := by have := I1.free; rw [show ({ sa with heap := h1, toks := sa.toks } : Shared).heap.objs.size = a from ha0] at this; exact this
 have I2 : Inv (Wi.set a (.kept (aV #[] 0))) s1 { sa with heap := h2, toks := sa.toks } := I1.dy (t := sa.toks) fa ho2 (Keeps.bJ kp2)
 have le2 := Gh.aQ (l := cn.kept (aV #[] 0)) fa
 have hia : it ≠ a := by refine aa aeq ?_; exact Nat.ne_of_lt (Nat.lt_succ_self _)
 have kaa : (Wi.set a (.kept (aV #[] 0))) a = .kept (aV #[] 0) := Gh.aq ..
 generalize hWa : Wi.set a (.kept (aV #[] 0)) = Wa at I2 le2 kaa
 have big : ∀ b, L <= b -> Wa b = .free := fun b hb => by
  refine Classical.byContradiction fun z => ?_
  refine bI (I2.ex b z) fun ob e => ?_
  exact Nat.lt_irrefl _ (Nat.lt_of_lt_of_le (Heap.lt_size e) (by show h2.objs.size <= b; refine aa hL0 ?_; exact hb))
 have kp24 : ∀ b o', h2.get? b = some o' -> h4.get? b = some o' := fun b o' e => kp4 _ _ (kp3 _ _ e)
 obtain ⟨le3, I3⟩ := I2.ou (S := fun b => b = L \/ ∃ x, (x, b) ∈ cells /\ L + 1 <= b) (h' := h4) (t := sa.toks) (fun b hb => by
  rcases hb with rfl | ⟨x, hx, hb⟩
  ·exact ⟨big _ (Nat.le_refl _), _, kp4 _ _ ho3, .inl ⟨_, _, rfl⟩⟩
  ·refine ⟨big _ (Nat.le_of_succ_le hb), ?_⟩
   rcases cs1 x b hx with q | ⟨_, ⟨oc, q, d⟩, _⟩
   ·have := clt x b q
    exact absurd (Nat.lt_of_lt_of_le this (by rw [Leq] at hb; exact Nat.le_trans (Nat.le_add_right it 3) hb)) (Nat.lt_irrefl _)
   ·exact ⟨oc, q, .inr ⟨_, d⟩⟩) (Keeps.bJ kp24)
 have own3 : ∀ b, (b = L \/ ∃ x, (x, b) ∈ cells /\ L + 1 <= b) -> (Wa.c9 fun b => b = L \/ ∃ x, (x, b) ∈ cells /\ L + 1 <= b) b = .own := fun b hb => by unfold Gh.c9; exact aa (if_pos hb) rfl
 generalize hWl : (Wa.c9 fun b => b = L \/ ∃ x, (x, b) ∈ cells /\ L + 1 <= b) = Wl at le3 I3 own3
 have leA : Wh.le Wl := (le1.trans le2).trans le3
 have lookM : ∀ {x : Str} {c : Addr} {l : List (Str × Addr)}, (x, c) ∈ l -> ∃ c', l.lookup x = some c' := fun {x c l} h => by
  induction l with
  | nil => exact nomatch h
  | cons p r ih =>
   obtain ⟨y, d⟩ := p
   refine aa List.lookup_cons ?_
   by_cases e : x = y
   ·refine bw e ?_; exact ⟨d, by simp⟩
   ·refine aa (beq_eq_false_iff_ne.mpr e) ?_
    refine Or.elim (List.mem_cons.mp h) (fun h => ?_) fun h => ?_
    ·cases h; exact absurd rfl e
    ·exact ih h
 have nodupS : ((nc C.sc scope).names.map (·.1)).Nodup := by refine aa rN ?_; exact d4
 have notboth : ∀ {x : Str} {k k' : NameKind}, (x, k) ∈ scope.names -> (x, k') ∈ scope.names -> k = k' := fun h h' => by
  have := (bq d4 h).symm.trans (bq d4 h'); refine oE this ?_; rfl
 generalize henv : ({ newEnv scope L env.globals cells env.qual none .none (some env) builtinsNs with scope := relabel scope env } : Env) = env'
 have eloc : env'.locals = L := by refine bw henv ?_; rfl
 have ecell : env'.cells = cells := by refine bw henv ?_; rfl
 have F' : lT (Az C scope ns) Wl (mk l1) env' h4 := by
  refine ⟨?_, hkind, by refine bw henv ?_; exact F.gl, by refine bw henv ?_; exact F.bi, by refine aa eloc ?_; exact own3 _ (.inl rfl), ⟨fun _ => none, ?_⟩, fun i x k hx => ?_, hns.nodup d4, fun x y c h1 h2 => ?_, fun c h => nomatch h⟩
  ·refine bw henv ?_; exact ri F.sc
  ·refine aa eloc ?_
   have := (Heap.Ns.new h2 (.type "dict"))
   rw [hh3, hL0] at this
   exact this.keeps kp4
  ·rcases hns.at i x k hx with ⟨rfl, m, u⟩ | ⟨rfl, m, u⟩ | ⟨rfl, m, hcd, j, k', n1, n2, u⟩
   ·refine ⟨bq nodupS ((kL m).1 fun q => NameKind.noConfusion q), fun _ => none, ?_, .inl (u l1)⟩
    refine aa eloc ?_
    have := (Heap.Ns.new h2 (.type "dict"))
    rw [hh3, hL0] at this
    exact this.keeps kp4
   ·refine ae (cs4 x m) fun c hc _ => ?_
    refine bI (lookM hc) fun c' hc' => ?_
    have hm' := mem_of_lookup hc'
    refine ⟨bq nodupS ((kL m).1 fun q => NameKind.noConfusion q), c', by refine aa ecell ?_; exact hc', ?_, none, ?_, .inl (u l1)⟩
    ·rcases cs1 x c' hm' with q | ⟨q, _, _⟩
     ·exact absurd (notboth m (cl1 x c' q).2) (fun q => NameKind.noConfusion q)
     ·exact own3 _ (.inr ⟨x, hm', q⟩)
    ·rcases cs1 x c' hm' with q | ⟨_, q, _⟩
     ·exact absurd (notboth m (cl1 x c' q).2) (fun q => NameKind.noConfusion q)
     ·exact q
   ·refine bI (cl2 x m) fun c0 hc0 => ?_
    refine bI (lookM (cs2 x c0 hc0)) fun c' hc' => ?_
    have hm' := mem_of_lookup hc'
    have e1 : env.cells.lookup x = some c' := by
     rcases cs1 x c' hm' with q | ⟨_, _, q⟩
     ·exact (cl1 x c' q).1
     ·exact absurd (notboth m q) (fun q => NameKind.noConfusion q)
    refine sG (jP F n1 n2) fun c e2 wc ov hn17_4 sl => ?_; obtain ⟨oc, hoc, hd⟩ := hn17_4
    rw [e1] at e2; cases e2
    have kh : ∃ oo, Wh c' = .kept oo := by
     rcases wc with wc | ⟨oo, wc⟩
     ·exact ⟨oc, by refine bw hWh ?_; exact d5 wc hoc⟩
     ·exact ⟨oo, by refine bw hWh ?_; refine aa (dz (by rw [wc]; exact fun x => nomatch x)) ?_; exact wc⟩
    refine bI kh ?_; clear kh; intro oo kh
    refine ⟨?_, c', by refine aa ecell ?_; exact hc', ⟨oo, leA.kept kh⟩, ov, ⟨oc, kp24 _ _ (kp2 _ _ (kp1 _ _ hoc)), hd⟩, ?_⟩
    ·refine Or.elim ((kL (osc := C.sc) m).2 rfl) (fun q => ?_) fun q => ?_
     ·exact .inl (bq nodupS q)
     ·exact .inr ⟨bq nodupS q, hcd⟩
    ·refine aa (u l1) ?_; exact (sl.mono lev0).mono leA.bM
  ·rw [ecell] at h1 h2
   exact name_of_addr cs3 (mem_of_lookup h1) (mem_of_lookup h2)
 have P' : Pre (Az C scope ns) lv r ih A env' Wl (mk l1) s1 { sa with heap := h4, toks := sa.toks } := by
  refine ⟨P.lv1, P.ok, P.room, fun _ => P.hn hq, ?_, I3, F'⟩
  refine aN (P.frs) fun f l f1 f2 _ => ?_
  have f3 := (f2.le w1).hide I
  rw [hWh] at f3
  exact ⟨f, l, f1, f3.le leA, fun h => Bool.noConfusion h⟩
 have accA : AccAt Wl a .nil := ⟨#[], 0, le3.kept kaa, .nil⟩
 have start := rJ (C := Az C scope ns) (depth := 0) (n := N + 1) rfl (show (g :: gs)[0]? = some g from rfl) hg0 hg1 ha ht P' accA ((rs.mono lev0).mono leA.bM) ((le2.trans le3).kept kit) hit hia hf
 refine codeAny_mono start (fun rr s' h' => ?_)
 refine qJ h' ?_; clear h'; intro q0 W3 b3 T3 a3; obtain rfl := q0
 refine aN (a3.get T3.1) fun items ep g1 g2 g3 => ?_
 have le4 : (hide W1 sa.heap).le W3 := fun b hb => by
  rw [hWh] at hb ⊢
  have n1 : b ≠ it := by rintro rfl; exact hb fit
  have n2 : b ≠ a := by rintro rfl; exact hb (by rw [<- hWi, Gh.aD _ _ (fun q => hia q.symm)] at fa; exact fa)
  have e1 := leA b hb
  refine aa (b3 b (by rw [not_or]; exact ⟨n2, n1⟩) (by rw [e1]; exact hb)) ?_; exact aa e1 rfl
 refine eR (I.bN le4 T3.1) fun u1 u2 u3 u4 => ?_
 have fW1 : ∀ b, it <= b -> W1 b = .free := fun b hb => by
  refine Classical.byContradiction fun z => ?_
  refine bI (I.ex b z) fun ob e => ?_
  exact Nat.lt_irrefl _ (Nat.lt_of_lt_of_le (Heap.lt_size e) (by refine aa hit0 ?_; exact hb))
 have fa1 : W1 a = .free := fW1 a (by refine aa aeq ?_; exact Nat.le_succ _)
 have fL1 : W1 L = .free := fW1 L (by refine aa Leq ?_; exact Nat.le_add_right _ _)
 have ua : bN W1 W3 a = .kept (aV items ep) := by unfold bN; refine aa (if_neg (by rw [fa1]; exact fun x => nomatch x)) ?_; exact g1
 have hLa : L ≠ a := by refine aa Leq ?_; refine aa aeq ?_; exact Nat.ne_of_gt (Nat.lt_succ_self _)
 have hLit : L ≠ it := by refine aa Leq ?_; exact Nat.ne_of_gt (Nat.lt_of_lt_of_le (Nat.lt_succ_self it) (Nat.le_succ _))
 have uL : bN W1 W3 L = .own := by
  unfold bN
  refine aa (if_neg (by rw [fL1]; exact fun x => nomatch x)) ?_; refine aa (b3 L (by rw [not_or]; exact ⟨hLa, hLit⟩) (by rw [own3 L (.inl rfl)]; exact fun x => nomatch x)) ?_
  exact own3 L (.inl rfl)
 have J := u2.relabel (l := .free) (h' := s'.heap) (t := s'.toks) ua (.inl rfl) (fun _ _ _ e => e)
 refine hR a L ((bN W1 W3).set a .free) s' items ep (fun b hb => ?_) J u3 fa1 (Gh.aq ..) g2 ((g3.mono u4).mono (Gh.d6 ua)) fL1 (by refine aa (Gh.aD _ _ hLa) ?_; exact uL) ?_ hLa
 ·have : b ≠ a := by rintro rfl; exact hb fa1
  refine aa (Gh.aD _ _ this) ?_; exact u1 b hb
 ·refine bI (T3.2.ns) fun m hm => ?_
  rw [eloc] at hm
  exact ⟨m, hm⟩
end
section
open PySem PyProof.Rows
variable {C : Cx} {lv : Nat} {q : Bool}
noncomputable def RS.yc (r : RS) (k : AV -> ab -> R) : R := @RS.rec (fun _ => R) .fail k (fun _ _ => .fail) (fun _ _ => .fail) (fun _ _ _ => .fail) r
theorem RS.mC {r : RS} {k : AV -> ab -> R} {v l : AV} {σ : ab} (h : r.yc k = .val v l σ) : ∃ p s, r = .next p s /\ k p s = .val v l σ := by
 induction r using RS.casesOn <;> first | exact R.noConfusion h | exact ⟨_, _, rfl, h⟩
noncomputable def AV.m7 (v : AV) (k : AV -> AV -> R) : R := (AV.fB (β := R) .fail (fun a t => k a t) v)
theorem AV.jz {v : AV} {k : AV -> AV -> R} {x l : AV} {σ : ab} (h : v.m7 k = .val x l σ) : ∃ a t, v = .cons a t /\ k a t = .val x l σ := by
 induction v using AV.casesOn <;> first | exact R.noConfusion h | exact ⟨_, _, rfl, h⟩
structure fV (C : Cx) (lv : Nat) (elt : Expr) (g : Comprehension) (gs : List Comprehension) (scope : Scope) (pos : Pos) (ns : List (Str × Kd)) (mk : AV -> AV) (asg : AV -> AV -> (AV -> RS) -> RS) (di : DE) (t : TD) : Prop where
 hms : (D.B.get? sysModules).isSome = true
 hq : C.q = true
 hkind : scope.kind = .function
 d4 : (scope.names.map (·.1)).Nodup
 hns : dJ C scope.names ns mk
 hg0 : g.is_async = 0
 hg1 : ∀ g', (g :: gs)[1]? = some g' -> g'.is_async = 0
 ha : oY (Az C scope ns) g.target asg
 ht : lh (Az C scope ns) lv elt (g :: gs) scope pos 0 g.ifs t
 hfs : ∀ env x, foldedSetIterable g.iter env x = pure x
 hi : aS C lv g.iter di
theorem fV.names {elt : Expr} {g : Comprehension} {gs : List Comprehension} {scope : Scope} {pos : Pos} {ns : List (Str × Kd)} {mk : AV -> AV} {asg : AV -> AV -> (AV -> RS) -> RS} {di : DE} {t : TD} (K : fV C lv elt g gs scope pos ns mk asg di t) :
  ∀ x ∈ scope.names, x.2 = .local -> scope.names.lookup x.1 = some .local := fun x hx h => by
 obtain ⟨n, k⟩ := x
 obtain rfl : k = .local := h
 exact bq K.d4 hx
theorem fV.closure {elt : Expr} {g : Comprehension} {gs : List Comprehension} {scope : Scope} {pos : Pos} {ns : List (Str × Kd)} {mk : AV -> AV} {asg : AV -> AV -> (AV -> RS) -> RS} {di : DE} {t : TD} (K : fV C lv elt g gs scope pos ns mk asg di t)
  {env : Env} {W : Gh} {Z : AV} {σ : ab} {s : Shared} (T : St C env W Z σ s) : ∃ cl, closureFor scope env = pure cl := by
 obtain ⟨cl, h, _⟩ := gz (scope := scope) (env := env) T.2.apart K.d4 fun x hx => by
  obtain ⟨j, k', n1, n2⟩ := K.hns.free x hx
  refine ae (jP T.2 n1 n2) fun c e _ => ?_
  refine aa e ?_; rfl
 exact ⟨cl, h⟩
theorem mM {elt : Expr} {g : Comprehension} {gs : List Comprehension} {scope : Scope} {pos : Pos} {ns : List (Str × Kd)} {mk : AV -> AV} {asg : AV -> AV -> (AV -> RS) -> RS} {di : DE} {t : TD} {N : Nat} (K : fV C lv elt g gs scope pos ns mk asg di t)
  {r : Nat} {ih : CH} {A : Around} {env : Env} {W : Gh} {Z l1 : AV} {σ s1 : ab} {s : Shared} {v acc Z' : AV} {σ' : ab} (P : Pre C lv r ih A env W Z σ s) (e1 : di ih Z σ = .val v l1 s1)
  (hf : hE (v.src s1) (gJ asg) (t ih) lQ N 0 (.cons .nil (mk l1)) s1 = .next (.cons acc Z') σ') {Q : Value -> Shared -> Prop}
  (h : ∀ a W1 W3 sa s' items ep, W.le W1 -> St C env W1 l1 s1 sa -> W1.le W3 -> Inv W3 σ' s' -> aJ W1 sa.heap s'.heap -> W3 a = .free -> s'.heap.get? a = some (aV items ep) -> RL W3 acc items.toList -> Q (.ref a) s') :
  wpAny (model D.prog D.w) A (eval (.ListComp elt (g :: gs) scope pos) env) Q No s := by
 refine bI (K.closure P.st) fun cl hcl => ?_
 obtain ⟨tg, itr, ifs, as⟩ := g
 obtain rfl : as = 0 := K.hg0
 rw [eval_ListComp]
 refine wpAny_comprehension_free (e := .ListComp elt (⟨tg, itr, ifs, 0⟩ :: gs) scope pos) (use := none) rfl (K.hfs env) hcl K.hkind K.names ?_
 refine wpAny_mono (K.hi r ih A env W Z σ s P _ _ _ e1) (fun y sa hy => ?_) fun _ _ x => x.elim
 refine af hy ?_; clear hy; intro W1 w1 T1 r1
 obtain ⟨cl', hcl', run⟩ := vO (RR := fun acc L => compPost (model D.prog D.w) A No none Q acc L) K.hms K.hq K.hkind K.d4 K.hns K.hg0 K.hg1 K.ha K.ht P w1 T1 r1 hf (fun a L W3 s' items ep w3 I3 k3 f1 f3 g2 rl n1 n3 hm hLa => by
  refine bI hm ?_; clear hm; intro m hm
  refine ⟨m, hm, fun h' hs' => ?_⟩
  have I4 := I3.Ag (t := s'.toks) n3 (aL hs')
  have lw : W1.le (W3.set L .free) := fun b hb => by
   have : b ≠ L := by rintro rfl; exact hb n1
   refine aa (Gh.aD _ _ this) ?_; exact w3 b hb
  refine h a W1 _ sa { s' with heap := h' } items ep w1 T1 lw I4 (fun b o hb e => ?_) (by refine aa (Gh.aD _ _ (fun q => hLa q.symm)) ?_; exact f3) (aL hs' a _ (fun q => hLa q.symm) g2) (rl.mono (Gh.AE n3))
  refine ae (k3 b o hb e) fun o' e' sm => ?_
  exact ⟨o', aL hs' b o' (by rintro rfl; rw [n1] at hb; exact nomatch hb) e', sm⟩)
 have : cl' = cl := by
  have := hcl'.symm.trans hcl
  exact Sem.pure.inj this
 refine bw this ?_
 exact run
noncomputable def EA (N : Nat) (asg : AV -> AV -> (AV -> RS) -> RS) (mk : AV -> AV) (di : DE) (t : TD) : DE := fun ih Z σ => (di ih Z σ).bind fun v Z σ => (hE (v.src σ) (gJ asg) (t ih) lQ N 0 (.cons .nil (mk Z)) σ).yc fun p σ => p.m7 fun acc _ =>
 R.guard (fits acc.len) (.val (.lst acc.len acc) Z σ)
noncomputable def CU (N : Nat) (asg : AV -> AV -> (AV -> RS) -> RS) (mk : AV -> AV) (di : DE) (t : TD) : DE := fun ih Z σ => (di ih Z σ).bind fun v Z σ => (hE (v.src σ) (gJ asg) (t ih) lQ N 0 (.cons .nil (mk Z)) σ).yc fun p σ => p.m7 fun acc _ =>
 R.guard (fits acc.len) (.val (.ref σ.next) Z (.cons σ.next (.list acc.len acc) σ))
section
variable {elt : Expr} {g : Comprehension} {gs : List Comprehension} {scope : Scope} {pos : Pos} {ns : List (Str × Kd)} {mk : AV -> AV} {asg : AV -> AV -> (AV -> RS) -> RS} {di : DE} {t : TD} {N : Nat}
theorem gn (K : fV C lv elt g gs scope pos ns mk asg di t) : aS C lv (.ListComp elt (g :: gs) scope pos) (EA N asg mk di t) := fun r ih A env W Z σ s P v Z' σ' h => by
 refine ak (R.ai h) fun x l1 s1 e1 h => ?_
 refine ag (RS.mC h) fun p s2 e2 h => ?_
 refine ag (AV.jz h) fun acc Z2 q2 h => ?_; obtain rfl := q2
 refine ba (R.ah h) fun hl h => ?_
 refine R.ve h ?_
 refine mM K P e1 e2 fun a W1 W3 sa s' items ep w1 T1 w3 I3 k3 f3 g2 rl => ?_
 have T2 := T1.value w3 I3 k3
 have hn := rl.len
 rw [Array.length_toList] at hn
 exact aj.frame T2 (w1.trans w3) (aj.s9 (t := s'.toks) I3 f3 g2 (Keeps.bJ fun _ _ e => e) fun W' l e => .lst _ _ a items ep e hn.symm (bO hl) (rl.mono l.bM))
theorem xG (K : fV C lv elt g gs scope pos ns mk asg di t) : aS C lv (.ListComp elt (g :: gs) scope pos) (CU N asg mk di t) := fun r ih A env W Z σ s P v Z' σ' h => by
 refine ak (R.ai h) fun x l1 s1 e1 h => ?_
 refine ag (RS.mC h) fun p s2 e2 h => ?_
 refine ag (AV.jz h) fun acc Z2 q2 h => ?_; obtain rfl := q2
 refine ba (R.ah h) fun hl h => ?_
 refine R.ve h ?_
 refine mM K P e1 e2 fun a W1 W3 sa s' items ep w1 T1 w3 I3 k3 f3 g2 rl => ?_
 have T2 := T1.value w3 I3 k3
 have hn := rl.len
 rw [Array.length_toList] at hn
 exact aj.frame T2 (w1.trans w3) (aj.Dz (t := s'.toks) I3 f3 ⟨_, g2⟩ (Keeps.bJ fun _ _ e => e) fun W' l e => ⟨items, ep, g2, hn.symm, bO hl, rl.mono l.bM⟩)
end
end
section
open PySem PyProof.Rows
variable {C : Cx} {lv : Nat} {q : Bool}
noncomputable def AV.qU (v : AV) (k : AV -> RS) : RS := (AV.pN (β := RS) .fail (fun n l => k l) v)
theorem AV.ur {v : AV} {k : AV -> RS} (h : v.qU k ≠ .fail) : ∃ n l, v = .tup n l /\ v.qU k = k l := by
 induction v using AV.casesOn <;> first | exact absurd rfl h | exact ⟨_, _, rfl, rfl⟩
noncomputable def AV.rj (v : AV) (k : RS) : RS := (AV.pM (β := RS) .fail (k) v)
theorem AV.uZ {v : AV} {k : RS} (h : v.rj k ≠ .fail) : v = .nil /\ v.rj k = k := by
 induction v using AV.casesOn <;> first | exact absurd rfl h | exact ⟨rfl, rfl⟩
noncomputable def qY (C : Cx) (ts : List Expr) (as : AV -> AV -> (AV -> RS) -> RS) : Prop := (∀ env, (assignEach ts env).findIdx? (·.1) = none /\ (assignEach ts env).length = ts.length) /\
 ∀ Z l k, as Z l k ≠ .fail -> ∃ Z', as Z l k = k Z' /\ (∀ W xs, RL W l xs -> xs.length = ts.length) /\ ∀ A env W σ s xs, cP 1 A -> (C.q = true -> A.handled = none) -> St C env W Z σ s -> RL W l xs ->
  wpAny (model D.prog D.w) A (assignInOrder ((assignEach ts env).map (·.2)) xs) (fun _ s' => ∃ W', W.le W' /\ St C env W' Z' σ s') No s
noncomputable def Fz : AV -> AV -> (AV -> RS) -> RS := fun Z l k => l.rj (k Z)
noncomputable def Bl (a as : AV -> AV -> (AV -> RS) -> RS) : AV -> AV -> (AV -> RS) -> RS := fun Z l k => l.fc fun v r => a Z v fun Z => as Z r k
noncomputable def Er (as : AV -> AV -> (AV -> RS) -> RS) : AV -> AV -> (AV -> RS) -> RS := fun Z v k => v.qU fun l => as Z l k
theorem iV : qY C [] Fz := ⟨fun env => ⟨rfl, rfl⟩, fun Z l k h => by
 refine ba (AV.uZ h) fun q0 e => ?_; obtain rfl := q0
 refine ⟨Z, e, fun W xs r => by cases r; rfl, fun A env W σ s xs _ _ T r => ?_⟩
 cases r
 exact wpAny_pure ⟨W, .refl W, T⟩⟩
theorem uc {t : Expr} {ts : List Expr} {a as : AV -> AV -> (AV -> RS) -> RS} (hn : ∀ env, assignEach (t :: ts) env = (false, assign t env) :: assignEach ts env) (h1 : oY C t a) (h2 : qY C ts as) : qY C (t :: ts) (Bl a as) := ⟨fun env => by
 refine ba (h2.1 env) fun e1 e2 => ?_
 rw [hn]
 refine ⟨?_, by refine aa List.length_cons ?_; refine aa List.length_cons ?_; exact aa e2 rfl⟩
 refine aa (List.findIdx?_cons) ?_; refine aa e1 ?_; rfl, fun Z l k h => by
 refine ag (AV.qV h) fun v r q2 e => ?_; obtain rfl := q2
 have h : (a Z v fun Z => as Z r k) ≠ .fail := h
 refine ae (h1 _ _ _ h) fun Z1 e1 w1 => ?_
 rw [e1] at h
 refine af (h2.2 _ _ _ h) fun Z2 e2 n2 w2 => ?_
 refine ⟨Z2, (e.trans e1).trans e2, fun W xs rl => ?_, fun A env W σ s xs R hh T rl => ?_⟩
 ·induction rl using RL.iE with
  | mk x xs rv rr => refine aa List.length_cons ?_; refine aa List.length_cons ?_; exact aa (n2 W xs rr) rfl
 induction rl using RL.iE with
 | mk x xs rv rr =>
  rw [hn]
  show wpAny _ _ (assignInOrder (assign t env :: (assignEach ts env).map (·.2)) (x :: xs)) _ _ _
  refine wpAny_bind (wpAny_holding (wpAny_mono (w1 A env W σ s x R hh T rv) (fun _ s1 h1 => ?_) fun _ _ x => x))
  refine ae h1 ?_; clear h1; intro W1 l1 T1
  refine wpAny_mono (w2 A env W1 σ s1 xs R hh T1 (rr.mono l1.bM)) (fun _ s2 h2 => ?_) fun _ _ x => x
  refine ae h2 ?_; clear h2; intro W2 l2 T2
  exact ⟨W2, l1.trans l2, T2⟩⟩
theorem AW {ts : List Expr} {k : Nat} {pos : Pos} {as : AV -> AV -> (AV -> RS) -> RS} (hq : C.q = true) (h : qY C ts as) : oY C (.Tuple ts k pos) (Er as) := fun Z v kk hne => by
 refine ag (AV.ur hne) fun n l q2 e => ?_; obtain rfl := q2
 have hne : as Z l kk ≠ .fail := hne
 refine af (h.2 _ _ _ hne) fun Z1 e1 n1 w1 => ?_
 refine ⟨Z1, e.trans e1, fun A env W σ s x R hh T r => ?_⟩
 induction r using RV.iu with
 | mk a items f1 hn hb rl =>
  refine ba (h.1 env) fun c1 c2 => ?_
  refine wpAny_assign_Tuple (hh hq) (cN (T.1.az _ _ f1)) (by refine aa c2 ?_; refine bw (n1 W _ rl) ?_; exact aa Array.length_toList rfl) c1 fun h' he => ?_
  have kp : Keeps W s.heap h' := Keeps.ext T.1.free he
  exact w1 A env W σ _ items.toList R hh (T.value (.refl _) (T.1.same (t := s.toks) kp) kp.own) rl
noncomputable def By (a : AV -> AV -> (AV -> RS) -> RS) (d : DE) : DS := fun ih Z σ => (d ih Z σ).aX fun v Z σ => a Z v fun Z => .next Z σ
theorem qX {ts : List Expr} {k : Nat} {tpos pos : Pos} {value : Expr} {a : AV -> AV -> (AV -> RS) -> RS} {d : DE} (h1 : aS C lv value d) (ha : oY C (.Tuple ts k tpos) a)
  (hs : ∀ env, swapsWithSole [.Tuple ts k tpos] value pos.line env = pure false) (hw : ∀ env, swappedStores [.Tuple ts k tpos] value env = pure none) :
  hM C lv (.Assign [.Tuple ts k tpos] value pos) (By a d) := fun r ih A env W Z σ s P hne => by
 refine aW (P := fun r => wpAny _ _ _ (aO C env W r) _ _) hne fun v l1 s1 e1 e3 => ?_
 refine ae (ha _ _ _ e3) fun Z2 f1 w2 => ?_
 refine aa f1 ?_
 refine Assign_Tuple (wpAny_mono (h1 r ih A env W Z σ s P _ _ _ e1) (fun y sa hy => ?_) fun _ _ x => x) (hs env) (hw env)
 refine af hy ?_; clear hy; intro W1 w1 T1 r1
 refine wpAny_mono (w2 A env W1 _ sa y P.op P.hn T1 r1) (fun _ s2 h2 => ?_) fun _ _ x => x
 refine ae h2 ?_; clear h2; intro W2 l2 T2
 exact ⟨rfl, W2, w1.trans l2, T2⟩
noncomputable def xR (d : DE) : DS := fun ih Z σ => (d ih Z σ).aX fun _ Z σ => .next Z σ
theorem wI {e : Expr} {pos : Pos} {d : DE} (h1 : aS C lv e d) (hs : ∀ env, swapsWith e none pos.line env = pure false) : hM C lv (.Expr e pos) (xR d) := fun r ih A env W Z σ s P hne => by
 refine aW (P := fun r => wpAny _ _ _ (aO C env W r) _ _) hne fun v l1 s1 e1 e3 => ?_
 refine wpAny_Expr_any (wpAny_mono (h1 r ih A env W Z σ s P _ _ _ e1) (fun y sa hy => ?_) fun _ _ x => x) ?_ (hs env)
 ·refine af hy ?_; clear hy; intro W1 w1 T1 r1
  exact ⟨rfl, W1, w1, T1⟩
 ·have hk : env.scope.kind = .function := by refine aa P.st.2.sc ?_; exact P.st.2.kind
  unfold interactive
  refine aa hk ?_; rfl
noncomputable def G7 (a b : DE) : DE := fun ih Z σ => (a ih Z σ).bind fun v Z σ => v.qC fun t => @Bool.rec (fun _ => R) (b ih Z σ) (.val (.bool true) Z σ) t
theorem DA {a b : Expr} {pos : Pos} {da db : DE} (h1 : aS C lv a da) (h2 : aS C lv b db) : aS C lv (.BoolOp .Or [a, b] pos) (G7 da db) := fun r ih A env W Z σ s P v Z' σ' h => by
 refine ak (R.ai h) fun x l1 s1 e1 h => ?_
 refine ae (AV.mr h) fun y q1 h => ?_; obtain rfl := q1
 refine wpAny_Or2 (wpAny_mono (h1 r ih A env W Z σ s P _ _ _ e1) (fun z sa hz => ?_) fun _ _ x => x)
 refine af hz ?_; clear hz; intro W1 w1 T1 r1
 cases r1
 refine wpAny_truthy_bool ?_
 induction y using Bool.casesOn with
 | true => refine R.ve h ?_; exact ⟨W1, w1, T1, .bool _⟩
 | false => exact wpAny_mono (h2 r ih A env W1 _ _ sa (P.next T1) _ _ _ h) (fun _ _ hv => let ⟨W2, w2, q⟩ := hv; ⟨W2, w1.trans w2, q⟩) fun _ _ x => x
noncomputable def Cj (i : Nat) (d : DE) : DE := fun ih Z σ => (d ih Z σ).bind fun v Z σ => .val v (Z.put v i) σ
theorem oG {x : Str} {i : Nat} {k : Kd} {px pos : Pos} {e : Expr} {d : DE} (ha : ar C.ns i x k) (hk : k ≠ .cap) (h1 : aS C lv e d) : aS C lv (.NamedExpr (.Name x px) e pos) (Cj i d) := fun r ih A env W Z σ s P v Z' σ' h => by
 refine ak (R.ai h) fun x l1 s1 e1 h => ?_
 refine R.ve h ?_
 refine wpAny_NamedExpr (wpAny_mono (h1 r ih A env W Z σ s P _ _ _ e1) (fun y sa hy => ?_) fun _ _ x => x)
 refine af hy ?_; clear hy; intro W1 w1 T1 r1
 exact wpAny_assign_Name (cO ha hk T1 r1 fun s2 T2 => ⟨W1, w1, T2, r1⟩)
theorem bV {e f : Option Expr} {pos : Pos} : hM C lv (.Raise e f pos) vj := lI
end
section
open PySem PyProof.Rows
variable {C : Cx} {lv : Nat} {q : Bool}
section
variable {A : Around} {E : Value -> Shared -> Prop} {s : Shared}
theorem pJ {it l : Addr} {k : Nat} {items : Array Value} {x : Value} {Q : Option Value -> Shared -> Prop} (hit : s.heap.get? it = some (iw (.ref l) k)) (hl : s.heap.IsList l items) (hx : items[k]? = some x)
  (hQ : ∀ h', h'.get? it = some (iw (.ref l) (k + 1)) -> Heap.SameBut it s.heap h' -> Q (some x) { s with heap := h' }) : wpAny (model D.prog D.w) A (pyNext (.ref it)) Q E s := by
 have hT : s.TypeIs (.ref it) "list_iterator" := ⟨_, hit, rfl⟩
 skip
 refine wpAny_bind (wpAny_attempt (wpAny_callSpecial?_slot (name := Str.ofString "__next__") hT slot_listiter_next
  (wpAny_call_entry slot_listiter_next hT entry_listiter_next ?_ (args_listiter_next _))))
 exact nN hit hl hx fun h' h1 h2 => ⟨x, rfl, wpAny_pure (hQ h' h1 h2)⟩
theorem rQ {it l : Addr} {k : Nat} {items : Array Value} {Q : Option Value -> Shared -> Prop} (hh : A.handled = none) (hit : s.heap.get? it = some (iw (.ref l) k)) (hl : s.heap.IsList l items) (hx : items[k]? = none)
  (hQ : ∀ h', (∀ b o, b ≠ it -> s.heap.get? b = some o -> h'.get? b = some o) -> (∃ o, h'.get? it = some o) -> Q none { s with heap := h' }) : wpAny (model D.prog D.w) A (pyNext (.ref it)) Q E s := by
 have hT : s.TypeIs (.ref it) "list_iterator" := ⟨_, hit, rfl⟩
 skip
 refine wpAny_bind (wpAny_attempt (wpAny_callSpecial?_slot (name := Str.ofString "__next__") hT slot_listiter_next
  (wpAny_call_entry slot_listiter_next hT entry_listiter_next ?_ (args_listiter_next _))))
 refine vI (show A.in1.handled = none from hh) hit hl hx fun h' e oe vs k1 k2 k3 k4 k5 k6 k7 => ?_
 refine wpAny_bind (wpAny_isInstance (T := "StopIteration") (b := true) ⟨_, k4, k5⟩ isSubtype_stop ?_)
 exact wpAny_pure (hQ h' k1 k2)
end
noncomputable def AP (i : Nat) (asg : AV -> AV -> (AV -> RS) -> RS) (b e : AV -> ab -> RS) (n : Nat) : AV -> ab -> RS :=
 @Nat.rec (fun _ => AV -> ab -> RS) (fun _ _ => .fail) (fun _ ih Z σ => (σ.look i).j6 fun l j => l.nJ σ fun a => (a.bB j).opt (fun y => asg Z y fun Z => (b Z (σ.put i (.iter l (Nat.succ j)))).turn ih) (e Z (σ.put i .junk))) n
noncomputable def DD (N : Nat) (asg : AV -> AV -> (AV -> RS) -> RS) (d : DE) (b e : DS) : DS := fun ih Z σ => (d ih Z σ).aX fun v Z σ => v.gX fun i => AP i asg (b ih) (e ih) N Z σ
inductive EL (C : Cx) (env : Env) (W1 : Gh) (it : Addr) (i : Nat) (F : Nat -> AV -> ab -> RS) (res : RS) (n : Nat) (s : Shared) : Prop
 | mk (W' : Gh) (Z' : AV) (σ' : ab) (w : W1.le W') (T : St C env W' Z' σ' s) (hw : W' it = .bu i) (hf : F n Z' σ' = res)
theorem wL {N : Nat} {t ie : Expr} {b e : List Stmt} {pos : Pos} {asg : AV -> AV -> (AV -> RS) -> RS} {d : DE} {db de : DS} (hq : C.q = true) (hfs : ∀ env x, foldedSetIterable ie env x = pure x) (ha : oY C t asg) (h1 : aS C lv ie d) (h2 : dR C lv b db) (h3 : dR C lv e de) :
  hM C lv (.For t ie b e pos) (DD N asg d db de) := fun r ih A env W Z σ s P hne => by
 refine aW (P := fun r => wpAny _ _ _ (aO C env W r) _ _) hne fun v l1 s1 e1 e3 => ?_
 refine ae (AV.eQ e3) fun i hv e4 => ?_
 subst hv
 rw [e4] at e3 ⊢
 generalize hres : AP i asg (db ih) (de ih) N l1 s1 = res at e3 ⊢
 refine nz (wpAny_mono (h1 r ih A env W Z σ s P _ _ _ e1) (fun x sa ha1 => af ha1 fun W1 w1 T1 r1 => ?_) fun _ _ x => x) (hfs env)
 induction r1 using RV.cg with
 | mk it hit =>
 induction N using Nat.casesOn with
 | zero => exact absurd hres.symm e3
 | succ N =>
 refine ag (AO.gV (o := s1.look i) fun q => e3 (hres.symm.trans q)) fun l0 j0 ho0 _ => ?_
 refine ae (kc T1.1 (ab.aw ho0 fun x => AO.noConfusion x) hit) fun xl0 i01 _ => ?_
 have hT : sa.TypeIs (.ref it) "list_iterator" := ⟨_, i01, rfl⟩
 refine wpAny_pyIter_slot hT slot_listiter_iter (wpAny_call_entry slot_listiter_iter hT entry_listiter_iter ?_ (args_listiter_iter _))
 skip
 refine wpAny_pure ⟨_, rfl, "list_iterator", _, hT, slot_listiter_next.lookup, ?_⟩
 refine kP (EL C env W1 it i (AP i asg (db ih) (de ih)) res) (fun n s' hI => ?_) (N + 1) (.mk W1 l1 s1 (.refl W1) T1 hit hres)
 induction hI using EL.casesOn with
 | mk W' Z' σ' w' T' hw' hf =>
 induction n using Nat.casesOn with
 | zero => exact absurd hf.symm e3
 | succ n =>
  refine ag (AO.gV (o := σ'.look i) fun q => e3 (hf.symm.trans q)) fun l j ho e5 => ?_
  have hf := e5.symm.trans hf
  refine ag (AV.mX fun q => e3 (hf.symm.trans q)) fun m a hl e6 => ?_
  have hf := e6.symm.trans hf
  clear e5 e6
  refine ae (kc T'.1 (ab.aw ho fun x => AO.noConfusion x) hw') fun xl i1 i2 => aY (eF T'.1 hl i2) fun la items ep hxl l2 l3 l4 l5 => ?_
  subst hxl
  refine (l5.bB j).elim (fun h => ?_) fun h => bI h.2 fun y hy => ?_
  ·obtain rfl : de ih Z' (σ'.put i .junk) = res := (congrArg (AV.opt · _ _) h.1).symm.trans hf
   exact rQ (P.hn hq) i1 (aH l2) (Array.getElem?_toList ▸ h.2) fun h' k1 k2 => .none (wpAny_mono (h3 r ih A env W' _ _ _ (P.next (T'.fG (t := s'.toks) (o := .junk) hw' k1 k2 trivial) (w1.trans w')) e3) (fun f sb hb => hb.up (w1.trans w')) fun _ _ x => x)
  ·have hf := (AV.eU h.1 _ _).symm.trans hf
   refine ae (ha Z' (a.bB j) _ fun q => e3 (hf.symm.trans q)) fun Z2 ea wa => ?_
   have hf : (db ih Z2 (σ'.put i (.iter l (j + 1)))).turn (AP i asg (db ih) (de ih) n) = res := ea.symm.trans hf
   refine pJ i1 (aH l2) (Array.getElem?_toList ▸ hy.1) fun h' hit' hs => .some (fun _ _ => fI hit' rfl rfl (by decide)) ?_
   refine wpAny_mono (wa A env _ _ _ y P.op P.hn (T'.fG (t := s'.toks) (o := .iter l (j + 1)) hw' (aL hs) ⟨_, hit'⟩ ⟨_, hit', i2⟩) hy.2) (fun _ sb hb => ae hb fun W4 w4 T4 => ?_) fun _ _ x => x
   exact wpAny_mono (h2 r ih A env W4 _ _ _ (P.next T4 ((w1.trans w').trans w4)) (j9 hf e3)) (fun f sc hc => nR hf e3 ((w1.trans w').trans w4) hc fun W5 l5 s5 w5 T5 h5 => .mk W5 l5 s5 ((w'.trans w4).trans w5) T5 (w5.bu (w4.bu hw')) h5) fun _ _ x => x
theorem iD {b : List Stmt} {h₀ : ExceptHandler} {hs : List ExceptHandler} {pos : Pos} {db : DS} (h1 : dR C lv b db) : hM C lv (.Try b (h₀ :: hs) [] [] pos) db := fun r ih A env W Z σ s P hne =>
 wpAny_Try_except (wpAny_mono (h1 r ih A env W Z σ s P hne) (fun fl sb hb => hb.yg (.refl W)) fun _ _ x => x.elim)
end
section
open PySem PyProof.Rows
variable {C : Cx} {lv : Nat} {q : Bool}
inductive Bu (h : Heap) (Cl : Addr) (mN : Str -> Option Value) : Prop
 | mk (nm q : Str) (N : Addr) (bs : List Value) (sn : List Str) (sub : List Value) (col : Option Bool) (dd : Option Addr) (k0 k1 k2 k3 k5 : Option Value) (g1 : h.get? Cl = some (excClassObj nm q Cl N bs [.type "object"] true sn sub false col dd k0 k1 k2 k3 k5 "object.__new__")) (g2 : h.Ns N mN)
structure ClsAt (Cl : Addr) (mN : Str -> Option Value) : Prop where
 at' : Bu D.B Cl mN
 ga : mN "__getattribute__" = none
 gt : mN "__getattr__" = none
 sa : mN "__setattr__" = none
theorem ClsAt.look {Cl : Addr} {mN : Str -> Option Value} (K : ClsAt Cl mN) {W : Gh} {σ : ab} {s : Shared} (I : Inv W σ s) : Bu s.heap Cl mN := by
 cases K.at' with
 | mk nm q N bs sn sub col dd k0 k1 k2 k3 k5 h1 g2 => exact .mk nm q N bs sn sub col dd k0 k1 k2 k3 k5 (I.az _ _ (I.base _ _ h1)) (g2.imp fun o h => h.imp fun es h => h.imp fun ep h => ⟨I.az _ _ (I.base _ _ h.1), h.2⟩)
theorem ClsAt.az {Cl : Addr} {mN : Str -> Option Value} (K : ClsAt Cl mN) {W : Gh} {σ : ab} {s : Shared} (I : Inv W σ s) : ∃ o, W Cl = .az o := by
 cases K.at' with
 | mk nm q N bs sn sub col dd k0 k1 k2 k3 k5 h1 g2 => exact ⟨_, I.base _ _ h1⟩
theorem RV.handed {W : Gh} {v : AV} {x : Value} (r : RV W v x) : handedOut x = pure x := by cases r <;> rfl
noncomputable def fD (q : Bool) (name : Str) (F : ab -> AV -> (AV -> ab -> R) -> R) : Prop :=
 ∀ σ x k v Z σf, F σ x k = .val v Z σf -> ∃ z σ', k z σ' = .val v Z σf /\ ∀ A W s vx, cP 1 A -> (q = true -> A.handled = none) -> Inv W σ s -> RV W x vx -> wpAny (model D.prog D.w) A (getAttr vx name true) (aj W s z σ') No s
noncomputable def dD (q : Bool) (name : Str) (F : ab -> AV -> AV -> (ab -> RS) -> RS) : Prop :=
 ∀ σ x v k, F σ x v k ≠ .fail -> ∃ σ', F σ x v k = k σ' /\ ∀ A W s vx vv, cP 1 A -> (q = true -> A.handled = none) -> Inv W σ s -> RV W x vx -> RV W v vv ->
  wpAny (model D.prog D.w) A (setAttr vx name vv) (fun _ s' => ∃ W', W.le W' /\ Inv W' σ' s' /\ aJ W s.heap s'.heap) No s
inductive Cc (W : Gh) (h : Heap) (i : Nat) (a : Addr) (Cl : Addr) (l : AV) : Prop
 | mk (o : Obj) (mA : Str -> Option Value) (d : Addr) (e1 : h.get? a = some o) (e2 : o.cls = .ref Cl) (e3 : ∀ c, o.data ≠ .cls c) (e4 : o.dict = some d) (e5 : W d = .sub i) (e6 : h.Ns1 d mA) (e7 : ∀ x, x ∉ D.fields Cl -> mA x = none)
  (e8 : ∀ (k : Nat) (x : Str), (D.fields Cl)[k]? = some x -> Slot W (l.bB k) (mA x)) (hi : h.Inst a Cl mA)
theorem Gh.CZ {W : Gh} {a d : Addr} {i j : Nat} (ha : W a = .bu i) (hd : W d = .sub j) : d ≠ a := fun e => cn.noConfusion (hd.symm.trans (e ▸ ha))
theorem Gh.C0 {W : Gh} {a d : Addr} {i : Nat} {o : Obj} (ha : W a = .bu i) (hd : W d = .az o) : a ≠ d := fun e => cn.noConfusion (hd.symm.trans (e ▸ ha))
theorem m9 {W : Gh} {σ : ab} {s : Shared} {i : Nat} {Cl : Addr} {l : AV} {a : Addr} (I : Inv W σ s) (h : σ.At i (.inst Cl l)) (ha : W a = .bu i) : Cc W s.heap i a Cl l :=
 a8 (cY I h ha) fun o mA e1 e2 e3 hd e7 e8 => af hd fun d e4 e5 e6 => .mk o mA d e1 e2 e3 e4 e5 e6 e7 e8 ⟨o, e1, e2, e3, .inr ⟨d, e4, Gh.CZ ha e5, e6⟩⟩
noncomputable def xK (Cl k : Nat) (σ : ab) (x : AV) (kk : AV -> ab -> R) : R := x.fA fun i => (σ.look i).nI fun c l => R.guard (Nat.beq c Cl) (l.at k fun v_ => (kk v_ σ))
theorem iQ {Cl : Addr} {k : Nat} {name : Str} {mN : Str -> Option Value} (K : ClsAt Cl mN) (hf : (D.fields Cl)[k]? = some name) (hna : mN name = none) (hB : typeLookup (.type "object") name = pure none) : fD q name (xK Cl k) := fun σ x kk v Z σf h => by
 refine ae (AV.cu h) fun i hx h1 => ?_; refine aa hx ?_
 refine ag (AO.jg h1) fun c l ho h2 => ?_
 refine ba (R.ah h2) fun hc h3 => ?_
 obtain rfl := Nat.eq_of_beq_eq_true hc
 refine ba (AV.jr h3) fun hu h4 => ?_
 refine ⟨_, _, h4, fun A W s vx _ _ I r => ?_⟩
 induction r using RV.cg with
 | mk a ea =>
  cases m9 I (ab.aw ho fun x => AO.noConfusion x) ea with
  | mk o mA d e1 e2 e3 e4 e5 e6 e7 e8 hi =>
   cases K.look I with
   | mk nm q N bs sn sub col dd k0 k1 k2 k3 k5 g1 g2 =>
    exact ae ((e8 k name hf).val hu) fun y hy ry => load_attr g1 g2 K.ga hna hB hi hy ry.handed ⟨W, .refl W, I.tok _, aJ.refl W _, ry⟩
noncomputable def o7 (Cl k : Nat) (σ : ab) (x v : AV) (kk : ab -> RS) : RS := x.gX fun i => (@AO.rec (fun _ => RS) (fun _ _ => .fail) (fun _ _ _ => .fail) (fun _ _ => .fail) .fail (fun c l => RS.guard (Nat.beq c Cl) (kk (σ.put i (.inst c (l.put v k))))) (fun _ => .fail) (fun _ _ => .fail) (σ.look i))
theorem y5 {Cl k : Nat} {σ : ab} {x v : AV} {kk : ab -> RS} (h : o7 Cl k σ x v kk ≠ .fail) : ∃ i l, x = .ref i /\ σ.At i (.inst Cl l) /\ o7 Cl k σ x v kk = kk (σ.put i (.inst Cl (l.put v k))) := by
 refine ae (AV.eQ h) fun i q1 e1 => ?_; obtain rfl := q1
 have e1 : o7 Cl k σ (.ref i) v kk = _ := e1
 rw [e1] at h
 cases ho : σ.look i <;> rw [ho] at h <;> first | exact absurd rfl h | skip
 rename_i c l
 refine ba (RS.fX (b := Nat.beq c Cl) (r := kk (σ.put i (.inst c (l.put v k)))) h) fun g e2 => ?_
 obtain rfl := Nat.eq_of_beq_eq_true g
 refine ⟨i, l, rfl, ab.aw ho fun x => AO.noConfusion x, e1.trans ?_⟩
 refine aa ho ?_; exact e2
theorem pC {Cl : Addr} {k : Nat} {name : Str} {W : Gh} {σ : ab} {s : Shared} {i : Nat} {a d : Addr} {l v : AV} {vv : Value} {o : Obj} {mA : Str -> Option Value} {h' : Heap} (t : Nat) (hf : (D.fields Cl)[k]? = some name) (d4 : (D.fields Cl).Nodup) (I : Inv W σ s) (ea : W a = .bu i) (rv : RV W v vv)
  (e1 : s.heap.get? a = some o) (e2 : o.cls = .ref Cl) (e3 : ∀ c, o.data ≠ .cls c) (e4 : o.dict = some d) (e5 : W d = .sub i) (e7 : ∀ x, x ∉ D.fields Cl -> mA x = none) (e8 : ∀ (k : Nat) (x : Str), (D.fields Cl)[k]? = some x -> Slot W (l.bB k) (mA x))
  (I' : h'.Inst a Cl fun y => if y = name then some vv else mA y) (hs : ∀ b ob, b ≠ a -> (∀ o₀ dx, s.heap.get? a = some o₀ -> o₀.dict = some dx -> b ≠ dx) -> s.heap.get? b = some ob -> h'.get? b = some ob)
  (hx : ∃ o₁, h'.get? a = some o₁ /\ o₁.cls = o.cls /\ o₁.data = o.data /\ o₁.slots = o.slots /\ ∀ dx, o.dict = some dx -> o₁.dict = some dx) :
  ∃ W', W.le W' /\ Inv W' (σ.put i (.inst Cl (l.put v k))) { s with heap := h', toks := t } /\ aJ W s.heap h' := by
 refine j7 hx fun o1 f1 f2 f3 _ f5 => ?_
 have keep : ∀ b ob, b ≠ a -> b ≠ d -> s.heap.get? b = some ob -> h'.get? b = some ob := fun b ob h1 h2 h3 => hs b ob h1 (fun o₀ dx q1 q2 => by
  cases e1.symm.trans q1
  refine oE (e4.symm.trans q2) ?_
  exact h2) h3
 have fns : h'.Ns1 d fun y => if y = name then some vv else mA y := m6 I' fun o2 f6 _ _ f9 => by
  cases f1.symm.trans f6
  rcases f9 with ⟨f9, _⟩ | ⟨d', f9, _, f10⟩
  ·exact nomatch (f5 d e4).symm.trans f9
  ·cases (f5 d e4).symm.trans f9
   exact f10
 refine ⟨W, .refl W, I.upd (t := t) ea (fun b ob _ h1 h2 eb => keep b ob (fun q => h1 (q ▸ ea)) (fun q => h2 (q ▸ e5)) eb) (fun b hb => ?_) ⟨o1, _, f1, f2.trans e2, fun c q => e3 c (f3.symm.trans q), ⟨d, f5 d e4, e5, fns⟩, fun x hx => ?_, fun j x hj => ?_⟩,
  .of fun b ob hb eb => keep b ob (fun q => cn.noConfusion (hb.symm.trans ((congrArg W q).trans ea))) (fun q => cn.noConfusion (hb.symm.trans ((congrArg W q).trans e5))) eb⟩
 ·by_cases q1 : b = a
  ·exact ⟨o1, q1 ▸ f1⟩
  by_cases q2 : b = d
  ·exact ak fns fun od _ _ h _ => ⟨od, q2 ▸ h⟩
  ·exact bI (I.ex b (by rcases hb with hb | hb <;> refine aa hb ?_ <;> exact fun x => nomatch x)) fun ob eb => ⟨ob, keep b ob q1 q2 eb⟩
 ·exact (if_neg fun (q : x = name) => hx (q ▸ List.mem_iff_getElem?.mpr ⟨k, hf⟩)).trans (e7 x hx)
 ·by_cases hjk : j = k
  ·subst hjk
   refine oE (hf.symm.trans hj) ?_
   refine aa (if_pos rfl) ?_
   exact (AV.ic v j l).elim (fun q => .inr ⟨vv, rfl, q.symm ▸ rv⟩) .inl
  ·refine aa (if_neg fun (q : x = name) => hjk ((List.getElem?_inj (List.getElem?_eq_some_iff.mp hj).1 d4).mp (hj.trans (q ▸ hf).symm))) ?_
   exact (AV.fy v k j l hjk).elim (fun q => q.symm ▸ e8 j x hj) .inl
theorem iT {Cl : Addr} {k : Nat} {name : Str} {mN : Str -> Option Value} (K : ClsAt Cl mN) (hf : (D.fields Cl)[k]? = some name) (d4 : (D.fields Cl).Nodup) (hlen : (D.fields Cl).length <= 1000) (hna : mN name = none) (hB : typeLookup (.type "object") name = pure none) :
  dD q name (o7 Cl k) := fun σ x v kk h => by
 refine aN (y5 h) fun i l hx hat e => ?_; subst hx
 refine ⟨_, e, fun A W s vx vv _ _ I r rv => ?_⟩
 induction r using RV.cg with
 | mk a ea =>
  cases m9 I hat ea with
  | mk o mA d e1 e2 e3 e4 e5 e6 e7 e8 hi =>
   cases K.look I with
   | mk nm q N bs sn sub col dd k0 k1 k2 k3 k5 g1 g2 =>
    exact store_attr PySem.F.store_object g1 g2 K.sa hna hB (bI (K.az I) fun _ f => Gh.C0 ea f) hi (fun h' tk' I' hs hx => pC tk' hf d4 I ea rv e1 e2 e3 e4 e5 e7 e8 I' hs (hx o e1))
     (ns := D.fields Cl) (fun y hy => Classical.byContradiction fun q => hy (e7 y q)) (Nat.le_trans hlen (by decide))
noncomputable def Bs (F : ab -> AV -> (AV -> ab -> R) -> R) (d : DE) : DE := fun ih Z σ => (d ih Z σ).bind fun v Z σ => F σ v fun z σ => .val z Z σ
theorem AU {e : Expr} {name : Str} {pos : Pos} {F : ab -> AV -> (AV -> ab -> R) -> R} {d : DE} (hF : fD C.q name F) (he : ∀ env, eval (.Attribute e name pos) env = (do
   let o <- eval e env
   standAt pos.atName
   let r <- holding [o] (getAttr o name true)
   letTemporaryGo e o r
   pure r)) (h1 : aS C lv e d) : aS C lv (.Attribute e name pos) (Bs F d) := fun r ih A env W Z σ s P v Z' σ' h => by
 refine ak (R.ai h) fun x l1 s1 e1 h => ?_
 refine ag (hF _ _ _ _ _ _ h) fun z s2 h w => ?_
 refine R.ve h ?_
 refine Attribute_any_ (wpAny_mono (h1 r ih A env W Z σ s P _ _ _ e1) (fun y sa hy => ?_) fun _ _ x => x) (he env)
 refine af hy ?_; clear hy; intro W1 w1 T1 r1
 exact wpAny_mono (w A W1 sa y P.op P.hn T1.1 r1) (fun _ _ hv => hv.frame T1 w1) fun _ _ x => x
noncomputable def qs (F : ab -> AV -> AV -> (ab -> RS) -> RS) (dv d : DE) : DS := fun ih Z σ => (dv ih Z σ).aX fun v Z σ => (d ih Z σ).aX fun x Z σ => F σ x v fun σ => .next Z σ
theorem pL {o : Expr} {name : Str} {p : Pos} {env : Env} {M : Model} {A : Around} {E : Value -> Shared -> Prop} {s : Shared} {v : Value} {Q : Unit -> Shared -> Prop} (h : wpAny M A (eval o env) (fun ov s1 => wpAny M A (setAttr ov name v) (fun _ => Q ()) E s1) E s) :
  wpAny M A (assign (.Attribute o name p) env v) Q E s := by
 rw [arm_assign_Attribute]
 refine wpAny_bind (wpAny_holding (wpAny_mono h (fun ov s1 h1 => ?_) fun _ _ x => x))
 exact wpAny_bind (wpAny_standAt (wpAny_bind (wpAny_holding (wpAny_mono h1 (fun _ s2 h2 => wpAny_release h2) fun _ _ x => x))))
theorem oX {o value : Expr} {name : Str} {p pos : Pos} {F : ab -> AV -> AV -> (ab -> RS) -> RS} {dv d : DE} (hF : dD C.q name F) (hs : ∀ env, swapsWithSole [.Attribute o name p] value pos.line env = pure false) (hw : ∀ env, swappedStores [.Attribute o name p] value env = pure none)
  (h1 : aS C lv value dv) (h2 : aS C lv o d) : hM C lv (.Assign [.Attribute o name p] value pos) (qs F dv d) := fun r ih A env W Z σ s P hne => by
 refine aW (P := fun r => wpAny _ _ _ (aO C env W r) _ _) hne fun v l1 s1 e1 e3 => ?_
 refine aW (P := fun r => wpAny _ _ _ (aO C env W r) _ _) e3 fun x l2 s2 f1 f3 => ?_
 refine ae (hF _ _ _ _ f3) fun s3 g1 g2 => ?_
 refine aa g1 ?_
 refine wpAny_Assign_stores (wpAny_mono (h1 r ih A env W Z σ s P _ _ _ e1) (fun vv sa ha => ?_) fun _ _ x => x) (hs env) (hw env)
 refine af ha ?_; clear ha; intro W1 w1 T1 r1
 skip
 refine pL (wpAny_mono (h2 r ih A env W1 _ _ sa (P.next T1) _ _ _ f1) (fun ov sb hb => ?_) fun _ _ x => x)
 refine af hb ?_; clear hb; intro W2 w2 T2 r2
 refine wpAny_mono (g2 A W2 sb ov vv P.op P.hn T2.1 r2 (r1.mono w2.bM)) (fun _ sc hc => ?_) fun _ _ x => x
 refine af hc ?_; clear hc; intro W3 w3 I3 k3
 exact ⟨rfl, W3, (w1.trans w2).trans w3, T2.value w3 I3 k3⟩
noncomputable def yA (G : ab -> AV -> (AV -> ab -> R) -> R) (F : ab -> AV -> AV -> (ab -> RS) -> RS) (f : ab -> AV -> AV -> (AV -> ab -> R) -> R) (d dv : DE) : DS := fun ih Z σ => (d ih Z σ).aX fun x Z σ => (G σ x fun y σ => .val y Z σ).aX fun y Z σ => (dv ih Z σ).aX fun v Z σ =>
 (f σ y v fun z σ => .val z Z σ).aX fun z Z σ => F σ x z fun σ => .next Z σ
theorem eJ {o value : Expr} {name : Str} {p pos : Pos} {op : Operator} {G : ab -> AV -> (AV -> ab -> R) -> R} {F : ab -> AV -> AV -> (ab -> RS) -> RS} {f : ab -> AV -> AV -> (AV -> ab -> R) -> R} {d dv : DE} (hG : fD C.q name G) (hF : dD C.q name F) (hf : fR C.q (inplaceOp op) f)
  (h1 : aS C lv o d) (h2 : aS C lv value dv) : hM C lv (.AugAssign (.Attribute o name p) op value pos) (yA G F f d dv) := fun r ih A env W Z σ s P hne => by
 refine aW (P := fun r => wpAny _ _ _ (aO C env W r) _ _) hne fun x l1 s1 e1 e3 => ?_
 refine aW (P := fun r => wpAny _ _ _ (aO C env W r) _ _) e3 fun y l2 s2 f1 f3 => ?_
 refine ag (hG _ _ _ _ _ _ f1) fun y' s2' f4 f5 => ?_
 cases f4
 refine aW (P := fun r => wpAny _ _ _ (aO C env W r) _ _) f3 fun v l3 s3 g1 g3 => ?_
 refine aW (P := fun r => wpAny _ _ _ (aO C env W r) _ _) g3 fun z l4 s4 j1 j3 => ?_
 refine ag (hf _ _ _ _ _ _ _ j1) fun z' s4' j4 j5 => ?_
 cases j4
 refine ae (hF _ _ _ _ j3) fun s5 k1 k2 => ?_
 refine aa k1 ?_
 refine wpAny_AugAssign_AttributeAny (wpAny_mono (h1 r ih A env W Z σ s P _ _ _ e1) (fun vx sa ha => ?_) fun _ _ x => x)
 refine af ha ?_; clear ha; intro W1 w1 T1 r1
 refine wpAny_mono (f5 A W1 sa vx P.op P.hn T1.1 r1) (fun vy sb hb => ?_) fun _ _ x => x
 refine af (hb.frame T1 (.refl W1)) fun W2 w2 T2 r2 => ?_
 refine wpAny_mono (h2 r ih A env W2 _ _ sb (P.next T2 (w1.trans w2)) _ _ _ g1) (fun vv sc hc => ?_) fun _ _ x => x
 refine af hc ?_; clear hc; intro W3 w3 T3 r3
 refine wpAny_mono (j5 A W3 sc vy vv P.op P.hn T3.1 (r2.mono w3.bM) r3) (fun vz sd hd => ?_) fun _ _ x => x
 refine af (hd.frame T3 (.refl W3)) fun W4 w4 T4 r4 => ?_
 refine wpAny_mono (k2 A W4 sd vx vz P.op P.hn T4.1 (r1.mono ((w2.trans w3).trans w4).bM) r4) (fun _ se he => ?_) fun _ _ x => x
 refine af he ?_; clear he; intro W5 w5 I5 k5
 exact ⟨rfl, W5, (((w1.trans w2).trans w3).trans w4).trans w5, T4.value w5 I5 k5⟩
end
section
open PySem PySem.W PyProof.Rows Builtin Builtin.ObjectAttr Builtin.Getset_descriptor
variable {C : Cx} {lv : Nat} {q : Bool}
theorem il {K : Frag} (X : K.In D.B) {W : Gh} {σ : ab} {s : Shared} (I : Inv W σ s) : K.In s.heap := fun a o e => I.az _ _ (I.base _ _ (X a o e))
section
variable {A : Around} {s : Shared} {K : Frag} {x Cl p : Addr} {R : Result -> Shared -> Prop}
noncomputable def fq (i : Nat) (v : Value) (o : Obj) : Obj := { o with slots := (o.slots ++ Array.replicate (i + 1 - o.slots.size) none).setIfInBounds i (some v) }
theorem yh {ox : Obj} {od : Option Obj} {v : Value} {i : Nat} (X : K.In s.heap) (I : PySem.W.InstAt s.heap x ox Cl od) (hp : slotIn K p Cl = some i) (hi : i < 1000)
  (h : R (.ok (.ret .none)) { s with heap := s.heap.update x (fq i v) }) : codeAny (model D.prog D.w) A (.call (.builtin "member_descriptor.__set__") ⟨[.ref p, .ref x, v], []⟩) R s := by
 refine lH (slot_of X hp) fun n tn owner behind tb d sl cd ho hc hm hb q12 => ?_; obtain rfl := q12
 obtain ⟨hh, g, dr, t, os⟩ := s
 have L0 := I.type (M := model D.prog D.w)
 have L1 := looks_mroIn (M := model D.prog D.w) X hm
 have L2 : Looks (model D.prog D.w) hh (Slots.slotNamesOf (.ref Cl)) cd.slotNames := (looks_clsIn X hc).andThen .now
 have hx := I.at_
 dsimp only at ho hx L0 L1
 have f0 := looks_field (M := model D.prog D.w) ho 0 (v := .str n tn) rfl
 have f1 := looks_field (M := model D.prog D.w) ho 1 (v := owner) rfl
 have f3 := looks_field (M := model D.prog D.w) ho 3 (v := .builtin "proto.slot#set") rfl
 have f4 := looks_field (M := model D.prog D.w) ho 4 (v := .int behind tb) rfl
 have f5 : Looks (model D.prog D.w) hh (descrItself (.ref p)) [.ref p] := ((Looks.ld (part := none) ho).andThen .now).andThen (Looks.of_pure (by kernel_rfl))
 refine codeAny_call_builtin KF.slot_mset.plain KF.entry_mset (KF.slot_mset.check _ _ _ _ _ _ _ _ ⟨_, ho, rfl⟩ (KF.args_mset _ _ _) ?_)
 unfold Builtin.«member_descriptor.__set__» descrSet descrStoreThrough descrCheckInstance descrNameAndClass isInstance
 repeat lk
 refine ⟨Code.quiet_builtin _ (by decide +kernel), codeAny_builtin KF.entry_slotset ?_⟩
 unfold Builtin.«proto.slot#set» Slots.target
 repeat lk
 refine aa (if_neg hb) ?_
 refine wpAny_pure (wpAny_bind ?_)
 unfold setSlotAt
 dsimp only
 refine aa (if_neg (by rw [sizeLine_eq]; omega)) ?_
 exact wpAny_updatePart hx (wpAny_pure h)
end
theorem tZ (i : Nat) (v : Value) (o : Obj) : (fq i v o).isFreed = o.isFreed := by
 obtain ⟨a, b, c, d⟩ := o
 induction c using PySem.Data.casesOn <;> rfl
theorem tQ {i k : Nat} {v : Value} {o : Obj} : ((fq i v o).slots[k]?).join = if k = i then some v else (o.slots[k]?).join := by
 show (((o.slots ++ Array.replicate (i + 1 - o.slots.size) none).setIfInBounds i (some v))[k]?).join = _
 refine aa (Array.getElem?_setIfInBounds) ?_
 by_cases h : k = i
 ·refine aa h ?_
  refine aa (if_pos rfl) ?_; refine aa (if_pos rfl) ?_; refine aa (if_pos (by simp; omega)) ?_; rfl
 ·refine aa (if_neg (fun e => h e.symm)) ?_; refine aa (if_neg h) ?_; refine aa (Array.getElem?_append) ?_
  split
  ·rfl
  ·rename_i h2
   refine aa (Array.getElem?_eq_none (Nat.le_of_not_lt h2)) ?_; refine aa (Array.getElem?_replicate) ?_
   split <;> rfl
structure rm (K : Frag) : Prop where
 x : K.In D.B
 ga : findIn K (.ref D.nodeC) "__getattribute__" = some (some (.builtin "object.__getattribute__"))
 gt : findIn K (.ref D.nodeC) "__getattr__" = some none
 sa : findIn K (.ref D.nodeC) "__setattr__" = some (some (.builtin "object.__setattr__"))
 po : plainOver K D.nodeC = true
structure kR (K : Frag) (k : Nat) (name : Str) (p : Addr) : Prop where
 lt : k < 3
 get : ∀ od, findObj K D.nodeC od name = some (.bind (.builtin "member_descriptor.__get__") (.ref p))
 set : takerIn K D.nodeC name = some (some (.ref p))
 ty : typeIn K (.ref p) = some (.type "member_descriptor")
 sl : slotIn K p D.nodeC = some k
theorem wO {W : Gh} {σ : ab} {s : Shared} {i : Nat} {l : AV} {a : Addr} (I : Inv W σ s) (h : σ.At i (.node l)) (ha : W a = .bu i) :
  ∃ (o : Obj) (d : Addr), s.heap.get? a = some o /\ o.cls = .ref D.nodeC /\ (∀ c, o.data ≠ .cls c) /\ o.dict = some d /\ W d = .sub i /\ (∃ od, s.heap.get? d = some od) /\ ∀ k, k < 3 -> Mine.Slot W (l.bB k) ((o.slots[k]?).join) := cY I h ha
theorem ji {o : Obj} (h : ∀ c, o.data ≠ .cls c) : notCls o = true := by
 unfold notCls
 split
 ·rename_i c e; exact absurd e (h c)
 ·rfl
noncomputable def r8 (k : Nat) (σ : ab) (x : AV) (kk : AV -> ab -> Mine.R) : Mine.R := x.fA fun i => (σ.look i).wi fun l => l.at k fun v_ => (kk v_ σ)
theorem kj {K : Frag} {k : Nat} {name : Str} {p : Addr} (N : rm K) (S : kR K k name p) : fD q name (r8 k) := fun σ x kk v Z σf h => by
 refine ae (AV.cu h) fun i q1 h1 => ?_; refine aa q1 ?_
 refine ae (AO.uW h1) fun l ho h2 => ?_
 refine ba (AV.jr h2) fun hu h3 => ?_
 have hat := ab.aw ho fun x => AO.noConfusion x
 refine ⟨_, _, h3, fun A W s vx _ _ I r => ?_⟩
 induction r using RV.cg with
 | mk a ea =>
  refine gZ (wO I hat ea) fun o d e1 e2 e3 e4 e5 hn8_7 e7 => ?_; obtain ⟨od, e6⟩ := hn8_7
  refine ae ((e7 k S.lt).val hu) fun y hy ry => ?_
  have Ia : PySem.W.InstAt s.heap a o D.nodeC (some od) := ⟨e1, e2, ji e3, by refine aa e4 ?_; exact e6⟩
  have Xs := il N.x I
  refine get_bind Xs Ia N.ga (S.get _) N.gt (wpAny_call (slot_get (s := { s with toks := s.toks + 1 }) Xs Ia S.sl hy ?_))
  show wpAny _ _ (handedOut y) _ _ _
  refine aa ry.handed ?_
  exact wpAny_pure ⟨W, .refl W, I.tok (s.toks + 1), aJ.refl W _, ry⟩
noncomputable def ky (k : Nat) (σ : ab) (x v : AV) (kk : ab -> RS) : RS := x.gX fun i => (@AO.rec (fun _ => RS) (fun _ _ => .fail) (fun _ _ _ => .fail) (fun _ _ => .fail) .fail (fun _ _ => .fail) (fun l => kk (σ.put i (.node (l.put v k)))) (fun _ _ => .fail) (σ.look i))
theorem xP {k : Nat} {σ : ab} {x v : AV} {kk : ab -> RS} (h : ky k σ x v kk ≠ .fail) : ∃ i l, x = .ref i /\ σ.At i (.node l) /\ ky k σ x v kk = kk (σ.put i (.node (l.put v k))) := by
 refine ae (AV.eQ h) fun i q1 e1 => ?_; obtain rfl := q1
 have e1 : ky k σ (.ref i) v kk = _ := e1
 rw [e1] at h
 cases ho : σ.look i <;> rw [ho] at h <;> first | exact absurd rfl h | skip
 rename_i l
 refine ⟨i, l, rfl, ab.aw ho fun x => AO.noConfusion x, e1.trans ?_⟩
 exact aa ho rfl
theorem kC {K : Frag} {k : Nat} {name : Str} {p : Addr} (N : rm K) (S : kR K k name p) : dD q name (ky k) := fun σ x v kk h => by
 refine aN (xP h) fun i l q2 hat e => ?_; obtain rfl := q2
 refine ⟨_, e, fun A W s vx vv _ _ I r rv => ?_⟩
 induction r using RV.cg with
 | mk a ea =>
  refine gZ (wO I hat ea) fun o d e1 e2 e3 e4 e5 hn12_7 e7 => ?_; obtain ⟨od, e6⟩ := hn12_7
  have Ia : PySem.W.InstAt s.heap a o D.nodeC (some od) := ⟨e1, e2, ji e3, by refine aa e4 ?_; exact e6⟩
  have Xs := il N.x I
  refine set_plain Xs Ia N.sa (osa_descr (s := { s with toks := s.toks + 1 }) KF.slot_mset Xs Ia N.po S.set S.ty (yh (s := { s with toks := s.toks + 1 }) Xs Ia S.sl (by have := S.lt; omega) ?_))
  have g1 : (s.heap.update a (fq k vv)).get? a = some (fq k vv o) := Heap.get?_update_self _ e1 (by rw [tZ]; exact (Heap.get?_some_iff.mp e1).2)
  have g2 : ∀ b ob, b ≠ a -> s.heap.get? b = some ob -> (s.heap.update a (fq k vv)).get? b = some ob := fun b ob hb eb => (Heap.get?_update_other _ _ (Ne.symm hb)).trans eb
  have hda : d ≠ a := by rintro rfl; rw [ea] at e5; exact nomatch e5
  refine ⟨W, .refl W, I.fG (t := s.toks + 1) ea g2 ⟨_, g1⟩ ⟨fq k vv o, d, g1, e2, e3, e4, e5, ⟨od, g2 d od hda e6⟩, fun j hj => ?_⟩, .of fun b ob hb eb => g2 b ob (by rintro rfl; rw [ea] at hb; exact nomatch hb) eb⟩
  refine aa tQ ?_
  by_cases hjk : j = k
  ·refine bw hjk ?_
   refine aa (if_pos rfl) ?_
   rcases AV.ic v j l with q | q <;> refine aa q ?_
   ·exact .inr ⟨vv, rfl, rv⟩
   ·exact .inl rfl
  ·refine aa (if_neg hjk) ?_
   rcases AV.fy v k j l hjk with q | q <;> refine aa q ?_
   ·exact e7 j hj
   ·exact .inl rfl
end
section
open PySem PySem.W PyProof.Rows
variable {C : Cx} {lv : Nat} {q : Bool}
theorem Inv.FY {W : Gh} {σ : ab} {s : Shared} {d : Addr} {i : Nat} (I : Inv W σ s) (hd : W d = .free) (hi : i < σ.next) (hx : ∃ o, s.heap.get? d = some o) : Inv (W.set d (.sub i)) σ s := by
 have le := Gh.aQ (l := .sub i) hd
 have dec (b : Addr) : b = d \/ b ≠ d := Classical.em _
 refine ⟨fun b o e => le.az (I.base b o e), fun b o e => ?_, fun b o e => ?_, fun b e => ?_, fun b e => ?_, fun j p h => ?_, fun j b c h1 h2 => ?_, fun j b h => ?_, I.gens, I.os, I.zN le fun _ _ _ e => e⟩
 ·rcases dec b with rfl | hb
  ·rw [Gh.aq] at e; cases e
  ·rw [Gh.aD _ _ hb] at e; exact I.az b o e
 ·rcases dec b with rfl | hb
  ·rw [Gh.aq] at e; exact nomatch e
  ·rw [Gh.aD _ _ hb] at e; exact I.kept b o e
 ·rcases dec b with rfl | hb
  ·rw [Gh.aq] at e; exact nomatch e
  ·rw [Gh.aD _ _ hb] at e; exact I.own b e
 ·rcases dec b with rfl | hb
  ·exact hx
  ·rw [Gh.aD _ _ hb] at e; exact I.ex b e
 ·refine ae (I.bu j p h) fun a e r => ?_
  exact ⟨a, le.bu e, r.keep le.bM e fun _ _ _ e => e⟩
 ·have hb : b ≠ d := by rintro rfl; rw [Gh.aq] at h1; cases h1
  have hc : c ≠ d := by rintro rfl; rw [Gh.aq] at h2; cases h2
  rw [Gh.aD _ _ hb] at h1
  rw [Gh.aD _ _ hc] at h2
  exact I.inj j b c h1 h2
 ·rcases dec b with rfl | hb
  ·rw [Gh.aq] at h
   rcases h with h | h
   ·cases h
   ·cases h; exact hi
  ·rw [Gh.aD _ _ hb] at h; exact I.nxt j b h
theorem Inv.FU {W : Gh} {σ : ab} {s : Shared} {h' : Heap} {t : Nat} {a d : Addr} {o : AO} (I : Inv W σ s) (ha : W a = .free) (hd : W d = .free) (hda : d ≠ a) (hxa : ∃ o, h'.get? a = some o) (hxd : ∃ o, h'.get? d = some o) (hk : Keeps W s.heap h')
  (ho : ∀ W' : Gh, W.le W' -> W' a = .bu σ.next -> W' d = .sub σ.next -> OR W' h' σ.next a o) : ∃ W', W.le W' /\ W' a = .bu σ.next /\ Inv W' (.cons σ.next o σ) { s with heap := h', toks := t } := by
 have I1 : Inv (W.set a (.bu σ.next)) (.cons σ.next .junk σ) { s with heap := h', toks := t } := I.new ha hxa hk trivial
 have hd1 : (W.set a (.bu σ.next)) d = .free := by refine aa (Gh.aD _ _ hda) ?_; exact hd
 have I2 := I1.FY (i := σ.next) hd1 (Nat.lt_succ_self _) hxd
 have ea : ((W.set a (.bu σ.next)).set d (.sub σ.next)) a = .bu σ.next := by refine aa (Gh.aD _ _ (Ne.symm hda)) ?_; exact Gh.aq ..
 have le : W.le ((W.set a (.bu σ.next)).set d (.sub σ.next)) := (Gh.aQ ha).trans (Gh.aQ hd1)
 have I3 := I2.fG (t := t) (h' := h') ea (fun _ _ _ e => e) hxa (ho _ le ea (Gh.aq ..))
 refine ⟨_, le, ea, ?_⟩
 have e : (ab.cons σ.next .junk σ).put σ.next o = .cons σ.next o σ := by rw [ab.kT, Nat.beq_refl]; rfl
 rw [e] at I3
 exact I3
noncomputable def R.jb (r : R) (k : ab -> R) : R := @R.rec (fun _ => R) .fail (fun v _ σ => (AV.lO (β := R) .fail (k σ) v)) r
theorem R.kM {r : R} {k : ab -> R} {v l : AV} {σ : ab} (h : r.jb k = .val v l σ) : ∃ l1 s1, r = .val .none l1 s1 /\ k s1 = .val v l σ := by
 induction r using R.casesOn with
 | fail => exact R.noConfusion h
 | val x l1 s1 =>
  induction x using AV.casesOn <;> first | exact R.noConfusion h | exact ⟨_, _, rfl, h⟩
section
variable {E : Value -> Shared -> Prop} {s : Shared}
theorem iO {C : Addr} {A : Around} {pos : Pos} {args : List (Bool × Sem Value)} {Q : Value -> Shared -> Prop} (hst : args.any (·.1) = false)
  (h : wpAny (model D.prog D.w) A (evalArgs (.ref C) true args []) (fun x s₁ => x.kw = [] /\ (∃ od cd sl, s₁.heap.get? C = some ⟨.type "type", od, .cls cd, sl⟩) /\ wpAny (model D.prog D.w) A (call (.ref C) x.pos) Q E s₁) E s) :
  wpAny (model D.prog D.w) A (callWith pos (.ref C) [] args []) Q E s := by
 unfold callWith
 refine wpAny_bind (wpAny_holding (wpAny_mono h (fun x s₁ h₁ => wpAny_bind (wpAny_standAt ?_)) fun _ _ x => x))
 obtain ⟨p, k⟩ := x
 refine nr h₁ ?_; clear h₁; intro hk hn2_1 hc; obtain ⟨od, cd, sl, hC⟩ := hn2_1
 obtain rfl : k = [] := hk
 obtain ⟨hh, g, d, t, os⟩ := s₁
 have f1 := tc_lookup
 refine wpAny_bind (m := keeperOf (.ref C)) ?_
 delta keeperOf specialOf
 repeat (any_goals (first | assumption | with_reducible refine wpAny_loadPart_at hC ?_ | with_reducible refine wpAny_load' hC ?_ | wp_step))
 refine aa (if_pos (by rfl)) ?_; refine aa hst ?_
 exact wpAny_bind (wpAny_mono hc (fun r s' hr => wpAny_bind (wpAny_holding (wpAny_point (wpAny_pure hr)))) fun _ _ x => x)
end
structure kE (K : Frag) (Cl : Addr) (f : Nat) (ao : AO) : Prop where
 x : K.In D.B
 makes : makesIn K Cl = true
 init : findIn K (.ref Cl) "__init__" = some (some (.ref (D.fn f).addr))
 fn : typeIn K (.ref (D.fn f).addr) = some (.type "function")
 kw : (D.fn f).kw = []
 nl : Nat.beq f jJ = false
 cls : ∃ od cd sl, D.B.get? Cl = some ⟨.type "type", od, .cls cd, sl⟩
 obj : ∀ (W : Gh) (h : Heap) (i : Nat) (a d : Addr), d ≠ a -> W a = .bu i -> W d = .sub i -> h.get? a = some (instObj Cl d) -> h.get? d = some emptyDict -> OR W h i a ao
noncomputable def z0 (f : Nat) (ao : AO) (d : DE) : DE := fun ih Z σ => (d ih Z σ).bind fun l Z σ => (ih f (.cons (.ref σ.next) l) (.cons σ.next ao σ)).jb fun σ' => .val (.ref σ.next) Z σ'
theorem pH {K : Frag} {Cl : Addr} {f : Nat} {ao : AO} (N : kE K Cl f ao) {r : Nat} {ih : CH} {A : Around} {W : Gh} {σ : ab} {s : Shared} {l l1 : AV} {σ' : ab} {vs : List Value} (hok : c4 r ih) (hr : cP (r + 1) A) (hh : A.handled = none) (hfr : ∃ l, A.frames = some l /\ cZ W l)
  (I : Inv W σ s) (rl : RL W l vs) (e : ih f (.cons (.ref σ.next) l) (.cons σ.next ao σ) = .val .none l1 σ') :
  wpAny (model D.prog D.w) A (call (.ref Cl) vs) (aj W s (.ref σ.next) σ') No s := by
 refine wpAny_call ?_
 have Xs := il N.x I
 obtain ⟨hp, g, dr, t, os⟩ := s
 refine make_core (makes_of Xs N.makes) (looks_findIn Xs N.init) (fun self => bind_fn Xs self N.fn) (.inl rfl) ?_
 have fr := I.free
 have k1 : ∀ b o, hp.get? b = some o -> ((hp.push emptyDict).push (instObj Cl hp.objs.size)).get? b = some o := fun b o e => Heap.get?_push_of_some _ (Heap.get?_push_of_some _ e)
 have ga : ((hp.push emptyDict).push (instObj Cl hp.objs.size)).get? (hp.objs.size + 1) = some (instObj Cl hp.objs.size) := by heap_get
 have gd : ((hp.push emptyDict).push (instObj Cl hp.objs.size)).get? hp.objs.size = some emptyDict := Heap.get?_push_of_some _ (Heap.get?_push_size _ rfl)
 have fa : W (hp.objs.size + 1) = .free := by
  refine Classical.byContradiction fun z => ?_
  refine bI (I.ex _ z) fun o e => ?_
  exact Nat.lt_irrefl _ (Nat.lt_of_lt_of_le (Heap.lt_size e) (Nat.le_succ _))
 refine af (I.FU (t := t) (o := ao) fa fr (Nat.ne_of_lt (Nat.lt_succ_self _)) ⟨_, ga⟩ ⟨_, gd⟩ (Keeps.bJ k1) fun W' le e1 e2 => N.obj W' _ _ _ _ (Nat.ne_of_lt (Nat.lt_succ_self _)) e1 e2 ga gd) fun W1 w1 ta I1 => ?_
 refine ae hfr ?_; clear hfr; intro fl hf1 hf2
 have hc := hok f _ _ _ l1 σ' e (A.under (.builtin "type.__call__" ⟨.ref Cl :: vs, []⟩)) W1 ⟨(hp.push emptyDict).push (instObj Cl hp.objs.size), g, dr, t, os⟩ _ (.ref (hp.objs.size + 1) :: vs) [] (.inl ⟨N.nl, rfl⟩) ⟨?_, ?_⟩ hh ⟨fl, ?_, hf2.le w1⟩ I1
  (.cons _ _ _ _ (.ref _ _ ta) (by show RL W1 l (vs ++ []); rw [List.append_nil]; exact rl.mono w1.bM)) (by refine aa N.kw ?_; rfl)
 ·rw [N.kw] at hc
  refine codeAny_mono hc (fun rr s' hv => ?_)
  refine wk hv ?_; clear hv; intro x q1 W2 w2 I2 k2 rx; obtain rfl := q1
  cases rx
  exact ⟨rfl, W2, w1.trans w2, I2, (aJ.of fun b o _ e => k1 b o e).trans w1 k2, .ref _ _ (w2.bu ta)⟩
 ·have := hr.1
  show A.depth + 1 + r <= 950
  lia
 ·have := hr.2
  show A.units + 1 + 12 * r <= 9800
  lia
 ·exact hf1
theorem zo {x : Str} {p pos : Pos} {K : Frag} {Cl : Addr} {f : Nat} {ao : AO} (N : kE K Cl f ao) (hq : C.q = true) (hx : C.sc.names.lookup x = some .globalImplicit) (hd : (x == ("__debug__" : Str)) = false) (hg : cG x (.ref Cl)) :
  aS C lv (.Call (.Name x p) [] [] pos) (z0 f ao dE) := fun r ih A env W Z σ s P v Z' σ' h => by
 refine ak (R.ai h) fun l l1 s1 e1 h => ?_
 refine ag (R.kM h) fun l2 s2 e2 h => ?_
 refine R.ve h ?_
 cases e1
 refine yl (N.cls) fun od cd sl X => ?_
 refine Call_Name rfl (c5 hx hg hd P.st ?_)
 refine iO rfl (PySem.evalArgs_none ⟨rfl, ⟨od, cd, sl, P.st.1.bK _ _ X⟩, ?_⟩)
 exact wpAny_mono (pH N P.ok ⟨by have := P.room.1; have := P.lv1; omega, by have := P.room.2; have := P.lv1; omega⟩ (P.hn hq) (P.uj (.refl W)) P.st.1 .nil e2) (fun _ _ hv => hv.frame P.st (.refl W)) fun _ _ x => x
theorem BL {x : Str} {p pos : Pos} {K : Frag} {Cl : Addr} {f : Nat} {ao : AO} {e : Expr} {es : List Expr} {d : DE} (N : kE K Cl f ao) (hq : C.q = true) (hx : C.sc.names.lookup x = some .globalImplicit) (hd : (x == ("__debug__" : Str)) = false) (hg : cG x (.ref Cl))
  (he : ∀ env, starEach (e :: es) env = (false, eval e env) :: starEach es env) (hp : ∀ env, (backTo pos (starEach es env)).any (·.1) = false) (h1 : jZ C lv (e :: es) d) :
  aS C lv (.Call (.Name x p) (e :: es) [] pos) (z0 f ao d) := fun r ih A env W Z σ s P v Z' σ' h => by
 refine ak (R.ai h) fun l l1 s1 e1 h => ?_
 refine ag (R.kM h) fun l2 s2 e2 h => ?_
 refine R.ve h ?_
 refine yl (N.cls) fun od cd sl X => ?_
 refine Call_Name rfl (c5 hx hg hd P.st ?_)
 have h2 := h1 r ih A env W Z σ s P _ _ _ e1 pos
 rw [he] at h2 ⊢
 refine iO (by show (false || (backTo pos (starEach es env)).any (·.1)) = false; rw [hp]; rfl) (Calls.evalArgs_plain (wpAny_mono h2 (fun vs sa ha => ?_) fun _ _ x => x))
 refine af ha ?_; clear ha; intro W1 w1 T1 rl
 refine ⟨rfl, ⟨od, cd, sl, T1.1.bK _ _ X⟩, ?_⟩
 exact wpAny_mono (pH N P.ok ⟨by have := P.room.1; have := P.lv1; omega, by have := P.room.2; have := P.lv1; omega⟩ (P.hn hq) (P.uj w1) T1.1 rl e2) (fun _ _ hv => hv.frame T1 w1) fun _ _ x => x
end
section
open PySem PyProof.Rows
variable {C : Cx} {lv : Nat} {q : Bool}
structure MethAt (Cl : Addr) (mN : Str -> Option Value) (name : Str) (f : Nat) : Prop where
 cls : ClsAt Cl mN
 has : mN name = some (.ref (D.fn f).addr)
 fn : ∃ o fd, D.B.get? (D.fn f).addr = some o /\ o.data = .func fd /\ o.cls = .type "function"
 nof : name ∉ D.fields Cl
 nl : Nat.beq f jJ = false
 top : ∃ y, typeLookup (.type "object") name = pure y
theorem uI {Cl : Addr} {mN : Str -> Option Value} {name : Str} {f : Nat} (M : MethAt Cl mN name f) {A : Around} {W : Gh} {σ : ab} {s : Shared} {i : Nat} {l : AV} {a : Addr} {pl : Sem Bool} {E : Value -> Shared -> Prop} {Q : Value × List Value -> Shared -> Prop}
  (I : Inv W σ s) (hat : σ.At i (.inst Cl l)) (ea : W a = .bu i) (h : Q (.ref (D.fn f).addr, [.ref a]) s) : wpAny (model D.prog D.w) A (getMethod (.ref a) name pl) Q E s := by
 refine aN M.fn fun fo fd f1 f2 f3 => bI M.top fun y hB => ?_
 cases m9 I hat ea with
 | mk o mA d e1 e2 e3 e4 e5 e6 e7 e8 hi =>
  cases M.cls.look I with
  | mk nm q N bs sn sub col dd k0 k1 k2 k3 k5 g1 g2 => exact method_of g1 g2 M.cls.ga M.cls.gt M.has (I.bK _ _ f1) f3 hB hi (e7 name M.nof) h
noncomputable def qR (Cl f : Nat) (d1 d2 dk : DE) : DE := fun ih Z σ => (d1 ih Z σ).bind fun x Z σ => x.fA fun i => (σ.look i).nI fun c _ => R.guard (Nat.beq c Cl) ((d2 ih Z σ).bind fun xs Z σ => (dk ih Z σ).bind fun ys Z σ => (ih f ((AV.cons x xs).app ys) σ).bind fun v _ σ => .val v Z σ)
theorem vA {o : Expr} {name : Str} {apos pos : Pos} {es : List Expr} {ks : List Keyword} {Cl : Addr} {mN : Str -> Option Value} {f : Nat} {d1 d2 dk : DE} (M : MethAt Cl mN name f) (hq : C.q = true) (hbase : ∀ env, attributeBase o name env (eval o env) = eval o env)
  (hform : ∀ env, methodCallForm (es.length + ks.length) (backTo pos (starEach es env)) (backToKw pos (keywordEach ks env)) = true) (hline : (apos.endLine == pos.line) = true) (hs : dX es) (hk : ∀ k ∈ ks, k.arg.isSome = true)
  (hkw : ks.filterMap (·.arg) = (D.fn f).kw) (hkl : (ks.filterMap (·.arg)).length = ks.length) (hlen : ∀ ih Z σ v l s W vs, dk ih Z σ = .val v l s -> RL W v vs -> vs.length = ks.length)
  (h1 : aS C lv o d1) (h2 : jZ C lv es d2) (h3 : yG C lv ks dk) : aS C lv (.Call (.Attribute o name apos) es ks pos) (qR Cl f d1 d2 dk) := fun r ih A env W Z σ s P v Z' σ' h => by
 refine ak (R.ai h) fun x l1 s1 e1 h => ?_
 refine ae (AV.cu h) fun i q1 h => ?_; obtain rfl := q1
 refine ag (AO.jg h) fun c la ho h => ?_
 refine ba (R.ah h) fun g j0 => ?_
 obtain rfl := Nat.eq_of_beq_eq_true g
 refine ak (R.ai j0) fun v1 l2 s2 e2 j1 => ?_
 refine ak (R.ai j1) fun v2 l3 s3 e3 j2 => ?_
 refine ak (R.ai j2) fun u l4 s4 e4 j3 => ?_
 refine R.ve j3 ?_
 have hat := ab.aw ho fun x => AO.noConfusion x
 rw [arm_eval_Call, hbase]
 refine wpAny_bind (wpAny_mono (h1 r ih A env W Z σ s P _ _ _ e1) (fun ov sa ha => ?_) fun _ _ x => x)
 refine af ha ?_; clear ha; intro W1 w1 T1 r1
 induction r1 using RV.cg with
 | mk a ea =>
  refine wpAny_bind (wpAny_standAt ?_)
  have hpos : methodCallPos true o env apos pos = pure pos := by unfold methodCallPos; simp [hline]
  unfold methodCall
  rw [hform]
  refine wpAny_bind (wpAny_holding (uI M T1.1 hat ea ?_))
  refine wpAny_bind (wpAny_of_eq hpos ?_)
  refine aN (M.fn) fun fo fd f1 f2 f3 => ?_
  refine callWith_function_kw (o := fo) (fd := fd) (dn hs hk (P.next T1) h2 h3 e2 e3 pos fun W' vs kvs s' w T rv1 rv2 => ⟨⟨T.1.bK _ _ f1, f2⟩, ?_⟩)
  refine wpAny_call ?_
  refine aa hkw ?_
  refine codeAny_mono (P.ok f ((AV.cons (.ref i) v1).app v2) s3 _ l4 _ e4 A W' s' _ (.ref a :: vs) kvs (.inl ⟨M.nl, rfl⟩) P.rr (P.hn hq) (P.uj (w1.trans w)) T.1 (rv2.app (.cons _ _ _ _ (.ref _ _ (w.bu ea)) rv1)) (by refine aa (hlen _ _ _ _ _ _ _ _ e3 rv2) ?_; refine bw hkl ?_; exact aa hkw rfl)) (fun rr s'' hr => ?_)
  refine ae hr ?_; clear hr; intro y q1 hv; obtain rfl := q1
  exact hv.frame T (w1.trans w)
end
section
open PySem PySem.W PyProof.Rows
variable {C : Cx} {lv : Nat} {q : Bool}
theorem uM {h : Heap} {d : Addr} {od : Obj} {m : Str -> Option Value} (x : h.Ns d m) (e : h.get? d = some od) (name : Str) : lookIn name od = some (m name) := by
 refine iK x ?_; clear x; intro o es ep e1 e2 e3 e4
 rw [e] at e1; cases e1
 unfold lookIn
 refine aa e2 ?_
 have h1 : (es.toList.find? fun x => x.key.isStr name).map (·.val) = m name := by rw [<- e4]; delta nsFind findBy; exact bw (Array.find?_toList) rfl
 have h2 : es.toList.any (·.refKey) = false := by
  rw [List.any_eq_false]
  intro x hx
  refine pB (e3 x (by simpa using hx)) ?_; intro n t hk
  unfold DictEntry.refKey
  refine aa hk ?_; simp
 dsimp only
 cases hf : es.toList.find? fun x => x.key.isStr name with
 | some y => rw [hf] at h1; refine bw h1 ?_; rfl
 | none => rw [hf] at h1; refine bw h1 ?_; refine aa h2 ?_; rfl
structure gh (K : Frag) (Cl : Addr) (name : Str) (f : Nat) : Prop where
 x : K.In D.B
 ga : findIn K (.ref Cl) "__getattribute__" = some (some (.builtin "object.__getattribute__"))
 gt : findIn K (.ref Cl) "__getattr__" = some none
 get : ∀ od, lookIn name od = some none -> findObj K Cl (some od) name = some (.bind (.builtin "function.__get__") (.ref (D.fn f).addr))
 ty : typeIn K (.ref (D.fn f).addr) = some (.type "function")
 fn : ∃ o fd, D.B.get? (D.fn f).addr = some o /\ o.data = .func fd
 nof : name ∉ D.fields Cl
 nl : Nat.beq f jJ = false
theorem yn {K : Frag} {Cl : Addr} {name : Str} {f : Nat} (B : gh K Cl name f) {A : Around} {W : Gh} {σ : ab} {s : Shared} {i : Nat} {l : AV} {a : Addr} {E : Value -> Shared -> Prop} {Q : Value -> Shared -> Prop}
  (I : Inv W σ s) (hat : σ.At i (.inst Cl l)) (ea : W a = .bu i) (h : Q (.ref s.heap.objs.size) { s with heap := s.heap.push (methodObj (.ref (D.fn f).addr) (.ref a)), toks := s.toks + 1 }) : wpAny (model D.prog D.w) A (getAttr (.ref a) name true) Q E s := by
 cases m9 I hat ea with
 | mk o mA d e1 e2 e3 e4 e5 e6 e7 e8 hi =>
  refine ak (id e6) fun od es ep e9 _ => ?_
  have hl : lookIn name od = some none := (e7 name B.nof) ▸ uM e6.ns e9 name
  exact get_bind (il B.x I) (⟨e1, e2, ji e3, by refine aa e4 ?_; exact e9⟩ : PySem.W.InstAt s.heap a o Cl (some od)) B.ga (B.get od hl) B.gt (wpAny_call (fn_get (s := { s with toks := s.toks + 1 }) (il B.x (I.tok _)) B.ty (wpAny_pure h)))
theorem lx {f : Nat} {a m : Addr} {pos : Pos} {args : List (Bool × Sem Value)} {A : Around} {s : Shared} {Q : Value -> Shared -> Prop} (hst : args.any (·.1) = true)
  (h : wpAny (model D.prog D.w) A (evalArgs (.ref m) true args []) (fun x s₁ => x.kw = [] /\ s₁.heap.get? m = some (methodObj (.ref (D.fn f).addr) (.ref a)) /\ (∃ o fd, s₁.heap.get? (D.fn f).addr = some o /\ o.data = .func fd) /\
   codeAny (model D.prog D.w) A (.call (.ref (D.fn f).addr) ⟨.ref a :: x.pos, []⟩) (fun r s' => ∃ y, r = .ok (.ret y) /\ Q y s') s₁) No s) :
  wpAny (model D.prog D.w) A (callWith pos (.ref m) [] args []) Q No s := by
 unfold callWith
 refine wpAny_bind (wpAny_holding (wpAny_mono h (fun x s₁ h₁ => wpAny_bind (wpAny_standAt ?_)) fun _ _ x => x))
 refine eR h₁ ?_; clear h₁; intro hkw h1 hn4_2 h4; obtain ⟨o, fd, h2, h3⟩ := hn4_2
 refine wpAny_bind (m := keeperOf (.ref m)) ?_
 skip
 refine wpAny_bind (wpAny_load h1 ?_)
 refine wpAny_ite_split (fun hab => absurd hab (by show ¬ ((Value.type "method" != Value.type "method") = true); decide)) (fun _ => ?_)
 refine wpAny_bind (wpAny_load h2 ?_)
 refine aa h3 ?_
 refine wpAny_pure ?_
 refine aa hst ?_; refine aa hkw ?_
 refine wpAny_bind (wpAny_operateT (wpAny_call (method_call h1 (codeAny_mono h4 fun r s' z => ?_))))
 refine ae z ?_; clear z; intro y q1 hq; obtain rfl := q1
 exact wpAny_bind (wpAny_holding (wpAny_point (wpAny_pure hq)))
end
section
open PySem PySem.W PyProof.Rows
variable {C : Cx} {lv : Nat} {q : Bool}
noncomputable def AV.q6 (σ : ab) (v : AV) (k : AV -> R) : R := AV.pN (β := R) (v.dP σ fun _ l => k l) (fun n l => k l) v
theorem AV.lj {σ : ab} {v : AV} {k : AV -> R} {x l : AV} {s : ab} (h : v.q6 σ k = .val x l s) : ∃ n a, (((v = .lst n a) \/ (∃ i, v = .ref i /\ σ.At i (.list n a))) \/ v = .tup n a) /\ k a = .val x l s := by
 have aux : ∀ u : AV, u.dP σ (fun _ l => k l) = .val x l s -> ∃ n a, (((u = .lst n a) \/ (∃ i, u = .ref i /\ σ.At i (.list n a))) \/ u = .tup n a) /\ k a = .val x l s := fun u h => (AV.ct h).elim fun n h => h.elim fun a h => ⟨n, a, .inl h.1, h.2⟩
 induction v using AV.casesOn <;> first | exact ⟨_, _, .inr rfl, h⟩ | exact aux _ h
theorem kK {W : Gh} {σ : ab} {s : Shared} {v a : AV} {n : Nat} {x : Value} {A : Around} {Q : List Value -> Shared -> Prop} (hv : ((v = .lst n a) \/ (∃ i, v = .ref i /\ σ.At i (.list n a))) \/ v = .tup n a) (I : Inv W σ s) (r : RV W v x)
  (h : ∀ items s', Inv W σ s' -> aJ W s.heap s'.heap -> (∀ b o, s.heap.get? b = some o -> s'.heap.get? b = some o) -> RL W a items -> Q items s') :
  wpAny (model D.prog D.w) A (notIterableAtAll x) (fun b s' => b = false /\ s' = s /\ wpAny (model D.prog D.w) A (collect x) Q No s) No s := by
 have key : ∀ {b : Addr} {T : String} {o : Obj} {items : Array Value} {m : Nat} {id : String}, (T = "list" \/ T = "tuple") -> PySem.Slot T "__iter__" id -> s.heap.get? b = some o -> o.cls = .type T -> o.data = .seq items m -> items.size <= 1048576 -> RL W a items.toList ->
   wpAny (model D.prog D.w) A (notIterableAtAll (.ref b)) (fun b' s' => b' = false /\ s' = s /\ wpAny (model D.prog D.w) A (collect (.ref b)) Q No s) No s := by
  intro b T o items m id hT hs ho hc hd hb rl
  unfold notIterableAtAll
  refine wpAny_bind (wpAny_specialOf (T := T) ⟨o, ho, hc⟩ hs.lookup ?_)
  refine wpAny_ite_split (fun _ => ?_) (fun hab => absurd rfl hab)
  refine wpAny_pure ⟨rfl, rfl, ?_⟩
  refine wpAny_collect_seq b hT ho hc hd (fun h' hk => ?_) (by refine aa sizeLine_eq ?_; lia)
  exact h _ _ (I.same (t := s.toks) (Keeps.bJ hk)) (Keeps.bJ hk).own hk rl
 rcases hv with hx | rfl
 ·obtain ⟨b, items, ep, rfl, e, hn, hb, rl⟩ := eF I hx r
  exact key (.inl rfl) slot_list_iter e rfl rfl (by omega) rl
 ·induction r using RV.iu with
  | mk b items e hn hb rl => exact key (.inr rfl) F.slot_tuple_iter (I.az _ _ e) rfl rfl (by omega) rl
noncomputable def Fj (C : Cx) (lv : Nat) (es : List Expr) (d : DE) : Prop := (∀ pos env, (backTo pos (starEach es env)).any (·.1) = true) /\ ∀ r ih A env W Z σ s, Pre C lv r ih A env W Z σ s -> ∀ v Z' σ', d ih Z σ = .val v Z' σ' ->
 ∀ f pos, wpAny (model D.prog D.w) A (evalArgs f true (backTo pos (starEach es env)) []) (fun x s' => x.kw = [] /\ mh C env W v Z' σ' x.pos s') No s
noncomputable def GF (db : DE) : DE := fun ih Z σ => (db ih Z σ).bind fun v Z σ => v.q6 σ fun l => .val l Z σ
theorem z4 {b : Expr} {p : Pos} {db : DE} (h1 : aS C lv b db) : Fj C lv [.Starred b p] (GF db) := ⟨fun pos env => rfl, fun r ih A env W Z σ s P v Z' σ' h f pos => by
 refine ak (R.ai h) fun x l1 s1 e1 h => ?_
 refine ag (AV.lj h) fun n a hv h => ?_
 cases h
 skip
 skip
 refine wpAny_bind (wpAny_bind (wpAny_mono (h1 r ih A env W Z σ s P _ _ _ e1) (fun y sa hy => wpAny_bind (wpAny_standAt (wpAny_pure (wpAny_bind (wpAny_pure ?_))))) fun _ _ x => x))
 refine af hy ?_; clear hy; intro W1 w1 T1 r1
 refine wpAny_holding ?_
 refine aa (if_pos (show ([] : List (Option Str × Sem Value)).all (·.1.isSome) = true from rfl)) ?_
 refine wpAny_bind (wpAny_pure (wpAny_bind ?_))
 refine wpAny_bind (wpAny_mono (kK hv T1.1 r1 (Q := fun items s' => (fun (x : Args) s' => x.kw = [] /\ mh C env W v Z' σ' x.pos s') ⟨items, []⟩ s') fun items s' I' k' _ rl => ⟨rfl, W1, w1, T1.value (.refl W1) I' k', rl⟩) (fun b' s' hb => ?_) fun _ _ x => x)
 refine nr hb ?_; clear hb; intro q0 q1 hc; obtain rfl := q0; refine aa q1 ?_
 refine wpAny_ite_split (fun hab => absurd hab Bool.false_ne_true) (fun _ => ?_)
 exact wpAny_holding (wpAny_mono hc (fun items s2 h2 => wpAny_pure h2) fun _ _ x => x)⟩
noncomputable def Gn (de db : DE) : DE := fun ih Z σ => (de ih Z σ).bind fun x Z σ => (db ih Z σ).bind fun v Z σ => v.q6 σ fun l => .val (.cons x l) Z σ
theorem z5 {e b : Expr} {p : Pos} {de db : DE} (hs : ∀ env, starEach [e, .Starred b p] env = [(false, eval e env), (true, eval b env)]) (h0 : aS C lv e de) (h1 : aS C lv b db) : Fj C lv [e, .Starred b p] (Gn de db) := ⟨fun pos env => by rw [hs]; rfl, fun r ih A env W Z σ s P v Z' σ' h f pos => by
 refine ak (R.ai h) fun x l1 s1 e1 h => ?_
 refine ak (R.ai h) fun y l2 s2 e2 h => ?_
 refine ag (AV.lj h) fun n a hv h => ?_
 cases h
 rw [hs]
 skip
 show wpAny _ _ (spliced [(false, eval e env), (true, (do let v <- eval b env; standAt pos; pure v))] >>= fun d => ((pure (d, (none : Option Value)) : Sem (List Value × Option Value)) >>= _)) _ _ _
 refine wpAny_bind (wpAny_bind (wpAny_mono (h0 r ih A env W Z σ s P _ _ _ e1) (fun vx sa ha => ?_) fun _ _ x => x))
 refine af ha ?_; clear ha; intro W1 w1 T1 r1
 refine wpAny_bind (wpAny_pure (wpAny_bind (wpAny_holding (wpAny_bind (wpAny_bind (wpAny_mono (h1 r ih A env W1 _ _ sa (P.next T1) _ _ _ e2) (fun vy sb hb => wpAny_bind (wpAny_standAt (wpAny_pure ?_))) fun _ _ x => x))))))
 refine af hb ?_; clear hb; intro W2 w2 T2 r2
 refine wpAny_bind (wpAny_mono (kK hv T2.1 r2 (Q := fun items s' => mh C env W (.cons x a) Z' σ' (vx :: items) s') fun items s' I' k' _ rl => ⟨W2, w1.trans w2, T2.value (.refl W2) I' k', .cons _ _ _ _ (r1.mono w2.bM) rl⟩) (fun b' s' hb => ?_) fun _ _ x => x)
 refine nr hb ?_; clear hb; intro q0 q1 hc; obtain rfl := q0; refine aa q1 ?_
 refine wpAny_ite_split (fun hab => absurd hab Bool.false_ne_true) (fun _ => ?_)
 refine wpAny_bind (wpAny_mono hc (fun items s3 h3 => ?_) fun _ _ x => x)
 dsimp only
 refine wpAny_bind (wpAny_holding (wpAny_pure (wpAny_pure (wpAny_pure (wpAny_bind (wpAny_pure (wpAny_holding ?_)))))))
 refine aa (if_pos (show ([] : List (Option Str × Sem Value)).all (·.1.isSome) = true from rfl)) ?_
 refine wpAny_bind (wpAny_pure (wpAny_bind (wpAny_pure (wpAny_pure ⟨rfl, ?_⟩))))
 show mh C env W (.cons x a) Z' σ' ([vx] ++ (items ++ [])) s3
 rw [List.append_nil]
 exact h3⟩
end
section
open PySem PySem.W PyProof.Rows
variable {C : Cx} {lv : Nat} {q : Bool}
noncomputable def r9 (Cl f : Nat) (d1 dg : DE) : DE := fun ih Z σ => (d1 ih Z σ).bind fun x Z σ => x.fA fun i => (σ.look i).nI fun c _ => R.guard (Nat.beq c Cl) ((dg ih Z σ).bind fun xs Z σ => (ih f (AV.cons x xs) σ).bind fun v _ σ => .val v Z σ)
theorem vf {o : Expr} {name : Str} {apos pos : Pos} {es : List Expr} {K : Frag} {Cl : Addr} {f : Nat} {d1 dg : DE} (B : gh K Cl name f) (hq : C.q = true) (hbase : ∀ env, attributeBase o name env (eval o env) = eval o env)
  (hform : ∀ env, methodCallForm (es.length + ([] : List Keyword).length) (backTo pos (starEach es env)) (backToKw pos (keywordEach [] env)) = false) (hkw : (D.fn f).kw = [])
  (h1 : aS C lv o d1) (h2 : Fj C lv es dg) : aS C lv (.Call (.Attribute o name apos) es [] pos) (r9 Cl f d1 dg) := fun r ih A env W Z σ s P v Z' σ' h => by
 refine ak (R.ai h) fun x l1 s1 e1 h => ?_
 refine ae (AV.cu h) fun i q1 h => ?_; obtain rfl := q1
 refine ag (AO.jg h) fun c la ho h => ?_
 refine ba (R.ah h) fun g j0 => ?_
 obtain rfl := Nat.eq_of_beq_eq_true g
 refine ak (R.ai j0) fun v1 l2 s2 e2 j1 => ?_
 refine ak (R.ai j1) fun u l4 s4 e4 j3 => ?_
 refine R.ve j3 ?_
 have hat := ab.aw ho fun x => AO.noConfusion x
 rw [arm_eval_Call, hbase]
 refine wpAny_bind (wpAny_mono (h1 r ih A env W Z σ s P _ _ _ e1) (fun ov sa ha => ?_) fun _ _ x => x)
 refine af ha ?_; clear ha; intro W1 w1 T1 r1
 induction r1 using RV.cg with
 | mk a ea =>
  refine wpAny_bind (wpAny_standAt ?_)
  have hpos : methodCallPos false o env apos pos = pure pos := by unfold methodCallPos; simp
  unfold methodCall
  rw [hform]
  refine wpAny_bind (wpAny_holding ?_)
  skip
  refine wpAny_bind (yn B T1.1 hat ea (wpAny_pure ?_))
  refine wpAny_bind (wpAny_of_eq hpos ?_)
  have fr := T1.1.free
  have le2 := Gh.aQ (l := .az (methodObj (.ref (D.fn f).addr) (.ref a))) fr
  have kp : Keeps W1 sa.heap (sa.heap.push (methodObj (.ref (D.fn f).addr) (.ref a))) := Keeps.push _ _
  have T2 := T1.value le2 (T1.1.fx (t := sa.toks + 1) fr (Heap.get?_push_size _ rfl) kp) kp.own
  refine lx (f := f) (a := a) (h2.1 pos env) (wpAny_mono (h2.2 r ih A env _ _ _ _ (P.next T2 (w1.trans le2)) _ _ _ e2 _ pos) (fun xs s' hx => ?_) fun _ _ x => x)
  obtain ⟨xp, xk⟩ := xs
  refine qJ hx ?_; clear hx; intro q0 W3 w3 T3 rl; refine aa q0 ?_
  refine ag (B.fn) fun fo fd f1 f2 => ?_
  refine ⟨rfl, T3.1.az _ _ (w3.az (Gh.aq ..)), ⟨fo, fd, T3.1.bK _ _ f1, f2⟩, ?_⟩
  have hc := P.ok f (AV.cons (.ref i) v1) s2 _ l4 _ e4 A W3 s' _ (.ref a :: xp) [] (.inl ⟨B.nl, rfl⟩) P.rr (P.hn hq) (P.uj ((w1.trans le2).trans w3)) T3.1 (by show RL W3 _ (.ref a :: (xp ++ [])); rw [List.append_nil]; exact .cons _ _ _ _ (.ref _ _ (w3.bu (le2.bu ea))) rl) (by refine aa hkw ?_; rfl)
  rw [hkw] at hc
  refine codeAny_mono hc (fun rr s'' hr => ?_)
  refine ae hr ?_; clear hr; intro y q1 hv; obtain rfl := q1
  exact ⟨y, rfl, hv.frame T3 ((w1.trans le2).trans w3)⟩
end
section
open PySem PySem.W PyProof.Rows
variable {C : Cx} {lv : Nat} {q : Bool}
noncomputable def Hq (σ : ab) (x y : AV) (k : Bool -> R) : R := (AV.lO (β := R) (AV.sO (β := R) .fail (fun b => (@AV.rec (fun _ => R) .fail .fail (fun _ => .fail) (fun i => k false) (fun _ _ => .fail) (fun _ => .fail) (fun a => R.guard (Nat.beq a b) (k true)) (fun _ => .fail) (fun _ _ _ => .fail) (fun _ _ _ => .fail) (fun _ _ _ => .fail) (fun _ _ => .fail) (fun _ _ => .fail) (fun _ _ => .fail) (fun _ => .fail) (fun _ => .fail) .fail (fun _ _ _ _ => .fail) (fun _ _ _ _ _ _ => .fail) x)) y) (FK (fun b => b) σ x y k) y)
theorem jf : eI q .Is Hq := fun σ x y k v Z σf h => by
 induction y using AV.casesOn <;> first | exact R.noConfusion h | skip
 case none => exact E8 σ x .none k v Z σf h
 case glob b =>
  induction x using AV.casesOn <;> first | exact R.noConfusion h | skip
  case glob a =>
   refine ba (R.ah h) fun g h1 => ?_
   refine bw (Nat.eq_of_beq_eq_true g) ?_
   refine ⟨_, h1, fun A W s vx vy _ _ I r1 r2 => ?_⟩
   cases r1
   cases r2
   show wpAny _ _ (do return Value.bool (<- isSame (.ref a) (.ref a))) _ _ _
   unfold isSame
   refine wpAny_bind ?_
   dsimp only
   refine aa (if_pos (beq_self_eq_true a)) ?_
   exact wpAny_pure (wpAny_pure ⟨rfl, bx.tok I _⟩)
  case int i =>
   refine ⟨_, h, fun A W s vx vy _ _ I r1 r2 => ?_⟩
   cases r1
   cases r2
   skip
   exact wpAny_bind (wpAny_pure (wpAny_pure ⟨rfl, bx.tok I _⟩))
noncomputable def Hx (f : ab -> AV -> (AV -> ab -> R) -> R) (d1 : DE) : DE := fun ih Z σ => (d1 ih Z σ).bind fun x Z σ => f σ x fun z σ => .val z Z σ
theorem xE {op : UnaryOp} {e : Expr} {pos : Pos} {d1 : DE} {f : ab -> AV -> (AV -> ab -> R) -> R} (hf : A4 C.q (unaryOp op) f) (h1 : aS C lv e d1) : aS C lv (.UnaryOp op e pos) (Hx f d1) := fun r ih A env W Z σ s P v Z' σ' h => by
 refine ak (R.ai h) fun x l1 s1 e1 h => ?_
 refine ag (hf _ _ _ _ _ _ h) fun z s2 h w => ?_
 refine R.ve h ?_
 refine wpAny_UnaryOp (wpAny_mono (h1 r ih A env W Z σ s P _ _ _ e1) (fun y sa hy => ?_) fun _ _ x => x)
 refine af hy ?_; clear hy; intro W1 w1 T1 r1
 exact wpAny_mono (w A W1 sa y P.op P.hn T1.1 r1) (fun _ _ hv => hv.frame T1 w1) fun _ _ x => x
noncomputable def GC (σ : ab) (x : AV) (k : AV -> ab -> R) : R := x.dM fun i => k (.int (CP i)) σ
theorem qO : A4 q (unaryOp .USub) GC := fun σ x k v Z σf h => by
 refine ae (AV.bQ h) fun i q1 h1 => ?_; refine aa q1 ?_
 refine ⟨_, _, h1, fun A W s vx _ _ I r1 => ?_⟩
 refine bI (r1.int_inv) fun t q1 => ?_; refine aa q1 ?_
 rw [tJ]
 exact neg_int (aj.tok I _ (.int _ _))
noncomputable def A0 (x : AV) (k : R) : R := @AV.rec (fun _ => R) .fail .fail (fun _ => .fail) (fun _ => .fail) (fun _ _ => .fail) (fun _ => .fail) (fun _ => .fail) (fun _ => .fail) (fun _ _ _ => .fail) (fun _ _ _ => .fail) (fun _ _ _ => .fail) (fun _ _ => .fail) (fun _ _ => .fail) (fun _ _ => .fail) (fun _ => k) (fun _ => .fail) .fail (fun _ _ _ _ => .fail) (fun _ _ _ _ _ _ => .fail) x
theorem vq {x : AV} {k : R} {v l : AV} {σ : ab} (h : A0 x k = .val v l σ) : (∃ n, x = .lam n) /\ k = .val v l σ := by
 induction x using AV.casesOn <;> first | exact R.noConfusion h | exact ⟨⟨_, rfl⟩, h⟩
noncomputable def Ci (i : Nat) (d : DE) : DE := fun ih Z σ => A0 (Z.bB i) ((d ih Z σ).bind fun x Z σ => (ih jJ x σ).bind fun v _ σ => .val v Z σ)
theorem xo {x : Str} {p pos : Pos} {i : Nat} {kd : Kd} {es : List Expr} {d : DE} (hkw : (D.fn jJ).kw = []) (hq : C.q = true) (ha : ar C.ns i x kd) (hd : (x == ("__debug__" : Str)) = false)
  (hs : dX es) (h1 : jZ C lv es d) : aS C lv (.Call (.Name x p) es [] pos) (Ci i d) := fun r ih A env W Z σ s P v Z' σ' h => by
 obtain ⟨⟨n, hx⟩, h⟩ := vq h
 refine ak (R.ai h) fun v1 l1 s1 e1 h => ?_
 refine ak (R.ai h) fun u l3 s3 e3 h => ?_
 refine R.ve h ?_
 have hu : Z.bB i ≠ .undef := by refine aa hx ?_; exact fun e => AV.noConfusion e
 refine wpAny_Call_Name_kw (wpAny_Name (wpAny_mono (je ha P.st hu) (fun y sa hy => ?_) fun _ _ x => x) hd)
 refine af hy ?_; clear hy; intro W0 w0 T0 r0
 rw [hx] at r0
 obtain ⟨a, rfl, hl⟩ := (r0.inv : RV.Inv W0 _ y)
 obtain ⟨o, fd, c, oc, vs0, q, t, ho, hdat, _⟩ := id hl
 refine callWith_function_kw (o := o) (fd := fd) (dn hs (fun k hk => absurd hk (by simp)) (P.next T0) h1 aK e1 (show dE ih _ s1 = .val .nil _ s1 from rfl) pos fun W' vs kvs s' w T r1 r2 => ⟨⟨T.1.az _ _ (w.az ho), hdat⟩, ?_⟩)
 refine wpAny_call ?_
 cases r2
 have hc := P.ok jJ v1 s1 _ l3 _ e3 A W' s' _ vs [] (.inr ⟨rfl, a, rfl, hl.mono w.az⟩) P.rr (P.hn hq) (P.uj (w0.trans w)) T.1 (by rw [List.append_nil]; exact r1) (by refine aa hkw ?_; rfl)
 rw [hkw] at hc
 refine codeAny_mono hc (fun rr s'' hr => ?_)
 refine ae hr ?_; clear hr; intro y e0 hv; obtain rfl := e0
 exact hv.frame T (w0.trans w)
theorem rq {o i : Expr} {p : Pos} {env : Env} {M : Model} {A : Around} {E : Value -> Shared -> Prop} {s : Shared} {v : Value} {Q : Unit -> Shared -> Prop} (h : wpAny M A (eval o env) (fun ov s1 => wpAny M A (eval i env) (fun iv s2 => wpAny M A (setItem ov iv v) (fun _ => Q ()) E s2) E s1) E s) :
  wpAny M A (assign (.Subscript o i p) env v) Q E s := by
 rw [arm_assign_Subscript]
 refine wpAny_bind (wpAny_holding (wpAny_mono h (fun ov s1 h1 => ?_) fun _ _ x => x))
 refine wpAny_bind (wpAny_holding (wpAny_mono h1 (fun iv s2 h2 => ?_) fun _ _ x => x))
 exact wpAny_bind (wpAny_standAt (wpAny_bind (wpAny_holding (wpAny_mono h2 (fun _ s3 h3 => wpAny_release h3) fun _ _ x => x))))
noncomputable def Al (dv do' di : DE) (j : Nat) : DS := fun ih Z σ => (dv ih Z σ).aX fun v Z σ => (do' ih Z σ).aX fun x Z σ => (di ih Z σ).aX fun y Z σ => setAt σ x y v fun σ => .next (Z.put v j) σ
theorem q7 {o i value : Expr} {z : Str} {j : Nat} {kd : Kd} {p pz pos : Pos} {dv do' di : DE} (hz : ar C.ns j z kd) (hk : kd ≠ .cap)
  (he : ∀ env, (assignEach [.Subscript o i p, .Name z pz] env).map (·.2) = [assign (.Subscript o i p) env, assign (.Name z pz) env]) (hw : ∀ env, swappedStores [.Subscript o i p, .Name z pz] value env = pure none)
  (h1 : aS C lv value dv) (h2 : aS C lv o do') (h3 : aS C lv i di) :
  hM C lv (.Assign [.Subscript o i p, .Name z pz] value pos) (Al dv do' di j) := fun r ih A env W Z σ s P hne => by
 refine aW (P := fun r => wpAny _ _ _ (aO C env W r) _ _) hne fun v l1 s1 e1 e3 => ?_
 refine aW (P := fun r => wpAny _ _ _ (aO C env W r) _ _) e3 fun x l2 s2 f1 f3 => ?_
 refine aW (P := fun r => wpAny _ _ _ (aO C env W r) _ _) f3 fun y l3 s3 g1 g3 => ?_
 refine ae (o6 g3) fun σ' k1 k2 => ?_
 refine aa k1 ?_
 refine wpAny_Assign_two (wpAny_mono (h1 r ih A env W Z σ s P _ _ _ e1) (fun vv sa ha => ?_) fun _ _ x => x) (he env) (hw env)
 refine af ha ?_; clear ha; intro W1 w1 T1 r1
 refine rq (wpAny_mono (h2 r ih A env W1 _ _ sa (P.next T1) _ _ _ f1) (fun vx sb hb => ?_) fun _ _ x => x)
 refine af hb ?_; clear hb; intro W2 w2 T2 r2
 refine wpAny_mono (h3 r ih A env W2 _ _ sb (P.next T2) _ _ _ g1) (fun vy sc hc => ?_) fun _ _ x => x
 refine af hc ?_; clear hc; intro W3 w3 T3 r3
 refine wpAny_mono (k2 T3.1 (r2.mono w3.bM) r3 (r1.mono (w2.trans w3).bM)) (fun _ sd hd => ?_) fun _ _ x => x
 have T4 := T3.value (.refl _) hd.1 hd.2
 exact wpAny_assign_Name (cO hz hk T4 (r1.mono (w2.trans w3).bM) fun s' T5 => ⟨rfl, W3, (w1.trans w2).trans w3, T5⟩)
end
section
open PySem PySem.W PyProof.Rows
variable {C : Cx} {lv : Nat} {q : Bool}
theorem qT (n : Nat) (hn : 1 <= n) : Builtin.Slice.sliceAdjust none (some (-1)) 1 (n : Int) = ((0 : Int), ((n - 1 : Nat) : Int)) := by
 unfold Builtin.Slice.sliceAdjust
 have h1 : ¬ ((1 : Int) < 0) := by omega
 have h2 : ((-1 : Int) < 0) := by omega
 simp only [h1, h2, if_false, if_true]
 congr 1
 lia
theorem rU (n : Nat) : Builtin.Slice.slicePlaces (0 : Int) (n : Int) 1 = n := by
 unfold Builtin.Slice.slicePlaces
 have h1 : (1 : Int) > 0 := by omega
 simp only [h1, if_true, Int.ediv_one]
 split <;> lia
theorem vT (xs : Array Value) (m : Nat) : ((List.range m).filterMap fun (k : Nat) => xs[((0 : Int) + (k : Int) * 1).toNat]?).toArray = (xs.toList.take m).toArray := by
 have e : (fun (k : Nat) => xs[((0 : Int) + (k : Int) * 1).toNat]?) = fun k => xs[0 + k]? := by
  funext k
  have : ((0 : Int) + (k : Int) * 1).toNat = 0 + k := by lia
  exact aa this rfl
 refine aa e ?_
 have := pick_run xs 0 m
 rw [List.filterMap_map] at this
 have e2 : ((fun x => xs[x]?) ∘ fun x => 0 + x) = fun k => xs[0 + k]? := rfl
 rw [e2] at this
 refine aa this ?_; rfl
section
variable {A : Around} {E : Value -> Shared -> Prop} {s : Shared}
theorem i7 {sl : Addr} {n : Nat} {u : Tok} {Q : Int × Int × Nat -> Shared -> Prop} (hs : s.heap.IsSliceOf sl .none (.int (-1) u) .none) (hn : 1 <= n) (h : Q ((0 : Int), 1, n - 1) s) :
  wpAny (model D.prog D.w) A (Builtin.Slice.sliceApplied (.ref sl) (pure (n : Int))) Q E s := by
 refine af (id hs) fun os hos hcs hds => ?_
 skip
 refine wpAny_bind (wpAny_bind (wpAny_field hos hds (x := .none) rfl (wpAny_bind (wpAny_field hos hds (x := .int (-1) u) rfl (wpAny_bind (wpAny_field hos hds (x := .none) rfl (wpAny_pure ?_)))))))
 refine wpAny_bind (slicePart_none ?_)
 skip
 refine aa (if_neg (by decide)) ?_
 refine wpAny_bind (slicePart_none (wpAny_bind (slicePart_int (wpAny_bind (wpAny_pure ?_)))))
 show wpAny _ _ (match Builtin.Slice.sliceAdjust none (some (-1)) 1 (n : Int) with | (lo, hi) => pure (lo, (1 : Int), Builtin.Slice.slicePlaces lo hi 1)) _ _ s
 refine aa (qT n hn) ?_
 show wpAny _ _ (pure ((0 : Int), (1 : Int), Builtin.Slice.slicePlaces (0 : Int) ((n - 1 : Nat) : Int) 1)) _ _ s
 rw [rU]
 exact wpAny_pure h
theorem iN {t sl : Addr} {items : Array Value} {u : Tok} {Q : Value -> Shared -> Prop} (ht : IsTup s.heap t items) (hs : s.heap.IsSliceOf sl .none (.int (-1) u) .none) (hn : 1 <= items.size)
  (h : Q (.ref s.heap.objs.size) { s with heap := s.heap.push { cls := .type "tuple", data := .seq (items.toList.take (items.size - 1)).toArray } })
  (hsz : items.size <= sizeLine := by size_fits) : wpAny (model D.prog D.w) A (getItem (.ref t) (.ref sl)) Q E s := by
 have hdrop : sizeOk (.seq (items.toList.take (items.size - 1)).toArray) := by
  show (items.toList.take (items.size - 1)).toArray.size <= sizeLine
  refine aa List.size_toArray ?_; refine aa List.length_take ?_; refine aa Array.length_toList ?_
  omega
 refine af (id hs) fun os hos hcs hds => ?_
 have hTs : s.TypeIs (.ref sl) "slice" := ⟨os, hos, hcs⟩
 unfold getItem
 try with_reducible refine wpAny_holding ?_
 first | refine wpAny_bind (wpAny_pure ?_) | skip
 refine wpAny_bind (wpAny_sequenceKey ht.typeIs (by decide) ?_)
 refine wpAny_bind (wpAny_callSpecial?_slot (name := Str.ofString "__getitem__") ht.typeIs slot_tuple_getitem
  (wpAny_call_entry slot_tuple_getitem ht.typeIs entry_tuple_getitem ?_ (args_tuple_getitem _ _)))
 show wpAny _ _ (Builtin.Tuple.tupleItemsOf (.ref t) >>= _) _ _ s
 refine wpAny_bind (tupleItemsOf_ ht ?_)
 refine wpAny_bind (wpAny_typeOf hTs ?_)
 refine aa (if_pos (by decide)) ?_
 refine wpAny_bind (i7 hs hn ?_)
 have hno : ¬ (((0 : Int) == 0 && (1 : Int) == 1 && (items.size - 1) == items.size) = true) := by
  have : ((items.size - 1) == items.size) = false := by rw [beq_eq_false_iff_ne]; omega
  refine aa this ?_; simp
 show wpAny _ _ (if ((0 : Int) == 0 && (1 : Int) == 1 && (items.size - 1) == items.size) = true then _ else _) _ _ s
 refine aa (if_neg hno) ?_; rw [vT items]
 first
  | exact wpAny_bind (m := Builtin.Tuple.tupleExact _) (wpAny_newObj_type (wpAny_pure ⟨_, rfl, wpAny_pure h⟩) hdrop)
  | exact wpAny_bind (m := Builtin.Tuple.tupleExact _) (wpAny_newObj_type (wpAny_bind (wpAny_pure (wpAny_pure ⟨_, rfl, wpAny_pure h⟩))) hdrop)
  | exact wpAny_bind (wpAny_bind (m := Builtin.Tuple.tupleExact _) (wpAny_newObj_type (wpAny_pure (wpAny_pure ⟨_, rfl, wpAny_pure h⟩)) hdrop))
  | exact wpAny_bind (wpAny_bind (m := Builtin.Tuple.tupleExact _) (wpAny_newObj_type (wpAny_pure ⟨_, rfl, wpAny_pure h⟩) hdrop))
end
noncomputable def tu (n : Nat) (l lo hi : AV) (σ : ab) (k : AV -> ab -> R) : R := lo.jb (hi.dM fun i => R.guard (zY i (Int.negSucc 0)) (R.guard (Nat.blt 0 n) (k (.tup (Nat.pred n) (AV.take l (Nat.pred n))) σ)))
noncomputable def B9 (σ : ab) (x lo hi : AV) (k : AV -> ab -> R) : R := (AV.pN (β := R) (w8 σ x lo hi k) (fun n l => tu n l lo hi σ k) x)
theorem cT {q : Bool} : w6 q B9 := fun σ x lo hi k v Z σf h => by
 by_cases ht : ∃ n l, x = .tup n l
 ·refine pB ht ?_; clear ht; intro n l q2; obtain rfl := q2
  have h : tu n l lo hi σ k = .val v Z σf := h
  refine ba (AV.jn h) fun q0 h1 => ?_; refine aa q0 ?_
  refine ae (AV.bQ h1) fun i q1 h2 => ?_; refine aa q1 ?_
  refine ba (R.ah h2) fun g1 h3 => ?_
  refine ba (R.ah h3) fun g2 h4 => ?_
  rw [kF] at g1
  refine aa (of_decide_eq_true g1) ?_
  have hn0 : 1 <= n := Nat.blt_eq.mp g2
  refine ⟨_, _, h4, fun A W s vx vl vu a hr _ I r1 r2 r3 hsl => ?_⟩
  cases r2
  refine bI (r3.int_inv) fun u q1 => ?_; obtain rfl := q1
  induction r1 using RV.iu with
  | mk b items e hn hb rl =>
   have hl := cN (I.az _ _ e)
   refine ⟨⟨"tuple", _, hl.typeIs, F.slot_tuple_getitem.lookup⟩, ?_⟩
   refine iN (items := items) ⟨_, I.az _ _ e, rfl, ⟨_, rfl⟩⟩ hsl (by omega) ?_ (by rw [sizeLine_eq]; lia)
   refine aj.az (o := cU _ 0) I rfl s.toks fun W' le e => .tup _ _ _ _ e ?_ ?_ ?_
   ·refine aa List.size_toArray ?_; refine aa List.length_take ?_; refine aa Array.length_toList ?_; refine aa hn ?_; refine aa Nat.pred_eq_sub_one ?_; lia
   ·refine aa Nat.pred_eq_sub_one ?_; omega
   ·refine aa hn ?_; refine aa Nat.pred_eq_sub_one ?_; exact (rl.mono le.bM).take
 ·exact wY σ x lo hi k v Z σf (by induction x using AV.casesOn <;> first | exact h | exact absurd ⟨_, _, rfl⟩ ht)
theorem jK {a : Addr} {items : Array Value} {ep : Nat} (hb : items.size <= 1048576) :
  Meets (Builtin.«bool.__new__» ⟨[.type "bool", .ref a], []⟩) (fun _ R s => s.heap.get? a = some (aV items ep) /\ ∀ t, R (.ok (.ret (.bool (!items.isEmpty)))) { s with toks := t }) :=
 Meets.of_wp fun P w A R s hs => by
  obtain ⟨hp, g, d, tk, os⟩ := s
  refine ba hs ?_; clear hs; intro h1 h2
  have f1 := F.conv_sub_bool
  repeat (any_goals (first | assumption | (with_reducible refine wpAny_truthy_list (aH h1) (by omega) ?_) | wp_step))
  all_goals first | exact ⟨_, rfl, h2 _⟩ | exact h2 _ | skip
noncomputable def Ds (σ : ab) (l : AV) (k : AV -> ab -> R) : R := l.qx fun x => x.dP σ fun n _ => k (.bool (eW (Nat.beq n 0))) σ
theorem Aw : eG q (.type "bool") Ds := fun σ l k v Z σf h => by
 refine ae (AV.cV h) fun x q1 h1 => ?_; obtain rfl := q1
 refine ag (AV.ct h1) fun n a hx h2 => ?_
 refine ⟨_, _, h2, fun A W s vs _ _ I rl => ?_⟩
 refine ae (rl.one) fun y q1 ry => ?_; obtain rfl := q1
 refine aY (eF I hx ry) fun b items ep q3 e hn hb _ => ?_; refine aa q3 ?_
 refine call_bool_1 (jK (items := items) (ep := ep) (by omega)) ⟨e, fun t => ⟨rfl, ?_⟩⟩
 have z : eW (Nat.beq n 0) = (!items.isEmpty) := by
  rw [bY, cC, Array.isEmpty, hn]
 refine aa z ?_
 exact aj.tok I t (.bool _)
end
section
open PySem PySem.W PyProof.Rows
variable {C : Cx} {lv : Nat} {q : Bool}
theorem AV.AX {W : Gh} {pad : AV} {a : AV} {xs : List Value} (r : RL W a xs) : ∀ i, (a.app pad).bB i = if i < xs.length then a.bB i else pad.bB (i - xs.length) := by
 refine RL.ind (motive := fun a xs => ∀ i, (a.app pad).bB i = if i < xs.length then a.bB i else pad.bB (i - xs.length)) (fun i => by simp [AV.app, AV.fH]) (fun v l x xs r t ih i => ?_) r
 cases i with
 | zero => exact (if_pos (Nat.succ_pos xs.length)).symm
 | succ i =>
  refine aa (show ((AV.cons v l).app pad).bB (i + 1) = _ from ih i) ?_
  by_cases h : i < xs.length
  ·refine aa (if_pos h) ?_; exact (if_pos (Nat.succ_lt_succ h)).symm
  ·refine aa (if_neg h) ?_; refine aa (if_neg fun q => h (Nat.lt_of_succ_lt_succ q)) ?_; rw [List.length_cons, Nat.succ_sub_succ]
theorem qE {names : List Str} : ∀ {vs : List Value}, names.Nodup -> names.length = vs.length -> ∀ (i : Nat) (x : Str), names[i]? = some x -> (names.zip vs).reverse.lookup x = vs[i]? := by
 have mem : ∀ (l : List (Str × Value)) (x : Str) (v : Value), (l.map (·.1)).Nodup -> (x, v) ∈ l -> l.lookup x = some v := fun l x v h1 h2 => bq h1 h2
 intro vs d4 hl i x hx
 have hi : i < names.length := (List.getElem?_eq_some_iff.mp hx).1
 have hv : vs[i]? = some vs[i] := List.getElem?_eq_getElem (by omega)
 refine aa hv ?_
 refine mem _ _ _ ?_ ?_
 ·refine aa List.map_reverse ?_; refine aa (List.map_fst_zip (by omega)) ?_
  exact List.pairwise_reverse.mpr (d4.imp fun h => Ne.symm h)
 ·rw [List.mem_reverse]
  have hz : (names.zip vs)[i]? = some (x, vs[i]) := by
   rw [List.getElem?_zip_eq_some]
   exact ⟨hx, hv⟩
  exact List.mem_of_getElem? hz
theorem fi {W : Gh} {n : Nat} {pad args : AV} {names : List Str} {vs : List Value} (hn : (C.ns.map (·.1)).take n = names) (hnl : names.length = n) (d4 : (C.ns.map (·.1)).Nodup) (hpad : ∀ j, pad.bB j = .undef) (rl : RL W args vs) (hl : vs.length = n) :
  (∀ xv ∈ names.zip vs, ∃ (i : Nat) (k : Kd), C.ns[i]? = some (xv.1, k)) /\ ∀ (i : Nat) (x : Str) (k : Kd), C.ns[i]? = some (x, k) -> Slot W ((args.app pad).bB i) ((names.zip vs).reverse.lookup x) := by
 subst hn
 refine ⟨fun xv hx => ?_, fun i x k hi => ?_⟩
 ·have h1 := (List.of_mem_zip hx).1
  have h2 := List.mem_of_mem_take h1
  refine ae (List.mem_map.mp h2) fun yk hy e => ?_
  refine bI (List.mem_iff_getElem?.mp hy) fun i hi => ?_
  exact ⟨i, yk.2, by refine aa hi ?_; exact bw e rfl⟩
 ·refine aa (AV.AX rl i) ?_
  by_cases h : i < vs.length
  ·refine aa (if_pos h) ?_
   have hx : ((C.ns.map (·.1)).take n)[i]? = some x := by
    refine aa (List.getElem?_take) ?_; refine aa (if_pos (by omega)) ?_; refine aa (List.getElem?_map) ?_; refine aa hi ?_; rfl
   refine aa (qE (d4.sublist (List.take_sublist _ _)) (by omega) i x hx) ?_
   rcases rl.bB i with ⟨e1, e2⟩ | ⟨e1, y, e2, ry⟩
   ·exact .inl e1
   ·exact .inr ⟨y, e2, ry⟩
  ·refine aa (if_neg h) ?_; exact .inl (hpad _)
theorem m8 {names : List Str} {vs : List Value} {m : Nat} (h1 : names.length = m + 1) (h2 : vs.length = m + 1) : names.zip vs ≠ [] := fun e => by
 have := congrArg List.length e
 rw [List.length_zip, h1, h2] at this
 exact absurd this (by simp)
noncomputable def gv (n : Nat) (pad : AV) (args : AV) (k : AV -> R) : R := R.guard (Nat.beq args.len n) (k (args.app pad))
theorem kH {f : Nat} {fd : FuncData} {n p : Nat} {pad : AV} {names : List Str} (hb : ∀ vs : List Value, vs.length = n -> bindArgs fd ⟨vs.take p, (D.fn f).kw.zip (vs.drop p)⟩ = pure (names.zip vs)) (hp : p + (D.fn f).kw.length = n)
  (hn : (C.ns.map (·.1)).take n = names) (hnl : names.length = n) (d4 : (C.ns.map (·.1)).Nodup) (hpad : ∀ j, pad.bB j = .undef) (h0 : 0 < n) : ja f C fd (gv n pad) := fun args k v l σf h => by
 refine ba (R.ah h) fun g h1 => ?_
 have g := Nat.eq_of_beq_eq_true g
 refine ⟨_, h1, fun A W σ s pos kwv _ I rl hk => ?_⟩
 have hl : (pos ++ kwv).length = n := by refine bw rl.len ?_; exact g
 have hpl : pos.length = p := by rw [List.length_append] at hl; lia
 have e := hb (pos ++ kwv) hl
 rw [List.take_left' hpl, List.drop_left' hpl] at e
 refine aa e ?_
 refine ba (fi hn hnl d4 hpad rl hl) fun h2 h3 => ?_
 exact wpAny_pure ⟨W, .refl W, I, aJ.refl W _, (match n, h0, hnl, hl with | n + 1, _, a, b => m8 a b), h2, h3⟩
noncomputable def Gf (n : Nat) (d pad : AV) (args : AV) (k : AV -> R) : R := R.guard (Nat.beq args.len n) (k ((args.app (.cons d .nil)).app pad))
theorem ud {f : Nat} {fd : FuncData} {n : Nat} {d pad : AV} {names : List Str} {T : Addr} {o : Obj} {y : Value} {ep : Nat} (hd : fd.defaults = .ref T) (ho : D.B.get? T = some o) (hs : o.data = .seq #[y] ep) (hry : ∀ W : Gh, (∀ a o, D.B.get? a = some o -> W a = .az o) -> RV W d y)
  (hkw : (D.fn f).kw = []) (hb : ∀ vs : List Value, vs.length = n -> ∃ kk, bindArgs fd ⟨vs, []⟩ = seqItems? fd.defaults >>= kk /\ kk (some #[y]) = pure (names.zip (vs ++ [y])))
  (hn : (C.ns.map (·.1)).take (n + 1) = names) (hnl : names.length = n + 1) (d4 : (C.ns.map (·.1)).Nodup) (hpad : ∀ j, pad.bB j = .undef) : ja f C fd (Gf n d pad) := fun args k v l σf h => by
 refine ba (R.ah h) fun g h1 => ?_
 have g := Nat.eq_of_beq_eq_true g
 refine ⟨_, h1, fun A W σ s pos kwv _ I rl hk => ?_⟩
 rw [hkw] at hk ⊢
 obtain rfl := List.length_eq_zero_iff.mp hk
 rw [List.append_nil] at rl
 have hl : pos.length = n := by refine bw rl.len ?_; exact g
 show wpAny _ _ (bindArgs fd ⟨pos, []⟩) _ _ _
 refine ae (hb pos hl) fun kk b1 b2 => ?_
 refine aa b1 ?_; refine aa hd ?_
 refine wpAny_bind (wpAny_seqItems (I.bK _ _ ho) hs ?_)
 refine aa b2 ?_
 refine ba (fi hn hnl d4 hpad (RL.app (.cons _ _ _ _ (hry W I.base) .nil) rl) (by refine aa List.length_append ?_; refine aa hl ?_; rfl)) ?_; intro h2 h3
 exact wpAny_pure ⟨W, .refl W, I, aJ.refl W _, m8 hnl (by simp; lia), h2, h3⟩
noncomputable def Dg (n : Nat) (pad : AV) (args : AV) (k : AV -> R) : R := R.guard (Nat.ble n args.len) (R.guard (fits args.len) (k (((args.take n).app (.cons (.tup (Nat.sub args.len n) (args.drop n)) .nil)).app pad)))
theorem pV {f : Nat} {fd : FuncData} {n : Nat} {pad : AV} {names : List Str} (hkw : (D.fn f).kw = []) (hb : ∀ vs rest : List Value, vs.length = n -> bindArgs fd ⟨vs ++ rest, []⟩ = newTuple rest >>= fun t => pure (names.zip (vs ++ [t])))
  (hn : (C.ns.map (·.1)).take (n + 1) = names) (hnl : names.length = n + 1) (d4 : (C.ns.map (·.1)).Nodup) (hpad : ∀ j, pad.bB j = .undef) : ja f C fd (Dg n pad) := fun args k v l σf h => by
 refine ba (R.ah h) fun g h1 => ?_
 refine ba (R.ah h1) fun g2 h1 => ?_
 have g := Nat.le_of_ble_eq_true g
 have g2 := bO g2
 refine ⟨_, h1, fun A W σ s pos kwv _ I rl hk => ?_⟩
 rw [hkw] at hk ⊢
 obtain rfl := List.length_eq_zero_iff.mp hk
 rw [List.append_nil] at rl
 have hl := rl.len
 have e := hb (pos.take n) (pos.drop n) (by refine aa List.length_take ?_; omega)
 rw [List.take_append_drop] at e
 show wpAny _ _ (bindArgs fd ⟨pos, []⟩) _ _ _
 refine aa e ?_
 have fr := I.free
 have le := Gh.aQ (l := .az (cU (pos.drop n).toArray 0)) fr
 have ga : (s.heap.push (cU (pos.drop n).toArray 0)).get? s.heap.objs.size = some (cU (pos.drop n).toArray 0) := Heap.get?_push_size _ rfl
 have I1 := I.fx (t := s.toks) fr ga (Keeps.push _ _)
 refine wpAny_bind (wpAny_newTuple (wpAny_pure ?_) (by refine aa sizeLine_eq ?_; refine aa List.length_drop ?_; omega))
 refine ba (fi (vs := pos.take n ++ [.ref s.heap.objs.size]) (W := W.set s.heap.objs.size (.az (cU (pos.drop n).toArray 0))) hn hnl d4 hpad (RL.app (.cons (.tup (Nat.sub args.len n) (args.drop n)) .nil (.ref s.heap.objs.size) [] (.tup _ _ _ _ (Gh.aq ..) (by refine aa List.size_toArray ?_; refine aa List.length_drop ?_; refine aa hl ?_; rfl) (by show args.len - n <= _; lia) (by simpa using (rl.mono le.bM).drop)) .nil) (rl.mono le.bM).take) (by refine aa List.length_append ?_; refine aa List.length_take ?_; simp; omega)) ?_; intro h2 h3
 exact ⟨_, le, I1, (Keeps.push _ _).own, m8 hnl (by simp; lia), h2, h3⟩
theorem uU {n : Nat} : ∀ j, (Nat.rec AV.nil (fun _ ih => AV.cons .undef ih) n : AV).bB j = .undef := by
 induction n with
 | zero => exact fun _ => rfl
 | succ n ih => exact fun j => by induction j using Nat.casesOn with | zero => rfl | succ j => exact ih j
end
section
open PySem PySem.W PyProof.Rows
variable {C : Cx} {lv : Nat} {q : Bool}
structure om (x : Str) (f : Nat) (kw : List Str) : Prop where
 g : cG x (.ref (D.fn f).addr)
 at' : FnAt f
 kw : (D.fn f).kw = kw
noncomputable def qS (k : DE) (n : Nat) : Prop := ∀ ih Z σ v l s, k ih Z σ = .val v l s -> v.len = n
theorem aF : qS dE 0 := fun ih Z σ v l s h => by refine R.ve h ?_; rfl
theorem mB {d e : DE} {n : Nat} (h1 : qS e n) : qS (dB d e) (n + 1) := fun ih Z σ v l s h => by
 refine ak (R.ai h) fun x l1 s1 e1 h => ?_
 refine ak (R.ai h) fun y l2 s2 e2 h => ?_
 refine R.ve h ?_
 show Nat.succ y.len = _
 exact aa (h1 _ _ _ _ _ _ e2) rfl
theorem xQ {x : Str} {p pos : Pos} {f : Nat} {kw : List Str} {es : List Expr} {ks : List Keyword} {d k : DE} (G : om x f kw) (hq : C.q = true) (hx : C.sc.names.lookup x = some .globalImplicit) (hd : (x == ("__debug__" : Str)) = false)
  (hkw : ks.filterMap (·.arg) = kw) (hkl : (ks.filterMap (·.arg)).length = ks.length) (hs : dX es) (hk : ks.all (·.arg.isSome) = true) (h1 : jZ C lv es d) (h2 : yG C lv ks k) (hlen : qS k ks.length) : aS C lv (.Call (.Name x p) es ks pos) (jw f d k) :=
 AH hq hx hd G.g G.at' (hkw.trans G.kw.symm) hkl hs (List.all_eq_true.mp hk) (fun ih Z σ v l s W vs h r => by refine bw r.len ?_; exact aa (hlen _ _ _ _ _ _ h) rfl) h1 h2
theorem uz {o : Expr} {name : Str} {apos pos : Pos} {es : List Expr} {ks : List Keyword} {Cl : Addr} {f : Nat} {kw : List Str} {d1 d2 dk : DE} (M : (∃ mN, MethAt Cl mN name f) /\ (D.fn f).kw = kw) (hq : C.q = true) (hbase : ∀ env, attributeBase o name env (eval o env) = eval o env)
  (hform : ∀ env, methodCallForm (es.length + ks.length) (backTo pos (starEach es env)) (backToKw pos (keywordEach ks env)) = true) (hline : (apos.endLine == pos.line) = true) (hs : dX es) (hk : ks.all (·.arg.isSome) = true)
  (hkw : ks.filterMap (·.arg) = kw) (hkl : (ks.filterMap (·.arg)).length = ks.length)
  (h1 : aS C lv o d1) (h2 : jZ C lv es d2) (h3 : yG C lv ks dk) (hlen : qS dk ks.length) : aS C lv (.Call (.Attribute o name apos) es ks pos) (qR Cl f d1 d2 dk) :=
 let ⟨⟨_, M1⟩, e⟩ := M
 vA M1 hq hbase hform hline hs (List.all_eq_true.mp hk) (hkw.trans e.symm) hkl (fun ih Z σ v l s W vs h r => by refine bw r.len ?_; exact aa (hlen _ _ _ _ _ _ h) rfl) h1 h2 h3
theorem kI {o : Expr} {name : Str} {apos pos : Pos} {es : List Expr} {Cl : Addr} {f : Nat} {d1 dg : DE} (B : (∃ K, gh K Cl name f) /\ (D.fn f).kw = []) (hq : C.q = true) (hbase : ∀ env, attributeBase o name env (eval o env) = eval o env)
  (hform : ∀ env, methodCallForm (es.length + ([] : List Keyword).length) (backTo pos (starEach es env)) (backToKw pos (keywordEach [] env)) = false)
  (h1 : aS C lv o d1) (h2 : Fj C lv es dg) : aS C lv (.Call (.Attribute o name apos) es [] pos) (r9 Cl f d1 dg) :=
 let ⟨⟨_, B1⟩, e⟩ := B
 vf B1 hq hbase hform e h1 h2
structure zh (x : Str) (Cl : Addr) (f : Nat) (ao : AO) : Prop where
 g : cG x (.ref Cl)
 n : ∃ K, kE K Cl f ao
theorem xq {x : Str} {p pos : Pos} {Cl : Addr} {f : Nat} {ao : AO} (N : zh x Cl f ao) (hq : C.q = true) (hx : C.sc.names.lookup x = some .globalImplicit) (hd : (x == ("__debug__" : Str)) = false) : aS C lv (.Call (.Name x p) [] [] pos) (z0 f ao dE) :=
 let ⟨_, n⟩ := N.n; zo n hq hx hd N.g
theorem zL {x : Str} {p pos : Pos} {Cl : Addr} {f : Nat} {ao : AO} {e : Expr} {es : List Expr} {d : DE} (N : zh x Cl f ao) (hq : C.q = true) (hx : C.sc.names.lookup x = some .globalImplicit) (hd : (x == ("__debug__" : Str)) = false)
  (he : ∀ env, starEach (e :: es) env = (false, eval e env) :: starEach es env) (hp : ∀ env, (backTo pos (starEach es env)).any (·.1) = false) (h1 : jZ C lv (e :: es) d) : aS C lv (.Call (.Name x p) (e :: es) [] pos) (z0 f ao d) :=
 let ⟨_, n⟩ := N.n; BL n hq hx hd N.g he hp h1
noncomputable def C5 (x : Str) (y m : Nat) : Prop := ∃ a o S, cG x (.ref a) /\ D.B.get? a = some o /\ vd o S /\ (∀ c, c < 256 -> y.testBit c = true -> S ⟨#[c]⟩ = true) /\ (∀ c, c < 256 -> S ⟨#[c]⟩ = true -> m.testBit c = true)
theorem Cy {x : Str} {y m : Nat} {pos : Pos} (G : C5 x y m) (hx : C.sc.names.lookup x = some .globalImplicit) (hd : (x == ("__debug__" : Str)) = false) : aS C lv (.Name x pos) (dK (.fset y m)) :=
 let ⟨a, o, S, g, e, f, h1, h2⟩ := G; jY hx hd g fun W hW => .fset _ _ a o S (hW _ _ e) f h1 h2
noncomputable def z6 (x : Str) (i : Int) : Prop := ∃ t, cG x (.int i t)
theorem zK {x : Str} {i : Int} {pos : Pos} (G : z6 x i) (hx : C.sc.names.lookup x = some .globalImplicit) (hd : (x == ("__debug__" : Str)) = false) : aS C lv (.Name x pos) (dK (.int i)) :=
 let ⟨t, g⟩ := G; jY hx hd g fun W hW => .int _ _
noncomputable def CE (x : Str) (a : Addr) : Prop := cG x (.ref a) /\ ∃ o, D.B.get? a = some o
theorem zp {x : Str} {a : Addr} {pos : Pos} (G : CE x a) (hx : C.sc.names.lookup x = some .globalImplicit) (hd : (x == ("__debug__" : Str)) = false) : aS C lv (.Name x pos) (dK (.glob a)) :=
 let ⟨g, o, e⟩ := G; jY hx hd g fun W hW => .glob _ o (hW _ _ e)
theorem Co {x : Str} {k : Nat} {pos : Pos} (G : cG x (.type (tyName k))) (hx : C.sc.names.lookup x = some .globalImplicit) (hd : (x == ("__debug__" : Str)) = false) : aS C lv (.Name x pos) (dK (.ty k)) :=
 jY hx hd G fun W hW => .ty _
theorem yV {f : Value} {F : ab -> AV -> (AV -> ab -> R) -> R} (h : q = true) (x : eG true f F) : eG q f F := by subst h; exact x
theorem zS {id : String} {F : ab -> AV -> AV -> (AV -> ab -> R) -> R} (h : q = true) (x : eA true id F) : eA q id F := by subst h; exact x
theorem cf : Recv "str" "startswith" "str.startswith" fP := fM F.slot_str_startswith (by show builtinType _ = _; rw [builtinType_eq_fast]; kernel_rfl)
theorem vN : Recv "str" "index" "str.index" fP := fM F.slot_str_index (by show builtinType _ = _; rw [builtinType_eq_fast]; kernel_rfl)
theorem zC : Recv "str" "join" "str.join" fP := fM F.slot_str_join (by show builtinType _ = _; rw [builtinType_eq_fast]; kernel_rfl)
theorem cz : Recv "list" "append" "list.append" (gO 1) := i6 F.slot_list_append (by show builtinType _ = _; rw [builtinType_eq_fast]; kernel_rfl)
theorem vB : Recv "list" "clear" "list.clear" (gO 1) := i6 F.slot_list_clear (by show builtinType _ = _; rw [builtinType_eq_fast]; kernel_rfl)
theorem vi : Recv "list" "pop" "list.pop" (gO 1) := i6 F.slot_list_pop (by show builtinType _ = _; rw [builtinType_eq_fast]; kernel_rfl)
theorem wJ : Recv "dict" "get" "dict.get" qB := mK F.slot_dict_get (by show builtinType _ = _; rw [builtinType_eq_fast]; kernel_rfl)
theorem um : Recv "dict" "values" "dict.values" qB := mK F.slot_dict_values (by show builtinType _ = _; rw [builtinType_eq_fast]; kernel_rfl)
theorem t9 : Recv "set" "add" "set.add" (gO 3) := wA F.slot_set_add (by show builtinType _ = _; rw [builtinType_eq_fast]; kernel_rfl)
theorem AR : Recv "frozenset" "isdisjoint" "frozenset.isdisjoint" te := tS cQ hJ
end
section
open PySem PySem.W PyProof.Rows
variable {C : Cx} {lv : Nat} {q : Bool}
noncomputable def AV.stride (l : AV) (b : Nat) (cnt : Nat) : Nat -> AV := @Nat.rec (fun _ => Nat -> AV) (fun _ => .nil) (fun _ ih s => AV.cons (l.bB s) (ih (Nat.add s b))) cnt
theorem mq {W : Gh} {l : AV} {xs : List Value} (r : RL W l xs) {b : Nat} : ∀ (cnt s : Nat), (∀ k, k < cnt -> s + b * k < xs.length) -> RL W (l.stride b cnt s) ((List.range cnt).filterMap fun k => xs[s + b * k]?)
 | 0, s, _ => .nil
 | cnt + 1, s, h => by
  have h0 : s < xs.length := by have := h 0 (Nat.succ_pos _); omega
  refine aa List.range_succ_eq_map ?_; refine aa List.filterMap_cons ?_
  simp only [Nat.mul_zero, Nat.add_zero]
  refine aa (List.getElem?_eq_getElem h0) ?_; refine aa List.filterMap_map ?_
  dsimp only
  have e : ((fun k => xs[s + b * k]?) ∘ Nat.succ) = fun k => xs[s + b + b * k]? := by
   funext k
   show xs[s + b * (k + 1)]? = _
   rw [Nat.mul_succ]; congr 1; lia
  refine aa e ?_
  refine .cons _ _ _ _ ?_ (mq r cnt (s + b) fun k hk => ?_)
  ·rcases r.bB s with ⟨_, e2⟩ | ⟨_, y, e2, ry⟩
   ·rw [List.getElem?_eq_getElem h0] at e2; cases e2
   ·rw [List.getElem?_eq_getElem h0] at e2; cases e2; exact ry
  ·have := h (k + 1) (Nat.succ_lt_succ hk)
   rw [Nat.mul_succ] at this
   lia
noncomputable def fW (n a b : Nat) : Nat := @Bool.rec (fun _ => Nat) 0 (Nat.div (Nat.pred (Nat.add (Nat.sub n a) b)) b) (Nat.blt a n)
theorem lV {a b n : Nat} (hb : 0 < b) : sliceBounds (some (a : Int)) none (some (b : Int)) n = (((min a n : Nat) : Int), (n : Int), (b : Int)) := by
 unfold sliceBounds
 have h1 : ((some (b : Int)).getD 1 : Int) = b := rfl
 have h2 : (b : Int) > 0 := by lia
 have h3 : ¬ ((a : Int) < 0) := by lia
 simp only [h1, h2, if_true, h3, if_false]
 congr 1
 omega
theorem nu {a b n : Nat} (hb : 0 < b) : sliceRange ((min a n : Nat) : Int) (n : Int) (b : Int) = (List.range (fW n a b)).map fun k => a + b * k := by
 unfold sliceRange
 have h2 : (b : Int) > 0 := by omega
 simp only [h2, if_true]
 unfold fW
 by_cases ha : a < n
 ·have h3 : ((min a n : Nat) : Int) < n := by omega
  have h4 : Nat.blt a n = true := Nat.blt_eq.mpr ha
  refine aa (if_pos h3) ?_; refine aa h4 ?_
  have h5 : min a n = a := by lia
  refine aa h5 ?_
  have h6 : (((n : Int) - (a : Int) + (b : Int) - 1) / (b : Int)).toNat = (n - a + b - 1) / b := by
   have : (n : Int) - (a : Int) + (b : Int) - 1 = ((n - a + b - 1 : Nat) : Int) := by lia
   refine aa this ?_; rw [<- Int.natCast_ediv]; rfl
  refine aa h6 ?_
  show List.map _ (List.range ((n - a + b - 1) / b)) = List.map _ (List.range ((n - a + b - 1) / b))
  refine List.map_congr_left fun k _ => ?_
  rw [<- Int.natCast_mul, <- Int.natCast_add]; rfl
 ·have h3 : ¬ (((min a n : Nat) : Int) < n) := by omega
  have h4 : Nat.blt a n = false := by
   cases h : Nat.blt a n with
   | false => rfl
   | true => exact absurd (Nat.blt_eq.mp h) ha
  refine aa (if_neg h3) ?_; refine aa h4 ?_; rfl
noncomputable def AY (σ : ab) (x lo st : AV) (k : AV -> ab -> R) : R := x.dP σ fun n l => dZ lo fun a => dZ st fun b => R.guard (Nat.blt 0 b) (k (.lst (fW n a b) (l.stride b (fW n a b) a)) σ)
theorem sV {n a b k : Nat} (hb : 0 < b) (hk : k < fW n a b) : a + b * k < n := by
 unfold fW at hk
 cases h : Nat.blt a n with
 | false => rw [h] at hk; exact absurd hk (Nat.not_lt_zero _)
 | true =>
  rw [h] at hk
  have ha := Nat.blt_eq.mp h
  have hk : k < (n - a + b - 1) / b := hk
  rw [Nat.lt_div_iff_mul_lt hb] at hk
  have := Nat.mul_comm b k
  omega
theorem uX {n a b : Nat} (hb : 0 < b) : fW n a b <= n := by
 refine Nat.le_of_not_lt fun h => ?_
 have := sV hb h
 have : n <= b * n := Nat.le_mul_of_pos_left n hb
 lia
noncomputable def zO (d1 d2 d3 : DE) : DE := fun ih Z σ => (d1 ih Z σ).bind fun x Z σ => (d2 ih Z σ).bind fun y Z σ => (d3 ih Z σ).bind fun z Z σ => AY σ x y z fun v σ => .val v Z σ
theorem tX {value lo st : Expr} {p pos : Pos} {d1 d2 d3 : DE} (h1 : aS C lv value d1) (h2 : aS C lv lo d2) (h3 : aS C lv st d3) :
  aS C lv (.Subscript value (.Slice (some lo) none (some st) p) pos) (zO d1 d2 d3) := fun rr ih A env W Z σ s P v Z' σ' h => by
 refine ak (R.ai h) fun x l1 s1 e1 h => ?_
 refine ak (R.ai h) fun y l2 s2 e2 h => ?_
 refine ak (R.ai h) fun u l3 s3 e3 h => ?_
 refine ag (AV.ct h) fun n l hx j1 => ?_
 refine ae (bS j1) fun a q1 j2 => ?_; obtain rfl := q1
 refine ae (bS j2) fun b q1 j3 => ?_; obtain rfl := q1
 refine ba (R.ah j3) fun g j4 => ?_
 have hb := Nat.blt_eq.mp g
 cases j4
 refine Subscript_ (wpAny_mono (h1 rr ih A env W Z σ s P _ _ _ e1) (fun vx sa ha => ?_) fun _ _ x => x)
 refine af ha ?_; clear ha; intro W1 w1 T1 r1
 refine wpAny_Slice (wpAny_mono (h2 rr ih A env W1 _ _ sa (P.next T1) _ _ _ e2) (fun vy sb hb => ?_) fun _ _ x => x)
 refine af hb ?_; clear hb; intro W2 w2 T2 r2
 rw [evalPart_none]
 refine wpAny_pure (wpAny_mono (h3 rr ih A env W2 _ _ sb (P.next T2) _ _ _ e3) (fun vu sc hc => ?_) fun _ _ x => x)
 refine af hc ?_; clear hc; intro W3 w3 T3 r3
 refine bI (r2.int_inv) fun ta q1 => ?_; refine aa q1 ?_
 refine bI (r3.int_inv) fun tb q1 => ?_; refine aa q1 ?_
 have K : Keeps W3 sc.heap (sc.heap.push { cls := .type "slice", data := .fields #[.int a ta, .none, .int b tb] }) := Keeps.push _ _
 have T4 : St C env W3 Z' σ' { sc with heap := sc.heap.push { cls := .type "slice", data := .fields #[.int a ta, .none, .int b tb] } } := T3.value (.refl W3) (T3.1.same (t := sc.toks) K) K.own
 refine aY (eF T4.1 hx (r1.mono (w2.trans w3).bM)) fun c items ep q3 e hn hbd rl => ?_; refine aa q3 ?_
 have hl := aH e
 refine gR ⟨"list", _, hl.typeIs, slot_list_getitem.lookup⟩ (.inl rfl) ?_
 refine wpAny_getItem_list_slice (lo := some (a : Int)) (hi := none) (st := some (b : Int)) hl (Heap.IsSliceOf.new ..) (.int _ _) .none (.int _ _) (by intro q; have q := Option.some.inj q; lia) ?_ (by refine aa sizeLine_eq ?_; lia)
 have ep : slicePick items (some (a : Int)) none (some (b : Int)) = ((List.range (fW n a b)).filterMap fun k => items.toList[a + b * k]?).toArray := by
  unfold slicePick
  refine aa (lV hb) ?_
  dsimp only
  refine aa (nu hb) ?_; refine aa List.filterMap_map ?_; refine aa hn ?_
  congr 1
  congr 1
  funext k
  simp
 refine aa ep ?_
 have bound : ∀ k, k < fW n a b -> a + b * k < items.toList.length := fun k hk => by refine aa Array.length_toList ?_; refine aa hn ?_; exact sV hb hk
 have rs := mq rl (b := b) (fW n a b) a bound
 have ln : ((List.range (fW n a b)).filterMap fun k => items.toList[a + b * k]?).length = fW n a b := by
  have := rs.len
  refine bw this ?_
  clear this rs bound ep
  generalize fW n a b = m
  generalize a = a'
  induction m generalizing a' with
  | zero => rfl
  | succ m ih => exact congrArg Nat.succ (ih (a' + b))
 exact (aj.az (o := aV _ 0) T4.1 rfl sc.toks fun W' le e => .lst _ _ _ _ 0 e (by refine aa List.size_toArray ?_; exact aa ln rfl) (Nat.le_trans (uX hb) hbd) (by simpa using rs.mono le.bM)).frame T4 ((w1.trans w2).trans w3)
noncomputable def AV.vb (l : AV) : Int := AV.fH (Int.ofNat 0) (fun a _ ih => (AV.cInt (β := Int) ih (fun i => rI i ih) a)) l
noncomputable def jN (σ : ab) (l : AV) (k : AV -> ab -> R) : R := l.qx fun x => x.dP σ fun n a => R.guard a.allI (k (.int a.vb) σ)
theorem tT {W : Gh} {t : AV} {vs : List Value} (r : RL W t vs) : t.allI = true -> ∃ xs : List (Int × Tok), vs = xs.map (fun p => Value.int p.1 p.2) /\ t.vb = (xs.map (·.1)).sum := by
 refine RL.ind (motive := fun t vs => t.allI = true -> ∃ xs : List (Int × Tok), vs = xs.map (fun p => Value.int p.1 p.2) /\ t.vb = (xs.map (·.1)).sum) (fun _ => ⟨[], rfl, rfl⟩) (fun v l x xs r t ih h => ?_) r
 induction v using AV.casesOn <;> first | exact Bool.noConfusion h | skip
 rename_i i
 refine bI (r.int_inv) fun tk q1 => ?_; refine aa q1 ?_
 refine ae (ih h) fun ys q1 e => ?_; refine aa q1 ?_
 exact ⟨(i, tk) :: ys, rfl, by show rI i l.vb = _; rw [nZ]; refine aa e ?_; rfl⟩
theorem CG : eG true (.builtin "sum") jN := fun σ l k v Z σf h => by
 refine ae (AV.cV h) fun x q1 h1 => ?_; refine aa q1 ?_
 refine ag (AV.ct h1) fun n a hx h2 => ?_
 refine ba (R.ah h2) fun g h3 => ?_
 refine ⟨_, _, h3, fun A W s vs _ hh I r => ?_⟩
 refine ae (r.one) fun y q1 ry => ?_; refine aa q1 ?_
 refine aY (eF I hx ry) fun b items ep q3 e hn hb rl => ?_; refine aa q3 ?_
 refine ae (tT rl g) fun ys hy hs => ?_
 have ei : items = intItems ys.toArray := by
  apply Array.toList_inj.mp
  refine aa hy ?_
  simp [intItems]
 subst ei
 refine sum_intListG (hh rfl) (aH e) fun h' tk t' hk => ?_
 rw [preSum_eq]; refine aa (List.take_of_length_le (by simp)) ?_
 refine aa hs ?_
 exact ⟨W, .refl W, I.same (t := tk) (Keeps.bJ hk), (Keeps.bJ hk).own, .int _ _⟩
end
section
open PySem PySem.W PyProof.Rows
variable {C : Cx} {lv : Nat} {q : Bool}
noncomputable def AV.rg (v : AV) (k : AV -> RS) : RS := (AV.vo (β := RS) .fail (fun n l => k l) v)
theorem AV.ug {v : AV} {k : AV -> RS} (h : v.rg k ≠ .fail) : ∃ n l, v = .lst n l /\ v.rg k = k l := by
 induction v using AV.casesOn <;> first | exact absurd rfl h | exact ⟨_, _, rfl, rfl⟩
noncomputable def sZ (j : Nat) (y : AV) : AV := .tup 2 (.cons (.int (Int.ofNat j)) (.cons y .nil))
noncomputable def oP (a : AV) (asg : AV -> AV -> (AV -> RS) -> RS) (b e : AV -> ab -> RS) (n : Nat) : Nat -> AV -> ab -> RS :=
 @Nat.rec (fun _ => Nat -> AV -> ab -> RS) (fun _ _ _ => .fail) (fun _ ih j Z σ => (a.bB j).opt (fun y => asg Z (sZ j y) fun Z => (b Z σ).turn (ih (Nat.succ j))) (e Z σ)) n
noncomputable def gN (N : Nat) (asg : AV -> AV -> (AV -> RS) -> RS) (d : DE) (b e : DS) : DS := fun ih Z σ => (d ih Z σ).aX fun v Z σ => v.rg fun a => oP a asg (b ih) (e ih) N 0 Z σ
noncomputable def wH (it : Addr) (j : Int) (old : Value) : Obj := { cls := .type "enumerate", dict := none, data := .fields #[.none, .bool false, .ref it, rawInt j, .none, old], slots := #[] }
theorem pR {env : Env} {W1 W : Gh} {Z : AV} {σ : ab} {s : Shared} {it e : Addr} {oi o1 oe oe' ot : Obj} {hz : Heap} (t : Nat) (T : St C env W Z σ s) (w : W1.le W) (fr1 : W1 it = .free) (fr2 : W1 e = .free) (hne : e ≠ it) (ki : W it = .kept oi) (ke : W e = .kept oe) (gi : s.heap.get? it = some oi) (ge : s.heap.get? e = some oe)
  (hci : ∀ ov, oi.data ≠ .cell ov) (hce : ∀ ov, oe.data ≠ .cell ov) (fo : o1.isFreed = false) (fe : oe'.isFreed = false) (g1 : hz.get? it = some o1) (g2 : hz.get? e = some oe') (g3 : hz.get? s.heap.objs.size = some ot) (hk : ∀ b ob, b ≠ it -> b ≠ e -> s.heap.get? b = some ob -> hz.get? b = some ob) :
  ∃ We, W1.le We /\ St C env We Z σ { s with heap := hz, toks := t } /\ We it = .kept o1 /\ We e = .kept oe' /\ We s.heap.objs.size = .az ot := by
 have frT : W s.heap.objs.size = .free := T.1.free
 have hTe : s.heap.objs.size ≠ e := fun q => cn.noConfusion (frT.symm.trans ((congrArg W q).trans ke))
 have hTi : s.heap.objs.size ≠ it := fun q => cn.noConfusion (frT.symm.trans ((congrArg W q).trans ki))
 generalize s.heap.objs.size = a at *
 have u1 : (s.heap.update e fun _ => oe').get? e = some oe' := Heap.get?_update_self _ ge fe
 have Tc := T.relabel (t := s.toks) ke hce (.inr ⟨_, rfl, u1⟩) fun b ob hb q => (Heap.get?_update_other _ _ (Ne.symm hb)).trans q
 have u2 : ((s.heap.update e fun _ => oe').update it fun _ => o1).get? it = some o1 := Heap.get?_update_self _ ((Heap.get?_update_other _ _ hne).trans gi) fo
 have Td := Tc.relabel (t := s.toks) ((Gh.aD _ _ (Ne.symm hne)).trans ki) hci (.inr ⟨o1, rfl, u2⟩) fun b ob hb q => (Heap.get?_update_other _ _ (Ne.symm hb)).trans q
 have frT2 : ((W.set e (.kept oe')).set it (.kept o1)) a = .free := ((Gh.aD _ _ hTi).trans (Gh.aD _ _ hTe)).trans frT
 have kp : ∀ b ob, ((s.heap.update e fun _ => oe').update it fun _ => o1).get? b = some ob -> hz.get? b = some ob := fun b ob q => by
  by_cases q1 : b = it
  ·subst q1; exact Option.some.inj (u2.symm.trans q) ▸ g1
  have q := (Heap.get?_update_other _ _ (Ne.symm q1)).symm.trans q
  by_cases q2 : b = e
  ·subst q2; exact Option.some.inj (u1.symm.trans q) ▸ g2
  exact hk b ob q1 q2 ((Heap.get?_update_other _ _ (Ne.symm q2)).symm.trans q)
 refine ⟨_, (Gh.jT (Gh.jT w fr2) fr1).trans (Gh.aQ frT2), Td.value (Gh.aQ frT2) (Td.1.fx (t := t) frT2 g3 (Keeps.bJ kp)) (Keeps.bJ kp).own, ?_, ?_, Gh.aq ..⟩
 ·exact (Gh.aD _ _ (Ne.symm hTi)).trans (Gh.aq ..)
 ·exact ((Gh.aD _ _ (Ne.symm hTe)).trans (Gh.aD _ _ hne)).trans (Gh.aq ..)
inductive En (C : Cx) (env : Env) (W1 : Gh) (it la : Addr) (F : Nat -> Nat -> AV -> ab -> RS) (res : RS) (n : Nat) (s : Shared) : Prop
 | mk (W' : Gh) (j : Nat) (Z' : AV) (σ' : ab) (oi : Obj) (old : Value) (w : W1.le W') (T : St C env W' Z' σ' s) (ki : W' it = .kept oi) (hi : iM "list_iterator" #[.ref la, .int j 0] oi) (ke : W' (it + 1) = .kept (wH it j old)) (hf : F n j Z' σ' = res)
theorem iM.free {T : String} {fs : Array Value} {o : Obj} (h : iM T fs o) : o.isFreed = false := by
 obtain ⟨c, d, x, sl⟩ := o
 refine aa ((show x = .fields fs from h.2)) ?_
 rfl
theorem tW {N k : Nat} {ts : List Expr} {p tp cp : Pos} {ie : Expr} {b e : List Stmt} {pos : Pos} {asg : AV -> AV -> (AV -> RS) -> RS} {d : DE} {db de : DS} (hq : C.q = true) (hfs : ∀ env x, foldedSetIterable (.Call (.Name "enumerate" p) [ie] [] cp) env x = pure x)
  (hx : C.sc.names.lookup (Str.ofString "enumerate") = some .globalImplicit) (hg : cG "enumerate" (.type "enumerate")) (hs : dX [ie]) (hp : Plain [ie]) (ha : oY C (.Tuple ts k tp) asg) (h1 : jZ C lv [ie] (dB d dE)) (h2 : dR C lv b db) (h3 : dR C lv e de) :
  hM C lv (.For (.Tuple ts k tp) (.Call (.Name "enumerate" p) [ie] [] cp) b e pos) (gN N asg d db de) := fun r ih A env W Z σ s P hne => by
 refine aW (P := fun r => wpAny _ _ _ (aO C env W r) _ _) hne fun v l1 s1 e1 e3 => ?_
 refine ag (AV.ug e3) fun nn a hv e4 => ?_
 subst hv
 rw [e4] at e3 ⊢
 generalize hres : oP a asg (db ih) (de ih) N 0 l1 s1 = res at e3 ⊢
 have ed : dB d dE ih Z σ = .val (.cons (.lst nn a) .nil) l1 s1 := congrArg (fun q => R.bind q fun v Z σ => (dE ih Z σ).bind fun vs Z σ => .val (.cons v vs) Z σ) e1
 refine nz (Call_Name rfl (c5 hx hg (by decide +kernel) P.st (PyProof.Rows.callWith_type (hp env cp) (fu hs P h1 ed cp fun W1 vs sa w1 T1 rl => ?_)))) (hfs env)
 refine ae rl.one fun x hx rx => ?_
 subst hx
 induction rx using RV.jE with
 | mk la items ep hla hn hb rli =>
 refine call_enumerate_list (aH (T1.1.az _ _ hla)) fun h0 he0 hit0 hsz0 hk0 => ?_
 have fr1 : W1 sa.heap.objs.size = .free := T1.1.free
 have fr2 : W1 (sa.heap.objs.size + 1) = .free := Classical.byContradiction fun z => bI (T1.1.ex _ z) fun o e => absurd (Heap.lt_size e) (Nat.not_lt.mpr (Nat.le_succ _))
 generalize sa.heap.objs.size = it at *
 have hne' : it + 1 ≠ it := Nat.succ_ne_self it
 refine ae (id hit0) fun oi0 gi0 ci0 => ?_
 have fr3 : (W1.set it (.kept oi0)) (it + 1) = .free := (Gh.aD _ _ hne').trans fr2
 have kk : Keeps (W1.set it (.kept oi0)) h0 h0 := fun _ _ _ e => e
 have Tb : St C env ((W1.set it (.kept oi0)).set (it + 1) (.kept (wH it 0 .none))) l1 s1 { sa with heap := h0 } := (T1.value (Gh.aQ fr1) (T1.1.dy (t := sa.toks) fr1 gi0 (Keeps.bJ hk0)) (Keeps.bJ hk0).own).value (Gh.aQ fr3) (((T1.value (Gh.aQ fr1) (T1.1.dy (t := sa.toks) fr1 gi0 (Keeps.bJ hk0)) (Keeps.bJ hk0).own)).1.dy (t := sa.toks) fr3 he0 kk) kk.own
 refine wpAny_pyIter_enum he0 ?_
 cases N with
 | zero => exact absurd hres.symm e3
 | succ N =>
 refine kP (En C env W1 it la (oP a asg (db ih) (de ih)) res) (fun n s' hI => ?_) (N + 1) (.mk _ 0 l1 s1 oi0 .none ((Gh.aQ fr1).trans (Gh.aQ fr3)) Tb ((Gh.aD _ _ (Ne.symm hne')).trans (Gh.aq ..)) ci0 (Gh.aq ..) hres)
 induction hI using En.casesOn with
 | mk W' j Z' σ' oi old w' T' ki hi ke hf =>
 cases n with
 | zero => exact absurd hf.symm e3
 | succ n =>
  have hf : (a.bB j).opt (fun y => asg Z' (sZ j y) fun Z => (db ih Z σ').turn (oP a asg (db ih) (de ih) n (j + 1))) (de ih Z' σ') = res := hf
  refine ae (T'.1.kept _ _ ki) fun oi' gi smi => ae (T'.1.kept _ _ ke) fun oe' ge sme => ?_
  obtain rfl := smi.wK hi.2
  obtain rfl := sme.wK rfl
  have hit : s'.heap.IsListIter it la j := ⟨_, gi, hi⟩
  have hl := aH (T'.1.az _ _ (w'.az hla))
  have hci : ∀ ov, oi'.data ≠ .cell ov := fun ov q => Data.noConfusion (hi.2.symm.trans q)
  refine (rli.bB j).elim (fun h => ?_) fun h => bI h.2 fun y hy => ?_
  ·obtain rfl : de ih Z' σ' = res := (congrArg (AV.opt · _ _) h.1).symm.trans hf
   have lw := Gh.jT (l := .free) w' fr1
   exact wpAny_pyNext_enum_end (P.hn hq) ge hit hl (Array.getElem?_toList ▸ h.2) fun h' hk => .none (wpAny_mono (h3 r ih A env _ _ _ _ (P.next (T'.relabel (l := .free) (t := s'.toks) ki hci (.inl rfl) (h' := h') fun b ob n e => hk b ob n e) (w1.trans lw)) e3) (fun f sb hb => hb.up (w1.trans lw)) fun _ _ x => x)
  ·have hf := (AV.eU h.1 _ _).symm.trans hf
   refine ae (ha Z' (sZ j (a.bB j)) _ fun q => e3 (hf.symm.trans q)) fun Z2 ea wa => ?_
   have hf := ea.symm.trans hf
   refine wpAny_pyNext_enum_item ge hit hl (Array.getElem?_toList ▸ hy.1) hne' fun h' ho hit' hT hsz hk => wpAny_letOwnedTupleGo_enum ho fun hz he2 hs2 => ae hit' fun o1 g1 c1 => ?_
   have hTe : s'.heap.objs.size ≠ it + 1 := fun q => cn.noConfusion (T'.1.free.symm.trans ((congrArg W' q).trans ke))
   refine j7 (pR (s'.toks + 1) T' w' fr1 fr2 hne' ki ke gi ge hci (fun ov q => Data.noConfusion q) (iM.free c1) (oe' := wH it ((j + 1 : Nat) : Int) y) rfl ((hs2.2 it (Ne.symm hne')).trans g1) he2 ((hs2.2 _ hTe).trans hT) fun b ob n1 n2 q => (hs2.2 b n2).trans (hk b ob n2 n1 q)) fun We lWe Te kWi kWe kWT => ?_
   have rT : RV We (sZ j (a.bB j)) (.ref s'.heap.objs.size) := .tup _ _ _ _ kWT rfl (by decide) (.cons _ _ _ _ (.int _ _) (.cons _ _ _ _ (hy.2.mono lWe.bM) .nil))
   refine wpAny_mono (wa A env We σ' _ _ P.op P.hn Te rT) (fun _ sb hb => ae hb fun W4 w4 T4 => ?_) fun _ _ x => x.elim
   exact wpAny_mono (h2 r ih A env W4 _ _ _ (P.next T4 ((w1.trans lWe).trans w4)) (j9 hf e3)) (fun f sc hc => nR hf e3 ((w1.trans lWe).trans w4) hc fun W5 l5 s5 w5 T5 h5 => .mk W5 (j + 1) l5 s5 o1 y ((lWe.trans w4).trans w5) T5 (w5.kept (w4.kept kWi)) c1 (w5.kept (w4.kept kWe)) h5) fun _ _ x => x.elim
end
section
open PySem PySem.W PyProof.Rows
variable {C : Cx} {lv : Nat} {q : Bool}
noncomputable def fF (a b : Bool) : Bool := @Bool.rec (fun _ => Bool) false b a
theorem bC {a b : Bool} (h : fF a b = true) : a = true /\ b = true := by
 cases a
 ·exact Bool.noConfusion h
 ·exact ⟨rfl, h⟩
noncomputable def AV.fz (σ : ab) (v' : AV) : AV -> Bool := @AV.rec (fun _ => AV -> Bool)
 (fun _ => false)
 (fun v => (AV.lO (β := Bool) false (true) v))
 (fun b v => (AV.cBool (β := Bool) false (fun b' => @Bool.rec (fun _ => Bool) (eW b') b' b) v))
 (fun i v => (AV.cInt (β := Bool) false (fun i' => zY i i') v))
 (fun n c v => (AV.cStr (β := Bool) false (fun m d => kQ n c m d) v))
 (fun k v => (AV.Fy (β := Bool) false (fun k' => Nat.beq k k') v))
 (fun a v => (AV.sO (β := Bool) false (fun a' => Nat.beq a a') v))
 (fun _ _ => false)
 (fun n _ ih v => (AV.pN (β := Bool) false (fun m l => fF (Nat.beq n m) (ih l)) v))
 (fun n _ ih v => (AV.jO (β := Bool) (AV.vo (β := Bool) false (fun m l => fF (Nat.beq n m) (ih l)) v) (fun i => (@AO.rec (fun _ => Bool) (fun m l => fF (Nat.beq n m) (ih l)) (fun _ _ _ => false) (fun _ _ => false) false (fun _ _ => false) (fun _ => false) (fun _ _ => false) (σ.look i))) v))
 (fun n _ ih v => (AV.jO (β := Bool) false (fun i => (@AO.rec (fun _ => Bool) (fun _ _ => false) (fun m ep e => fF (Nat.beq n m) (fF (Nat.beq ep (Nat.succ n)) (ih e))) (fun _ _ => false) false (fun _ _ => false) (fun _ => false) (fun _ _ => false) (σ.look i))) v))
 (fun _ _ _ => false) (fun _ _ _ => false) (fun _ _ _ => false) (fun _ _ => false) (fun _ _ => false)
 (fun v => (AV.pM (β := Bool) false (true) v))
 (fun _ _ iha ihl v => (AV.fB (β := Bool) false (fun a l => fF (iha a) (ihl l)) v))
 (fun n c _ _ ihv ihr v => (AV.Ad (β := Bool) false (fun m d u r => fF (kQ n c m d) (fF (ihv u) (ihr r))) v)) v'
theorem ip {n c m d : Nat} (h : kQ n c m d = true) : n = m /\ c = d := by
 unfold kQ at h
 cases e : Nat.beq n m with
 | false => rw [e] at h; cases h
 | true => rw [e] at h; exact ⟨Nat.eq_of_beq_eq_true e, Nat.eq_of_beq_eq_true h⟩
noncomputable def AV.ES (v : AV) : Bool := AV.pM (β := Bool) (AV.fB (β := Bool) false (fun _ _ => true) v) true v
noncomputable def AV.DV (v : AV) : Bool := AV.pM (β := Bool) (AV.Ad (β := Bool) false (fun _ _ _ _ => true) v) true v
theorem RL.ES {W : Gh} {v : AV} {xs : List Value} (r : RL W v xs) : v.ES = true := by cases r <;> rfl
theorem RE.DV {W : Gh} {v : AV} {xs : List (Str × Value)} (r : RE W v xs) : v.DV = true := by cases r <;> rfl
noncomputable def lP (W1 W2 : Gh) (v' v : AV) : Prop := (∀ x, RV W1 v x -> RV W2 v' x) /\ (∀ xs, RL W1 v xs -> RL W2 v' xs) /\ (∀ kvs, RE W1 v kvs -> RE W2 v' kvs)
section
variable {W1 W2 : Gh} {v v' : AV}
theorem lP.val (hl : v.ES = false) (he : v.DV = false) (h : ∀ x, RV W1 v x -> RV W2 v' x) : lP W1 W2 v' v :=
 ⟨h, fun _ r => Bool.noConfusion (hl.symm.trans r.ES), fun _ r => Bool.noConfusion (he.symm.trans r.DV)⟩
theorem lP.tup (hf : ∀ a o, W1 a = .az o -> W2 a = .az o) {n : Nat} (h : lP W1 W2 v' v) : lP W1 W2 (.tup n v') (.tup n v) := .val rfl rfl fun x r => by
 induction r using RV.iu with
 | mk a items e hn hb rl => exact .tup _ _ a items (hf _ _ e) hn hb (h.2.1 _ rl)
theorem lP.lst (hf : ∀ a o, W1 a = .az o -> W2 a = .az o) {n : Nat} (h : lP W1 W2 v' v) : lP W1 W2 (.lst n v') (.lst n v) := .val rfl rfl fun x r => by
 induction r using RV.jE with
 | mk a items ep e hn hb rl => exact .lst _ _ a items ep (hf _ _ e) hn hb (h.2.1 _ rl)
theorem lP.cons {a b : AV} (ha : lP W1 W2 a b) (h : lP W1 W2 v' v) : lP W1 W2 (.cons a v') (.cons b v) :=
 ⟨fun _ r => (nomatch r), fun xs r => by
  induction r using RL.iE with
  | mk x xs rx rl => exact .cons _ _ _ _ (ha.1 _ rx) (h.2.1 _ rl), fun _ r => Bool.noConfusion r.DV⟩
theorem lP.ent {n c : Nat} {a b : AV} (ha : lP W1 W2 a b) (h : lP W1 W2 v' v) : lP W1 W2 (.ent n c a v') (.ent n c b v) :=
 ⟨fun _ r => (nomatch r), fun _ r => Bool.noConfusion r.ES, fun xs r => by
  induction r using RE.iE with
  | mk x xs hc rx re => exact .cons _ _ _ _ _ _ hc (ha.1 _ rx) (h.2.2 _ re)⟩
end
theorem lP.list {W1 W2 : Gh} {σ : ab} {s : Shared} (I : Inv W1 σ s) (ht : ∀ a i o, W1 a = .bu i -> s.heap.get? a = some o -> W2 a = .az o) {i n : Nat} {v v' : AV} (ho : σ.look i = .list n v) (h : lP W1 W2 v' v) : lP W1 W2 (.lst n v') (.ref i) := .val rfl rfl fun x r => by
 induction r using RV.cg with
 | mk a ea => exact bH (cY I (ab.aw ho fun x => AO.noConfusion x) ea) fun items ep e hn hb rl => .lst _ _ a items ep (ht _ _ _ ea e) hn hb (h.2.1 _ rl)
theorem lP.dict (hms : (D.B.get? sysModules).isSome = true) {W1 W2 : Gh} {σ : ab} {s : Shared} (I : Inv W1 σ s) (ht : ∀ a i o, W1 a = .bu i -> s.heap.get? a = some o -> W2 a = .az o) {i n : Nat} {v v' : AV} (ho : σ.look i = .dict n (n + 1) v) (h : lP W1 W2 v' v) : lP W1 W2 (.dct n v') (.ref i) := .val rfl rfl fun x r => by
 induction r using RV.cg with
 | mk a ea =>
  refine b8 (cY I (ab.aw ho fun x => AO.noConfusion x) ea) fun kvs ep' hd he hn hb re => ag hd fun o es d1 d2 => ?_
  obtain rfl : n = ep' := he.elim (fun q => nomatch q) Nat.succ.inj
  exact .dct _ _ a o kvs (ht _ _ _ ea d1) (fun h' g => ⟨o, es, g, d2⟩) hn hb (I.iX hms ea) (h.2.2 _ re)
theorem Ee (hms : (D.B.get? sysModules).isSome = true) {W1 W2 : Gh} {σ : ab} {s : Shared} (I : Inv W1 σ s) (hf : ∀ a o, W1 a = .az o -> W2 a = .az o) (ht : ∀ a i o, W1 a = .bu i -> s.heap.get? a = some o -> W2 a = .az o) (v' : AV) : ∀ v : AV, v'.fz σ v = true -> lP W1 W2 v' v := by
 have nn : (false : Bool) ≠ true := Bool.false_ne_true
 induction v' with
 | none =>
  intro v h
  obtain rfl := (AV.xS (z := false) (k := true) h nn).1
  exact .val rfl rfl fun x r => by induction r using RV.Eh; exact .none
 | bool b =>
  intro v h
  refine ae (AV.qc (z := false) (k := fun b' => @Bool.rec (fun _ => Bool) (eW b') b' b) h nn) fun b' e h => ?_
  refine aa e ?_
  have e : b = b' := by induction b using Bool.casesOn <;> induction b' using Bool.casesOn <;> first | rfl | exact Bool.noConfusion h
  refine aa e ?_
  exact .val rfl rfl fun x r => by induction r using RV.Ec; exact .bool _
 | int i =>
  intro v h
  refine ae (AV.r7 (z := false) (k := fun i' => zY i i') h nn) fun i' e h => ?_
  refine aa e ?_
  obtain rfl : i = i' := of_decide_eq_true ((kF i i') ▸ h)
  exact .val rfl rfl fun x r => by induction r using RV.FV; exact .int _ _
 | str n c =>
  intro v h
  refine ag (AV.ti (z := false) (k := fun m d => kQ n c m d) h nn) fun m d e h => ?_
  refine aa e ?_
  refine bw ((ip h).1) ?_
  refine bw ((ip h).2) ?_
  exact .val rfl rfl fun x r => by induction r using RV.Gw with | mk t hc hn => exact .str _ _ _ hc hn
 | ty k =>
  intro v h
  refine ae (AV.BY (z := false) (k := fun k' => Nat.beq k k') h nn) fun k' e h => ?_
  refine aa e ?_
  refine aa (Nat.eq_of_beq_eq_true h) ?_
  exact .val rfl rfl fun x r => by induction r using RV.Hy; exact .ty _
 | glob a =>
  intro v h
  refine ae (AV.wX (z := false) (k := fun a' => Nat.beq a a') h nn) fun k' e h => ?_
  refine aa e ?_
  refine aa (Nat.eq_of_beq_eq_true h) ?_
  exact .val rfl rfl fun x r => by induction r using RV.Et with | mk o e => exact .glob _ _ (hf _ _ e)
 | tup n l ih =>
  intro v h
  refine ag (AV.yP (z := false) (k := fun m l2 => fF (Nat.beq n m) (AV.fz σ l l2)) h nn) fun m l2 e h => ?_
  refine aa e ?_
  refine bw (Nat.eq_of_beq_eq_true (bC h).1) ?_
  exact .tup hf (ih l2 (bC h).2)
 | lst n l ih =>
  intro v h
  induction v using AV.casesOn <;> first | exact Bool.noConfusion h | skip
  case lst m l2 =>
   refine aa (Nat.eq_of_beq_eq_true (bC h).1) ?_
   exact .lst hf (ih l2 (bC h).2)
  case ref i =>
   refine ag (AO.oZ (z := false) (k := fun m l2 => fF (Nat.beq n m) (AV.fz σ l l2)) (v := σ.look i) h nn) fun m l2 ho h => ?_
   refine aa (Nat.eq_of_beq_eq_true (bC h).1) ?_
   exact .list I ht ho (ih l2 (bC h).2)
 | dct n e ih =>
  intro v h
  refine ae (AV.tf (z := false) (k := fun i => @AO.rec (fun _ => Bool) (fun _ _ => false) (fun m ep e2 => fF (Nat.beq n m) (fF (Nat.beq ep (Nat.succ n)) (AV.fz σ e e2))) (fun _ _ => false) false (fun _ _ => false) (fun _ => false) (fun _ _ => false) (σ.look i)) h nn) fun i e1 h => ?_
  refine aa e1 ?_
  refine ak (AO.qg (z := false) (k := fun m ep e2 => fF (Nat.beq n m) (fF (Nat.beq ep (Nat.succ n)) (AV.fz σ e e2))) (v := σ.look i) h nn) fun m ep e2 ho h => ?_
  obtain rfl := Nat.eq_of_beq_eq_true (bC h).1
  obtain rfl := Nat.eq_of_beq_eq_true (bC (bC h).2).1
  exact .dict hms I ht ho (ih e2 (bC (bC h).2).2)
 | nil =>
  intro v h
  obtain rfl := (AV.zW (z := false) (k := true) h nn).1
  exact ⟨fun _ r => (nomatch r), fun xs r => by induction r using RL.BX; exact .nil, fun xs r => by induction r using RE.BX; exact .nil⟩
 | cons a l iha ihl =>
  intro v h
  refine ag (AV.xy (z := false) (k := fun a2 l2 => fF (AV.fz σ a a2) (AV.fz σ l l2)) h nn) fun a2 l2 e h => ?_
  refine aa e ?_
  exact .cons (iha a2 (bC h).1) (ihl l2 (bC h).2)
 | ent n c u r ihv ihr =>
  intro v h
  refine iG (AV.Af (z := false) (k := fun m d u2 r2 => fF (kQ n c m d) (fF (AV.fz σ u u2) (AV.fz σ r r2))) h nn) fun m d u2 r2 e h => ?_
  refine aa e ?_
  refine bw ((ip (bC h).1).1) ?_
  refine bw ((ip (bC h).1).2) ?_
  exact .ent (ihv u2 (bC (bC h).2).1) (ihr r2 (bC (bC h).2).2)
 | _ => intro v h; exact Bool.noConfusion h
open Classical in
noncomputable def hold (W : Gh) (h : Heap) : Gh := fun b => if (∃ i, W b = .bu i \/ W b = .sub i) then (match h.get? b with | some o => .az o | none => .free) else W b
theorem rW {W : Gh} {h : Heap} {b : Addr} (n : ¬ ∃ i, W b = .bu i \/ W b = .sub i) : hold W h b = W b := by unfold hold; exact aa (if_neg n) rfl
theorem tN {W : Gh} {h : Heap} {b : Addr} {o : Obj} {i : Nat} (n : W b = .bu i \/ W b = .sub i) (e : h.get? b = some o) : hold W h b = .az o := by
 unfold hold; refine aa (if_pos ⟨i, n⟩) ?_; exact aa e rfl
theorem lp {W : Gh} {h : Heap} (hex : ∀ a, W a ≠ .free -> ∃ o, h.get? a = some o) (b : Addr) : (hold W h b = W b /\ (∀ i, W b ≠ .bu i) /\ ∀ i, W b ≠ .sub i) \/ ∃ o, h.get? b = some o /\ hold W h b = .az o /\ ∃ i, W b = .bu i \/ W b = .sub i := by
 by_cases n : ∃ i, W b = .bu i \/ W b = .sub i
 ·refine bI n ?_; clear n; intro i hi
  refine bI (hex b (by rcases hi with hi | hi <;> refine aa hi ?_ <;> exact fun x => nomatch x)) ?_; intro o e
  exact .inr ⟨o, e, tN hi e, i, hi⟩
 ·exact .inl ⟨rW n, fun i e => n ⟨i, .inl e⟩, fun i e => n ⟨i, .inr e⟩⟩
theorem Inv.hold {W : Gh} {σ : ab} {s : Shared} (I : Inv W σ s) : Inv (hold W s.heap) .nil s := by
 have hc := lp (h := s.heap) I.ex
 refine ⟨fun a o e => ?_, fun a o e => ?_, fun a o e => ?_, fun a e => ?_, fun a e => ?_, (fun i o h => nomatch h), fun i a b h1 h2 => ?_, fun i a h => ?_, I.gens, I.os, I.tab.keep ((hc D.lam.tab).elim (fun h => h.1.trans I.tab.1) fun ⟨o1, _, _, i, h3⟩ => by rw [I.tab.1] at h3; rcases h3 with h3 | h3 <;> cases h3) (fun {a o} e => (hc a).elim (fun h => h.1.trans e) fun ⟨o1, _, _, i, h3⟩ => by rw [e] at h3; rcases h3 with h3 | h3 <;> cases h3) fun _ e => e⟩
 ·have e1 := I.base a o e
  rcases hc a with ⟨h, _, _⟩ | ⟨o1, h1, h2, i, h3⟩
  ·rw [h]; exact e1
  ·rw [e1] at h3; rcases h3 with h3 | h3 <;> cases h3
 ·rcases hc a with ⟨h, _, _⟩ | ⟨o1, h1, h2, i, h3⟩
  ·rw [h] at e; exact I.az a o e
  ·rw [h2] at e; cases e; exact h1
 ·rcases hc a with ⟨h, _, _⟩ | ⟨o1, h1, h2, i, h3⟩
  ·rw [h] at e; exact I.kept a o e
  ·rw [h2] at e; cases e
 ·rcases hc a with ⟨h, _, _⟩ | ⟨o1, h1, h2, i, h3⟩
  ·rw [h] at e; exact I.own a e
  ·rw [h2] at e; cases e
 ·rcases hc a with ⟨h, _, _⟩ | ⟨o1, h1, h2, i, h3⟩
  ·rw [h] at e; exact I.ex a e
  ·exact ⟨o1, h1⟩
 ·rcases hc a with ⟨h, n1, _⟩ | ⟨o1, h, h2, i, h3⟩
  ·rw [h] at h1; exact absurd h1 (n1 i)
  ·rw [h2] at h1; cases h1
 ·rcases hc a with ⟨h4, n1, n2⟩ | ⟨o1, h4, h2, i, h3⟩
  ·rw [h4] at h; rcases h with h | h
   ·exact absurd h (n1 i)
   ·exact absurd h (n2 i)
  ·rw [h2] at h; rcases h with h | h <;> cases h
theorem CL {W : Gh} {s : Shared} (I : Inv W .nil s) (a : Addr) : (∀ i, W a ≠ .bu i) /\ ∀ i, W a ≠ .sub i :=
 ⟨fun i e => absurd (I.nxt i a (.inl e)) (Nat.not_lt_zero _), fun i e => absurd (I.nxt i a (.inr e)) (Nat.not_lt_zero _)⟩
theorem uC (hms : (D.B.get? sysModules).isSome = true) {W : Gh} {s s' : Shared} (I : Inv W .nil s) {v v' : AV} {σ' : ab} {x : Value} (p : aj W s v σ' x s') (hz : v'.fz σ' v = true) : aj W s v' .nil x s' := by
 refine m6 p ?_; clear p; intro W1 hl I1 ko rv
 have hc := lp (h := s'.heap) I1.ex
 refine ⟨hold W1 s'.heap, fun a ha => ?_, I1.hold, ko, ?_⟩
 ·rcases hc a with ⟨h, _, _⟩ | ⟨o1, h1, h2, i, h3⟩
  ·refine aa h ?_; exact hl a ha
  ·rw [hl a ha] at h3
   refine ba (CL I a) fun n1 n2 => ?_
   rcases h3 with h3 | h3
   ·exact absurd h3 (n1 i)
   ·exact absurd h3 (n2 i)
 ·refine (Ee hms I1 (fun a o e => ?_) (fun a i o e eo => tN (.inl e) eo) v' v hz).1 x rv
  exact (rW (fun ⟨i, h⟩ => by rw [e] at h; rcases h with h | h <;> cases h)).trans e
noncomputable def gS (r : Nat) (f : Nat) (args v' : AV) : Prop := ∀ (A : Around) W s (x : Value) (pos kwv : List Value), mY W f x -> cP r A -> A.handled = none -> (∃ l, A.frames = some l /\ cZ W l) -> Inv W .nil s -> RL W args (pos ++ kwv) -> kwv.length = (D.fn f).kw.length ->
  codeAny (model D.prog D.w) A (.call x ⟨pos, (D.fn f).kw.zip kwv⟩) (fun r s' => ∃ x, r = .ok (.ret x) /\ aj W s v' .nil x s') s
theorem mQ (hms : (D.B.get? sysModules).isSome = true) {r : Nat} {ih : CH} (hok : c4 r ih) {f : Nat} {args v v' l : AV} {σ' : ab} (e : ih f args .nil = .val v l σ') (hz : v'.fz σ' v = true) :
  gS r f args v' := by
 intro A W s x pos kwv hx hA hh hfr I hr hk
 refine codeAny_mono (hok f args .nil v l σ' e A W s x pos kwv hx hA hh hfr I hr hk) (fun rr s' hv => ?_)
 refine ae hv ?_; clear hv; intro x h1 h2
 exact ⟨x, h1, uC hms I h2 hz⟩
end
section
open PySem PyProof.Rows
variable {C : Cx} {lv : Nat}
structure zA (c : Addr) : Prop where
 hd : PySem.W.CodeHd D.B c D.lam.tab
 ns : ∃ mg, D.B.Ns mainGlobals mg /\ D.B.BuiltinsAt mg D.lam.tab
 df : ∀ env, defaultsOf D.lam.prm env = ([], [])
 cl : ∀ env, closureFor D.lam.sc env = pure []
 ne : mainGlobals ≠ D.lam.tab
noncomputable def Df : DE := fun _ Z σ => .val (.lam 0) Z σ
theorem Inv.grow {W : Gh} {σ : ab} {s : Shared} {h' : Heap} {k : Tok} {c : Addr} {oc : Obj} {vs : Array Value} {q : Str} {tq : Tok} (I : Inv W σ s) (hk : ∀ b o, b ≠ D.lam.tab -> s.heap.get? b = some o -> h'.get? b = some o) (hc : W c = .free) (hx : h'.get? c = some oc)
  (hd : oc.data = .fields vs) (hq : vs[1]? = some (.str q tq)) (ht : h'.get? D.lam.tab = some (PySem.W.tabObj #[rawInt D.lam.pos.line, rawInt D.lam.pos.col, .ref c])) : Inv (W.set c (.az oc)) σ { s with heap := h', toks := k } := by
 have le := Gh.aQ (l := .az oc) hc
 have nt : ∀ {b l}, W b = l -> l ≠ .tab -> b ≠ D.lam.tab := fun e n q => n (e.symm.trans (q ▸ I.tab.1))
 exact ⟨fun b o e => le.az (I.base b o e), fun b o e => (Gh.bg e).elim (fun h => h.1 ▸ cn.noConfusion h.2 fun e => e ▸ hx) fun h => hk b o (nt h.2 fun x => nomatch x) (I.az b o h.2),
  fun b o e => (Gh.bg e).elim (fun h => cn.noConfusion h.2) fun h => ae (I.kept b o h.2) fun o' e' r => ⟨o', hk b o' (nt h.2 fun x => nomatch x) e', r⟩,
  fun b e => (Gh.bg e).elim (fun h => cn.noConfusion h.2) fun h => ae (I.own b h.2) fun o' e' r => ⟨o', hk b o' (nt h.2 fun x => nomatch x) e', r⟩,
  fun b e => (Classical.em (b = c)).elim (fun h => ⟨oc, h ▸ hx⟩) fun h => (Classical.em (b = D.lam.tab)).elim (fun h => ⟨_, h ▸ ht⟩) fun n => bI (I.ex b fun z => e ((Gh.aD W _ h).trans z)) fun o eo => ⟨o, hk b o n eo⟩,
  fun i p h => ae (I.bu i p h) fun b e r => ⟨b, le.bu e, r.keep le.bM e fun c o hc e => hk c o (hc.elim (fun hc => nt hc fun x => nomatch x) fun hc => nt hc fun x => nomatch x) e⟩,
  fun i b d h1 h2 => (Gh.bg h1).elim (fun h => cn.noConfusion h.2) fun x => (Gh.bg h2).elim (fun h => cn.noConfusion h.2) fun y => I.inj i b d x.2 y.2,
  fun i b h => h.elim (fun h => (Gh.bg h).elim (fun h => cn.noConfusion h.2) fun x => I.nxt i b (.inl x.2)) fun h => (Gh.bg h).elim (fun h => cn.noConfusion h.2) fun x => I.nxt i b (.inr x.2), I.gens, I.os,
  ⟨(le _ (by rw [I.tab.1]; exact fun x => nomatch x)).trans I.tab.1, _, ht, .inr ⟨c, oc, vs, q, tq, rfl, Gh.aq .., hd, hq⟩⟩⟩
theorem CN {c : Addr} (L : zA c) (hC : C.cd = some c) : aS C lv (.Lambda D.lam.prm D.lam.body D.lam.sc D.lam.pos) Df := fun r ih A env W Z σ s P v Z' σ' h => by
 refine R.ve h ?_
 have F := P.st.2
 have I := P.st.1
 obtain ⟨mg, hns, hblt⟩ := L.ns
 have kp := I.bK
 have hb : s.heap.BuiltinsAt mg D.lam.tab := let ⟨bm, o, e1, e2, e3, e4, e5, r⟩ := hblt; ⟨bm, o, e1, e2, e3, e4, kp _ _ e5, r⟩
 refine PySem.W.kla_eval (L.df env) ?_
 obtain ⟨_, ps, hP, hps⟩ := I.tab
 rcases hps with rfl | ⟨c', oc, vs, q, t, rfl, h1, h2, h3⟩
 ·refine PySem.W.kla_makeFunction (L.cl env) F.gl (hns.keeps kp) (F.cd c hC) (L.hd.keeps kp) hP trivial rfl L.ne hb fun c' ctv h' tk hx hge hlt hrec htb => ?_
  obtain ⟨c2, oc, vs, t, e2, hoc, hd, hq⟩ := hrec
  cases e2
  have fr : W c' = .free := Classical.byContradiction fun n => bI (I.ex _ n) fun o e => Nat.lt_irrefl _ (Nat.lt_of_lt_of_le (Heap.lt_size e) hge)
  have J := I.grow (k := tk) (fun b o n e => hx b o n e) fr hoc hd hq htb
  have fr2 := J.free
  refine ⟨_, (Gh.aQ fr).trans (Gh.aQ fr2), P.st.value ((Gh.aQ fr).trans (Gh.aQ fr2)) (J.fx fr2 (Heap.get?_push_size _ rfl) (Keeps.push _ _)) (.of fun b o hb e => Heap.get?_push_of_some _ (hx b o (fun q => cn.noConfusion (hb.symm.trans (q ▸ I.tab.1))) e)),
   .lam _ _ ⟨_, _, c', oc, vs, _, t, Gh.aq .., rfl, rfl, rfl, rfl, rfl, rfl, rfl, rfl, rfl, (Gh.aQ fr2).az (Gh.aq ..), hd, hq⟩⟩
 ·refine PySem.W.kla_makeFunctionHit (cv := .ref c') (L.cl env) F.gl (hns.keeps kp) (F.cd c hC) (L.hd.keeps kp) hP (by simp [TriplesOk, rawInt]) (by simp [codeAmong, rawInt]) hb fun ctv h' tk hk hsz => ?_
  have J := I.same (t := tk) (Keeps.bJ hk)
  have fr2 := J.free
  refine ⟨_, Gh.aQ fr2, P.st.value (Gh.aQ fr2) (J.fx fr2 (Heap.get?_push_size _ rfl) (Keeps.push _ _)) (.of fun b o hb e => Heap.get?_push_of_some _ (hk b o e)),
   .lam _ _ ⟨_, _, c', oc, vs, _, t, Gh.aq .., rfl, rfl, rfl, rfl, rfl, rfl, rfl, rfl, rfl, (Gh.aQ fr2).az h1, h2, h3⟩⟩
end
section
open PySem PyProof.Rows
variable {C : Cx} {lv : Nat} {q : Bool}
noncomputable def Fq (σ : ab) (x y : AV) (k : AV -> ab -> R) : R := x.dM fun i => y.dM fun j => k (.int (Builtin.bitXor i j)) σ
theorem C1 : fR q (binaryOp .BitXor) Fq := fun σ x y k v Z σf h => by
 refine ae (AV.bQ h) fun i e1 h1 => ?_; refine aa e1 ?_
 refine ae (AV.bQ h1) fun j e2 h2 => ?_; refine aa e2 ?_
 refine ⟨_, _, h2, fun A W s vx vy _ _ I rx ry => ?_⟩
 refine bI rx.int_inv fun t e3 => ?_; refine aa e3 ?_
 refine bI ry.int_inv fun u e4 => ?_; refine aa e4 ?_
 exact xor_int (aj.tok I _ (.int _ _))
noncomputable def y8 (d n : Nat) : Nat -> Nat := @Nat.rec (fun _ => Nat -> Nat) (fun _ => 0) (fun _ ih c => @Bool.rec (fun _ => Nat) (ih (Nat.div c 256)) (Nat.succ (ih (Nat.div c 256))) (Nat.beq (Nat.mod c 256) d)) n
theorem yZ (d n : Nat) : ∀ c, cnt d (dec n c) = Int.ofNat (y8 d n c) := by
 induction n with
 | zero => exact fun c => rfl
 | succ n ih =>
  intro c
  show cnt d (c % 256 :: dec n (c / 256)) = Int.ofNat (@Bool.rec (fun _ => Nat) (y8 d n (c / 256)) (Nat.succ (y8 d n (c / 256))) (Nat.beq (c % 256) d))
  rw [cnt_cons, ih]
  cases e : Nat.beq (c % 256) d with
  | true => rw [if_pos (Nat.eq_of_beq_eq_true e), Int.add_comm]; rfl
  | false => rw [if_neg (Nat.ne_of_beq_eq_false e), Int.zero_add]
noncomputable def BG (σ : ab) (x l : AV) (k : AV -> ab -> R) : R := x.onStr fun n c => l.qx fun p => p.onStr fun m d => R.guard (Nat.beq m 1) (k (.int (Int.ofNat (y8 d n c))) σ)
theorem iI : eA q "str.count" BG := fun σ x l k v Z σf h => by
 refine ag (AV.aZ h) fun n c e1 h1 => ?_; refine aa e1 ?_
 refine ae (AV.cV h1) fun p e2 h2 => ?_; refine aa e2 ?_
 refine ag (AV.aZ h2) fun m d e3 h3 => ?_; refine aa e3 ?_
 refine ba (R.ah h3) fun g h3 => ?_
 refine aa (Nat.eq_of_beq_eq_true g) ?_
 refine ⟨_, _, h3, fun A W s vx vs _ _ I r rl => ?_⟩
 refine af (r.str_inv) fun t e4 hc hn => ?_; refine aa e4 ?_
 refine ae (rl.one) fun a e5 ra => ?_; refine aa e5 ?_
 refine af (ra.str_inv) fun u e6 hd hm => ?_; refine aa e6 ?_
 refine SC.count ?_
 have e7 : toS 1 d = ⟨#[d]⟩ := by
  show (⟨#[d % 256]⟩ : PySem.Str) = _
  rw [Nat.mod_eq_of_lt (by simpa using hd)]
 rw [e7, count_cnt]
 show aj W s _ σ (.int (cnt d (toS n c).cps.toList) _) _
 rw [show (toS n c).cps.toList = dec n c from rfl, yZ]
 exact aj.tok I _ (.int _ _)
theorem iU : Recv "str" "count" "str.count" fP := fM F.slot_str_count (by show builtinType _ = _; rw [builtinType_eq_fast]; kernel_rfl)
theorem fw : Recv "str" "replace" "str.replace" fP := fM F.slot_str_replace (by show builtinType _ = _; rw [builtinType_eq_fast]; kernel_rfl)
end
section
open PySem PySem.W PyProof.Rows
set_option maxRecDepth 100000
structure Facts : Prop where
 ms : (D.B.get? sysModules).isSome = true
 f0 : om "skip_chars" 0 ([] : List Str)
 f1 : om "skip_until" 1 (["error_on", "error_on_eof"] : List Str)
 f2 : om "skip_comment" 2 ([] : List Str)
 f3 : om "skip_comments_and_array_ws" 3 ([] : List Str)
 f4 : om "parse_array" 4 ([] : List Str)
 f5 : om "parse_value" 5 ([] : List Str)
 f6 : om "reduce" 6 ([] : List Str)
 f7 : om "_law_parents" 7 ([] : List Str)
 f8 : om "_law_bush" 8 ([] : List Str)
 f9 : om "_law_cuts" 9 ([] : List Str)
 f10 : om "_law_bushes" 10 ([] : List Str)
 f11 : om "_law_least" 11 ([] : List Str)
 f12 : om "_law_worths" 12 ([] : List Str)
 f13 : om "_law_fold" 13 ([] : List Str)
 f14 : om "_law_read" 14 ([] : List Str)
 m18 : (∃ mN, MethAt 670 mN "_get_nodeinfo" 18) /\ (D.fn 18).kw = ([] : List Str)
 b19 : (∃ K, gh K 670 "add" 19) /\ (D.fn 19).kw = []
 m20 : (∃ mN, MethAt 670 mN "prepare" 20) /\ (D.fn 20).kw = ([] : List Str)
 m21 : (∃ mN, MethAt 670 mN "get_ready" 21) /\ (D.fn 21).kw = ([] : List Str)
 m22 : (∃ mN, MethAt 670 mN "is_active" 22) /\ (D.fn 22).kw = ([] : List Str)
 b23 : (∃ K, gh K 670 "done" 23) /\ (D.fn 23).kw = []
 m24 : (∃ mN, MethAt 670 mN "_find_cycle" 24) /\ (D.fn 24).kw = ([] : List Str)
 n17 : zh "TopologicalSorter" 670 17 (.inst 670 (.cons .undef (.cons .undef (.cons .undef (.cons .undef .nil)))))
 n16 : zh "_NodeInfo" 573 16 (.node (.cons .undef (.cons .undef (.cons .undef .nil))))
 a670_0 : ∀ q, fD q "_node2info" (xK 670 0)
 s670_0 : ∀ q, dD q "_node2info" (o7 670 0)
 a670_1 : ∀ q, fD q "_ready_nodes" (xK 670 1)
 s670_1 : ∀ q, dD q "_ready_nodes" (o7 670 1)
 a670_2 : ∀ q, fD q "_npassedout" (xK 670 2)
 s670_2 : ∀ q, dD q "_npassedout" (o7 670 2)
 a670_3 : ∀ q, fD q "_nfinished" (xK 670 3)
 s670_3 : ∀ q, dD q "_nfinished" (o7 670 3)
 a573_0 : ∀ q, fD q "node" (r8 0)
 s573_0 : ∀ q, dD q "node" (ky 0)
 a573_1 : ∀ q, fD q "npredecessors" (r8 1)
 s573_1 : ∀ q, dD q "npredecessors" (ky 1)
 a573_2 : ∀ q, fD q "successors" (r8 2)
 s573_2 : ∀ q, dD q "successors" (ky 2)
 gILLEGAL_COMMENT_CHARS : C5 "ILLEGAL_COMMENT_CHARS" 0 170141183460469231731687303720179073023
 gTOML_WS_AND_NEWLINE : C5 "TOML_WS_AND_NEWLINE" 4294968832 4294968832
 g_NODE_OUT : z6 "_NODE_OUT" (-1)
 g_NODE_DONE : z6 "_NODE_DONE" (-2)
 o_initial_missing : CE "_initial_missing" 546
 yfloat : cG "float" (.type (tyName 0))
 clen : cG "len" (.builtin "len")
 citer : cG "iter" (.builtin "iter")
 cnext : cG "next" (.builtin "next")
 csorted : cG "sorted" (.builtin "sorted")
 csum : cG "sum" (.builtin "sum")
 tset : cG "set" (.type "set")
 ttuple : cG "tuple" (.type "tuple")
 trange : cG "range" (.type "range")
 tbool : cG "bool" (.type "bool")
 tenumerate : cG "enumerate" (.type "enumerate")
 tStopIteration : cG "StopIteration" (.type "StopIteration")
 lam : zA 718
 lamE : D.lam = gL
 lkw : (D.fn jJ).kw = []
end
section
open PySem PySem.W PyProof.Rows
set_option maxRecDepth 100000
set_option maxHeartbeats 0
theorem ar.of {ns : List (Str × Kd)} : ∀ (i : Nat) (p : Str × Kd), ns[i]? = some p -> ar ns i p.1 p.2 := by
 induction ns with
 | nil => exact fun _ _ h => nomatch h
 | cons a l ih => exact fun i p => @Nat.casesOn (fun i => (a :: l)[i]? = some p -> ar (a :: l) i p.1 p.2) i (fun h => Option.some.inj h ▸ .here) fun i h => .there (ih i p h)
noncomputable def Fn (x : Str) : Bool := x == ("__debug__" : Str)
noncomputable def Kd.E2 (k : Kd) : Bool := @Kd.rec (fun _ => Bool) false false true k
noncomputable def CQ (b : Bool) (C : Cx) (i : Nat) (x : Str) : Bool := @Option.rec _ (fun _ => Bool) false (fun p => decide (p.1 = x) && (!Fn x && (b || !p.2.E2))) C.ns[i]?
theorem kr {b : Bool} {C : Cx} {i : Nat} {x : Str} (h : CQ b C i x = true) : ∃ k, ar C.ns i x k /\ Fn x = false /\ (b = false -> k ≠ .cap) := by
 unfold CQ at h
 cases e : C.ns[i]? with
 | none => rw [e] at h; exact Bool.noConfusion h
 | some p =>
  rw [e] at h
  have g := Bool.and_eq_true_iff.mp h
  have g2 := Bool.and_eq_true_iff.mp g.2
  exact ⟨p.2, of_decide_eq_true g.1 ▸ ar.of i p e, (Bool.not_eq_true' _).mp g2.1, fun e1 e2 => by rw [e1, e2] at g2; exact Bool.noConfusion g2.2⟩
noncomputable def Es (o : Option NameKind) : Bool := @Option.rec _ (fun _ => Bool) false (fun k => Nat.beq k.ctorIdx 4) o
theorem zD {o : Option NameKind} (h : Es o = true) : o = some .globalImplicit := by
 cases o with
 | none => exact Bool.noConfusion h
 | some k => cases k <;> first | exact Bool.noConfusion h | rfl
noncomputable def CK (C : Cx) (x : Str) : Bool := Es (C.sc.names.lookup x) && !Fn x
theorem eM {C : Cx} {x : Str} (h : CK C x = true) : C.sc.names.lookup x = some .globalImplicit /\ Fn x = false :=
 have g := Bool.and_eq_true_iff.mp h
 ⟨zD g.1, (Bool.not_eq_true' _).mp g.2⟩
noncomputable def l9 (l : List Nat) (e : Expr) : Bool := l.all fun k => !Nat.beq e.ctorIdx k
section
variable {e : Expr}
theorem Be (h : l9 [22] e = true) (es : List Expr) (env : Env) : starEach (e :: es) env = (false, eval e env) :: starEach es env := by
 cases e <;> first | rfl | exact Bool.noConfusion h
theorem EW (h : l9 [0, 3, 5, 15] e = true) (env : Env) (whole : Sem Value) : isTrue e env whole = (do let v <- whole; standAt e.pos; holding [v] (truthy v)) := by
 cases e <;> first | rfl | exact Bool.noConfusion h
theorem vk (h : l9 [8, 9, 10] e = true) (t : Option Expr) (line : Nat) (env : Env) : swapsWith e t line env = pure false := by
 cases e <;> first | rfl | exact Bool.noConfusion h
theorem Bp (h : l9 [26] e = true) (o i : Value) : subscripted e false o i = operate [o, i] (getItem o i) := by
 cases e <;> first | rfl | exact Bool.noConfusion h
theorem Bt (h : l9 [7] e = true) (env : Env) (x : Value) : foldedSetIterable e env x = pure x := by
 cases e <;> first | rfl | exact Bool.noConfusion h
theorem vw (h : l9 [16] e = true) (name : Str) (env : Env) : attributeBase e name env (eval e env) = eval e env := by
 cases e <;> first | rfl | exact Bool.noConfusion h
theorem ED (h : l9 [16] e = true) (name : Str) (pos : Pos) (env : Env) : eval (.Attribute e name pos) env = (do
   let o <- eval e env
   standAt pos.atName
   let r <- holding [o] (getAttr o name true)
   letTemporaryGo e o r
   pure r) := by
 cases e <;> first | rfl | exact Bool.noConfusion h
end
noncomputable def De (es : List Expr) : Bool := es.all (l9 [22])
section
variable {es : List Expr} (h : De es = true)
include h
theorem GQ (env : Env) : starEach es env = es.map fun e => (false, eval e env) := by
 induction es with
 | nil => rfl
 | cons e es ih => have g := Bool.and_eq_true_iff.mp h; exact (Be g.1 es env).trans (congrArg _ (ih g.2))
theorem uP : dX es := fun env => ⟨_, GQ h env, match es with | [] => .inl rfl | e :: es => .inr ⟨_, _, rfl⟩⟩
theorem tC (pos : Pos) (env : Env) : (backTo pos (starEach es env)).all (fun x => !x.1) = true /\ (backTo pos (starEach es env)).any (fun x => x.1) = false := by
 rw [GQ h env]
 clear h
 induction es with
 | nil => exact ⟨rfl, rfl⟩
 | cons e es ih => exact ⟨ih.1, ih.2⟩
end
theorem EE {ks : List Keyword} (h : ks.all (·.arg.isSome) = true) (pos : Pos) (env : Env) : (backToKw pos (keywordEach ks env)).all (·.1.isSome) = true := by
 induction ks with
 | nil => rfl
 | cons k ks ih =>
  obtain ⟨n, e, p⟩ := k
  have g := Bool.and_eq_true_iff.mp h
  exact Bool.and_eq_true_iff.mpr ⟨g.1, ih g.2⟩
theorem CM {es : List Expr} {ks : List Keyword} (h : De es = true) (hk : ks.all (·.arg.isSome) = true) (hl : Nat.blt (es.length + ks.length + 1) 30 = true) (pos : Pos) (env : Env) : methodCallForm (es.length + ks.length) (backTo pos (starEach es env)) (backToKw pos (keywordEach ks env)) = true := by
 unfold methodCallForm
 rw [(tC h pos env).1, EE hk pos env]
 have l := Nat.blt_eq.mp hl
 refine decide_eq_true (Nat.lt_of_le_of_lt (Nat.add_le_add_left ?_ _) l)
 cases (backToKw pos (keywordEach ks env)).isEmpty
 ·exact Nat.le_refl 1
 ·exact Nat.zero_le 1
noncomputable def Dr (f : Value) : Bool := Nat.beq f.ctorIdx 9 || Nat.beq f.ctorIdx 8
theorem BE {f : Value} (h : Dr f = true) : (∃ id, f = .builtin id) \/ ∃ T, f = .type T := by
 cases f <;> first | exact Bool.noConfusion h | exact .inl ⟨_, rfl⟩ | exact .inr ⟨_, rfl⟩
section
variable {C : Cx} {lv : Nat}
theorem sn {x : Str} {pos : Pos} (i : Nat) (h : CQ true C i x = true := by kernel_rfl) : aS C lv (.Name x pos) (dN i) := (kr h).elim fun _ g => zB g.1 g.2.1
theorem ss {x : Str} {px pos : Pos} {e : Expr} {d : DE} (i : Nat) (h1 : aS C lv e d) (h : CQ false C i x = true := by kernel_rfl) (hs : l9 [8, 9, 10] e = true := by exact rfl) : hM C lv (.Assign [.Name x px] e pos) (Ap i d) :=
 (kr h).elim fun _ g => yO g.1 (g.2.2 rfl) h1 (vk hs _ _)
theorem su {x : Str} {px pos : Pos} {op : Operator} {e : Expr} {d : DE} {f : ab -> AV -> AV -> (AV -> ab -> R) -> R} (i : Nat) (hf : fR C.q (inplaceOp op) f) (h1 : aS C lv e d) (h : CQ false C i x = true := by kernel_rfl) : hM C lv (.AugAssign (.Name x px) op e pos) (EN i f d) :=
 (kr h).elim fun _ g => Ak g.1 g.2.1 (g.2.2 rfl) hf h1
theorem sa {x : Str} {px : Pos} (i : Nat) (h : CQ false C i x = true := by kernel_rfl) : oY C (.Name x px) (aName i) := (kr h).elim fun _ g => vn g.1 (g.2.2 rfl)
theorem lc {e : Expr} {es : List Expr} {d1 d2 : DE} (h1 : aS C lv e d1) (h2 : jZ C lv es d2) (he : l9 [22] e = true := by exact rfl) : jZ C lv (e :: es) (dB d1 d2) := xN (Be he es) h1 h2
theorem tc {op : CmpOp} {l r : Expr} {pos : Pos} {d1 d2 : DE} {f : ab -> AV -> AV -> (Bool -> R) -> R} (hf : eI C.q op f) (h1 : aS C lv l d1) (h2 : aS C lv r d2) (hm : behindInMarks op r = false := by exact rfl) : yH C lv (.Compare l [op] [r] pos) (xX f d1 d2) := zi hm hf h1 h2
theorem ec {op : CmpOp} {l r : Expr} {pos : Pos} {d1 d2 : DE} {f : ab -> AV -> AV -> (Bool -> R) -> R} (hf : eI C.q op f) (h1 : aS C lv l d1) (h2 : aS C lv r d2) (hm : behindInMarks op r = false := by exact rfl) : aS C lv (.Compare l [op] [r] pos) (xX f d1 d2) := BP hm hf h1 h2
theorem si {value ix : Expr} {pos : Pos} {d1 d2 : DE} (h1 : aS C lv value d1) (h2 : aS C lv ix d2) (hs : l9 [26] ix = true := by exact rfl) : aS C lv (.Subscript value ix pos) (o5 xn d1 d2) := wW (Bp hs) tA h1 h2
theorem tv {e : Expr} {d1 : DE} (h1 : aS C lv e d1) (he : l9 [0, 3, 5, 15] e = true := by exact rfl) : yH C lv e (E7 EK d1) := Aq (EW he) w9 h1
noncomputable def GJ (kw : List Str) (ks : List Keyword) : Bool := decide (ks.filterMap (·.arg) = kw) && (Nat.beq (ks.filterMap (·.arg)).length ks.length && ks.all (·.arg.isSome))
theorem ck {x : Str} {p pos : Pos} {f : Nat} {kw : List Str} {es : List Expr} {ks : List Keyword} {d k : DE} (G : om x f kw) (h1 : jZ C lv es d) (h2 : yG C lv ks k) (hlen : qS k ks.length) (h : (De es && (C.q && (CK C x && GJ kw ks))) = true := by kernel_rfl) :
  aS C lv (.Call (.Name x p) es ks pos) (jw f d k) :=
 have g0 := Bool.and_eq_true_iff.mp h
 have g := Bool.and_eq_true_iff.mp g0.2
 have g2 := Bool.and_eq_true_iff.mp g.2
 have g3 := eM g2.1
 have g4 := Bool.and_eq_true_iff.mp g2.2
 have g5 := Bool.and_eq_true_iff.mp g4.2
 xQ G g.1 g3.1 g3.2 (of_decide_eq_true g4.1) (Nat.eq_of_beq_eq_true g5.1) (uP g0.1) g5.2 h1 h2 hlen
theorem cb {x : Str} {p pos : Pos} {f : Value} {es : List Expr} {d : DE} {F : ab -> AV -> (AV -> ab -> R) -> R} (hF : eG C.q f F) (hg : cG x f) (h1 : jZ C lv es d) (h : (De es && (Dr f && CK C x)) = true := by kernel_rfl) : aS C lv (.Call (.Name x p) es [] pos) (qZ F d) :=
 have g := Bool.and_eq_true_iff.mp h
 have g2 := Bool.and_eq_true_iff.mp g.2
 have g3 := eM g2.2
 wb hF g3.1 g3.2 hg (BE g2.1) (uP g.1) (fun env pos => (tC g.1 pos env).2) h1
theorem cm {o : Expr} {name : Str} {apos pos : Pos} {es : List Expr} {T id : String} {recv : ab -> AV -> Bool} {F : ab -> AV -> AV -> (AV -> ab -> R) -> R} {d1 d2 : DE} (hR : Recv T name id recv) (hF : eA C.q id F) (h1 : aS C lv o d1) (h2 : jZ C lv es d2)
  (h : (De es && (Nat.blt es.length 30 && (l9 [16] o && (apos.endLine == pos.line)))) = true := by kernel_rfl) : aS C lv (.Call (.Attribute o name apos) es [] pos) (vW recv F d1 d2) :=
 have g := Bool.and_eq_true_iff.mp h
 have g2 := Bool.and_eq_true_iff.mp g.2
 have g3 := Bool.and_eq_true_iff.mp g2.2
 zj hR hF (vw g3.1 name) (fun env => by rw [(tC g.1 pos env).1]; exact decide_eq_true (Nat.blt_eq.mp g2.1)) g3.2 (uP g.1) (fun env pos => (tC g.1 pos env).2) h1 h2
theorem mc {o : Expr} {name : Str} {apos pos : Pos} {es : List Expr} {ks : List Keyword} {Cl : Addr} {f : Nat} {kw : List Str} {d1 d2 dk : DE} (M : (∃ mN, MethAt Cl mN name f) /\ (D.fn f).kw = kw) (h1 : aS C lv o d1) (h2 : jZ C lv es d2) (h3 : yG C lv ks dk) (hlen : qS dk ks.length)
  (h : (De es && (Nat.blt (es.length + ks.length + 1) 30 && (l9 [16] o && (C.q && ((apos.endLine == pos.line) && GJ kw ks))))) = true := by kernel_rfl) : aS C lv (.Call (.Attribute o name apos) es ks pos) (qR Cl f d1 d2 dk) :=
 have i := Bool.and_eq_true_iff.mp h
 have i2 := Bool.and_eq_true_iff.mp i.2
 have i3 := Bool.and_eq_true_iff.mp i2.2
 have g := Bool.and_eq_true_iff.mp i3.2
 have g2 := Bool.and_eq_true_iff.mp g.2
 have g4 := Bool.and_eq_true_iff.mp g2.2
 have g5 := Bool.and_eq_true_iff.mp g4.2
 uz M g.1 (vw i3.1 name) (CM i.1 g5.2 i2.1 pos) g2.1 (uP i.1) g5.2 (of_decide_eq_true g4.1) (Nat.eq_of_beq_eq_true g5.1) h1 h2 h3 hlen
theorem ea {e : Expr} {name : Str} {pos : Pos} {F : ab -> AV -> (AV -> ab -> R) -> R} {d : DE} (hF : ∀ q, fD q name F) (h1 : aS C lv e d) (he : l9 [16] e = true := by exact rfl) : aS C lv (.Attribute e name pos) (Bs F d) := AU (hF _) (ED he name pos) h1
theorem gf {x : Str} {y m : Nat} {pos : Pos} (G : C5 x y m) (h : CK C x = true := by kernel_rfl) : aS C lv (.Name x pos) (dK (.fset y m)) := Cy G (eM h).1 (eM h).2
theorem gi {x : Str} {i : Int} {pos : Pos} (G : z6 x i) (h : CK C x = true := by kernel_rfl) : aS C lv (.Name x pos) (dK (.int i)) := zK G (eM h).1 (eM h).2
theorem go {x : Str} {a : Addr} {pos : Pos} (G : CE x a) (h : CK C x = true := by kernel_rfl) : aS C lv (.Name x pos) (dK (.glob a)) := zp G (eM h).1 (eM h).2
theorem gt {x : Str} (k : Nat) {pos : Pos} (G : cG x (.type (tyName k))) (h : CK C x = true := by kernel_rfl) : aS C lv (.Name x pos) (dK (.ty k)) := Co G (eM h).1 (eM h).2
theorem sx {e : Expr} {pos : Pos} {d : DE} (h1 : aS C lv e d) (hs : l9 [8, 9, 10] e = true := by exact rfl) : hM C lv (.Expr e pos) (xR d) := wI h1 (vk hs _ _)
theorem sA {o value : Expr} {name : Str} {p pos : Pos} {F : ab -> AV -> AV -> (ab -> RS) -> RS} {dv d : DE} (hF : ∀ q, dD q name F) (h1 : aS C lv value dv) (h2 : aS C lv o d) (hs : ∀ env, swapsWithSole [.Attribute o name p] value pos.line env = pure false := by exact fun _ => rfl)
  (hw : ∀ env, swappedStores [.Attribute o name p] value env = pure none := by exact fun _ => rfl) : hM C lv (.Assign [.Attribute o name p] value pos) (qs F dv d) := oX (hF _) hs hw h1 h2
theorem sI {o i value : Expr} {p pos : Pos} {dv do' di : DE} (h1 : aS C lv value dv) (h2 : aS C lv o do') (h3 : aS C lv i di) (hs : ∀ env, swapsWith value (some (.Subscript o i p)) pos.line env = pure false := by exact fun _ => rfl) :
  hM C lv (.Assign [.Subscript o i p] value pos) (pS dv do' di) := pF hs h1 h2 h3
theorem sU {ts : List Expr} {k : Nat} {tpos pos : Pos} {value : Expr} {a : AV -> AV -> (AV -> RS) -> RS} {d : DE} (h1 : aS C lv value d) (ha : oY C (.Tuple ts k tpos) a)
  (hs : ∀ env, swapsWithSole [.Tuple ts k tpos] value pos.line env = pure false := by exact fun _ => rfl) (hw : ∀ env, swappedStores [.Tuple ts k tpos] value env = pure none := by exact fun _ => rfl) :
  hM C lv (.Assign [.Tuple ts k tpos] value pos) (By a d) := qX h1 ha hs hw
theorem ac {t : Expr} {ts : List Expr} {a as : AV -> AV -> (AV -> RS) -> RS} (h1 : oY C t a) (h2 : qY C ts as) (hn : ∀ env, assignEach (t :: ts) env = (false, assign t env) :: assignEach ts env := by exact fun _ => rfl) : qY C (t :: ts) (Bl a as) := uc hn h1 h2
theorem aT {ts : List Expr} {k : Nat} {pos : Pos} {as : AV -> AV -> (AV -> RS) -> RS} (h : qY C ts as) (hq : C.q = true := by kernel_rfl) : oY C (.Tuple ts k pos) (Er as) := AW hq h
theorem fo {t ie : Expr} {b e : List Stmt} {pos : Pos} {asg : AV -> AV -> (AV -> RS) -> RS} {d : DE} {db de : DS} (hms : (D.B.get? sysModules).isSome = true) (ha : oY C t asg) (h1 : aS C lv ie d) (h2 : dR C lv b db) (h3 : dR C lv e de) (hq : C.q = true := by kernel_rfl)
  (hfs : l9 [7] ie = true := by exact rfl) : hM C lv (.For t ie b e pos) (EH 200 asg d db de) := yY hms hq (Bt hfs) ha h1 h2 h3
theorem wh {c : Expr} {b e : List Stmt} {pos : Pos} {dc : DE} {db de : DS} (h1 : yH C lv c dc) (h2 : dR C lv b db) (h3 : dR C lv e de) : hM C lv (.While c b e pos) (rM 200 dc db de) := u0 h1 h2 h3
theorem cK {elt : Expr} {g : Comprehension} {gs : List Comprehension} {scope : Scope} {pos : Pos} {ns : List (Str × Kd)} {mk : AV -> AV} {asg : AV -> AV -> (AV -> RS) -> RS} {di : DE} {t : TD} (hms : (D.B.get? sysModules).isSome = true) (hns : dJ C scope.names ns mk) (ha : oY (Az C scope ns) g.target asg)
  (ht : lh (Az C scope ns) lv elt (g :: gs) scope pos 0 g.ifs t) (hi : aS C lv g.iter di) (hq : C.q = true := by kernel_rfl) (hkind : scope.kind = .function := by kernel_rfl) (d4 : decide (scope.names.map (·.1)).Nodup = true := by kernel_rfl) (hg0 : (g :: gs).all (fun g => g.is_async == 0) = true := by exact rfl)
  (hfs : l9 [7] g.iter = true := by exact rfl) : fV C lv elt g gs scope pos ns mk asg di t :=
 have a := fun g' (h : g' ∈ g :: gs) => eq_of_beq (List.all_eq_true.mp hg0 g' h)
 ⟨hms, hq, hkind, of_decide_eq_true d4, hns, a g (.head _), fun g' h => a g' (List.mem_of_getElem? h), ha, ht, Bt hfs, hi⟩
noncomputable def CY (n c : Nat) (x : Str) : Bool := decide (toS n c = x) && (Nat.blt c (256 ^ n) && Nat.ble n 1048576)
theorem nq {n c : Nat} {x : Str} (h : CY n c x = true) : toS n c = x /\ (Nat.blt c (256 ^ n) && Nat.ble n 1048576) = true :=
 have g := Bool.and_eq_true_iff.mp h
 ⟨of_decide_eq_true g.1, g.2⟩
theorem sk {x : Str} {k : Nat} {pos : Pos} (n c : Nat) (h : CY n c x = true := by kernel_rfl) : aS C lv (.Constant (.str x) k pos) (dK (.str n c)) := BN (nq h).1 (nq h).2
end
end
section
open PySem PyProof.Rows
variable {C : Cx} {lv : Nat}
noncomputable def Di (C : Cx) (lv : Nat) (e : Expr) (d : DE) : Prop := ∀ r ih A env W Z σ s, Pre C lv r ih A env W Z σ s -> 0 < s.toks -> ∀ v Z' σ', d ih Z σ = .val v Z' σ' -> wpAny (model D.prog D.w) A (eval e env) (EPost C env W v Z' σ') No s
noncomputable def DB (C : Cx) (lv : Nat) (st : Stmt) (d : DS) : Prop := ∀ r ih A env W Z σ s, Pre C lv r ih A env W Z σ s -> 0 < s.toks -> d ih Z σ ≠ .fail -> wpAny (model D.prog D.w) A (exec st env) (aO C env W (d ih Z σ)) No s
theorem uA {st : Stmt} {b : List Stmt} {d e : DS} (h1 : DB C lv st d) (h2 : dR C lv b e) : CB C lv (st :: b) (dU d e) := fun r ih A env W Z σ s P tk h => by
 have hd : d ih Z σ ≠ .fail := fun x => h (by show RS.bind _ _ = _; refine aa x ?_; rfl)
 refine wpAny_execs_cons (wpAny_mono (h1 r ih A env W Z σ s P tk hd) (fun f s' hf => ?_) fun _ _ x => x)
 have hg : dU d e ih Z σ = (d ih Z σ).bind fun Z σ => e ih Z σ := rfl
 rw [hg] at h ⊢
 cases hr : d ih Z σ with
 | fail => exact absurd hr hd
 | next Z' σ' =>
  rw [hr] at hf h
  refine cj hf ?_; clear hf; intro e0 W' l T; obtain rfl := e0
  exact wpAny_mono (h2 r ih A env W' Z' σ' s' (P.next T) h) (fun _ _ x => x.up l) fun _ _ x => x
 | brk Z' σ' => rw [hr] at hf; refine ba hf ?_; clear hf; intro e0 x; obtain rfl := e0; exact ⟨rfl, x⟩
 | cont Z' σ' => rw [hr] at hf; refine ba hf ?_; clear hf; intro e0 x; obtain rfl := e0; exact ⟨rfl, x⟩
 | ret v Z' σ' => rw [hr] at hf; refine ae hf ?_; clear hf; intro x e0 y; obtain rfl := e0; exact ⟨x, rfl, y⟩
theorem Hh {x : Str} {px pos : Pos} {e : Expr} {d : DE} (i : Nat) (h1 : Di C lv e d) (h : CQ false C i x = true := by kernel_rfl) (hs : l9 [8, 9, 10] e = true := by exact rfl) : DB C lv (.Assign [.Name x px] e pos) (Ap i d) := (kr h).elim fun _ g => fun r ih A env W Z σ s P tk h => by
 refine aW (P := fun r => wpAny _ _ _ (aO C env W r) _ _) h fun v l1 s1 e1 e3 => ?_
 refine rd (P := fun r => wpAny _ _ _ (aO C env W r) _ _) e3 fun _ => ?_
 refine wpAny_Assign_Name (wpAny_mono (h1 r ih A env W Z σ s P tk v l1 s1 e1) (fun y s' hy => ?_) fun _ _ x => x) (vk hs _ _ env)
 refine af hy ?_; clear hy; intro W' l T rv
 exact cO g.1 (g.2.2 rfl) T rv fun s'' T' => ⟨rfl, W', l, T'⟩
noncomputable def DL (x : Str) : Nat := @List.rec _ (fun _ => Nat) 0 (fun a _ r => a + 256 * r) x.cps.toList
noncomputable def HC (x : Str) (k : AV -> R) : R := R.guard (CY x.cps.size (DL x) x) (k (.str x.cps.size (DL x)))
noncomputable def Eu (y z : Str) (d : DE) : DE := fun ih Z σ => (d ih Z σ).bind fun x Z σ => x.onStr fun n c => HC (Txt.replace (toS n c) y z) fun v => .val v Z σ
theorem vp {o : Expr} {y z : Str} {k1 k2 : Nat} {p1 p2 apos pos : Pos} {d : DE} (h1 : aS C lv o d) (h : (!(y == z) && (Nat.ble z.length 14 && (l9 [16] o && (apos.endLine == pos.line)))) = true := by kernel_rfl) :
  Di C lv (.Call (.Attribute o "replace" apos) [.Constant (.str y) k1 p1, .Constant (.str z) k2 p2] [] pos) (Eu y z d) := fun r ih A env W Z σ s P tk v Z' σ' hv => by
 have g := Bool.and_eq_true_iff.mp h
 have g2 := Bool.and_eq_true_iff.mp g.2
 have g3 := Bool.and_eq_true_iff.mp g2.2
 refine ak (R.ai hv) fun x l1 s1 e1 hv => ?_
 refine ag (AV.aZ hv) fun n c ex hv => ?_
 subst ex
 refine ba (R.ah hv) fun gs hv => ?_
 refine R.ve hv ?_
 refine wpAny_Call_method (vw g3.1 _ env) (by rfl) g3.2 fw.pa fw.slot fw.ty (wpAny_mono (wpAny_toks_of tk (h1 r ih A env W Z σ s P _ _ _ e1)) (fun vx sa ha => ?_) fun _ _ x => x.2)
 obtain ⟨tka, W1, w1, T1, r1⟩ := ha
 obtain ⟨t, rfl, hc, hn⟩ := r1.str_inv
 obtain ⟨q1, q2⟩ := fw.ok _ _ rfl W1 sa _ T1.1 r1
 refine ⟨q1, q2, Calls.callWith_builtin rfl (Calls.evalArgs_plain (Calls.spliced_cons (wpAny_Constant_str (k := k1) (pos := p1) (Calls.spliced_cons (wpAny_Constant_str (k := k2) (pos := p2) (Calls.spliced_nil ?_))))))⟩
 have s0 := nq gs
 have s1 := Bool.and_eq_true_iff.mp s0.2
 refine SC.replaceW (Nat.pos_iff_ne_zero.mp tka) (Nat.succ_ne_zero _) (fun e => Nat.ne_of_lt (Nat.lt_succ_self _) e) ((Bool.not_eq_true' _).mp g.1) (by show (dec n c).toArray.size <= _; rw [List.size_toArray, ew]; exact hn) (Nat.le_of_ble_eq_true g2.1) fun t' k => ?_
 exact ⟨W1, w1, ⟨T1.1.tok _, T1.2⟩, by have q := RV.str (W := W1) _ _ t' (Nat.blt_eq.mp s1.1) (Nat.le_of_ble_eq_true s1.2); rw [s0.1] at q; exact q⟩
end
section
open PySem PyProof.Rows
variable {q : Bool}
section
variable {prog : Program} {w : World} {A : Around} {E : Value -> Shared -> Prop} {s : Shared}
theorem oV {l : Addr} {o : Obj} {vs : List Value} {n : Nat} {Q : List Value -> Shared -> Prop} (ho : s.heap.get? l = some o) (hc : o.cls = .type "tuple") (hd : o.data = .seq vs.toArray n)
  (h : Q vs { s with heap := (s.heap.push (seqObj "list" #[] 0)).update s.heap.objs.size (Obj.mapSeq (· ++ vs.toArray)) }) (hsz : vs.length <= sizeLine) :
  wpAny (model prog w) A (collect (.ref l)) Q E s := by
 unfold collect
 refine wpAny_bind (wpAny_runValue (codeAny_builtin entry_proto_collect' ?_))
 show wpAny _ _ (do again (.builtin "list.__iadd__" ⟨[<- newList [], .ref l], []⟩)) _ _ s
 refine wpAny_bind (wpAny_newList (wpAny_pure ⟨Code.quiet_builtin _ (by decide +kernel), codeAny_builtin entry_list_iadd' ?_⟩))
 show wpAny _ _ (Builtin.List.listExtendWith (.ref s.heap.objs.size) (.ref l) (.ref s.heap.objs.size)) _ _ { s with heap := s.heap.push (seqObj "list" #[] 0) }
 unfold Builtin.List.listExtendWith
 have ho' : (s.heap.push (seqObj "list" #[] 0)).get? l = some o := Heap.get?_push_of_some _ ho
 refine wpAny_bind (wpAny_typeOf (T := "tuple") ⟨o, ho', hc⟩ ?_)
 have ht : (Value.type "tuple" == Value.type "tuple") = true := by rfl
 rw [if_pos (by rw [ht]; simp)]
 refine wpAny_bind (listItems_at ho' hd ?_)
 refine wpAny_bind (listItems_at (xs := #[]) (n := 0) (Heap.get?_push_size _ rfl) rfl ?_)
 rw [if_neg (by simp)]
 refine wpAny_bind (listUpdate_at (xs := #[]) (n := 0) (Heap.get?_push_size _ rfl) rfl ?_ (Nat.zero_le _) (by show (#[] ++ vs.toArray).size <= sizeLine + 1; simp only [Array.size_append, List.size_toArray, List.length_nil]; omega))
 refine wpAny_pure ?_
 show wpAny (model prog w) A (do
   let o <- load s.heap.objs.size
   match o.data with
   | .seq xs _ => pure xs.toList
   | _ => unsupported "internal:collect") Q E { s with heap := (s.heap.push (seqObj "list" #[] 0)).update s.heap.objs.size (Obj.mapSeq (· ++ vs.toArray)) }
 refine wpAny_bind (wpAny_load (get?_update_seq (Heap.get?_push_size _ rfl) _) ?_)
 show wpAny _ _ (pure ((#[] : Array Value) ++ vs.toArray).toList) Q E _
 rw [show ((#[] : Array Value) ++ vs.toArray).toList = vs by simp]
 exact wpAny_pure h
theorem zR {κ : KeyKind} (hO : κ.OneLt) {l : Addr} {o : Obj} {n : Nat} {vs : List Value} {Q : Value -> Shared -> Prop} (ho : s.heap.get? l = some o) (hc : o.cls = .type "tuple") (hd : o.data = .seq vs.toArray n) (h0 : KeysOf κ (pairsOf vs))
  (hkk : ∀ v₁ v₂ rest, vs = v₁ :: v₂ :: rest -> keyKind' (v₁ :: v₂ :: rest).toArray = pure oneType') (h64 : vs.length < 64)
  (h : ∀ st' : SortSt, (arrOf st').Perm (pairsOf vs) -> SortedToK κ (arrOf st') (pairsOf vs).size -> Q (.ref (s.heap.objs.size + 1)) { s with heap := sortedAll s.heap vs ((arrOf st').map (·.2)) }) :
  wpAny (model prog w) A (call (.builtin "sorted") [.ref l]) Q E s := by
 refine Calls.call_function_entry kind_sorted plain_sorted entry_sorted (args_sorted1 _) ?_
 unfold Builtin.«sorted»
 refine wpAny_bind (m := checkCount "sorted" 1 1 _) (wpAny_pure ?_)
 refine wpAny_bind (oV ho hc hd ?_ (by rw [sizeLine_eq]; omega))
 refine wpAny_bind (wpAny_newList ?_ (by rw [sizeLine_eq]; omega))
 have hsz : ((s.heap.push (seqObj "list" #[] 0)).update s.heap.objs.size (Obj.mapSeq (· ++ vs.toArray))).objs.size = s.heap.objs.size + 1 := by
  rw [Heap.size_update, size_push']
 have hoL : (((s.heap.push (seqObj "list" #[] 0)).update s.heap.objs.size (Obj.mapSeq (· ++ vs.toArray))).push (seqObj "list" vs.toArray 0)).get? (s.heap.objs.size + 1) = some (seqObj "list" vs.toArray 0) := by
  rw [<- hsz]; exact Heap.get?_push_size _ rfl
 show wpAny _ _ _ _ _ { s with heap := ((s.heap.push (seqObj "list" #[] 0)).update s.heap.objs.size (Obj.mapSeq (· ++ vs.toArray))).push (seqObj "list" vs.toArray 0) }
 rw [hsz]
 refine wpAny_bind (wpAny_holding (wpAny_call_entry slot_list_sort ⟨_, hoL, rfl⟩ entry_list_sort (list_sort_treeK hO hoL h0 hkk h64 fun st' a1 a2 => ⟨_, rfl, ?_⟩) (args_list_sort _)))
 exact wpAny_pure ⟨_, rfl, h st' a1 a2⟩
end
noncomputable def zT (σ : ab) (l : AV) (k : AV -> ab -> R) : R := l.qx fun x => AV.pN (β := R) (tK σ l k) (fun n a => R.guard (Nat.blt n 64) (R.guard a.uN (k (.lst n a.wy) σ))) x
theorem pE : eG q (.builtin "sorted") zT := fun σ l k v Z σf h => by
 refine ae (AV.cV h) fun x e1 h1 => ?_
 induction x using AV.casesOn <;> first | exact uQ σ l k v Z σf h1 | skip
 rename_i n a
 subst e1
 refine ba (R.ah h1) fun g1 h3 => ?_
 refine ba (R.ah h3) fun g2 h4 => ?_
 refine ⟨_, _, h4, fun A W s vs _ _ I r => ?_⟩
 refine ae (r.one) fun y e2 ry => ?_; refine aa e2 ?_
 induction ry using RV.iu with
 | mk b items e hn hb rl =>
 refine ae (rl.sk g2) fun ss k1 k2 => ?_
 refine af (sE k1) fun st m1 m2 m3 => ?_
 have h64 : items.toList.length < 64 := by have := Nat.blt_eq.mp g1; refine aa Array.length_toList ?_; refine aa hn ?_; exact this
 refine zR (vs := items.toList) (n := 0) strKind_oneLt (I.az _ _ e) rfl (by show Data.seq items 0 = _; rw [Array.toArray_toList]) k2.keysOf (fun v₁ v₂ rest e => keyKind_strs (by rw [<- e]; exact k2)) h64 fun st' hp hs => ?_
 obtain ⟨ss', p1, p2, p3⟩ := sorted_out_str k2 hp hs
 generalize (arrOf st').map (·.2) = out at p1 ⊢
 have es : ss' = st := List.Perm.eq_of_pairwise (fun x y _ _ => ql) (kX _ p3) m3 (p2.trans m2.symm)
 subst es
 refine bI (sortedAll_at s.heap items.toList out) fun ep' he => ?_
 have hk : Keeps W s.heap (sortedAll s.heap items.toList out) := Keeps.bJ fun _ _ e => sortedAll_old e
 have hfree : W (s.heap.objs.size + 1) = .free := by
  refine Classical.byContradiction fun z => ?_
  refine bI (I.ex _ z) fun o eo => ?_
  exact absurd (Heap.lt_size eo) (Nat.not_lt.mpr (Nat.le_succ _))
 refine aj.s9 (t := s.toks) I hfree he hk fun W' le e' => .lst _ _ _ out ep' e' ?_ hb (m1.rl p1)
 have h1 : out.toList.length = _ := StrsAre.length p1
 have h2 : items.toList.length = _ := StrsAre.length k2
 have h3 := p2.length_eq
 have h4 : out.toList.length = items.toList.length := by refine aa h1 ?_; refine aa h2 ?_; exact aa h3 rfl
 simp only [Array.length_toList] at h4
 refine aa h4 ?_; exact aa hn rfl
noncomputable def A7 (σ : ab) (x y : AV) (k : AV -> ab -> R) : R := AV.rn (β := R) (xn σ x y k) (fun _ e => y.onStr fun m c => (AV.look m c e).F8 (k (AV.look m c e) σ)) x
theorem vS {q : Bool} : vU q A7 := fun σ x y k v Z σf h => by
 induction x using AV.casesOn <;> first | exact tA σ _ y k v Z σf h | skip
 rename_i n e
 refine ag (AV.aZ h) fun a c ey h1 => ?_
 refine ba (AV.wo h1) fun hu h2 => ?_
 refine ⟨_, _, h2, fun A W s vx vy hr _ I r1 r2 => ?_⟩
 subst ey
 refine af (r2.str_inv) fun u e1 hc hn => ?_; refine aa e1 ?_
 induction r1 using RV.AN with
 | mk b o kvs e1 e2 _ _ _ re =>
  have hd := e2 _ (I.az _ _ e1)
  refine ⟨⟨"dict", _, hd.dictOf.typeIs, slot_dict_getitem.lookup⟩, ?_⟩
  rcases j8 hc re with ⟨q, _⟩ | ⟨z, hz, rz⟩
  ·exact absurd q hu
  ·exact wpAny_getItem_of (strKind_is D.prog D.w _ _) hd.dictOf.mapOf hz (aj.tok I _ rz)
theorem Hg {C : Cx} {lv : Nat} {value ix : Expr} {pos : Pos} {d1 d2 : DE} (h1 : aS C lv value d1) (h2 : aS C lv ix d2) (hs : l9 [26] ix = true := by exact rfl) : aS C lv (.Subscript value ix pos) (o5 A7 d1 d2) := wW (Bp hs) vS h1 h2
end
section
open PySem PySem.W PyProof.Rows
set_option maxRecDepth 100000
set_option maxHeartbeats 0
section
variable {C : Cx} {lv : Nat}
theorem zP {c : Addr} (L : zA c) (e : D.lam = gL) (hC : C.cd = some c) : aS C lv (.Lambda gL.prm gL.body gL.sc gL.pos) Df := e ▸ CN L hC
end
noncomputable def zb : Cx := ⟨gL.sc, qr gL.sc.names, true, true, none, false⟩
noncomputable def iq : {d : DS // Facts -> dR (hK eK 417) 8 (gq eK) d} := ⟨_, fun F => (bc (iD (bc (wh (tc (qe F.ms) (si (sn 0) (sn 1)) (sn 2)) (bc (su 1 dq av) bn) bn) bn)) (bc (aG (sn 1)) bn))⟩
noncomputable def iz : {d : DS // Facts -> dR (hK eP 424) 8 (gq eP) d} := ⟨_, fun F => (bc (iD (bc (ss 5 (cm vN wu (sn 0) (lc (sn 2) (lc (sn 1) ln)))) bn)) (bc (aI (AL (tv (cm AR (zS (by kernel_rfl) zg) (sn 3) (lc (dA cT (sn 0) (cc (sn 1)) (cc (sn 5))) ln)))) (bc (wh (tc (o9 F.ms) (si (sn 0) (sn 1)) (sn 3)) (bc (su 1 dq av) bn) bn) (bc bV bn)) bn) (bc (aG (sn 5)) bn)))⟩
noncomputable def fK : {d : DS // Facts -> dR (hK dH 431) 8 (gq dH) d} := ⟨_, fun F => (bc (iD (bc (ss 2 (si (sn 0) (sn 1))) bn)) (bc (aI (tc dI (sn 2) (sk 1 35)) (bc (aG (ck F.f1 (lc (sn 0) (lc (bD bE (sn 1) av) (lc (sk 1 10) ln))) (qh (gf F.gILLEGAL_COMMENT_CHARS) (qh fj aK)) (mB (mB aF)))) bn) bn) (bc (aG (sn 1)) bn)))⟩
noncomputable def bZ : {d : DS // Facts -> dR (hK bt 438) 8 (gq bt) d} := ⟨_, fun F => (bc (wh (tv fj) (bc (ss 2 (sn 1)) (bc (ss 1 (ck F.f0 (lc (sn 0) (lc (sn 1) (lc (gf F.gTOML_WS_AND_NEWLINE) ln))) aK aF)) (bc (ss 1 (ck F.f2 (lc (sn 0) (lc (sn 1) ln)) aK aF)) (bc (aI (tc dI (sn 1) (sn 2)) (bc (aG (sn 1)) bn) bn) bn)))) bn) bn)⟩
noncomputable def gA : {d : DS // Facts -> dR (hK dY 473) 8 (gq dY) d} := ⟨_, fun F => (bc (su 1 dq av) (bc (ss 3 (dC ln)) (bc (ss 1 (ck F.f3 (lc (sn 0) (lc (sn 1) ln)) aK aF)) (bc (aI (tv (cm cf dT (sn 0) (lc (sk 1 93) (lc (sn 1) ln)))) (bc (aG (eV (lc (bD bE (sn 1) av) (lc (sn 3) ln)))) bn) bn) (bc (wh (tv fj) (bc (sU (ck F.f5 (lc (sn 0) (lc (sn 1) (lc (sn 2) ln))) aK aF) (aT (ac (sa 1) (ac (sa 4) iV)))) (bc (sx (cm cz cA (sn 3) (lc (sn 4) ln))) (bc (ss 1 (ck F.f3 (lc (sn 0) (lc (sn 1) ln)) aK aF)) (bc (ss 5 (dA cT (sn 0) (cc (sn 1)) (cc (bD bE (sn 1) av)))) (bc (aI (tc dI (sn 5) (sk 1 93)) (bc (aG (eV (lc (bD bE (sn 1) av) (lc (sn 3) ln)))) bn) bn) (bc (aI (tc qk (sn 5) (sk 1 44)) (bc bV bn) bn) (bc (su 1 dq av) (bc (ss 1 (ck F.f3 (lc (sn 0) (lc (sn 1) ln)) aK aF)) (bc (aI (tv (cm cf dT (sn 0) (lc (sk 1 93) (lc (sn 1) ln)))) (bc (aG (eV (lc (bD bE (sn 1) av) (lc (sn 3) ln)))) bn) bn) bn))))))))) bn) bn)))))⟩
noncomputable def gC : {d : DS // Facts -> dR (hK d8 530) 8 (gq d8) d} := ⟨_, fun F => (bc (iD (bc (ss 3 (si (sn 0) (sn 1))) bn)) (bc (aI (tc dI (sn 3) (sk 1 34)) (bc (aI (tv (cm cf dT (sn 0) (lc (sk 3 2236962) (lc (sn 1) ln)))) (bc (aG hY) bn) bn) (bc (aG hY) bn)) bn) (bc (aI (tc dI (sn 3) (sk 1 39)) (bc (aI (tv (cm cf dT (sn 0) (lc (sk 3 2565927) (lc (sn 1) ln)))) (bc (aG hY) bn) bn) (bc (aG hY) bn)) bn) (bc (aI (tc dI (sn 3) (sk 1 116)) (bc (aI (tv (cm cf dT (sn 0) (lc (sk 4 1702195828) (lc (sn 1) ln)))) (bc (aG (eV (lc (bD bE (sn 1) av) (lc fj ln)))) bn) bn) bn) bn) (bc (aI (tc dI (sn 3) (sk 1 102)) (bc (aI (tv (cm cf dT (sn 0) (lc (sk 5 435728179558) (lc (sn 1) ln)))) (bc (aG (eV (lc (bD bE (sn 1) av) (lc fj ln)))) bn) bn) bn) bn) (bc (aI (tc dI (sn 3) (sk 1 91)) (bc (aG (ck F.f4 (lc (sn 0) (lc (sn 1) (lc (sn 2) ln))) aK aF)) bn) bn) (bc (aI (tc dI (sn 3) (sk 1 123)) (bc (aG hY) bn) bn) ya)))))))⟩
noncomputable def pZ : {d : DS // Facts -> dR (hK c6 553) 8 (gq c6) d} := ⟨_, fun F => (bc (ss 3 (cb sh F.citer (lc (sn 1) ln))) (bc (aI (tc jf (sn 2) (go F.o_initial_missing)) (bc (iD (bc (ss 4 (cb zQ F.cnext (lc (sn 3) ln))) bn)) bn) (bc (ss 4 (sn 2)) bn)) (bc (wL (N := 200) (by kernel_rfl) (fun _ _ => rfl) (sa 5) (sn 3) (bc (ss 4 (xo F.lkw (by kernel_rfl) ar.here (by kernel_rfl) (uP rfl) (lc (sn 4) (lc (sn 5) ln)))) bn) bn) (bc (aG (sn 4)) bn))))⟩
noncomputable def bF : {d : DS // Facts -> dR (hK eh 680) 8 (gq eh) d} := ⟨_, fun F => (bc (ss 1 (dC (lc (xE qO av) (lc av ln)))) (bc (tW (N := 200) (by kernel_rfl) (fun _ _ => rfl) (by kernel_rfl) F.tenumerate (uP rfl) (fun _ _ => rfl) (aT (ac (sa 2) (ac (sa 3) iV))) (lc (tM (lc av (lc av (lc av (lc av ln))))) ln) (bc (aI (tc yb (sn 2) (bD bE av (bD qI (bD qu (cb fL F.clen (lc (sn 0) ln)) av) av))) (bc (sx (cm cz cA (sn 1) (lc (bD qI (bD qI (bD bE (sn 3) (cb (yV (by kernel_rfl) CG) F.csum (lc (tX (dA cT (sn 0) iH (cc av)) (sn 2) av) ln))) av) (bD bE (sn 2) av)) ln))) bn) bn) bn) bn) (bc (aG (sn 1)) bn)))⟩
noncomputable def lq : {d : DS // Facts -> dR (hK fY 685) 8 (gq fY) d} := ⟨_, fun F => (bc (aG (bD bE (bD bE (sk 1 91) (cm zC ze (sk 0 0) (lc (gn (N := 200) (cK F.ms (dJ.loc (dJ.loc (dJ.skip nofun nofun nofun (dJ.cap ar.here nofun (by kernel_rfl) (dJ.cap (ar.there ar.here) nofun (by kernel_rfl) dJ.nil))))) (sa 1) (jd (tc dI (si (sn 3) (sn 1)) (sn 2)) (cw (by kernel_rfl) (bD bE (ck F.f8 (lc (sn 1) (lc (sn 3) ln)) aK aF) (sk 1 44)))) (cb lE F.trange (lc (cb fL F.clen (lc (sn 1) ln)) ln)))) ln))) (sk 1 93))) bn)⟩
noncomputable def lM : {d : DS // Facts -> dR (hK gc 692) 8 (gq gc) d} := ⟨_, fun F => (bc (ss 1 (dC ln)) (bc (fo F.ms (sa 2) (cb lE F.trange (lc av (lc (cb fL F.clen (lc (sn 0) ln)) ln))) (bc (aI (tc dI (si (sn 0) (sn 2)) (sk 1 91)) (bc (ss 3 (bD bE (sn 2) av)) (bc (wh (tc qk (cm iU iI (dA cT (sn 0) (cc (sn 2)) (cc (sn 3))) (lc (sk 1 91) ln)) (cm iU iI (dA cT (sn 0) (cc (sn 2)) (cc (sn 3))) (lc (sk 1 93) ln))) (bc (su 3 dq av) bn) bn) (bc (sx (cm cz cA (sn 1) (lc (bD bE (dA cT (sn 0) iH (cc (sn 2))) (dA cT (sn 0) (cc (bD bE (sn 3) av)) iH)) ln))) bn))) bn) bn) bn) (bc (aG (sn 1)) bn)))⟩
noncomputable def iW : {d : DS // Facts -> dR (hK eO 699) 8 (gq eO) d} := ⟨_, fun F => (bc (ss 1 (dC (lc (sn 0) ln))) (bc (ss 2 av) (bc (wh (tc yb (sn 2) (cb fL F.clen (lc (sn 1) ln))) (bc (fo F.ms (sa 3) (ck F.f9 (lc (si (sn 1) (sn 2)) ln) aK aF) (bc (aI (tc (o9 F.ms) (sn 3) (sn 1)) (bc (sx (cm cz cA (sn 1) (lc (sn 3) ln))) bn) bn) bn) bn) (bc (su 2 dq av) bn)) bn) (bc (aG (sn 1)) bn))))⟩
noncomputable def js : {d : DS // Facts -> dR (hK ft 706) 8 (gq ft) d} := ⟨_, fun F => (bc (ss 1 av) (bc (wh (tc (qe F.ms) (sn 1) (sn 0)) (bc (su 1 dq av) bn) bn) (bc (aG (sn 1)) bn)))⟩
noncomputable def iC : {d : DS // Facts -> dR (hK eN 711) 8 (gq eN) d} := ⟨_, fun F => (bc (ss 1 (xq F.n17 (by kernel_rfl) (by kernel_rfl) (by kernel_rfl))) (bc (fo F.ms (sa 2) (sn 0) (bc (sx (kI F.b19 (by kernel_rfl) (fun _ => rfl) (fun _ => rfl) (sn 1) (z5 (fun _ => rfl) (sn 2) (ck F.f9 (lc (sn 2) ln) aK aF)))) bn) bn) (bc (sx (mc F.m20 (sn 1) ln aK aF)) (bc (ss 3 (dC ln)) (bc (ss 4 lg) (bc (wh (tv (mc F.m22 (sn 1) ln aK aF)) (bc (ss 5 (mc F.m21 (sn 1) ln aK aF)) (bc (fo F.ms (sa 2) (sn 5) (bc (sI (ck F.f11 (lc (gn (N := 200) (cK F.ms (dJ.loc (dJ.loc (dJ.cap (ar.there (ar.there (ar.there (ar.there ar.here)))) nofun (by kernel_rfl) dJ.nil))) (sa 1) (gj (cw (by kernel_rfl) (si (sn 2) (sn 1)))) (ck F.f9 (lc (sn 2) ln) aK aF))) ln) aK aF) (sn 4) (sn 2)) bn) bn) (bc (sx (cm cz cA (sn 3) (lc (cb pE F.csorted (lc (sn 5) ln)) ln))) (bc (sx (kI F.b23 (by kernel_rfl) (fun _ => rfl) (fun _ => rfl) (sn 1) (z4 (sn 5)))) bn)))) bn) (bc (aG (eV (lc (sn 3) (lc (sn 4) ln)))) bn)))))))⟩
noncomputable def lJ : {d : DS // Facts -> dR (hK eD 718) 8 (gq eD) d} := ⟨_, fun F => (bc (aG (ck F.f6 (lc (zP F.lam F.lamE rfl) (lc (sn 0) (lc av ln))) aK aF)) bn)⟩
noncomputable def kx : {d : DS // Facts -> CB (hK fS 725) 8 (gq fS) d} := ⟨_, fun F => (uA (Hh 1 (vp (sn 0))) (bc (sU (ck F.f4 (lc (sn 1) (lc av (lc (gt 0 F.yfloat) ln))) aK aF) (aT (ac (sa 2) (ac (sa 3) iV)))) (bc (aI (tc qk (sn 2) (cb fL F.clen (lc (sn 1) ln))) (bc (aG (xE qO av)) bn) bn) (bc (aG (ck F.f13 (lc (sn 3) ln) aK aF)) bn))))⟩
noncomputable def mj : {d : DS // Facts -> dR (hK gK 730) 8 (gq gK) d} := ⟨_, fun F => (bc (ss 1 (ck F.f10 (lc (ck F.f8 (lc av (lc (ck F.f7 (lc (sn 0) ln) aK aF) ln)) aK aF) ln) aK aF)) (bc (sU (ck F.f12 (lc (sn 1) ln) aK aF) (aT (ac (sa 2) (ac (sa 3) iV)))) (bc (aI (tc qk (sn 2) (gn (N := 200) (cK F.ms (dJ.loc (dJ.cel (dJ.skip nofun nofun nofun (dJ.cap (ar.there ar.here) nofun (by kernel_rfl) dJ.nil)))) (sa 1) (gj (cw (by kernel_rfl) (cb pE F.csorted (lc (gn (N := 200) (cK F.ms (dJ.loc (dJ.loc (dJ.cap (ar.there ar.here) nofun (by kernel_rfl) dJ.nil))) (sa 1) (jd (tc dI (cm iU iI (sn 1) (lc (sk 1 91) ln)) (sn 2)) (cw (by kernel_rfl) (sn 1))) (sn 2))) ln)))) (cb lE F.trange (lc av (lc (bD bE (cm iU iI (si (sn 1) av) (lc (sk 1 91) ln)) av) ln)))))) (bc (aG fj) bn) bn) (bc (aG (ec dI (gn (N := 200) (cK F.ms (dJ.loc (dJ.loc (dJ.skip nofun nofun nofun dJ.nil))) (sa 1) (gj (cw (by kernel_rfl) (ck F.f14 (lc (sn 1) ln) aK aF))) (sn 1))) (gn (N := 200) (cK F.ms (dJ.loc (dJ.loc (dJ.cap (ar.there (ar.there (ar.there ar.here))) nofun (by kernel_rfl) dJ.nil))) (sa 1) (gj (cw (by kernel_rfl) (Hg (sn 2) (sn 1)))) (sn 1))))) bn))))⟩
noncomputable def fC : {d : DS // Facts -> dR (hK c7 568) 8 (gq c7) d} := ⟨_, fun F => (bc (sA F.s573_0 (sn 1) (sn 0)) (bc (sA F.s573_1 av (sn 0)) (bc (sA F.s573_2 (dC ln) (sn 0)) bn)))⟩
noncomputable def cH : {d : DS // Facts -> dR (hK aA 605) 8 (gq aA) d} := ⟨_, fun F => (bc (sA F.s670_0 lg (sn 0)) (bc (sA F.s670_1 dw (sn 0)) (bc (sA F.s670_2 av (sn 0)) (bc (sA F.s670_3 av (sn 0)) (bc (aI (tc kq (sn 1) dw) (bc lI bn) bn) bn)))))⟩
noncomputable def bL : {d : DS // Facts -> dR (hK a9 612) 8 (gq a9) d} := ⟨_, fun F => (bc (aI (tc jf (oG (ar.there (ar.there ar.here)) nofun (cm wJ (wM F.ms) (ea F.a670_0 (sn 0)) (lc (sn 1) ln))) dw) (bc (q7 (ar.there (ar.there ar.here)) nofun (fun _ => rfl) (fun _ => rfl) (zL F.n16 (by kernel_rfl) (by kernel_rfl) (by kernel_rfl) (fun _ => rfl) (fun _ => rfl) (lc (sn 1) ln)) (ea F.a670_0 (sn 0)) (sn 1)) bn) bn) (bc (aG (sn 2)) bn))⟩
noncomputable def cR : {d : DS // Facts -> dR (hK aE 619) 8 (gq aE) d} := ⟨_, fun F => (bc (aI (tc kq (ea F.a670_1 (sn 0)) dw) (bc bV bn) bn) (bc (ss 3 (mc F.m18 (sn 0) (lc (sn 1) ln) aK aF)) (bc (eJ (F.a573_1 _) (F.s573_1 _) dq (sn 3) (cb fL F.clen (lc (sn 2) ln))) (bc (fo F.ms (sa 4) (sn 2) (bc (ss 5 (mc F.m18 (sn 0) (lc (sn 4) ln) aK aF)) (bc (sx (cm cz cA (ea F.a573_2 (sn 5)) (lc (sn 1) ln))) bn)) bn) bn))))⟩
noncomputable def cq : {d : DS // Facts -> dR (hK bA 624) 8 (gq bA) d} := ⟨_, fun F => (bc (aI (tc kq (ea F.a670_1 (sn 0)) dw) (bc bV bn) bn) (bc (sA F.s670_1 (xG (N := 200) (cK F.ms (dJ.loc (dJ.loc dJ.nil)) (sa 1) (jd (tc dI (ea F.a573_1 (sn 1)) av) (cw (by kernel_rfl) (ea F.a573_0 (sn 1)))) (cm um (uH F.ms) (ea F.a670_0 (sn 0)) ln))) (sn 0)) (bc (ss 1 (mc F.m24 (sn 0) ln aK aF)) (bc (aI (tv (sn 1)) (bc bV bn) bn) bn))))⟩
noncomputable def bX : {d : DS // Facts -> dR (hK bo 631) 8 (gq bo) d} := ⟨_, fun F => (bc (aI (tc jf (ea F.a670_1 (sn 0)) dw) (bc bV bn) bn) (bc (ss 1 (cb wV F.ttuple (lc (ea F.a670_1 (sn 0)) ln))) (bc (ss 2 (ea F.a670_0 (sn 0))) (bc (fo F.ms (sa 3) (sn 1) (bc (sA F.s573_1 (gi F.g_NODE_OUT) (si (sn 2) (sn 3))) bn) bn) (bc (sx (cm vB xT (ea F.a670_1 (sn 0)) ln)) (bc (eJ (F.a670_2 _) (F.s670_2 _) dq (sn 0) (cb fL F.clen (lc (sn 1) ln))) (bc (aG (sn 1)) bn)))))))⟩
noncomputable def bW : {d : DS // Facts -> dR (hK bp 638) 8 (gq bp) d} := ⟨_, fun F => (bc (aI (tc jf (ea F.a670_1 (sn 0)) dw) (bc bV bn) bn) (bc (aG (DA (ec yb (ea F.a670_3 (sn 0)) (ea F.a670_2 (sn 0))) (cb Aw F.tbool (lc (ea F.a670_1 (sn 0)) ln)))) bn))⟩
noncomputable def cJ : {d : DS // Facts -> dR (hK aB 652) 8 (gq aB) d} := ⟨_, fun F => (bc (aI (tc jf (ea F.a670_1 (sn 0)) dw) (bc bV bn) bn) (bc (ss 2 (ea F.a670_0 (sn 0))) (bc (fo F.ms (sa 3) (sn 1) (bc (aI (tc jf (oG (ar.there (ar.there (ar.there (ar.there ar.here)))) nofun (cm wJ (wM F.ms) (sn 2) (lc (sn 3) ln))) dw) (bc bV bn) bn) (bc (ss 5 (ea F.a573_1 (sn 4))) (bc (aI (tc qk (sn 5) (gi F.g_NODE_OUT)) (bc (aI (tc Ek (sn 5) av) (bc bV bn) (bc (aI (tc dI (sn 5) (gi F.g_NODE_DONE)) (bc bV bn) (bc lI bn)) bn)) bn) bn) (bc (sA F.s573_1 (gi F.g_NODE_DONE) (sn 4)) (bc (fo F.ms (sa 6) (ea F.a573_2 (sn 4)) (bc (ss 7 (si (sn 2) (sn 6))) (bc (eJ (F.a573_1 _) (F.s573_1 _) Ai (sn 7) av) (bc (aI (tc dI (ea F.a573_1 (sn 7)) av) (bc (sx (cm cz cA (ea F.a670_1 (sn 0)) (lc (sn 6) ln))) bn) bn) bn))) bn) (bc (eJ (F.a670_3 _) (F.s670_3 _) dq (sn 0) av) bn)))))) bn) bn)))⟩
noncomputable def bU : {d : DS // Facts -> dR (hK bh 659) 8 (gq bh) d} := ⟨_, fun F => (bc (ss 1 (ea F.a670_0 (sn 0))) (bc (ss 2 (dC ln)) (bc (ss 3 (dC ln)) (bc (ss 4 (cb Cv F.tset ln)) (bc (ss 5 lg) (bc (fo F.ms (sa 6) (sn 1) (bc (aI (tc (qe F.ms) (sn 6) (sn 4)) (bc ni bn) bn) (bc (wh (tv fj) (bc (aI (tc (qe F.ms) (sn 6) (sn 4)) (bc (aI (tc (qe F.ms) (sn 6) (sn 5)) (bc (aG (bD bE (dA cT (sn 2) (cc (si (sn 5) (sn 6))) iH) (tM (lc (sn 6) ln)))) bn) bn) bn) (bc (sx (cm t9 uh (sn 4) (lc (sn 6) ln))) (bc (sx (cm cz cA (sn 3) (lc (C7 (fun _ => rfl) (cb sh F.citer (lc (ea F.a573_2 (si (sn 1) (sn 6))) ln))) ln))) (bc (sI (cb fL F.clen (lc (sn 2) ln)) (sn 5) (sn 6)) (bc (sx (cm cz cA (sn 2) (lc (sn 6) ln))) bn))))) (bc (wh (tv (sn 2)) (bc (yv (by kernel_rfl) (by kernel_rfl) (ar.there (ar.there (ar.there (ar.there (ar.there (ar.there ar.here)))))) nofun (fun _ => rfl) (fun _ => rfl) (by kernel_rfl) F.tStopIteration (si (sn 3) (xE qO av)) (bc mv bn) (bc (z9 (sn 5) (cm vi xd (sn 2) ln)) (bc (sx (cm vi xd (sn 3) ln)) bn))) bn) (bc mv bn)) bn)) bn) bn)) bn) (bc (aG dw) bn)))))))⟩
noncomputable def Bj : {d : DE // Facts -> aS zb 8 gL.body d} := ⟨_, fun F => (bD C1 (sn 0) (bD bE (ck F.f13 (lc (sn 1) ln) aK aF) av))⟩
end
section
open PySem PySem.W PyProof.Rows
set_option maxRecDepth 100000
set_option maxHeartbeats 0
noncomputable def Row.C (r : Row) : Cx := hK r.st (r.a - 1)
noncomputable def Row.ns (r : Row) : List Str := (CO r.st).ns.map (·.1)
noncomputable def Row.w (r : Row) : Nat := @Nat.rec (fun _ => Nat) r.n (fun _ _ => Nat.succ r.n) r.k
noncomputable def jq : Stmt -> Arguments
 | .FunctionDef _ a _ _ _ _ _ _ _ _ => a
 | _ => default
noncomputable def Row.ok (r : Row) : Bool := vC r.C && (decide r.ns.Nodup && (Nat.ble r.w r.ns.length && (Nat.ble r.kw.length r.n && (Nat.beq r.k 0 || r.kw.isEmpty))))
theorem yS : (rows.all Row.ok) = true := by decide +kernel
theorem CX : (rows.all fun r => Nat.blt 0 r.n && (!r.C.tk || r.C.sc.names.all fun x => x.2 != .cell)) = true := by decide +kernel
theorem Row.at {r : Row} {i : Nat} (h : rows[i]? = some r) : r.ok = true := List.all_eq_true.mp yS r (List.mem_of_getElem? h)
noncomputable def Row.fd (r : Row) (f : FuncData) : FuncData := { f with params := jq r.st, defaults := r.df }
noncomputable def GO (f : FuncData) (vs : List Value) (r : Row) := bindArgs (r.fd f) ⟨(vs.take r.n).take (r.n - r.kw.length), r.kw.zip ((vs.take r.n).drop (r.n - r.kw.length))⟩
noncomputable def GH (vs : List Value) (r : Row) : Sem (List (Str × Value)) := pure ((r.ns.take r.n).zip (vs.take r.n))
noncomputable def plain : List Row := rows.filter fun r => Nat.beq r.k 0
theorem binds : (fun f a b c d e => plain.map (GO f [a, b, c, d, e])) = fun f a b c d e => plain.foldr (fun r l => GH [a, b, c, d, e] r :: l) [] := by kernel_rfl
end
section
open PySem PySem.W PyProof.Rows
set_option maxRecDepth 100000
inductive FT where
 | leaf (k : Nat) (mk : AV -> (AV -> R) -> R) (d : DS) | node (b : Nat) (l r : FT)
noncomputable def FT.run (ih : CH) (f : Nat) (args : AV) (σ : ab) (t : FT) : R := @FT.rec (fun _ => R) (fun k mk d => R.guard (Nat.beq f k) (enter mk d ih args σ)) (fun b _ _ x y => @Bool.rec (fun _ => R) y x (Nat.blt f b)) t
theorem z3 {b : Bool} {x y : R} {v l : AV} {σ : ab} (h : @Bool.rec (fun _ => R) x y b = .val v l σ) : (b = false /\ x = .val v l σ) \/ (b = true /\ y = .val v l σ) := by
 cases b
 ·exact .inl ⟨rfl, h⟩
 ·exact .inr ⟨rfl, h⟩
theorem dW.at' {f : Nat} {C : Cx} {body : List Stmt} {mk : AV -> (AV -> R) -> R} (S : dW f C (.stmts body) mk) {d : DS} (hd : dR C 8 body d) {r : Nat} {ih : CH} (hih : c4 r ih) : ∀ args σ v l σ', enter mk d ih args σ = .val v l σ' -> ∀ (A : Around) W s (x : Value) (pos kwv : List Value), mY W f x -> cP (r + 12) A -> A.handled = none -> (∃ l, A.frames = some l /\ cZ W l) -> Inv W σ s -> RL W args (pos ++ kwv) -> kwv.length = (D.fn f).kw.length ->
 codeAny (model D.prog D.w) A (.call x ⟨pos, (D.fn f).kw.zip kwv⟩) (fun r s' => ∃ x, r = .ok (.ret x) /\ aj W s v σ' x s') s :=
 oU S (aP.stmts hd) hih
inductive FT.OK : FT -> Prop
 | leaf {k : Nat} {C : Cx} {b : FuncBody} {mk : AV -> (AV -> R) -> R} {d : DS} : dW k C b mk -> aP C d b -> FT.OK (.leaf k mk d)
 | node {b : Nat} {l r : FT} : FT.OK l -> FT.OK r -> FT.OK (.node b l r)
theorem FT.OK.call {t : FT} (o : t.OK) {r : Nat} {ih : CH} (hih : c4 r ih) : c4 (r + 12) (fun f args σ => t.run ih f args σ) := by
 induction o with
 | @leaf k C b mk d S hd =>
  intro f args σ v l σ' h
  have h : R.guard (Nat.beq f k) (enter mk d ih args σ) = .val v l σ' := h
  have g := R.ah h
  refine aa (Nat.eq_of_beq_eq_true g.1) ?_
  exact oU S hd hih _ _ _ _ _ g.2
 | @node b x y _ _ ix iy =>
  intro f args σ v l σ' h
  have h : @Bool.rec (fun _ => R) (y.run ih f args σ) (x.run ih f args σ) (Nat.blt f b) = .val v l σ' := h
  exact (z3 h).elim (fun h => iy f args σ v l σ' h.2) fun h => ix f args σ v l σ' h.2
end
section
open PySem PySem.W PyProof.Rows
set_option maxRecDepth 100000
set_option maxHeartbeats 0
noncomputable def au (h : Heap) (a : Addr) : Obj := (h.get? a).getD default
noncomputable def fdOf (o : Obj) : FuncData := match o.data with | .func fd => fd | _ => default
noncomputable def nA (o : Obj) : Array Value := match o.data with | .fields vs => vs | _ => #[]
noncomputable def tokOf (v : Option Value) : Tok := match v with | some (.str _ t) => t | _ => 0
structure fN where
 (get : Option Obj) (dat : Data) (cls : Value) (body : FuncBody) (sc : Scope) (prm : Arguments) (gl bi : Addr) (clo : List (Str × Addr)) (code df : Value) (cget : Option Obj) (cdat : Data) (qn : Option Value)
noncomputable def yd (H : Heap) (r : Row) : fN :=
 ⟨H.get? r.a, (au H r.a).data, (au H r.a).cls, (fdOf (au H r.a)).body, (fdOf (au H r.a)).scope, (fdOf (au H r.a)).params, (fdOf (au H r.a)).globals, (fdOf (au H r.a)).builtins, (fdOf (au H r.a)).closure, (fdOf (au H r.a)).code, (fdOf (au H r.a)).defaults,
  H.get? (r.a - 1), (au H (r.a - 1)).data, (nA (au H (r.a - 1)))[1]?⟩
noncomputable def vH (H : Heap) (r : Row) : fN :=
 ⟨some (au H r.a), .func (fdOf (au H r.a)), .type "function", .stmts (gq r.st), r.C.sc, jq r.st, mainGlobals, builtinsNs, [], .ref (r.a - 1), r.df,
  some (au H (r.a - 1)), .fields (nA (au H (r.a - 1))), some (.str (fdOf (au H r.a)).qualname (tokOf ((nA (au H (r.a - 1)))[1]?)))⟩
theorem rowAt {α β : Type} {f g : α -> β} {L : List α} (h : L.map f = L.foldr (fun r l => g r :: l) []) {r : α} (hr : r ∈ L) : f r = g r := by
 induction L with
 | nil => exact nomatch hr
 | cons a l ih =>
  have h := List.cons.inj h
  cases hr with
  | head => exact h.1
  | tail _ hr => exact ih h.2 hr
noncomputable def q9 (o : Obj) : ClassData := match o.data with | .cls c => c | _ => ⟨default, [], [], 0, default, true, [], [], false, none, false⟩
noncomputable def fragOf (h : Heap) (as : List Addr) : Frag := as.map fun a => (a, au h a)
noncomputable def aC : List Addr := cStatics :: [418, 425, 432, 439, 474, 531, 546, 547, 554, 569, 572, 573, 574, 575, 576, 599, 606, 613, 620, 625, 632, 639, 653, 660, 669, 670, 681, 686, 693, 700, 707, 712, 719, 726, 731]
noncomputable def gp (x : String) (v : Value) : Str × Value := (Str.ofString x, v)
noncomputable def gl : List (Str × Value) := [gp "skip_chars" (.ref 418), gp "skip_until" (.ref 425), gp "skip_comment" (.ref 432), gp "skip_comments_and_array_ws" (.ref 439), gp "parse_array" (.ref 474), gp "parse_value" (.ref 531), gp "reduce" (.ref 554), gp "_law_parents" (.ref 681), gp "_law_bush" (.ref 686), gp "_law_cuts" (.ref 693), gp "_law_bushes" (.ref 700), gp "_law_least" (.ref 707), gp "_law_worths" (.ref 712), gp "_law_fold" (.ref 719), gp "_law_read" (.ref 726), gp "TopologicalSorter" (.ref 670), gp "_NodeInfo" (.ref 573), gp "_initial_missing" (.ref 546), gp "ILLEGAL_COMMENT_CHARS" (.ref 281), gp "TOML_WS_AND_NEWLINE" (.ref 295), gp "_NODE_OUT" (.int (-1) 2233), gp "_NODE_DONE" (.int (-2) 2236)]
noncomputable def bl : List (Str × Value) := [gp "float" (.type "float"), gp "len" (.builtin "len"), gp "iter" (.builtin "iter"), gp "next" (.builtin "next"), gp "sorted" (.builtin "sorted"), gp "sum" (.builtin "sum"), gp "set" (.type "set"), gp "tuple" (.type "tuple"), gp "range" (.type "range"), gp "bool" (.type "bool"), gp "enumerate" (.type "enumerate"), gp "StopIteration" (.type "StopIteration")]
noncomputable def ml : List (Addr × List Str × List (Option Value)) := [
 (669, ["__init__", "_get_nodeinfo", "add", "prepare", "get_ready", "is_active", "done", "_find_cycle", "__getattribute__", "__getattr__", "__setattr__", "_node2info", "_ready_nodes", "_npassedout", "_nfinished"], [some (.ref 606), some (.ref 613), some (.ref 620), some (.ref 625), some (.ref 632), some (.ref 639), some (.ref 653), some (.ref 660), none, none, none, none, none, none, none])]
noncomputable def pI (H : Heap) (a : Addr) : Obj := excClassObj (q9 (au H a)).name (q9 (au H a)).qualname a (a - 1) (q9 (au H a)).bases [.type "object"] true (q9 (au H a)).slotNames (q9 (au H a)).subclasses false none none none none ((au H a).slots.toList[2]?).join ((au H a).slots.toList[3]?).join ((au H a).slots.toList[5]?).join "object.__new__"
noncomputable def xi : List (Addr × Addr) := [(670, 606), (573, 569)]
noncomputable def xh : List (Str × Addr) := [("add", 620), ("done", 653)]
noncomputable def yz : List (Str × Addr × Nat) := [("node", 574, 0), ("npredecessors", 575, 1), ("successors", 576, 2)]
structure oh where
 (flags : List Bool) (lim law : Option Value) (names : Str × Str × Value) (g : List (Option Value)) (b : List (Option Value × Option Value)) (fns : List fN) (ks : List (Option Obj)) (cls : List Obj) (ms : List (List (Option Value))) (nod : Value × Data)
 (d : Obj × Obj) (new : List (Bool × Option (Option Value) × Option Value)) (bnd : List (Option (Option Value) × Option Value × Option (Option Value) × Option Bool)) (top : Option (Option Value) × Option (Option Value) × Option ClassData)
 (nd : Option (Option Value) × Option (Option Value) × Option (Option Value) × Bool) (slo : List ((Option Obj -> Option Builtin.ObjectAttr.Found) × Option (Option Value) × Option Value × Option Nat)) (lam : Value × Option Value × List Value) (bm : Option Value × Option Obj)
noncomputable def mf (H : Heap) : oh :=
 ⟨[H.isNs mainGlobals, H.isNs builtinsNs, H.isNs cStatics, H.isNs 669], H.nsMap cStatics "sys.recursionlimit", H.nsMap mainGlobals "law", ((fdOf (au H 731)).name, (fdOf (au H 731)).qualname, (fdOf (au H 731)).kwdefaults),
  gl.map fun p => H.nsMap mainGlobals p.1, bl.map fun p => (H.nsMap mainGlobals p.1, H.nsMap builtinsNs p.1), rows.map (yd H), aC.map fun a => H.get? a, [670].map (au H), ml.map fun p => p.2.1.map fun x => H.nsMap p.1 x, ((au H 573).cls, (au H 573).data),
  (au H 547, au H 599), xi.map fun p => (makesIn (fragOf H aC) p.1, findIn (fragOf H aC) (.ref p.1) "__init__", typeIn (fragOf H aC) (.ref p.2)),
  xh.map fun p => (findIn (fragOf H aC) (.ref 670) p.1, typeIn (fragOf H aC) (.ref p.2), specialIn (fragOf H aC) (.ref p.2) "__get__", takesIn (fragOf H aC) (.ref p.2)),
  (findIn (fragOf H aC) (.ref 670) "__getattribute__", findIn (fragOf H aC) (.ref 670) "__getattr__", clsIn (fragOf H aC) 670),
  (findIn (fragOf H aC) (.ref 573) "__getattribute__", findIn (fragOf H aC) (.ref 573) "__getattr__", findIn (fragOf H aC) (.ref 573) "__setattr__", plainOver (fragOf H aC) 573),
  yz.map fun p => (fun od => findObj (fragOf H aC) 573 od p.1, takerIn (fragOf H aC) 573 p.1, typeIn (fragOf H aC) (.ref p.2.1), slotIn (fragOf H aC) p.2.1 573),
  ((au H 718).cls, (nA (au H 718))[11]?, [11, 18, 7, 9, 10].map fun i => (nA (au H 718)).getD i .none), (H.nsMap mainGlobals "__builtins__", H.get? 4)⟩
noncomputable def cE {α β : Type} (L : List α) (g : α -> β) : List β := L.foldr (fun r l => g r :: l) []
noncomputable def pn (H : Heap) : oh :=
 ⟨[true, true, true, true], none, some (.ref 731), ("law", "law", .none), cE gl fun p => some p.2, cE bl fun p => (none, some p.2), cE rows (vH H), cE aC fun a => some (au H a), cE [670] (pI H), cE ml fun p => p.2.2, (.type "type", .cls (q9 (au H 573))),
  (cU #[.ref 546] 0, cU #[.none] 0), cE xi fun p => (true, some (some (.ref p.2)), some (.type "function")), cE xh fun p => (some (some (.ref p.2)), some (.type "function"), some (some (.builtin "function.__get__")), some false),
  (some (some (.builtin "object.__getattribute__")), some none, some (q9 (au H 670))), (some (some (.builtin "object.__getattribute__")), some none, some (some (.builtin "object.__setattr__")), true),
  cE yz fun p => (fun _ => some (.bind (.builtin "member_descriptor.__get__") (.ref p.2.1)), some (some (.ref p.2.1)), some (.type "member_descriptor"), some p.2.2), (.type "code", some (.ref 714), [.ref 714, .str "/claim/cut.py" 2469, .int 3 0, .bool true, .int 482 0]), (some (.ref 4), some oI)⟩
noncomputable def Fh (w : World) (Y : Nat -> Obj) (os : OsState) (pos : Pos) : Heap := absHeap ((Bq (rZ w Y os pos)).ins 714 { cls := .none, data := .freed }) 732 {}
noncomputable def nv : Row := ⟨gK, 731, [], 1, 3, 0, .none, .none⟩
noncomputable abbrev Ei := Bool × Option Value × (Str × Str × Value) × fN × Option Obj × (Option Obj × Value × Data × Option Value)
noncomputable def BI (H : Heap) : Ei := (H.isNs mainGlobals, H.nsMap mainGlobals "law", ((fdOf (au H 731)).name, (fdOf (au H 731)).qualname, (fdOf (au H 731)).kwdefaults), yd H nv, H.get? 714, (H.get? 718, (au H 718).cls, (au H 718).data, (nA (au H 718))[11]?))
noncomputable def Cm (H : Heap) : Ei := (true, some (.ref 731), ("law", "law", .none), vH H nv, some (tabObj #[]), (some (au H 718), .type "code", .fields (nA (au H 718)), some (.ref 714)))
theorem B5 : (fun (w : World) (v : V) => mf (Fh w v.Y v.os v.pos)) = fun w v => pn (Fh w v.Y v.os v.pos) := by kernel_rfl
noncomputable def Fc (T : BT) : Bool := (List.range 714).all fun a => (T.get a).isSome
theorem Ba : (fun (w : World) (v : V) => (Fc (Bq (rZ w v.Y v.os v.pos)), BI (hZ w v.Y v.os v.pos))) = fun w v => (true, Cm (hZ w v.Y v.os v.pos)) := by kernel_rfl
theorem CF {Y : Nat -> Obj} {n : Nat} {T : BT} (e : hX Y n = absHeap T n {}) {i : Nat} (hi : i < n) : (T.get i).getD default = Y i := by
 have h := congrArg (fun h : Heap => h.objs[i]?) e
 have h1 : (hX Y n).objs[i]? = _ := absHeap_at (pW Y n 0 .nil) n {} i
 have h2 : (absHeap T n {}).objs[i]? = _ := absHeap_at T n {} i
 rw [if_pos hi, ig Y n 0 .nil (fun _ q => absurd q (Nat.not_lt_zero _)) i (by rw [Nat.zero_add]; exact hi)] at h1
 rw [if_pos hi] at h2
 exact Option.some.inj (h2.symm.trans (h.symm.trans h1))
theorem yW {w : World} {Y Y1 : Nat -> Obj} {os : OsState} {p1 : Pos} (e : hX Y 732 = hZ w Y1 os p1) : hX (hole Y) 732 = Fh w Y1 os p1 := by
 have f := (Prod.mk.inj (congrFun (congrFun Ba w) { Y := Y1, os := os, pos := p1 })).1
 unfold hZ at e
 unfold Fh
 dsimp only at f
 generalize Bq (rZ w Y1 os p1) = T at e f ⊢
 have g := BT.get_ins { cls := .none, data := .freed } T 714 (qd _ T 714 fun a ha => List.all_eq_true.mp f a (List.mem_range.mpr ha))
 refine congrArg (Heap.mk · {}) (Array.ext_getElem? fun i => ?_)
 refine (absHeap_at (pW (hole Y) 732 0 .nil) 732 {} i).trans (Eq.trans ?_ (absHeap_at (T.ins 714 { cls := .none, data := .freed }) 732 {} i).symm)
 by_cases hi : i < 732
 ·rw [if_pos hi, if_pos hi, g i, ig (hole Y) 732 0 .nil (fun _ q => absurd q (Nat.not_lt_zero _)) i (by rw [Nat.zero_add]; exact hi)]
  by_cases h7 : i = 714
  ·rw [if_pos h7, h7]; rfl
  ·rw [if_neg h7, CF e hi]
   show some (bif Nat.beq i 714 then _ else Y i) = _
   rw [Bool.eq_false_iff.mpr fun q => h7 (Nat.eq_of_beq_eq_true q)]; rfl
 ·rw [if_neg hi, if_neg hi]
theorem jS {P : uk -> Prop} (h : ∀ (w : World) (Y Y1 Z : Nat -> Obj) (os : OsState) (p1 : Pos), Sets w Y -> hX Y 732 = hZ w Y1 os p1 -> (∀ a, a < 63 -> own a = false -> Y a = Z a) -> (∀ a, a < 63 -> alive (Z a) = some (Z a)) -> P (Cr w Y os)) : P D :=
 @Good.casesOn (fun D _ => P D) D Cs.1 h
theorem Good.h {D' : uk} (g : Good D') : mf D'.B = pn D'.B :=
 @Good.casesOn (fun D _ => mf D.B = pn D.B) D' g fun w Y Y1 Z os p1 _ e _ _ => by
 show mf (hX (hole Y) 732) = pn (hX (hole Y) 732)
 rw [yW e]
 exact congrFun (congrFun B5 w) { Y := Y1, os := os, pos := p1, Z := Z }
theorem EJ {w : World} {Y Y1 : Nat -> Obj} {os : OsState} {p1 : Pos} (e : hX Y 732 = hZ w Y1 os p1) : BI (hX Y 732) = Cm (hX Y 732) := by
 rw [e]
 exact (Prod.mk.inj (congrFun (congrFun Ba w) { Y := Y1, os := os, pos := p1 })).2
theorem qq : mf D.B = pn D.B := Cs.1.h
theorem C4 : (D.B.get? sysModules).isSome = true := jS (P := fun D => (D.B.get? sysModules).isSome = true) fun w Y Y1 Z os p1 _ _ hz al => by
 show ((hX (hole Y) 732).get? sysModules).isSome = true
 rw [gI (hole Y) 732 (by decide), show hole Y sysModules = Y sysModules from rfl, hz _ (by decide) (by decide), al _ (by decide)]
 rfl
theorem wG : D.prog = pw /\ D.fn = oH /\ D.fields = jm /\ D.nodeC = 573 /\ D.gs = #[] /\ D.lam = gL := jS (P := fun D => D.prog = pw /\ D.fn = oH /\ D.fields = jm /\ D.nodeC = 573 /\ D.gs = #[] /\ D.lam = gL) fun _ _ _ _ _ _ _ _ _ _ => ⟨rfl, rfl, rfl, rfl, rfl, rfl⟩
theorem zd : D.fn = oH := wG.2.1
theorem bk : D.fields = jm := wG.2.2.1
theorem eC : D.nodeC = 573 := wG.2.2.2.1
theorem xj : D.lam = gL := wG.2.2.2.2.2
theorem Ce : ∃ Y, Sets D.w Y /\ D.B = hX (hole Y) 732 := jS (P := fun D => ∃ Y, Sets D.w Y /\ D.B = hX (hole Y) 732) fun _ Y _ _ _ _ S _ _ _ => ⟨Y, S, rfl⟩
theorem jt (m : Nat) : ∀ j, (bR m).bB j = .undef := uU
theorem fU (i : Nat) (r : Row) (h : rows[i]? = some r) : D.fn i = ⟨r.a, r.kw⟩ := by refine aa zd ?_; unfold oH; exact aa h rfl
theorem flag {l : List Bool} {n : Nat} (h : l = List.replicate n true) {i : Nat} {b : Bool} (hi : l[i]? = some b) : b = true := by
 subst h
 exact (List.mem_replicate.mp (List.mem_of_getElem? hi)).2
theorem nQ (i : Nat) {b : Bool} (hi : (mf D.B).flags[i]? = some b) : b = true := flag (n := 4) (congrArg oh.flags qq) hi
theorem Em : D.B.isNs cStatics = true := nQ 2 rfl
theorem ER : D.B.nsMap cStatics "sys.recursionlimit" = none := congrArg oh.lim qq
theorem Hd : rows.map (yd D.B) = rows.foldr (fun r l => vH D.B r :: l) [] := congrArg oh.fns qq
theorem AJ {i : Nat} {r : Row} (h : rows[i]? = some r) : yd D.B r = vH D.B r := rowAt Hd (List.mem_of_getElem? h)
theorem yr {i : Nat} {r : Row} (h : rows[i]? = some r) : Nat.beq i jJ = false := Bool.eq_false_iff.mpr fun e => by
 have l : i < 25 := (List.getElem?_eq_some_iff.mp h).1
 rw [Nat.eq_of_beq_eq_true e] at l
 exact Nat.lt_irrefl _ l
theorem xf {i : Nat} {r : Row} (h : rows[i]? = some r) : FnAt i :=
 have e := AJ h
 ⟨yr h, _, _, by refine aa (fU i r h) ?_; exact congrArg fN.get e, congrArg fN.dat e⟩
theorem mO : D.B.NoLimit := ⟨_, .of_isNs Em, ER⟩
theorem GW {r : Row} {i : Nat} (h : rows[i]? = some r) : 0 < r.n /\ (!r.C.tk || r.C.sc.names.all fun x => x.2 != .cell) = true :=
 have g := Bool.and_eq_true_iff.mp (List.all_eq_true.mp CX r (List.mem_of_getElem? h))
 ⟨Nat.blt_eq.mp g.1, g.2⟩
theorem ku {i : Nat} {r : Row} (h : rows[i]? = some r) {mk : AV -> (AV -> R) -> R} (hB : ∀ fd : FuncData, fd.params = jq r.st -> fd.defaults = r.df -> ja i r.C fd mk) : dW i r.C (.stmts (gq r.st)) mk := fun W x hW hx => by
 have e := AJ h
 refine hx.elim (fun hx => ?_) fun hx => absurd (hx.1.symm.trans (yr h)) (fun x => Bool.noConfusion x)
 rw [fU i r h] at hx
 refine ⟨r.a, fdOf (au D.B r.a), hx.2, ⟨⟨_, hW _ _ (congrArg fN.get e), congrArg fN.dat e⟩, congrArg fN.body e, congrArg fN.gl e, congrArg fN.bi e, congrArg fN.clo e, congrArg fN.sc e,
  ⟨r.a - 1, _, _, _, _, congrArg fN.code e, hW _ _ (congrArg fN.cget e), congrArg fN.cdat e, congrArg fN.qn e⟩, mO, (Bool.and_eq_true_iff.mp (Row.at h)).1, fun c hc => (congrArg fN.code e).trans (congrArg Value.ref (Option.some.inj hc)), fun ht y hy => ?_⟩, hB _ (congrArg fN.prm e) (congrArg fN.df e)⟩
 have g := (GW h).2
 rw [ht] at g
 rw [show (fdOf (au D.B r.a)).scope = r.C.sc from congrArg fN.sc e] at hy
 have k := List.all_eq_true.mp g y hy
 exact fun q => by rw [q] at k; exact Bool.noConfusion k
theorem Gp {α : Type} (x : α) : ∀ vs : List α, vs.length <= 5 -> ∃ a b c d e, vs = [a, b, c, d, e].take vs.length := by
 intro vs h
 cases vs with
 | nil => exact ⟨x, x, x, x, x, rfl⟩
 | cons a l => cases l with
  | nil => exact ⟨a, x, x, x, x, rfl⟩
  | cons b l => cases l with
   | nil => exact ⟨a, b, x, x, x, rfl⟩
   | cons c l => cases l with
    | nil => exact ⟨a, b, c, x, x, rfl⟩
    | cons d l => cases l with
     | nil => exact ⟨a, b, c, d, x, rfl⟩
     | cons e l => cases l with
      | nil => exact ⟨a, b, c, d, e, rfl⟩
      | cons f l => exact absurd h (by simp)
theorem D9 : (rows.all fun r => Nat.ble r.n 5) = true := by decide +kernel
theorem bj {i : Nat} {r : Row} (h : rows[i]? = some r) (hk : Nat.beq r.k 0 = true) : dW i r.C (.stmts (gq r.st)) (gv r.n (bR r.m)) := by
 have o := Row.at h
 unfold Row.ok at o
 simp only [Bool.and_eq_true] at o
 have e := fU i r h
 refine ku h fun fd h1 h2 => kH (p := r.n - r.kw.length) (names := r.ns.take r.n) (fun vs hl => ?_) ?_ rfl ?_ (of_decide_eq_true o.2.1) (jt r.m) (GW h).1
 ·refine aa e ?_
  have l5 : vs.length <= 5 := hl ▸ Nat.le_of_ble_eq_true (List.all_eq_true.mp D9 r (List.mem_of_getElem? h))
  obtain ⟨a, b, c, d, f, hv⟩ := Gp (α := Value) .none vs l5
  rw [hl] at hv
  have hb := rowAt (congrFun (congrFun (congrFun (congrFun (congrFun (congrFun binds fd) a) b) c) d) f) (List.mem_filter.mpr ⟨List.mem_of_getElem? h, hk⟩)
  unfold GO GH at hb
  rw [<- hv] at hb
  have hf : r.fd fd = fd := by
   cases fd
   subst h1; subst h2
   rfl
  rw [hf] at hb
  exact hb
 ·refine aa e ?_; exact Nat.sub_add_cancel (Nat.le_of_ble_eq_true o.2.2.2.1)
 ·have := Nat.le_of_ble_eq_true o.2.2.1
  refine aa List.length_take ?_
  have hw : r.w = r.n := by
   delta Row.w
   refine aa (Nat.eq_of_beq_eq_true hk) ?_
   rfl
  lia
theorem oa {α β : Type} {f g : α -> β} {L : List α} (h : L.map f = cE L g) {i : Nat} {r : α} (hi : L[i]? = some r) : f r = g r := rowAt h (List.mem_of_getElem? hi)
section
theorem xc : D.B.isNs mainGlobals = true := nQ 0 rfl
theorem Dl : D.B.isNs builtinsNs = true := nQ 1 rfl
theorem Gk : gl.map (fun p => D.B.nsMap mainGlobals p.1) = cE gl fun p => some p.2 := congrArg oh.g qq
theorem FR : bl.map (fun p => (D.B.nsMap mainGlobals p.1, D.B.nsMap builtinsNs p.1)) = cE bl fun p => (none, some p.2) := congrArg oh.b qq
theorem tY : aC.map (fun a => D.B.get? a) = cE aC fun a => some (au D.B a) := congrArg oh.ks qq
theorem pj (i : Nat) {x : Str} {y : Value} (h : gl[i]? = some (x, y)) : cG x y := ⟨_, .of_isNs xc, .inl (oa Gk h)⟩
theorem jG (i : Nat) {x : Str} {y : Value} (h : bl[i]? = some (x, y)) : cG x y :=
 have e := Prod.mk.inj (oa FR h)
 ⟨_, .of_isNs xc, .inr ⟨e.1, _, .of_isNs Dl, e.2⟩⟩
theorem ez (j f : Nat) {r : Row} {x : Str} (h1 : gl[j]? = some (x, .ref r.a)) (h2 : rows[f]? = some r) : om x f r.kw := by
 have e := fU f r h2
 exact ⟨by refine aa e ?_; exact pj j h1, xf h2, by exact aa e rfl⟩
theorem uG {H : Heap} {as : List Addr} {a : Addr} {o : Obj} : (fragOf H as).lookup a = some o -> o = au H a /\ a ∈ as := by
 induction as with
 | nil => exact fun h => nomatch h
 | cons b r ih =>
  intro h
  delta fragOf at h
  rw [List.map_cons, List.lookup_cons] at h
  cases e : a == b with
  | true => rw [e] at h; rw [eq_of_beq e] at h ⊢; exact ⟨(Option.some.inj h).symm, .head _⟩
  | false => rw [e] at h; exact ⟨(ih h).1, .tail _ (ih h).2⟩
theorem nP : (fragOf D.B aC).In D.B := fun a o e => by
 have h := uG e
 refine aa h.1 ?_
 exact rowAt tY h.2
theorem EM : [670].map (au D.B) = cE [670] (pI D.B) := congrArg oh.cls qq
theorem F6 : ml.map (fun p => p.2.1.map fun x => D.B.nsMap p.1 x) = cE ml fun p => p.2.2 := congrArg oh.ms qq
theorem jI (i j : Nat) {c : Addr} {ns : List Str} {vs : List (Option Value)} {x : Str} {v : Option Value} (h : ml[i]? = some (c, ns, vs)) (hx : ns[j]? = some x) (hv : vs[j]? = some v) : D.B.nsMap c x = v := by
 have e : ns.map (fun x => D.B.nsMap c x) = vs := oa F6 h
 have e := congrArg (·[j]?) e
 simp only [List.getElem?_map, hx, hv, Option.map_some] at e
 exact Option.some.inj e
theorem AS (i : Nat) {c : Addr} (hc : [670][i]? = some c) (hn : D.B.isNs (c - 1) = true) (h1 : D.B.nsMap (c - 1) "__getattribute__" = none) (h2 : D.B.nsMap (c - 1) "__getattr__" = none) (h3 : D.B.nsMap (c - 1) "__setattr__" = none) (hk : c ∈ aC) : ClsAt c (fun x => D.B.nsMap (c - 1) x) :=
 ⟨⟨_, _, c - 1, _, _, _, _, _, _, _, _, _, _, (rowAt tY hk).trans (congrArg some (oa EM hc)), .of_isNs hn⟩, h1, h2, h3⟩
theorem bT : ClsAt 670 (fun x => D.B.nsMap 669 x) := AS 0 rfl (nQ 3 rfl) (jI 0 8 rfl rfl rfl) (jI 0 9 rfl rfl rfl) (jI 0 10 rfl rfl rfl) (by decide +kernel)
theorem z8 {f : Nat} {r : Row} (h : rows[f]? = some r) : ∃ o fd, D.B.get? (D.fn f).addr = some o /\ o.data = .func fd /\ o.cls = .type "function" :=
 have e := AJ h
 ⟨_, _, by rw [fU f r h]; exact congrArg fN.get e, congrArg fN.dat e, congrArg fN.cls e⟩
noncomputable def jX : List Str := ["_get_nodeinfo", "prepare", "get_ready", "is_active", "_find_cycle", "_node2info", "_ready_nodes", "_npassedout", "_nfinished"]
theorem zF : jX.map (fastLookup "object") = cE jX fun _ => some none := by kernel_rfl
theorem ia (i : Nat) {x : Str} (h : jX[i]? = some x) : typeLookup (.type "object") x = pure none := by
 rw [typeLookup_type, builtinLookup_eq_fast, oa zF h]
theorem kb (i j f q : Nat) {c : Addr} {ns : List Str} {vs : List (Option Value)} {x : Str} {r : Row} (K : ClsAt (c + 1) (fun x => D.B.nsMap c x)) (hm : ml[i]? = some (c, ns, vs)) (hx : ns[j]? = some x) (hr : rows[f]? = some r) (hv : vs[j]? = some (some (.ref r.a)))
  (hf : (jm (c + 1)).contains x = false) (ho : jX[q]? = some x) : (∃ mN, MethAt (c + 1) mN x f) /\ (D.fn f).kw = r.kw :=
 ⟨⟨_, K, by refine aa (fU f r hr) ?_; exact jI i j hm hx hv, z8 hr, by refine aa bk ?_; exact fun h => by rw [List.contains_iff_mem.mpr h] at hf; exact (nomatch hf), yr hr, ⟨_, ia q ho⟩⟩, by exact aa (fU f r hr) rfl⟩
theorem uf {h : Heap} {d : Addr} (e : h.get? d = some emptyDict) : h.Ns1 d fun _ => none := .of_empty ⟨_, #[], _, e, rfl, fun e he => absurd he (by simp), fun _ => rfl⟩
theorem xm {Cl : Addr} {l : AV} (hl : ∀ k, l.bB k = .undef) : ∀ (W : Gh) (h : Heap) (i : Nat) (a d : Addr), d ≠ a -> W a = .bu i -> W d = .sub i -> h.get? a = some (instObj Cl d) -> h.get? d = some emptyDict -> OR W h i a (.inst Cl l) :=
 fun W h i a d _ _ hd ga gd => ⟨_, fun _ => none, ga, rfl, (fun c e => by cases e), ⟨d, rfl, hd, uf gd⟩, fun _ _ => rfl, fun k x _ => .inl (hl k)⟩
theorem vJ {l : AV} (hl : ∀ k, l.bB k = .undef) : ∀ (W : Gh) (h : Heap) (i : Nat) (a d : Addr), d ≠ a -> W a = .bu i -> W d = .sub i -> h.get? a = some (instObj D.nodeC d) -> h.get? d = some emptyDict -> OR W h i a (.node l) :=
 fun W h i a d _ _ hd ga gd => ⟨_, d, ga, rfl, (fun c e => by cases e), rfl, hd, ⟨_, gd⟩, fun k _ => .inl (hl k)⟩
theorem findObj_fn {K : Frag} {Cl f : Addr} {g : Value} {name : Str} {cd : ClassData} {od : Obj} (h1 : clsIn K Cl = some cd) (h2 : findIn K (.ref Cl) name = some (some (.ref f))) (h3 : specialIn K (.ref f) "__get__" = some (some g)) (h4 : takesIn K (.ref f) = some false)
  (h5 : lookIn name od = some none) (h6 : copiedNames.contains name = false) : findObj K Cl (some od) name = some (.bind g (.ref f)) := by
 have h7 : PySem.W.ownOf cd (some od) name = some none := by
  unfold PySem.W.ownOf
  split
  ·exact h5
  ·rfl
 unfold findObj
 simp only [h1, Option.bind_some, h2, h3, h4, h7, h6, Bool.false_and, Bool.false_eq_true, if_false]
theorem y6 {o : Obj} {c : Value} {d : Data} (h1 : o.cls = c) (h2 : o.data = d) : o = ⟨c, o.dict, d, o.slots⟩ := by subst h1; subst h2; rfl
theorem Gz : xi.map (fun p => (makesIn (fragOf D.B aC) p.1, findIn (fragOf D.B aC) (.ref p.1) "__init__", typeIn (fragOf D.B aC) (.ref p.2))) = cE xi fun p => (true, some (some (.ref p.2)), some (.type "function")) := congrArg oh.new qq
theorem Bz (i f : Nat) {c a : Addr} {r : Row} {ao : AO} (h : xi[i]? = some (c, a)) (hr : rows[f]? = some r) (ha : r.a = a) (hk : r.kw = []) (hc : ∃ od cd sl, D.B.get? c = some ⟨.type "type", od, .cls cd, sl⟩)
  (ho : ∀ (W : Gh) (h : Heap) (i : Nat) (a d : Addr), d ≠ a -> W a = .bu i -> W d = .sub i -> h.get? a = some (instObj c d) -> h.get? d = some emptyDict -> OR W h i a ao) : kE (fragOf D.B aC) c f ao := by
 have e := oa Gz h
 have e2 := (Prod.mk.inj (Prod.mk.inj e).2)
 have e3 := fU f r hr
 subst ha
 exact ⟨nP, (Prod.mk.inj e).1, by refine aa e3 ?_; exact e2.1, by refine aa e3 ?_; exact e2.2, by refine aa e3 ?_; exact hk, yr hr, hc, ho⟩
theorem xg : kE (fragOf D.B aC) 670 17 (.inst 670 (bR 4)) := Bz 0 17 rfl rfl rfl rfl ⟨_, _, _, (rowAt tY (by decide +kernel : (670 : Nat) ∈ aC)).trans (congrArg some (oa EM (i := 0) rfl))⟩ (xm (jt 4))
theorem v3 : kE (fragOf D.B aC) 573 16 (.node (bR 3)) :=
 have e := Prod.mk.inj (congrArg oh.nod qq)
 Bz 1 16 rfl rfl rfl rfl ⟨_, _, _, (rowAt tY (by decide +kernel : (573 : Nat) ∈ aC)).trans (congrArg some (y6 e.1 e.2))⟩ (by have h := vJ (jt 3); rw [eC] at h; exact h)
theorem DJ : xh.map (fun p => (findIn (fragOf D.B aC) (.ref 670) p.1, typeIn (fragOf D.B aC) (.ref p.2), specialIn (fragOf D.B aC) (.ref p.2) "__get__", takesIn (fragOf D.B aC) (.ref p.2))) =
  cE xh fun p => (some (some (.ref p.2)), some (.type "function"), some (some (.builtin "function.__get__")), some false) := congrArg oh.bnd qq
theorem r5 (i f : Nat) {x : Str} {a : Addr} {r : Row} (h : xh[i]? = some (x, a)) (hr : rows[f]? = some r) (ha : r.a = a) (hc : copiedNames.contains x = false) (hf : (jm 670).contains x = false) : gh (fragOf D.B aC) 670 x f := by
 have e := oa DJ h
 have e1 := Prod.mk.inj e
 have e2 := Prod.mk.inj e1.2
 have e3 := Prod.mk.inj e2.2
 have t := Prod.mk.inj (congrArg oh.top qq)
 have t2 := Prod.mk.inj t.2
 have er := fU f r hr
 subst ha
 exact ⟨nP, t.1, t2.1, fun od h => by refine aa er ?_; exact findObj_fn t2.2 e1.1 e3.1 e3.2 h hc, by refine aa er ?_; exact e2.1, (xf hr).2, by refine aa bk ?_; exact fun h => by rw [List.contains_iff_mem.mpr h] at hf; exact (nomatch hf), yr hr⟩
theorem i8 : rm (fragOf D.B aC) := by
 have t := Prod.mk.inj (congrArg oh.nd qq)
 have t2 := Prod.mk.inj t.2
 have t3 := Prod.mk.inj t2.2
 exact ⟨nP, by refine aa eC ?_; exact t.1, by refine aa eC ?_; exact t2.1, by refine aa eC ?_; exact t3.1, by refine aa eC ?_; exact t3.2⟩
theorem F5 : yz.map (fun p => ((fun od => findObj (fragOf D.B aC) 573 od p.1 : Option Obj -> Option Builtin.ObjectAttr.Found), takerIn (fragOf D.B aC) 573 p.1, typeIn (fragOf D.B aC) (.ref p.2.1), slotIn (fragOf D.B aC) p.2.1 573)) =
  cE yz fun p => (fun _ => some (.bind (.builtin "member_descriptor.__get__") (.ref p.2.1)), some (some (.ref p.2.1)), some (.type "member_descriptor"), some p.2.2) := congrArg oh.slo qq
theorem jc (i k : Nat) {x : Str} {a : Addr} (h : yz[i]? = some (x, a, k)) (hk : k < 3) : kR (fragOf D.B aC) k x a := by
 have e := Prod.mk.inj (oa F5 h)
 have e2 := Prod.mk.inj e.2
 have e3 := Prod.mk.inj e2.2
 exact ⟨hk, by refine aa eC ?_; exact fun od => congrFun e.1 od, by refine aa eC ?_; exact e2.1, e3.1, by refine aa eC ?_; exact e3.2⟩
theorem xY : PySem.W.CodeHd D.B 718 714 := by
 have r := AJ (i := 13) rfl
 have l := Prod.mk.inj (congrArg oh.lam qq)
 have l2 := Prod.mk.inj l.2
 have l3 := fun (k : Nat) => congrArg (fun l : List Value => l[k]?) l2.2
 exact ⟨_, _, _, _, _, _, _, _, _, congrArg fN.cget r, l.1, congrArg fN.cdat r, l2.1, Option.some.inj (l3 0), Option.some.inj (l3 1), Option.some.inj (l3 2), Option.some.inj (l3 3), Option.some.inj (l3 4), by decide⟩
theorem BM : zA 718 := by
 have b := Prod.mk.inj (congrArg oh.bm qq)
 refine ⟨?_, ⟨_, .of_isNs xc, 4, oI, b.1, by decide, by decide, ?_, b.2, rfl, rfl, rfl⟩, ?_, ?_, ?_⟩ <;> rw [xj]
 ·exact xY
 ·exact (by decide : (4 : Nat) ≠ 714)
 ·exact fun env => rfl
 ·exact fun env => rfl
 ·exact (by decide : (mainGlobals : Nat) ≠ 714)
theorem Au (sC : C5 "ILLEGAL_COMMENT_CHARS" 0 170141183460469231731687303720179073023) (sW : C5 "TOML_WS_AND_NEWLINE" 4294968832 4294968832) : Facts where
 ms := C4
 f0 := ez 0 0 rfl rfl
 f1 := ez 1 1 rfl rfl
 f2 := ez 2 2 rfl rfl
 f3 := ez 3 3 rfl rfl
 f4 := ez 4 4 rfl rfl
 f5 := ez 5 5 rfl rfl
 f6 := ez 6 6 rfl rfl
 f7 := ez 7 7 rfl rfl
 f8 := ez 8 8 rfl rfl
 f9 := ez 9 9 rfl rfl
 f10 := ez 10 10 rfl rfl
 f11 := ez 11 11 rfl rfl
 f12 := ez 12 12 rfl rfl
 f13 := ez 13 13 rfl rfl
 f14 := ez 14 14 rfl rfl
 m18 := kb 0 1 18 0 bT rfl rfl rfl rfl rfl rfl
 m20 := kb 0 3 20 1 bT rfl rfl rfl rfl rfl rfl
 m21 := kb 0 4 21 2 bT rfl rfl rfl rfl rfl rfl
 m22 := kb 0 5 22 3 bT rfl rfl rfl rfl rfl rfl
 m24 := kb 0 7 24 4 bT rfl rfl rfl rfl rfl rfl
 b19 := ⟨⟨_, r5 0 19 rfl rfl rfl rfl rfl⟩, by exact aa (fU 19 _ rfl) rfl⟩
 b23 := ⟨⟨_, r5 1 23 rfl rfl rfl rfl rfl⟩, by exact aa (fU 23 _ rfl) rfl⟩
 n17 := ⟨pj 15 rfl, _, xg⟩
 n16 := ⟨pj 16 rfl, _, v3⟩
 a670_0 q := iQ bT (by refine aa bk ?_; rfl) (jI 0 11 rfl rfl rfl) (ia 5 rfl)
 s670_0 q := iT bT (by refine aa bk ?_; rfl) (by refine aa bk ?_; decide +kernel) (by refine aa bk ?_; decide +kernel) (jI 0 11 rfl rfl rfl) (ia 5 rfl)
 a670_1 q := iQ bT (by refine aa bk ?_; rfl) (jI 0 12 rfl rfl rfl) (ia 6 rfl)
 s670_1 q := iT bT (by refine aa bk ?_; rfl) (by refine aa bk ?_; decide +kernel) (by refine aa bk ?_; decide +kernel) (jI 0 12 rfl rfl rfl) (ia 6 rfl)
 a670_2 q := iQ bT (by refine aa bk ?_; rfl) (jI 0 13 rfl rfl rfl) (ia 7 rfl)
 s670_2 q := iT bT (by refine aa bk ?_; rfl) (by refine aa bk ?_; decide +kernel) (by refine aa bk ?_; decide +kernel) (jI 0 13 rfl rfl rfl) (ia 7 rfl)
 a670_3 q := iQ bT (by refine aa bk ?_; rfl) (jI 0 14 rfl rfl rfl) (ia 8 rfl)
 s670_3 q := iT bT (by refine aa bk ?_; rfl) (by refine aa bk ?_; decide +kernel) (by refine aa bk ?_; decide +kernel) (jI 0 14 rfl rfl rfl) (ia 8 rfl)
 a573_0 q := kj i8 (jc 0 0 rfl (by decide))
 s573_0 q := kC i8 (jc 0 0 rfl (by decide))
 a573_1 q := kj i8 (jc 1 1 rfl (by decide))
 s573_1 q := kC i8 (jc 1 1 rfl (by decide))
 a573_2 q := kj i8 (jc 2 2 rfl (by decide))
 s573_2 q := kC i8 (jc 2 2 rfl (by decide))
 gILLEGAL_COMMENT_CHARS := sC
 gTOML_WS_AND_NEWLINE := sW
 g_NODE_OUT := ⟨_, pj 20 rfl⟩
 g_NODE_DONE := ⟨_, pj 21 rfl⟩
 o_initial_missing := ⟨pj 17 rfl, _, nP 546 _ rfl⟩
 yfloat := jG 0 rfl
 clen := jG 1 rfl
 citer := jG 2 rfl
 cnext := jG 3 rfl
 csorted := jG 4 rfl
 csum := jG 5 rfl
 tset := jG 6 rfl
 ttuple := jG 7 rfl
 trange := jG 8 rfl
 tbool := jG 9 rfl
 tenumerate := jG 10 rfl
 tStopIteration := jG 11 rfl
 lam := BM
 lamE := xj
 lkw := by rw [zd]; rfl
end
theorem lz {fd : FuncData} {p : Arguments} {d : Value} (h1 : fd.params = p) (h2 : fd.defaults = d) : fd = { fd with params := p, defaults := d } := by
 subst h1; subst h2; rfl
theorem Ht (fd : FuncData) (h1 : fd.params = jq c6) (y : Value) : ∀ vs : List Value, vs.length = 3 -> ∃ kk, bindArgs fd ⟨vs, []⟩ = seqItems? fd.defaults >>= kk /\ kk (some #[y]) = pure ((((CO c6).ns.map (·.1)).take 3).zip vs)
 | [a, b, c], _ => by
  refine aa (lz h1 rfl) ?_; exact ⟨_, rfl, rfl⟩
theorem tR {C : Cx} {f : Nat} {fd : FuncData} {n : Nat} {pad : AV} {names : List Str} {T : Addr} {o : Obj} {y : Value} {ep : Nat} (hd : fd.defaults = .ref T) (ho : D.B.get? T = some o) (hs : o.data = .seq #[y] ep)
  (hkw : (D.fn f).kw = []) (hb : ∀ vs : List Value, vs.length = n + 1 -> ∃ kk, bindArgs fd ⟨vs, []⟩ = seqItems? fd.defaults >>= kk /\ kk (some #[y]) = pure (names.zip vs))
  (hn : (C.ns.map (·.1)).take (n + 1) = names) (hnl : names.length = n + 1) (d4 : (C.ns.map (·.1)).Nodup) (hpad : ∀ j, pad.bB j = .undef) : ja f C fd (gv (n + 1) pad) := fun args k v l σf h => by
 refine ba (R.ah h) fun g h1 => ?_
 have g := Nat.eq_of_beq_eq_true g
 refine ⟨_, h1, fun A W σ s pos kwv _ I rl hk => ?_⟩
 rw [hkw] at hk ⊢
 obtain rfl := List.length_eq_zero_iff.mp hk
 rw [List.append_nil] at rl
 have hl : pos.length = n + 1 := by refine bw rl.len ?_; exact g
 show wpAny _ _ (bindArgs fd ⟨pos, []⟩) _ _ _
 refine ae (hb pos hl) fun kk b1 b2 => ?_
 refine aa b1 ?_; refine aa hd ?_
 refine wpAny_bind (wpAny_seqItems (I.bK _ _ ho) hs ?_)
 refine aa b2 ?_
 refine ba (fi hn hnl d4 hpad rl hl) fun h2 h3 => ?_
 exact wpAny_pure ⟨W, .refl W, I, aJ.refl W _, m8 hnl hl, h2, h3⟩
theorem Gv (fd : FuncData) (h1 : fd.params = jq aA) (y : Value) : ∀ vs : List Value, vs.length = 1 -> ∃ kk, bindArgs fd ⟨vs, []⟩ = seqItems? fd.defaults >>= kk /\ kk (some #[y]) = pure ((((CO aA).ns.map (·.1)).take 2).zip (vs ++ [y]))
 | [a], _ => by
  refine aa (lz h1 rfl) ?_; exact ⟨_, rfl, rfl⟩
theorem Ge (fd : FuncData) (h1 : fd.params = jq aE) (h2 : fd.defaults = .none) : ∀ vs rest : List Value, vs.length = 2 -> bindArgs fd ⟨vs ++ rest, []⟩ = newTuple rest >>= fun t => pure ((((CO aE).ns.map (·.1)).take 3).zip (vs ++ [t]))
 | [a, b], [], _ => by
  refine aa (lz h1 h2) ?_; kernel_rfl
 | [a, b], x :: rest, _ => by
  refine aa (lz h1 h2) ?_; kernel_rfl
theorem Gu (fd : FuncData) (h1 : fd.params = jq aB) (h2 : fd.defaults = .none) : ∀ vs rest : List Value, vs.length = 1 -> bindArgs fd ⟨vs ++ rest, []⟩ = newTuple rest >>= fun t => pure ((((CO aB).ns.map (·.1)).take 2).zip (vs ++ [t]))
 | [a], [], _ => by
  refine aa (lz h1 h2) ?_; kernel_rfl
 | [a], x :: rest, _ => by
  refine aa (lz h1 h2) ?_; kernel_rfl
section
theorem EP : au D.B 547 = cU #[.ref 546] 0 /\ au D.B 599 = cU #[.none] 0 := Prod.mk.inj (congrArg oh.d qq)
theorem Gm : dW 6 (hK c6 553) (.stmts (gq c6)) (gv 3 (bR 3)) :=
 ku (i := 6) rfl fun fd h1 h2 => tR (n := 2) (T := 547) (o := au D.B 547) (y := .ref 546) (ep := 0) h2 (rowAt tY (by decide +kernel)) (by refine aa EP.1 ?_; rfl) (by exact aa (fU 6 _ rfl) rfl) (Ht fd h1 _) rfl (by decide +kernel) (by decide +kernel) (jt 3)
theorem Fb : dW 17 (hK aA 605) (.stmts (gq aA)) (Gf 1 .none (bR 2)) :=
 ku (i := 17) rfl fun fd h1 h2 => ud (T := 599) (o := au D.B 599) (y := .none) (ep := 0) h2 (rowAt tY (by decide +kernel)) (by refine aa EP.2 ?_; rfl) (fun W hW => .none) (by exact aa (fU 17 _ rfl) rfl) (Gv fd h1 _) rfl (by decide +kernel) (by decide +kernel) (jt 2)
theorem DZ : dW 19 (hK aE 619) (.stmts (gq aE)) (Dg 2 (bR 3)) :=
 ku (i := 19) rfl fun fd h1 h2 => pV (by exact aa (fU 19 _ rfl) rfl) (Ge fd h1 h2) rfl (by decide +kernel) (by decide +kernel) (jt 3)
theorem Dy : dW 23 (hK aB 652) (.stmts (gq aB)) (Dg 1 (bR 6)) :=
 ku (i := 23) rfl fun fd h1 h2 => pV (by exact aa (fU 23 _ rfl) rfl) (Gu fd h1 h2) rfl (by decide +kernel) (by decide +kernel) (jt 6)
theorem DQ (fd : FuncData) (h1 : fd.params = gL.prm) (h2 : fd.defaults = .none) : ∀ vs : List Value, vs.length = 2 -> bindArgs fd ⟨vs.take 2, ([] : List Str).zip (vs.drop 2)⟩ = pure ((((zb).ns.map (·.1)).take 2).zip vs)
 | [a, b], _ => by
  refine aa (lz h1 h2) ?_; kernel_rfl
theorem Cf : dW jJ zb (.expr gL.body) (gv 2 .nil) := fun W x hW hx => by
 refine hx.elim (fun hx => absurd hx.1 (by decide)) fun hx => ?_
 obtain ⟨a, rfl, o, fd, c, oc, vs, q, t, g1, g2, g3, g4, g5, g6, g7, g8, g9, g10, g11, g12, g13⟩ := hx.2
 rw [xj] at g3 g4 g5
 refine ⟨a, fd, rfl, ⟨⟨o, g1, g2⟩, g4, g6, g7, g8, g5, ⟨c, oc, vs, q, t, g10, g11, g12, g13⟩, mO, by decide +kernel, (fun c h => nomatch h), fun h => Bool.noConfusion h⟩, kH (p := 2) (names := (zb.ns.map (·.1)).take 2) (fun vs hl => ?_) ?_ rfl rfl (by decide +kernel) (jt 0) (by decide)⟩
 ·rw [zd]; exact DQ fd g3 g9 vs hl
 ·rw [zd]; rfl
end
noncomputable def Dp : DS := fun ih Z σ => (Bj.1 ih Z σ).aX fun v Z σ => .ret v Z σ
noncomputable def Bo : FT := (.node 13 (.node 6 (.node 3 (.node 1 (.leaf 0 (gv 3 (bR 0)) iq.1) (.node 2 (.leaf 1 (gv 5 (bR 1)) iz.1) (.leaf 2 (gv 2 (bR 1)) fK.1))) (.node 4 (.leaf 3 (gv 2 (bR 1)) bZ.1) (.node 5 (.leaf 4 (gv 3 (bR 3)) gA.1) (.leaf 5 (gv 3 (bR 8)) gC.1)))) (.node 9 (.node 7 (.leaf 6 (gv 3 (bR 3)) pZ.1) (.node 8 (.leaf 7 (gv 1 (bR 3)) bF.1) (.leaf 8 (gv 2 (bR 0)) lq.1))) (.node 11 (.node 10 (.leaf 9 (gv 1 (bR 3)) lM.1) (.leaf 10 (gv 1 (bR 3)) iW.1)) (.node 12 (.leaf 11 (gv 1 (bR 1)) js.1) (.leaf 12 (gv 1 (bR 5)) iC.1))))) (.node 19 (.node 16 (.node 14 (.leaf 13 (gv 1 (bR 0)) lJ.1) (.node 15 (.leaf 14 (gv 1 (bR 3)) kx.1) (.leaf 15 (gv 1 (bR 3)) mj.1))) (.node 17 (.leaf 16 (gv 2 (bR 0)) fC.1) (.node 18 (.leaf 17 (Gf 1 .none (bR 2)) cH.1) (.leaf 18 (gv 2 (bR 1)) bL.1)))) (.node 22 (.node 20 (.leaf 19 (Dg 2 (bR 3)) cR.1) (.node 21 (.leaf 20 (gv 1 (bR 1)) cq.1) (.leaf 21 (gv 1 (bR 3)) bX.1))) (.node 24 (.node 23 (.leaf 22 (gv 1 (bR 0)) bW.1) (.leaf 23 (Dg 1 (bR 6)) cJ.1)) (.node 25 (.leaf 24 (gv 1 (bR 6)) bU.1) (.leaf 25 (gv 2 .nil) Dp))))))
noncomputable def gB (n : Nat) : CH := @Nat.rec (fun _ => CH) (fun _ _ _ => .fail) (fun _ ih f args σ => Bo.run ih f args σ) n
theorem xO (F : Facts) : Bo.OK :=
 (.node (.node (.node (.node (.leaf (bj (i := 0) rfl rfl) (aP.stmts (iq.2 F))) (.node (.leaf (bj (i := 1) rfl rfl) (aP.stmts (iz.2 F))) (.leaf (bj (i := 2) rfl rfl) (aP.stmts (fK.2 F))))) (.node (.leaf (bj (i := 3) rfl rfl) (aP.stmts (bZ.2 F))) (.node (.leaf (bj (i := 4) rfl rfl) (aP.stmts (gA.2 F))) (.leaf (bj (i := 5) rfl rfl) (aP.stmts (gC.2 F)))))) (.node (.node (.leaf Gm (aP.stmts (pZ.2 F))) (.node (.leaf (bj (i := 7) rfl rfl) (aP.stmts (bF.2 F))) (.leaf (bj (i := 8) rfl rfl) (aP.stmts (lq.2 F))))) (.node (.node (.leaf (bj (i := 9) rfl rfl) (aP.stmts (lM.2 F))) (.leaf (bj (i := 10) rfl rfl) (aP.stmts (iW.2 F)))) (.node (.leaf (bj (i := 11) rfl rfl) (aP.stmts (js.2 F))) (.leaf (bj (i := 12) rfl rfl) (aP.stmts (iC.2 F))))))) (.node (.node (.node (.leaf (bj (i := 13) rfl rfl) (aP.stmts (lJ.2 F))) (.node (.leaf (bj (i := 14) rfl rfl) (aP.CR rfl (kx.2 F))) (.leaf (bj (i := 15) rfl rfl) (aP.stmts (mj.2 F))))) (.node (.leaf (bj (i := 16) rfl rfl) (aP.stmts (fC.2 F))) (.node (.leaf Fb (aP.stmts (cH.2 F))) (.leaf (bj (i := 18) rfl rfl) (aP.stmts (bL.2 F)))))) (.node (.node (.leaf DZ (aP.stmts (cR.2 F))) (.node (.leaf (bj (i := 20) rfl rfl) (aP.stmts (cq.2 F))) (.leaf (bj (i := 21) rfl rfl) (aP.stmts (bX.2 F))))) (.node (.node (.leaf (bj (i := 22) rfl rfl) (aP.stmts (bW.2 F))) (.leaf Dy (aP.stmts (cJ.2 F)))) (.node (.leaf (bj (i := 24) rfl rfl) (aP.stmts (bU.2 F))) (.leaf Cf (aP.expr (Bj.2 F))))))))
theorem vZ (F : Facts) (n : Nat) : c4 (12 * n) (gB n) := by
 induction n with
 | zero => exact fun f args σ v l σ' h => R.noConfusion h
 | succ n ih => exact (xO F).call ih
end
section
open PySem PySem.W PyProof.Rows
set_option maxRecDepth 100000
set_option maxHeartbeats 0
theorem cX.HG {o : Obj} {S : Str -> Bool} {n : Nat} {t : SetTable} (x : cX D.w o S n t) : vd o S :=
 ag x fun es ep e1 q => ⟨es, ep, t, n, e1, by refine aa wG.1 ?_; exact q⟩
noncomputable def xw (y m : Nat) (S : Str -> Bool) : Bool := (List.range 256).all fun c => (!Nat.testBit y c || S ⟨#[c]⟩) && (!S ⟨#[c]⟩ || Nat.testBit m c)
theorem pf {y m : Nat} {S : Str -> Bool} (h : xw y m S = true) {c : Nat} (hc : c < 256) : (y.testBit c = true -> S ⟨#[c]⟩ = true) /\ (S ⟨#[c]⟩ = true -> m.testBit c = true) :=
 have e := Bool.and_eq_true_iff.mp (List.all_eq_true.mp h c (List.mem_range.mpr hc))
 ⟨fun h => by have := e.1; rw [h] at this; exact this, fun h => by have := e.2; rw [h] at this; exact this⟩
section
variable {Y : Nat -> Obj}
theorem EZ (hB : D.B = hX (hole Y) 732) {x : Str} {a : Addr} (hv : cG x (.ref a)) (ha : a < 732) (h7 : hole Y a = Y a) {S : Str -> Bool} {n : Nat} {t : SetTable} (h : cX D.w (Y a) S n t) {y m : Nat} {T : Str -> Bool} (hS : ∀ k, S k = true -> T k = true) (h0 : y = 0 \/ S = T) (hk : xw y m T = true) : C5 x y m :=
 ⟨a, Y a, S, hv, by refine aa hB ?_; exact (gI (hole Y) 732 ha).trans (h7 ▸ h.alive), h.HG, fun c hc hy => h0.elim (fun e => absurd hy (by refine aa e ?_; rw [Nat.zero_testBit]; exact Bool.false_ne_true)) fun e => by refine aa e ?_; exact (pf hk hc).1 hy,
  fun c hc hs => (pf hk hc).2 (hS _ hs)⟩
theorem facts : Facts :=
 Ce.elim fun Y h => h.elim fun X hD =>
 have c : xw 0 170141183460469231731687303720179073023 yF = true := by decide +kernel
 ak X.basic fun _ _ _ hb hB => X.wsnl.elim fun _ h => h.elim fun _ h4 =>
 Au (EZ hD (pj 18 rfl) (by decide) rfl hb hB (.inl rfl) c) (EZ hD (pj 19 rfl) (by decide) rfl h4 (fun _ h => h) (.inr rfl) (by decide +kernel))
end
end
section
open PySem PySem.W PyProof.Rows
set_option maxRecDepth 100000
set_option maxHeartbeats 0
noncomputable def CD (r : Nat) (f : Nat) (args : AV) (σ : ab) (v' : AV) (σ' : ab) : Prop := ∀ (A : Around) W s (x : Value) (pos kwv : List Value), mY W f x -> cP r A -> A.handled = none -> (∃ l, A.frames = some l /\ cZ W l) -> Inv W σ s -> RL W args (pos ++ kwv) -> kwv.length = (D.fn f).kw.length ->
  codeAny (model D.prog D.w) A (.call x ⟨pos, (D.fn f).kw.zip kwv⟩) (fun r s' => ∃ x, r = .ok (.ret x) /\ aj W s v' σ' x s') s
noncomputable def Eo (σ : ab) (k : Nat) : AV -> AV := @Nat.rec (fun _ => AV -> AV) (fun v => v) (fun _ f v => @AV.rec (fun _ => AV) .undef .none .bool .int .str .ty .glob
 (fun i => @AO.rec (fun _ => AV) (fun n l => .lst n (AV.fH .nil (fun a _ ih => .cons (f a) ih) l)) (fun n _ e => .dct n (AV.qM .nil (fun m c v _ ih => .ent m c (f v) ih) e)) (fun _ _ => .undef) .undef (fun _ _ => .undef) (fun _ => .undef) (fun _ _ => .undef) (σ.look i))
 (fun n l _ => .tup n (AV.fH .nil (fun a _ ih => .cons (f a) ih) l)) (fun n l _ => .lst n (AV.fH .nil (fun a _ ih => .cons (f a) ih) l)) (fun n e _ => .dct n (AV.qM .nil (fun m c v _ ih => .ent m c (f v) ih) e))
 .fset (fun v _ => .vals v) .rng .lam .nxt .nil (fun a l _ _ => .cons a l) (fun n c v r _ _ => .ent n c v r) v) k
noncomputable def R.az (r : R) : R := @R.rec (fun _ => R) .fail (fun v l σ => @Bool.rec (fun _ => R) (.val v l σ) (.val (Eo σ 5 v) .nil .nil) ((Eo σ 5 v).fz σ v)) r
noncomputable def qG (ih : CH) : CH := fun f args σ => @ab.rec (fun _ => R) (ih f args .nil).az (fun i o r _ => ih f args (.cons i o r)) σ
section
variable {r f : Nat} {args v l : AV} {σ' : ab}
theorem CI {ih : CH} (hok : c4 r ih) (h : (ih f args .nil).az = .val v l σ') : CD r f args .nil v σ' := by
 cases q : ih f args .nil with
 | fail => rw [q] at h; exact R.noConfusion h
 | val v1 l1 σ1 =>
  rw [q] at h
  exact (z3 h).elim (fun h => R.ve h.2 (hok f args .nil v1 l1 σ1 q)) fun h => R.ve h.2 (mQ C4 hok q h.1)
theorem zw {ih : CH} (hok : c4 r ih) : c4 r (qG ih) := fun f args σ v l σ' h => by
 induction σ using ab.casesOn with
 | cons i o q => exact hok f args _ v l σ' h
 | nil => exact CI hok h
end
end
section
open PySem PySem.W PyProof.Rows
set_option maxRecDepth 100000
set_option maxHeartbeats 0
noncomputable def rp (d : DE) : DS := Ap 1 (jw 10 (dB d dE) dE)
noncomputable def lC : {p : DE × DS // mj.1 = dU (rp p.1) p.2} := ⟨(_, _), Eq.refl (dU (rp _) _)⟩
noncomputable def qQ : DE := lC.1.1
noncomputable def B8 : DS := lC.1.2
noncomputable def X0 (n : Nat) (l : AV) : AV := .cons (.lst n l) (bR 3)
noncomputable def Fi (r : R) (ih : CH) : CH := fun f a s => @Bool.rec (fun _ => R) (ih f a s) r (Nat.beq f 7)
theorem xt (ih : CH) (n : Nat) (l : AV) : qQ ih (X0 n l) .nil = qQ (Fi (ih 7 (.cons (.lst n l) .nil) .nil) ih) (X0 n l) .nil := by kernel_rfl
theorem wD (ih : CH) (n : Nat) (l p : AV) : qQ (Fi (.val p .nil .nil) ih) (X0 n l) .nil = qQ (Fi (.val p .nil .nil) fun _ _ _ => ih 8 (.cons (.int 0) (.cons p .nil)) .nil) (X0 n l) .nil := by kernel_rfl
theorem vP (n : Nat) (l p B : AV) : qQ (Fi (.val p .nil .nil) fun _ _ _ => .val B .nil .nil) (X0 n l) .nil = .val B (X0 n l) .nil := by kernel_rfl
noncomputable def Fs (B : AV) (ih : CH) (n : Nat) (l : AV) : R := (RS.bind (rp (dK B) ih (X0 n l) .nil) fun Z σ => B8 ih Z σ).zH
theorem zy {d d' : DE} {ih : CH} {Z : AV} {σ : ab} (h : d ih Z σ = d' ih Z σ) : rp d ih Z σ = rp d' ih Z σ := by
 have h1 : dB d dE ih Z σ = dB d' dE ih Z σ := by
  show R.bind (d ih Z σ) _ = R.bind (d' ih Z σ) _
  rw [h]
 have h2 : jw 10 (dB d dE) dE ih Z σ = jw 10 (dB d' dE) dE ih Z σ := by
  show R.bind (dB d dE ih Z σ) _ = R.bind (dB d' dE ih Z σ) _
  rw [h1]
 show R.aX (jw 10 (dB d dE) dE ih Z σ) _ = R.aX (jw 10 (dB d' dE) dE ih Z σ) _
 rw [h2]
theorem tO {ih : CH} {n : Nat} {l p B : AV} (h7 : ih 7 (.cons (.lst n l) .nil) .nil = .val p .nil .nil) (h8 : ih 8 (.cons (.int 0) (.cons p .nil)) .nil = .val B .nil .nil) : enter (gv 1 (bR 3)) mj.1 ih (.cons (.lst n l) .nil) .nil = Fs B ih n l := by
 rw [show mj.1 = dU (rp qQ) B8 from lC.2]
 show (RS.bind (rp qQ ih (X0 n l) .nil) fun Z σ => B8 ih Z σ).zH = _
 rw [zy (d' := dK B) ((xt ih n l).trans (by rw [h7, wD, h8, vP]; rfl))]
 rfl
noncomputable def tG (c : AV -> Bool) (tree : AV) (ih : CH) : CH := fun f args σ =>
 @Bool.rec (fun _ => R) (ih f args σ) (@Bool.rec (fun _ => R) .fail (@ab.rec (fun _ => R) (.val tree .nil .nil) (fun _ _ _ _ => .fail) σ) (c args)) (Nat.beq f 7)
theorem yf {r : Nat} {ih : CH} (hok : c4 r ih) {c : AV -> Bool} {tree a : AV} (hc : ∀ b, c b = true -> b = a) (ht : gS r 7 a tree) : c4 r (tG c tree ih) := fun f args σ v l σ' h =>
 (z3 h).elim (fun h => hok f args σ v l σ' h.2) fun h => (z3 h.2).elim (fun h => R.noConfusion h.2) fun h2 => by
  have e := Nat.eq_of_beq_eq_true h.1
  subst e
  rw [hc _ h2.1]
  have h3 := h2.2
  induction σ using ab.casesOn with
  | nil => exact R.ve h3 ht
  | cons i o q => exact R.noConfusion h3
theorem oq {k n : Nat} {l p B : AV} (ht : gS (12 * k) 7 (.cons (.lst n l) .nil) p) (h8 : qG (gB k) 8 (.cons (.int 0) (.cons p .nil)) .nil = .val B .nil .nil)
  (hev : ∀ c, Fs B (tG c p (qG (gB k))) n l = .val (.bool true) .nil .nil) : gS (12 * k + 12) 15 (.cons (.lst n l) .nil) (.bool true) := by
 have hok := yf (c := fun b => @decide (b = .cons (.lst n l) .nil) (Classical.propDecidable _)) (tree := p) (zw (vZ facts k)) (fun b h => @of_decide_eq_true _ (Classical.propDecidable _) h) ht
 have h7 : tG (fun b => @decide (b = .cons (.lst n l) .nil) (Classical.propDecidable _)) p (qG (gB k)) 7 (.cons (.lst n l) .nil) .nil = .val p .nil .nil := by
  show @Bool.rec (fun _ => R) .fail (.val p .nil .nil) (@decide ((AV.cons (.lst n l) .nil) = .cons (.lst n l) .nil) (Classical.propDecidable _)) = _
  rw [@decide_eq_true _ (Classical.propDecidable _) rfl]
 exact fun A W s x pos kwv hx hA hh hfr I hr hk => (bj (i := 15) rfl rfl).at' (mj.2 facts) hok (.cons (.lst n l) .nil) .nil (.bool true) .nil .nil ((tO (p := p) (B := B) h7 h8).trans (hev _)) A W s x pos kwv hx hA hh hfr I hr hk
inductive iB : AV -> Nat -> Prop
 | nil : iB .nil 0
 | cons (z : Int) (l : AV) (n : Nat) : iB l n -> iB (.cons (.int z) l) (n + 1)
theorem iB.bB {l : AV} {n : Nat} (h : iB l n) : ∀ i, i < n -> ∃ z, l.bB i = .int z := by
 induction h with
 | nil => exact fun i h => absurd h (Nat.not_lt_zero i)
 | cons z l n _ ih => exact fun i => @Nat.casesOn (fun i => i < n + 1 -> ∃ z', (AV.cons (.int z) l).bB i = .int z') i (fun _ => ⟨z, rfl⟩) fun i h => ih i (Nat.lt_of_succ_lt_succ h)
theorem iB.take {l : AV} {n : Nat} (h : iB l n) : ∀ m, m <= n -> iB (l.take m) m := by
 induction h with
 | nil => exact fun m h => Nat.le_zero.mp h ▸ .nil
 | cons z l n _ ih => exact fun m => @Nat.casesOn (fun m => m <= n + 1 -> iB ((AV.cons (.int z) l).take m) m) m (fun _ => .nil) fun m h => .cons z _ m (ih m (Nat.le_of_succ_le_succ h))
theorem pY {l : AV} {b : Nat} (cnt : Nat) : ∀ s, (∀ j, j < cnt -> ∃ z, l.bB (s + b * j) = .int z) -> (l.stride b cnt s).allI = true := by
 induction cnt with
 | zero => exact fun _ _ => rfl
 | succ cnt ih =>
  refine fun s h => (h 0 (Nat.succ_pos _)).elim fun z hz => ?_
  ·show (AV.cons (l.bB s) (l.stride b cnt (s + b))).allI = true
   refine aa (show l.bB s = .int z from hz) ?_
   exact ih (s + b) fun j hj => by rw [Nat.add_assoc, Nat.add_comm b, <- Nat.mul_succ]; exact h (j + 1) (Nat.succ_lt_succ hj)
theorem zM {m k j : Nat} (h : j < fW m k 4) : k + 4 * j < m := by
 unfold fW at h
 cases e : Nat.blt k m with
 | false => rw [e] at h; exact absurd h (Nat.not_lt_zero j)
 | true =>
  rw [e] at h
  have h : (j + 1) * 4 <= m - k + 3 := (Nat.le_div_iff_mul_le (by decide)).mp h
  rw [Nat.succ_mul, Nat.mul_comm] at h
  exact Nat.add_lt_of_lt_sub' (Nat.le_of_add_le_add_right (b := 3) h)
theorem ym (n : Nat) : ju n 16 <= n := by
 show @Bool.rec (fun _ => Nat) n 16 (Nat.ble 16 n) <= n
 cases e : Nat.ble 16 n
 ·exact Nat.le_refl _
 ·exact Nat.le_of_ble_eq_true e
theorem pO {l : AV} {n k : Nat} (h : iB l n) : (((l.drop 0).take ((ju n 16).sub 0)).stride 4 (fW ((ju n 16).sub 0) k 4) k).allI = true :=
 pY _ _ fun j hj => (h.take _ (ym n)).bB _ (zM hj)
noncomputable def oj (t : DE) (r : ab -> AV -> Bool) (o s k : DE) (sv : ab -> AV -> (AV -> ab -> R) -> R) : DS := dU (GR t (dU (xR (vW r sq o (dB (o5 zx (o5 zx (o5 D7 (dN 3) (qZ sv (dB s dE))) (dK (.int 60))) k) dE))) AZ) AZ) AZ
noncomputable def b9 : {p : (DS × Nat × (AV -> AV -> (AV -> RS) -> RS) × DE × DS × DS) × (DE × (ab -> AV -> Bool) × DE × DE × DE) // bF.1 = dU p.1.1 (dU (gN p.1.2.1 p.1.2.2.1 p.1.2.2.2.1 (oj p.2.1 p.2.2.1 p.2.2.2.1 p.2.2.2.2.1 p.2.2.2.2.2 jN) p.1.2.2.2.2.1) p.1.2.2.2.2.2)} :=
 ⟨((_, _, _, _, _, _), (_, _, _, _, _)), Eq.refl (dU _ (dU (gN _ _ _ (oj _ _ _ _ _ jN) _) _))⟩
noncomputable def BC : DS := b9.1.1.1
noncomputable def yR : Nat := b9.1.1.2.1
noncomputable def yo : AV -> AV -> (AV -> RS) -> RS := b9.1.1.2.2.1
noncomputable def zJ : DE := b9.1.1.2.2.2.1
noncomputable def wZ : DS := b9.1.1.2.2.2.2.1
noncomputable def i9 : DS := b9.1.1.2.2.2.2.2
noncomputable def kV (sv : ab -> AV -> (AV -> ab -> R) -> R) : DS := oj b9.1.2.1 b9.1.2.2.1 b9.1.2.2.2.1 b9.1.2.2.2.2.1 b9.1.2.2.2.2.2 sv
theorem ux : bF.1 = dU BC (dU (gN yR yo zJ (kV jN) wZ) i9) := b9.2
noncomputable def GS (b : Bool) (σ : ab) (l : AV) (k : AV -> ab -> R) : R := l.qx fun x => x.dP σ fun n a => R.guard b (k (.int a.vb) σ)
noncomputable def sl (n : Nat) (l a b : AV) : AV := .cons (.lst n l) (.cons (.ref 0) (.cons a (.cons b .nil)))
noncomputable def seg (n : Nat) (l : AV) (k : Nat) : AV := ((l.drop 0).take ((ju n 16).sub 0)).stride 4 (fW ((ju n 16).sub 0) k 4) k
noncomputable def Dj (n : Nat) (l : AV) (k : Nat) (f : Int) : Int := ((rI f (seg n l k).vb).emod (Int.ofNat 60)).emod (Int.ofNat (k + 2))
noncomputable def Bc (xs : List Int) : AV := @List.rec _ (fun _ => AV) .nil (fun x _ r => .cons (.int x) r) xs
noncomputable def st (xs : List Int) : ab := .cons 0 (.list (2 + xs.length) (.cons (.int (-1)) (.cons (.int 0) (Bc xs)))) .nil
theorem BZ (ih : CH) (n : Nat) (l : AV) (k : Nat) (f : Int) (σ : ab) : kV jN ih (sl n l (.int (Int.ofNat k)) (.int f)) σ = kV (GS (seg n l k).allI) ih (sl n l (.int (Int.ofNat k)) (.int f)) σ := by kernel_rfl
noncomputable abbrev uY (ih : CH) (l : AV) (k : Nat) (f : Int) (xs : List Int) : List RS := (List.range 64).map fun n => kV (GS true) ih (sl n l (.int (Int.ofNat k)) (.int f)) (st xs)
noncomputable abbrev uB (l : AV) (k : Nat) (f : Int) (xs : List Int) : List RS := cE (List.range 64) fun n => .next (sl n l (.int (Int.ofNat k)) (.int f)) (bif Nat.blt k (3 + n / 6 % 2) then st (xs ++ [Dj n l k f]) else st xs)
theorem DT : (fun ih l f => uY ih l 0 f []) = fun ih l f => uB l 0 f [] := by kernel_rfl
theorem D2 : (fun ih l f a => uY ih l 1 f [a]) = fun ih l f a => uB l 1 f [a] := by kernel_rfl
theorem Du : (fun ih l f a b => uY ih l 2 f [a, b]) = fun ih l f a b => uB l 2 f [a, b] := by kernel_rfl
theorem D4 : (fun ih l f a b c => uY ih l 3 f [a, b, c]) = fun ih l f a b c => uB l 3 f [a, b, c] := by kernel_rfl
noncomputable def iF (ih : CH) (N : Nat) : Nat -> AV -> ab -> RS := oP (.cons (.int 1) (.cons (.int 1) (.cons (.int 2) (.cons (.int 3) .nil)))) yo (kV jN ih) (wZ ih) N
noncomputable abbrev pd (ih : CH) (N j n : Nat) (l a b : AV) (σ : ab) (f : Int) : Prop := iF ih (N + 1) j (sl n l a b) σ = (kV jN ih (sl n l (.int (Int.ofNat j)) (.int f)) σ).turn (iF ih N (j + 1))
theorem Ed (ih : CH) (N n : Nat) (l a b : AV) (σ : ab) : pd ih N 0 n l a b σ 1 := by kernel_rfl
theorem Ej (ih : CH) (N n : Nat) (l a b : AV) (σ : ab) : pd ih N 1 n l a b σ 1 := by kernel_rfl
theorem Ex (ih : CH) (N n : Nat) (l a b : AV) (σ : ab) : pd ih N 2 n l a b σ 2 := by kernel_rfl
theorem BB (ih : CH) (N n : Nat) (l a b : AV) (σ : ab) : pd ih N 3 n l a b σ 3 := by kernel_rfl
theorem EO (ih : CH) (N n : Nat) (l a b : AV) (σ : ab) : iF ih (N + 1) 4 (sl n l a b) σ = .next (sl n l a b) σ := by kernel_rfl
theorem AQ (ih : CH) (n : Nat) (l a b : AV) (σ : ab) : gN yR yo zJ (kV jN) wZ ih (sl n l a b) σ = iF ih 200 0 (sl n l a b) σ := by kernel_rfl
theorem za (ih : CH) (n : Nat) (l : AV) : BC ih (.cons (.lst n l) (bR 3)) .nil = .next (sl n l .undef .undef) (st []) := by kernel_rfl
theorem zX (ih : CH) (n : Nat) (l a b : AV) (σ : ab) : i9 ih (sl n l a b) σ = .ret (.ref 0) (sl n l a b) σ := by kernel_rfl
end
section
open PySem PySem.W PyProof.Rows
set_option maxRecDepth 100000
set_option maxHeartbeats 0
theorem GA (n : Nat) (l : AV) (k : Nat) (f : Int) : ∃ x : Nat, x < k + 2 /\ Dj n l k f = Int.ofNat x :=
 have p : (0 : Int) < Int.ofNat (k + 2) := Int.ofNat_lt.mpr (Nat.succ_pos _)
 have h2 : Dj n l k f < Int.ofNat (k + 2) := Int.emod_lt_of_pos _ p
 (Int.eq_ofNat_of_zero_le (show 0 <= Dj n l k f from Int.emod_nonneg _ (Int.ne_of_gt p))).elim fun x hx => ⟨x, Int.ofNat_lt.mp (hx ▸ h2), hx⟩
section
variable {ih : CH} {n : Nat} {l : AV} (h : iB l n) (hn : n <= 63)
include h hn
theorem bd {k : Nat} {f : Int} {xs : List Int} (hB : uY ih l k f xs = uB l k f xs) : kV jN ih (sl n l (.int (Int.ofNat k)) (.int f)) (st xs) = .next (sl n l (.int (Int.ofNat k)) (.int f)) (bif Nat.blt k (3 + n / 6 % 2) then st (xs ++ [Dj n l k f]) else st xs) := by
 rw [BZ, show (seg n l k).allI = true from pO h]
 exact rowAt hB (List.mem_range.mpr (Nat.lt_succ_of_le hn))
theorem tn {N j : Nat} {f : Int} {xs : List Int} {a b : AV} (hT : ∀ a b σ, pd ih N j n l a b σ f) (hB : uY ih l j f xs = uB l j f xs) (hj : Nat.blt j (3 + n / 6 % 2) = true) :
  ∃ x, x < j + 2 /\ iF ih (N + 1) j (sl n l a b) (st xs) = iF ih N (j + 1) (sl n l (.int (Int.ofNat j)) (.int f)) (st (xs ++ [Int.ofNat x])) :=
 (GA n l j f).elim fun x hx => ⟨x, hx.1, (hT a b (st xs)).trans (by rw [bd h hn hB, hj, hx.2]; rfl)⟩
theorem yI : ∃ p ∈ (List.range 2).flatMap fun a => (List.range 3).flatMap fun b => (List.range 4).flatMap fun c => [a, b, c] :: (List.range 5).map fun d => [a, b, c, d],
  enter (gv 1 (bR 3)) bF.1 ih (.cons (.lst n l) .nil) .nil = .val (.ref 0) .nil (st (p.map Int.ofNat)) := by
 have e0 : enter (gv 1 (bR 3)) bF.1 ih (.cons (.lst n l) .nil) .nil = (RS.bind (iF ih 200 0 (sl n l .undef .undef) (st [])) fun Z σ => i9 ih Z σ).zH := by
  rw [ux]
  show (RS.bind (BC ih (.cons (.lst n l) (bR 3)) .nil) fun Z σ => RS.bind (gN yR yo zJ (kV jN) wZ ih Z σ) fun Z σ => i9 ih Z σ).zH = _
  rw [za]
  show (RS.bind (gN yR yo zJ (kV jN) wZ ih (sl n l .undef .undef) (st [])) fun Z σ => i9 ih Z σ).zH = _
  rw [AQ]
 have j3 : ∀ j, j < 3 -> Nat.blt j (3 + n / 6 % 2) = true := fun j hj => Nat.blt_eq.mpr (Nat.lt_of_lt_of_le hj (Nat.le_add_right _ _))
 obtain ⟨a, ha, e1⟩ := tn h hn (N := 199) (a := .undef) (b := .undef) (fun a b σ => Ed ih 199 n l a b σ) (congrFun (congrFun (congrFun DT ih) l) 1) (j3 0 (by decide))
 obtain ⟨b, hb, e2⟩ := tn h hn (N := 198) (a := .int (Int.ofNat 0)) (b := .int 1) (fun a b σ => Ej ih 198 n l a b σ) (congrFun (congrFun (congrFun (congrFun D2 ih) l) 1) (Int.ofNat a)) (j3 1 (by decide))
 obtain ⟨c, hc, e3⟩ := tn h hn (N := 197) (a := .int (Int.ofNat 1)) (b := .int 1) (fun a b σ => Ex ih 197 n l a b σ) (congrFun (congrFun (congrFun (congrFun (congrFun Du ih) l) 2) (Int.ofNat a)) (Int.ofNat b)) (j3 2 (by decide))
 have hB := congrFun (congrFun (congrFun (congrFun (congrFun (congrFun D4 ih) l) 3) (Int.ofNat a)) (Int.ofNat b)) (Int.ofNat c)
 have fin : ∀ {p : List Nat} {u v : AV}, iF ih 200 0 (sl n l .undef .undef) (st []) = iF ih 196 4 (sl n l u v) (st (p.map Int.ofNat)) -> enter (gv 1 (bR 3)) bF.1 ih (.cons (.lst n l) .nil) .nil = .val (.ref 0) .nil (st (p.map Int.ofNat)) := fun {p u v} e => by
  rw [e0, e, EO]
  show (i9 ih (sl n l u v) (st (p.map Int.ofNat))).zH = _
  rw [zX]
  rfl
 have m : ∀ q, q ∈ ([a, b, c] :: (List.range 5).map fun d => [a, b, c, d]) -> q ∈ (List.range 2).flatMap fun a => (List.range 3).flatMap fun b => (List.range 4).flatMap fun c => [a, b, c] :: (List.range 5).map fun d => [a, b, c, d] := fun q hq =>
  List.mem_flatMap.mpr ⟨a, List.mem_range.mpr ha, List.mem_flatMap.mpr ⟨b, List.mem_range.mpr hb, List.mem_flatMap.mpr ⟨c, List.mem_range.mpr hc, hq⟩⟩⟩
 cases e : Nat.blt 3 (3 + n / 6 % 2) with
 | false =>
  refine ⟨[a, b, c], m _ (.head _), fin (u := .int (Int.ofNat 3)) (v := .int 3) (e1.trans (e2.trans (e3.trans ((BB ih 196 n l _ _ _).trans ?_))))⟩
  show RS.turn (kV jN ih (sl n l (.int (Int.ofNat 3)) (.int 3)) (st [Int.ofNat a, Int.ofNat b, Int.ofNat c])) _ = _
  rw [bd h hn hB, e]
  rfl
 | true =>
  obtain ⟨d, hd, e4⟩ := tn h hn (N := 196) (a := .int (Int.ofNat 2)) (b := .int 2) (fun a b σ => BB ih 196 n l a b σ) hB e
  exact ⟨[a, b, c, d], m _ (.tail _ (List.mem_map.mpr ⟨d, List.mem_range.mpr hd, rfl⟩)), fin (e1.trans (e2.trans (e3.trans e4)))⟩
end
end
section
open PySem PySem.W PyProof.Rows
set_option maxRecDepth 100000
set_option maxHeartbeats 0
noncomputable def rO : List (List Nat) := (List.range 2).flatMap fun a => (List.range 3).flatMap fun b => (List.range 4).flatMap fun c => [a, b, c] :: (List.range 5).map fun d => [a, b, c, d]
noncomputable def D6 (p : List Nat) : AV := .lst (2 + (p.map Int.ofNat).length) (.cons (.int (-1)) (.cons (.int 0) (Bc (p.map Int.ofNat))))
noncomputable def CT (x y : Nat × Nat) : Nat × Nat := (x.1 + y.1, x.2 + 256 ^ x.1 * y.2)
noncomputable def G8 (p : List Nat) (f : Nat) : Nat -> Nat × Nat := @Nat.rec (fun _ => Nat -> Nat × Nat) (fun _ => (0, 0)) (fun _ tx k => CT (((List.range (2 + p.length)).tail).foldl (fun r j => bif Nat.beq ((0 :: 0 :: p).getD j 9) k then CT r (CT (tx j) (1, 44)) else r) (1, 91)) (1, 93)) f
noncomputable def t8 (p : List Nat) : Nat × Nat := G8 p 7 0
noncomputable def Gj {β : Type} (n : Nat) (k : Nat -> β) : β := @Nat.rec (fun _ => β) (k 0) (fun m _ => k (Nat.succ m)) n
theorem wt {β : Type} (n : Nat) (k : Nat -> β) : Gj n k = k n := by cases n <;> rfl
noncomputable def Gl (x y : Nat × Nat) : Bool := Nat.beq x.1 y.1 && Nat.beq x.2 y.2
theorem BJ {x y : Nat × Nat} (h : Gl x y = true) : x = y :=
 have g := Bool.and_eq_true_iff.mp h
 Prod.ext (Nat.eq_of_beq_eq_true g.1) (Nat.eq_of_beq_eq_true g.2)
noncomputable def jk : List (Nat × Nat) := (rO.map t8).foldr (fun x r => bif r.any (Gl x) then r else x :: r) []
noncomputable def ev (B : Nat × Nat) (c : AV -> Bool) (p : AV) (n : Nat) (l : AV) : R := Gj B.1 fun a => Gj B.2 fun b => Fs (.str a b) (tG c p (qG (gB 39))) n l
noncomputable abbrev ce (a : Nat) : Prop := (fun c p n l => ((jk.drop a).take 4).map fun B => ev B c p n l) = fun c p n l => cE ((jk.drop a).take 4) fun _ => .val (.bool true) .nil .nil
noncomputable abbrev c8 (a : Nat) : Prop := ((rO.drop a).take 48).map (fun p => qG (gB 39) 8 (.cons (.int 0) (.cons (D6 p) .nil)) .nil) = cE ((rO.drop a).take 48) fun p => .val (.str (t8 p).1 (t8 p).2) .nil .nil
theorem Ew : Nat.ble jk.length 56 = true := by kernel_rfl
theorem Hm : c8 0 := by kernel_rfl
theorem Hf : c8 48 := by kernel_rfl
theorem Hw : c8 96 := by kernel_rfl
theorem xp : (rO.all fun p => (D6 p).fz (st (p.map Int.ofNat)) (.ref 0) && jk.any (Gl (t8 p))) = true := by kernel_rfl
theorem Ac (k : Nat) (args : AV) : gB (k + 1) 7 args .nil = enter (gv 1 (bR 3)) bF.1 (gB k) args .nil := by kernel_rfl
theorem Ha : ce 0 := by kernel_rfl
theorem HH : ce 4 := by kernel_rfl
theorem Hv : ce 8 := by kernel_rfl
theorem Hb : ce 12 := by kernel_rfl
theorem Hu : ce 16 := by kernel_rfl
theorem HD : ce 20 := by kernel_rfl
theorem Ho : ce 24 := by kernel_rfl
theorem HI : ce 28 := by kernel_rfl
theorem Hj : ce 32 := by kernel_rfl
theorem Hi : ce 36 := by kernel_rfl
theorem F2 : ce 40 := by kernel_rfl
theorem FH : ce 44 := by kernel_rfl
theorem FI : ce 48 := by kernel_rfl
theorem Gx : ce 52 := by kernel_rfl
end
section
open PySem PySem.W PyProof.Rows
set_option maxRecDepth 100000
set_option maxHeartbeats 0
noncomputable def W0 (h : Heap) : Gh := fun b => @Bool.rec (fun _ => cn) (@Option.rec Obj (fun _ => cn) .free (fun o => .az o) (h.get? b)) .tab (Nat.beq b D.lam.tab)
section
variable {h : Heap} {b : Addr}
theorem nf : W0 h D.lam.tab = .tab := by unfold W0; rw [Nat.beq_refl]
theorem A5 (e : b ≠ D.lam.tab) : W0 h b = @Option.rec Obj (fun _ => cn) .free (fun o => .az o) (h.get? b) := by
 unfold W0
 rw [Bool.eq_false_iff.mpr fun q => e (Nat.eq_of_beq_eq_true q)]
theorem jQ {o : Obj} (n : b ≠ D.lam.tab) (e : h.get? b = some o) : W0 h b = .az o := (A5 n).trans (congrArg (@Option.rec Obj (fun _ => cn) .free (fun o => .az o)) e)
theorem wQ : b = D.lam.tab \/ (∃ o, h.get? b = some o /\ W0 h b = .az o) \/ W0 h b = .free :=
 (Classical.em (b = D.lam.tab)).imp id fun n => @Option.rec Obj (fun x => h.get? b = x -> (∃ o, h.get? b = some o /\ W0 h b = .az o) \/ W0 h b = .free) (fun e => .inr ((A5 n).trans (congrArg (@Option.rec Obj (fun _ => cn) .free (fun o => .az o)) e))) (fun o e => .inl ⟨o, e, jQ n e⟩) (h.get? b) rfl
theorem C3 {o : Obj} (e : W0 h b = .az o) : b ≠ D.lam.tab /\ h.get? b = some o :=
 wQ.elim (fun q => by rw [q, nf] at e; exact cn.noConfusion e) fun x => x.elim (fun h => h.elim fun o h => ⟨fun q => by rw [q, nf] at e; exact cn.noConfusion e, cn.noConfusion (h.2.symm.trans e) fun e => h.1.trans (congrArg some e)⟩) fun h => cn.noConfusion (h.symm.trans e)
theorem o4 {l : cn} (e : W0 h b = l) (h1 : ∀ o, l ≠ .az o) (h2 : l ≠ .free) (h3 : l ≠ .tab) : False :=
 wQ.elim (fun q => h3 (by rw [<- e, q]; exact nf)) fun x => x.elim (fun h => h.elim fun o h => h1 o (e.symm.trans h.2)) fun h => h2 (e.symm.trans h)
end
theorem Ct : D.B.get? D.lam.tab = none := jS (P := fun D => D.B.get? D.lam.tab = none) fun w Y Y1 Z os p1 _ _ _ _ => by
 show (hX (hole Y) 732).get? 714 = none
 rw [gI (hole Y) 732 (by decide)]
 rfl
theorem FE {s : Shared} (hk : ∀ b o, D.B.get? b = some o -> s.heap.get? b = some o) (ht : s.heap.get? D.lam.tab = some (tabObj #[])) (hg : s.gens = D.gs) (hos : s.os = D.os) : Inv (W0 s.heap) .nil s where
 base b o e := jQ (fun q => by rw [q, Ct] at e; exact nomatch e) (hk b o e)
 az b o e := (C3 e).2
 kept b o e := (o4 e (fun _ x => nomatch x) (fun x => nomatch x) (fun x => nomatch x)).elim
 own b e := (o4 e (fun _ x => nomatch x) (fun x => nomatch x) (fun x => nomatch x)).elim
 ex b e := wQ.elim (fun q => ⟨_, q ▸ ht⟩) fun x => x.elim (fun h => h.elim fun o h => ⟨o, h.1⟩) fun h => absurd h e
 bu i o h := nomatch h
 inj i b c h1 h2 := (o4 h1 (fun _ x => nomatch x) (fun x => nomatch x) (fun x => nomatch x)).elim
 nxt i b h := h.elim (fun h => (o4 h (fun _ x => nomatch x) (fun x => nomatch x) (fun x => nomatch x)).elim) fun h => (o4 h (fun _ x => nomatch x) (fun x => nomatch x) (fun x => nomatch x)).elim
 gens := hg
 os := hos
 tab := ⟨nf, _, ht, .inl rfl⟩
theorem sj {W : Gh} : ∀ (xs : List Value), (∀ v ∈ xs, ∃ i t, v = .int i t) -> ∃ l, RL W l xs /\ iB l xs.length
 | [], _ => ⟨.nil, .nil, .nil⟩
 | v :: r, h => (h v List.mem_cons_self).elim fun i hi => hi.elim fun t e => (sj r fun v hv => h v (List.mem_cons_of_mem _ hv)).elim fun l hl => ⟨.cons (.int i) l, .cons _ _ _ _ (e ▸ .int i t) hl.1, .cons _ _ _ hl.2⟩
theorem CS (ev : ∀ n l, n <= 63 -> iB l n -> gS 480 15 (.cons (.lst n l) .nil) (.bool true)) : jv D := fun s a items ep hk ht hg hos ha hi hn =>
 (sj (W := W0 s.heap) items.toList hi).elim fun l hl => by
 have r : cP 480 callerA := ⟨by decide, by decide⟩
 have na : a ≠ D.lam.tab := fun q => by rw [q, ht] at ha; exact nomatch ha
 have c := ev items.size l hn (Array.length_toList (xs := items) ▸ hl.2) callerA (W0 s.heap) s (.ref 731) [.ref a] [] (.inl ⟨rfl, by rw [fU 15 _ rfl]⟩) r rfl ⟨[], rfl, fun _ h => nomatch h⟩ (FE hk ht hg hos) (.cons _ _ _ _ (.lst _ _ a items ep (jQ na ha) rfl (Nat.le_trans hn (by decide)) hl.1) .nil)
 rw [fU 15 _ rfl] at c
 refine codeAny_mono (c rfl) fun r s' h => h.elim fun x h => m6 h.2 fun W' w' I' _ rx => ?_
 cases rx
 refine ⟨h.1, fun b o e => (Classical.em (b = D.lam.tab)).elim (fun q => .inr ⟨q, ?_⟩) fun q => .inl (I'.az b o (w'.az (jQ q e))), I'.gens, I'.os⟩
 obtain ⟨_, ps, e1, _⟩ := I'.tab
 exact ⟨ps, q ▸ e1⟩
end
section
open PySem PySem.W
set_option maxRecDepth 100000
set_option maxHeartbeats 0
noncomputable abbrev lw : OpenLaw := PySem.Challenge.rw_in0143_02
theorem Hl : sreFenced pw.main = true := (congrFun Fast.te11788848310118352699 _).trans (by kernel_rfl : Fast.tw11788848310118352699 pw.main = true)
theorem HL : ((moduleNames pw.main.body).isEmpty || lookedIntoSs (moduleNames pw.main.body) pw.main.body) = true := by kernel_rfl
theorem G0 : namesResolve pw = true := (congrFun Fast.te8377067652309620493 _).trans (by kernel_rfl : Fast.tw8377067652309620493 pw = true)
theorem G5 : pw.boundNames.all (fun n => !worldNames.contains n) = true := by kernel_rfl
theorem Hc : Fast.tw8326940854005059898 { strict := !true, foot := none, bare := [] } pw.main.body = true := by kernel_rfl
theorem GY : (["vars", "dir", "locals"] : List Str).filter (Fast.tw13343964577679436407 pw pw.main.body) = [] := by kernel_rfl
theorem HE {x : Bool} {y : List Str} (hx : x = true) (hy : y = []) : noRoadLSs { strict := !x, foot := none, bare := y } pw.main.body = true := by
 rw [hx, hy, Fast.te8326940854005059898]; exact Hc
theorem Hp : namesMeet pw pw.main.body (fun _ n => attrL n) = true := by rw [Fast.te17119622794617984870]; kernel_rfl
theorem HM : looksOpen pw = true := look_both (look_both (look_both (look_both (look_both Hl HL) G0) G5) (HE (by kernel_rfl) (by rw [Fast.te13343964577679436407]; exact GY))) Hp
theorem HK : lw.bound'.all (fun n => !builtinNamed n || lw.about == [n] || !lw.reads n) = true := by kernel_rfl
theorem Hr : (!lw.writes || (lw.prog.main.body.flatMap importedNames).all fun n => !lw.reads n) = true := by kernel_rfl
theorem HA : (lw.prog.main.body.flatMap importedNames).all (fun n => !lw.reads n || (drawsOf n lw.prog.main.body).all fun mn => mn.2 != ("attrgetter" : Str) && mn.2 != ("methodcaller" : Str)) = true := by kernel_rfl
theorem HF : namesMeet lw.prog lw.above (fun _ n => !lw.own.contains n) = true := by kernel_rfl
theorem xA : lw.row.wellSaid = true := by
 refine look_both (look_both (look_both (look_both (look_both (look_both (look_both (look_both (look_both (look_both (look_both (look_both (look_both (look_both (look_both HM ?_) ?_) ?_) ?_) ?_) ?_) ?_) ?_) ?_) ?_) ?_) ?_) ?_) ?_) ?_ <;> kernel_rfl
theorem FN : lw.wellSaid = true := by
 refine look_both (look_both (look_both (look_both (look_both (look_both (look_both (look_both (look_both (look_both (look_both (look_both (look_both (look_both (look_both (look_both (look_both (look_both xA ?_) ?_) ?_) ?_) ?_) ?_) ?_) ?_) ?_) HK) Hr) HA) ?_) ?_) ?_) ?_) HF) ?_ <;> kernel_rfl
end
section
open PySem PySem.W PyProof.Rows
set_option maxRecDepth 100000
set_option maxHeartbeats 0
noncomputable def cl : ClaimW := PySem.Challenge.rw_in0143_02.row.toRowW.claim
theorem Cp : PySem.Challenge.pw_in0143_02.theDef "law" = some (jq gK, gq gK, (CO gK).sc) := by kernel_rfl
theorem Cz {d : WData} (h : WShape.has [] d .int = true) : ∃ i, d = .int i := by
 cases d <;> first | exact ⟨_, rfl⟩ | exact Bool.noConfusion h
theorem y7 (xs : List WData) (h : WShape.hasItems [] xs .int = true) : ∀ d ∈ xs, ∃ i, d = .int i := by
 induction xs with
 | nil => exact fun d hd => nomatch hd
 | cons x r ih =>
  have h : (WShape.has [] x .int && WShape.hasItems [] r .int) = true := h
  have g := Bool.and_eq_true_iff.mp h
  exact fun d hd => (List.mem_cons.mp hd).elim (fun e => e ▸ Cz g.1) (ih g.2 d)
theorem has_list {xs : List WData} : WShape.has [] (.list xs) (.list .int) = WShape.hasItems [] xs .int := by
 simp [WShape.has, WShape.arms]
theorem As {d : WData} (h : WShape.has [] d (.list .int) = true) : ∃ xs, d = .list xs /\ WShape.hasItems [] xs .int = true := by
 cases d <;> first | exact Bool.noConfusion h | exact ⟨_, rfl, has_list ▸ h⟩
theorem CV (xs : List WData) : cl.pre [.list xs] = (WShape.hasAll [] [.list xs] [.list .int] && WTm.holds [] ((WTm.lit (.bool (decide ((63 : Int) < Int.ofNat xs.length)))).not.and (.lit (.bool true))) { args := [.list xs] }) := by kernel_rfl
theorem yN {args : List WData} (h : cl.pre args = true) : WShape.hasAll [] args [.list .int] = true /\ ∃ xs, args = [.list xs] /\ (∀ d ∈ xs, ∃ i, d = .int i) /\ xs.length <= 63 := by
 have h1 : WShape.hasAll [] args [.list .int] = true := (Bool.and_eq_true_iff.mp h).1
 refine ⟨h1, ?_⟩
 match args, h1, h with
 | [], h1, _ => exact nomatch h1
 | [d], h1, h =>
  have h1 : (WShape.has [] d (.list .int) && WShape.hasAll [] [] []) = true := h1
  refine (As (Bool.and_eq_true_iff.mp h1).1).elim fun xs hx => ?_
  obtain ⟨rfl, h3⟩ := hx
  refine ⟨xs, rfl, y7 xs h3, Nat.le_of_not_lt fun hlt => ?_⟩
  rw [CV, decide_eq_true (show (63 : Int) < Int.ofNat xs.length from Int.ofNat_lt.mpr hlt)] at h
  exact Bool.noConfusion (Bool.and_eq_true_iff.mp h).2
 | d :: e :: r, h1, _ => exact absurd (show (WShape.has [] d (.list .int) && false) = true from h1) (by rw [Bool.and_false]; exact Bool.false_ne_true)
theorem uV {P : Params} {h : Heap} (xs : List WData) : ∀ {vs : List Value}, WellAll P h vs xs -> (∀ d ∈ xs, ∃ i, d = .int i) -> vs.length = xs.length /\ ∀ v ∈ vs, ∃ i t, v = .int i t := by
 induction xs with
 | nil => exact fun W _ => by cases W; exact ⟨rfl, fun v hv => nomatch hv⟩
 | cons x r ih =>
  intro vs W hx
  obtain ⟨v, vs', rfl, W1, W2⟩ := wellAll_cons_inv W
  obtain ⟨i, rfl⟩ := hx x (.head _)
  cases W1
  have g := ih W2 fun d hd => hx d (.tail _ hd)
  exact ⟨congrArg Nat.succ g.1, fun u hu => (List.mem_cons.mp hu).elim (fun e => ⟨_, _, e⟩) (g.2 u)⟩
section
variable {H : Heap} (hl : BI H = Cm H)
include hl
theorem A9 : H.isNs mainGlobals = true := (Prod.mk.inj (hl : (_, _) = (_, _))).1
theorem wU : (H.nsMap mainGlobals "law", ((fdOf (au H 731)).name, (fdOf (au H 731)).qualname, (fdOf (au H 731)).kwdefaults), yd H nv, H.get? 714, (H.get? 718, (au H 718).cls, (au H 718).data, (nA (au H 718))[11]?)) = (some (Value.ref 731), (("law" : Str), ("law" : Str), Value.none), vH H nv, some (tabObj #[]), (some (au H 718), Value.type "code", Data.fields (nA (au H 718)), some (Value.ref 714))) := (Prod.mk.inj (hl : (_, _) = (_, _))).2
theorem Bk : H.nsMap mainGlobals "law" = some (.ref 731) := (Prod.mk.inj (wU hl)).1
theorem Ah : isTheDefsW PySem.Challenge.pw_in0143_02 H (Str.ofString "law") :=
 have q := Prod.mk.inj (Prod.mk.inj (wU hl)).2
 have e := (Prod.mk.inj q.2).1
 have n1 := Prod.mk.inj q.1
 have n2 := Prod.mk.inj n1.2
 ⟨731, au H 731, fdOf (au H 731), _, _, _, (Pin.globalOf_eq (A9 hl) _).trans (Bk hl), congrArg fN.get e, congrArg fN.dat e, Cp, n1.1, n2.1, congrArg fN.prm e, congrArg fN.body e, congrArg fN.sc e, congrArg fN.gl e, congrArg fN.clo e, congrArg fN.bi e,
  .inl ⟨rfl, congrArg fN.df e⟩, [], rfl, .inl ⟨rfl, n2.2⟩⟩
theorem tE : H.get? 714 = some (tabObj #[]) /\ ∃ o vs, H.get? 718 = some o /\ o.cls = .type "code" /\ o.data = .fields vs /\ vs[11]? = some (.ref 714) :=
 have q := Prod.mk.inj (Prod.mk.inj (Prod.mk.inj (Prod.mk.inj (wU hl)).2).2).2
 have q2 := Prod.mk.inj q.2
 have q3 := Prod.mk.inj q2.2
 have q4 := Prod.mk.inj q3.2
 ⟨q.1, _, _, q2.1, q3.1, q4.1, q4.2⟩
theorem Av {h h' : Heap} (hk : ∀ b o, H.get? b = some o -> h.get? b = some o) (k : ∀ b o, h.get? b = some o -> h'.get? b = some o \/ (b = 714 /\ ∃ ps, h'.get? b = some (tabObj ps))) (b : Addr) (o : Obj) (e : h.get? b = some o) : asItWas h h' b o :=
 (k b o e).elim .inl fun q => by
  obtain ⟨rfl, ps, q⟩ := q
  obtain ⟨e1, c, vs, e2, e3, e4, e5⟩ := tE hl
  obtain rfl := Option.some.inj ((hk _ _ e1).symm.trans e)
  exact .inr (.inl ⟨⟨718, c, vs, hk _ _ e2, e3, e4, e5⟩, rfl, #[], ps, rfl, q.trans (congrArg (fun x => some (tabObj x)) Array.empty_append.symm)⟩)
theorem v7 {w : World} {Y : Nat -> Obj} {os : OsState} (eH : H = hX Y 732) (hlf : H.life = {}) (hc : jv (Cr w Y os)) {free : Addr -> Prop} {gens : Prop} {kept : Heap -> Prop} (hk : ∀ h, kept h) : cl.CallFrom (callStub "law") w free gens kept ⟨H, ax, {}, 2487, os⟩ := by
 refine ClaimW.callFrom_of_specN (by show H.life.registered = [] /\ H.life.counting = false; rw [hlf]; exact ⟨rfl, rfl⟩) (show leftWithCleanup ax = false by decide +kernel) fun args hpre hlay ord hord => ?_
 have ha := yN hpre
 refine af ha.2 fun xs e hxs hlen => ?_
 subst e
 refine (Option.isSome_iff_exists.mp (layAllW_isSome (P := w.params) (ord := ord) (R := []) (cl := classAt H) (fun c h => by cases h) [.list xs] [.list .int] ⟨H, ax, {}, 2487, os⟩ ha.1)).elim fun p hlaid => ?_
 have hal := layAllW_rest _ _ _ hlaid
 have hkp := layAllW_keeps _ _ _ hlaid
 refine af (reads_layAllW hord _ _ _ hlaid hlay p.2.heap (fun _ _ e => e)) fun as hrd hin hold => ?_
 obtain ⟨v, vs', e1, W1, W2⟩ := wellAll_cons_inv (well_layAllW hord _ _ _ hlaid p.2.heap fun _ _ e => e)
 cases W2
 cases W1 with
 | @list a us _ ga Wi =>
 have g := uV _ Wi hxs
 refine ⟨p.1, p.2, hlaid, wpAny_bind (wpAny_nsGet ((Heap.Ns.of_isNs (A9 hl)).keeps hkp) ?_)⟩
 rw [Bk hl, e1]
 refine wpAny_bind (wpAny_call (codeAny_mono (hc { p.2 with gens := #[] } a us.toArray 0 (fun b o e => hkp b o ?_) (hkp _ _ (tE hl).1) rfl hal.2.2.1 ga g.2 (show us.length <= 63 from g.1.symm ▸ hlen)) fun r s' hr => ?_))
 ·rw [eH]
  have e : (hX (hole Y) 732).get? b = some o := e
  have lt := Heap.lt_size e
  have lt : b < 732 := (fg (hole Y) 732) ▸ lt
  rw [gI _ _ lt] at e ⊢
  rw [<- e]
  by_cases h7 : b = 714
  ·subst h7; exact nomatch e
  ·show alive (Y b) = alive (bif Nat.beq b 714 then _ else Y b)
   rw [Bool.eq_false_iff.mpr fun q => h7 (Nat.eq_of_beq_eq_true q)]; rfl
 obtain ⟨e2, k1, k2, k3⟩ := hr
 subst e2
 have old := Av hl hkp k1
 exact wpAny_pure ⟨_, rfl, .inl ⟨_, rfl, fun _ => rfl, ⟨.bool true, [.list xs], [], as, .bool true, (e1 ▸ hrd).keepsK (fun b o e hc => (old b o e).kept hc), by kernel_rfl, fun _ => ⟨List.nodup_nil, (fun _ h => nomatch h), fun _ h => nomatch h⟩, fun _ _ => ident_freeW (r := PySem.Challenge.rw_in0143_02.row.toRowW) rfl rfl rfl _ _⟩,
  (fun i hi => nomatch (hi : none = some i)), (fun b o hb _ _ => old b o hb), fun i hi => nomatch (hi : i ∈ ([] : List Nat))⟩, k3, k2, hk _⟩
end
theorem u5 (hl : ∀ D', Good D' -> jv D') : PySem.Challenge.rw_in0143_02.Holds := by
 refine ⟨FN, ?_⟩
 refine ⟨xA, ⟨[.list []], by decide +kernel, by decide +kernel⟩, ⟨⟨rfl, rfl, rfl, rfl, rfl, by kernel_rfl⟩, by kernel_rfl, rfl⟩, ⟨[.list []], by decide +kernel, by decide +kernel⟩, fun w => ?_⟩
 obtain ⟨s, s₀, Z, hA, hf, hs₀, T, al⟩ := opened w
 refine ⟨⟨s, hA⟩, fun s' hs' => ?_⟩
 have es := AfterImport.unique hs' hA
 subst es
 obtain ⟨Y, Y1, p1, hS, hk, hH, hT⟩ := topRun w s₀.os T al
 have g := Good.mk w Y Y1 Z s₀.os p1 hS hH hk al
 have e := EJ hH
 refine ⟨s₀, hf, by rw [hs₀]; rfl, sX Y 732 ax 2487 s₀.os, by rw [<- hs₀] at hT; exact hT, fun n hn => ?_, fun x hx => (nomatch hx), fun x hx => (nomatch hx), v7 e rfl rfl (hl _ g) fun _ q => absurd q (by decide)⟩
 rw [show n = Str.ofString "law" from List.mem_singleton.mp hn]
 exact Ah e
end
section
open PySem PySem.W PyProof.Rows
set_option maxRecDepth 100000
set_option maxHeartbeats 0
theorem cut {α : Type} {P : α -> Prop} {L : List α} {a k : Nat} (h : ∀ x ∈ (L.drop a).take k, P x) (h2 : ∀ x ∈ L.drop (a + k), P x) : ∀ x ∈ L.drop a, P x := fun x hx => by
 rw [<- List.take_append_drop k (L.drop a), List.drop_drop] at hx
 exact (List.mem_append.mp hx).elim (h x) (h2 x)
theorem Dt {α : Type} {P : α -> Prop} {L : List α} {n : Nat} (h : Nat.ble L.length n = true) : ∀ x ∈ L.drop n, P x := fun x hx => by
 rw [List.drop_eq_nil_of_le (Nat.le_of_ble_eq_true h)] at hx
 exact nomatch hx
noncomputable abbrev GV (B : Nat × Nat) : Prop := ∀ c p n l, ev B c p n l = .val (.bool true) .nil .nil
theorem xe {a : Nat} (h : ce a) : ∀ B ∈ (jk.drop a).take 4, GV B := fun B hB c p n l => rowAt (congrFun (congrFun (congrFun (congrFun h c) p) n) l) hB
theorem GG : ∀ B ∈ jk.drop 0, GV B := cut (xe Ha) (cut (xe HH) (cut (xe Hv) (cut (xe Hb) (cut (xe Hu) (cut (xe HD) (cut (xe Ho) (cut (xe HI) (cut (xe Hj) (cut (xe Hi) (cut (xe F2) (cut (xe FH) (cut (xe FI) (cut (xe Gx) (Dt Ew))))))))))))))
noncomputable abbrev P8 (p : List Nat) : Prop := qG (gB 39) 8 (.cons (.int 0) (.cons (D6 p) .nil)) .nil = .val (.str (t8 p).1 (t8 p).2) .nil .nil
theorem x8 {a : Nat} (h : c8 a) : ∀ p ∈ (rO.drop a).take 48, P8 p := fun p hp => rowAt h hp
theorem Ef : Nat.ble rO.length 144 = true := by kernel_rfl
theorem Gg : ∀ p ∈ rO.drop 0, P8 p := cut (x8 Hm) (cut (x8 Hf) (cut (x8 Hw) (Dt Ef)))
theorem BK (n : Nat) (l : AV) (hn : n <= 63) (h : iB l n) : gS 480 15 (.cons (.lst n l) .nil) (.bool true) :=
 (yI h hn (ih := gB 38)).elim fun p hp => by
  have g := Bool.and_eq_true_iff.mp (List.all_eq_true.mp xp p hp.1)
  obtain ⟨B, hB, e⟩ := List.any_eq_true.mp g.2
  have e := BJ e
  have ht : gS 468 7 (.cons (.lst n l) .nil) (D6 p) := mQ C4 (vZ facts 39) ((Ac 38 _).trans hp.2) g.1
  refine oq (k := 39) ht (Gg p hp.1) fun c => ?_
  have q := GG B hB c (D6 p) n l
  rw [<- e] at q
  unfold ev at q
  rw [wt, wt] at q
  exact q
theorem DU : PySem.Challenge.rw_in0143_02.Holds := u5 (Cs.2 (CS BK))
end
end Mine
theorem PySem.Challenge.cw_in0143_02_holds : PySem.Challenge.rw_in0143_02.Holds :=
  Mine.DU

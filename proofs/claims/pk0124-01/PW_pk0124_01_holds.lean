import PyProof.Rows.All
import Wide.All
import OpenK.AllK
import Wide.FinOn
import PySem.Challenge.RW_pk0124_01
open PySem PySem.W PySem.W.X PyProof.Rows
set_option Elab.async false
set_option maxRecDepth 100000
set_option maxHeartbeats 8000000
set_option linter.unusedVariables false
namespace Mine
variable (w : World) (p : Program) (loose : List Str) (mean : ExcName → Option Value) (mg mb : Str → Option Value) (base : Heap) (dp un : Nat) (gd : Option (List Code)) (cn : Str) (cs : Scope) (a : Addr) (ccd : Value) (cl : List (Str × Addr)) (outer : List Env)
local macro_rules | `(tactic| walk_at $s:str) => `(tactic| k_extra $s)
section
noncomputable def twin.tw15222742538046561741 : Program := PySem.Challenge.pw_pk0124_01
theorem twin.te15222742538046561741 : PySem.Challenge.pw_pk0124_01 = twin.tw15222742538046561741 := rfl
set_option Elab.async true in
theorem twin : (PySem.Challenge.pw_pk0124_01.main.body.isEmpty || true) = true := by k_qdec
theorem twin_done : True := trivial
open_top hd for PySem.Challenge.rw_pk0124_01
end
section
theorem ex1 {α0 : Sort _} {p : α0 → Prop} {G : Prop} (h : ∃ x0, p x0) (k : ∀ x0, p x0 → G) : G := h.elim k
theorem ex2 {α0 α1 : Sort _} {p : α0 → α1 → Prop} {G : Prop} (h : ∃ x0 x1, p x0 x1) (k : ∀ x0 x1, p x0 x1 → G) : G := h.elim fun x0 h => ex1 h (k x0)
theorem ex3 {α0 α1 α2 : Sort _} {p : α0 → α1 → α2 → Prop} {G : Prop} (h : ∃ x0 x1 x2, p x0 x1 x2) (k : ∀ x0 x1 x2, p x0 x1 x2 → G) : G := h.elim fun x0 h => ex2 h (k x0)
theorem ex4 {α0 α1 α2 α3 : Sort _} {p : α0 → α1 → α2 → α3 → Prop} {G : Prop} (h : ∃ x0 x1 x2 x3, p x0 x1 x2 x3) (k : ∀ x0 x1 x2 x3, p x0 x1 x2 x3 → G) : G := h.elim fun x0 h => ex3 h (k x0)
theorem ex5 {α0 α1 α2 α3 α4 : Sort _} {p : α0 → α1 → α2 → α3 → α4 → Prop} {G : Prop} (h : ∃ x0 x1 x2 x3 x4, p x0 x1 x2 x3 x4) (k : ∀ x0 x1 x2 x3 x4, p x0 x1 x2 x3 x4 → G) : G := h.elim fun x0 h => ex4 h (k x0)
theorem ex6 {α0 α1 α2 α3 α4 α5 : Sort _} {p : α0 → α1 → α2 → α3 → α4 → α5 → Prop} {G : Prop} (h : ∃ x0 x1 x2 x3 x4 x5, p x0 x1 x2 x3 x4 x5) (k : ∀ x0 x1 x2 x3 x4 x5, p x0 x1 x2 x3 x4 x5 → G) : G := h.elim fun x0 h => ex5 h (k x0)
theorem ex7 {α0 α1 α2 α3 α4 α5 α6 : Sort _} {p : α0 → α1 → α2 → α3 → α4 → α5 → α6 → Prop} {G : Prop} (h : ∃ x0 x1 x2 x3 x4 x5 x6, p x0 x1 x2 x3 x4 x5 x6) (k : ∀ x0 x1 x2 x3 x4 x5 x6, p x0 x1 x2 x3 x4 x5 x6 → G) : G := h.elim fun x0 h => ex6 h (k x0)
theorem ex8 {α0 α1 α2 α3 α4 α5 α6 α7 : Sort _} {p : α0 → α1 → α2 → α3 → α4 → α5 → α6 → α7 → Prop} {G : Prop} (h : ∃ x0 x1 x2 x3 x4 x5 x6 x7, p x0 x1 x2 x3 x4 x5 x6 x7) (k : ∀ x0 x1 x2 x3 x4 x5 x6 x7, p x0 x1 x2 x3 x4 x5 x6 x7 → G) : G := h.elim fun x0 h => ex7 h (k x0)
theorem ex9 {α0 α1 α2 α3 α4 α5 α6 α7 α8 : Sort _} {p : α0 → α1 → α2 → α3 → α4 → α5 → α6 → α7 → α8 → Prop} {G : Prop} (h : ∃ x0 x1 x2 x3 x4 x5 x6 x7 x8, p x0 x1 x2 x3 x4 x5 x6 x7 x8) (k : ∀ x0 x1 x2 x3 x4 x5 x6 x7 x8, p x0 x1 x2 x3 x4 x5 x6 x7 x8 → G) : G := h.elim fun x0 h => ex8 h (k x0)
theorem ex12 {α0 α1 α2 α3 α4 α5 α6 α7 α8 α9 α10 α11 : Sort _} {p : α0 → α1 → α2 → α3 → α4 → α5 → α6 → α7 → α8 → α9 → α10 → α11 → Prop} {G : Prop} (h : ∃ x0 x1 x2 x3 x4 x5 x6 x7 x8 x9 x10 x11, p x0 x1 x2 x3 x4 x5 x6 x7 x8 x9 x10 x11) (k : ∀ x0 x1 x2 x3 x4 x5 x6 x7 x8 x9 x10 x11, p x0 x1 x2 x3 x4 x5 x6 x7 x8 x9 x10 x11 → G) : G := h.elim fun x0 h => h.elim fun x1 h => h.elim fun x2 h => ex9 h (k x0 x1 x2)
theorem an2 {a0 a1 G : Prop} (h : a0 ∧ a1) (k : a0 → a1 → G) : G := k h.1 h.2
theorem an3 {a0 a1 a2 G : Prop} (h : a0 ∧ a1 ∧ a2) (k : a0 → a1 → a2 → G) : G := an2 h.2 (k h.1)
theorem an4 {a0 a1 a2 a3 G : Prop} (h : a0 ∧ a1 ∧ a2 ∧ a3) (k : a0 → a1 → a2 → a3 → G) : G := an3 h.2 (k h.1)
theorem an5 {a0 a1 a2 a3 a4 G : Prop} (h : a0 ∧ a1 ∧ a2 ∧ a3 ∧ a4) (k : a0 → a1 → a2 → a3 → a4 → G) : G := an4 h.2 (k h.1)
theorem an6 {a0 a1 a2 a3 a4 a5 G : Prop} (h : a0 ∧ a1 ∧ a2 ∧ a3 ∧ a4 ∧ a5) (k : a0 → a1 → a2 → a3 → a4 → a5 → G) : G := an5 h.2 (k h.1)
theorem an7 {a0 a1 a2 a3 a4 a5 a6 G : Prop} (h : a0 ∧ a1 ∧ a2 ∧ a3 ∧ a4 ∧ a5 ∧ a6) (k : a0 → a1 → a2 → a3 → a4 → a5 → a6 → G) : G := an6 h.2 (k h.1)
theorem an8 {a0 a1 a2 a3 a4 a5 a6 a7 G : Prop} (h : a0 ∧ a1 ∧ a2 ∧ a3 ∧ a4 ∧ a5 ∧ a6 ∧ a7) (k : a0 → a1 → a2 → a3 → a4 → a5 → a6 → a7 → G) : G := an7 h.2 (k h.1)
theorem an9 {a0 a1 a2 a3 a4 a5 a6 a7 a8 G : Prop} (h : a0 ∧ a1 ∧ a2 ∧ a3 ∧ a4 ∧ a5 ∧ a6 ∧ a7 ∧ a8) (k : a0 → a1 → a2 → a3 → a4 → a5 → a6 → a7 → a8 → G) : G := an8 h.2 (k h.1)
theorem an10 {a0 a1 a2 a3 a4 a5 a6 a7 a8 a9 G : Prop} (h : a0 ∧ a1 ∧ a2 ∧ a3 ∧ a4 ∧ a5 ∧ a6 ∧ a7 ∧ a8 ∧ a9) (k : a0 → a1 → a2 → a3 → a4 → a5 → a6 → a7 → a8 → a9 → G) : G := an9 h.2 (k h.1)
theorem an11 {a0 a1 a2 a3 a4 a5 a6 a7 a8 a9 a10 G : Prop} (h : a0 ∧ a1 ∧ a2 ∧ a3 ∧ a4 ∧ a5 ∧ a6 ∧ a7 ∧ a8 ∧ a9 ∧ a10) (k : a0 → a1 → a2 → a3 → a4 → a5 → a6 → a7 → a8 → a9 → a10 → G) : G := an10 h.2 (k h.1)
theorem an12 {a0 a1 a2 a3 a4 a5 a6 a7 a8 a9 a10 a11 G : Prop} (h : a0 ∧ a1 ∧ a2 ∧ a3 ∧ a4 ∧ a5 ∧ a6 ∧ a7 ∧ a8 ∧ a9 ∧ a10 ∧ a11) (k : a0 → a1 → a2 → a3 → a4 → a5 → a6 → a7 → a8 → a9 → a10 → a11 → G) : G := an11 h.2 (k h.1)
theorem e1a2 {α0 : Sort _} {p0 p1 : α0 → Prop} {G : Prop} (h : ∃ x0, p0 x0 ∧ p1 x0) (k : ∀ x0, p0 x0 → p1 x0 → G) : G := ex1 h fun x0 w => an2 w (k x0)
theorem e1a3 {α0 : Sort _} {p0 p1 p2 : α0 → Prop} {G : Prop} (h : ∃ x0, p0 x0 ∧ p1 x0 ∧ p2 x0) (k : ∀ x0, p0 x0 → p1 x0 → p2 x0 → G) : G := ex1 h fun x0 w => an3 w (k x0)
theorem e2a2 {α0 α1 : Sort _} {p0 p1 : α0 → α1 → Prop} {G : Prop} (h : ∃ x0 x1, p0 x0 x1 ∧ p1 x0 x1) (k : ∀ x0 x1, p0 x0 x1 → p1 x0 x1 → G) : G := ex2 h fun x0 x1 w => an2 w (k x0 x1)
theorem e2a3 {α0 α1 : Sort _} {p0 p1 p2 : α0 → α1 → Prop} {G : Prop} (h : ∃ x0 x1, p0 x0 x1 ∧ p1 x0 x1 ∧ p2 x0 x1) (k : ∀ x0 x1, p0 x0 x1 → p1 x0 x1 → p2 x0 x1 → G) : G := ex2 h fun x0 x1 w => an3 w (k x0 x1)
theorem e2a4 {α0 α1 : Sort _} {p0 p1 p2 p3 : α0 → α1 → Prop} {G : Prop} (h : ∃ x0 x1, p0 x0 x1 ∧ p1 x0 x1 ∧ p2 x0 x1 ∧ p3 x0 x1) (k : ∀ x0 x1, p0 x0 x1 → p1 x0 x1 → p2 x0 x1 → p3 x0 x1 → G) : G := ex2 h fun x0 x1 w => an4 w (k x0 x1)
theorem e3a2 {α0 α1 α2 : Sort _} {p0 p1 : α0 → α1 → α2 → Prop} {G : Prop} (h : ∃ x0 x1 x2, p0 x0 x1 x2 ∧ p1 x0 x1 x2) (k : ∀ x0 x1 x2, p0 x0 x1 x2 → p1 x0 x1 x2 → G) : G := ex3 h fun x0 x1 x2 w => an2 w (k x0 x1 x2)
theorem e3a3 {α0 α1 α2 : Sort _} {p0 p1 p2 : α0 → α1 → α2 → Prop} {G : Prop} (h : ∃ x0 x1 x2, p0 x0 x1 x2 ∧ p1 x0 x1 x2 ∧ p2 x0 x1 x2) (k : ∀ x0 x1 x2, p0 x0 x1 x2 → p1 x0 x1 x2 → p2 x0 x1 x2 → G) : G := ex3 h fun x0 x1 x2 w => an3 w (k x0 x1 x2)
theorem e3a6 {α0 α1 α2 : Sort _} {p0 p1 p2 p3 p4 p5 : α0 → α1 → α2 → Prop} {G : Prop} (h : ∃ x0 x1 x2, p0 x0 x1 x2 ∧ p1 x0 x1 x2 ∧ p2 x0 x1 x2 ∧ p3 x0 x1 x2 ∧ p4 x0 x1 x2 ∧ p5 x0 x1 x2) (k : ∀ x0 x1 x2, p0 x0 x1 x2 → p1 x0 x1 x2 → p2 x0 x1 x2 → p3 x0 x1 x2 → p4 x0 x1 x2 → p5 x0 x1 x2 → G) : G := ex3 h fun x0 x1 x2 w => an6 w (k x0 x1 x2)
theorem e4a2 {α0 α1 α2 α3 : Sort _} {p0 p1 : α0 → α1 → α2 → α3 → Prop} {G : Prop} (h : ∃ x0 x1 x2 x3, p0 x0 x1 x2 x3 ∧ p1 x0 x1 x2 x3) (k : ∀ x0 x1 x2 x3, p0 x0 x1 x2 x3 → p1 x0 x1 x2 x3 → G) : G := ex4 h fun x0 x1 x2 x3 w => an2 w (k x0 x1 x2 x3)
theorem e4a3 {α0 α1 α2 α3 : Sort _} {p0 p1 p2 : α0 → α1 → α2 → α3 → Prop} {G : Prop} (h : ∃ x0 x1 x2 x3, p0 x0 x1 x2 x3 ∧ p1 x0 x1 x2 x3 ∧ p2 x0 x1 x2 x3) (k : ∀ x0 x1 x2 x3, p0 x0 x1 x2 x3 → p1 x0 x1 x2 x3 → p2 x0 x1 x2 x3 → G) : G := ex4 h fun x0 x1 x2 x3 w => an3 w (k x0 x1 x2 x3)
theorem e4a4 {α0 α1 α2 α3 : Sort _} {p0 p1 p2 p3 : α0 → α1 → α2 → α3 → Prop} {G : Prop} (h : ∃ x0 x1 x2 x3, p0 x0 x1 x2 x3 ∧ p1 x0 x1 x2 x3 ∧ p2 x0 x1 x2 x3 ∧ p3 x0 x1 x2 x3) (k : ∀ x0 x1 x2 x3, p0 x0 x1 x2 x3 → p1 x0 x1 x2 x3 → p2 x0 x1 x2 x3 → p3 x0 x1 x2 x3 → G) : G := ex4 h fun x0 x1 x2 x3 w => an4 w (k x0 x1 x2 x3)
theorem e4a5 {α0 α1 α2 α3 : Sort _} {p0 p1 p2 p3 p4 : α0 → α1 → α2 → α3 → Prop} {G : Prop} (h : ∃ x0 x1 x2 x3, p0 x0 x1 x2 x3 ∧ p1 x0 x1 x2 x3 ∧ p2 x0 x1 x2 x3 ∧ p3 x0 x1 x2 x3 ∧ p4 x0 x1 x2 x3) (k : ∀ x0 x1 x2 x3, p0 x0 x1 x2 x3 → p1 x0 x1 x2 x3 → p2 x0 x1 x2 x3 → p3 x0 x1 x2 x3 → p4 x0 x1 x2 x3 → G) : G := ex4 h fun x0 x1 x2 x3 w => an5 w (k x0 x1 x2 x3)
theorem e4a10 {α0 α1 α2 α3 : Sort _} {p0 p1 p2 p3 p4 p5 p6 p7 p8 p9 : α0 → α1 → α2 → α3 → Prop} {G : Prop} (h : ∃ x0 x1 x2 x3, p0 x0 x1 x2 x3 ∧ p1 x0 x1 x2 x3 ∧ p2 x0 x1 x2 x3 ∧ p3 x0 x1 x2 x3 ∧ p4 x0 x1 x2 x3 ∧ p5 x0 x1 x2 x3 ∧ p6 x0 x1 x2 x3 ∧ p7 x0 x1 x2 x3 ∧ p8 x0 x1 x2 x3 ∧ p9 x0 x1 x2 x3) (k : ∀ x0 x1 x2 x3, p0 x0 x1 x2 x3 → p1 x0 x1 x2 x3 → p2 x0 x1 x2 x3 → p3 x0 x1 x2 x3 → p4 x0 x1 x2 x3 → p5 x0 x1 x2 x3 → p6 x0 x1 x2 x3 → p7 x0 x1 x2 x3 → p8 x0 x1 x2 x3 → p9 x0 x1 x2 x3 → G) : G := ex4 h fun x0 x1 x2 x3 w => an10 w (k x0 x1 x2 x3)
theorem e5a2 {α0 α1 α2 α3 α4 : Sort _} {p0 p1 : α0 → α1 → α2 → α3 → α4 → Prop} {G : Prop} (h : ∃ x0 x1 x2 x3 x4, p0 x0 x1 x2 x3 x4 ∧ p1 x0 x1 x2 x3 x4) (k : ∀ x0 x1 x2 x3 x4, p0 x0 x1 x2 x3 x4 → p1 x0 x1 x2 x3 x4 → G) : G := ex5 h fun x0 x1 x2 x3 x4 w => an2 w (k x0 x1 x2 x3 x4)
theorem e5a3 {α0 α1 α2 α3 α4 : Sort _} {p0 p1 p2 : α0 → α1 → α2 → α3 → α4 → Prop} {G : Prop} (h : ∃ x0 x1 x2 x3 x4, p0 x0 x1 x2 x3 x4 ∧ p1 x0 x1 x2 x3 x4 ∧ p2 x0 x1 x2 x3 x4) (k : ∀ x0 x1 x2 x3 x4, p0 x0 x1 x2 x3 x4 → p1 x0 x1 x2 x3 x4 → p2 x0 x1 x2 x3 x4 → G) : G := ex5 h fun x0 x1 x2 x3 x4 w => an3 w (k x0 x1 x2 x3 x4)
theorem e5a4 {α0 α1 α2 α3 α4 : Sort _} {p0 p1 p2 p3 : α0 → α1 → α2 → α3 → α4 → Prop} {G : Prop} (h : ∃ x0 x1 x2 x3 x4, p0 x0 x1 x2 x3 x4 ∧ p1 x0 x1 x2 x3 x4 ∧ p2 x0 x1 x2 x3 x4 ∧ p3 x0 x1 x2 x3 x4) (k : ∀ x0 x1 x2 x3 x4, p0 x0 x1 x2 x3 x4 → p1 x0 x1 x2 x3 x4 → p2 x0 x1 x2 x3 x4 → p3 x0 x1 x2 x3 x4 → G) : G := ex5 h fun x0 x1 x2 x3 x4 w => an4 w (k x0 x1 x2 x3 x4)
theorem e5a5 {α0 α1 α2 α3 α4 : Sort _} {p0 p1 p2 p3 p4 : α0 → α1 → α2 → α3 → α4 → Prop} {G : Prop} (h : ∃ x0 x1 x2 x3 x4, p0 x0 x1 x2 x3 x4 ∧ p1 x0 x1 x2 x3 x4 ∧ p2 x0 x1 x2 x3 x4 ∧ p3 x0 x1 x2 x3 x4 ∧ p4 x0 x1 x2 x3 x4) (k : ∀ x0 x1 x2 x3 x4, p0 x0 x1 x2 x3 x4 → p1 x0 x1 x2 x3 x4 → p2 x0 x1 x2 x3 x4 → p3 x0 x1 x2 x3 x4 → p4 x0 x1 x2 x3 x4 → G) : G := ex5 h fun x0 x1 x2 x3 x4 w => an5 w (k x0 x1 x2 x3 x4)
theorem e5a6 {α0 α1 α2 α3 α4 : Sort _} {p0 p1 p2 p3 p4 p5 : α0 → α1 → α2 → α3 → α4 → Prop} {G : Prop} (h : ∃ x0 x1 x2 x3 x4, p0 x0 x1 x2 x3 x4 ∧ p1 x0 x1 x2 x3 x4 ∧ p2 x0 x1 x2 x3 x4 ∧ p3 x0 x1 x2 x3 x4 ∧ p4 x0 x1 x2 x3 x4 ∧ p5 x0 x1 x2 x3 x4) (k : ∀ x0 x1 x2 x3 x4, p0 x0 x1 x2 x3 x4 → p1 x0 x1 x2 x3 x4 → p2 x0 x1 x2 x3 x4 → p3 x0 x1 x2 x3 x4 → p4 x0 x1 x2 x3 x4 → p5 x0 x1 x2 x3 x4 → G) : G := ex5 h fun x0 x1 x2 x3 x4 w => an6 w (k x0 x1 x2 x3 x4)
theorem e6a5 {α0 α1 α2 α3 α4 α5 : Sort _} {p0 p1 p2 p3 p4 : α0 → α1 → α2 → α3 → α4 → α5 → Prop} {G : Prop} (h : ∃ x0 x1 x2 x3 x4 x5, p0 x0 x1 x2 x3 x4 x5 ∧ p1 x0 x1 x2 x3 x4 x5 ∧ p2 x0 x1 x2 x3 x4 x5 ∧ p3 x0 x1 x2 x3 x4 x5 ∧ p4 x0 x1 x2 x3 x4 x5) (k : ∀ x0 x1 x2 x3 x4 x5, p0 x0 x1 x2 x3 x4 x5 → p1 x0 x1 x2 x3 x4 x5 → p2 x0 x1 x2 x3 x4 x5 → p3 x0 x1 x2 x3 x4 x5 → p4 x0 x1 x2 x3 x4 x5 → G) : G := ex6 h fun x0 x1 x2 x3 x4 x5 w => an5 w (k x0 x1 x2 x3 x4 x5)
theorem e7a8 {α0 α1 α2 α3 α4 α5 α6 : Sort _} {p0 p1 p2 p3 p4 p5 p6 p7 : α0 → α1 → α2 → α3 → α4 → α5 → α6 → Prop} {G : Prop} (h : ∃ x0 x1 x2 x3 x4 x5 x6, p0 x0 x1 x2 x3 x4 x5 x6 ∧ p1 x0 x1 x2 x3 x4 x5 x6 ∧ p2 x0 x1 x2 x3 x4 x5 x6 ∧ p3 x0 x1 x2 x3 x4 x5 x6 ∧ p4 x0 x1 x2 x3 x4 x5 x6 ∧ p5 x0 x1 x2 x3 x4 x5 x6 ∧ p6 x0 x1 x2 x3 x4 x5 x6 ∧ p7 x0 x1 x2 x3 x4 x5 x6) (k : ∀ x0 x1 x2 x3 x4 x5 x6, p0 x0 x1 x2 x3 x4 x5 x6 → p1 x0 x1 x2 x3 x4 x5 x6 → p2 x0 x1 x2 x3 x4 x5 x6 → p3 x0 x1 x2 x3 x4 x5 x6 → p4 x0 x1 x2 x3 x4 x5 x6 → p5 x0 x1 x2 x3 x4 x5 x6 → p6 x0 x1 x2 x3 x4 x5 x6 → p7 x0 x1 x2 x3 x4 x5 x6 → G) : G := ex7 h fun x0 x1 x2 x3 x4 x5 x6 w => an8 w (k x0 x1 x2 x3 x4 x5 x6)
theorem e9a5 {α0 α1 α2 α3 α4 α5 α6 α7 α8 : Sort _} {p0 p1 p2 p3 p4 : α0 → α1 → α2 → α3 → α4 → α5 → α6 → α7 → α8 → Prop} {G : Prop} (h : ∃ x0 x1 x2 x3 x4 x5 x6 x7 x8, p0 x0 x1 x2 x3 x4 x5 x6 x7 x8 ∧ p1 x0 x1 x2 x3 x4 x5 x6 x7 x8 ∧ p2 x0 x1 x2 x3 x4 x5 x6 x7 x8 ∧ p3 x0 x1 x2 x3 x4 x5 x6 x7 x8 ∧ p4 x0 x1 x2 x3 x4 x5 x6 x7 x8) (k : ∀ x0 x1 x2 x3 x4 x5 x6 x7 x8, p0 x0 x1 x2 x3 x4 x5 x6 x7 x8 → p1 x0 x1 x2 x3 x4 x5 x6 x7 x8 → p2 x0 x1 x2 x3 x4 x5 x6 x7 x8 → p3 x0 x1 x2 x3 x4 x5 x6 x7 x8 → p4 x0 x1 x2 x3 x4 x5 x6 x7 x8 → G) : G := ex9 h fun x0 x1 x2 x3 x4 x5 x6 x7 x8 w => an5 w (k x0 x1 x2 x3 x4 x5 x6 x7 x8)
theorem e12a10 {α0 α1 α2 α3 α4 α5 α6 α7 α8 α9 α10 α11 : Sort _} {p0 p1 p2 p3 p4 p5 p6 p7 p8 p9 : α0 → α1 → α2 → α3 → α4 → α5 → α6 → α7 → α8 → α9 → α10 → α11 → Prop} {G : Prop} (h : ∃ x0 x1 x2 x3 x4 x5 x6 x7 x8 x9 x10 x11, p0 x0 x1 x2 x3 x4 x5 x6 x7 x8 x9 x10 x11 ∧ p1 x0 x1 x2 x3 x4 x5 x6 x7 x8 x9 x10 x11 ∧ p2 x0 x1 x2 x3 x4 x5 x6 x7 x8 x9 x10 x11 ∧ p3 x0 x1 x2 x3 x4 x5 x6 x7 x8 x9 x10 x11 ∧ p4 x0 x1 x2 x3 x4 x5 x6 x7 x8 x9 x10 x11 ∧ p5 x0 x1 x2 x3 x4 x5 x6 x7 x8 x9 x10 x11 ∧ p6 x0 x1 x2 x3 x4 x5 x6 x7 x8 x9 x10 x11 ∧ p7 x0 x1 x2 x3 x4 x5 x6 x7 x8 x9 x10 x11 ∧ p8 x0 x1 x2 x3 x4 x5 x6 x7 x8 x9 x10 x11 ∧ p9 x0 x1 x2 x3 x4 x5 x6 x7 x8 x9 x10 x11) (k : ∀ x0 x1 x2 x3 x4 x5 x6 x7 x8 x9 x10 x11, p0 x0 x1 x2 x3 x4 x5 x6 x7 x8 x9 x10 x11 → p1 x0 x1 x2 x3 x4 x5 x6 x7 x8 x9 x10 x11 → p2 x0 x1 x2 x3 x4 x5 x6 x7 x8 x9 x10 x11 → p3 x0 x1 x2 x3 x4 x5 x6 x7 x8 x9 x10 x11 → p4 x0 x1 x2 x3 x4 x5 x6 x7 x8 x9 x10 x11 → p5 x0 x1 x2 x3 x4 x5 x6 x7 x8 x9 x10 x11 → p6 x0 x1 x2 x3 x4 x5 x6 x7 x8 x9 x10 x11 → p7 x0 x1 x2 x3 x4 x5 x6 x7 x8 x9 x10 x11 → p8 x0 x1 x2 x3 x4 x5 x6 x7 x8 x9 x10 x11 → p9 x0 x1 x2 x3 x4 x5 x6 x7 x8 x9 x10 x11 → G) : G := ex12 h fun x0 x1 x2 x3 x4 x5 x6 x7 x8 x9 x10 x11 w => an10 w (k x0 x1 x2 x3 x4 x5 x6 x7 x8 x9 x10 x11)
theorem exI2 {α0 α1 : Sort _} {p : α0 → α1 → Prop} (x0 : α0) (x1 : α1) (h : p x0 x1) : ∃ x0 x1, p x0 x1 := ⟨x0, x1, h⟩
theorem exI3 {α0 α1 α2 : Sort _} {p : α0 → α1 → α2 → Prop} (x0 : α0) (x1 : α1) (x2 : α2) (h : p x0 x1 x2) : ∃ x0 x1 x2, p x0 x1 x2 := ⟨x0, x1, x2, h⟩
theorem exI4 {α0 α1 α2 α3 : Sort _} {p : α0 → α1 → α2 → α3 → Prop} (x0 : α0) (x1 : α1) (x2 : α2) (x3 : α3) (h : p x0 x1 x2 x3) : ∃ x0 x1 x2 x3, p x0 x1 x2 x3 := ⟨x0, x1, x2, x3, h⟩
theorem exI5 {α0 α1 α2 α3 α4 : Sort _} {p : α0 → α1 → α2 → α3 → α4 → Prop} (x0 : α0) (x1 : α1) (x2 : α2) (x3 : α3) (x4 : α4) (h : p x0 x1 x2 x3 x4) : ∃ x0 x1 x2 x3 x4, p x0 x1 x2 x3 x4 := ⟨x0, x1, x2, x3, x4, h⟩
theorem exI6 {α0 α1 α2 α3 α4 α5 : Sort _} {p : α0 → α1 → α2 → α3 → α4 → α5 → Prop} (x0 : α0) (x1 : α1) (x2 : α2) (x3 : α3) (x4 : α4) (x5 : α5) (h : p x0 x1 x2 x3 x4 x5) : ∃ x0 x1 x2 x3 x4 x5, p x0 x1 x2 x3 x4 x5 := ⟨x0, x1, x2, x3, x4, x5, h⟩
theorem exI7 {α0 α1 α2 α3 α4 α5 α6 : Sort _} {p : α0 → α1 → α2 → α3 → α4 → α5 → α6 → Prop} (x0 : α0) (x1 : α1) (x2 : α2) (x3 : α3) (x4 : α4) (x5 : α5) (x6 : α6) (h : p x0 x1 x2 x3 x4 x5 x6) : ∃ x0 x1 x2 x3 x4 x5 x6, p x0 x1 x2 x3 x4 x5 x6 := ⟨x0, x1, x2, x3, x4, x5, x6, h⟩
theorem exI9 {α0 α1 α2 α3 α4 α5 α6 α7 α8 : Sort _} {p : α0 → α1 → α2 → α3 → α4 → α5 → α6 → α7 → α8 → Prop} (x0 : α0) (x1 : α1) (x2 : α2) (x3 : α3) (x4 : α4) (x5 : α5) (x6 : α6) (x7 : α7) (x8 : α8) (h : p x0 x1 x2 x3 x4 x5 x6 x7 x8) : ∃ x0 x1 x2 x3 x4 x5 x6 x7 x8, p x0 x1 x2 x3 x4 x5 x6 x7 x8 := ⟨x0, x1, x2, x3, x4, x5, x6, x7, x8, h⟩
theorem anI3 {a0 a1 a2 : Prop} (h0 : a0) (h1 : a1) (h2 : a2) : a0 ∧ a1 ∧ a2 := ⟨h0, h1, h2⟩
theorem anI4 {a0 a1 a2 a3 : Prop} (h0 : a0) (h1 : a1) (h2 : a2) (h3 : a3) : a0 ∧ a1 ∧ a2 ∧ a3 := ⟨h0, anI3 h1 h2 h3⟩
theorem anI5 {a0 a1 a2 a3 a4 : Prop} (h0 : a0) (h1 : a1) (h2 : a2) (h3 : a3) (h4 : a4) : a0 ∧ a1 ∧ a2 ∧ a3 ∧ a4 := ⟨h0, anI4 h1 h2 h3 h4⟩
theorem anI6 {a0 a1 a2 a3 a4 a5 : Prop} (h0 : a0) (h1 : a1) (h2 : a2) (h3 : a3) (h4 : a4) (h5 : a5) : a0 ∧ a1 ∧ a2 ∧ a3 ∧ a4 ∧ a5 := ⟨h0, anI5 h1 h2 h3 h4 h5⟩
theorem anI7 {a0 a1 a2 a3 a4 a5 a6 : Prop} (h0 : a0) (h1 : a1) (h2 : a2) (h3 : a3) (h4 : a4) (h5 : a5) (h6 : a6) : a0 ∧ a1 ∧ a2 ∧ a3 ∧ a4 ∧ a5 ∧ a6 := ⟨h0, anI6 h1 h2 h3 h4 h5 h6⟩
theorem anI8 {a0 a1 a2 a3 a4 a5 a6 a7 : Prop} (h0 : a0) (h1 : a1) (h2 : a2) (h3 : a3) (h4 : a4) (h5 : a5) (h6 : a6) (h7 : a7) : a0 ∧ a1 ∧ a2 ∧ a3 ∧ a4 ∧ a5 ∧ a6 ∧ a7 := ⟨h0, anI7 h1 h2 h3 h4 h5 h6 h7⟩
theorem anI9 {a0 a1 a2 a3 a4 a5 a6 a7 a8 : Prop} (h0 : a0) (h1 : a1) (h2 : a2) (h3 : a3) (h4 : a4) (h5 : a5) (h6 : a6) (h7 : a7) (h8 : a8) : a0 ∧ a1 ∧ a2 ∧ a3 ∧ a4 ∧ a5 ∧ a6 ∧ a7 ∧ a8 := ⟨h0, anI8 h1 h2 h3 h4 h5 h6 h7 h8⟩
theorem anI10 {a0 a1 a2 a3 a4 a5 a6 a7 a8 a9 : Prop} (h0 : a0) (h1 : a1) (h2 : a2) (h3 : a3) (h4 : a4) (h5 : a5) (h6 : a6) (h7 : a7) (h8 : a8) (h9 : a9) : a0 ∧ a1 ∧ a2 ∧ a3 ∧ a4 ∧ a5 ∧ a6 ∧ a7 ∧ a8 ∧ a9 := ⟨h0, anI9 h1 h2 h3 h4 h5 h6 h7 h8 h9⟩
theorem anI11 {a0 a1 a2 a3 a4 a5 a6 a7 a8 a9 a10 : Prop} (h0 : a0) (h1 : a1) (h2 : a2) (h3 : a3) (h4 : a4) (h5 : a5) (h6 : a6) (h7 : a7) (h8 : a8) (h9 : a9) (h10 : a10) : a0 ∧ a1 ∧ a2 ∧ a3 ∧ a4 ∧ a5 ∧ a6 ∧ a7 ∧ a8 ∧ a9 ∧ a10 := ⟨h0, anI10 h1 h2 h3 h4 h5 h6 h7 h8 h9 h10⟩
theorem fmc {α} {a : α} {l : List α} {P : α → Prop} (h : P a) (t : ∀ x ∈ l, P x) : ∀ x ∈ a :: l, P x := List.forall_mem_cons.mpr ⟨h, t⟩
theorem fma {α} {l r : List α} {P : α → Prop} (h : ∀ x ∈ l, P x) (t : ∀ x ∈ r, P x) : ∀ x ∈ l ++ r, P x := List.forall_mem_append.mpr ⟨h, t⟩
theorem hide {α : Sort _} {G : Prop} (x : α) (k : ∀ t, t = x → G) : G := k x rfl
theorem rm1 {d n k L : Nat} (h : d + n < L) (e : Nat.ble k n = true) : d + k < L := Nat.lt_of_le_of_lt (Nat.add_le_add_left (Nat.le_of_ble_eq_true e) d) h
theorem rm2 {d n j k L : Nat} (h : d + n < L) (e : Nat.ble (j + k) n = true) : d + j + k < L := Nat.add_assoc d j k ▸ rm1 h e
theorem rm3 {d n i j k L : Nat} (h : d + n < L) (e : Nat.ble (i + (j + k)) n = true) : d + i + j + k < L := Nat.add_assoc (d + i) j k ▸ rm2 h e
theorem rmB {a n b : Nat} (h : a ≤ n) (e : Nat.ble n b = true) : a ≤ b := Nat.le_trans h (Nat.le_of_ble_eq_true e)
theorem rmC {a n b : Nat} (h : a < n) (e : Nat.ble n b = true) : a < b := Nat.lt_of_lt_of_le h (Nat.le_of_ble_eq_true e)
theorem rmD {a n b : Nat} (h : a ≤ n) (e : Nat.ble (n + 1) b = true) : a < b := Nat.lt_of_le_of_lt h (Nat.le_of_ble_eq_true e)
theorem rmE {a n b : Nat} (h : a < n) (e : Nat.ble n (b + 1) = true) : a ≤ b := Nat.le_of_lt_succ (Nat.lt_of_lt_of_le h (Nat.le_of_ble_eq_true e))
theorem ifp {α} {M : PySem.Model} {A : PySem.Around} {c : Prop} [Decidable c] {x y : PySem.Sem α} {Q : α → PySem.Shared → Prop} {E : PySem.Value → PySem.Shared → Prop} {s : PySem.Shared} (h : c) (k : PySem.wpAny M A x Q E s) : PySem.wpAny M A (if c then x else y) Q E s := by rw [if_pos h]; exact k
theorem ifn {α} {M : PySem.Model} {A : PySem.Around} {c : Prop} [Decidable c] {x y : PySem.Sem α} {Q : α → PySem.Shared → Prop} {E : PySem.Value → PySem.Shared → Prop} {s : PySem.Shared} (h : ¬c) (k : PySem.wpAny M A y Q E s) : PySem.wpAny M A (if c then x else y) Q E s := by rw [if_neg h]; exact k
noncomputable def A2 {α β : Type} (R : α → β → Prop) : List α → List β → Prop
  | [], [] => True
  | a :: as, b :: bs => R a b ∧ A2 R as bs
  | _, _ => False
section
variable {α β : Type} {R S : α → β → Prop} {as : List α} {bs : List β}
theorem A2.ind {P : List α → List β → Prop} (n : P [] []) (c : ∀ a b as bs, R a b → A2 R as bs → P as bs → P (a :: as) (b :: bs)) : ∀ {as bs}, A2 R as bs → P as bs
  | [], [], _ => n
  | a :: as, b :: bs, k => c a b as bs k.1 k.2 (A2.ind n c k.2)
theorem A2.mono (h : ∀ a b, R a b → S a b) (k : A2 R as bs) : A2 S as bs := A2.ind (R := R) (P := A2 S) trivial (fun _ _ _ _ r _ i => ⟨h _ _ r, i⟩) k
theorem A2.len (k : A2 R as bs) : as.length = bs.length := A2.ind (R := R) (P := fun as bs => as.length = bs.length) rfl (fun _ _ as bs _ _ (i : as.length = bs.length) => congrArg (· + 1) i) k
theorem A2.app {us : List α} {ps : List β} (k : A2 R as bs) (y : A2 R us ps) : A2 R (as ++ us) (bs ++ ps) := A2.ind (R := R) (P := fun as bs => A2 R (as ++ us) (bs ++ ps)) y (fun _ _ _ _ r _ i => And.intro r i) k
theorem A2.snoc {a : α} {b : β} (h : R a b) (k : A2 R as bs) : A2 R (as ++ [a]) (bs ++ [b]) := k.app ⟨h, trivial⟩
theorem A2.at (k : A2 R as bs) : ∀ {i : Nat} {v : α}, as[i]? = some v → ∃ q, bs[i]? = some q ∧ R v q := A2.ind (R := R) (P := fun as bs => ∀ {i : Nat} {v : α}, as[i]? = some v → ∃ q, bs[i]? = some q ∧ R v q)
  (fun h => nomatch h) (fun a b as bs r _ ih i v h => by
    cases i with
    | zero => exact ⟨b, rfl, Option.some.inj h ▸ r⟩
    | succ i => exact ih (i := i) h) k
theorem A2.nth (k : A2 R as bs) (d : α) (d' : β) (i : Nat) (hi : i < bs.length) : R (as.getD i d) (bs.getD i d') := by
  have hj : i < as.length := k.len ▸ hi
  refine ex1 (k.at (List.getElem?_eq_getElem hj)) fun q w => an2 w fun e r => ?_
  rw [List.getD_eq_getElem?_getD, List.getD_eq_getElem?_getD, e, List.getElem?_eq_getElem hj]; exact r
theorem A2.pick (k : A2 R as bs) (d : α) (d' : β) : ∀ {p : List Nat}, (∀ i ∈ p, i < bs.length) → A2 R (p.map fun i => as.getD i d) (p.map fun i => bs.getD i d')
  | [], _ => trivial
  | i :: _, hi => ⟨k.nth d d' i (hi i (.head _)), k.pick d d' fun j hj => hi j (.tail _ hj)⟩
end
theorem A2.inv {α β : Type} {R : α → β → Prop} {as : List α} {b : β} {bs : List β} (k : A2 R as (b :: bs)) : ∃ a r, as = a :: r ∧ R a b ∧ A2 R r bs := by
  cases as with
  | nil => exact False.elim k
  | cons a r => exact exI2 a r (anI3 rfl k.1 k.2)
theorem A2.inv' {α β : Type} {R : α → β → Prop} {a : α} {as : List α} {bs : List β} (k : A2 R (a :: as) bs) : ∃ b r, bs = b :: r ∧ R a b ∧ A2 R as r := by
  cases bs with
  | nil => exact False.elim k
  | cons b r => exact exI2 b r (anI3 rfl k.1 k.2)
theorem A2.nil' {α β : Type} {R : α → β → Prop} {bs : List β} (k : A2 R ([] : List α) bs) : bs = [] := by
  cases bs with
  | nil => rfl
  | cons b r => exact False.elim k
theorem A2.nil {α β : Type} {R : α → β → Prop} {as : List α} (k : A2 R as ([] : List β)) : as = [] := by
  cases as with
  | nil => rfl
  | cons b r => exact False.elim k
theorem A2.drop {α β : Type} {R : α → β → Prop} (n : Nat) : ∀ {as : List α} {bs : List β}, A2 R as bs → A2 R (as.drop n) (bs.drop n) := by
  induction n with
  | zero => exact fun k => k
  | succ n ih => exact fun k => A2.ind (R := R) (P := fun as bs => A2 R (as.drop (n + 1)) (bs.drop (n + 1))) trivial (fun _ _ _ _ _ k _ => ih k) k
theorem arr4 {α : Type} {a b c d v : α} {i : Nat} (h : (#[a, b, c, d] : Array α)[i]? = some v) {P : Nat → α → Prop} (p0 : P 0 a) (p1 : P 1 b) (p2 : P 2 c) (p3 : P 3 d) : P i v := by
  rw [List.getElem?_toArray] at h
  cases i with
  | zero => exact (Option.some.inj h : a = v) ▸ p0
  | succ i => cases i with
    | zero => exact (Option.some.inj h : b = v) ▸ p1
    | succ i => cases i with
      | zero => exact (Option.some.inj h : c = v) ▸ p2
      | succ i => cases i with
        | zero => exact (Option.some.inj h : d = v) ▸ p3
        | succ i => exact nomatch (h : none = some v)
theorem two_of {α : Type} {β : Type} {l : List (α × β)} {a b : α} (h : l.map (·.1) = [a, b]) : ∃ t1 t2, l = [(a, t1), (b, t2)] := by
  refine ex2 (List.map_eq_cons_iff.mp h) fun p r w => an3 w fun e1 e2 h2 => ex2 (List.map_eq_cons_iff.mp h2) fun q r2 w => an3 w fun e3 e4 h3 => exI2 p.2 q.2 ?_
  rw [e1, e3, List.map_eq_nil_iff.mp h3, ← e2, ← e4]
theorem rm0 {d n L : Nat} (h : d + n < L) : d < L := Nat.lt_of_le_of_lt (Nat.le_add_right d n) h
theorem rmF {a n b : Nat} (h : a = n) (e : Nat.ble n b = true) : a ≤ b := h ▸ Nat.le_of_ble_eq_true e
theorem rmG {a c n b : Nat} (q : a = c) (h : c ≤ n) (e : Nat.ble n b = true) : a ≤ b := q ▸ rmB h e
theorem rmH {a c n b : Nat} (q : a = c) (h : c < n) (e : Nat.ble n (b + 1) = true) : a ≤ b := q ▸ rmE h e
theorem szB {a n : Nat} (h : a ≤ n) (e : Nat.ble n 16777216 = true) : a ≤ PySem.sizeLine := by rw [PySem.sizeLine_eq]; exact rmB h e
theorem szL {a n : Nat} (h : a < n) (e : Nat.ble n 16777217 = true) : a ≤ PySem.sizeLine := by rw [PySem.sizeLine_eq]; exact rmE h e
theorem ic0 {a : Nat} : (0 : Int) ≤ (a : Int) := Int.natCast_nonneg a
theorem ic1 {a : Nat} (h : a ≤ 1000) : (a : Int) < 2 ^ 63 := by omega
theorem ic3 {a : Nat} (h : a ≤ 100) : (a : Int) < 2 ^ 1920 := by omega
theorem ic4 {a : Nat} : -2 ^ 1920 < (a : Int) := by omega
theorem ic5 {a : Nat} (h : a ≤ 100) : (a : Int) < 10 ^ 10 := by omega
theorem exI12 {α0 α1 α2 α3 α4 α5 α6 α7 α8 α9 α10 α11 : Sort _} {p : α0 → α1 → α2 → α3 → α4 → α5 → α6 → α7 → α8 → α9 → α10 → α11 → Prop} (x0 : α0) (x1 : α1) (x2 : α2) (x3 : α3) (x4 : α4) (x5 : α5) (x6 : α6) (x7 : α7) (x8 : α8) (x9 : α9) (x10 : α10) (x11 : α11) (h : p x0 x1 x2 x3 x4 x5 x6 x7 x8 x9 x10 x11) : ∃ x0 x1 x2 x3 x4 x5 x6 x7 x8 x9 x10 x11, p x0 x1 x2 x3 x4 x5 x6 x7 x8 x9 x10 x11 := ⟨x0, x1, x2, x3, x4, x5, x6, x7, x8, x9, x10, x11, h⟩
theorem sub_cc {α : Type} {a : α} {r s : List α} (h : ∀ p ∈ r, p ∈ s) : ∀ p ∈ a :: r, p ∈ a :: s := fmc (.head _) fun p hp => .tail _ (h p hp)
theorem sub_sk {α : Type} {a : α} {r s : List α} (h : ∀ p ∈ r, p ∈ s) : ∀ p ∈ r, p ∈ a :: s := fun p hp => .tail _ (h p hp)
theorem sub_fm {α : Type} {a : α} {r s : List α} (m : a ∈ s) (h : ∀ p ∈ r, p ∈ s) : ∀ p ∈ a :: r, p ∈ s := fmc m h
theorem hideJ {α β γ : Type} {G : Prop} (x : α → β → γ → Prop) (k : ∀ t : α → β → γ → Prop, (∀ i m w, t i m w ↔ x i m w) → G) : G := k x fun _ _ _ => Iff.rfl
theorem neA {I a b : Nat} (e : Nat.beq a b = false) : I + a ≠ I + b := fun h => Nat.ne_of_beq_eq_false e (Nat.add_left_cancel h)
theorem neB {I b : Nat} (e : Nat.beq 0 b = false) : I ≠ I + b := neA (a := 0) e
theorem neC {I a : Nat} (e : Nat.beq a 0 = false) : I + a ≠ I := neA (b := 0) e
theorem sbS {n i : Nat} (h : i < n) : n - i = (n - (i + 1)) + 1 := by rw [Nat.sub_add_eq]; exact (Nat.sub_add_cancel (Nat.sub_pos_of_lt h)).symm
theorem sbL {n i : Nat} (h : i < n) : n - (i + 1) < n - i := Nat.sub_lt_sub_left h (Nat.lt_succ_self i)
theorem sbE {n i d : Nat} (h : n - i = d + 1) : n - (i + 1) = d := by rw [Nat.sub_add_eq, h]; rfl
theorem sbP {n i d : Nat} (h : n - i = d + 1) : i < n := Nat.lt_of_sub_eq_succ h
theorem sbZ {n i : Nat} (h : n - i = 0) : n ≤ i := Nat.le_of_sub_eq_zero h
theorem fm55a (x : Int) : 0 ≤ x.fmod 55296 := Int.fmod_nonneg_of_pos x (by decide)
theorem fm55b (x : Int) : x.fmod 55296 ≤ 1114111 := Int.le_of_lt (Int.lt_trans (Int.fmod_lt_of_pos x (by decide)) (by decide))
theorem fm12a (x : Int) : 0 ≤ x.fmod 128 := Int.fmod_nonneg_of_pos x (by decide)
theorem fm12b (x : Int) : x.fmod 128 ≤ 1114111 := Int.le_of_lt (Int.lt_trans (Int.fmod_lt_of_pos x (by decide)) (by decide))
theorem fm12c (x : Int) : 0 ≤ x.fmod 128 + 64 := Int.add_nonneg (fm12a x) (by decide)
theorem fm12d (x : Int) : x.fmod 128 + 64 ≤ 1114111 := Int.le_trans (Int.add_le_add_right (Int.le_of_lt (Int.fmod_lt_of_pos x (by decide))) 64) (by decide)
theorem rmS {a c n b : Nat} (h : a ≤ n) (e : Nat.ble n b = true) : a - c ≤ b := Nat.le_trans (Nat.sub_le a c) (rmB h e)
theorem rmT {a c x n b : Nat} (q : a - c = x) (h : a ≤ n) (e : Nat.ble n b = true) : x ≤ b := q ▸ rmS h e
theorem rmP {n j k b : Nat} (h : n < k) (e : Nat.ble (k + j) b = true) : n + j < b := Nat.lt_of_lt_of_le (Nat.add_lt_add_right h j) (Nat.le_of_ble_eq_true e)
theorem mc {α : Type} {a q : α} {l : List α} {P : α → Prop} (h : q ∈ a :: l) (x : P a) (y : q ∈ l → P q) : P q := (List.mem_cons.mp h).elim (fun e => e ▸ x) y
example : True := by w_top off; k_with_none; trivial
end
section
/-! words -/
noncomputable def wordN (b : Nat) : List Nat :=
  if b = 256 then [94, 63] else
  let low := b % 128
  let wd := if low < 32 then [94, low + 64] else if low < 127 then [low] else [94, 159]
  if b < 128 then wd else 33 :: wd
noncomputable def wcls (x : Int) : Nat := if x = 127 then 256 else (x % 256).toNat
theorem wcls_lt (x : Int) : wcls x < 257 := by unfold wcls; split <;> omega
noncomputable def mkS (l : List Nat) : Str := ⟨l.toArray⟩
noncomputable def wordOf (x : Int) : Str := mkS (wordN (wcls x))
noncomputable def words : List Str := (List.range 257).map fun b => mkS (wordN b)
theorem wordOf_mem (x : Int) : wordOf x ∈ words := List.mem_map.mpr ⟨wcls x, List.mem_range.mpr (wcls_lt x), rfl⟩
noncomputable def letters : List Str := [Str.ofString "t", Str.ofString "d", Str.ofString "c", Str.ofString "b", Str.ofString "a"]
noncomputable def qnameOf (u l : Str) : Str := Str.ofString "{" ++ u ++ Str.ofString "}" ++ l
theorem words_len : ∀ u ∈ words, u.length ≤ 3 := by decide +kernel
theorem words_pos : ∀ u ∈ words, 0 < u.length := by decide +kernel
theorem letters_len : ∀ u ∈ letters, u.length = 1 := by decide +kernel
theorem q_open : ∀ u ∈ words, ∀ l ∈ letters, (Txt.slice (qnameOf u l) none (some 1) == Str.ofString "{") = true := by decide +kernel
theorem q_rsplit : ∀ u ∈ words, ∀ l ∈ letters, Txt.rsplitMax (Txt.slice (qnameOf u l) (some 1) none) (Str.ofString "}") 1 = [u, l] := by decide +kernel
end
section
theorem nn128 (x : Int) : 0 ≤ x % 128 := Int.emod_nonneg x (by decide)
theorem lowI (x : Int) : ((x % 128).toNat : Int) = x % 128 := Int.toNat_of_nonneg (nn128 x)
theorem low_lt (x : Int) : (x % 128).toNat < 128 := (Int.toNat_lt (nn128 x)).mpr (Int.emod_lt_of_pos x (by decide))
theorem low_l {x : Int} (n : Nat) (h : x % 128 < (n : Int)) : (x % 128).toNat < n := (Int.toNat_lt (nn128 x)).mpr h
theorem low_g {x : Int} (n : Nat) (h : ¬ x % 128 < (n : Int)) : n ≤ (x % 128).toNat := Nat.not_lt.mp fun k => h ((Int.toNat_lt (nn128 x)).mp k)
theorem m256t : ∀ y : Nat, y < 256 → ((y : Int) = (y : Int) % 128 ∧ (y : Int) < 128 ∧ ((y : Int) / 128 % 2) * 128 = 0) ∨ ((y : Int) = (y : Int) % 128 + 128 ∧ ¬ (y : Int) < 128 ∧ ((y : Int) / 128 % 2) * 128 ≠ 0) := by decide +kernel
theorem m256 (x : Int) : (x % 256 = x % 128 ∧ x % 256 < 128 ∧ (x / 128 % 2) * 128 = 0) ∨ (x % 256 = x % 128 + 128 ∧ ¬ x % 256 < 128 ∧ (x / 128 % 2) * 128 ≠ 0) := by
  have e1 : x % 256 % 128 = x % 128 := Int.emod_emod_of_dvd x (by decide)
  have e2 : x / 128 % 2 = x % 256 / 128 % 2 := by
    have e : x = x % 256 + 128 * (2 * (x / 256)) := by rw [← Int.mul_assoc]; exact (Int.emod_add_mul_ediv x 256).symm
    conv => lhs; rw [e, Int.add_mul_ediv_left _ _ (by decide), Int.add_mul_emod_self_left]
  rw [← e1, e2, ← Int.toNat_of_nonneg (Int.emod_nonneg x (by decide : (256 : Int) ≠ 0))]
  exact m256t _ ((Int.toNat_lt (Int.emod_nonneg _ (by decide))).mpr (Int.emod_lt_of_pos _ (by decide)))
theorem hi_of {x : Int} (h : (x / 128 % 2) * 128 ≠ 0) : ¬ x % 256 < 128 := (m256 x).elim (fun k => absurd k.2.2 h) fun k => k.2.1
theorem lo_of {x : Int} (h : ¬ (x / 128 % 2) * 128 ≠ 0) : x % 256 < 128 := (m256 x).elim (fun k => k.2.1) fun k => absurd k.2.2 h
theorem word_lo {x : Int} (h : x ≠ 127) (h2 : x % 256 < 128) : wordOf x = mkS (wordN (x % 128).toNat) := by
  unfold wordOf wcls; rw [if_neg h, (m256 x).elim And.left fun k => absurd h2 k.2.1]
theorem word_hi {x : Int} (h2 : ¬ x % 256 < 128) : wordOf x = mkS (wordN ((x % 128).toNat + 128)) := by
  unfold wordOf wcls
  rw [if_neg fun e => h2 (by rw [e]; decide), (m256 x).elim (fun k => absurd k.2.1 h2) And.left, Int.toNat_add (nn128 x) (by decide)]; rfl
theorem tA : ∀ l, l < 32 → Str.ofString "!" ++ (Str.ofString "^" ++ (⟨#[l + 64]⟩ : Str)) = mkS (wordN (l + 128)) ∧ Str.ofString "^" ++ (⟨#[l + 64]⟩ : Str) = mkS (wordN l) := by decide +kernel
theorem tB : ∀ l, l < 127 → 32 ≤ l → Str.ofString "!" ++ (⟨#[l]⟩ : Str) = mkS (wordN (l + 128)) ∧ (⟨#[l]⟩ : Str) = mkS (wordN l) := by decide +kernel
theorem tC : Str.ofString "!" ++ Str.ofString "^\u009f" = mkS (wordN 255) ∧ Str.ofString "^\u009f" = mkS (wordN 127) := by decide +kernel
theorem tD : ∀ l, l < 128 → ¬ (32 ≤ l ∧ l ≤ 126) → Str.ofString "!" ++ (Str.ofString "^" ++ (⟨#[(Builtin.bitOr ((l : Nat) : Int) 32 + 32).toNat]⟩ : Str)) = mkS (wordN (l + 128)) ∧ Str.ofString "^" ++ (⟨#[(Builtin.bitOr ((l : Nat) : Int) 32 + 32).toNat]⟩ : Str) = mkS (wordN l) := by decide +kernel
theorem tE : ∀ l, l < 128 → 0 ≤ Builtin.bitOr ((l : Nat) : Int) 32 + 32 ∧ Builtin.bitOr ((l : Nat) : Int) 32 + 32 ≤ 1114111 := by decide +kernel
theorem bit127 (x : Int) : Builtin.bitAnd x 127 = x % 128 := kbt_mask x 7
theorem bit128 (x : Int) : Builtin.bitAnd x 128 = (x / 128 % 2) * 128 := kbt_bit x 7
theorem or_bound (x : Int) : 0 ≤ Builtin.bitOr (Builtin.bitAnd x 127) 32 + 32 ∧ Builtin.bitOr (Builtin.bitAnd x 127) 32 + 32 ≤ 1114111 := by
  rw [bit127, ← lowI x]
  exact tE _ (low_lt x)
/-- unctrl's ways -/
theorem wy1 {x : Int} (h : x = 127) : Str.ofString "^?" = wordOf x := by rw [h]; decide +kernel
theorem wy2 {x : Int} (h : x = 127) (h2 : Builtin.bitAnd x 128 ≠ 0) : Str.ofString "!" ++ Str.ofString "^?" = wordOf x := by rw [h] at h2; exact absurd rfl h2
theorem wy3 {x : Int} (h : ¬ x = 127) (h1 : 32 ≤ Builtin.bitAnd x 127) (h2 : Builtin.bitAnd x 127 ≤ 126) (h3 : Builtin.bitAnd x 128 ≠ 0) : Str.ofString "!" ++ (⟨#[(Builtin.bitAnd x 127).toNat]⟩ : Str) = wordOf x := by
  rw [bit127] at *
  rw [bit128] at h3
  rw [word_hi (hi_of h3)]
  exact (tB _ (low_l 127 (Int.lt_add_one_of_le h2)) (low_g 32 (Int.not_lt.mpr h1))).1
theorem wy4 {x : Int} (h : ¬ x = 127) (h1 : 32 ≤ Builtin.bitAnd x 127) (h2 : Builtin.bitAnd x 127 ≤ 126) (h3 : ¬ Builtin.bitAnd x 128 ≠ 0) : (⟨#[(Builtin.bitAnd x 127).toNat]⟩ : Str) = wordOf x := by
  rw [bit127] at *
  rw [bit128] at h3
  rw [word_lo h (lo_of h3)]
  exact (tB _ (low_l 127 (Int.lt_add_one_of_le h2)) (low_g 32 (Int.not_lt.mpr h1))).2
theorem low_n {x : Int} (h1 : ¬ (32 ≤ x % 128 ∧ x % 128 ≤ 126)) : ¬ (32 ≤ (x % 128).toNat ∧ (x % 128).toNat ≤ 126) := fun k => h1 (by rw [← lowI x]; exact ⟨Int.ofNat_le.mpr k.1, Int.ofNat_le.mpr k.2⟩)
theorem wy5 {x : Int} (h1 : ¬ (32 ≤ Builtin.bitAnd x 127 ∧ Builtin.bitAnd x 127 ≤ 126)) (h3 : Builtin.bitAnd x 128 ≠ 0) :
    Str.ofString "!" ++ (Str.ofString "^" ++ (⟨#[(Builtin.bitOr (Builtin.bitAnd x 127) 32 + 32).toNat]⟩ : Str)) = wordOf x := by
  rw [bit127] at *
  rw [bit128] at h3
  rw [← lowI x, word_hi (hi_of h3)]
  exact (tD _ (low_lt x) (low_n h1)).1
theorem wy6 {x : Int} (h : ¬ x = 127) (h1 : ¬ (32 ≤ Builtin.bitAnd x 127 ∧ Builtin.bitAnd x 127 ≤ 126)) (h3 : ¬ Builtin.bitAnd x 128 ≠ 0) :
    (Str.ofString "^" ++ (⟨#[(Builtin.bitOr (Builtin.bitAnd x 127) 32 + 32).toNat]⟩ : Str)) = wordOf x := by
  rw [bit127] at *
  rw [bit128] at h3
  rw [← lowI x, word_lo h (lo_of h3)]
  exact (tD _ (low_lt x) (low_n h1)).2
theorem fm128 (x : Int) : x.fmod 128 = x % 128 := Int.fmod_eq_emod_of_nonneg x (by decide)
theorem fm256 (x : Int) : x.fmod 256 = x % 256 := Int.fmod_eq_emod_of_nonneg x (by decide)
theorem hi_f {x : Int} (h : 127 < x.fmod 256) : ¬ x % 256 < 128 := Int.not_lt.mpr (fm256 x ▸ h)
theorem lo_f {x : Int} (h : ¬ 127 < x.fmod 256) : x % 256 < 128 := Int.lt_add_one_of_le (Int.not_lt.mp (fm256 x ▸ h))
/-- _law_word's ways -/
theorem lw1 {x : Int} (h : x.fmod 128 < 32) (h2 : 127 < x.fmod 256) : Str.ofString "!" ++ (Str.ofString "^" ++ (⟨#[(x.fmod 128 + 64).toNat]⟩ : Str)) = wordOf x := by
  rw [fm128] at *
  rw [word_hi (hi_f h2), Int.toNat_add (nn128 x) (by decide)]
  exact (tA _ (low_l 32 h)).1
theorem lw2 {x : Int} (h : x.fmod 128 < 32) (h2 : ¬ 127 < x.fmod 256) : Str.ofString "^" ++ (⟨#[(x.fmod 128 + 64).toNat]⟩ : Str) = wordOf x := by
  rw [fm128] at *
  rw [word_lo (fun e => absurd (e ▸ h) (by decide)) (lo_f h2), Int.toNat_add (nn128 x) (by decide)]
  exact (tA _ (low_l 32 h)).2
theorem lw3 {x : Int} (h : ¬ x.fmod 128 < 32) (h1 : x.fmod 128 < 127) (h2 : 127 < x.fmod 256) : Str.ofString "!" ++ (⟨#[(x.fmod 128).toNat]⟩ : Str) = wordOf x := by
  rw [fm128] at *
  rw [word_hi (hi_f h2)]
  exact (tB _ (low_l 127 h1) (low_g 32 h)).1
theorem lw4 {x : Int} (h : ¬ x.fmod 128 < 32) (h1 : x.fmod 128 < 127) (h2 : ¬ 127 < x.fmod 256) : (⟨#[(x.fmod 128).toNat]⟩ : Str) = wordOf x := by
  rw [fm128] at *
  rw [word_lo (fun e => absurd (e ▸ h1) (by decide)) (lo_f h2)]
  exact (tB _ (low_l 127 h1) (low_g 32 h)).2
theorem low_127 {x : Int} (h : ¬ x % 128 < 127) : (x % 128).toNat = 127 := Nat.le_antisymm (Nat.le_of_lt_succ (low_lt x)) (low_g 127 h)
theorem lw6 {x : Int} (h : ¬ x.fmod 128 < 127) (h2 : 127 < x.fmod 256) : Str.ofString "!" ++ Str.ofString "^\u009f" = wordOf x := by
  rw [fm128] at *
  rw [word_hi (hi_f h2), low_127 h]
  exact tC.1
theorem lw7 {x : Int} (h : ¬ x.fmod 128 < 127) (h0 : ¬ x = 127) (h2 : ¬ 127 < x.fmod 256) : Str.ofString "^\u009f" = wordOf x := by
  rw [fm128] at *
  rw [word_lo h0 (lo_f h2), low_127 h]
  exact tC.2
/-- _law_places -/
noncomputable def plN (x : Int) : Int := let low := x % 128; if low < 32 then low + 64 else if low < 95 then low - 32 else if low < 127 then low + 2 else if x = 127 then 63 else 96
noncomputable def ltN (x : Int) : Int := if x % 128 = 94 then 95 else plN x - (if 62 < plN x ∧ plN x < 96 then 1 else 0)
noncomputable def pl0a (x : Int) : Int := if 127 < x % 256 then 1 else if x % 128 = 33 then 1 else if x % 128 = 125 then -1 else plN x
noncomputable def pl0b (x : Int) : Int := if 127 < x % 256 then (if x % 128 = 125 then 1 else plN x + 2) else 0
noncomputable def pl1a (x : Int) : Int := if 127 < x % 256 then 1 else if x % 128 = 33 then 1 else ltN x
noncomputable def pl1b (x : Int) : Int := if 127 < x % 256 then 2 * ltN x else if x % 128 = 33 then 253 else 0
/-- _law_pairs' values -/
noncomputable def hiN (x : Int) : Nat := (x / 256 % 55296).toNat
noncomputable def wdC (x : Int) : Nat := ((x + 128) % 55296).toNat
noncomputable def loC (x : Int) : Nat := (x % 55296).toNat
noncomputable def chS (n : Nat) : Str := ⟨#[n]⟩
noncomputable def fullS : Str := Str.ofString "\t\n\r\"&<>\t\n\r\"&<>&lt;"
theorem fd256 (x : Int) : x.fdiv 256 = x / 256 := Int.fdiv_eq_ediv_of_nonneg x (by decide)
theorem fm5 (x : Int) : x.fmod 55296 = x % 55296 := Int.fmod_eq_emod_of_nonneg x (by decide)
theorem m55 (y : Int) : (y % 55296).toNat < 55296 := (Int.toNat_lt (Int.emod_nonneg _ (by decide))).mpr (Int.emod_lt_of_pos _ (by decide))
theorem hiN_eq (x : Int) : (x.fdiv 256).fmod 55296 = (hiN x : Int) := by rw [fd256, fm5, hiN]; exact (Int.toNat_of_nonneg (Int.emod_nonneg _ (by decide))).symm
theorem hiN_lt (x : Int) : hiN x < 55296 := by exact m55 _
theorem loC_lt (x : Int) : loC x < 55296 := by exact m55 _
theorem wdC_lt (x : Int) : wdC x < 55296 := by exact m55 _
noncomputable abbrev tupP (l : Str) (t : Tok) (y : Int) (t' : Tok) (v : Str) (t'' : Tok) : Obj := { cls := .type "tuple", data := .seq #[.str l t, .int y t', .str v t''] }
end
section
/-- one sign spelled otherwise -/
noncomputable def repL (c : Nat) (b : List Nat) (l : List Nat) : List Nat := l.flatMap fun k => if k = c then b else [k]
noncomputable def rep (c : Nat) (b : Str) (x : Str) : Str := ⟨(repL c b.cps.toList x.cps.toList).toArray⟩
theorem repL_app {c : Nat} {b l r : List Nat} : repL c b (l ++ r) = repL c b l ++ repL c b r := by simp [repL]
theorem repL_free {c : Nat} {b : List Nat} : ∀ {l : List Nat}, c ∉ l → repL c b l = l
  | [], _ => rfl
  | k :: r, h => by
    simp only [List.mem_cons, not_or] at h
    have := repL_free (b := b) h.2
    unfold repL at this ⊢
    rw [List.flatMap_cons, this, if_neg (fun e => h.1 e.symm)]; rfl
theorem repL_join (c : Nat) (b : Str) : ∀ parts : List Str, (∀ p ∈ parts, c ∉ p.cps.toList) → repL c b.cps.toList (Str.join ⟨#[c]⟩ parts).cps.toList = (Str.join b parts).cps.toList
  | [], _ => rfl
  | [p], h => repL_free (h p (List.mem_singleton.mpr rfl))
  | p :: q :: r, h => by
    have ih := repL_join c b (q :: r) fun a ha => h a (List.mem_cons_of_mem _ ha)
    show repL c b.cps.toList (p ++ ⟨#[c]⟩ ++ Str.join ⟨#[c]⟩ (q :: r)).cps.toList = (p ++ b ++ Str.join b (q :: r)).cps.toList
    simp only [Str.cps_append, Array.toList_append]
    rw [repL_app, repL_app, ih, repL_free (h p (List.mem_cons_self ..))]
    have e : repL c b.cps.toList [c] = b.cps.toList := by simp [repL]
    show p.cps.toList ++ repL c b.cps.toList [c] ++ _ = _
    rw [e]
theorem replace_rep (x b : Str) (c : Nat) : Txt.replace x ⟨#[c]⟩ b = rep c b x := by
  have h : (Txt.replace x ⟨#[c]⟩ b).cps.toList = repL c b.cps.toList x.cps.toList := by
    rw [StrLaws.replace_one, ← repL_join c b _ (StrLaws.split_free x c), StrLaws.join_split]
  have h2 : (Txt.replace x ⟨#[c]⟩ b).cps = (repL c b.cps.toList x.cps.toList).toArray := by rw [← h]
  show _ = Str.mk _
  rw [← h2]
theorem rep_free {x b : Str} {c : Nat} (h : c ∉ x.cps.toList) : rep c b x = x := by
  unfold rep; rw [repL_free h]
theorem repL_len {c n : Nat} {b : List Nat} (hb : b.length ≤ n) (hn : 1 ≤ n) : ∀ l : List Nat, (repL c b l).length ≤ n * l.length
  | [] => Nat.zero_le _
  | k :: r => by
    have ih := repL_len hb hn (c := c) r
    unfold repL at ih ⊢
    rw [List.flatMap_cons, List.length_append, List.length_cons, Nat.mul_succ]
    have : (if k = c then b else [k]).length ≤ n := by
      split
      · exact hb
      · exact hn
    lia
theorem rep_len {x b : Str} {c n : Nat} (hb : b.length ≤ n) (hn : 1 ≤ n) : (rep c b x).length ≤ n * x.length := by
  have := repL_len (c := c) (b := b.cps.toList) (n := n) (by rw [Array.length_toList]; exact hb) hn x.cps.toList
  rw [Array.length_toList] at this
  show (List.toArray _).size ≤ _
  rw [List.size_toArray]; exact this
noncomputable def escS (x : Str) : Str := rep 13 (Str.ofString "&#xD;") (rep 10 (Str.ofString "&#xA;") (rep 9 (Str.ofString "&#x9;") (rep 34 (Str.ofString "&quot;") (rep 60 (Str.ofString "&lt;") (rep 38 (Str.ofString "&amp;") x)))))
/-- the sign's own spelling -/
noncomputable def splN (k : Nat) : List Nat := if k = 38 then (Str.ofString "&amp;").cps.toList else if k = 60 then (Str.ofString "&lt;").cps.toList else if k = 34 then (Str.ofString "&quot;").cps.toList else if k = 9 then (Str.ofString "&#x9;").cps.toList else if k = 10 then (Str.ofString "&#xA;").cps.toList else if k = 13 then (Str.ofString "&#xD;").cps.toList else [k]
theorem repL_map {c : Nat} {b : List Nat} {f : Nat → List Nat} : ∀ l : List Nat, repL c b (l.flatMap f) = l.flatMap fun k => repL c b (f k)
  | [] => rfl
  | k :: r => by rw [List.flatMap_cons, List.flatMap_cons, repL_app, repL_map r]
theorem escS_eq (x : Str) : escS x = ⟨(x.cps.toList.flatMap splN).toArray⟩ := by
  unfold escS rep
  simp only [List.toList_toArray]
  rw [show ∀ l, repL 38 (Str.ofString "&amp;").cps.toList l = l.flatMap (fun k => if k = 38 then (Str.ofString "&amp;").cps.toList else [k]) from fun _ => rfl]
  rw [repL_map, repL_map, repL_map, repL_map, repL_map]
  refine congrArg (fun l : List Nat => (⟨l.toArray⟩ : Str)) (congrArg (fun f => List.flatMap f x.cps.toList) ?_)
  funext k
  unfold splN
  by_cases h1 : k = 38
  · subst h1; decide +kernel
  by_cases h2 : k = 60
  · subst h2; decide +kernel
  by_cases h3 : k = 34
  · subst h3; decide +kernel
  by_cases h4 : k = 9
  · subst h4; decide +kernel
  by_cases h5 : k = 10
  · subst h5; decide +kernel
  by_cases h6 : k = 13
  · subst h6; decide +kernel
  simp [repL, h1, h2, h3, h4, h5, h6]
noncomputable def escR (x : Str) : Str := Txt.replace (Txt.replace (Txt.replace (Txt.replace (Txt.replace (Txt.replace x (Str.ofString "&") (Str.ofString "&amp;")) (Str.ofString "<") (Str.ofString "&lt;")) (Str.ofString "\"") (Str.ofString "&quot;")) (Str.ofString "\t") (Str.ofString "&#x9;")) (Str.ofString "\n") (Str.ofString "&#xA;")) (Str.ofString "\r") (Str.ofString "&#xD;")
theorem escR_eq (x : Str) : escR x = escS x := by
  unfold escR escS
  rw [show Str.ofString "&" = ⟨#[38]⟩ by decide +kernel, show Str.ofString "<" = ⟨#[60]⟩ by decide +kernel, show Str.ofString "\"" = ⟨#[34]⟩ by decide +kernel, show Str.ofString "\t" = ⟨#[9]⟩ by decide +kernel, show Str.ofString "\n" = ⟨#[10]⟩ by decide +kernel, show Str.ofString "\r" = ⟨#[13]⟩ by decide +kernel]
  simp only [replace_rep]
theorem replace_len {x ch b : Str} {n : Nat} (hch : ch = ⟨#[ch.cps.getD 0 0]⟩) (hb : b.length ≤ 6) (hx : x.length ≤ n) : (Txt.replace x ch b).length ≤ 6 * n := by
  rw [hch, replace_rep]
  exact Nat.le_trans (rep_len hb (by decide)) (Nat.mul_le_mul_left _ hx)
theorem splN_len (k : Nat) : (splN k).length ≤ 6 := by
  unfold splN
  repeat' split
  all_goals first | decide +kernel | simp
theorem flatMap_len {α β : Type} {f : α → List β} {n : Nat} (h : ∀ a, (f a).length ≤ n) : ∀ l : List α, (l.flatMap f).length ≤ n * l.length
  | [] => Nat.zero_le _
  | k :: r => by
    have := flatMap_len h r
    have := h k
    rw [List.flatMap_cons, List.length_append, List.length_cons, Nat.mul_succ]; lia
theorem escS_len (x : Str) : (escS x).length ≤ 6 * x.length := by
  rw [escS_eq]
  show (List.toArray _).size ≤ _
  rw [List.size_toArray]
  have := flatMap_len splN_len x.cps.toList
  rw [Array.length_toList] at this
  exact this
end
section
/-! generators: what a sleeping generator will still give -/
noncomputable def HasI (I : List (Addr × Obj)) (h : Heap) : Prop := ∀ p ∈ I, h.get? p.1 = some p.2
noncomputable def TransI (I I' : List (Addr × Obj)) (s s' : Shared) : Prop :=
  ∃ h tk, s' = { s with heap := h, toks := tk } ∧ (∀ b o, s.heap.get? b = some o → b ∉ I.map (·.1) → h.get? b = some o) ∧ HasI I' h ∧
    ∀ p ∈ I', p.1 ∈ I.map (·.1) ∨ s.heap.get? p.1 = none
theorem TransI.trans {I I₁ I₂ : List (Addr × Obj)} {s s₁ s₂ : Shared} (x : TransI I I₁ s s₁) (y : TransI I₁ I₂ s₁ s₂) : TransI I I₂ s s₂ := by
  (refine e2a4 x fun h tk y3_ k1 a1 f1 => ?_; try clear x; obtain rfl := y3_)
  (refine e2a4 y fun h' tk' y3_ k2 a2 f2 => ?_; try clear y; obtain rfl := y3_)
  have off : ∀ b o, s.heap.get? b = some o → b ∉ I.map (·.1) → b ∉ I₁.map (·.1) := fun b o e hn hm => by
    (refine e1a2 (List.mem_map.mp hm) fun p hp y3_ => ?_; obtain rfl := y3_)
    rcases f1 p hp with q | q
    · exact hn q
    · rw [q] at e; cases e
  refine exI2 h' tk' (anI4 rfl (fun b o e hn => k2 b o (k1 b o e hn) (off b o e hn)) a2 (fun p hp => ?_))
  rcases f2 p hp with q | q
  · (refine e1a2 (List.mem_map.mp q) fun p' hp' e => ?_)
    rw [← e]; exact f1 p' hp'
  · cases e : s.heap.get? p.1 with
    | none => exact .inr rfl
    | some o =>
      refine .inl (Classical.byContradiction fun hn => ?_)
      have := k1 p.1 o e hn
      rw [this] at q; cases q
theorem TransI.keepS {I I' S : List (Addr × Obj)} {s s' : Shared} (x : TransI I I' s s') (hS : HasI S s.heap) (hd : ∀ p ∈ S, p.1 ∉ I.map (·.1)) : HasI S s'.heap := by
  (refine e2a4 x fun h tk y3_ k1 _ _ => ?_; try clear x; obtain rfl := y3_)
  exact fun p hp => k1 _ _ (hS p hp) (hd p hp)
noncomputable abbrev Waker := Shared → (End → Shared → Prop) → Prop
noncomputable def Emits (M : Model) (A : Around) (S : List (Addr × Obj)) : List Value → List (Addr × Obj) → Waker → Prop
  | [], I, wk => ∀ s P, HasI S s.heap → HasI I s.heap → (∀ p ∈ S, p.1 ∉ I.map (·.1)) → (∀ s', TransI I [] s s' → P (.ret (.ok (.ret .none))) s') → wk s P
  | v :: vs, I, wk => ∀ s P, HasI S s.heap → HasI I s.heap → (∀ p ∈ S, p.1 ∉ I.map (·.1)) → (∀ s' I' k l c p fs, TransI I I' s s' → fs.any Frame.guarded = false →
      Emits M A S vs I' (fun s P => SegX M A c (k (.send .none)) fs s P) → P (.susp v false l k c p fs) s') → wk s P
/-- steps ahead of what is given -/
theorem Emits.step {M : Model} {A : Around} {S : List (Addr × Obj)} {I : List (Addr × Obj)} {wk : Waker} {items : List Value}
    (h : ∀ s P, HasI S s.heap → HasI I s.heap → (∀ p ∈ S, p.1 ∉ I.map (·.1)) → (∀ s₁ I₁ (wk₁ : Waker), TransI I I₁ s s₁ → Emits M A S items I₁ wk₁ → wk₁ s₁ P) → wk s P) : Emits M A S items I wk := by
  have key : ∀ s s₁ I₁, HasI S s.heap → (∀ p ∈ S, p.1 ∉ I.map (·.1)) → TransI I I₁ s s₁ → HasI S s₁.heap ∧ HasI I₁ s₁.heap ∧ ∀ p ∈ S, p.1 ∉ I₁.map (·.1) := fun s s₁ I₁ hS hd t => by
    refine ⟨t.keepS hS hd, by (refine e2a4 t fun h tk y3_ _ a _ => ?_; try clear t; obtain rfl := y3_); exact a, fun p hp hm => ?_⟩
    (refine e1a2 (List.mem_map.mp hm) fun q hq e => ?_)
    (refine e2a4 t fun h tk y3_ _ a f => ?_; try clear t; obtain rfl := y3_)
    rcases f q hq with z | z
    · rw [e] at z; exact hd p hp z
    · rw [e, hS p hp] at z; cases z
  cases items with
  | nil =>
    intro s P hS hI hd hP
    refine h s P hS hI hd fun s₁ I₁ wk₁ t em => ?_
    (refine an3 (key s s₁ I₁ hS hd t) fun a b c => ?_)
    exact em s₁ P a b c fun s' t' => hP s' (t.trans t')
  | cons v vs =>
    intro s P hS hI hd hP
    refine h s P hS hI hd fun s₁ I₁ wk₁ t em => ?_
    (refine an3 (key s s₁ I₁ hS hd t) fun a b c => ?_)
    exact em s₁ P a b c fun s' I' k l c p fs t' hg e => hP s' I' k l c p fs (t.trans t') hg e
section sx
variable {prog : Program} {w : World} {A : Around} {c : Code} {fs : List Frame} {P : End → Shared → Prop} {s : Shared}
theorem sx_wrap {α : Type} {m : Sem α} {K : α → Sem Fin} {H : Value → Sem Fin} {gd lv}
    (h : wpAny (model prog w) (A.over c fs) m (fun a s' => SegX (model prog w) A c (K a) fs s' P) (fun x s' => SegX (model prog w) A c (H x) fs s' P) s) :
    SegX (model prog w) A c (m.wrap K H gd lv) fs s P := by
  rintro Γ p rfl hΓ
  (refine e2a2 (runs_wrap_of_wp (Φ := fun e s' => e.quiet = true ∧ P e s') K H gd lv m (h (Γ.over fs) p (hΓ.over fs)) (fun a p' s' h' => h' Γ p' rfl hΓ) (fun x p' s' h' => h' Γ p' rfl hΓ)) fun e s' hr hq => ?_)
  exact exI2 e s' ⟨hr, hq⟩
theorem sx_bind {α : Type} {m : Sem α} {K : α → Sem Fin}
    (h : wpAny (model prog w) (A.over c fs) m (fun a s' => SegX (model prog w) A c (K a) fs s' P) (fun x s' => SegX (model prog w) A c (.raise x) fs s' P) s) :
    SegX (model prog w) A c (m >>= K) fs s P := by
  rw [Sem.bind_eq_wrap']; exact sx_wrap h
variable {env : Env} {K : Flow → Sem Fin} {H : Value → Sem Fin} {gd : Bool → Bool} {lv : List Value → List Value}
theorem sx_func {body : List Stmt}
    (h : SegX (model prog w) A (.func body env) ((execs body env).wrap (fun f => .pure (.done (.ret (match f with | .ret v => v | _ => .none))))
      (fun e => (leaving env e).wrap (fun _ => .raise e) .raise id id) id id) fs s P) :
    SegX (model prog w) A (.func body env) (denote table (.func body env)) fs s P := by
  show SegX _ A _ (.point [] fun _ => ((execs body env).onRaise (leaving env)) >>= _) fs s P
  refine s_skim _ _ _ _ _ _ _ _ 1 ?_
  show SegX _ A _ (((execs body env).onRaise (leaving env)) >>= _) fs s P
  rw [Sem.onRaise_eq_wrap, Sem.bind_eq_wrap', Sem.wrap_wrap]
  rw [Sem.wrap_congr (execs body env) _ _ (K' := fun f => .pure (.done (.ret (match f with | .ret v => v | _ => .none))))
    (H' := fun e => (leaving env e).wrap (fun _ => .raise e) .raise id id) (fun f => by cases f <;> rfl)
    (fun e => by rw [Sem.bind_eq_wrap, Sem.wrap_wrap]; rfl)]
  exact h
theorem sx_execs_nil (h : SegX (model prog w) A c (K .next) fs s P) : SegX (model prog w) A c ((execs [] env).wrap K H gd lv) fs s P := h
theorem sx_execs_cons {st : Stmt} {rest : List Stmt}
    (h : SegX (model prog w) A c ((exec st env).wrap (fun f => match f with | .next => (execs rest env).wrap K H gd lv | f => K f) H gd lv) fs s P) :
    SegX (model prog w) A c ((execs (st :: rest) env).wrap K H gd lv) fs s P := by rw [execs_cons_wrap]; exact h
/-- a for: its iterator, then the loop's own activation -/
theorem sx_For {target iter : Expr} {body orelse : List Stmt} {pos : Pos}
    (h : wpAny (model prog w) (A.over c fs) (do
        let x ← foldedSetIterable iter env (← eval iter env)
        standAt iter.pos
        holding [x] (pyIter x)) (fun it s' => ∀ k p, (∀ r, k r = ((match r with | .ok f => (.pure f : Sem Flow) | .error e => .raise e).onRaise fun (x : Value) => do
        if (← field x 1) == Value.none then unsupported "frame.own-activation:exception-without-traceback"
        setFlight x env.frame).wrap K H gd lv) → SegX (model prog w) A (.forLoop target it body orelse env) (denote table (.forLoop target it body orelse env)) (.ret k none (gd false) (lv []) c p [] :: fs) s' P)
        (fun x s' => SegX (model prog w) A c (H x) fs s' P) s) :
    SegX (model prog w) A c ((exec (.For target iter body orelse pos) env).wrap K H gd lv) fs s P := by
  rw [exec_For]
  have e : (do
    standAt pos
    let x ← foldedSetIterable iter env (← eval iter env)
    standAt iter.pos
    runOwn (.forLoop target (← holding [x] (pyIter x)) body orelse env) env : Sem Flow) = standAt pos >>= fun _ => (do
        let x ← foldedSetIterable iter env (← eval iter env)
        standAt iter.pos
        holding [x] (pyIter x)) >>= fun it => runOwn (.forLoop target it body orelse env) env := by
    simp only [bind_assoc]
  rw [e, Sem.bind_eq_wrap', Sem.wrap_wrap]
  refine sx_wrap (wpAny_standAt ?_)
  (try dsimp only)
  rw [Sem.bind_eq_wrap', Sem.wrap_wrap]
  refine sx_wrap (wpAny_mono h (fun it s' h' => ?_) fun _ _ x => x)
  exact s_call _ _ _ _ _ _ _ _ _ _ _ _ fun p => h' _ p fun r => rfl
noncomputable abbrev loopK (target : Expr) (it : Value) (body orelse : List Stmt) (env : Env) : Flow → Sem Fin := fun f => match f with
  | .next | .cont => .pure (.again (.forLoop target it body orelse env))
  | .brk => .pure (.done .next)
  | .ret v => .pure (.done (.ret v))
noncomputable abbrev loopH (env : Env) : Value → Sem Fin := fun e => (do noteFrame e env; theTreesLotGoes e : Sem Unit).wrap (fun _ => .raise e) .raise id id
theorem sx_forLoop {target : Expr} {it : Value} {body : List Stmt} (ht : ∀ v, letOwnedTupleGo target it v = pure ())
    (h : wpAny (model prog w) (A.over (.forLoop target it body [] env) fs) (pyNext it) (fun r s₁ => match r with
        | none => SegX (model prog w) A (.block [] env) (denote table (.block [] env)) fs s₁ P
        | some v => wpAny (model prog w) (A.over (.forLoop target it body [] env) fs) (assign target env v) (fun _ s₂ =>
            SegX (model prog w) A (.forLoop target it body [] env) ((execs body env).wrap (loopK target it body [] env) (loopH env) id id) fs s₂ P) (fun _ _ => False) s₁) (fun _ _ => False) s) :
    SegX (model prog w) A (.forLoop target it body [] env) (denote table (.forLoop target it body [] env)) fs s P := by
  show SegX _ A _ ((forTurn target it body [] env).onRaise (fun x => do noteFrame x env; theTreesLotGoes x)) fs s P
  unfold forTurn
  rw [Sem.onRaise_eq_wrap, Sem.bind_eq_wrap', Sem.wrap_wrap]
  refine sx_wrap (wpAny_standAt ?_)
  rw [Sem.bind_eq_wrap', Sem.onRaise_eq_wrap, Sem.wrap_wrap, Sem.wrap_wrap]
  refine sx_wrap (wpAny_mono h (fun r s₁ h₁ => ?_) fun _ _ x => x.elim)
  cases r with
  | none => exact s_again _ _ _ _ _ _ _ _ rfl h₁
  | some v =>
    show SegX _ A _ (Sem.wrap _ _ _ _ (letOwnedTupleGo target it v >>= _)) fs s₁ P
    rw [ht v, pure_bind, Sem.bind_eq_wrap', Sem.wrap_wrap]
    refine sx_wrap (wpAny_mono h₁ (fun _ s₂ h₂ => ?_) fun _ _ x => x.elim)
    rw [Sem.bind_eq_wrap', Sem.wrap_wrap]
    rw [Sem.wrap_congr (execs body env) _ _ (K' := loopK target it body [] env) (H' := loopH env)
      (fun f => by cases f <;> rfl) (fun e => by first | exact Sem.bind_eq_wrap _ _ | (show (do noteFrame e env; theTreesLotGoes e : Sem Unit).bind (fun _ => .raise e) = _; rw [Sem.bind_eq_wrap]))]
    exact h₂
theorem sx_block_nil (h : SegX (model prog w) A (.block [] env) (.pure (.done .next)) fs s P) : SegX (model prog w) A (.block [] env) (denote table (.block [] env)) fs s P := h
theorem sx_If {test : Expr} {body orelse : List Stmt} {pos : Pos}
    (h : wpAny (model prog w) (A.over c fs) (isTrue test env (eval test env)) (fun b s' => if b = true then SegX (model prog w) A c ((execs body env).wrap K H gd lv) fs s' P else SegX (model prog w) A c ((execs orelse env).wrap K H gd lv) fs s' P) (fun _ _ => False) s) :
    SegX (model prog w) A c ((exec (.If test body orelse pos) env).wrap K H gd lv) fs s P := by
  show SegX _ A _ ((standAt pos >>= fun _ => (isTrue test env (eval test env) >>= fun b => if b = true then execs body env else execs orelse env)).wrap K H gd lv) fs s P
  rw [Sem.bind_eq_wrap', Sem.wrap_wrap]
  refine sx_wrap (wpAny_standAt ?_)
  rw [Sem.bind_eq_wrap', Sem.wrap_wrap]
  refine sx_wrap (wpAny_mono h (fun b s' hb => ?_) fun _ _ x => x.elim)
  cases b with
  | true => rw [if_pos rfl] at hb; exact hb
  | false => rw [if_neg Bool.false_ne_true] at hb; exact hb
/-- yield from a list: the iterator, then the delegate's own activation -/
theorem sx_Expr_YieldFrom {e : Expr} {ypos pos : Pos} {l : Addr} {items : Array Value}
    (h : wpAny (model prog w) (A.over c fs) (eval e env) (fun v s₁ => v = .ref l ∧ s₁.heap.IsList l items ∧
        ∀ (k : Result → Sem Fin) p, (∀ x, k (.ok (.ret x)) = (dropValue (.YieldFrom e ypos) pos x).wrap K H gd lv) →
          SegX (model prog w) A (.builtin "proto.yield_from" ⟨[.ref s₁.heap.objs.size, .bool false, .none], []⟩) (denote table (.builtin "proto.yield_from" ⟨[.ref s₁.heap.objs.size, .bool false, .none], []⟩))
            (.ret k none (gd false) (lv []) c p [] :: fs) { s₁ with heap := s₁.heap.push { cls := .type "list_iterator", data := .fields #[.ref l, .int 0 0] } } P) (fun _ _ => False) s)
    (hi : interactive env = false) :
    SegX (model prog w) A c ((exec (.Expr (.YieldFrom e ypos) pos) env).wrap K H gd lv) fs s P := by
  rw [exec_Expr env _ pos hi rfl]
  show SegX (model prog w) A c (.at pos fun _ => ((eval e env >>= fun v => (standAt ypos >>= fun _ => yieldFrom env v)) >>= fun x =>
    dropValue (.YieldFrom e ypos) pos x).wrap K H gd lv) fs s P
  refine s_skim _ _ _ _ _ _ _ _ 1 ?_
  show SegX (model prog w) A c (((eval e env >>= fun v => (standAt ypos >>= fun _ => yieldFrom env v)) >>= fun x =>
    dropValue (.YieldFrom e ypos) pos x).wrap K H gd lv) fs s P
  rw [Sem.bind_eq_wrap', Sem.bind_eq_wrap', Sem.wrap_wrap, Sem.wrap_wrap]
  refine sx_wrap (wpAny_mono h (fun v s₁ h₁ => ?_) fun _ _ x => x.elim)
  (refine an3 h₁ ?_; clear h₁; refine fun y1_ hl h₁ => ?_; obtain rfl := y1_)
  rw [Sem.bind_eq_wrap', Sem.wrap_wrap]
  refine sx_wrap (wpAny_standAt ?_)
  unfold yieldFrom
  rw [Sem.bind_eq_wrap', Sem.wrap_wrap]
  refine sx_wrap (wpAny_typeOf hl.typeIs ?_)
  simp only [show (Value.type "list" == Value.type "coroutine") = false by decide, Bool.false_eq_true, if_false]
  rw [Sem.bind_eq_wrap', Sem.wrap_wrap]
  refine sx_wrap (wpAny_holding (wpAny_pyIter_list hl ?_))
  unfold runValue run
  rw [Sem.bind_eq_wrap', Sem.wrap_wrap]
  exact s_call _ _ _ _ _ _ _ _ _ _ _ _ fun p => h₁ _ p fun x => rfl
theorem entry_yf : entryFor table "proto.yield_from" = some Builtin.«proto.yield_from» := entryFor_of_tree (by kernel_rfl)
theorem lk_li_close : typeLookup (.type "list_iterator") "close" = pure none := by rw [typeLookup_type, builtinLookup_eq_fast]; kernel_rfl
noncomputable abbrev yfC (it : Addr) : Code := .builtin "proto.yield_from" ⟨[.ref it, .bool false, .none], []⟩
theorem den_builtin {id : String} {b : Builtin} {args : Args} (h : entryFor table id = some b) : denote table (.builtin id args) = b args := by
  simp only [denote, h]
theorem den_yf (it : Addr) : denote table (yfC it) = Builtin.«proto.yield_from» ⟨[.ref it, .bool false, .none], []⟩ := den_builtin entry_yf
theorem yf_eq (it : Addr) : Builtin.«proto.yield_from» ⟨[.ref it, .bool false, .none], []⟩ = (do
    match ← (do rule "yield-from.next"; match ← callSpecial? (.ref it) "__next__" with | some v => pure v | none => do rule "yield-from.send-none"; call (← getAttr (.ref it) "send") [.none] : Sem Value).attempt with
    | .error e =>
      if ← Builtin.Generator.endsTheTurnAsAValue false e then
        rule "yield-from.value"; return ← ret (← field e 5)
      throw e
    | .ok y =>
      let quiet ← match ← typeOf (.ref it) with
        | .type n => do pure (← typeLookup (.type n) "close").isNone
        | _ => pure false
      Builtin.Generator.sleptOver (.ref it) true
      let woken ← suspend y (cleanup := !quiet)
      Builtin.Generator.sleptOver (.ref it) false
      match woken with
      | .send v => again (.builtin "proto.yield_from" ⟨[.ref it, .bool false, ← (match v with | .ref _ => newList [v] | _ => pure v)], []⟩)
      | .throw e => again (.builtin "proto.yield_from" ⟨[.ref it, .bool true, ← (match e with | .ref _ => newList [e] | _ => pure e)], []⟩)) := by
  rfl
theorem li_next_item {it l : Addr} {i : Nat} {items : Array Value} {x : Value} {E : Value → Shared → Prop} {Q : Option Value → Shared → Prop} (hit : s.heap.IsListIter it l i)
    (hl : s.heap.IsList l items) (hx : items[i]? = some x)
    (hQ : ∀ h', h'.IsListIter it l (i + 1) → Heap.SameBut it s.heap h' → Q (some x) { s with heap := h' }) :
    wpAny (model prog w) A (callSpecial? (.ref it) "__next__") Q E s := by
  (refine e1a3 (id hit) fun o ho hc hd => ?_)
  (refine ex1 hl fun ol w1_ => an3 w1_ fun hol _ w2_ => ex1 w2_ fun nl hdl => ?_; clear w1_ w2_; try clear hl)
  refine wpAny_callSpecial?_slot (name := Str.ofString "__next__") hit.typeIs slot_listiter_next
    (wpAny_call_entry slot_listiter_next hit.typeIs entry_listiter_next ?_ (args_listiter_next _))
  show wpAny _ _ (field (.ref it) 0 >>= _) _ _ s
  refine wpAny_bind (wpAny_field ho hd (x := .ref l) rfl ?_)
  show wpAny _ _ (if (Value.ref l == Value.none) = true then _ else _) _ _ s
  rw [if_neg (show ¬ ((Value.ref l == Value.none) = true) from Bool.false_ne_true)]
  show wpAny _ _ (field (.ref it) 1 >>= _) _ _ s
  refine wpAny_bind (wpAny_field ho hd (x := .int i 0) rfl ?_)
  show wpAny _ _ (seqItems? (.ref l) >>= _) _ _ s
  refine wpAny_bind (wpAny_seqItems hol hdl ?_)
  simp only [Int.toNat_natCast, hx]
  refine wpAny_bind (wpAny_setField ho hd (by simp) (wpAny_pure ⟨x, rfl, (hQ _ ?_ (Heap.SameBut.update ..))⟩))
  exact ⟨_, Heap.get?_update_self _ ho (Obj.isFreed_of_fields (Obj.data_mapFields hd _)), (Obj.cls_mapFields ..).trans hc, by
    rw [Obj.data_mapFields hd]; simp [rawInt]⟩
theorem sleptOver_li {it l : Addr} {i : Nat} {b : Bool} {E : Value → Shared → Prop} {Q : Unit → Shared → Prop} (hit : s.heap.IsListIter it l i) (h : Q () s) :
    wpAny (model prog w) A (Builtin.Generator.sleptOver (.ref it) b) Q E s := by
  (refine e1a3 (id hit) fun o ho hc hd => ?_)
  unfold Builtin.Generator.sleptOver
  refine wpAny_bind (wpAny_load ho ?_)
  rw [hc]
  simp only [show (Value.type "list_iterator" != Value.type "generator") = true by decide, if_true]
  exact wpAny_pure h
/-- one more item of the list: given, and the rest to come -/
theorem sx_yf_item {it l : Addr} {i : Nat} {items : Array Value} {x : Value} (hit : s.heap.IsListIter it l i) (hl : s.heap.IsList l items) (hx : items[i]? = some x)
    (hfs : splitAtGen fs = none) (hfg : fs.any Frame.guarded = false)
    (h : ∀ h' k p, h'.IsListIter it l (i + 1) → Heap.SameBut it s.heap h' → (∀ s'' P', s''.heap.IsListIter it l (i + 1) → SegX (model prog w) A (yfC it) (denote table (yfC it)) fs s'' P' → SegX (model prog w) A (yfC it) (k (.send .none)) fs s'' P') →
      P (.susp x false [] k (yfC it) p fs) { s with heap := h' }) :
    SegX (model prog w) A (yfC it) (denote table (yfC it)) fs s P := by
  rw [den_yf, yf_eq]
  refine sx_bind (wpAny_attempt (wpAny_bind (wpAny_rule (wpAny_bind (li_next_item hit hl hx fun h' hit' hs => ?_)))))
  (try dsimp only)
  refine wpAny_pure ?_
  (try dsimp only)
  have hT : ({ s with heap := h' } : Shared).TypeIs (.ref it) "list_iterator" := hit'.typeIs
  refine sx_bind (wpAny_typeOf hT ?_)
  (try dsimp only)
  refine sx_bind (wpAny_of_eq lk_li_close ?_)
  refine sx_bind (wpAny_pure ?_)
  refine sx_bind (sleptOver_li hit' ?_)
  show SegX _ A _ (.yield x false [] _) fs _ P
  refine s_yield _ _ _ _ _ _ _ _ _ _ hfs hfg fun p => h h' _ p hit' hs fun s'' P' hit'' hgo => ?_
  refine sx_bind (wpAny_pure ?_)
  refine sx_bind (sleptOver_li hit'' ?_)
  (try dsimp only)
  refine sx_bind (wpAny_pure ?_)
  exact s_again _ _ _ _ _ _ _ _ (Code.quiet_builtin _ (by decide +kernel)) hgo
theorem li_next_end {it l : Addr} {i : Nat} {items : Array Value} {E : Value → Shared → Prop} {Q : Option Value → Shared → Prop} (hh : A.handled = none) (hit : s.heap.IsListIter it l i)
    (hl : s.heap.IsList l items) (hx : items[i]? = none)
    (hE : ∀ h' e oe, Heap.ExtBut it s.heap h' → h'.get? e = some oe → oe.cls = .type "StopIteration" → (∃ vs : Array Value, oe.data = .fields vs ∧ vs[5]? = some .none) → E (.ref e) { s with heap := h' }) :
    wpAny (model prog w) A (callSpecial? (.ref it) "__next__") Q E s := by
  (refine e1a3 (id hit) fun o ho hc hd => ?_)
  (refine ex1 hl fun ol w1_ => an3 w1_ fun hol _ w2_ => ex1 w2_ fun nl hdl => ?_; clear w1_ w2_; try clear hl)
  refine wpAny_callSpecial?_slot (name := Str.ofString "__next__") hit.typeIs slot_listiter_next
    (wpAny_call_entry slot_listiter_next hit.typeIs entry_listiter_next ?_ (args_listiter_next _))
  show wpAny _ _ (field (.ref it) 0 >>= _) _ _ s
  refine wpAny_bind (wpAny_field ho hd (x := .ref l) rfl ?_)
  show wpAny _ _ (if (Value.ref l == Value.none) = true then _ else _) _ _ s
  rw [if_neg (show ¬ ((Value.ref l == Value.none) = true) from Bool.false_ne_true)]
  show wpAny _ _ (field (.ref it) 1 >>= _) _ _ s
  refine wpAny_bind (wpAny_field ho hd (x := .int i 0) rfl ?_)
  show wpAny _ _ (seqItems? (.ref l) >>= _) _ _ s
  refine wpAny_bind (wpAny_seqItems hol hdl ?_)
  simp only [Int.toNat_natCast, hx]
  refine wpAny_bind (wpAny_rule (wpAny_bind (wpAny_setField ho hd (by simp) ?_)))
  show wpAny _ _ (newExc (.type "StopIteration") [] >>= _) _ _ _
  refine wpAny_bind ?_
  simp only [newExc, newTuple]
  refine wpAny_bind (wpAny_newObj_type ?_ (by size_fits))
  refine wpAny_bind (m := firstArgMember _ _) (wpAny_of_eq (a := Value.none) (by first | rfl | (simp only [firstArgMember]; rfl)) ?_)
  refine wpAny_newObj_type ?_ (by size_fits)
  simp only [raiseNew]
  refine wpAny_bind (wpAny_handled ?_)
  rw [show A.in1.handled = none from hh]
  refine wpAny_bind (wpAny_pure (wpAny_throw ?_))
  refine hE _ _ _ (((Heap.SameBut.update ..).extBut.push _).push _) (Heap.get?_push_size _ rfl) rfl ⟨_, rfl, ?_⟩
  rfl
theorem ends_stop {e : Addr} {oe : Obj} {E : Value → Shared → Prop} {Q : Bool → Shared → Prop} (he : s.heap.get? e = some oe) (hc : oe.cls = .type "StopIteration") (h : Q true s) :
    wpAny (model prog w) A (Builtin.Generator.endsTheTurnAsAValue false (.ref e)) Q E s := by
  have hT : s.TypeIs (.ref e) "StopIteration" := ⟨_, he, hc⟩
  have f1 : isSubtype (.type "StopIteration") (.type "StopIteration") = pure true := isSubtype_stop
  unfold Builtin.Generator.endsTheTurnAsAValue Builtin.Generator.isStopAndMetaclass
  refine wpAny_bind (wpAny_bind (wpAny_typeOf hT ?_))
  (try dsimp only)
  refine wpAny_bind (wpAny_of_eq f1 ?_)
  refine wpAny_bind (wpAny_of_eq (a := Value.type "type") rfl (wpAny_pure ?_))
  exact wpAny_pure h
theorem sx_yf_end {it l : Addr} {i : Nat} {items : Array Value} (hh : (A.over (yfC it) fs).handled = none) (hit : s.heap.IsListIter it l i) (hl : s.heap.IsList l items) (hx : items[i]? = none)
    (h : ∀ h', Heap.ExtBut it s.heap h' → SegX (model prog w) A (yfC it) (leafOf (.ok (.ret .none))) fs { s with heap := h' } P) :
    SegX (model prog w) A (yfC it) (denote table (yfC it)) fs s P := by
  rw [den_yf, yf_eq]
  refine sx_bind (wpAny_attempt (wpAny_bind (wpAny_rule (wpAny_bind (li_next_end hh hit hl hx fun h' e oe hx' he hc hf => ?_)))))
  (try dsimp only)
  (refine e1a2 hf fun vs hd h5 => ?_; try clear hf)
  refine sx_bind (ends_stop he hc ?_)
  simp only [if_true]
  refine sx_bind (wpAny_rule ?_)
  refine sx_bind (wpAny_field he hd h5 ?_)
  exact h h' hx'
theorem Emits.mono {M : Model} {A : Around} {S I : List (Addr × Obj)} {wk wk' : Waker} {items : List Value} (h : ∀ s P, HasI I s.heap → wk s P → wk' s P) (x : Emits M A S items I wk) : Emits M A S items I wk' := by
  cases items with
  | nil => exact fun s P hS hI hd hP => h s P hI (x s P hS hI hd hP)
  | cons v vs => exact fun s P hS hI hd hP => h s P hI (x s P hS hI hd hP)
theorem TransI.mk' {I I' : List (Addr × Obj)} {h : Heap} {tk : Nat} (hk : ∀ b o, s.heap.get? b = some o → b ∉ I.map (·.1) → h.get? b = some o) (hI : HasI I' h) (hf : ∀ p ∈ I', p.1 ∈ I.map (·.1) ∨ s.heap.get? p.1 = none) :
    TransI I I' s { s with heap := h, toks := tk } := ⟨h, tk, rfl, hk, hI, hf⟩
/-- an object that is a name space -/
noncomputable def NsObj (o : Obj) (m : Str → Option Value) : Prop := ∃ es ep, o.data = .dict es ep ∧ StrKeys es ∧ ∀ name, nsFind es name = m name
theorem NsObj.ns {o : Obj} {m : Str → Option Value} {h : Heap} {a : Addr} (x : NsObj o m) (e : h.get? a = some o) : h.Ns a m := let ⟨es, ep, a1, a2, a3⟩ := x; ⟨o, es, ep, e, a1, a2, a3⟩
theorem NsObj.of {h : Heap} {a : Addr} {m : Str → Option Value} (x : h.Ns a m) : ∃ o, h.get? a = some o ∧ NsObj o m := let ⟨o, es, ep, e, a1, a2, a3⟩ := x; ⟨o, e, es, ep, a1, a2, a3⟩
theorem hasI_two {a b : Addr} {o o' : Obj} {h : Heap} (h1 : h.get? a = some o) (h2 : h.get? b = some o') : HasI [(a, o), (b, o')] h := fun p hp => by
  simp only [List.mem_cons, List.not_mem_nil, or_false] at hp
  rcases hp with rfl | rfl <;> assumption
theorem hasI_three {a b c : Addr} {o o' o'' : Obj} {h : Heap} (h1 : h.get? a = some o) (h2 : h.get? b = some o') (h3 : h.get? c = some o'') : HasI [(a, o), (b, o'), (c, o'')] h := fun p hp => by
  simp only [List.mem_cons, List.not_mem_nil, or_false] at hp
  rcases hp with rfl | rfl | rfl <;> assumption
noncomputable abbrev liObj (l : Addr) (i : Nat) : Obj := { cls := .type "list_iterator", data := .fields #[.ref l, .int i 0] }
end sx
section iter
variable {prog : Program} {w : World} {A : Around} {env : Env} {fs : List Frame}
/-- the body of the loop that gives every list of the stack, the last list first -/
noncomputable abbrev itBody (x : Str) (p5 p6 p7 p8 p9 : Pos) : List Stmt := [.If (.Name x p5) [.Expr (.YieldFrom (.Name x p6) p7) p8] [] p9]
noncomputable abbrev itLoop (x : Str) (p1 : Pos) (Ra : Addr) (p5 p6 p7 p8 p9 : Pos) (env : Env) : Code := .forLoop (.Name x p1) (.ref Ra) (itBody x p5 p6 p7 p8 p9) [] env
noncomputable def flatOf (scs : List (Addr × Array Value)) (k : Nat) : List Value := (scs.take k).reverse.flatMap fun p => p.2.toList
theorem flatOf_zero (scs : List (Addr × Array Value)) : flatOf scs 0 = [] := rfl
theorem flatOf_succ {scs : List (Addr × Array Value)} {k : Nat} {a : Addr} {its : Array Value} (h : scs[k]? = some (a, its)) : flatOf scs (k + 1) = its.toList ++ flatOf scs k := by
  unfold flatOf
  rw [List.take_add_one, h]
  simp
noncomputable def IsRO (o : Obj) (l : Addr) (i : Int) : Prop := o.cls = .type "list_reverseiterator" ∧ o.data = .fields #[.ref l, rawInt i]
noncomputable def IsLI (o : Obj) (l : Addr) (i : Nat) : Prop := o.cls = .type "list_iterator" ∧ o.data = .fields #[.ref l, .int i 0]
theorem emits_loop {S : List (Addr × Obj)} {dns : Addr} {scs : List (Addr × Array Value)} {x : Str} {p1 p5 p6 p7 p8 p9 : Pos} {Ra : Addr}
    (hSd : ∀ h, HasI S h → h.IsList dns (scs.map fun p => Value.ref p.1).toArray) (hSs : ∀ h, HasI S h → ∀ p ∈ scs, h.IsList p.1 p.2) (hfit : ∀ p ∈ scs, (p.2.size : Int) < 2 ^ 63)
    (hk : env.scope.kind = .function) (hx : env.kindOf x = some .local) (hxd : (x == ("__debug__" : Str)) = false) (hi : interactive env = false) (hRa : env.locals ≠ Ra)
    (hfs : splitAtGen fs = none) (hfg : fs.any Frame.guarded = false) (hh : ∀ c l, (∀ f ∈ l, ∃ k g lv c p kp, f = Frame.ret k none g lv c p kp) → (A.over c (l ++ fs)).handled = none)
    (hpop : ∀ s P, P (.ret (.ok (.ret .none))) s → SegX (model prog w) A (.block [] env) (.pure (.done .next)) fs s P) :
    ∀ k, k ≤ scs.length → ∀ oL m oR, NsObj oL m → IsRO oR dns ((k : Int) - 1) → Emits (model prog w) A S (flatOf scs k) [(env.locals, oL), (Ra, oR)]
      (fun s P => SegX (model prog w) A (itLoop x p1 Ra p5 p6 p7 p8 p9 env) (denote table (itLoop x p1 Ra p5 p6 p7 p8 p9 env)) fs s P) := by
  intro k
  induction k with
  | zero =>
    intro hle oL m oR hoL hoR s P hS hI hd hP
    have hL := hI (env.locals, oL) (.head _)
    have hR := hI (Ra, oR) (.tail _ (.head _))
    refine sx_forLoop (fun _ => rfl) (wpAny_pyNext_rev_end (l := dns) (hh _ [] (by simp)) ⟨_, hR, hoR.1, hoR.2⟩ fun h' he => ?_)
    refine sx_block_nil (hpop _ _ (hP _ (TransI.mk' (fun b o e hn => he b o (fun q => hn (by simp [q])) e) (fun p hp => by simp at hp) fun p hp => by simp at hp)))
  | succ k ih =>
    intro hle oL m oR hoL hoR
    obtain ⟨⟨a, its⟩, hak⟩ : ∃ p, scs[k]? = some p := ⟨_, List.getElem?_eq_getElem (by assumption)⟩
    have hmem : (a, its) ∈ scs := List.mem_of_getElem? hak
    rw [flatOf_succ hak]
    -- the inner delegate
    have inner : ∀ (kf : Result → Sem Fin) (gl : Bool) (lv : List Value) (p : Pos) (oL' : Obj) (m' : Str → Option Value) (oR' : Obj) (It : Addr), gl = false → NsObj oL' m' → IsRO oR' dns ((k : Int) - 1) → env.locals ≠ It → Ra ≠ It →
        kf (.ok (.ret .none)) = (dropValue (.YieldFrom (.Name x p6) p7) p8 .none).wrap (fun f => match f with | .next => (execs [] env).wrap (fun f => match f with | .next => (execs [] env).wrap (loopK (.Name x p1) (.ref Ra) (itBody x p5 p6 p7 p8 p9) [] env) (loopH env) id id | f => loopK (.Name x p1) (.ref Ra) (itBody x p5 p6 p7 p8 p9) [] env f) (loopH env) id id | f => (fun f => match f with | .next => (execs [] env).wrap (loopK (.Name x p1) (.ref Ra) (itBody x p5 p6 p7 p8 p9) [] env) (loopH env) id id | f => loopK (.Name x p1) (.ref Ra) (itBody x p5 p6 p7 p8 p9) [] env f) f) (loopH env) id id →
        ∀ d j oIt, its.size - j = d → j ≤ its.size → IsLI oIt a j → Emits (model prog w) A S (its.toList.drop j ++ flatOf scs k) [(env.locals, oL'), (Ra, oR'), (It, oIt)]
          (fun s P => SegX (model prog w) A (yfC It) (denote table (yfC It)) (.ret kf none gl lv (itLoop x p1 Ra p5 p6 p7 p8 p9 env) p [] :: fs) s P) := by
      intro kf gl lv p oL' m' oR' It hgl hoL' hoR' hLIt hRIt hkf d
      subst hgl
      induction d with
      | zero =>
        intro j oIt hj hle' hoIt
        have : its.toList.drop j = [] := List.drop_of_length_le (by rw [Array.length_toList]; exact sbZ (by assumption))
        rw [this, List.nil_append]
        refine Emits.step fun s P hS hI hd go => ?_
        have hL := hI (env.locals, oL') (.head _)
        have hR := hI (Ra, oR') (.tail _ (.head _))
        have hIt := hI (It, oIt) (.tail _ (.tail _ (.head _)))
        refine sx_yf_end (hh _ [_] (by simp)) ⟨_, hIt, hoIt.1, hoIt.2⟩ (hSs _ hS _ hmem) (Array.getElem?_eq_none (by show its.size ≤ j; exact sbZ (by assumption))) fun h' he => ?_
        refine s_pop _ _ _ _ _ _ _ _ _ rfl _ _ _ _ _ _ _ ?_
        rw [hkf]
        refine s_again _ _ _ _ _ _ _ _ rfl ?_
        refine go { s with heap := h' } [(env.locals, oL'), (Ra, oR')] (fun s P => SegX (model prog w) A (itLoop x p1 Ra p5 p6 p7 p8 p9 env) (denote table (itLoop x p1 Ra p5 p6 p7 p8 p9 env)) fs s P)
          (TransI.mk' (tk := s.toks) (fun b o e hn => he b o (fun q => hn (by simp [q])) e) (hasI_two (he _ _ hLIt hL) (he _ _ hRIt hR)) fun p hp => .inl ?_) (ih (Nat.le_of_succ_le (by assumption)) oL' m' oR' hoL' hoR')
        simp only [List.mem_cons, List.not_mem_nil, or_false] at hp
        rcases hp with rfl | rfl <;> simp
      | succ d ihd =>
        intro j oIt hj hle' hoIt
        have hlt : j < its.size := sbP (by assumption)
        have e1 : its.toList.drop j = its[j] :: its.toList.drop (j + 1) := by rw [List.drop_eq_getElem_cons (by simpa using hlt)]; simp
        rw [e1, List.cons_append]
        intro s P hS hI hd hP
        have hL := hI (env.locals, oL') (.head _)
        have hR := hI (Ra, oR') (.tail _ (.head _))
        have hIt := hI (It, oIt) (.tail _ (.tail _ (.head _)))
        refine sx_yf_item ⟨_, hIt, hoIt.1, hoIt.2⟩ (hSs _ hS _ hmem) (Array.getElem?_eq_getElem hlt) (by simp [splitAtGen, hfs]) (by simp [Frame.guarded, hfg]) fun h' kk p' hit' hs' hgo => ?_
        (refine e1a3 (id hit') fun o' ho' hc' hd' => ?_)
        refine hP _ [(env.locals, oL'), (Ra, oR'), (It, o')] kk _ _ p' _ (TransI.mk' (tk := s.toks) (fun b o e hn => (hs'.2 b (fun q => hn (by simp [q]))).trans e) (hasI_three ((hs'.2 _ hLIt).trans hL) ((hs'.2 _ hRIt).trans hR) ho') fun p hp => .inl ?_) (by simp [Frame.guarded, hfg]) ?_
        · simp only [List.mem_cons, List.not_mem_nil, or_false] at hp
          rcases hp with rfl | rfl | rfl <;> simp
        · refine Emits.mono (fun s'' P'' hI'' z => hgo s'' P'' ⟨o', hI'' (It, o') (.tail _ (.tail _ (.head _))), hc', hd'⟩ z) (ihd (j + 1) o' (sbE (by assumption)) hlt ⟨hc', hd'⟩)
    refine Emits.step fun s P hS hI hd go => ?_
    have hL := hI (env.locals, oL) (.head _)
    have hR := hI (Ra, oR) (.tail _ (.head _))
    have hdn : dns ≠ Ra := by
      rintro rfl
      (refine e1a3 (hSd _ hS) fun o ho hc _ => ?_)
      rw [hR] at ho; cases ho
      rw [hoR.1] at hc; simp at hc
    have hIR : s.heap.IsRevIter Ra dns ((k : Nat) : Int) := ⟨_, hR, hoR.1, by rw [hoR.2]; simp⟩
    refine sx_forLoop (fun _ => rfl) (wpAny_pyNext_rev_item hIR (hSd _ hS) (x := .ref a) (by simp [hak]) fun h₁ hR₁ hs₁ => ?_)
    (refine e1a3 hR₁ fun oR₁ hgR₁ hcR₁ hdR₁ => ?_; try clear hR₁)
    have hL₁ : h₁.get? env.locals = some oL := (hs₁.2 _ hRa).trans hL
    show wpAny _ _ (assign (.Name x p1) env (.ref a)) _ _ _
    rw [PySem.assign_Name]
    refine wpAny_bind (wpAny_standAt (wpAny_bindName (wpAny_storeName_local (s := { s with heap := h₁ }) hx (hoL.ns hL₁) (fun h₂ hn₂ hs₂ => ?_) (by rw [hk]; rfl))))
    (refine e1a2 (NsObj.of hn₂) fun oL₂ hgL₂ hoL₂ => ?_)
    have hgR₂ : h₂.get? Ra = some oR₁ := (hs₂.2 _ (Ne.symm hRa)).trans hgR₁
    have hka : ∀ b o, s.heap.get? b = some o → b ∉ [(env.locals, oL), (Ra, oR)].map (·.1) → h₂.get? b = some o := fun b o e hn => by
      simp only [List.map_cons, List.map_nil, List.mem_cons, List.not_mem_nil, or_false, not_or] at hn
      exact (hs₂.2 b hn.1).trans ((hs₁.2 b hn.2).trans e)
    have hS₂ : HasI S h₂ := fun p hp => hka _ _ (hS p hp) (hd p hp)
    have hIa := hSs _ hS₂ _ hmem
    refine sx_execs_cons (sx_If ?_)
    refine isTrue_plain (wpAny_Name (wpAny_loadName_local hk hx (hoL₂.ns hgL₂) (by simp) (wpAny_truthy_list hIa (hfit _ hmem) ?_)) hxd)
    split
    · -- the list has items
      refine sx_execs_cons (sx_Expr_YieldFrom (l := a) (items := its) (wpAny_Name (wpAny_loadName_local hk hx (hoL₂.ns hgL₂) (by simp) ⟨rfl, hIa, fun kf p hkf => ?_⟩) hxd) hi)
      refine go _ [(env.locals, oL₂), (Ra, oR₁), (h₂.objs.size, liObj a 0)] _ (TransI.mk' (fun b o e hn => Heap.get?_push_of_some _ (hka b o e hn)) (hasI_three (Heap.get?_push_of_some _ hgL₂) (Heap.get?_push_of_some _ hgR₂) (Heap.get?_push_size _ rfl)) fun p hp => ?_)
        (by
          have z := inner kf false [] p oL₂ _ oR₁ h₂.objs.size rfl hoL₂ ⟨hcR₁, hdR₁⟩ (Nat.ne_of_lt (Heap.lt_size hgL₂)) (Nat.ne_of_lt (Heap.lt_size hgR₂)) (hkf .none) its.size 0 (liObj a 0) rfl (Nat.zero_le _) ⟨rfl, rfl⟩
          rw [List.drop_zero] at z
          exact z)
      simp only [List.mem_cons, List.not_mem_nil, or_false] at hp
      rcases hp with rfl | rfl | rfl
      · simp
      · simp
      · refine .inr ?_
        cases q : s.heap.get? h₂.objs.size with
        | none => rfl
        | some o =>
          by_cases hn : h₂.objs.size ∈ [(env.locals, oL), (Ra, oR)].map (·.1)
          · simp only [List.map_cons, List.map_nil, List.mem_cons, List.not_mem_nil, or_false] at hn
            rcases hn with e | e
            · exact absurd (Heap.lt_size hgL₂) (by rw [e]; exact Nat.lt_irrefl _)
            · exact absurd (Heap.lt_size hgR₂) (by rw [e]; exact Nat.lt_irrefl _)
          · exact absurd (Heap.lt_size (hka _ _ q hn)) (Nat.lt_irrefl _)
    · -- an empty one
      rename_i hb
      have : its.toList = [] := by
        have hb' : its.isEmpty = true := by simpa using hb
        simpa [Array.isEmpty] using hb'
      refine sx_execs_nil (s_again _ _ _ _ _ _ _ _ rfl ?_)
      refine go _ [(env.locals, oL₂), (Ra, oR₁)] (fun s P => SegX (model prog w) A (itLoop x p1 Ra p5 p6 p7 p8 p9 env) (denote table (itLoop x p1 Ra p5 p6 p7 p8 p9 env)) fs s P)
        (TransI.mk' hka (hasI_two hgL₂ hgR₂) fun p hp => .inl ?_) (by rw [this, List.nil_append]; exact ih (Nat.le_of_succ_le (by assumption)) oL₂ _ oR₁ hoL₂ ⟨hcR₁, hdR₁⟩)
      simp only [List.mem_cons, List.not_mem_nil, or_false] at hp
      rcases hp with rfl | rfl <;> simp
/-- the generator, not yet begun -/
theorem emits_start {S : List (Addr × Obj)} {dns : Addr} {scs : List (Addr × Array Value)} {x rv ns : Str} {p1 p2 p3 p4 p5 p6 p7 p8 p9 p10 : Pos} {oL : Obj} {m : Str → Option Value}
    (hSd : ∀ h, HasI S h → h.IsList dns (scs.map fun p => Value.ref p.1).toArray) (hSs : ∀ h, HasI S h → ∀ p ∈ scs, h.IsList p.1 p.2) (hfit : ∀ p ∈ scs, (p.2.size : Int) < 2 ^ 63)
    (hk : env.scope.kind = .function) (hx : env.kindOf x = some .local) (hxd : (x == ("__debug__" : Str)) = false) (hi : interactive env = false)
    (hr : env.kindOf rv = some .local) (hrd : (rv == ("__debug__" : Str)) = false) (hn : env.kindOf ns = some .local) (hnd : (ns == ("__debug__" : Str)) = false)
    (hA : A.handled = none) (hoL : NsObj oL m) (hmr : m rv = some (.type "reversed")) (hmn : m ns = some (.ref dns)) :
    Emits (model prog w) A S (flatOf scs scs.length) [(env.locals, oL)]
      (fun s P => SegX (model prog w) A (.func [.For (.Name x p1) (.Call (.Name rv p2) [.Name ns p3] [] p4) (itBody x p5 p6 p7 p8 p9) [] p10] env) (denote table (.func [.For (.Name x p1) (.Call (.Name rv p2) [.Name ns p3] [] p4) (itBody x p5 p6 p7 p8 p9) [] p10] env)) [] s P) := by
  refine Emits.step fun s P hS hI hd go => ?_
  have hL := hI (env.locals, oL) (.head _)
  refine sx_func (sx_execs_cons (sx_For ?_))
  refine wpAny_bind (wpAny_Call_NameR (wpAny_Name (wpAny_loadName_local hk hr (hoL.ns hL) hmr ?_) hrd))
  refine PyProof.Rows.callWith_type rfl (Calls.evalArgs_plain (Calls.spliced_cons (wpAny_Name (wpAny_loadName_local hk hn (hoL.ns hL) hmn (Calls.spliced_nil ?_)) hnd)))
  refine call_reversed_list (hSd _ hS) ?_
  refine wpAny_bind (wpAny_of_eq (a := Value.ref s.heap.objs.size) rfl (wpAny_bind (wpAny_standAt (wpAny_holding (wpAny_pyIter_revIter (l := dns) ⟨_, Heap.get?_push_size _ rfl, rfl, rfl⟩ fun kf p hkf => ?_)))))
  have hrev : revObj dns ((((scs.map fun p => Value.ref p.1).toArray).size : Int) - 1) = revObj dns ((scs.length : Int) - 1) := by simp
  rw [hrev]
  have hlt := Heap.lt_size hL
  refine go _ [(env.locals, oL), (s.heap.objs.size, revObj dns ((scs.length : Int) - 1))] (fun s' P => SegX (model prog w) A (itLoop x p1 s.heap.objs.size p5 p6 p7 p8 p9 env) _ _ s' P)
    (TransI.mk' (tk := s.toks) (fun b o e hn => Heap.get?_push_of_some _ e) (hasI_two (Heap.get?_push_of_some _ hL) (Heap.get?_push_size _ rfl)) fun p hp => ?_) ?_
  · simp only [List.mem_cons, List.not_mem_nil, or_false] at hp
    rcases hp with rfl | rfl
    · simp
    · refine .inr ?_
      cases q : s.heap.get? s.heap.objs.size with
      | none => rfl
      | some o => exact absurd (Heap.lt_size q) (Nat.lt_irrefl _)
  · refine emits_loop hSd hSs hfit hk hx hxd hi (Nat.ne_of_lt hlt) (by simp [splitAtGen]) (by simp [Frame.guarded]) (fun c l hl => ?_) (fun s' P' hP' => ?_) scs.length (Nat.le_refl _) oL m _ hoL ⟨rfl, rfl⟩
    · show (marksOver (l ++ _) (A.handled, A.handled)).1 = none
      rw [hA]
      have key : ∀ l : List Frame, (∀ f ∈ l, ∃ k g lv c p kp, f = Frame.ret k none g lv c p kp) → marksOver l (none, none) = (none, none) := by
        intro l
        induction l with
        | nil => intro _; rfl
        | cons f l ihl =>
          intro hf
          (refine ex6 (hf f (.head _)) fun k g lv c p kp y1_ => ?_; obtain rfl := y1_)
          have e : marksOver (Frame.ret k none g lv c p kp :: l) (none, none) = Frame.marks (Frame.ret k none g lv c p kp) (marksOver l (none, none)) := rfl
          rw [e, ihl fun g hg => hf g (.tail _ hg)]
          rfl
      rw [key]
      intro f hf
      rcases List.mem_append.mp hf with hf | hf
      · exact hl f hf
      · simp only [List.mem_cons, List.not_mem_nil, or_false] at hf
        subst hf
        exact exI6 _ _ _ _ _ _ rfl
    · refine s_pop _ _ _ _ _ _ _ (.ok .next) _ rfl _ _ _ _ _ _ _ ?_
      rw [hkf]
      exact s_end _ _ _ _ _ _ (.ok (.ret .none)) _ rfl hP'
end iter
section next
variable {prog : Program} {w : World} {A : Around} {E : Value → Shared → Prop} {s : Shared}
/-- what a generator's state will give -/
noncomputable def Ready (M : Model) (A : Around) (S : List (Addr × Obj)) (items : List Value) (I : List (Addr × Obj)) : GenState → Prop
  | .fresh c => Emits M A S items I (fun s P => SegX M A c (denote table c) [] s P)
  | .suspended k _ c _ fs cl => cl = false ∧ Emits M A S items I (fun s P => SegX M A c (k (.send .none)) fs s P)
  | _ => False
theorem setGen_twice {s : Shared} {g : Nat} {x y : GenState} : (s.setGen g x).setGen g y = s.setGen g y := by
  simp [Shared.setGen]
theorem next_gen {S I : List (Addr × Obj)} {items : List Value} {a : Addr} {g : Nat} {gs : GenState} {Q : Option Value → Shared → Prop} (hh : A.handled = none)
    (hl : s.heap.NoLimit) (hroom : A.depth < recursionLimit) (hg : s.heap.IsGen a g) (hgs : s.gens[g]? = some gs)
    (hR : Ready (model prog w) A.in1 S items I gs) (hS : HasI S s.heap) (hI : HasI I s.heap) (hd : ∀ p ∈ S, p.1 ∉ I.map (·.1))
    (hnil : items = [] → ∀ h' tk, (∀ b o, s.heap.get? b = some o → b ∉ I.map (·.1) → h'.get? b = some o) → Q none ({ s with heap := h', toks := tk }.setGen g .finished))
    (hcons : ∀ v vs, items = v :: vs → ∀ h' tk gs' I', TransI I I' s { s with heap := h', toks := tk } → Ready (model prog w) A.in1 S vs I' gs' → gs'.bare = true → Q (some v) ({ s with heap := h', toks := tk }.setGen g gs')) :
    wpAny (model prog w) A (pyNext (.ref a)) Q E s := by
  unfold pyNext
  refine wpAny_bind (wpAny_attempt (wpAny_callSpecial?_slot (name := Str.ofString "__next__") hg.typeIs slot_gen_next
    (wpAny_call_entry slot_gen_next hg.typeIs entry_gen_next ?_ (args_gen_next _))))
  show wpAny _ _ (Builtin.Generator.genWake (.ref a) (.send .none)) _ _ s
  unfold Builtin.Generator.genWake
  refine wpAny_bind (wpAny_holding (wpAny_genNumber hg (wpAny_bind (wpAny_genState hgs ?_))))
  -- the generator's own run, told for any end
  have run : ∀ {k : GenResult → Sem PySem.Fin} {Q' : PySem.Fin → Shared → Prop} {E' : Value → Shared → Prop},
      (items = [] → ∀ h' tk, (∀ b o, s.heap.get? b = some o → b ∉ I.map (·.1) → h'.get? b = some o) → wpAny (model prog w) A.in1 (k (.returned .none)) Q' E' ({ s with heap := h', toks := tk }.setGen g .finished)) →
      (∀ v vs, items = v :: vs → ∀ h' tk gs' I', TransI I I' s { s with heap := h', toks := tk } → Ready (model prog w) A.in1 S vs I' gs' → gs'.bare = true → wpAny (model prog w) A.in1 (k (.yielded v)) Q' E' ({ s with heap := h', toks := tk }.setGen g gs')) →
      wpAny (model prog w) A.in1 (.resume g (.send .none) [] k) Q' E' s := by
    intro k Q' E' h1 h2
    have wk : ∀ {c₀ : Code} {t₀ : Sem PySem.Fin} {fs₀ : List Frame}, ((gs = .fresh c₀ ∧ t₀ = denote table c₀ ∧ fs₀ = []) ∨ (∃ k₀ l₀ p₀ cl, gs = .suspended k₀ l₀ c₀ p₀ fs₀ cl ∧ t₀ = k₀ (.send .none))) →
        Emits (model prog w) A.in1 S items I (fun s P => SegX (model prog w) A.in1 c₀ t₀ fs₀ s P) → wpAny (model prog w) A.in1 (.resume g (.send .none) [] k) Q' E' s := by
      intro c₀ t₀ fs₀ hgs' em
      refine wake_any _ prog w (C := fun Γ => Γ.In A.in1) (c₀ := c₀) (t₀ := t₀) (fs₀ := fs₀) hgs (hgs'.imp (fun x => ⟨x.1, rfl, x.2.1, x.2.2⟩) id) (fun _ x => x) ?_
      cases items with
      | nil =>
        refine em (s.setGen g .running) _ hS hI hd fun s' t => ?_
        (refine e2a4 t fun h' tk y3_ hk _ _ => ?_; try clear t; obtain rfl := y3_)
        intro Γ p hΓ
        have z := h1 rfl h' tk hk Γ p hΓ
        rw [← setGen_twice (s := { s with heap := h', toks := tk }) (x := .running)] at z
        exact z
      | cons v vs =>
        refine em (s.setGen g .running) _ hS hI hd fun s' I' kk l c p fs t hg' em' => ?_
        (refine e2a4 t fun h' tk y3_ hk hI' hf => ?_; try clear t; obtain rfl := y3_)
        intro Γ p' hΓ
        have z := h2 v vs rfl h' tk (.suspended kk l c p fs (false || fs.any Frame.guarded)) I' ⟨h', tk, rfl, hk, hI', hf⟩ ⟨by rw [hg']; rfl, em'⟩ (by simp [GenState.bare, hg']) Γ p' hΓ
        rw [← setGen_twice (s := { s with heap := h', toks := tk }) (x := .running)] at z
        exact z
    cases gs with
    | running => exact hR.elim
    | finished => exact hR.elim
    | fresh c => exact wk (.inl ⟨rfl, rfl, rfl⟩) hR
    | suspended k₀ l₀ c₀ p₀ fs₀ cl => exact wk (.inr ⟨_, _, _, _, rfl, rfl⟩) hR.2
  cases gs with
  | running => exact hR.elim
  | finished => exact hR.elim
  | _ =>
    refine wpAny_bind (wpAny_roomToWake hl hroom ?_)
    show wpAny _ A.in1 (.resume g (.send .none) [] _) _ _ s
    refine run (fun hn h' tk hk => ?_) (fun v vs hv h' tk gs' I' t r hb => ?_)
    · show wpAny _ A.in1 (newExc (.type "StopIteration") [] >>= _) _ _ _
      refine wpAny_bind ?_
      simp only [newExc, newTuple]
      refine wpAny_bind (wpAny_newObj_type ?_ (by size_fits))
      refine wpAny_bind (m := firstArgMember _ _) (wpAny_of_eq (a := Value.none) (by first | rfl | (simp only [firstArgMember]; rfl)) ?_)
      refine wpAny_newObj_type ?_ (by size_fits)
      simp only [raiseNew]
      refine wpAny_bind (wpAny_bind (wpAny_handled ?_))
      rw [show A.in1.handled = none from hh]
      refine wpAny_throw ?_
      refine wpAny_bind (wpAny_isInstance (T := "StopIteration") (b := true) ⟨_, Heap.get?_push_size _ rfl, rfl⟩ isSubtype_stop ?_)
      exact wpAny_pure (hnil hn _ tk fun b o e hb => Heap.get?_push_of_some _ (Heap.get?_push_of_some _ (hk b o e hb)))
    · exact wpAny_pure ⟨v, rfl, wpAny_pure (hcons v vs hv h' tk gs' I' t r hb)⟩
end next
end
section
noncomputable abbrev PR := PySem.Challenge.pw_pk0124_01
section
variable {w : World} {A : Around} {E : Value → Shared → Prop} {s : Shared}
theorem call_iter (X : (hd.heap_39 w.params).In s.heap) (hlim : s.heap.NoLimit) (hroom : A.depth < recursionLimit) {wr dns : Addr} {Q : Value → Shared → Prop}
   (h : ∀ Lg gO oL h' tk c, h'.get? Lg = some oL → h'.IsGen gO s.gens.size → (∀ b o, s.heap.get? b = some o → h'.get? b = some o) → s.heap.get? Lg = none → s.heap.get? gO = none → gO ≠ Lg →
     (∀ A' S scs, A'.handled = none → (∀ h, HasI S h → h.IsList dns (scs.map fun p => Value.ref p.1).toArray) → (∀ h, HasI S h → ∀ p ∈ scs, h.IsList p.1 p.2) → (∀ p ∈ scs, ((p : Addr × Array Value).2.size : Int) < 2 ^ 63) →
        Ready (model PR w) A' S (flatOf scs scs.length) [(Lg, oL)] (.fresh c)) → Q (.ref gO) { s with heap := h', toks := tk, gens := s.gens.push (.fresh c) }) :
   wpAny (model PR w) A (call (.ref 75) [.ref wr, .ref dns]) Q E s := by
  refine wpAny_call (codeAny_call_generator hroom (X _ _ (by k_is)) rfl rfl rfl rfl (codeRec_of X (by k_is)) ?_)
  refine binds_K (K := hd.heap_39 w.params) (binds := [(Str.ofString "self", .ref wr), (Str.ofString "ns_stack", .ref dns), (Str.ofString "_reversed", .type "reversed")]) X rfl (by k_is) rfl rfl rfl _ _ _ _ ?_
  refine wpAny_newFunctionEnv (by decide) (locs rfl) (fun h₁ hns hsb => ⟨hlim.fresh _ hsb, ?_⟩) rfl
  (refine e1a2 (NsObj.of hns) fun oL hgL hoL => ?_)
  have hkeep : ∀ b o, s.heap.get? b = some o → h₁.get? b = some o := fun b o e => hsb.extBut b o (Nat.ne_of_lt (Heap.lt_size e)) (Heap.get?_push_of_some _ e)
  have hfresh : s.heap.get? s.heap.objs.size = none := by
    cases q : s.heap.get? s.heap.objs.size with
    | none => rfl
    | some o => exact absurd (Heap.lt_size q) (Nat.lt_irrefl _)
  refine h s.heap.objs.size h₁.objs.size oL _ _ _ (Heap.get?_push_of_some _ hgL) ⟨_, _, _, Heap.get?_push_size _ rfl, rfl, rfl, rfl⟩ (fun b o e => Heap.get?_push_of_some _ (hkeep b o e)) hfresh ?_ ?_ ?_
  · cases q : s.heap.get? h₁.objs.size with
    | none => rfl
    | some o => exact absurd (Heap.lt_size (hkeep _ _ q)) (Nat.lt_irrefl _)
  · exact Nat.ne_of_gt (Heap.lt_size hgL)
  · intro A' S scs hA' h1 h2 h3
    have key : ∀ {env : Env} {Lg : Addr} {p1 p2 p3 p4 p5 p6 p7 p8 p9 p10 : Pos} {m : Str → Option Value}, env.locals = Lg → NsObj oL m → env.scope.kind = .function → env.kindOf (Str.ofString "namespaces") = some .local → interactive env = false →
        env.kindOf (Str.ofString "_reversed") = some .local → env.kindOf (Str.ofString "ns_stack") = some .local → m (Str.ofString "_reversed") = some (.type "reversed") → m (Str.ofString "ns_stack") = some (.ref dns) →
        Ready (model PR w) A' S (flatOf scs scs.length) [(Lg, oL)] (.fresh (.func [.For (.Name (Str.ofString "namespaces") p1) (.Call (.Name (Str.ofString "_reversed") p2) [.Name (Str.ofString "ns_stack") p3] [] p4) (itBody (Str.ofString "namespaces") p5 p6 p7 p8 p9) [] p10] env)) := by
      rintro env Lg p1 p2 p3 p4 p5 p6 p7 p8 p9 p10 m rfl ho a1 a2 a3 a4 a5 a6 a7
      exact emits_start h1 h2 h3 a1 a2 (by decide) a3 a4 (by decide) a5 (by decide) hA' ho a6 a7
    refine key ?_ hoL ?_ ?_ ?_ ?_ ?_ ?_ ?_
    all_goals rfl
end
end
section
section loop
variable {prog : Program} {w : World} {A : Around} {s : Shared} {env : Env} {h₀ : Heap} {L : Addr} {body : List Stmt} {R : Result → Shared → Prop}
noncomputable abbrev NoE : Value → Shared → Prop := fun _ _ => False
noncomputable def GenO (o : Obj) (g : Nat) : Prop := ∃ nm qn, o.cls = .type "generator" ∧ o.data = .fields #[.int g 0, nm, qn] ∧ o.slots = #[]
theorem letgo_gen {elts : List Expr} {n : Nat} {pos : Pos} {gO : Addr} {oG : Obj} {g : Nat} {v : Value} {E : Value → Shared → Prop} {Q : Unit → Shared → Prop} (ho : s.heap.get? gO = some oG) (hG : GenO oG g) (h : Q () s) :
    wpAny (model prog w) A (letOwnedTupleGo (.Tuple elts n pos) (.ref gO) v) Q E s := by
  (refine e2a3 hG fun nm qn hc hd _ => ?_; try clear hG)
  unfold letOwnedTupleGo
  cases v <;> first | exact wpAny_pure h | skip
  refine wpAny_bind (wpAny_load ho ?_)
  rw [hc, hd]
  simp only [show (["enumerate", "zip", "dict_itemiterator", "dict_reverseitemiterator", "odict_iterator", "itertools.zip_longest", "itertools.pairwise"].contains "generator") = false by decide, Bool.false_and, Bool.false_eq_true, if_false]
  exact wpAny_pure h
theorem allBare_set {gens : Array GenState} {g : Nat} {x : GenState} (h : AllBare gens) (hx : x.bare = true) : AllBare (gens.setIfInBounds g x) := fun y hy => by
  rcases Array.mem_or_eq_of_mem_setIfInBounds hy with h' | rfl
  · exact h y h'
  · exact hx
/-- a halt for the walk -/
noncomputable def Stop (P : Prop) : Prop := P
theorem stop_gen {h₀ : Heap} {L : Addr} {s : Shared} {gens : Array GenState} {own news₁ : List (Addr × Obj)} {J : (Str → Option Value) → List (Addr × Obj) → Prop} {h : Heap} {tk : Nat} {m : Str → Option Value} {nw : List (Addr × Obj)} (F : Fr h₀ L h m) (N : News h₀ L h (nw ++ own)) (e : nw.map (·.1) = news₁.map (·.1)) (hJ : J m nw) :
    Stop (∃ h₃ tk₃ m₃ news₃, ({ s with heap := h, toks := tk, gens := gens } : Shared) = { s with heap := h₃, toks := tk₃, gens := gens } ∧ Fr h₀ L h₃ m₃ ∧ News h₀ L h₃ (news₃ ++ own) ∧ news₃.map (·.1) = news₁.map (·.1) ∧ J m₃ news₃) := ⟨h, tk, m, nw, rfl, F, N, e, hJ⟩
theorem loop_gen {S : List (Addr × Obj)} {elts : List Expr} {ne : Nat} {pt : Pos} (J : List Value → (Str → Option Value) → List (Addr × Obj) → Prop)
    (hloc : env.locals = L) (hh : A.handled = none) (hroom : A.depth < recursionLimit) (hlim : h₀.NoLimit) {gO : Addr} {oG : Obj} {g : Nat} (hG : GenO oG g)
    (hJS : ∀ vs m news, J vs m news → ∀ p ∈ S, p ∈ news)
    (turn : ∀ v vs m₁ news₁ own h tk gens, J (v :: vs) m₁ news₁ → Fr h₀ L h m₁ → News h₀ L h (news₁ ++ own) → (∀ p ∈ own, ∀ q ∈ news₁, p.1 ≠ q.1) → AllBare gens →
      wpAny (model prog w) A (assign (.Tuple elts ne pt) env v) (fun _ s₂ => wpAny (model prog w) A (execs body env) (fun f s₃ => match f with
        | .next | .cont => Stop (∃ h₃ tk₃ m₃ news₃, s₃ = { s with heap := h₃, toks := tk₃, gens := gens } ∧ Fr h₀ L h₃ m₃ ∧ News h₀ L h₃ (news₃ ++ own) ∧ news₃.map (·.1) = news₁.map (·.1) ∧ J vs m₃ news₃)
        | .brk => R (.ok .next) s₃
        | .ret v => R (.ok (.ret v)) s₃) NoE s₂) NoE { s with heap := h, toks := tk, gens := gens })
    (done : ∀ m₁ news₁ h tk gens, J [] m₁ news₁ → Fr h₀ L h m₁ → News h₀ L h news₁ → AllBare gens → R (.ok .next) { s with heap := h, toks := tk, gens := gens })
    {items : List Value} {I : List (Addr × Obj)} {gs : GenState} {m : Str → Option Value} {news : List (Addr × Obj)}
    (F : Fr h₀ L s.heap m) (N : News h₀ L s.heap (news ++ (gO, oG) :: I)) (hoff : ∀ p ∈ (gO, oG) :: I, ∀ q ∈ news, p.1 ≠ q.1) (hgI : ∀ p ∈ I, p.1 ≠ gO) (hgs : s.gens[g]? = some gs)
    (hR : Ready (model prog w) A.in1 S items I gs) (hB : AllBare s.gens) (hJ : J items m news) :
    codeAny (model prog w) A (.forLoop (.Tuple elts ne pt) (.ref gO) body [] env) R s := by
  subst hloc
  refine codeAny_forLoop_any (fun n s' => ∃ (vs : List Value) (h : Heap) (tk : Nat) (gens : Array GenState) (I : List (Addr × Obj)) (gs : GenState) (m₁ : Str → Option Value) (news₁ : List (Addr × Obj)), n = vs.length + 1 ∧ s' = { s with heap := h, toks := tk, gens := gens } ∧
      Fr h₀ env.locals h m₁ ∧ News h₀ env.locals h (news₁ ++ (gO, oG) :: I) ∧ (∀ p ∈ (gO, oG) :: I, ∀ q ∈ news₁, p.1 ≠ q.1) ∧ (∀ p ∈ I, p.1 ≠ gO) ∧ gens[g]? = some gs ∧ Ready (model prog w) A.in1 S vs I gs ∧ AllBare gens ∧ J vs m₁ news₁) ?_ (items.length + 1)
    ⟨items, s.heap, s.toks, s.gens, I, gs, m, news, rfl, rfl, F, N, hoff, hgI, hgs, hR, hB, hJ⟩
  intro n s' hz1_; (refine ex8 hz1_ fun vs h tk gens I gs m₁ news₁ w3_ => an10 w3_ fun y4_ y5_ F N hoff hgI hgs hR hB hJ => ?_; clear w3_; clear hz1_; obtain rfl := y4_; obtain rfl := y5_)
  have hgO : h.get? gO = some oG := (N (gO, oG) (by simp)).1
  have hS : HasI S h := fun p hp => (N p (List.mem_append_left _ (hJS _ _ _ hJ p hp))).1
  have hI : HasI I h := fun p hp => (N p (List.mem_append_right _ (.tail _ hp))).1
  have hSI : ∀ p ∈ S, p.1 ∉ I.map (·.1) := fun p hp hm => by
    (refine e1a2 (List.mem_map.mp hm) fun q hq e => ?_)
    exact hoff q (.tail _ hq) p (hJS _ _ _ hJ p hp) e
  have hLI : env.locals ∉ I.map (·.1) := fun hm => by
    (refine e1a2 (List.mem_map.mp hm) fun q hq e => ?_)
    exact (N q (List.mem_append_right _ (.tail _ hq))).2.1 e
  have fr : ∀ h' : Heap, (∀ b o, h.get? b = some o → b ∉ I.map (·.1) → h'.get? b = some o) → Fr h₀ env.locals h' m₁ := fun h' hk => by
    (refine e3a2 F.ns fun oL es ep hL r => ?_)
    refine ⟨⟨oL, es, ep, hk _ _ hL hLI, r⟩, fun b o e => hk _ _ (F.keep b o e) fun hm => ?_, F.above⟩
    (refine e1a2 (List.mem_map.mp hm) fun q hq e' => ?_)
    have := (N q (List.mem_append_right _ (.tail _ hq))).2.2
    rw [e', e] at this; cases this
  have nw : ∀ h' : Heap, (∀ b o, h.get? b = some o → b ∉ I.map (·.1) → h'.get? b = some o) → News h₀ env.locals h' (news₁ ++ [(gO, oG)]) := fun h' hk p hp => by
    have hp' : p ∈ news₁ ++ (gO, oG) :: I := by
      rcases List.mem_append.mp hp with q | q
      · exact List.mem_append_left _ q
      · simp only [List.mem_cons, List.not_mem_nil, or_false] at q; subst q; exact List.mem_append_right _ (.head _)
    refine ⟨hk _ _ (N p hp').1 fun hm => ?_, (N p hp').2⟩
    (refine e1a2 (List.mem_map.mp hm) fun q hq e' => ?_)
    rcases List.mem_append.mp hp with z | z
    · exact hoff q (.tail _ hq) p z e'
    · simp only [List.mem_cons, List.not_mem_nil, or_false] at z; subst z; exact hgI q hq e'
  refine next_gen hh (hlim.keeps F.keep) hroom (by (refine e2a3 hG fun nm qn a b c => ?_; try clear hG); exact exI3 oG nm qn (anI4 hgO a b c)) hgs hR hS hI hSI ?_ ?_
  · rintro rfl h' tk' hk
    show wpAny _ _ (execs [] env) _ _ _
    refine wpAny_execs_nil (done m₁ news₁ h' tk' _ hJ (fr h' hk) (fun p hp => nw h' hk p (List.mem_append_left _ hp)) (allBare_set hB rfl))
  · intro v vs hz1_; obtain rfl := hz1_; intro h' tk' gs' I' hz2_; (refine e2a4 hz2_ fun h'' tk'' e hk hI' hf => ?_; clear hz2_); intro hR' hb
    obtain ⟨rfl, rfl⟩ : h'' = h' ∧ tk'' = tk' := by injection e with a b c d e; exact ⟨a.symm, d.symm⟩
    have F' := fr h'' hk
    have hoff' : ∀ p ∈ (gO, oG) :: I', ∀ q ∈ news₁, p.1 ≠ q.1 := fun p hp q hq => by
      rcases List.mem_cons.mp hp with rfl | hp
      · exact hoff _ (.head _) q hq
      · rcases hf p hp with z | z
        · (refine e1a2 (List.mem_map.mp z) fun p' hp' e' => ?_)
          rw [← e']; exact hoff p' (.tail _ hp') q hq
        · intro e'
          have := (N q (List.mem_append_left _ hq)).1
          rw [← e'] at this; exact nomatch (this.symm.trans z)
    have N' : News h₀ env.locals h'' (news₁ ++ (gO, oG) :: I') := fun p hp => by
      rcases List.mem_append.mp hp with z | z
      · exact nw h'' hk p (List.mem_append_left _ z)
      · rcases List.mem_cons.mp z with rfl | z
        · exact nw h'' hk _ (List.mem_append_right _ (.head _))
        · refine ⟨hI' p z, ?_, ?_⟩
          · rcases hf p z with q | q
            · (refine e1a2 (List.mem_map.mp q) fun p' hp' e' => ?_)
              rw [← e']; exact (N p' (List.mem_append_right _ (.tail _ hp'))).2.1
            · intro e'
              (refine e3a2 F.ns fun oL es ep hL _ => ?_)
              rw [← e'] at hL; exact nomatch (hL.symm.trans q)
          · rcases hf p z with q | q
            · (refine e1a2 (List.mem_map.mp q) fun p' hp' e' => ?_)
              rw [← e']; exact (N p' (List.mem_append_right _ (.tail _ hp'))).2.2
            · cases y : h₀.get? p.1 with
              | none => rfl
              | some o => exact nomatch ((F.keep _ _ y).symm.trans q)
    have hgI' : ∀ p ∈ I', p.1 ≠ gO := fun p hp => by
      rcases hf p hp with q | q
      · (refine e1a2 (List.mem_map.mp q) fun p' hp' e' => ?_)
        rw [← e']; exact hgI p' hp'
      · intro e'; rw [e', show ({ s with heap := h, toks := tk, gens := gens } : Shared).heap.get? gO = some oG from hgO] at q; cases q
    have hlt : g < gens.size := by
      rcases Nat.lt_or_ge g gens.size with z | z
      · exact z
      · rw [Array.getElem?_eq_none z] at hgs; cases hgs
    refine letgo_gen (s := ({ s with heap := h'', toks := tk'', gens := gens } : Shared).setGen g gs') (show h''.get? gO = some oG from (nw h'' hk (gO, oG) (by simp)).1) hG ?_
    refine wpAny_mono (turn v vs m₁ news₁ _ h'' tk'' (gens.setIfInBounds g gs') hJ F' N' hoff' (allBare_set hB hb)) (fun _ s₂ h₂ => wpAny_mono h₂ (fun f s₃ h₃ => ?_) fun _ _ x => x.elim) fun _ _ x => x.elim
    have nx : (∃ h₃ tk₃ m₃ news₃, s₃ = { s with heap := h₃, toks := tk₃, gens := gens.setIfInBounds g gs' } ∧ Fr h₀ env.locals h₃ m₃ ∧ News h₀ env.locals h₃ (news₃ ++ (gO, oG) :: I') ∧ news₃.map (·.1) = news₁.map (·.1) ∧ J vs m₃ news₃) →
        ∃ k, k < (v :: vs).length + 1 ∧ ∃ (vs : List Value) (h : Heap) (tk : Nat) (gens : Array GenState) (I : List (Addr × Obj)) (gs : GenState) (m₁ : Str → Option Value) (news₁ : List (Addr × Obj)), k = vs.length + 1 ∧ s₃ = { s with heap := h, toks := tk, gens := gens } ∧
          Fr h₀ env.locals h m₁ ∧ News h₀ env.locals h (news₁ ++ (gO, oG) :: I) ∧ (∀ p ∈ (gO, oG) :: I, ∀ q ∈ news₁, p.1 ≠ q.1) ∧ (∀ p ∈ I, p.1 ≠ gO) ∧ gens[g]? = some gs ∧ Ready (model prog w) A.in1 S vs I gs ∧ AllBare gens ∧ J vs m₁ news₁ := by
      intro hz1_; (refine e4a5 hz1_ fun hx₃ tk₃ m₃ news₃ e₃ F₃ N₃ hm hJ₃ => ?_; clear hz1_)
      refine ⟨vs.length + 1, by simp, vs, hx₃, tk₃, _, I', gs', m₃, news₃, rfl, e₃, F₃, N₃, fun p hp q hq => ?_, hgI', by rw [Array.getElem?_setIfInBounds]; simp [hlt], hR', allBare_set hB hb, hJ₃⟩
      have : q.1 ∈ news₁.map (·.1) := hm ▸ List.mem_map.mpr ⟨q, hq, rfl⟩
      (refine e1a2 (List.mem_map.mp this) fun q' hq' e' => ?_)
      rw [← e']; exact hoff' p hp q' hq'
    cases f with
    | next => exact nx h₃
    | cont => exact nx h₃
    | brk => exact h₃
    | ret v => exact h₃
end loop
end
section
theorem ltq1 {a0 d : Addr} {o0 : Obj} {r : List (Addr × Obj)} {G : Prop} (k : @LT.lt Nat _ a0 d → (∀ p ∈ r, @LT.lt Nat _ p.1 d) → G) (h : ∀ p ∈ (a0, o0) :: r, @LT.lt Nat _ p.1 d) : G := k (h _ (.head _)) fun p hp => h p (.tail _ hp)
theorem ltq2 {a0 a1 d : Addr} {o0 o1 : Obj} {r : List (Addr × Obj)} {G : Prop} (k : @LT.lt Nat _ a0 d → @LT.lt Nat _ a1 d → (∀ p ∈ r, @LT.lt Nat _ p.1 d) → G) (h : ∀ p ∈ (a0, o0) :: (a1, o1) :: r, @LT.lt Nat _ p.1 d) : G := k (h _ (.head _)) (h _ (.tail _ (.head _))) fun p hp => h p (.tail _ (.tail _ hp))
theorem ltq4 {a0 a1 a2 a3 d : Addr} {o0 o1 o2 o3 : Obj} {r : List (Addr × Obj)} {G : Prop} (k : @LT.lt Nat _ a0 d → @LT.lt Nat _ a1 d → @LT.lt Nat _ a2 d → @LT.lt Nat _ a3 d → (∀ p ∈ r, @LT.lt Nat _ p.1 d) → G) (h : ∀ p ∈ (a0, o0) :: (a1, o1) :: (a2, o2) :: (a3, o3) :: r, @LT.lt Nat _ p.1 d) : G := k (h _ (.head _)) (h _ (.tail _ (.head _))) (h _ (.tail _ (.tail _ (.head _)))) (h _ (.tail _ (.tail _ (.tail _ (.head _))))) fun p hp => h p (.tail _ (.tail _ (.tail _ (.tail _ hp))))
theorem ltq8 {a0 a1 a2 a3 a4 a5 a6 a7 d : Addr} {o0 o1 o2 o3 o4 o5 o6 o7 : Obj} {r : List (Addr × Obj)} {G : Prop} (k : @LT.lt Nat _ a0 d → @LT.lt Nat _ a1 d → @LT.lt Nat _ a2 d → @LT.lt Nat _ a3 d → @LT.lt Nat _ a4 d → @LT.lt Nat _ a5 d → @LT.lt Nat _ a6 d → @LT.lt Nat _ a7 d → (∀ p ∈ r, @LT.lt Nat _ p.1 d) → G) (h : ∀ p ∈ (a0, o0) :: (a1, o1) :: (a2, o2) :: (a3, o3) :: (a4, o4) :: (a5, o5) :: (a6, o6) :: (a7, o7) :: r, @LT.lt Nat _ p.1 d) : G := k (h _ (.head _)) (h _ (.tail _ (.head _))) (h _ (.tail _ (.tail _ (.head _)))) (h _ (.tail _ (.tail _ (.tail _ (.head _))))) (h _ (.tail _ (.tail _ (.tail _ (.tail _ (.head _)))))) (h _ (.tail _ (.tail _ (.tail _ (.tail _ (.tail _ (.head _))))))) (h _ (.tail _ (.tail _ (.tail _ (.tail _ (.tail _ (.tail _ (.head _)))))))) (h _ (.tail _ (.tail _ (.tail _ (.tail _ (.tail _ (.tail _ (.tail _ (.head _))))))))) fun p hp => h p (.tail _ (.tail _ (.tail _ (.tail _ (.tail _ (.tail _ (.tail _ (.tail _ hp))))))))
theorem allLt_r {d : Addr} {r : List (Addr × Obj)} {G : Prop} (k : AllLt d r → G) (h : ∀ p ∈ r, @LT.lt Nat _ p.1 d) : G := k (allLt_of h)
theorem allLt_hd {a : Addr} {o : Obj} {d : Addr} {r : List (Addr × Obj)} (h : AllLt d ((a, o) :: r)) : @LT.lt Nat _ a d := h.1
theorem allLt_tl {p : Addr × Obj} {d : Addr} {r : List (Addr × Obj)} (h : AllLt d (p :: r)) : AllLt d r := h.2
@[reducible] noncomputable def NeA (a : Nat) : List Nat → Prop
  | [] => True
  | [b] => a ≠ b
  | b :: c :: l => a ≠ b ∧ NeA a (c :: l)
@[reducible] noncomputable def NdA : List Nat → Prop
  | [] => True
  | [_] => True
  | [a, b] => a ≠ b
  | a :: b :: c :: l => NeA a (b :: c :: l) ∧ NdA (b :: c :: l)
theorem neA_iff {a : Nat} : ∀ {l : List Nat}, NeA a l ↔ a ∉ l
  | [] => by simp [NeA]
  | [b] => by simp [NeA]
  | b :: c :: l => by
    have h := neA_iff (a := a) (l := c :: l)
    show (a ≠ b ∧ NeA a (c :: l)) ↔ _
    rw [h, List.mem_cons (b := b), not_or]
theorem ndA_iff : ∀ {l : List Nat}, NdA l ↔ l.Nodup
  | [] => by simp [NdA]
  | [_] => by simp [NdA]
  | [a, b] => by simp [NdA]
  | a :: b :: c :: l => by
    have h := ndA_iff (l := b :: c :: l)
    show (NeA a (b :: c :: l) ∧ NdA (b :: c :: l)) ↔ _
    rw [h, neA_iff, List.nodup_cons (a := a)]
set_option genInjectivity false in
set_option genSizeOf false in
structure WC where
  (bm da dns nss pm ps : Addr) (rs rd : Bool) (ti t0 t1 t2 t3 t4 t5 t6 t7 t8 t9 t10 t11 t12 t13 t14 t15 t16 : Tok) (en : Nat)
noncomputable def wDict (w : World) (c : WC) : Obj := dictOf [⟨PyData.keyHash w.params (Str.ofString "_write"), Value.str (Str.ofString "_write") c.t0, Value.ref c.bm⟩, ⟨PyData.keyHash w.params (Str.ofString "_data"), Value.str (Str.ofString "_data") c.t1, Value.ref c.da⟩, ⟨PyData.keyHash w.params (Str.ofString "_with_comments"), Value.str (Str.ofString "_with_comments") c.t2, Value.bool false⟩, ⟨PyData.keyHash w.params (Str.ofString "_strip_text"), Value.str (Str.ofString "_strip_text") c.t3, Value.bool false⟩, ⟨PyData.keyHash w.params (Str.ofString "_exclude_attrs"), Value.str (Str.ofString "_exclude_attrs") c.t4, Value.none⟩, ⟨PyData.keyHash w.params (Str.ofString "_exclude_tags"), Value.str (Str.ofString "_exclude_tags") c.t5, Value.none⟩, ⟨PyData.keyHash w.params (Str.ofString "_rewrite_prefixes"), Value.str (Str.ofString "_rewrite_prefixes") c.t6, Value.bool true⟩, ⟨PyData.keyHash w.params (Str.ofString "_qname_aware_tags"), Value.str (Str.ofString "_qname_aware_tags") c.t7, Value.none⟩, ⟨PyData.keyHash w.params (Str.ofString "_find_qname_aware_attrs"), Value.str (Str.ofString "_find_qname_aware_attrs") c.t8, Value.none⟩, ⟨PyData.keyHash w.params (Str.ofString "_declared_ns_stack"), Value.str (Str.ofString "_declared_ns_stack") c.t9, Value.ref c.dns⟩, ⟨PyData.keyHash w.params (Str.ofString "_ns_stack"), Value.str (Str.ofString "_ns_stack") c.t10, Value.ref c.nss⟩, ⟨PyData.keyHash w.params (Str.ofString "_prefix_map"), Value.str (Str.ofString "_prefix_map") c.t11, Value.ref c.pm⟩, ⟨PyData.keyHash w.params (Str.ofString "_preserve_space"), Value.str (Str.ofString "_preserve_space") c.t12, Value.ref c.ps⟩, ⟨PyData.keyHash w.params (Str.ofString "_pending_start"), Value.str (Str.ofString "_pending_start") c.t13, Value.none⟩, ⟨PyData.keyHash w.params (Str.ofString "_root_seen"), Value.str (Str.ofString "_root_seen") c.t14, Value.bool c.rs⟩, ⟨PyData.keyHash w.params (Str.ofString "_root_done"), Value.str (Str.ofString "_root_done") c.t15, Value.bool c.rd⟩, ⟨PyData.keyHash w.params (Str.ofString "_ignored_depth"), Value.str (Str.ofString "_ignored_depth") c.t16, Value.int 0 c.ti⟩] c.en
/-- how a call of ours ends -/
noncomputable abbrev Ret (h₀ : Heap) (L : Addr) (m : Str → Option Value) (news : List (Addr × Obj)) (s : Shared) (Q : Value → Shared → Prop) (v : Value) : Prop :=
  ∀ (h' : Heap) (tk : Nat) (gens : Array GenState) (dr : Drawn), Fr h₀ L h' m → News h₀ L h' news → AllBare gens → Q v { s with heap := h', toks := tk, gens := gens, drawn := dr }
theorem allNe_lt {d : Addr} : ∀ {l : List (Addr × Obj)}, AllLt d l → ∀ p ∈ l, p.1 ≠ d
  | [], _ => fun _ h => nomatch h
  | p :: r, h => fun q hq => by
    rcases List.mem_cons.mp hq with rfl | hq
    · exact Nat.ne_of_lt h.1
    · exact allNe_lt h.2 q hq
end
local macro_rules | `(tactic| tb_rel) => `(tactic| k_extra "rel")
local macro_rules | `(tactic| k_room) => `(tactic| k_extra "room")
local macro_rules | `(tactic| k_units) => `(tactic| k_extra "units")
local macro_rules | `(tactic| k_lt $h) => `(tactic| (revert $h; k_extra "lt"; intro $h:ident))
local macro_rules | `(tactic| k_all) => `(tactic| k_extra "all")
local macro_rules | `(tactic| k_data) => `(tactic| k_extra "data")
local macro_rules | `(tactic| k_ne) => `(tactic| k_extra "ne")
local macro_rules | `(tactic| size_fits) => `(tactic| k_extra "fits")
local macro_rules | `(tactic| kt_fact) => `(tactic| k_extra "fact")
local macro_rules | `(tactic| kpc_fact) => `(tactic| k_extra "fact")
example : True := by
  (k_with "rel" => first | with_reducible exact fun _ h => h | ((with_reducible refine sub_cc ?_); tb_rel) | ((with_reducible refine sub_sk ?_); tb_rel) | ((with_reducible refine sub_fm ?_ ?_); (with_reducible k_data); tb_rel) | fail)
  (k_with "room" => first | with_reducible assumption | exact rm1 (by with_reducible assumption) (by rfl) | exact rm2 (by with_reducible assumption) (by rfl) | exact rm3 (by with_reducible assumption) (by rfl) | exact rm0 (by with_reducible assumption) | exact rmB (by with_reducible assumption) (by rfl) | exact rmC (by with_reducible assumption) (by rfl) | exact rmD (by with_reducible assumption) (by rfl) | exact rmE (by with_reducible assumption) (by rfl) | exact rmF (by with_reducible assumption) (by rfl) | exact rmG (by with_reducible assumption) (by with_reducible assumption) (by rfl) | exact rmH (by with_reducible assumption) (by with_reducible assumption) (by rfl) | ((with_reducible apply ic1); k_room) | ((with_reducible apply rmS); with_reducible assumption; rfl) | ((with_reducible apply rmT); with_reducible assumption; with_reducible assumption; rfl) | ((with_reducible apply rmP); with_reducible assumption; rfl) | exact Nat.lt_of_lt_of_le (by with_reducible assumption) (Nat.min_le_left _ _) | exact Nat.lt_of_lt_of_le (by with_reducible assumption) (Nat.min_le_right _ _) | with_reducible exact Nat.succ_le_succ (Nat.sub_le _ _) | exact sbS (by with_reducible assumption) | exact sbL (by with_reducible assumption) | exact sbL (Nat.lt_succ_of_lt (by with_reducible assumption)) | exact sbE (by with_reducible assumption) | exact sbP (by with_reducible assumption) | exact sbZ (by with_reducible assumption) | exact neA rfl | exact neB rfl | exact neC rfl | with_reducible exact fm55a _ | with_reducible exact fm55b _ | with_reducible exact fm12a _ | with_reducible exact fm12b _ | with_reducible exact fm12c _ | with_reducible exact fm12d _ | lia | omega | ((try simp only [depth_under_make, depth_under_kw, depth_in1, depth_deeper, depth_caller]); (try dsimp only [ktrTop]); first | exact rm1 (by with_reducible assumption) (by rfl) | exact rm2 (by with_reducible assumption) (by rfl) | omega) | fail)
  (k_with "units" => first | ((try simp only [units_in1, units_deeper, Around.mark_units, units_caller]); (try dsimp only [ktrTop]); first | exact rm1 (by with_reducible assumption) (by rfl) | exact rm2 (by with_reducible assumption) (by rfl) | omega) | fail)
  (k_with "lt" => first | ((first | (refine ltq8 ?_; intro _ _ _ _ _ _ _ _) | (refine ltq4 ?_; intro _ _ _ _) | (refine ltq2 ?_; intro _ _) | (refine ltq1 ?_; intro _)); (try (refine ltq4 ?_; intro _ _ _ _)); (try (refine ltq2 ?_; intro _ _)); (try (refine ltq1 ?_; intro _)); refine allLt_r ?_) | fail)
  (k_with "all" => first | assumption | exact allNe_lt (by assumption) | fail)
  (k_with "data" => first | exact List.Mem.head _ | tb_rel | (refine List.Mem.tail _ ?_; k_data) | (refine List.mem_append_left _ ?_; k_data) | (refine List.mem_append_right _ ?_; k_data) | (refine fmc ?_ ?_ <;> k_data) | (refine fma ?_ ?_ <;> k_data) | assumption | (intro _ _; k_data) | fail)
  (k_with "ne" => first | (refine neN ?_; (try dsimp only); first | assumption | exact Ne.symm (by assumption) | exact Nat.ne_of_lt (by assumption) | exact Nat.ne_of_gt (by assumption) | omega) | fail)
  (k_with "fits" => first | exact szB (by with_reducible assumption) (by rfl) | exact szL (by with_reducible assumption) (by rfl) | exact szB (n := 1) (by with_reducible assumption) (by rfl) | exact szB (n := 10) (by with_reducible assumption) (by rfl) | exact szB (n := 6) (by with_reducible assumption) (by rfl) | exact szB (n := 20) (by with_reducible assumption) (by rfl) | exact szB (n := 1000) (by with_reducible assumption) (by rfl) | exact szB (n := 40) (by with_reducible assumption) (by rfl) | fail)
  (k_with "fact" => first | with_reducible exact fm55a _ | with_reducible exact fm55b _ | with_reducible exact fm12a _ | with_reducible exact fm12b _ | with_reducible exact fm12c _ | with_reducible exact fm12d _ | with_reducible exact ic0 | with_reducible exact ic4 | ((with_reducible refine ic3 ?_); with_reducible assumption) | ((with_reducible refine ic5 ?_); with_reducible assumption) | fail)
  (k_with "st" => (k_here; k_dflt (refine stop_any ?_)))
  (k_with "en" => (k_here; k_dflt (refine' nameX_L ?F_r ?v_r ?_ ?a_r ?b_r; (case F_r => k_asm); (case a_r => rfl); (case b_r => rfl); (case v_r => first | rfl | assumption); k_whole)))
  (k_with "ap" => (k_here; (with_reducible show wpAny _ _ (call (Value.builtin _) [Value.ref _, _]) _ _ _); k_dflt (refine' append_K ?k1_r ?k2_r ?k3_r ?_ ?z_r; (case k1_r => k_asm); (case k2_r => k_asm); (case k3_r => k_upd); (case z_r => (rw [sizeLine_eq]; k_room)); k_whole); intro _ _ _; (try k_sweep)))
  (k_with "fr" => (k_here; k_dflt (refine wpAny_For ?_)))
  (k_with "b1" => (k_here; k_dflt (refine' callWith_bm ?N_r ?m_r ?_; (case N_r => k_asm); (case m_r => k_mem); k_whole)))
  (k_with "b2" => ((with_reducible show BmAt _ _ _ ∧ _); k_dflt (refine ⟨(show BmAt _ _ _ from News.get (by k_asm) (by k_mem)), ?_⟩); (try dsimp only [List.nil_append, List.cons_append])))
  (k_with "b3" => (k_here; k_dflt (refine' call_bm ?F_r ?N_r ?m_r ?U_r ?z_r ?_; (case F_r => k_asm); (case N_r => k_asm); (case m_r => k_mem); (case U_r => k_updF); (case z_r => rw [sizeLine_eq]; k_room); k_whole; intro _ _ N'r; (try dsimp only at N'r))))
  (k_with "b4" => (k_dflt (refine sub_last (by k_asm) (by k_mem) (by assumption) (by assumption) ?_ (by with_unfolding_all rfl) fun _ => by with_unfolding_all rfl)))
  (k_with "b5" => ((with_reducible show PySem.Str.length (_ ++ _) ≤ sizeLine ∧ wpAny _ _ (joinParts _ _) _ _ _); k_dflt (refine And.intro ?x_r ?_; (case x_r => exact sz_le (by kt_len) (by kt_len) (by decide +kernel)))))
  (k_with "b6" => (k_dflt (refine kda_item (knd := PySem.strKind _ _) (by k_asm) (by k_mem) (by k_asm) (strKind_is _ _ _ _) (by assumption) ?_)))
  (k_with "b7" => (k_here; k_dflt (refine' pop_nw ?F_r ?N_r ?U_r ?z_r ?_; (case F_r => k_asm); (case N_r => k_asm); (case U_r => k_updF); (case z_r => assumption)); intro _ _ _))
  (k_with "b8" => (k_here; k_dflt (refine' lword _ _ _ _ _ _ _ _ _ _ _ _ _ _ _ _ _ _ _ _ _ _ _ _ _ _ ?kB_r ?kF_r ?kX_r ?kN_r ?kT_r ?kc_r ?kd_r ?ku_r ?kb_r ?_; (case kB_r => k_asm); (case kF_r => k_asm); (case kX_r => k_asm); (case kN_r => k_asm); (case kT_r => k_asm); (case kc_r => rfl); (case kd_r => (dsimp only [ktrTop]; k_room)); (case ku_r => (dsimp only [ktrTop]; k_room)); (case kb_r => k_asm)); (intro _ _ _ _ _; (try dsimp only))))
  (k_with "b9" => (k_here; k_dflt (refine strs_index (by k_asm) (by k_mem) (by assumption) (by assumption) (by k_room) ?_); (try dsimp only)))
  (k_with "c1" => (k_here; k_dflt (refine ListComp_U (F₀ := by k_asm) (by with_unfolding_all rfl) (by decide) (by rfl) (by decide) (by rfl) ?_)))
  trivial
section
/-! sets of texts, drawn in no order -/
section
variable {prog : Program} {w : World} {A : Around} {E : Value → Shared → Prop} {s : Shared}
theorem relayAll_plain {t : SetTable} {es : Array (Int × Value)} {n : Nat} (h : t.plain = false) : (relayAll t es n).2.1.plain = false := by
  unfold relayAll
  split
  · rename_i t' order hr
    have ht : t'.plain = false := by
      unfold SetTable.relaid SetTable.laid at hr
      simp only [Option.bind_eq_bind, Option.bind_eq_some_iff, Option.pure_def, Option.some.injEq, Prod.mk.injEq] at hr
      (refine e1a3 hr fun _ _ y3_ _ => ?_; try clear hr; obtain rfl := y3_)
      exact h
    dsimp only
    split
    · exact ht
    · rfl
  · rfl
/-- a set of texts -/
structure SetS (prog : Program) (w : World) (o : Obj) (ks : List Str) : Prop where
  exact_ : o.ExactSet
  dat : ∃ es ep t, o.data = .set es ep t ∧ ElemsOf (PySem.strKind prog w) es.toList ∧ (∃ kt : List (Str × Tok), es.toList.map (·.2) = kt.map (fun q => Value.str q.1 q.2) ∧ (kt.map (·.1)).Perm ks) ∧ t.fits es.size = true ∧ (ks ≠ [] → t.plain = false)
  small : ks.length < 100
theorem SetS.empty (led : Bool) : SetS prog w { cls := .type "set", dict := none, data := .set #[] 0 (.fresh 0 0 led) } [] :=
  ⟨⟨rfl, rfl, rfl⟩, ⟨#[], 0, _, rfl, fun e he => by simp at he, ⟨[], rfl, .nil⟩, rfl, fun h => absurd rfl h⟩, by decide⟩
theorem setS_store {h : Heap} {a : Addr} {o : Obj} {es : Array (Int × Value)} {ep : Nat} {t : SetTable} (ho : h.get? a = some o) (hex : o.ExactSet) (hd : o.data = .set es ep t)
    {es' : Array (Int × Value)} {t' : SetTable} {ks : List Str} (hel : ElemsOf (PySem.strKind prog w) es'.toList) (hk : ∃ kt : List (Str × Tok), es'.toList.map (·.2) = kt.map (fun q => Value.str q.1 q.2) ∧ (kt.map (·.1)).Perm ks) (hf : t'.fits es'.size = true) (hp : ks ≠ [] → t'.plain = false) (hs : ks.length < 100) :
    (h.update a (Obj.putSet es' t')).get? a = some { o with data := .set es' (ep + 1) t' } ∧ SetS prog w { o with data := .set es' (ep + 1) t' } ks := by
  have hg : (h.update a (Obj.putSet es' t')).get? a = some { o with data := .set es' (ep + 1) t' } := by
    have := Heap.get?_update_self (Obj.putSet es' t') ho (by rw [putSet_of es' t' hd]; rfl)
    rw [putSet_of es' t' hd] at this; exact this
  exact ⟨hg, hex, ⟨es', ep + 1, t', rfl, hel, hk, hf, hp⟩, hs⟩
theorem kt_perm {es es' : List (Int × Value)} {ks : List Str} (p : es'.Perm es) (h : ∃ kt : List (Str × Tok), es.map (·.2) = kt.map (fun q => Value.str q.1 q.2) ∧ (kt.map (·.1)).Perm ks) : ∃ kt : List (Str × Tok), es'.map (·.2) = kt.map (fun q => Value.str q.1 q.2) ∧ (kt.map (·.1)).Perm ks := by
  induction p generalizing ks with
  | nil => exact h
  | cons x p ih =>
    (refine e1a2 h fun kt h1 h2 => ?_; try clear h)
    match kt, h1 with
    | q :: kt, h1 =>
      simp only [List.map_cons, List.cons.injEq] at h1
      (refine e1a2 (ih (ks := kt.map (·.1)) ⟨kt, h1.2, .rfl⟩) fun kt' a b => ?_)
      exact ⟨q :: kt', by simp only [List.map_cons, h1.1, a], by rw [List.map_cons]; exact (List.Perm.cons _ b).trans h2⟩
  | swap x y l =>
    (refine e1a2 h fun kt h1 h2 => ?_; try clear h)
    match kt, h1 with
    | q :: r :: kt, h1 =>
      simp only [List.map_cons, List.cons.injEq] at h1
      exact ⟨r :: q :: kt, by simp only [List.map_cons, h1.1, h1.2.1, h1.2.2], by rw [List.map_cons, List.map_cons]; exact (List.Perm.swap _ _ _).trans h2⟩
    | [q], h1 => simp at h1
  | trans p1 p2 ih1 ih2 => exact ih1 (ih2 h)
theorem setS_len {es : Array (Int × Value)} {ks : List Str} (h : ∃ kt : List (Str × Tok), es.toList.map (·.2) = kt.map (fun q => Value.str q.1 q.2) ∧ (kt.map (·.1)).Perm ks) : es.size = ks.length := by
  (refine e1a2 h fun kt a b => ?_; try clear h)
  have := congrArg List.length a
  have b := b.length_eq
  simp only [List.length_map, Array.length_toList] at this b
  k_room
theorem setS_addHashed {a : Addr} {o : Obj} {ks : List Str} {k : Str} {tk : Tok} {Q : Bool → Shared → Prop} (ho : s.heap.get? a = some o) (hS : SetS prog w o ks) (hk : k ∉ ks) (hsz : ks.length < 50)
    (h : ∀ h' o', Heap.SameBut a s.heap h' → h'.get? a = some o' → SetS prog w o' (ks ++ [k]) → Q true { s with heap := h' }) :
    wpAny (model prog w) A (setAddHashed a (.str k tk) ((PySem.strKind prog w).hash k)) Q E s := by
  obtain ⟨hex, ⟨es, ep, t, hd, hel, hkt, hf, hpl⟩, _⟩ := hS
  have hn := setS_len hkt
  have hb : es.size < scanBound := by rw [hn]; show _ < 4096; k_room
  have hkey := strKind_is prog w k tk
  have hsc : (Value.str k tk).scannable = true := rfl
  unfold setAddHashed setAddHashedIn
  refine wpAny_holding (wpAny_bind (wpAny_setState_of ho hd hf ?_))
  dsimp only
  rw [byScan_of hsc hb hel]
  simp only [↓reduceIte]
  unfold setAddByScan
  refine wpAny_bind ?_
  refine wpAny_bind (wpAny_rule ?_)
  refine wpAny_bind (wpAny_setScan_of hkey ho hd hf hel ?_)
  have hr : List.findIdx? (fun e => (PySem.strKind prog w).is k e.2) es.toList = none := by
    refine List.findIdx?_eq_none_iff.mpr fun e he => ?_
    (refine e1a2 hkt fun kt h1 h2 => ?_; try clear hkt)
    have hm : e.2 ∈ kt.map (fun q => Value.str q.1 q.2) := by rw [← h1]; exact List.mem_map.mpr ⟨e, he, rfl⟩
    (refine e1a2 (List.mem_map.mp hm) fun q hq e2 => ?_)
    rw [← e2]
    cases hb : (PySem.strKind prog w).is k (Value.str q.1 q.2)
    · rfl
    · have := (PySem.strKind prog w).inj _ k q.1 hb (strKind_is prog w q.1 q.2)
      exact absurd (h2.mem_iff.mp (List.mem_map.mpr ⟨q, hq, rfl⟩)) (by rw [← this]; exact hk)
  rw [hr]
  dsimp only
  have hgw : ∀ (b : Bool) {s₁ : Shared} {Q' : Unit → Shared → Prop}, Q' () s₁ → wpAny (model prog w) A (match b with | true => rule "set.scan.the-table-gave-way" | false => pure ()) Q' E s₁ :=
    fun b s₁ Q' hq => by cases b <;> first | exact wpAny_pure hq | exact wpAny_rule hq
  have hperm := layNew_perm t es ((PySem.strKind prog w).hash k) (.str k tk)
  have hfits := layNew_fits t es ((PySem.strKind prog w).hash k) (.str k tk)
  generalize hL : layNew t es ((PySem.strKind prog w).hash k) (.str k tk) = LL at hperm hfits ⊢
  obtain ⟨es1, t1, wasDummy, gave⟩ := LL
  dsimp only at hperm hfits ⊢
  rw [Array.toList_push] at hperm
  have hel1 : ElemsOf (PySem.strKind prog w) es1.toList := (hel.push hkey hsc).perm hperm
  have hkt0 : ∃ kt : List (Str × Tok), (es.toList ++ [((PySem.strKind prog w).hash k, Value.str k tk)]).map (·.2) = kt.map (fun q => Value.str q.1 q.2) ∧ (kt.map (·.1)).Perm (ks ++ [k]) := by
    (refine e1a2 hkt fun kt h1 h2 => ?_; try clear hkt)
    exact ⟨kt ++ [(k, tk)], by simp only [List.map_append, h1]; rfl, by rw [List.map_append]; exact h2.append .rfl⟩
  have hkt1 := kt_perm hperm hkt0
  have hn1 := setS_len hkt1
  rw [List.length_append] at hn1
  have hz1 : es1.size ≤ sizeLine := by rw [sizeLine_eq, hn1]; simp; k_room
  have tail : ∀ t2 : SetTable, t2.fits es1.size = true → t2.plain = false → wpAny (model prog w) A (do
        storeSet a es1 t2
        if (!wasDummy && t2.tooFull) = true then do
            (match (relayAll t2 es1 (SetTable.grown es1.size)).2.2 with | true => rule "set.scan.the-table-gave-way" | false => pure ())
            storeSet a (relayAll t2 es1 (SetTable.grown es1.size)).1 (relayAll t2 es1 (SetTable.grown es1.size)).2.1
            pure (some true)
          else pure (some true)) (fun r s' => r = some true ∧ Q true s') E s := by
    intro t2 hf2 hp2
    refine wpAny_bind (wpAny_storeSet_of ho hd ?_ hz1)
    (refine an2 (setS_store (prog := prog) (w := w) ho hex hd hel1 hkt1 hf2 (fun _ => hp2) (by simp; k_room)) fun ho1 hS1 => ?_)
    have hsb1 := Heap.SameBut.update s.heap a (Obj.putSet es1 t2)
    split
    · have hp := relayAll_perm t2 es1 (SetTable.grown es1.size)
      have hfr := relayAll_fits t2 es1 (SetTable.grown es1.size)
      have hpr := relayAll_plain (es := es1) (n := SetTable.grown es1.size) hp2
      generalize hRl : relayAll t2 es1 (SetTable.grown es1.size) = Rl at hp hfr hpr ⊢
      obtain ⟨es2, t3, gave2⟩ := Rl
      dsimp only at hp hfr hpr ⊢
      have hel2 : ElemsOf (PySem.strKind prog w) es2.toList := hel1.perm hp
      have hkt2 := kt_perm hp hkt1
      have hz2 : es2.size ≤ sizeLine := by rw [sizeLine_eq, setS_len hkt2]; simp; k_room
      refine wpAny_bind (hgw _ ?_)
      refine wpAny_bind (wpAny_storeSet_of ho1 rfl ?_ hz2)
      (refine an2 (setS_store (prog := prog) (w := w) ho1 hex rfl hel2 hkt2 hfr (fun _ => hpr) (by simp; k_room)) fun ho2 hS2 => ?_)
      exact wpAny_pure ⟨rfl, h _ _ (hsb1.trans (Heap.SameBut.update _ a _)) ho2 hS2⟩
    · exact wpAny_pure ⟨rfl, h _ _ hsb1 ho1 hS1⟩
  refine wpAny_bind (hgw _ ?_)
  split
  · refine wpAny_bind ?_
    rw [hashByValue_scannable 8 hsc]
    refine wpAny_pure ?_
    refine wpAny_mono (tail _ (SetTable.fits_plain_off hfits) rfl) (fun r s' hr => ?_) fun _ _ e => e
    (refine an2 hr fun y1_ hq => ?_; try clear hr; obtain rfl := y1_)
    exact wpAny_pure hq
  · rename_i hpl1
    refine wpAny_bind (wpAny_pure ?_)
    simp only [↓reduceIte]
    refine wpAny_mono (tail _ hfits (by simpa using hpl1)) (fun r s' hr => ?_) fun _ _ e => e
    (refine an2 hr fun y1_ hq => ?_; try clear hr; obtain rfl := y1_)
    exact wpAny_pure hq
end
end
section
section
variable {prog : Program} {w : World} {A : Around} {E : Value → Shared → Prop} {s : Shared}
theorem lay1_dec : ((List.range 16).all fun i => decide (((List.range 16).filterMap fun j => (((Array.replicate 16 (none : Option Nat)).setIfInBounds i (some 0)).getD j none).map (j, ·)) = [(i, 0)])) = true := by decide +kernel
theorem layClean1 (h : Int) : SetTable.layClean 15 #[h] = some ((Array.replicate 16 none).setIfInBounds (SetTable.bits h % 16) (some 0)) := by
  have hi : SetTable.bits h % 16 < 16 := Nat.mod_lt _ (by decide)
  have hf : SetTable.layClean.free 15 (Array.replicate 16 none) (SetTable.turns 15) (SetTable.bits h % 16) (SetTable.bits h) = some (SetTable.bits h % 16) := by
    generalize SetTable.bits h % 16 = i at hi
    show SetTable.layClean.free 15 (Array.replicate 16 none) (29 + 1) i _ = _
    conv => lhs; whnf
    have hr : ∃ n, SetTable.runEnd 15 i + 1 - i = n + 1 := ⟨SetTable.runEnd 15 i - i, by unfold SetTable.runEnd; split <;> lia⟩
    (refine ex1 hr fun n hn => ?_; try clear hr)
    rw [hn, List.range_succ_eq_map, List.find?_cons]
    have : ((Array.replicate 16 (none : Option Nat)).getD (i + 0) (some 0)).isNone = true := by simp [Array.getD, hi]
    rw [this]
    rfl
  unfold SetTable.layClean
  show Option.map _ (Array.foldl _ (some (Array.replicate (15 + 1) none, 0)) #[h]) = _
  simp only [List.size_toArray, List.length_cons, List.length_nil, Nat.zero_add, List.foldl_toArray', List.foldl_cons, List.foldl_nil]
  show Option.map _ (do let j ← SetTable.layClean.free 15 (Array.replicate 16 none) (SetTable.turns 15) (SetTable.bits h % 16) (SetTable.bits h); pure ((Array.replicate 16 none).setIfInBounds j (some 0), 0 + 1)) = _
  rw [hf]; rfl
theorem laid1 (fg mv : Nat) (led plain : Bool) (h : Int) : ∃ i, SetTable.laid 15 fg mv led plain #[h] = some ({ mask := 15, place := #[i], dummies := #[], finger := fg, led := led, moves := mv, plain := plain }, #[0]) := by
  have hi : SetTable.bits h % 16 < 16 := Nat.mod_lt _ (by decide)
  refine ⟨SetTable.bits h % 16, ?_⟩
  unfold SetTable.laid
  rw [layClean1]
  have := of_decide_eq_true (List.all_eq_true.mp lay1_dec _ (List.mem_range.mpr hi))
  show (some _ : Option _) = _
  simp only [Nat.reduceAdd]
  rw [this]; rfl
theorem arr1 {α} {es : Array α} (h : es.size = 1) : ∃ e0, es = #[e0] := by
  exact (Array.size_eq_one_iff.mp h)
theorem setS_room {a : Addr} {o : Obj} {k : Str} {Q : Unit → Shared → Prop} (ho : s.heap.get? a = some o) (hS : SetS prog w o [k])
    (h : ∀ h' o', Heap.SameBut a s.heap h' → h'.get? a = some o' → SetS prog w o' [k] → Q () { s with heap := h' }) :
    wpAny (model prog w) A (setRoomFor a 4) Q E s := by
  have hS0 := hS
  obtain ⟨hex, ⟨es, ep, t, hd, hel, hkt, hf, hpl⟩, _⟩ := hS
  have hn := setS_len hkt
  have hpz : t.place.size = 1 := by
    simp only [SetTable.fits, Bool.and_eq_true, beq_iff_eq] at hf
    rw [hf.1, hn]; rfl
  unfold setRoomFor
  refine wpAny_bind (wpAny_setState_of ho hd hf ?_)
  unfold SetTable.roomFor
  rw [hpz]
  dsimp only
  split
  · rename_i wanted hw
    split at hw
    · injection hw with hw
      subst hw
      unfold setRelay
      refine wpAny_bind (wpAny_setState_of ho hd hf ?_)
      dsimp only
      first | refine ifn (by rw [sizeLine_eq]; decide +kernel) ?_ | rw [if_neg (by rw [sizeLine_eq]; decide +kernel)]
      (refine ex1 (arr1 hn) fun e0 he0 => ?_)
      subst he0
      unfold SetTable.relaid
      rw [show SetTable.sizeAbove ((1 + 4) * 2) - 1 = 15 by decide +kernel]
      (refine ex1 (laid1 t.finger (t.movedTo 15) t.led t.plain e0.1) fun i hi => ?_)
      rw [show (#[e0].map fun x : Int × Value => x.1) = #[e0.1] by simp, hi]
      show wpAny _ A (pure (#[e0], ({ mask := 15, place := #[i], dummies := #[], finger := t.finger, led := t.led, moves := t.movedTo 15, plain := t.plain } : SetTable)) >>= fun x => storeSet a x.1 x.2) _ _ _
      refine wpAny_bind (wpAny_pure (wpAny_storeSet_of ho hd ?_ (by rw [sizeLine_eq]; show 1 ≤ 16777216; decide)))
      (refine an2 (setS_store (prog := prog) (w := w) (t' := { mask := 15, place := #[i], dummies := #[], finger := t.finger, led := t.led, moves := t.movedTo 15, plain := t.plain }) ho hex hd hel hkt rfl hpl (by simp)) fun ho1 hS1 => ?_)
      exact h _ _ (Heap.SameBut.update _ a _) ho1 hS1
    · cases hw
  · have := h s.heap o (Heap.SameBut.refl a s.heap) ho hS0
    exact wpAny_pure this
theorem keyK {e : DictEntry} {kv : Str × Value} (h : (PySem.strKind prog w).is kv.1 e.key = true) : ∃ t, e.key = .str kv.1 t := Value.isStrOf_shape h
theorem setS_update_loop {I : Addr} {fp wr : List Addr} {G : Array GenState → Array GenState → Prop} {kvs : List (Str × Value)} {St : Nat → Shared → Prop} {R : Result → Shared → Prop} {ks : List Str}
    (W : WalksS prog w A.in1 I fp wr G kvs.length (fun i v => ∃ k x, kvs[i]? = some (k, x) ∧ (PySem.strKind prog w).is k v = true) St) (S : Addr) (hSf : S ∉ fp) (hnd : (ks ++ kvs.map (·.1)).Nodup) (hsz : ks.length + kvs.length < 50) :
    ∀ (k i : Nat) (s : Shared), kvs.length - i = k → i ≤ kvs.length → St i s → (∃ o, s.heap.get? S = some o ∧ SetS prog w o (ks ++ (kvs.take i).map (·.1))) →
      (∀ s' o, Moved (S :: wr) G s s' → s'.heap.get? S = some o → SetS prog w o (ks ++ kvs.map (·.1)) → R (.ok (.ret .none)) s') →
      codeAny (model prog w) A (.builtin "set.update.loop" ⟨[.ref S, .ref I], []⟩) R s := by
  have hSw : S ∉ wr := fun h => hSf (W.sub _ h)
  have hsub : ∀ b ∈ wr, b ∈ S :: wr := fun b hb => List.mem_cons_of_mem _ hb
  intro k
  induction k with
  | zero =>
    intro i s hk hi hst hS hR
    have hin : i = kvs.length := by k_room
    subst hin
    refine codeAny_builtin F.entry_set_update_loop ?_
    rw [Around.under_plainId F.plain_set_update_loop _]
    show wpAny _ A.in1 (pyNext (.ref I) >>= _) _ _ s
    refine wpAny_bind (W.done s _ _ hst fun s' hm => ?_)
    show wpAny _ A.in1 (ret Value.none) _ _ s'
    (refine ex1 hS ?_; clear hS; refine fun o w1_ => an2 w1_ fun ho hS => ?_; clear w1_)
    rw [List.take_length] at hS
    exact wpAny_pure (hR s' o (hm.mono hsub) (hm.heap S _ hSw ho) hS)
  | succ k ih =>
    intro i s hk hi hst hS hR
    have hlt : i < kvs.length := by k_room
    refine codeAny_builtin F.entry_set_update_loop ?_
    rw [Around.under_plainId F.plain_set_update_loop _]
    show wpAny _ A.in1 (pyNext (.ref I) >>= _) _ _ s
    refine wpAny_bind (W.item i s _ _ hlt hst fun v s' hP hst' hm => ?_)
    (refine e2a2 hP fun kk x hkx hv => ?_; try clear hP)
    (refine ex1 (Value.isStrOf_shape hv) fun t y1_ => ?_; obtain rfl := y1_)
    (refine ex1 hS ?_; clear hS; refine fun o w1_ => an2 w1_ fun ho hS => ?_; clear w1_)
    have ho' := hm.heap S _ hSw ho
    have htk : (kvs.take (i + 1)).map (·.1) = (kvs.take i).map (·.1) ++ [kk] := by
      rw [List.take_add_one, hkx, List.map_append]; rfl
    have hnew : kk ∉ ks ++ (kvs.take i).map (·.1) := by
      have e : kvs = kvs.take i ++ kvs.drop i := (List.take_append_drop i kvs).symm
      have hm : (kk, x) ∈ kvs.drop i := by
        refine List.mem_of_getElem? (i := 0) ?_
        rw [List.getElem?_drop, Nat.add_zero]; exact hkx
      intro hk
      rw [e, List.map_append, ← List.append_assoc, List.nodup_append] at hnd
      exact hnd.2.2 _ hk kk (List.mem_map.mpr ⟨_, hm, rfl⟩) rfl
    show wpAny _ A.in1 (holding [Value.str kk t] (setAdd S (.str kk t)) >>= _) _ _ s'
    refine wpAny_bind (wpAny_holding ?_)
    unfold setAdd
    refine wpAny_holding ?_
    refine wpAny_bind ((PySem.strKind prog w).pyHash (k := kk) (strKind_is _ _ _ _) ?_)
    refine setS_addHashed (s := { s' with toks := s'.toks + 1 }) ho' hS hnew (by simp; k_room) fun h' o' hsb hg hS2 => ?_
    refine wpAny_pure ⟨plainId_quiet F.plain_set_update_loop _, ih (i + 1) _ (by k_room) hlt (W.frame _ s' _ _ hst' (Nat.le_succ _) fun b hb o e => ?_) ⟨o', hg, by rw [htk, ← List.append_assoc]; exact hS2⟩ fun s'' o'' hm'' hg'' hS'' => ?_⟩
    · rw [hsb.2 b (fun h : b = S => hSf (by rw [← h]; exact hb))]; exact e
    · refine hR s'' o'' (Moved.trans W.gtrans ((hm.mono hsub).then_heap (Nat.le_succ _) fun b o hb e => ?_) hm'') hg'' hS''
      rw [hsb.2 b (fun h : b = S => hb (by rw [h]; exact List.mem_cons_self))]; exact e
theorem sub_dict_set : isSubtype (.type "dict") (.type "set") = pure false := by rw [isSubtype_type]; kernel_rfl
theorem sub_dict_frozenset : isSubtype (.type "dict") (.type "frozenset") = pure false := by rw [isSubtype_type]; kernel_rfl
theorem setS_star {a d : Addr} {o od : Obj} {k : Str} {kvs : List (Str × Value)} {Q : Unit → Shared → Prop} (hh : A.handled = none) (ho : s.heap.get? a = some o) (hS : SetS prog w o [k]) (hod : s.heap.get? d = some od) (hd : od.IsDictOf (PySem.strKind prog w) kvs) (lo : (d == sysModules) = false)
    (hne : d ≠ a) (h4 : kvs.length = 4) (hnd : (k :: kvs.map (·.1)).Nodup)
    (h : ∀ h' tk o', (∀ b x, b ≠ a → s.heap.get? b = some x → h'.get? b = some x) → h'.get? a = some o' → SetS prog w o' (k :: kvs.map (·.1)) → Q () { s with heap := h', toks := tk }) :
    wpAny (model prog w) A (setDisplayStar a (.ref d)) Q E s := by
  have hT : s.TypeIs (.ref d) "dict" := by (refine e2a2 hd fun _ _ hx _ => ?_; try clear hd); exact ⟨_, hod, hx.1⟩
  unfold setDisplayStar
  refine wpAny_bind (wpAny_isInstance (b := false) hT sub_dict_set ?_)
  refine ifn (by decide) ?_
  refine wpAny_bind (wpAny_isInstance (b := false) hT sub_dict_frozenset ?_)
  refine wpAny_bind (wpAny_askSetting ?_)
  dsimp only
  (refine ex2 hd fun es ep w1_ => an5 w1_ fun hx hdat hk hp hn => ?_; clear w1_; try clear hd)
  have hel : es.size = 4 := by rw [← h4, ← hp.length]; simp
  cases hb : w.params.followText "set-display-star-reads-storage"
  · have hb' : (model prog w).w.params.followText "set-display-star-reads-storage" = false := hb
    rw [if_neg (show ¬ (model prog w).w.params.followText "set-display-star-reads-storage" = true from fun e => absurd (hb'.symm.trans e) Bool.false_ne_true)]
    refine ifn (by decide) ?_
    refine wpAny_bind (wpAny_typeOf hT ?_)
    refine ifp (by decide) ?_
    refine wpAny_bind (wpAny_rule ?_)
    refine ifn (fun e => absurd (lo.symm.trans e) Bool.false_ne_true) ?_
    refine wpAny_bind (wpAny_dictEpoch hod hdat ?_)
    refine wpAny_bind (wpAny_dictEntries hod hdat ?_)
    rw [hel]
    refine wpAny_bind (setS_room ho hS fun h1 o1 hs1 hg1 hS1 => ?_)
    refine wpAny_bind ?_
    rw [Std.Legacy.Range.forIn_eq_forIn_range']
    simp only [Std.Legacy.Range.size, Nat.sub_zero, Nat.add_sub_cancel, Nat.div_one]
    refine wpAny_forIn_list _
      (fun rest _ s' => ∃ h' i o', s' = { s with heap := h' } ∧ rest = List.range' i (4 - i) ∧ i ≤ 4 ∧ h'.get? a = some o' ∧ SetS prog w o' (k :: (kvs.take i).map (·.1)) ∧ Heap.SameBut a s.heap h')
      _ ?_ ?_ _ _ ⟨h1, 0, o1, rfl, by simp, Nat.zero_le _, hg1, hS1, hs1⟩
    · intro x rest b s' hz1_; (refine e3a6 hz1_ fun h' i o' y3_ hr hi hg' hS' hs' => ?_; clear hz1_; obtain rfl := y3_)
      have hlt : i < 4 := by
        rcases Nat.lt_or_ge i 4 with h | h
        · exact h
        · rw [Nat.sub_eq_zero_of_le h] at hr; simp at hr
      obtain ⟨rfl, hrest⟩ : x = i ∧ rest = List.range' (i + 1) (4 - (i + 1)) := by
        have e : 4 - i = (4 - (i + 1)) + 1 := by k_room
        rw [e, List.range'_succ] at hr
        injection hr with h1 h2
        exact ⟨h1, h2⟩
      have hod' : h'.get? d = some od := hs'.extBut d od hne hod
      refine wpAny_bind (wpAny_dictEntries hod' hdat ?_)
      have hlt' : x < es.size := by k_room
      rw [Array.getElem?_eq_getElem hlt']
      obtain ⟨kv, hkv⟩ : ∃ kv, kvs[x]? = some kv := ⟨kvs[x]'(by k_room), List.getElem?_eq_getElem _⟩
      (refine an2 (hp.get? (e := es[x]) (by simp [hlt']) hkv) fun hkey hval => ?_)
      (refine e1a2 (hk es[x] (Array.getElem_mem hlt')) fun k' hkey' hhash => ?_)
      obtain rfl : k' = kv.1 := (PySem.strKind prog w).inj _ _ _ hkey' hkey
      (refine ex1 (Value.isStrOf_shape hkey) fun t ht => ?_)
      have htk : (kvs.take (x + 1)).map (·.1) = (kvs.take x).map (·.1) ++ [kv.1] := by
        rw [List.take_add_one, hkv, List.map_append]; rfl
      have hnew : kv.1 ∉ k :: (kvs.take x).map (·.1) := by
        have e : kvs = kvs.take x ++ kvs.drop x := (List.take_append_drop x kvs).symm
        have hm : kv ∈ kvs.drop x := by
          refine List.mem_of_getElem? (i := 0) ?_
          rw [List.getElem?_drop, Nat.add_zero]; exact hkv
        intro hk
        rw [e, List.map_append, ← List.cons_append, List.nodup_append] at hnd
        exact hnd.2.2 _ hk kv.1 (List.mem_map.mpr ⟨_, hm, rfl⟩) rfl
      show wpAny _ _ (holding [es[x].key] (setAddHashed a es[x].key es[x].hash >>= fun _ => pure ()) >>= _) _ _ _
      rw [hhash, ht]
      refine wpAny_bind (wpAny_holding (wpAny_bind (setS_addHashed (s := { s with heap := h' }) hg' hS' hnew (by simp; k_room) fun h2 o2 hs2 hg2 hS2 => ?_)))
      refine wpAny_pure ?_
      refine wpAny_bind (wpAny_dictEpoch (hs2.extBut d od hne hod') hdat ?_)
      refine ifn (by rw [bne_self_eq_false]; exact Bool.false_ne_true) ?_
      refine wpAny_pure ⟨h2, x + 1, o2, rfl, hrest, hlt, hg2, ?_, hs'.trans hs2⟩
      rw [htk]; exact hS2
    · intro b s' hz1_; (refine e3a6 hz1_ fun h' i o' y3_ hr hi hg' hS' hs' => ?_; clear hz1_; obtain rfl := y3_)
      have hi4 : i = 4 := by
        rcases Nat.lt_or_ge i 4 with h | h
        · have e : 4 - i = (4 - (i + 1)) + 1 := by k_room
          rw [e, List.range'_succ] at hr; cases hr
        · k_room
      subst hi4
      rw [show kvs.take 4 = kvs by rw [← h4]; exact List.take_length] at hS'
      exact wpAny_pure (h h' s.toks o' (fun b x hb e => hs'.extBut b x hb e) hg' hS')
  · have hb' : (model prog w).w.params.followText "set-display-star-reads-storage" = true := hb
    rw [if_pos hb']
    have hat : s.heap.DictAt (PySem.strKind prog w) d kvs ep := ⟨od, es, hod, hx, hdat, hk, hp, hn⟩
    refine wpAny_bind (wpAny_pyIter_dict lo hat ?_)
    have hdl : d < s.heap.objs.size := Heap.lt_size hod
    have hal : a < s.heap.objs.size := Heap.lt_size ho
    refine wpAny_bind (wpAny_runValue ?_)
    refine setS_update_loop (ks := [k]) (Walks.dictKeys (A := A.in1) hh s.heap.objs.size d (Nat.ne_of_lt hdl) kvs ep).toS a (by simp [Nat.ne_of_lt hal]; exact fun e => hne e.symm) hnd (by simp; k_room) kvs.length 0 _ rfl (Nat.zero_le _)
      ⟨⟨_, Heap.get?_push_size _ rfl, rfl, rfl⟩, hat.at' fun o e => Heap.get?_push_of_some _ e⟩ ⟨o, Heap.get?_push_of_some _ ho, hS⟩ fun s' o' hm hg hS' => ?_
    show wpAny _ A (pure ()) _ _ _
    have e : s' = { s with heap := s'.heap, toks := s'.toks } := by
      obtain ⟨a1, a2, a3, a4, a5⟩ := s'
      have h1 := hm.gens; have h2 := hm.drawn; have h3 := hm.os
      dsimp only at h1 h2 h3 ⊢
      rw [h1, h2, h3]
    rw [e]
    refine wpAny_pure (h s'.heap s'.toks o' (fun b x hb ex => hm.heap b x (fun hc => ?_) (Heap.get?_push_of_some _ ex)) hg hS')
    rcases List.mem_cons.mp hc with rfl | hc
    · exact hb rfl
    · rw [List.mem_singleton.mp hc] at ex; exact absurd (Heap.lt_size ex) (Nat.lt_irrefl _)
end
end
section
section
variable {prog : Program} {w : World} {A : Around} {E : Value → Shared → Prop} {s : Shared} {h₀ : Heap} {L : Addr} {m : Str → Option Value} {news : List (Addr × Obj)}
theorem set_core {t1 t2 : Sem Value} {b : Bool} {Q : Value → Shared → Prop} (F : Fr h₀ L s.heap m) (N : News h₀ L s.heap news)
    (h : ∀ D h' so, Fr h₀ L h' m → News h₀ L h' ((D, so) :: news) → (∀ p ∈ news, p.1 < D) → SetS prog w so [] →
      wpAny (model prog w) A t1 (fun v s1 => wpAny (model prog w) A (setAdd D v) (fun _ s2 => wpAny (model prog w) A t2 (fun d s3 => wpAny (model prog w) A (setDisplayStar D d) (fun _ s4 => Q (.ref D) s4) E s3) E s2) E s1) E { s with heap := h' }) :
    wpAny (model prog w) A (setDisplay .oneByOne b [(false, t1), (true, t2)]) Q E s := by
  have hn : (if [(false, t1), (true, t2)].length > 30 then 0 else ([(false, t1), (true, t2)].findIdx? (·.1)).getD [(false, t1), (true, t2)].length) = 1 := rfl
  unfold setDisplay
  refine ifn (by decide) ?_
  refine wpAny_bind (wpAny_newSet_of (knd := PySem.intKind prog w) fun led _ => ?_)
  dsimp only
  rw [hn]
  refine wpAny_bind (wpAny_holding ?_)
  have hh := h s.heap.objs.size _ { cls := .type "set", dict := none, data := .set #[] 0 (.fresh 0 0 led) } (F.push _) (News.push F N _ rfl) (fun p hp => Heap.lt_size (N p hp).1) (SetS.empty led)
  clear h hn
  show wpAny _ A (evalAll [t1] >>= _) _ _ _
  show wpAny _ A ((t1 >>= fun v => holding [v] (evalAll ([] : List (Sem Value))) >>= fun r => pure (v :: r)) >>= _) _ _ _
  refine wpAny_bind (wpAny_bind (wpAny_mono hh (fun v s1 h1 => ?_) fun _ _ e => e))
  refine wpAny_bind (wpAny_holding (wpAny_pure (wpAny_pure ?_)))
  refine wpAny_bind (wpAny_holding ?_)
  rw [List.forIn_cons]
  refine wpAny_bind (wpAny_bind (wpAny_bind (wpAny_mono h1 (fun _ s2 h2 => wpAny_pure ?_) fun _ _ e => e)))
  dsimp only
  rw [List.forIn_nil]
  refine wpAny_pure ?_
  refine ifn (by decide) ?_
  refine wpAny_pure ?_
  show wpAny _ A (forIn [(true, t2)] _ _ >>= _) _ _ _
  rw [List.forIn_cons]
  refine wpAny_bind (wpAny_bind (wpAny_bind (wpAny_mono h2 (fun d s3 h3 => ?_) fun _ _ e => e)))
  dsimp only
  first | refine ifp (by decide) ?_ | simp only [if_true]
  refine wpAny_bind (wpAny_holding (wpAny_mono h3 (fun _ s4 h4 => wpAny_pure ?_) fun _ _ e => e))
  dsimp only
  rw [List.forIn_nil]
  exact wpAny_pure (wpAny_pure (wpAny_pure h4))
theorem wp_st {t : Sem Value} {pos : Pos} {Q : Value → Shared → Prop} (h : wpAny (model prog w) A t Q E s) : wpAny (model prog w) A (do let v ← t; standAt pos; pure v) Q E s :=
  wpAny_bind (wpAny_mono h (fun _ _ h1 => wpAny_bind (wpAny_standAt (wpAny_pure h1))) fun _ _ e => e)
theorem set_eval {K : Frag} {e1 e2 : PySem.Expr} {pos p2 : Pos} {env : Env} {Q : Value → Shared → Prop} (F : Fr h₀ L s.heap m) (N : News h₀ L s.heap news) (X : K.In h₀) (hc : kdsCode K env.code = true) (hs : starEach [e1, .Starred e2 p2] env = [(false, eval e1 env), (true, eval e2 env)])
    (h : ∀ D h' so, Fr h₀ L h' m → News h₀ L h' ((D, so) :: news) → (∀ p ∈ news, p.1 < D) → SetS prog w so [] →
      wpAny (model prog w) A (eval e1 env) (fun v s1 => wpAny (model prog w) A (setAdd D v) (fun _ s2 => wpAny (model prog w) A (eval e2 env) (fun d s3 => wpAny (model prog w) A (setDisplayStar D d) (fun _ s4 => Q (.ref D) s4) E s3) E s2) E s1) E { s with heap := h' }) :
    wpAny (model prog w) A (eval (.Set [e1, .Starred e2 p2] 0 pos) env) Q E s := by
  rw [arm_eval_Set]
  refine wpAny_bind (wpAny_standAt ?_)
  refine wpAny_bind (kds_main (X.keeps F.keep) hc fun b => ?_)
  rw [hs, show displayRoad 0 [e1, PySem.Expr.Starred e2 p2] = .oneByOne from rfl]
  show wpAny _ A (setDisplay .oneByOne b [(false, do let v ← eval e1 env; standAt pos; pure v), (true, do let v ← eval e2 env; standAt pos; pure v)]) _ _ _
  exact set_core F N fun D h' so F' N' l hS => wp_st (wpAny_mono (h D h' so F' N' l hS) (fun _ _ h1 => wpAny_mono h1 (fun _ _ h2 => wp_st h2) fun _ _ e => e) fun _ _ e => e)
theorem setK_add {sa : Addr} {so : Obj} {g : Obj → List (Addr × Obj)} {ks : List Str} {k : Str} {t : Tok} {Q : Bool → Shared → Prop} (F : Fr h₀ L s.heap m) (N : News h₀ L s.heap news) (U : UpdF sa so news g) (hso : SetS prog w so ks) (hk : k ∉ ks) (hsz : ks.length < 50)
    (h : ∀ h' so', Fr h₀ L h' m → News h₀ L h' (g so') → SetS prog w so' (ks ++ [k]) → Q true { s with heap := h', toks := s.toks + 1 }) :
    wpAny (model prog w) A (setAdd sa (.str k t)) Q E s := by
  (refine e2a4 U.split fun pre post y3_ hg a b => ?_; obtain rfl := y3_)
  have hm := N (sa, so) (List.mem_append_right _ (.head _))
  unfold setAdd
  refine wpAny_holding (wpAny_bind ((PySem.strKind prog w).pyHash (strKind_is _ _ _ _) ?_))
  refine setS_addHashed (s := { s with toks := s.toks + 1 }) hm.1 hso hk hsz fun h' so' hsb ho' hS' => ?_
  exact h h' so' (F.change hsb hm.2.1 hm.2.2) (hg so' ▸ N.setIn a b hsb ho') hS'
theorem setK_star {sa d : Addr} {so od : Obj} {g : Obj → List (Addr × Obj)} {k : Str} {kvs : List (Str × Value)} {Q : Unit → Shared → Prop} (hh : A.handled = none) (F : Fr h₀ L s.heap m) (N : News h₀ L s.heap news) (U : UpdF sa so news g) (hso : SetS prog w so [k])
    (hm : (d, od) ∈ news) (hd : od.IsDictOf (PySem.strKind prog w) kvs) (lo : (d == sysModules) = false) (hne : @Ne Nat d sa) (h4 : kvs.length = 4) (hnd : (k :: kvs.map (·.1)).Nodup)
    (h : ∀ h' so' tk, Fr h₀ L h' m → News h₀ L h' (g so') → SetS prog w so' (k :: kvs.map (·.1)) → Q () { s with heap := h', toks := tk }) :
    wpAny (model prog w) A (setDisplayStar sa (.ref d)) Q E s := by
  (refine e2a4 U.split fun pre post y3_ hg a b => ?_; obtain rfl := y3_)
  have hsm := N (sa, so) (List.mem_append_right _ (.head _))
  refine setS_star hh hsm.1 hso (N _ hm).1 hd lo hne h4 hnd fun h' tk o' keep ho' hS' => ?_
  refine h h' o' tk ⟨F.ns.at' fun o e => keep L o (Ne.symm hsm.2.1) e, fun b x e => keep b x (fun q => by rw [q, hsm.2.2] at e; cases e) (F.keep b x e), F.above⟩ (fun p hp => ?_) hS'
  rw [hg] at hp
  rcases List.mem_append.mp hp with hp | hp
  · exact ⟨keep _ _ (a p hp) (N p (List.mem_append_left _ hp)).1, (N p (List.mem_append_left _ hp)).2⟩
  · rcases List.mem_cons.mp hp with rfl | hp
    · exact ⟨ho', hsm.2⟩
    · exact ⟨keep _ _ (b p hp) (N p (List.mem_append_right _ (.tail _ hp))).1, (N p (List.mem_append_right _ (.tail _ hp))).2⟩
end
end
section
theorem eraseIdx_perm {α : Type} {l : List α} : ∀ {i : Nat} {x : α}, l[i]? = some x → (x :: l.eraseIdx i).Perm l := by
  induction l with
  | nil => exact fun h => nomatch h
  | cons a l ih =>
    intro i x h
    cases i with
    | zero => cases h; exact .rfl
    | succ i => exact (List.Perm.swap a x _).trans (List.Perm.cons a (ih h))
theorem pick_go_perm {α : Type} {next : Nat → Nat} (fuel : Nat) : ∀ (k : Nat) (left : List α) (out : Array α), left.length = fuel → (pickOrder.go next fuel k left out).toList.Perm (out.toList ++ left) := by
  induction fuel with
  | zero =>
    intro k left out h
    rw [List.eq_nil_of_length_eq_zero h, List.append_nil]; exact .rfl
  | succ f ih =>
    intro k left out h
    have hlt : next k % left.length < left.length := Nat.mod_lt _ (h ▸ Nat.succ_pos f)
    have e := List.getElem?_eq_getElem hlt
    conv in pickOrder.go _ _ _ _ _ => whnf
    rw [e]
    refine (ih (k + 1) (left.eraseIdx (next k % left.length)) (out.push left[next k % left.length]) (by rw [List.length_eraseIdx_of_lt hlt, h]; rfl)).trans ?_
    rw [Array.toList_push, List.append_assoc]
    exact List.Perm.append_left _ (eraseIdx_perm e)
theorem pick_perm {α : Type} (next : Nat → Nat) (xs : Array α) : (pickOrder next xs).toList.Perm xs.toList :=
  pick_go_perm (next := next) xs.size 0 xs.toList #[] rfl
section
variable {prog : Program} {w : World} {A : Around} {E : Value → Shared → Prop} {s : Shared}
theorem wpAny_choose {M : Model} {n : Nat} {src : Source} {Q : Nat → Shared → Prop} (hn : n ≠ 0) (h : ∀ i dr, i < n → Q i { s with drawn := dr }) : wpAny M A (choose src n) Q E s :=
  fun _ _ _ => ⟨hn, h _ _ (Nat.mod_lt _ (Nat.pos_of_ne_zero hn))⟩
theorem drawOrder_any {M : Model} {α : Type} (n : Nat) : ∀ (xs : List α) (s : Shared) (Q : List α → Shared → Prop), xs.length = n → (∀ ys dr, ys.Perm xs → Q ys { s with drawn := dr }) → wpAny M A (drawOrder n xs) Q E s := by
  induction n with
  | zero =>
    intro xs s Q hn h
    cases List.eq_nil_of_length_eq_zero hn
    exact wpAny_pure (h [] s.drawn .nil)
  | succ n ih =>
    intro xs s Q hn h
    cases xs with
    | nil => exact nomatch hn
    | cons x xs =>
      refine wpAny_bind (m := choose .order (x :: xs).length) (wpAny_choose (Nat.succ_ne_zero _) fun i dr hi => ?_)
      rw [List.getElem?_eq_getElem hi]
      refine wpAny_bind (m := drawOrder n ((x :: xs).eraseIdx i)) (ih _ _ _ (by rw [List.length_eraseIdx_of_lt hi, hn]; rfl) fun ys dr' hp => wpAny_pure ?_)
      exact h _ dr' ((List.Perm.cons _ hp).trans (eraseIdx_perm (List.getElem?_eq_getElem hi)))
theorem slot_si_next : Slot "set_iterator" "__next__" "set_iterator.__next__" :=
  .of (owner := "set_iterator") (n := "__next__") (by rw [typeLookup_type, builtinLookup_eq_fast]; kernel_rfl) (by decide +kernel) (by decide +kernel) (by decide +kernel)
    (by first | exact .inl (by decide +kernel) | exact .inr (by decide +kernel)) (by rw [isSubtype_type]; kernel_rfl)
theorem entry_si_next : entryFor table "set_iterator.__next__" = some Builtin.«set_iterator.__next__» := entryFor_of_tree (by kernel_rfl)
theorem args_si_next (a : Value) : argsOk "set_iterator.__next__" ⟨[a], []⟩ := by unfold argsOk; kernel_rfl
theorem slot_si_iter : Slot "set_iterator" "__iter__" "set_iterator.__iter__" :=
  .of (owner := "set_iterator") (n := "__iter__") (by rw [typeLookup_type, builtinLookup_eq_fast]; kernel_rfl) (by decide +kernel) (by decide +kernel) (by decide +kernel)
    (by first | exact .inl (by decide +kernel) | exact .inr (by decide +kernel)) (by rw [isSubtype_type]; kernel_rfl)
theorem entry_si_iter : entryFor table "set_iterator.__iter__" = some Builtin.«dict_keyiterator.__iter__» :=
  entryFor_alias (id' := "dict_keyiterator.__iter__") (by kernel_rfl) rfl (by decide +kernel) (by kernel_rfl)
theorem args_si_iter (a : Value) : argsOk "set_iterator.__iter__" ⟨[a], []⟩ := by unfold argsOk; kernel_rfl
theorem entry_set_iter : entryFor table "set.__iter__" = some Builtin.«frozenset.__iter__» :=
  entryFor_alias (id' := "frozenset.__iter__") (by kernel_rfl) rfl (by decide +kernel) (by kernel_rfl)
end
end
section
section
variable {prog : Program} {w : World} {A : Around} {E : Value → Shared → Prop} {s : Shared}
noncomputable def IsSetIter (h : Heap) (it a : Addr) (first : Value) (i n ep : Nat) : Prop := ∃ o, h.get? it = some o ∧ o.cls = .type "set_iterator" ∧ o.data = .fields #[first, .int i 0, .ref a, .int n 0, .int ep 0]
theorem IsSetIter.typeIs {it a : Addr} {first : Value} {i n ep : Nat} (x : IsSetIter s.heap it a first i n ep) : s.TypeIs (.ref it) "set_iterator" := let ⟨o, ho, hc, _⟩ := x; ⟨o, ho, hc⟩
theorem IsSetIter.at' {h h' : Heap} {it a : Addr} {first : Value} {i n ep : Nat} (x : IsSetIter h it a first i n ep) (e : ∀ o, h.get? it = some o → h'.get? it = some o) : IsSetIter h' it a first i n ep := let ⟨o, ho, r⟩ := x; ⟨o, e _ ho, r⟩
theorem si_self {it a : Addr} {first : Value} {i n ep : Nat} {Q : Value → Shared → Prop} (x : IsSetIter s.heap it a first i n ep) (h : Q (.ref it) s) : wpAny (model prog w) A (pyIter (.ref it)) Q E s := by
  refine wpAny_pyIter_slot x.typeIs slot_si_iter (wpAny_call_entry slot_si_iter x.typeIs entry_si_iter ?_ (args_si_iter _))
  show wpAny _ _ (ret (.ref it)) _ _ s
  exact wpAny_pure ⟨_, rfl, "set_iterator", _, x.typeIs, slot_si_next.lookup, h⟩
/-- the way that the world walks a set of texts -/
structure SetWay (w : World) (a : Addr) (es : Array (Int × Value)) (ep : Nat) (first : Value) (h : Heap) (vs : List Value) : Prop where
  txt : w.params.followText "set-order" = true → first = .int 0 0 ∧ vs = (pickOrder (w.params.setOrder a ep) es).toList.map (·.2)
  drw : w.params.followText "set-order" = false → ∃ P pl n, first = .ref P ∧ h.get? P = some (seqObj "tuple" ((pl : List Nat).map fun (i : Nat) => rawInt i).toArray n) ∧ vs.map some = pl.map fun i => (es[i]?).map (·.2)
theorem SetWay.at' {a : Addr} {es : Array (Int × Value)} {ep : Nat} {first : Value} {h h' : Heap} {vs : List Value} (x : SetWay w a es ep first h vs) (k : ∀ P, first = .ref P → ∀ o, h.get? P = some o → h'.get? P = some o) : SetWay w a es ep first h' vs :=
  ⟨x.txt, fun hb => let ⟨P, pl, n, e, g, r⟩ := x.drw hb; ⟨P, pl, n, e, k P e _ g, r⟩⟩
theorem nxt_txt {a : Addr} {o : Obj} {es : Array (Int × Value)} {ep i : Nat} {t : SetTable} {Q : Option (Value × Nat) → Shared → Prop} (ho : s.heap.get? a = some o) (hd : o.data = .set es ep t) (hf : t.fits es.size = true) (hb : (model prog w).w.params.followText "set-order" = true)
    (h : Q (((pickOrder ((model prog w).w.params.setOrder a ep) es)[i]?).map fun e => (e.2, 0)) s) : wpAny (model prog w) A (setNext a (Int.toNat 0) ((i : Nat) : Int).toNat ((ep : Nat) : Int).toNat) Q E s := by
  unfold setNext setWalk setsByText
  refine wpAny_bind (wpAny_setState_of ho hd hf ?_)
  refine wpAny_bind (wpAny_bind (wpAny_askSetting (wpAny_pure ?_)))
  refine ifp hb ?_
  refine ifn (by rw [Int.toNat_natCast, bne_self_eq_false]; exact Bool.false_ne_true) ?_
  refine wpAny_bind (wpAny_bind (wpAny_setState_of ho hd hf ?_))
  refine wpAny_bind (wpAny_bind (wpAny_askSetting (wpAny_pure ?_)))
  refine ifp hb ?_
  exact wpAny_bind (wpAny_askSetting (wpAny_pure (wpAny_pure h)))
theorem nxt_drawn {a : Addr} {o : Obj} {es : Array (Int × Value)} {ep i : Nat} {t : SetTable} {x : Int × Value} {Q : Value → Shared → Prop} (ho : s.heap.get? a = some o) (hd : o.data = .set es ep t) (hf : t.fits es.size = true) (he : es[i]? = some x) (h : Q x.2 s) : wpAny (model prog w) A (setNextDrawn a ((i : Nat) : Int).toNat ((ep : Nat) : Int).toNat) Q E s := by
  unfold setNextDrawn
  refine wpAny_bind (wpAny_setState_of ho hd hf ?_)
  refine ifn (by rw [Int.toNat_natCast, bne_self_eq_false]; exact Bool.false_ne_true) ?_
  rw [Int.toNat_natCast, he]
  exact wpAny_pure h
theorem nx_item {it a : Addr} {first : Value} {i ep : Nat} {o : Obj} {es : Array (Int × Value)} {t : SetTable} {vs : List Value} {v : Value} {Q : PySem.Fin → Shared → Prop} (x : IsSetIter s.heap it a first i vs.length ep) (ho : s.heap.get? a = some o) (hd : o.data = .set es ep t) (hf : t.fits es.size = true) (hz : es.size = vs.length)
    (y : SetWay w a es ep first s.heap vs) (hx : vs[i]? = some v)
    (hQ : ∀ h', IsSetIter h' it a first (i + 1) vs.length ep → Heap.SameBut it s.heap h' → Q (.done (.ret v)) { s with heap := h' }) : wpAny (model prog w) A (Builtin.«set_iterator.__next__» ⟨[.ref it], []⟩) Q E s := by
  (refine e1a3 (id x) fun oi hoi hci hdi => ?_)
  unfold Builtin.«set_iterator.__next__»
  refine wpAny_bind (m := slotArgs "__next__" 0 ⟨[.ref it], []⟩) (wpAny_pure ?_)
  refine wpAny_bind (wpAny_fieldsOf hoi hdi ?_)
  dsimp only
  refine wpAny_bind (wpAny_setEntries_of ho hd hf ?_)
  rw [hz]
  refine ifn (by rw [bne_self_eq_false]; exact Bool.false_ne_true) ?_
  have ext : ∀ {f : Obj → Obj} {h : Heap}, Heap.SameBut it s.heap (s.heap.update it f) := fun {f h} => Heap.SameBut.update ..
  cases hb : w.params.followText "set-order"
  · (refine e3a3 (y.drw hb) fun P pl n y3_ hP hv => ?_; obtain rfl := y3_)
    dsimp only
    refine wpAny_bind (wpAny_seqItems hP rfl ?_)
    have hpl : pl.length = vs.length := by have := congrArg List.length hv; simpa using this.symm
    have hi : i < vs.length := by
      rcases Nat.lt_or_ge i vs.length with q | q
      · exact q
      · rw [List.getElem?_eq_none q] at hx; cases hx
    have hpi : pl[i]? = some pl[i] := List.getElem?_eq_getElem (by omega)
    have hvi : es[pl[i]]?.map (·.2) = some v := by
      have := congrArg (·[i]?) hv
      simp only [List.getElem?_map, hx, hpi, Option.map_some, Option.some.injEq] at this
      exact this.symm
    have hit : ((pl.map fun (i : Nat) => rawInt i).toArray)[((i : Nat) : Int).toNat]? = some (rawInt pl[i]) := by
      simp [hpi]
    dsimp only
    rw [hit]
    dsimp only [rawInt]
    obtain ⟨e, he, rfl⟩ : ∃ e, es[pl[i]]? = some e ∧ e.2 = v := by
      cases q : es[pl[i]]? with
      | none => rw [q] at hvi; cases hvi
      | some e => rw [q] at hvi; exact ⟨e, rfl, by simpa using hvi⟩
    refine wpAny_bind (m := setNextDrawn a _ _) (nxt_drawn ho hd hf he ?_)
    refine wpAny_bind (wpAny_setField hoi hdi (by simp) ?_)
    refine wpAny_pure (hQ _ ?_ (Heap.SameBut.update ..))
    exact ⟨_, anI3 (Heap.get?_update_self _ hoi (Obj.isFreed_of_fields (Obj.data_mapFields hdi _))) ((Obj.cls_mapFields ..).trans hci) (by rw [Obj.data_mapFields hdi]; simp [rawInt])⟩
  · (refine an2 (y.txt hb) fun y1_ hv => ?_; obtain rfl := y1_)
    have hb' : (model prog w).w.params.followText "set-order" = true := hb
    dsimp only
    rw [hv, List.getElem?_map, Array.getElem?_toList] at hx
    obtain ⟨e, he, rfl⟩ : ∃ e, (pickOrder ((model prog w).w.params.setOrder a ep) es)[i]? = some e ∧ e.2 = v := by
      cases q : (pickOrder (w.params.setOrder a ep) es)[i]? with
      | none => rw [q] at hx; cases hx
      | some e => rw [q] at hx; exact ⟨e, q, by simpa using hx⟩
    refine wpAny_bind (m := setNext a _ _ _) (nxt_txt ho hd hf hb' ?_)
    rw [he]
    dsimp only [Option.map]
    refine wpAny_bind (wpAny_setField hoi hdi (by simp) ?_)
    have e2 : (s.heap.update it (Obj.mapFields (·.setIfInBounds 0 (rawInt ((Int.toNat 0 : Nat) : Int))))).get? it = some (Obj.mapFields (·.setIfInBounds 0 (rawInt ((Int.toNat 0 : Nat) : Int))) oi) := Heap.get?_update_self _ hoi (Obj.isFreed_of_fields (Obj.data_mapFields hdi _))
    refine wpAny_bind (wpAny_setField e2 (Obj.data_mapFields hdi _) (by simp) ?_)
    refine wpAny_pure (hQ _ ?_ ((Heap.SameBut.update ..).trans (Heap.SameBut.update ..)))
    exact ⟨_, anI3 (Heap.get?_update_self _ e2 (Obj.isFreed_of_fields (Obj.data_mapFields (Obj.data_mapFields hdi _) _))) ((Obj.cls_mapFields ..).trans ((Obj.cls_mapFields ..).trans hci)) (by rw [Obj.data_mapFields (Obj.data_mapFields hdi _)]; simp [rawInt])⟩
theorem si_item {it a : Addr} {first : Value} {i ep : Nat} {o : Obj} {es : Array (Int × Value)} {t : SetTable} {vs : List Value} {v : Value} {Q : Option Value → Shared → Prop} (x : IsSetIter s.heap it a first i vs.length ep) (ho : s.heap.get? a = some o) (hd : o.data = .set es ep t) (hf : t.fits es.size = true) (hz : es.size = vs.length)
    (y : SetWay w a es ep first s.heap vs) (hx : vs[i]? = some v)
    (hQ : ∀ h', IsSetIter h' it a first (i + 1) vs.length ep → Heap.SameBut it s.heap h' → Q (some v) { s with heap := h' }) : wpAny (model prog w) A (pyNext (.ref it)) Q E s := by
  unfold pyNext
  refine wpAny_bind (wpAny_attempt (wpAny_callSpecial?_slot (name := Str.ofString "__next__") x.typeIs slot_si_next
    (wpAny_call_entry slot_si_next x.typeIs entry_si_next ?_ (args_si_next _))))
  exact nx_item x ho hd hf hz y hx fun h' a b => ⟨_, rfl, wpAny_pure (hQ h' a b)⟩
theorem nx_done {it a : Addr} {first : Value} {ep : Nat} {o : Obj} {es : Array (Int × Value)} {t : SetTable} {vs : List Value} {Q : PySem.Fin → Shared → Prop} (hh : A.handled = none) (x : IsSetIter s.heap it a first vs.length vs.length ep) (ho : s.heap.get? a = some o) (hd : o.data = .set es ep t) (hf : t.fits es.size = true) (hz : es.size = vs.length)
    (y : SetWay w a es ep first s.heap vs)
    (hQ : ∀ e h', ({ s with heap := h' } : Shared).TypeIs e "StopIteration" → (∀ b o, b ≠ it → s.heap.get? b = some o → h'.get? b = some o) → E e { s with heap := h' }) : wpAny (model prog w) A (Builtin.«set_iterator.__next__» ⟨[.ref it], []⟩) Q E s := by
  (refine e1a3 (id x) fun oi hoi hci hdi => ?_)
  unfold Builtin.«set_iterator.__next__»
  refine wpAny_bind (m := slotArgs "__next__" 0 ⟨[.ref it], []⟩) (wpAny_pure ?_)
  refine wpAny_bind (wpAny_fieldsOf hoi hdi ?_)
  dsimp only
  refine wpAny_bind (wpAny_setEntries_of ho hd hf ?_)
  rw [hz]
  refine ifn (by rw [bne_self_eq_false]; exact Bool.false_ne_true) ?_
  have stop : ∀ (h1 : Heap), (∀ b o, b ≠ it → s.heap.get? b = some o → h1.get? b = some o) → wpAny (model prog w) A (do raiseNew (← newExc (.type "StopIteration") [])) Q E { s with heap := h1 } := by
    intro h1 k1
    refine wpAny_bind ?_
    simp only [newExc, newTuple]
    refine wpAny_bind (wpAny_newObj_type ?_ (by size_fits))
    refine wpAny_bind (m := firstArgMember _ _) (wpAny_of_eq (a := Value.none) (by first | rfl | (simp only [firstArgMember]; rfl)) ?_)
    refine wpAny_newObj_type ?_ (by size_fits)
    simp only [raiseNew]
    refine wpAny_bind (wpAny_handled ?_)
    rw [hh]
    exact wpAny_bind (wpAny_pure (wpAny_throw (hQ (.ref _) _ ⟨_, Heap.get?_push_size _ rfl, rfl⟩ fun b o hb e => Heap.get?_push_of_some _ (Heap.get?_push_of_some _ (k1 b o hb e)))))
  have upd : ∀ (f : Obj → Obj) b o, b ≠ it → s.heap.get? b = some o → (s.heap.update it f).get? b = some o := fun f b o hb e => (Heap.SameBut.update s.heap it f).extBut b o hb e
  cases hb : w.params.followText "set-order"
  · (refine e3a3 (y.drw hb) fun P pl n y3_ hP hv => ?_; obtain rfl := y3_)
    dsimp only
    refine wpAny_bind (wpAny_seqItems hP rfl ?_)
    have hpl : pl.length = vs.length := by have := congrArg List.length hv; simpa using this.symm
    have hit : ((pl.map fun (i : Nat) => rawInt i).toArray)[((vs.length : Nat) : Int).toNat]? = none := by
      simp [hpl]
    dsimp only
    rw [hit]
    dsimp only
    refine wpAny_bind (wpAny_setField hoi hdi (by simp) ?_)
    have e2 : (s.heap.update it (Obj.mapFields (·.setIfInBounds 0 (rawInt 0)))).get? it = some (Obj.mapFields (·.setIfInBounds 0 (rawInt 0)) oi) := Heap.get?_update_self _ hoi (Obj.isFreed_of_fields (Obj.data_mapFields hdi _))
    refine wpAny_bind (wpAny_setField e2 (Obj.data_mapFields hdi _) (by simp) ?_)
    exact stop _ fun b o hb e => (Heap.SameBut.update _ it _).extBut b o hb (upd _ b o hb e)
  · (refine an2 (y.txt hb) fun y1_ hv => ?_; obtain rfl := y1_)
    have hb' : (model prog w).w.params.followText "set-order" = true := hb
    dsimp only
    have hlen : (pickOrder ((model prog w).w.params.setOrder a ep) es)[vs.length]? = none := by
      have := congrArg List.length hv
      rw [List.length_map, Array.length_toList] at this
      exact Array.getElem?_eq_none (Nat.le_of_eq this.symm)
    refine wpAny_bind (m := setNext a _ _ _) (nxt_txt ho hd hf hb' ?_)
    rw [hlen]
    dsimp only [Option.map]
    refine wpAny_bind (wpAny_setField hoi hdi (by simp) ?_)
    exact stop _ fun b o hb e => upd _ b o hb e
theorem si_done {it a : Addr} {first : Value} {ep : Nat} {o : Obj} {es : Array (Int × Value)} {t : SetTable} {vs : List Value} {Q : Option Value → Shared → Prop} (hh : A.handled = none) (x : IsSetIter s.heap it a first vs.length vs.length ep) (ho : s.heap.get? a = some o) (hd : o.data = .set es ep t) (hf : t.fits es.size = true) (hz : es.size = vs.length)
    (y : SetWay w a es ep first s.heap vs)
    (hQ : ∀ h', (∀ b o, b ≠ it → s.heap.get? b = some o → h'.get? b = some o) → Q none { s with heap := h' }) : wpAny (model prog w) A (pyNext (.ref it)) Q E s := by
  unfold pyNext
  refine wpAny_bind (wpAny_attempt (wpAny_callSpecial?_slot (name := Str.ofString "__next__") x.typeIs slot_si_next
    (wpAny_call_entry slot_si_next x.typeIs entry_si_next ?_ (args_si_next _))))
  exact nx_done (A := A.in1) hh x ho hd hf hz y fun e h' ht k => wpAny_bind (wpAny_isInstance (T := "StopIteration") (b := true) ht isSubtype_stop (wpAny_pure (hQ h' k)))
theorem Walks.setS (hh : A.handled = none) (it a : Addr) (hne : a ≠ it) {first : Value} (hfi : first ≠ .ref it) {ep : Nat} {o : Obj} {es : Array (Int × Value)} {t : SetTable} {vs : List Value} (hd : o.data = .set es ep t) (hf : t.fits es.size = true) (hz : es.size = vs.length) (fp : List Addr) (hfp : it ∈ fp ∧ a ∈ fp ∧ ∀ P, first = .ref P → P ∈ fp) :
    Walks prog w A it fp [it] vs.length (fun i v => vs[i]? = some v) (fun i h => IsSetIter h it a first i vs.length ep ∧ h.get? a = some o ∧ SetWay w a es ep first h vs) where
  sub := fun b hb => by rw [List.mem_singleton.mp hb]; exact hfp.1
  frame := fun i h h' st hk => ⟨st.1.at' fun o e => hk _ hfp.1 o e, hk _ hfp.2.1 _ st.2.1, st.2.2.at' fun P e o g => hk _ (hfp.2.2 P e) o g⟩
  item := fun i s Q E hi st hQ => by
    refine si_item st.1 st.2.1 hd hf hz st.2.2 (List.getElem?_eq_getElem hi) fun h' x hs => ?_
    exact hQ _ h' s.toks (List.getElem?_eq_getElem hi) ⟨x, hs.extBut _ _ hne st.2.1, st.2.2.at' fun P e o g => hs.extBut P o (fun q => hfi (by rw [e, q])) g⟩ fun b o hb e => hs.extBut b o (fun q => hb (by simp [q])) e
  done := fun s Q E st hQ => si_done hh st.1 st.2.1 hd hf hz st.2.2 fun h' k => hQ h' s.toks fun b o hb e => k b o (fun q => hb (by simp [q])) e
  self := fun i s Q E st hQ => si_self st.1 hQ
end
end
section
noncomputable def refOf : Value → List Addr
  | .ref P => [P]
  | _ => []
section
variable {prog : Program} {w : World} {A : Around} {E : Value → Shared → Prop} {s : Shared}
theorem setS_pyIter {a : Addr} {o : Obj} {ks : List Str} {Q : Value → Shared → Prop} (ho : s.heap.get? a = some o) (hS : SetS prog w o ks) (h2 : 2 ≤ ks.length)
    (hQ : ∀ es ep t first vs (kt : List (Str × Tok)) I h' dr, o.data = .set es ep t → t.fits es.size = true → es.size = vs.length → vs = kt.map (fun q => Value.str q.1 q.2) → (kt.map (·.1)).Perm ks → SetWay w a es ep first h' vs → IsSetIter h' I a first 0 vs.length ep →
      s.heap.objs.size ≤ I → I < h'.objs.size → (∀ b o, s.heap.get? b = some o → h'.get? b = some o) → (∀ P, first = .ref P → s.heap.objs.size ≤ P ∧ P < I) → Q (.ref I) { s with heap := h', drawn := dr }) :
    wpAny (model prog w) A (pyIter (.ref a)) Q E s := by
  have hS0 := hS
  obtain ⟨hex, ⟨es, ep, t, hd, hel, hkt, hf, hpl⟩, hsm⟩ := hS
  have hn := setS_len hkt
  have hT : s.TypeIs (.ref a) "set" := ⟨o, ho, hex.1⟩
  have hplain : t.plain = false := hpl (fun e => by rw [e] at h2; simp at h2)
  refine wpAny_pyIter_slot hT F.slot_set_iter (wpAny_call_entry F.slot_set_iter hT entry_set_iter ?_ (F.args_set_iter_1 _))
  unfold Builtin.«frozenset.__iter__»
  refine wpAny_bind (m := Builtin.Frozenset.slot0 "__iter__" ⟨[.ref a], []⟩) (wpAny_bind (m := slotArgs "__iter__" 0 ⟨[.ref a], []⟩) (wpAny_pure (wpAny_pure ?_)))
  refine wpAny_bind (m := Builtin.Frozenset.sizeOf a) (wpAny_bind (wpAny_setEntries_of ho hd hf (wpAny_pure ?_)))
  refine wpAny_bind ?_
  unfold setDrawn setsByText
  refine wpAny_bind (wpAny_setState_of ho hd hf ?_)
  refine wpAny_bind (wpAny_bind (wpAny_askSetting (wpAny_pure ?_)))
  refine wpAny_pure ?_
  have hdr : ∀ b : Bool, (!b && (!t.plain && decide (es.size > 1))) = !b := fun b => by
    rw [hplain, decide_eq_true (by k_room : es.size > 1)]; simp
  show wpAny _ _ (if (!w.params.followText "set-order" && (!t.plain && decide (es.size > 1))) = true then _ else _) _ _ _
  rw [hdr]
  cases hb : w.params.followText "set-order"
  · first | refine ifp (by decide) ?_ | simp only [Bool.not_false, if_true]
    refine wpAny_bind (drawOrder_any es.size (List.range es.size) _ _ (by simp) fun pl dr hp => ?_)
    have hpl' : pl.length = es.size := by rw [hp.length_eq, List.length_range]
    refine wpAny_bind (wpAny_newTuple ?_ (by rw [List.length_map, hpl', sizeLine_eq]; k_room))
    have hkt2 := kt_perm ((hp.filterMap fun i => es[i]?).trans (by rw [filterMap_getElem?_range])) hkt
    (refine e1a2 hkt2 fun kt e1 e2 => ?_; try clear hkt2)
    have hall : ∀ l : List Nat, (∀ i ∈ l, i < es.size) → ((l.filterMap fun i => es[i]?).map (·.2)).map some = l.map fun i => (es[i]?).map (·.2) := by
      intro l
      induction l with
      | nil => intro _; rfl
      | cons i l ih =>
        intro hl
        have hi := hl i (.head _)
        rw [List.filterMap_cons_some (Array.getElem?_eq_getElem hi), List.map_cons, List.map_cons, List.map_cons, ih fun j hj => hl j (.tail _ hj), Array.getElem?_eq_getElem hi]; rfl
    have hv := hall pl fun i hi => List.mem_range.mp (hp.mem_iff.mp hi)
    rw [e1] at hv
    have hlen : es.size = (kt.map fun q => Value.str q.1 q.2).length := by
      have := congrArg List.length hv; simp only [List.length_map] at this ⊢; k_room
    have ho1 : (s.heap.push (seqObj "tuple" (pl.map fun (i : Nat) => rawInt i).toArray 0)).get? a = some o := Heap.get?_push_of_some _ ho
    refine wpAny_bind (m := setEpoch a) (wpAny_setEpoch_of ho1 hd hf ?_)
    refine wpAny_bind (wpAny_newObj_type (wpAny_pure ⟨_, rfl, "set_iterator", _, ⟨_, Heap.get?_push_size _ rfl, rfl⟩, slot_si_next.lookup, ?_⟩))
    refine hQ es ep t (.ref s.heap.objs.size) _ kt _ _ dr hd hf hlen rfl e2 ⟨fun q => (by rw [hb] at q; cases q), fun _ => ⟨_, pl, 0, rfl, Heap.get?_push_of_some _ (Heap.get?_push_size _ rfl), hv⟩⟩ ⟨_, Heap.get?_push_size _ rfl, rfl, ?_⟩ ?_ ?_ (fun b x e => Heap.get?_push_of_some _ (Heap.get?_push_of_some _ e)) fun P e => ?_
    · rw [← hlen]; rfl
    · show _ ≤ (s.heap.push _).objs.size
      rw [Heap.size_push]; exact Nat.le_succ _
    · refine Nat.lt_of_lt_of_eq (Nat.lt_succ_self _) (Heap.size_push ..).symm
    · injection e with e
      subst e
      refine ⟨Nat.le_refl _, ?_⟩
      show _ < (s.heap.push _).objs.size
      rw [Heap.size_push]; exact Nat.lt_succ_self _
  · first | refine ifn (by decide) ?_ | simp only [Bool.not_true, Bool.false_eq_true, if_false]
    refine wpAny_bind (wpAny_pure ?_)
    have hkt2 := kt_perm (pick_perm (w.params.setOrder a ep) es) hkt
    (refine e1a2 hkt2 fun kt e1 e2 => ?_; try clear hkt2)
    have hlen : es.size = (kt.map fun q => Value.str q.1 q.2).length := by
      rw [← e1, List.length_map, (pick_perm _ es).length_eq]; simp
    refine wpAny_bind (m := setEpoch a) (wpAny_setEpoch_of ho hd hf ?_)
    refine wpAny_bind (wpAny_newObj_type (wpAny_pure ⟨_, rfl, "set_iterator", _, ⟨_, Heap.get?_push_size _ rfl, rfl⟩, slot_si_next.lookup, ?_⟩))
    refine hQ es ep t (.int 0 0) _ kt _ _ s.drawn hd hf hlen rfl e2 ⟨fun _ => ⟨rfl, e1.symm⟩, fun q => (by rw [hb] at q; cases q)⟩ ⟨_, Heap.get?_push_size _ rfl, rfl, ?_⟩ (Nat.le_refl _) ?_ (fun b x e => Heap.get?_push_of_some _ e) fun P e => by cases e
    · rw [← hlen]; rfl
    · rw [Heap.size_push]; exact Nat.lt_succ_self _
theorem setS_collect {a : Addr} {o : Obj} {ks : List Str} {Q : List Value → Shared → Prop} (hh : A.handled = none) (ho : s.heap.get? a = some o) (hS : SetS prog w o ks) (h2 : 2 ≤ ks.length)
    (hQ : ∀ (kt : List (Str × Tok)) h' tk dr, (kt.map (·.1)).Perm ks → (∀ b o, s.heap.get? b = some o → h'.get? b = some o) → Q (kt.map (fun q => Value.str q.1 q.2)) { s with heap := h', toks := tk, drawn := dr }) :
    wpAny (model prog w) A (collect (.ref a)) Q E s := by
  have hT : s.TypeIs (.ref a) "set" := ⟨o, ho, hS.exact_.1⟩
  have hal := Heap.lt_size ho
  unfold collect
  refine wpAny_bind (wpAny_runValue (codeAny_builtin F.entry_proto_collect ?_))
  rw [Around.under_plainId F.plain_proto_collect _]
  show wpAny _ A.in1 (newList [] >>= fun l => again (.builtin "list.__iadd__" ⟨[l, .ref a], []⟩)) _ _ s
  refine wpAny_bind (wpAny_newObj_type ?_)
  refine wpAny_pure ⟨plainId_quiet F.plain_list_iadd _, codeAny_builtin F.entry_list_iadd ?_⟩
  rw [Around.under_plainId F.plain_list_iadd _]
  have ho1 : (s.heap.push { cls := .type "list", data := .seq ([] : List Value).toArray }).get? a = some o := Heap.get?_push_of_some _ ho
  have hT1 : ({ s with heap := s.heap.push { cls := .type "list", data := .seq ([] : List Value).toArray } } : Shared).TypeIs (.ref a) "set" := ⟨o, ho1, hS.exact_.1⟩
  show wpAny _ A.in1 (Builtin.List.listExtendWith (.ref s.heap.objs.size) (.ref a) (.ref s.heap.objs.size)) _ _ _
  unfold Builtin.List.listExtendWith
  refine wpAny_bind (wpAny_typeOf hT1 ?_)
  have h1 : Builtin.List.listSameRef (.ref s.heap.objs.size) (.ref a) = false := by simp [Builtin.List.listSameRef, Nat.ne_of_gt hal]
  have h3 : (Value.type "set" == Value.type "list") = false := by decide
  have h4 : (Value.type "set" == Value.type "tuple") = false := by decide
  first | refine ifn (by rw [h1]; decide) ?_ | simp only [h1, h3, h4, Bool.or_false, Bool.false_eq_true, if_false]
  refine wpAny_bind (setS_pyIter ho1 hS h2 fun es ep t first vs kt I h' dr hd hf hz hv hp hway hit hI1 hI2 keep hP => ?_)
  refine wpAny_bind (wpAny_holding ?_)
  unfold Builtin.List.listLengthHint
  have hT2 : ({ s with heap := h', drawn := dr } : Shared).TypeIs (.ref a) "set" := ⟨o, keep _ _ ho1, hS.exact_.1⟩
  refine wpAny_bind (wpAny_specialOf hT2 F.slot_set_len.lookup ?_)
  (generalize hid : ("set.__len__" : String) = id0; (fail_if_success (clear hid id0)); wp_delta; rw [show splitId id0 = some ("set", "__len__") from by subst hid; decide +kernel]; subst hid)
  refine wpAny_bind (wpAny_isInstance (b := true) hT2 (by rw [isSubtype_type]; kernel_rfl) ?_)
  first | refine ifn (by decide) ?_ | simp only [Bool.not_true, Bool.false_eq_true, if_false]
  first | refine ifp (by decide +kernel) ?_ | rw [if_pos (by decide +kernel)]
  refine wpAny_bind (wpAny_typeOf hT2 ?_)
  refine wpAny_pure ?_
  first | refine ifp (by decide +kernel) ?_ | rw [if_pos (by decide +kernel)]
  refine wpAny_bind (wpAny_rule ?_)
  have hS₁ : h'.get? s.heap.objs.size = some { cls := .type "list", data := .seq ([] : List Value).toArray } := keep _ _ (Heap.get?_push_size _ rfl)
  refine wpAny_bind ?_
  show wpAny _ A.in1 (updateSeq s.heap.objs.size (·.push .none) >>= fun _ => updateSeq s.heap.objs.size (·.pop)) _ _ _
  refine wpAny_bind (wpAny_updateSeq hS₁ rfl ?_)
  have hS₂ := Heap.get?_update_self (Obj.mapSeq (·.push Value.none)) hS₁ rfl
  refine wpAny_updateSeq hS₂ rfl ?_
  have hS₃ := Heap.get?_update_self (Obj.mapSeq (·.pop)) hS₂ rfl
  have oth : ∀ b x, b ≠ s.heap.objs.size → h'.get? b = some x → ((h'.update s.heap.objs.size (Obj.mapSeq (·.push Value.none))).update s.heap.objs.size (Obj.mapSeq (·.pop))).get? b = some x :=
    fun b x hb e => (Heap.get?_update_other _ _ (Ne.symm hb)).trans ((Heap.get?_update_other _ _ (Ne.symm hb)).trans e)
  have hI1' : s.heap.objs.size < I := by
    have : s.heap.objs.size + 1 ≤ I := by simpa [Heap.size_push] using hI1
    k_room
  have hPP : ∀ P, first = .ref P → s.heap.objs.size < P := fun P e => by
    have := (hP P e).1
    have : s.heap.objs.size + 1 ≤ P := by simpa [Heap.size_push] using this
    k_room
  refine hide (I :: a :: refOf first) fun fp hfp => ?_
  have hSf : s.heap.objs.size ∉ fp := by
    rw [hfp]
    intro hm
    rcases List.mem_cons.mp hm with e | hm
    · exact Nat.ne_of_lt hI1' e
    · rcases List.mem_cons.mp hm with e | hm
      · exact Nat.ne_of_gt hal e
      · cases first with
        | ref P => exact Nat.ne_of_lt (hPP _ rfl) (List.mem_singleton.mp hm)
        | _ => cases hm
  have hf1 : I ∈ fp := by rw [hfp]; exact .head _
  have hf2 : a ∈ fp := by rw [hfp]; exact .tail _ (.head _)
  have hf3 : ∀ P, first = .ref P → P ∈ fp := fun P e => by subst e; rw [hfp]; exact .tail _ (.tail _ (.head _))
  have hfi : first ≠ .ref I := fun e => Nat.lt_irrefl _ (hP I e).2
  have W0 : Walks prog w A.in1 I fp [I] vs.length (fun i v => vs[i]? = some v) (fun i h => IsSetIter h I a first i vs.length ep ∧ h.get? a = some o ∧ SetWay w a es ep first h vs) :=
    Walks.setS (A := A.in1) (show A.in1.handled = none from hh) I a (Nat.ne_of_lt (Nat.lt_trans hal hI1')) hfi hd hf hz fp ⟨hf1, hf2, hf3⟩
  have W := W0.toS
  have hkl : kt.length = ks.length := by have := hp.length_eq; rwa [List.length_map] at this
  have hvl : vs.length ≤ sizeLine := by
    have h1 := hS.small
    have h2 : vs.length = ks.length := by rw [hv, List.length_map, hkl]
    rw [sizeLine_eq]; k_room
  refine wpAny_pure ⟨plainId_quiet F.plain_extend_loop _, codeAny_extend_loopS W hvl _ hSf _ vs.length 0 _ _ _ rfl (Nat.zero_le _)
    ⟨hit.at' fun o e => oth _ _ (Nat.ne_of_gt hI1') e, oth _ _ (Nat.ne_of_lt hal) (keep _ _ ho1), hway.at' fun P e o g => oth _ _ (Nat.ne_of_gt (hPP P e)) g⟩ hS₃ (ItemsOf.nil _) fun s' acc' c' hm hS' hacc => ?_⟩
  show wpAny _ A (load s.heap.objs.size >>= _) _ _ s'
  refine wpAny_bind (wpAny_load hS' ?_)
  have hacc' : acc'.toList = kt.map fun q => Value.str q.1 q.2 := by
    rw [← hv]
    refine List.ext_getElem? fun i => ?_
    cases q : acc'.toList[i]? with
    | none =>
      rw [List.getElem?_eq_none_iff] at q
      rw [Array.length_toList, hacc.1] at q
      rw [List.getElem?_eq_none q]
    | some v => rw [hacc.2 i v (by rw [← Array.getElem?_toList]; exact q)]
  have e : s' = { s with heap := s'.heap, toks := s'.toks, drawn := dr } := by
    obtain ⟨a1, a2, a3, a4, a5⟩ := s'
    have h1 := hm.gens; have h2 := hm.drawn; have h3 := hm.os
    dsimp only at h1 h2 h3 ⊢
    rw [h1, h2, h3]
  refine wpAny_pure ?_
  show Q acc'.toList s'
  rw [hacc', e]
  refine hQ kt s'.heap s'.toks dr hp fun b x ex => hm.heap b x (fun hc => ?_) (oth b x (Nat.ne_of_lt (Heap.lt_size ex)) (keep _ _ (Heap.get?_push_of_some _ ex)))
  rcases List.mem_cons.mp hc with rfl | hc
  · exact Nat.lt_irrefl _ (Heap.lt_size ex)
  · rw [List.mem_singleton.mp hc] at ex; exact Nat.lt_asymm hI1' (Heap.lt_size ex)
end
end
section
section
variable {prog : Program} {w : World} {A : Around} {E : Value → Shared → Prop} {s : Shared} {h₀ : Heap} {L : Addr} {m : Str → Option Value} {news : List (Addr × Obj)}
theorem setS_sortedK {a : Addr} {o : Obj} {names : List Str} {f : Value} {kw : List (Str × Value)} {Q : Value → Shared → Prop} (hh : A.handled = none) (F : Fr h₀ L s.heap m) (N : News h₀ L s.heap news) (hm : (a, o) ∈ news) (hS : SetS prog w o names) (h2 : 2 ≤ names.length) (h64 : names.length < 64)
    (ha1 : argsOk "sorted" ⟨[.ref a], kw⟩) (ha2 : ∀ x, argsOk "list.sort" ⟨[.ref x], kw⟩) (ht : ∀ x, Builtin.«list.sort» ⟨[.ref x], kw⟩ = ksk_tree x f false)
    (h : ∀ (kt : List (Str × Tok)) D kS e1 h' tk dr, (kt.map (·.1)).Perm names → Fr h₀ L h' m → News h₀ L h' ((kS, seqObj "list" #[] 0) :: (D, seqObj "list" #[] e1) :: news) → D < kS → (∀ q ∈ news, q.1 < D) →
      KatKeys prog w A.in1.in1 h₀ L m kS f (fun ks e s' => wpAny (model prog w) A.in1.in1 (keyKind' (List.toArray ks)) (fun κ s'' => (kas_sort kt.length).kasWp (kas_ask prog w A.in1.in1 κ ks) (fun p s3 => KatFin h₀ L m kS D ks e e1 (p.toList.map fun i => (kt.map fun q => Value.str q.1 q.2).getD i Value.none) (fun s4 => Q (.ref D) s4) s3) s'') (fun _ _ => False) s') (kt.map fun q => Value.str q.1 q.2) [] 0 { s with heap := h', toks := tk, drawn := dr }) :
    wpAny (model prog w) A (call (.builtin "sorted") [.ref a] kw) Q E s := by
  refine call_function_entry_kw kind_sorted plain_sorted entry_sorted ha1 ?_
  unfold Builtin.«sorted»
  refine wpAny_bind (m := checkCount "sorted" 1 1 _) (wpAny_pure ?_)
  refine wpAny_bind (setS_collect (A := A.in1) (show A.in1.handled = none from hh) (N _ hm).1 hS h2 fun kt hc tk dr hp keep0 => ?_)
  have hkl : kt.length = names.length := by have := hp.length_eq; rwa [List.length_map] at this
  have F1 : Fr h₀ L hc m := F.keeps keep0
  have N1 : News h₀ L hc news := N.grown keep0
  generalize hvs : (kt.map fun q => Value.str q.1 q.2) = vs at *
  have hvl : vs.length = names.length := by rw [← hvs, List.length_map, hkl]
  refine wpAny_bind (wpAny_newList ?_ (by rw [hvl, sizeLine_eq]; k_room))
  have hoL : (hc.push (seqObj "list" vs.toArray 0)).get? hc.objs.size = some (seqObj "list" vs.toArray 0) := Heap.get?_push_size _ rfl
  have keep : ∀ b o, hc.get? b = some o → (hc.push (seqObj "list" vs.toArray 0)).get? b = some o := fun b o q => Heap.get?_push_of_some _ q
  have hL : L < hc.objs.size := F1.ns.lt
  refine wpAny_bind (wpAny_holding (wpAny_call_entry_kw slot_list_sort ⟨_, hoL, rfl⟩ entry_list_sort ?body (ha2 _)))
  case body =>
    have ht' := ht hc.objs.size
    show wpAny (model prog w) A.in1.in1 (Builtin.«list.sort» ⟨[.ref hc.objs.size], kw⟩) _ _ _
    rw [ht']
    refine kat_keyed (s := { s with heap := hc.push (seqObj "list" vs.toArray 0), toks := tk, drawn := dr })
      (F1.kept keep) (N1.grown keep) hoL (Nat.ne_of_gt hL) (Heap.get?_none_of_le (Nat.le_trans F1.above (Nat.le_of_lt hL)))
      (fun p hp => Nat.ne_of_lt (Heap.lt_size (N1 p hp).1)) (by k_room) (by k_room) fun kS e1 h' F' N' l0 l1 => ?_
    have hk0 := h kt hc.objs.size kS e1 h' tk dr hp F' N' l0 fun q hq => Heap.lt_size (N1 q hq).1
    rw [hvs] at hk0
    refine kat_keys_mono hk0 fun ks e s' hl' hd => ?_
    have hl2 : ks.length = vs.length := by simpa using hl'
    rw [hkl, ← hvl] at hd
    refine wpAny_mono hd (fun κ s'' hk => ?_) fun _ _ x => x
    show (kas_sort vs.length).kasWp (kas_ask prog w A.in1.in1 κ (katRev false ks)) _ _
    rw [kat_ask_eq (vs := katRev false vs) (by rw [kat_len, kat_len, hl2])]
    rw [kat_ask_eq (vs := vs) hl2] at hk
    exact kas_wp_mono hk fun p s3 hk' => hk'.mono fun s4 hq => ⟨_, rfl, wpAny_pure ⟨_, rfl, hq⟩⟩
end
end
section
open LCg
section
variable {prog : Program} {w : World} {A : Around} {E : Value → Shared → Prop} {s : Shared} {h₀ : Heap} {L : Addr} {m : Str → Option Value} {env : Env}
noncomputable abbrev DcEnd (h₀ : Heap) (L : Addr) (m : Str → Option Value) (s₁ : Shared) (I : Addr) (oI : Obj) (C : Addr) (oC : Obj) (D : Addr) (oD : Obj) (S : List (Addr × Obj) → Prop) (kvs : List (Str × Value)) (Inv : List (Str × Value) → List (Addr × Obj) → Prop) (kv vv : Value) (s₃ : Shared) : Prop :=
  Stop (∃ h' tk gens' dr news' k t, s₃ = { s₁ with heap := h', toks := tk, gens := gens', drawn := dr } ∧ kv = .str k t ∧ AllBare gens' ∧ Fr h₀ L h' m ∧ News h₀ L h' ((I, oI) :: (C, oC) :: (D, oD) :: news') ∧ Off3 I C D news' ∧ S news' ∧ Inv (stored kvs k vv) news')
theorem dict_block {kx vx iter : Expr} {x : Str} {px : Pos} {scope : Scope} {cl : List (Str × Addr)} {pos : Pos} {s₂ : Shared} {I : Addr} {fp : List Addr} {n : Nat} {P : Nat → Value → Prop} {St : Nat → Heap → Prop} {S : List (Addr × Obj) → Prop} {news : List (Addr × Obj)}
    {RR : Value → Addr → Result → Shared → Prop} (Inv : Nat → List (Str × Value) → List (Addr × Obj) → Prop)
    (W : Walks prog w A I fp [I] n P St) (hIo : ∀ i h, St i h → ∃ o, h.get? I = some o)
    (hSt : ∀ i h h' o nw, St i h → h.get? I = some o → h'.get? I = some o → (∀ b o, h₀.get? b = some o → h'.get? b = some o) → News h₀ L h' nw → S nw → St i h')
    (hcell : ∀ y ∈ scope.names, y.2 ≠ .cell) (hkind : scope.kind = .function) (hx : scope.names.lookup x = some .local) (hst : St 0 s₂.heap) (hfp : ∀ b ∈ fp, b < s₂.heap.objs.size)
    (F : Fr h₀ L s₂.heap m) (N : News h₀ L s₂.heap news) (hIL : L ≠ I) (hI₀ : h₀.get? I = none) (off : ∀ p ∈ news, p.1 ≠ I) (hS : S news) (hB : AllBare s₂.gens) (hsys : h₀.NoLimit) (h0 : Inv 0 [] news)
    (hlen : ∀ i kvs nw, Inv i kvs nw → kvs.length ≤ sizeLine)
    (step : ∀ i v kvs news, i < n → P i v → Inv i kvs news → ∀ I oI C oC D oD m₂ h tk gens dr (E' : Value → Shared → Prop), NsObj oC m₂ → m₂ x = some v → oD.IsDictOf (PySem.strKind prog w) kvs → Fr h₀ L h m → News h₀ L h ((I, oI) :: (C, oC) :: (D, oD) :: news) → Off3 I C D news → ((@Ne Nat I C) ∧ (@Ne Nat I D) ∧ (@Ne Nat C D)) → AllBare gens →
      wpAny (model prog w) A (eval kx (compEnvC scope cl C env)) (fun kv s₃ => wpAny (model prog w) A (eval vx (compEnvC scope cl C env)) (fun vv s₄ => DcEnd h₀ L m s₂ I oI C oC D oD S kvs (Inv (i + 1)) kv vv s₄) E' s₃) E' { s₂ with heap := h, toks := tk, gens := gens, drawn := dr })
    (hRR : ∀ D C oD h tk gens dr m' kvs news', Fr h₀ L h m → News h₀ L h ((D, oD) :: news') → oD.IsDictOf (PySem.strKind prog w) kvs → Off1 D news' → h.Ns C m' → h₀.get? C = none → h₀.get? D = none → C ≠ L → D ≠ L → C ≠ D → (∀ p ∈ news', p.1 ≠ C) → Inv n kvs news' → AllBare gens → (D == sysModules) = false → RR (.ref D) C (.ok .next) { s₂ with heap := h, toks := tk, gens := gens, drawn := dr }) :
    wpAny (model prog w) A newDict (fun acc s₃ => wpAny (model prog w) A (newFunctionEnv scope env.globals cl [] env.qual none .none (some env)) (fun cenv s₄ =>
      codeAny (model prog w) A (.compStart (.DictComp kx vx [⟨.Name x px, iter, [], 0⟩] scope pos) 0 (.ref I) acc { cenv with scope := relabel scope env }) (RR acc cenv.locals) s₄) E s₃) E s₂ := by
  refine wpAny_newObj_type (wpAny_newFunctionEnv hcell (by intro y hy; simp at hy) (fun h₁ hns₁ hsb₁ => ?_) hkind)
  dsimp only at hns₁ hsb₁ ⊢
  have hnew : (s₂.heap.push { cls := .type "dict", dict := none, data := .dict #[] }).DictOf (PySem.strKind prog w) s₂.heap.objs.size [] := Heap.DictOf.new s₂.heap
  generalize hH2 : s₂.heap.push { cls := .type "dict", dict := none, data := .dict #[] } = H2 at hns₁ hsb₁ hnew ⊢
  have hC : H2.objs.size = s₂.heap.objs.size + 1 := by rw [← hH2, Heap.size_push]
  have hDC : s₂.heap.objs.size ≠ H2.objs.size := by rw [hC]; exact Nat.ne_of_lt (Nat.lt_succ_self _)
  have below : ∀ b, b < s₂.heap.objs.size → b ≠ H2.objs.size ∧ b ≠ s₂.heap.objs.size := fun b hb => ⟨by rw [hC]; exact Nat.ne_of_lt (Nat.lt_succ_of_lt hb), Nat.ne_of_lt hb⟩
  have hDf : s₂.heap.objs.size ∉ fp := fun hm => Nat.lt_irrefl _ (hfp _ hm)
  have hCf : H2.objs.size ∉ fp := fun hm => by have := hfp _ hm; rw [hC] at this; exact Nat.lt_irrefl _ (Nat.lt_of_succ_lt this)
  have hIf : I ∈ fp := W.sub I (List.mem_singleton.mpr rfl)
  have hIlt : I < s₂.heap.objs.size := hfp I hIf
  have old : ∀ b o, s₂.heap.get? b = some o → h₁.get? b = some o := fun b o e => hsb₁.extBut b o (below b (Heap.lt_size e)).1 (Heap.get?_push_of_some _ (hH2 ▸ Heap.get?_push_of_some _ e))
  have hacc : h₁.DictOf (PySem.strKind prog w) s₂.heap.objs.size [] := hnew.at fun o e => hsb₁.extBut _ _ hDC (Heap.get?_push_of_some _ e)
  have hst₁ : St 0 h₁ := W.frame _ _ _ hst fun b _ o e => old b o e
  have fresh : ∀ a, s₂.heap.objs.size ≤ a → s₂.heap.get? a = none := fun a ha => by
    cases e : s₂.heap.get? a with
    | none => rfl
    | some o' => exact absurd (Heap.lt_size e) (Nat.not_lt.mpr ha)
  have fresh₀ : ∀ a, s₂.heap.objs.size ≤ a → h₀.get? a = none := fun a ha => by
    cases e : h₀.get? a with
    | none => rfl
    | some o' => have := F.keep a o' e; rw [fresh a ha] at this; cases this
  have hD₀ : h₀.get? s₂.heap.objs.size = none := fresh₀ _ (Nat.le_refl _)
  have hC₀ : h₀.get? H2.objs.size = none := fresh₀ _ (by rw [hC]; exact Nat.le_succ _)
  have hLlt : L < s₂.heap.objs.size := F.ns.lt
  have hDL : s₂.heap.objs.size ≠ L := Ne.symm (below L hLlt).2
  have hCL : H2.objs.size ≠ L := Ne.symm (below L hLlt).1
  have hCI : I ≠ H2.objs.size := (below I hIlt).1
  have hDI : I ≠ s₂.heap.objs.size := (below I hIlt).2
  have hDs : (s₂.heap.objs.size == sysModules) = false := by
    have := hsys.keeps F.keep
    exact beq_eq_false_iff_ne.mpr (Nat.ne_of_gt (modules_low this))
  have off₀ : Off3 I H2.objs.size s₂.heap.objs.size news := Off3.of fun p hp => ⟨off p hp, (below _ (Heap.lt_size (N p hp).1)).1, (below _ (Heap.lt_size (N p hp).1)).2⟩
  (refine e1a2 (Heap.dictOf_iff.mp hacc) fun oD0 heD0 hoD0 => ?_)
  have loop : ∀ s₃ : Shared, s₃ = { s₂ with heap := h₁, toks := s₂.toks + ([] : List (Str × Value)).length } →
      codeAny (model prog w) A (.compLoop (.DictComp kx vx [⟨.Name x px, iter, [], 0⟩] scope pos) 0 (.ref I) (.ref s₂.heap.objs.size) (compEnvC scope cl H2.objs.size env))
        (RR (.ref s₂.heap.objs.size) H2.objs.size) s₃ := by
    rintro s₃ rfl
    refine codeAny_compLoop_testsD
      (fun k s' => ∃ h' tk gens dr i kvs oD m' news', s' = { s₂ with heap := h', toks := tk, gens := gens, drawn := dr } ∧ i ≤ n ∧ k = n + 1 - i ∧ St i h' ∧ Fr h₀ L h' m ∧ h'.Ns H2.objs.size m' ∧ oD.IsDictOf (PySem.strKind prog w) kvs ∧ News h₀ L h' ((s₂.heap.objs.size, oD) :: news') ∧
        Off3 I H2.objs.size s₂.heap.objs.size news' ∧ S news' ∧ AllBare gens ∧ Inv i kvs news') ?_ (n + 1)
      ⟨h₁, _, s₂.gens, s₂.drawn, 0, [], oD0, _, news, rfl, Nat.zero_le _, rfl, hst₁, F.keeps old, hns₁, hoD0, fun p hp => ?_, off₀, hS, hB, h0⟩
    · intro k s' hz1_; (refine ex9 hz1_ fun h' tk gens dr i kvs oD m' news' w3_ => an12 w3_ fun y4_ hi y5_ hst' F' hn' hoD N' off' hS' hB' hInv => ?_; clear w3_; clear hz1_; obtain rfl := y4_; obtain rfl := y5_)
      by_cases hlt : i < n
      · refine W.item i _ _ _ hlt hst' fun v h₂ tk₂ hPv hst₂ hk₂ => ?_
        refine wpAny_assign_Name (wpAny_storeName_local (lookup_relabel_local hx) (hn'.at' fun o e => hk₂ _ o (by simpa using Ne.symm hCI) e) (fun h₃ hn₃ hs₃ => ?_) (by simp [compEnvC, relabel, hkind]))
        refine wpAny_tests_nil ?_
        simp only [if_true]
        have hst₃ : St (i + 1) h₃ := W.frame _ _ _ hst₂ fun b hb o e => hs₃.extBut b o (fun q => hCf (by have q' : b = H2.objs.size := q; rw [← q']; exact hb)) e
        (refine ex1 (hIo _ _ hst₃) fun oI heI => ?_)
        (refine e1a2 (ns_obj hn₃) fun oC heC hoC => ?_)
        have F₃ : Fr h₀ L h₃ m := (fr_but F' hk₂ hIL hI₀).change hs₃ hCL hC₀
        have off3 := off'.mem
        have N₂ : News h₀ L h₂ ((s₂.heap.objs.size, oD) :: news') := news_but N' hk₂ fun p hp => by
          rcases List.mem_cons.mp hp with rfl | hp
          · exact Ne.symm hDI
          · exact (off3 p hp).1
        have N₃ : News h₀ L h₃ ((I, oI) :: (H2.objs.size, oC) :: (s₂.heap.objs.size, oD) :: news') := fun p hp => by
          rcases List.mem_cons.mp hp with rfl | hp
          · exact ⟨heI, Ne.symm hIL, hI₀⟩
          · rcases List.mem_cons.mp hp with rfl | hp
            · exact ⟨heC, hCL, hC₀⟩
            · have z := N₂ p hp
              refine ⟨hs₃.extBut _ _ ?_ z.1, z.2⟩
              rcases List.mem_cons.mp hp with rfl | hp
              · exact hDC
              · exact (off3 p hp).2.1
        refine wpAny_mono (step i v kvs news' hlt hPv hInv I oI H2.objs.size oC s₂.heap.objs.size oD _ h₃ _ gens dr _ hoC (by simp) hoD F₃ N₃ off' ⟨hCI, hDI, Ne.symm hDC⟩ hB') (fun kv s₄ h₄ => wpAny_mono h₄ (fun vv s₅ h₅ => ?_) fun _ _ e => e) fun _ _ e => e
        unfold DcEnd Stop at h₅
        (refine ex7 h₅ ?_; clear h₅; refine fun h₅ tk₅ gens₅ dr₅ news₅ kk tt w3_ => an8 w3_ fun y4_ y5_ hB₅ F₅ N₅ off₅ hS₅ hInv₅ => ?_; clear w3_; obtain rfl := y4_; obtain rfl := y5_)
        have zI := (N₅ (I, oI) List.mem_cons_self).1
        have zC := (N₅ (H2.objs.size, oC) (List.mem_cons_of_mem _ List.mem_cons_self)).1
        have zD := (N₅ (s₂.heap.objs.size, oD) (List.mem_cons_of_mem _ (List.mem_cons_of_mem _ List.mem_cons_self))).1
        have N₅' : News h₀ L h₅ news₅ := fun p hp => N₅ p (List.mem_cons_of_mem _ (List.mem_cons_of_mem _ (List.mem_cons_of_mem _ hp)))
        have hst₅ : St (i + 1) h₅ := hSt _ _ _ _ _ hst₃ heI zI F₅.keep N₅' hS₅
        have off5 := off₅.mem
        refine wpAny_dictSet_pairs (hsz := hlen _ _ _ hInv) (strKind_is prog w kk tt) (Heap.dictOf_iff.mpr ⟨oD, zD, hoD⟩) fun h₆ hl₆ hs₆ => ?_
        (refine e1a2 (Heap.dictOf_iff.mp hl₆) fun oD6 heD6 hoD6 => ?_)
        refine ⟨n + 1 - (i + 1), by k_room, h₆, _, gens₅, dr₅, i + 1, _, oD6, _, news₅, rfl, hlt, rfl, W.frame _ _ _ hst₅ fun b hb o e => hs₆.extBut b o (fun q => hDf (q ▸ hb)) e, F₅.change hs₆ hDL hD₀,
          (hoC.ns zC).sameBut hs₆ (Ne.symm hDC), hoD6, fun p hp => ?_, off₅, hS₅, hB₅, hInv₅⟩
        rcases List.mem_cons.mp hp with rfl | hp
        · exact ⟨heD6, hDL, hD₀⟩
        · exact ⟨hs₆.extBut _ _ (off5 p hp).2.2 (N₅' p hp).1, (N₅' p hp).2⟩
      · obtain rfl : i = n := Nat.le_antisymm hi (Nat.not_lt.mp hlt)
        refine W.done _ _ _ hst' fun h₂ tk₂ hk₂ => ?_
        have off3 := off'.mem
        exact hRR _ _ oD h₂ tk₂ gens dr _ kvs news' (fr_but F' hk₂ hIL hI₀) (news_but N' hk₂ fun p hp => by
          rcases List.mem_cons.mp hp with rfl | hp
          · exact Ne.symm hDI
          · exact (off3 p hp).1) hoD off'.one (hn'.at' fun o e => hk₂ _ o (by simpa using Ne.symm hCI) e) hC₀ hD₀ hCL hDL (Ne.symm hDC) (fun p hp => (off3 p hp).2.1) hInv hB' hDs
    · rcases List.mem_cons.mp hp with rfl | hp
      · exact ⟨heD0, hDL, hD₀⟩
      · exact ⟨old _ _ (N p hp).1, (N p hp).2⟩
  exact codeAny_compStart_dict (loop _ rfl) (W.self 0 _ _ _ hst₁ (loop _ rfl))
theorem Assign_DictComp_inv {kx vx iter : Expr} {x y : Str} {px py : Pos} {scope : Scope} {cl : List (Str × Addr)} {pos spos : Pos} {Q : Flow → Shared → Prop} (F₀ : Fr h₀ L s.heap m) (hLe : env.locals = L)
    (hsw : swapsWith (.DictComp kx vx [⟨.Name x px, iter, [], 0⟩] scope pos) (some (.Name y py)) spos.line env = pure true)
    (hclos : closureFor scope env = pure cl) (hcell : ∀ z ∈ scope.names, z.2 ≠ .cell) (hkind : scope.kind = .function)
    (hnames : ∀ z ∈ scope.names, z.2 = .local → scope.names.lookup z.1 = some .local) (hx : scope.names.lookup x = some .local)
    (hy : env.kindOf y = some .local) (hp : (env.scope.kind == .class || (env.scope.kind == .module && env.locals != env.globals)) = false)
    (h : wpAny (model prog w) A (eval iter env) (fun xv s₁ => Stop (∃ (ax : Addr) (its : Array Value) (news : List (Addr × Obj)) (Inv : Nat → List (Str × Value) → List (Addr × Obj) → Prop), xv = .ref ax ∧ A.handled = none ∧ Fr h₀ L s₁.heap m ∧ News h₀ L s₁.heap news ∧ SrcAt h₀ ax its news ∧ AllBare s₁.gens ∧ h₀.NoLimit ∧ Inv 0 [] news ∧
      (∀ i kvs nw, Inv i kvs nw → kvs.length ≤ sizeLine) ∧
      (∀ i v kvs news, i < its.size → its[i]? = some v → Inv i kvs news → ∀ I oI C oC D oD m₂ h tk gens dr (E' : Value → Shared → Prop), NsObj oC m₂ → m₂ x = some v → oD.IsDictOf (PySem.strKind prog w) kvs → Fr h₀ L h m → News h₀ L h ((I, oI) :: (C, oC) :: (D, oD) :: news) → Off3 I C D news → ((@Ne Nat I C) ∧ (@Ne Nat I D) ∧ (@Ne Nat C D)) → AllBare gens →
        wpAny (model prog w) A (eval kx (compEnvC scope cl C env)) (fun kv s₃ => wpAny (model prog w) A (eval vx (compEnvC scope cl C env)) (fun vv s₄ => DcEnd h₀ L m s₁ I oI C oC D oD (SrcAt h₀ ax its) kvs (Inv (i + 1)) kv vv s₄) E' s₃) E' { s₁ with heap := h, toks := tk, gens := gens, drawn := dr }) ∧
      (∀ D oD h tk gens dr kvs news', Fr h₀ L h (fun z => if z = y then some (.ref D) else m z) → News h₀ L h ((D, oD) :: news') → oD.IsDictOf (PySem.strKind prog w) kvs → Off1 D news' → Inv its.size kvs news' → AllBare gens → (D == sysModules) = false → Q .next { s₁ with heap := h, toks := tk, gens := gens, drawn := dr }))) E s)
    (hs : ∀ x, foldedSetIterable iter env x = pure x) :
    wpAny (model prog w) A (exec (.Assign [.Name y py] (.DictComp kx vx [⟨.Name x px, iter, [], 0⟩] scope pos) spos) env) Q E s := by
  subst hLe
  rw [exec_Assign_Name_used _ _ _ _ hsw]
  refine wpAny_bind (wpAny_standAt (wpAny_bind ?_))
  show wpAny _ A (do let _ ← comprehension (.DictComp kx vx [⟨.Name x px, iter, [], 0⟩] scope pos) scope env _ newDict false (eval iter env) (some (assign (.Name y py) env))) _ _ s
  refine wpAny_bind (wpAny_mono (wpAny_comprehension_free (use := some (assign (.Name y py) env)) (Q := fun _ s' => Q .next s') rfl hs hclos hkind hnames
    (wpAny_mono h (fun xv s₁ h₁ => ?_) fun _ _ e => e)) (fun _ s' hq => wpAny_pure (wpAny_pure hq)) fun _ _ e => e)
  unfold Stop at h₁
  (refine ex4 h₁ fun ax its news Inv w2_ => an11 w2_ fun y3_ hh F N S hB hsys h0 hlen step fin => ?_; clear w2_; try clear h₁; obtain rfl := y3_)
  have hl := S.list F.keep N
  have hlt : ax < s₁.heap.objs.size := by (refine e1a2 hl fun _ e _ => ?_; try clear hl); exact Heap.lt_size e
  refine wpAny_pyIter_list hl ?_
  have up : ∀ b o, s₁.heap.get? b = some o → (s₁.heap.push { cls := .type "list_iterator", data := .fields #[.ref ax, .int 0 0] }).get? b = some o := fun b o e => Heap.get?_push_of_some _ e
  refine dict_block (s₂ := { s₁ with heap := s₁.heap.push { cls := .type "list_iterator", data := .fields #[.ref ax, .int 0 0] } }) Inv (Walks.list hh s₁.heap.objs.size ax (Nat.ne_of_lt hlt) its) (fun i h st => by (refine e1a2 st.1 fun o e _ => ?_); exact ⟨o, e⟩) list_st hcell hkind hx ⟨⟨_, Heap.get?_push_size _ rfl, rfl, rfl⟩, hl.push _⟩ (fun b hb => ?_)
    (F.keeps up) (N.grown up) (Nat.ne_of_lt F.ns.lt) (next_is_new F) (fun p hp => Nat.ne_of_lt (Heap.lt_size (N p hp).1)) S hB hsys h0 hlen (fun i v kvs nw hi hv hI I oI C oC D oD m₂ h tk gens dr E' => step i v kvs nw hi hv hI I oI C oC D oD m₂ h tk gens dr E') ?_
  · show b < (s₁.heap.push _).objs.size
    rw [Heap.size_push]
    rcases List.mem_cons.mp hb with rfl | hb
    · exact Nat.lt_succ_self _
    · rw [List.mem_singleton.mp hb]; exact Nat.lt_succ_of_lt hlt
  · intro D C oD h' tk gens dr m' kvs news' F' N' hoD o1 hn hC₀ hD₀ hCL hDL hCD offC hInv hB' hDs
    show wpAny _ A (assign (.Name y py) env (.ref D)) _ _ _
    refine wpAny_assign_Name (wpAny_storeName_local hy F'.ns (fun h₂ hn₂ hs₂ => ?_) hp)
    have hL₀ : h₀.get? env.locals = none := Heap.get?_none_of_le F'.above
    have F₂ : Fr h₀ env.locals h₂ (fun z => if z = y then some (.ref D) else m z) := ⟨hn₂, fun b o e => hs₂.extBut b o (fun q => by rw [q, hL₀] at e; cases e) (F'.keep b o e), F'.above⟩
    refine ⟨m', hn.sameBut hs₂ hCL, fun h'' hs'' => fin D oD h'' _ gens dr kvs news' (F₂.change hs'' hCL hC₀) (fun p hp => ?_) hoD o1 hInv hB' hDs⟩
    have z : h₂.get? p.1 = some p.2 := hs₂.extBut _ _ (N' p hp).2.1 (N' p hp).1
    refine ⟨hs''.extBut _ _ ?_ z, (N' p hp).2⟩
    rcases List.mem_cons.mp hp with rfl | hp
    · exact Ne.symm hCD
    · exact offC p hp
end
end
section
/-! a bound append -/
noncomputable abbrev bmO (pg : Addr) : Obj := { cls := .type "builtin_function_or_method", data := .fields #[.builtin "list.append", .ref pg] }
section
variable {prog : Program} {w : World} {M : Model} {A : Around} {E : Value → Shared → Prop} {s : Shared} {h₀ : Heap} {L : Addr} {m : Str → Option Value} {news : List (Addr × Obj)}
noncomputable def BmAt (u pg : Addr) (h : Heap) : Prop := h.get? u = some (bmO pg)
theorem keeper_bm {u pg : Addr} {Q : Keeper → Shared → Prop} (ho : s.heap.get? u = some (bmO pg)) (h : Q .machine s) : wpAny M A (keeperOf (.ref u)) Q E s := by
  unfold keeperOf
  refine wpAny_bind (wpAny_load ho ?_)
  refine ifp (show (Value.type "builtin_function_or_method" != Value.type "method") = true by decide) (wpAny_pure ?_)
  rw [if_pos (show (Value.type "builtin_function_or_method" == Value.type "builtin_function_or_method" || Value.type "builtin_function_or_method" == Value.type "method-wrapper") = true by decide)]; exact h
theorem callWith_bm0 {pos : Pos} {u pg : Addr} {first : List Value} {args : List (Bool × Sem Value)} {Q : Value → Shared → Prop} (hplain : args.any (·.1) = false)
    (h : wpAny M A (evalArgs (.ref u) true args []) (fun x s₁ => BmAt u pg s₁.heap ∧ wpAny M A (call (.ref u) (first ++ x.pos) x.kw) Q E s₁) E s) : wpAny M A (callWith pos (.ref u) first args []) Q E s := by
  unfold callWith
  refine wpAny_bind (wpAny_holding (wpAny_mono h (fun x s₁ h₁ => wpAny_bind (wpAny_standAt ?_)) fun _ _ x => x))
  (refine an2 h₁ fun ho hcall => ?_; try clear h₁)
  rw [hplain]
  refine wpAny_bind (m := keeperOf (.ref u)) (keeper_bm ho ?_)
  exact wpAny_bind (wpAny_mono hcall (fun r s₂ hr => wpAny_bind (wpAny_holding (wpAny_point (wpAny_pure hr)))) fun _ _ x => x)
theorem callWith_bm {pos : Pos} {u pg : Addr} {first : List Value} {env : Env} {e : Expr} {rest : List Expr} {Q : Value → Shared → Prop} (_N : News h₀ L s.heap news) (_hm : (u, bmO pg) ∈ news)
    (h : wpAny M A (spliced (backTo pos (starEach (e :: rest) env))) (fun vs s₁ => BmAt u pg s₁.heap ∧ wpAny M A (call (.ref u) (first ++ vs)) Q E s₁) E s)
    (he : starEach (e :: rest) env = (false, eval e env) :: starEach rest env := by rfl) (hplain : (backTo pos (starEach rest env)).any (·.1) = false := by rfl) :
    wpAny M A (callWith pos (.ref u) first (backTo pos (starEach (e :: rest) env)) []) Q E s := by
  rw [he] at h ⊢
  refine callWith_bm0 (pg := pg) (by show (false || (backTo pos (starEach rest env)).any (·.1)) = false; rw [hplain]; rfl) ?_
  exact PySem.Calls.evalArgs_plain h
theorem sub_list_module : isSubtype (.type "list") (.type "module") = pure false := by rw [isSubtype_type]; kernel_rfl
theorem callAny_bm {u pg : Addr} {its : Array Value} {n : Nat} {x : Value} {Q : Fin → Shared → Prop} (hb : s.heap.get? u = some (bmO pg)) (hl : s.heap.get? pg = some (listOf its n)) (h : Q (.again (.builtin "list.append" ⟨[.ref pg, x], []⟩)) s) :
    wpAny (model prog w) A (callAny (.ref u) ⟨[x], []⟩) Q E s := by
  have hT : s.TypeIs (.ref pg) "list" := ⟨_, hl, rfl⟩
  refine wpAny_bind (m := load u) (wpAny_load hb ?_)
  refine ifp (show (Value.type "builtin_function_or_method" == Value.type "method" || Value.type "builtin_function_or_method" == Value.type "builtin_function_or_method" || Value.type "builtin_function_or_method" == Value.type "method-wrapper") = true by decide) ?_
  first | refine ifp (show (Value.type "builtin_function_or_method" != Value.type "method") = true by decide) ?_ | refine KFB.if_so (show (Value.type "builtin_function_or_method" != Value.type "method") = true by decide) ?_
  refine wpAny_bind (m := checkBoundCall "list.append" ⟨[.ref pg, x], []⟩) ?_
  unfold checkBoundCall
  rw [show Manifest.signature? "list.append" = some ⟨.oneArg, "list.append", "append", .self, [⟨"object", .posOnly, true⟩]⟩ from by kernel_rfl]
  show wpAny _ _ (isInstance (.ref pg) (.type "module") >>= _) _ _ _
  refine wpAny_bind (wpAny_isInstance (b := false) hT sub_list_module ?_)
  refine KFB.if_not (by decide +kernel) ?_
  unfold isType
  refine wpAny_bind (m := do return match (← loadHead pg).data with | .cls _ => true | _ => false) ?_
  unfold loadHead
  refine wpAny_bind (wpAny_loadPart hl ?_)
  refine wpAny_pure ?_
  refine KFB.if_not rfl ?_
  refine wpAny_bind (wpAny_typeOf hT ?_)
  refine wpAny_of_eq (a := ()) (by kernel_rfl) ?_
  exact wpAny_pure h
theorem call_bm {u pg : Addr} {its : Array Value} {n : Nat} {x : Value} {g : Obj → List (Addr × Obj)} {Q : Value → Shared → Prop} (F : Fr h₀ L s.heap m) (N : News h₀ L s.heap news) (hm : (u, bmO pg) ∈ news) (U : UpdF pg (listOf its n) news g) (hz : its.size ≤ sizeLine)
    (h : ∀ h', Fr h₀ L h' m → News h₀ L h' (g (listOf (its.push x) (n + 1))) → Q .none { s with heap := h' }) : wpAny (model prog w) A (call (.ref u) [x]) Q E s := by
  (refine e2a4 U.split fun pre post y3_ hg h1 h2 => ?_; obtain rfl := y3_)
  have hpm := N (pg, listOf its n) (List.mem_append_right _ (.head _))
  refine wpAny_call (codeAny_of_tree ?_)
  refine callAny_bm (N _ hm).1 hpm.1 ?_
  refine ⟨Code.quiet_builtin _ (by decide +kernel), codeAny_builtin entry_list_append ?_⟩
  show wpAny _ _ (updateSeq pg (·.push x) >>= fun _ => ret .none) _ _ s
  refine wpAny_bind (wpAny_updateSeq hpm.1 rfl ?_)
  refine wpAny_pure ?_
  have hs := Heap.SameBut.update s.heap pg (Obj.mapSeq (·.push x))
  refine h _ (kas_fr F hs hpm.2.1 hpm.2.2) ?_
  rw [hg]
  exact news_set N h1 h2 hs (by rw [Heap.get?_update_self _ hpm.1 (by rw [mapSeq_push]; rfl), mapSeq_push])
end
end
section
section
variable {M : Model} {A : Around} {E : Value → Shared → Prop} {s : Shared} {h₀ : Heap} {L a c P : Addr} {m mg mb : Str → Option Value} {cn : Str} {cs : Scope} {ccd : Value} {cl : List (Str × Addr)} {news tl : List (Addr × Obj)} {g : Obj → List (Addr × Obj)}
  {p : Program} {loose : List Str} {mean : ExcName → Option Value} {name qual : Str} {params : Arguments} {body : Expr} {scope : Scope} {ps : Array Value} {pos : Pos} {firstLine : Nat} {clos : List (Str × Addr)}
/-- the table of the code: bare, or with the one inner code -/
noncomputable def LamTab (qual : Str) (pos : Pos) (tl : List (Addr × Obj)) (ps : Array Value) : Prop :=
  ps = #[] ∨ ∃ c' oc vs t, ps = #[rawInt pos.line, rawInt pos.col, .ref c'] ∧ (c', oc) ∈ tl ∧ oc.data = .fields vs ∧ vs[1]? = some (.str qual t)
theorem lam_any {Q : Value → Shared → Prop} (D : List Nat) (F : Fr h₀ L s.heap m) (N : News h₀ L s.heap news) (T : Top p loose mean mg mb h₀) (C : CodeHd h₀ c P) (hcd : ccd = .ref c) (U : UpdF P (tabObj ps) news g) (hm : (P, tabObj ps) ∈ news) (hg : ∀ x ∈ g (tabObj ps), x ∈ news) (hp : LamTab qual pos tl ps)
    (htl : ∀ q ∈ tl, q ∈ news) (hD : ∀ d ∈ D, ∀ q ∈ tl, q.1 ≠ d) (hDn : ∀ d ∈ D, ∃ q ∈ news, q.1 = d)
    (hcl : closureFor scope (envX cn cs L a ccd cl) = pure clos)
    (h : ∀ f c' oc vs t ctv h' tk, Fr h₀ L h' m →
      News h₀ L h' ((f, kla_obj name qual params body scope clos ((mg "__name__").getD .none) c' ctv) :: (c', oc) :: g (tabObj #[rawInt pos.line, rawInt pos.col, .ref c'])) →
      oc.data = .fields vs → vs[1]? = some (.str qual t) → (∀ d ∈ D, @Ne Nat d c') → (∀ q ∈ news, q.1 < f) → @LT.lt Nat _ c' f → Q (.ref f) { s with heap := h', toks := tk }) :
    wpAny M A (makeFunction name qual params (.expr body) scope (envX cn cs L a ccd cl) [] [] [] pos firstLine) Q E s := by
  rcases hp with rfl | ⟨c', oc, vs, t, rfl, hc, hd, hv⟩
  · refine kla_nest F N T C hcd U trivial rfl hcl fun f c' oc vs t ctv h' tk F' N' hd hv l1 l2 => h f c' oc vs t ctv h' tk F' ?_ hd hv (fun d hd => ?_) (fun q hq => Nat.lt_trans (l1 q hq) l2) l2
    · rw [Array.empty_append] at N'; exact N'
    · (refine e1a2 (hDn d hd) fun q hq y3_ => ?_; obtain rfl := y3_)
      exact Nat.ne_of_lt (l1 q hq)
  · refine kla_hit (c' := c') F N T C hcd hm (by simp [TriplesOk, rawInt]) (by simp [codeAmong, rawInt]) hcl fun f ctv h' tk F' N' l1 => h f c' oc vs t ctv h' tk F' (fun x hx => ?_) hd hv (fun d hdd e => hD d hdd _ hc e.symm) l1 (l1 _ (htl _ hc))
    rcases List.mem_cons.mp hx with rfl | hx
    · exact N' _ (.head _)
    · rcases List.mem_cons.mp hx with rfl | hx
      · exact N' _ (.tail _ (htl _ hc))
      · exact N' _ (.tail _ (hg x hx))
end
section
variable {M : Model} {A : Around} {E : Value → Shared → Prop} {s : Shared} {h₀ : Heap} {L a c P : Addr} {m mg mb : Str → Option Value} {cn : Str} {cs : Scope} {ccd : Value} {cl : List (Str × Addr)} {news tl : List (Addr × Obj)} {g : Obj → List (Addr × Obj)}
  {p : Program} {loose : List Str} {mean : ExcName → Option Value} {qual : Str} {params : Arguments} {body : Expr} {scope : Scope} {ps : Array Value} {pos : Pos} {clos : List (Str × Addr)}
theorem lam_eval {Q : Value → Shared → Prop} (D : List Nat) (hp : LamTab qual pos tl ps) (hq : (envX cn cs L a ccd cl).qual ++ Str.ofString "<lambda>" = qual) (hdef : defaultsOf params (envX cn cs L a ccd cl) = ([], [])) (F : Fr h₀ L s.heap m) (N : News h₀ L s.heap news) (T : Top p loose mean mg mb h₀) (C : CodeHd h₀ c P) (hcd : ccd = .ref c) (U : UpdF P (tabObj ps) news g) (hm : (P, tabObj ps) ∈ news) (hg : ∀ x ∈ g (tabObj ps), x ∈ news)
    (htl : ∀ q ∈ tl, q ∈ news) (hD : ∀ d ∈ D, ∀ q ∈ tl, q.1 ≠ d) (hDn : ∀ d ∈ D, ∃ q ∈ news, q.1 = d)
    (hcl : closureFor scope (envX cn cs L a ccd cl) = pure clos)
    (h : ∀ f c' oc vs t ctv h' tk, Fr h₀ L h' m →
      News h₀ L h' ((f, kla_obj (Str.ofString "<lambda>") qual params body scope clos ((mg (Str.ofString "__name__")).getD .none) c' ctv) :: (c', oc) :: g (tabObj #[rawInt pos.line, rawInt pos.col, .ref c'])) →
      oc.data = .fields vs → vs[1]? = some (.str qual t) → (∀ d ∈ D, @Ne Nat d c') → (∀ q ∈ news, q.1 < f) → @LT.lt Nat _ c' f → Q (.ref f) { s with heap := h', toks := tk }) :
    wpAny M A (eval (.Lambda params body scope pos) (envX cn cs L a ccd cl)) Q E s := by
  refine kla_eval hdef ?_
  rw [show (envX cn cs L a ccd cl).qual ++ Str.ofString "<lambda>" = qual from hq]
  exact lam_any D F N T C hcd U hm hg hp htl hD hDn hcl h
end
end
section
open PySem.MeetsSeq
section
noncomputable def klt2 (x1 y1 x2 y2 : Str) : Bool := if x1 = x2 then decide (y1.cps.toList < y2.cps.toList) else decide (x1.cps.toList < x2.cps.toList)
theorem rich_lt_str {prog : Program} {w : World} {A : Around} {E : Value → Shared → Prop} {s : Shared} {x y : Str} {t u : Tok} {Q : Value → Shared → Prop} (h : Q (.bool (decide (x.cps.toList < y.cps.toList))) s) : wpAny (model prog w) A (richCompare .Lt (.str x t) (.str y u)) Q E s :=
  wpAny_richCompare_same (typeIs_str s x t) (typeIs_str s y u) slot_str_lt (call_str_lt ⟨(by intro e; cases e), h⟩)
section
variable (l b : Addr) (x1 y1 x2 y2 : Str) (t1 t2 t3 t4 : Tok) (n n2 : Nat) (I1 I2 : Array Value)
noncomputable abbrev Spec2 (r : Bool) : Around → (Result → Shared → Prop) → Shared → Prop := fun _ R s => s.heap.get? l = some { cls := .type "list", dict := none, data := .seq I1 n, slots := #[] } ∧ s.heap.get? b = some { cls := .type "list", dict := none, data := .seq I2 n2, slots := #[] } ∧ R (.ok (.ret (.bool r))) s
theorem lt_loop_2 (z1 : I1.size = 2) (z2 : I2.size = 2) : Meets (Builtin.«list.__eq__.loop» ⟨[.ref l, .ref b, rawInt 2, rawInt 0], []⟩) (Spec2 l b n n2 I1 I2 false) := by
  intro prog w A R s h
  obtain ⟨hp, g, d, tk, os⟩ := s; (refine an3 h ?_; clear h; refine fun hl hb h => ?_)
  wp_walk using PySem.AutoSeq1.wpAny_loadPart' hl, PySem.AutoSeq1.wpAny_loadPart' hb
  have hi1 : I1[Int.toNat 2]? = none := Array.getElem?_eq_none (by rw [z1]; decide)
  have hi2 : I2[Int.toNat 2]? = none := Array.getElem?_eq_none (by rw [z2]; decide)
  rw [hi1, hi2]
  wp_walk using PySem.AutoSeq1.wpAny_loadPart' hl, PySem.AutoSeq1.wpAny_loadPart' hb
  show R (.ok (.ret (.bool (decide (I1.size < I2.size))))) _
  rw [z1, z2]
  exact h
theorem lt_loop_1 (z1 : I1.size = 2) (z2 : I2.size = 2) (hi1 : I1[Int.toNat 1]? = some (.str y1 t2)) (hi2 : I2[Int.toNat 1]? = some (.str y2 t4)) : Meets (Builtin.«list.__eq__.loop» ⟨[.ref l, .ref b, rawInt 1, rawInt 0], []⟩) (Spec2 l b n n2 I1 I2 (decide (y1.cps.toList < y2.cps.toList))) := by
  intro prog w A R s h
  obtain ⟨hp, g, d, tk, os⟩ := s; (refine an3 h ?_; clear h; refine fun hl hb h => ?_)
  wp_walk using PySem.AutoSeq1.wpAny_loadPart' hl, PySem.AutoSeq1.wpAny_loadPart' hb
  rw [hi1, hi2]
  refine wpAny_bind (wpAny_eqBool_str ?_)
  cases hq : decide (y1 = y2) with
  | true =>
    wp_walk
    refine ⟨plainId_quiet MeetsSeq3.plain_eq_loop _, codeAny_builtin MeetsSeq3.entry_eq_loop ?_⟩
    rw [Around.under_plainId MeetsSeq3.plain_eq_loop _]
    refine lt_loop_2 l b n n2 I1 I2 z1 z2 prog w A R _ ⟨hl, hb, ?_⟩
    have e : decide (y1.cps.toList < y2.cps.toList) = false := by rw [of_decide_eq_true hq]; exact decide_eq_false (List.lt_irrefl _)
    rw [← e]; exact h
  | false =>
    wp_walk using PySem.AutoSeq1.wpAny_loadPart' hl, PySem.AutoSeq1.wpAny_loadPart' hb
    rw [hi1, hi2]
    refine wpAny_bind (rich_lt_str ?_)
    exact wpAny_pure h
theorem lt_loop_0 (z1 : I1.size = 2) (z2 : I2.size = 2) (hi1 : I1[Int.toNat 1]? = some (.str y1 t2)) (hi2 : I2[Int.toNat 1]? = some (.str y2 t4)) (hj1 : I1[Int.toNat 0]? = some (.str x1 t1)) (hj2 : I2[Int.toNat 0]? = some (.str x2 t3)) : Meets (Builtin.«list.__eq__.loop» ⟨[.ref l, .ref b, rawInt 0, rawInt 0], []⟩) (Spec2 l b n n2 I1 I2 (klt2 x1 y1 x2 y2)) := by
  intro prog w A R s h
  obtain ⟨hp, g, d, tk, os⟩ := s; (refine an3 h ?_; clear h; refine fun hl hb h => ?_)
  wp_walk using PySem.AutoSeq1.wpAny_loadPart' hl, PySem.AutoSeq1.wpAny_loadPart' hb
  rw [hj1, hj2]
  refine wpAny_bind (wpAny_eqBool_str ?_)
  cases hq : decide (x1 = x2) with
  | true =>
    wp_walk
    refine ⟨plainId_quiet MeetsSeq3.plain_eq_loop _, codeAny_builtin MeetsSeq3.entry_eq_loop ?_⟩
    rw [Around.under_plainId MeetsSeq3.plain_eq_loop _]
    refine lt_loop_1 l b y1 y2 t2 t4 n n2 I1 I2 z1 z2 hi1 hi2 prog w A R _ ⟨hl, hb, ?_⟩
    rw [klt2, if_pos (of_decide_eq_true hq)] at h; exact h
  | false =>
    wp_walk using PySem.AutoSeq1.wpAny_loadPart' hl, PySem.AutoSeq1.wpAny_loadPart' hb
    rw [hj1, hj2]
    refine wpAny_bind (rich_lt_str ?_)
    rw [klt2, if_neg (of_decide_eq_false hq)] at h
    exact wpAny_pure h
theorem list_lt2 (z1 : I1.size = 2) (z2 : I2.size = 2) (hi1 : I1[Int.toNat 1]? = some (.str y1 t2)) (hi2 : I2[Int.toNat 1]? = some (.str y2 t4)) (hj1 : I1[Int.toNat 0]? = some (.str x1 t1)) (hj2 : I2[Int.toNat 0]? = some (.str x2 t3)) :
    Meets (Builtin.«list.__lt__» ⟨[.ref l, .ref b], []⟩) (Spec2 l b n n2 I1 I2 (klt2 x1 y1 x2 y2)) := by
  intro prog w A R s h
  obtain ⟨hp, g, d, tk, os⟩ := s; (refine an3 h ?_; clear h; refine fun hl hb h => ?_)
  have f3 := AutoSeq1.sub_list_list
  wp_walk using PySem.AutoSeq1.wpAny_loadPart' hl, PySem.AutoSeq1.wpAny_loadPart' hb
  refine ⟨plainId_quiet MeetsSeq3.plain_eq_loop _, codeAny_builtin MeetsSeq3.entry_eq_loop ?_⟩
  rw [Around.under_plainId MeetsSeq3.plain_eq_loop _]
  exact lt_loop_0 l b x1 y1 x2 y2 t1 t2 t3 t4 n n2 I1 I2 z1 z2 hi1 hi2 hj1 hj2 prog w A R _ ⟨hl, hb, h⟩
end
theorem keyLt2 {prog : Program} {w : World} {A : Around} {E : Value → Shared → Prop} {s : Shared} {h₀ : Heap} {L : Addr} {news : List (Addr × Obj)} {l b : Addr} {x1 y1 x2 y2 : Str} {t1 t2 t3 t4 : Tok} {n n2 : Nat} {Q : Bool → Shared → Prop} (hu : A.units < cLine) (N : News h₀ L s.heap news)
    (h1 : (l, listOf #[.str x1 t1, .str y1 t2] n) ∈ news) (h2 : (b, listOf #[.str x2 t3, .str y2 t4] n2) ∈ news) (h : Q (klt2 x1 y1 x2 y2) s) : wpAny (model prog w) A (keyLt' oneType' (.ref l) (.ref b)) Q E s := by
  rw [keyLt'_oneType, oneLt'_eq]
  first | refine ifp (by decide) ?_ | simp only [if_true]
  refine wpAny_bind (wpAny_cRoomFor hu ?_)
  have hT : s.TypeIs (.ref l) "list" := ⟨_, (N _ h1).1, rfl⟩
  refine wpAny_bind (wpAny_callSpecialIfBound?_slot hT F.slot_list_lt (call_meets F.slot_list_lt hT F.entry_list_lt (F.args_list_lt_2 _ _) (list_lt2 l b x1 y1 x2 y2 t1 t2 t3 t4 n n2 _ _ rfl rfl rfl rfl rfl rfl) ⟨(N _ h1).1, (N _ h2).1, ?_⟩))
  exact wpAny_truthy_bool h
end
end
section
noncomputable def kasEval {α : Type} (lt : Nat → Nat → Bool) : PySem.W.KasT α → α
  | .ret a => a
  | .ask i j k => kasEval lt (k (lt i j))
noncomputable def kasIn {α : Type} (n : Nat) (lt : Nat → Nat → Bool) : PySem.W.KasT α → Bool
  | .ret _ => true
  | .ask i j k => decide (i < n) && decide (j < n) && kasIn n lt (k (lt i j))
theorem kas_pure {α : Type} {cmp : Nat → Nat → (Bool → Shared → Prop) → Shared → Prop} {n : Nat} {lt : Nat → Nat → Bool} {Inv : Shared → Prop} {Q : α → Shared → Prop}
    (hcmp : ∀ i j, i < n → j < n → ∀ (C : Bool → Shared → Prop) s, Inv s → (∀ s', Inv s' → C (lt i j) s') → cmp i j C s)
    (t : PySem.W.KasT α) : ∀ (s : Shared), Inv s → kasIn n lt t = true → (∀ s', Inv s' → Q (kasEval lt t) s') → t.kasWp cmp Q s := by
  induction t with
  | ret a => exact fun s hs _ h => h s hs
  | ask i j k ih =>
    intro s hs hin h
    have hin : (decide (i < n) && decide (j < n) && kasIn n lt (k (lt i j))) = true := hin
    simp only [Bool.and_eq_true, decide_eq_true_eq] at hin
    exact hcmp i j hin.1.1 hin.1.2 _ s hs fun s' hs' => ih (lt i j) s' hs' hin.2 h
noncomputable def vecs (m : Nat) : Nat → List (List Nat)
  | 0 => [[]]
  | n + 1 => (vecs m n).flatMap fun v => (List.range m).map fun a => a :: v
theorem vecs_mem {m n : Nat} : ∀ {v : List Nat}, v.length = n → (∀ a ∈ v, a < m) → v ∈ vecs m n := by
  induction n with
  | zero =>
    intro v h _
    rw [List.eq_nil_of_length_eq_zero h]; exact .head _
  | succ n ih =>
    intro v h hv
    cases v with
    | nil => exact nomatch h
    | cons a v => exact List.mem_flatMap.mpr ⟨v, ih (Nat.succ.inj h) fun b hb => hv b (.tail _ hb), List.mem_map.mpr ⟨a, List.mem_range.mpr (hv a (.head _)), rfl⟩⟩
noncomputable def rlt (r : List Nat) (i j : Nat) : Bool := Nat.blt (r.getD i 0) (r.getD j 0)
noncomputable def sortedB (r : List Nat) : List Nat → Bool
  | [] => true
  | a :: l => l.all (fun b => !rlt r b a) && sortedB r l
noncomputable def okSort (n : Nat) (r : List Nat) : Bool := kasIn n (rlt r) (kas_sort n) && ((kasEval (rlt r) (kas_sort n)).toList.isPerm (List.range n) && sortedB r (kasEval (rlt r) (kas_sort n)).toList)
noncomputable def cnt (n : Nat) (lt : Nat → Nat → Bool) (i : Nat) : Nat := ((List.range n).filter fun j => lt j i).length
noncomputable def cntL (a : Nat) : List Nat → Nat
  | [] => 0
  | b :: l => bif Nat.blt b a then cntL a l + 1 else cntL a l
noncomputable def normL (r : List Nat) : List Nat → Bool
  | [] => true
  | a :: l => bif Nat.beq a (cntL a r) then normL r l else false
noncomputable def normal (r : List Nat) : Bool := normL r r
noncomputable def chk (n : Nat) : List (List Nat) → Bool
  | [] => true
  | r :: l => bif normal r then (bif okSort n r then chk n l else false) else chk n l
theorem ok2 : chk 2 (vecs 2 2) = true := by decide +kernel
theorem ok3 : chk 3 (vecs 3 3) = true := by decide +kernel
theorem ok4 : chk 4 (vecs 4 4) = true := by decide +kernel
theorem ok5 : chk 5 (vecs 5 5) = true := by decide +kernel
theorem chk_mem {n : Nat} {l : List (List Nat)} : chk n l = true → ∀ r ∈ l, normal r = true → okSort n r = true := by
  induction l with
  | nil => exact fun _ _ hr => nomatch hr
  | cons x l ih =>
    intro h r hr hn
    have h : (bif normal x then (bif okSort n x then chk n l else false) else chk n l) = true := h
    have hx : (normal x = true → okSort n x = true) ∧ chk n l = true := by
      cases h1 : normal x
      · rw [h1] at h; exact ⟨fun e => (by cases e), h⟩
      · rw [h1] at h
        cases h2 : okSort n x
        · rw [h2] at h; cases h
        · rw [h2] at h; exact ⟨fun _ => rfl, h⟩
    rcases List.mem_cons.mp hr with rfl | hr
    · exact hx.1 hn
    · exact ih hx.2 r hr hn
theorem le_cs {P : Nat → Prop} {n k : Nat} (h : n ≤ k + 1) (e : P (k + 1)) (f : n ≤ k → P n) : P n := (Nat.lt_or_eq_of_le h).elim (fun h => f (Nat.le_of_lt_succ h)) (fun h => h ▸ e)
theorem okN {n : Nat} (h2 : 2 ≤ n) (h5 : n ≤ 5) {r : List Nat} (hr : r.length = n) (hb : ∀ a ∈ r, a < n) (hn : normal r = true) : okSort n r = true :=
  chk_mem (le_cs (P := fun n => chk n (vecs n n) = true) h5 ok5 fun h => le_cs (P := fun n => chk n (vecs n n) = true) h ok4 fun h => le_cs (P := fun n => chk n (vecs n n) = true) h ok3 fun h => le_cs (P := fun n => chk n (vecs n n) = true) h ok2 fun h => absurd h2 (Nat.not_le.mpr (Nat.lt_succ_of_le h))) r (vecs_mem hr hb) hn
theorem kas_agree {α : Type} {n : Nat} {lt lt' : Nat → Nat → Bool} (h : ∀ i j, i < n → j < n → lt i j = lt' i j) (t : PySem.W.KasT α) : kasIn n lt' t = true → kasIn n lt t = true ∧ kasEval lt t = kasEval lt' t := by
  induction t with
  | ret a => exact fun _ => ⟨rfl, rfl⟩
  | ask i j k ih =>
    intro hin
    have hin : (decide (i < n) && decide (j < n) && kasIn n lt' (k (lt' i j))) = true := hin
    simp only [Bool.and_eq_true, decide_eq_true_eq] at hin
    have := ih (lt' i j) hin.2
    show (decide (i < n) && decide (j < n) && kasIn n lt (k (lt i j))) = true ∧ kasEval lt (k (lt i j)) = kasEval lt' (k (lt' i j))
    rw [h i j hin.1.1 hin.1.2]
    simp only [Bool.and_eq_true, decide_eq_true_eq]
    exact ⟨⟨hin.1, this.1⟩, this.2⟩
/-- a strict weak order on the first n -/
structure SWO (n : Nat) (lt : Nat → Nat → Bool) : Prop where
  irr : ∀ i, i < n → lt i i = false
  tr : ∀ i j k, i < n → j < n → k < n → lt i j = true → lt j k = true → lt i k = true
  ng : ∀ i j k, i < n → j < n → k < n → lt i j = false → lt j k = false → lt i k = false
theorem filter_len {α : Type} {p q : α → Bool} {l : List α} (h : ∀ a ∈ l, p a = true → q a = true) : (l.filter p).length ≤ (l.filter q).length := by
  rw [← List.countP_eq_length_filter, ← List.countP_eq_length_filter]; exact List.countP_mono_left h
theorem filter_len_lt {α : Type} {p q : α → Bool} {x : α} {l : List α} (hx : x ∈ l) (hp : p x = false) (hq : q x = true) (h : ∀ a ∈ l, p a = true → q a = true) : (l.filter p).length < (l.filter q).length := by
  rw [← List.countP_eq_length_filter, ← List.countP_eq_length_filter]
  induction l with
  | nil => exact nomatch hx
  | cons a l ih =>
    rcases List.mem_cons.mp hx with rfl | hx
    · rw [List.countP_cons_of_neg (Bool.eq_false_iff.mp hp), List.countP_cons_of_pos hq]
      exact Nat.lt_succ_of_le (List.countP_mono_left fun b hb => h b (.tail _ hb))
    · have ih := ih hx fun b hb => h b (.tail _ hb)
      cases hpa : p a
      · rw [List.countP_cons_of_neg (Bool.eq_false_iff.mp hpa)]
        exact Nat.lt_of_lt_of_le ih (List.sublist_cons_self a l).countP_le
      · rw [List.countP_cons_of_pos hpa, List.countP_cons_of_pos (h a (.head _) hpa)]
        exact Nat.succ_lt_succ ih
theorem cnt_lt {n : Nat} {lt : Nat → Nat → Bool} (o : SWO n lt) {i j : Nat} (hi : i < n) (hj : j < n) : lt i j = decide (cnt n lt i < cnt n lt j) := by
  cases h : lt i j
  · have : cnt n lt j ≤ cnt n lt i := filter_len fun k hk hkj => by
      have hk' := List.mem_range.mp hk
      cases hki : lt k i
      · rw [o.ng k i j hk' hi hj hki h] at hkj; cases hkj
      · rfl
    rw [decide_eq_false (by k_room)]
  · have : cnt n lt i < cnt n lt j := filter_len_lt (x := i) (List.mem_range.mpr hi) (o.irr i hi) h fun k hk hki => o.tr k i j (List.mem_range.mp hk) hi hj hki h
    rw [decide_eq_true this]
theorem cnt_bound {n : Nat} {lt : Nat → Nat → Bool} (o : SWO n lt) {i : Nat} (hi : i < n) : cnt n lt i < n := by
  have := filter_len_lt (p := fun j => lt j i) (q := fun _ => true) (x := i) (l := List.range n) (List.mem_range.mpr hi) (o.irr i hi) rfl fun _ _ _ => rfl
  rw [show ((List.range n).filter fun _ => true) = List.range n from List.filter_eq_self.mpr fun _ _ => rfl, List.length_range] at this
  exact this
theorem sortedB_pw {r l : List Nat} : sortedB r l = true → l.Pairwise fun a b => rlt r b a = false := by
  induction l with
  | nil => exact fun _ => .nil
  | cons a l ih =>
    intro h
    have h : (l.all (fun b => !rlt r b a) && sortedB r l) = true := h
    rw [Bool.and_eq_true, List.all_eq_true] at h
    exact .cons (fun b hb => by simpa using h.1 b hb) (ih h.2)
theorem sort_pure {n : Nat} (h2 : 2 ≤ n) (h5 : n ≤ 5) {lt : Nat → Nat → Bool} (o : SWO n lt) :
    kasIn n lt (kas_sort n) = true ∧ (kasEval lt (kas_sort n)).toList.Perm (List.range n) ∧ (kasEval lt (kas_sort n)).toList.Pairwise fun a b => lt b a = false := by
  refine hide ((List.range n).map (cnt n lt)) fun r hr => ?_
  have hg : ∀ i, i < n → r.getD i 0 = cnt n lt i := fun i hi => by rw [hr]; simp [hi]
  have ag : ∀ i j, i < n → j < n → lt i j = rlt r i j := fun i j hi hj => by
    rw [cnt_lt o hi hj]; unfold rlt; rw [hg i hi, hg j hj]
    cases h : Nat.blt (cnt n lt i) (cnt n lt j)
    · exact decide_eq_false fun h' => nomatch (Nat.ble_eq.mpr h').symm.trans h
    · exact decide_eq_true (Nat.le_of_ble_eq_true h)
  have hok := okN h2 h5 (r := r) (by rw [hr]; simp) (fun a ha => by
    rw [hr] at ha
    (refine e1a2 (List.mem_map.mp ha) fun i hi y3_ => ?_; obtain rfl := y3_)
    exact cnt_bound o (List.mem_range.mp hi)) (by
    have hcL : ∀ i, i < n → cntL (cnt n lt i) r = cnt n lt i := fun i hi => by
      have gen : ∀ l : List Nat, (∀ j ∈ l, j < n) → cntL (cnt n lt i) (l.map (cnt n lt)) = (l.filter fun j => lt j i).length := by
        intro l
        induction l with
        | nil => intro _; rfl
        | cons b l ih =>
          intro hl
          have ih := ih fun j hj => hl j (.tail _ hj)
          have e := cnt_lt o (hl b (.head _)) hi
          rw [List.map_cons, show ∀ a b l, cntL a (b :: l) = (bif Nat.blt b a then cntL a l + 1 else cntL a l) from fun _ _ _ => rfl, List.filter_cons, ih]
          cases h : Nat.blt (cnt n lt b) (cnt n lt i)
          · have : lt b i = false := by rw [e]; exact decide_eq_false fun h' => nomatch (Nat.ble_eq.mpr h').symm.trans h
            rw [this]; rfl
          · have : lt b i = true := by rw [e]; exact decide_eq_true (Nat.le_of_ble_eq_true h)
            rw [this]; rfl
      rw [hr]; exact gen (List.range n) fun j hj => List.mem_range.mp hj
    have gen2 : ∀ l : List Nat, (∀ a ∈ l, a ∈ r) → normL r l = true := by
      intro l
      induction l with
      | nil => intro _; rfl
      | cons a l ih =>
        intro hl
        have ha := hl a (.head _)
        rw [hr] at ha
        (refine e1a2 (List.mem_map.mp ha) fun i hi y3_ => ?_; obtain rfl := y3_)
        show (bif Nat.beq (cnt n lt i) (cntL (cnt n lt i) r) then normL r l else false) = true
        rw [hcL i (List.mem_range.mp hi), Nat.beq_refl]
        exact ih fun b hb => hl b (.tail _ hb)
    exact gen2 r fun _ h => h)
  unfold okSort at hok
  simp only [Bool.and_eq_true] at hok
  (refine an2 (kas_agree ag (kas_sort n) hok.1) fun a b => ?_)
  have hp : (kasEval lt (kas_sort n)).toList.Perm (List.range n) := by rw [b]; exact List.isPerm_iff.mp hok.2.1
  refine ⟨a, hp, ?_⟩
  have hs := sortedB_pw hok.2.2
  rw [← b] at hs
  refine hs.imp_of_mem fun {x y} hx hy h => ?_
  rw [ag y x (List.mem_range.mp (hp.mem_iff.mp hy)) (List.mem_range.mp (hp.mem_iff.mp hx))]
  exact h
end
section
section
theorem klt2_irr (x y : Str) : klt2 x y x y = false := by unfold klt2; rw [if_pos rfl]; exact decide_eq_false (List.lt_irrefl _)
theorem str_eq_of {x y : Str} (h1 : ¬ x.cps.toList < y.cps.toList) (h2 : ¬ y.cps.toList < x.cps.toList) : x = y := by
  have h : x.cps.toList = y.cps.toList := List.le_antisymm (show x.cps.toList ≤ y.cps.toList from h2) (show y.cps.toList ≤ x.cps.toList from h1)
  have h' := Array.toList_inj.mp h
  cases x; cases y; simp only at h'; rw [h']
theorem klt2_tr {a b c d e f : Str} (h1 : klt2 a b c d = true) (h2 : klt2 c d e f = true) : klt2 a b e f = true := by
  unfold klt2 at *
  by_cases q1 : a = c
  · subst q1
    by_cases q2 : a = e
    · subst q2
      simp only [if_true, decide_eq_true_eq] at *
      exact List.lt_trans h1 h2
    · simp only [if_neg q2, if_true] at *; exact h2
  · by_cases q2 : c = e
    · subst q2; simp only [if_neg q1, if_true] at *; exact h1
    · simp only [if_neg q1, if_neg q2, decide_eq_true_eq] at *
      have := List.lt_trans h1 h2
      rw [if_neg (by rintro rfl; exact List.lt_irrefl _ this)]
      exact decide_eq_true this
theorem klt2_ng {a b c d e f : Str} (h1 : klt2 a b c d = false) (h2 : klt2 c d e f = false) : klt2 a b e f = false := by
  unfold klt2 at *
  by_cases q1 : a = c
  · subst q1
    by_cases q2 : a = e
    · subst q2
      simp only [if_true, decide_eq_false_iff_not] at *
      exact fun h => h2 (by
        rcases Classical.em (d.cps.toList < b.cps.toList) with q | q
        · exact List.lt_trans q h
        · rw [← str_eq_of h1 q]; exact h)
    · simp only [if_neg q2, if_true] at *; exact h2
  · by_cases q2 : c = e
    · subst q2; simp only [if_neg q1, if_true] at *; exact h1
    · simp only [if_neg q1, if_neg q2, decide_eq_false_iff_not] at *
      have lt1 : c.cps.toList < a.cps.toList := Classical.byContradiction fun q => q1 (str_eq_of h1 q)
      have lt2 : e.cps.toList < c.cps.toList := Classical.byContradiction fun q => q2 (str_eq_of h2 q)
      have lt3 := List.lt_trans lt2 lt1
      rw [if_neg (by rintro rfl; exact List.lt_irrefl _ lt3)]
      exact decide_eq_false fun h => List.lt_irrefl _ (List.lt_trans h lt3)
theorem swo_klt {n : Nat} (f g : Nat → Str) : SWO n (fun i j => klt2 (f i) (g i) (f j) (g j)) :=
  ⟨fun i _ => klt2_irr _ _, fun i j k _ _ _ h1 h2 => klt2_tr h1 h2, fun i j k _ _ _ h1 h2 => klt2_ng h1 h2⟩
end
section
variable {prog : Program} {w : World} {A : Around} {E : Value → Shared → Prop} {s : Shared} {h₀ : Heap} {L : Addr} {m : Str → Option Value} {news : List (Addr × Obj)}
/-- what the key's function gives for a name -/
noncomputable abbrev KeyCall (prog : Program) (w : World) (A : Around) (h₀ : Heap) (L : Addr) (m : Str → Option Value) (news : List (Addr × Obj)) (f : Value) (names : List Str) (ka kb : Str → Str) (s₀ : Shared) : Prop :=
  ∀ (k : Str) (t : Tok) own h tk, k ∈ names → Fr h₀ L h m → News h₀ L h (own ++ news) → wpAny (model prog w) A (call f [.str k t]) (fun v s' => ∃ h' tk' b a1 a2 n, v = .ref b ∧ s' = { s₀ with heap := h', toks := tk' } ∧ Fr h₀ L h' m ∧
    News h₀ L h' ((b, listOf #[.str (ka k) a1, .str (kb k) a2] n) :: (own ++ news)) ∧ ∀ p ∈ own ++ news, p.1 < b) (fun _ _ => False) { s₀ with heap := h, toks := tk }
/-- the keys that lie already -/
noncomputable def KeysAt (ka kb : Str → Str) (own : List (Addr × Obj)) (vs : List Value) (qs : List (Str × Tok)) : Prop := A2 (fun v q => ∃ b a1 a2 n, v = .ref b ∧ (b, listOf #[.str (ka q.1) a1, .str (kb q.1) a2] n) ∈ own) vs qs
theorem KeysAt.mono {ka kb : Str → Str} {own own' : List (Addr × Obj)} (h : ∀ p ∈ own, p ∈ own') {vs qs} (k : KeysAt ka kb own vs qs) : KeysAt ka kb own' vs qs := A2.mono (fun _ _ r => e4a2 r fun b a1 a2 n e m => exI4 b a1 a2 n ⟨e, h _ m⟩) k
theorem KeysAt.snoc {ka kb : Str → Str} {own : List (Addr × Obj)} {v : Value} {q : Str × Tok} (hv : ∃ b a1 a2 n, v = .ref b ∧ (b, listOf #[.str (ka q.1) a1, .str (kb q.1) a2] n) ∈ own) {vs qs} (k : KeysAt ka kb own vs qs) : KeysAt ka kb own (vs ++ [v]) (qs ++ [q]) := A2.snoc hv k
theorem KeysAt.len {ka kb : Str → Str} {own : List (Addr × Obj)} {vs qs} (k : KeysAt ka kb own vs qs) : vs.length = qs.length := A2.len k
theorem KeysAt.get {ka kb : Str → Str} {own : List (Addr × Obj)} {vs qs} (k : KeysAt ka kb own vs qs) (i : Nat) (hi : i < qs.length) : ∃ b a1 a2 n, vs.getD i Value.none = .ref b ∧ (b, listOf #[.str (ka (qs.getD i (Str.empty, 0)).1) a1, .str (kb (qs.getD i (Str.empty, 0)).1) a2] n) ∈ own := A2.nth k _ _ i hi
theorem keys_run {f : Value} {names : List Str} {ka kb : Str → Str} {kS D : Addr} {e1 : Nat} {Fin : List Value → Nat → Shared → Prop} {s₀ : Shared} {kt : List (Str × Tok)} (hc : KeyCall prog w A h₀ L m news f names ka kb s₀) (hkD : D < kS) (hDn : ∀ q ∈ news, q.1 < D)
    (fin : ∀ ks e own h tk, KeysAt ka kb own ks kt → (∀ p ∈ own, kS < p.1) → Fr h₀ L h m → News h₀ L h ((kS, seqObj "list" (List.toArray ks) e) :: (D, seqObj "list" #[] e1) :: (own ++ news)) → Fin ks e { s₀ with heap := h, toks := tk }) :
    ∀ (r done : List (Str × Tok)) (ks : List Value) (e : Nat) (own : List (Addr × Obj)) (h : Heap) (tk : Nat), done ++ r = kt → (∀ q ∈ r, q.1 ∈ names) → KeysAt ka kb own ks done → (∀ p ∈ own, kS < p.1) → Fr h₀ L h m → News h₀ L h ((kS, seqObj "list" (List.toArray ks) e) :: (D, seqObj "list" #[] e1) :: (own ++ news)) →
      KatKeys prog w A h₀ L m kS f Fin (r.map fun q => Value.str q.1 q.2) ks e { s₀ with heap := h, toks := tk }
  | [], done, ks, e, own, h, tk, hkt, _, hk, ho, F, N => KatKeys.nil (fin ks e own h tk (by rw [List.append_nil] at hkt; exact hkt ▸ hk) ho F N)
  | q :: r, done, ks, e, own, h, tk, hkt, hr, hk, ho, F, N => by
    refine KatKeys.cons (wpAny_mono (hc q.1 q.2 ((kS, seqObj "list" (List.toArray ks) e) :: (D, seqObj "list" #[] e1) :: own) h tk (hr q (.head _)) F N) (fun v s' hv => ?_) fun _ _ x => x)
    (refine e6a5 hv fun h' tk' b a1 a2 n y4_ y5_ F' N' hb => ?_; try clear hv; obtain rfl := y4_; obtain rfl := y5_)
    have hbS : kS < b := hb _ (.head _)
    refine KatBack.intro (g := fun o => (b, listOf #[.str (ka q.1) a1, .str (kb q.1) a2] n) :: (kS, o) :: (D, seqObj "list" #[] e1) :: (own ++ news)) F' N' (.tail (Nat.ne_of_gt hbS) (.head fun p hp => ?_)) fun h2 c F2 N2 => ?_
    · rcases List.mem_cons.mp hp with rfl | hp
      · exact Nat.ne_of_lt hkD
      · rcases List.mem_append.mp hp with hp | hp
        · exact Nat.ne_of_gt (ho p hp)
        · exact Nat.ne_of_lt (Nat.lt_trans (hDn p hp) hkD)
    · have ih := keys_run hc hkD hDn fin r (done ++ [q]) (ks ++ [.ref b]) c ((b, listOf #[.str (ka q.1) a1, .str (kb q.1) a2] n) :: own) h2 tk' (by rw [List.append_assoc]; exact hkt) (fun x hx => hr x (.tail _ hx)) ((hk.mono fun p hp => .tail _ hp).snoc ⟨b, a1, a2, n, rfl, .head _⟩)
        (fun p hp => by rcases List.mem_cons.mp hp with rfl | hp; exact hbS; exact ho p hp) F2 (fun p hp => N2 p (by
          simp only [List.mem_cons, List.mem_append, List.cons_append] at hp ⊢
          rcases hp with h | h | h | h
          · exact .inr (.inl h)
          · exact .inr (.inr (.inl h))
          · exact .inl h
          · exact .inr (.inr (.inr h))))
      exact ih
end
end
section
section
variable {prog : Program} {w : World} {A : Around} {E : Value → Shared → Prop} {s : Shared} {h₀ : Heap} {L : Addr} {m : Str → Option Value} {news : List (Addr × Obj)}
theorem setS_sorted_by {a : Addr} {o : Obj} {names : List Str} {f : Value} {kw : List (Str × Value)} {ka kb : Str → Str} {Q : Value → Shared → Prop} (hh : A.handled = none) (F : Fr h₀ L s.heap m) (N : News h₀ L s.heap news) (hm : (a, o) ∈ news) (hS : SetS prog w o names) (h2 : 2 ≤ names.length) (h5 : names.length ≤ 5)
    (ha1 : argsOk "sorted" ⟨[.ref a], kw⟩) (ha2 : ∀ x, argsOk "list.sort" ⟨[.ref x], kw⟩) (ht : ∀ x, Builtin.«list.sort» ⟨[.ref x], kw⟩ = ksk_tree x f false) (hu : A.in1.in1.units < cLine)
    (hc : ∀ tk dr, KeyCall prog w A.in1.in1 h₀ L m news f names ka kb { s with toks := tk, drawn := dr })
    (h : ∀ (kt : List (Str × Tok)) D n h' tk dr, (kt.map (·.1)).Perm names → kt.Pairwise (fun x y => klt2 (ka y.1) (kb y.1) (ka x.1) (kb x.1) = false) → Fr h₀ L h' m → News h₀ L h' ((D, listOf (kt.map fun q => Value.str q.1 q.2).toArray n) :: news) → (∀ q ∈ news, q.1 < D) →
      Q (.ref D) { s with heap := h', toks := tk, drawn := dr }) :
    wpAny (model prog w) A (call (.builtin "sorted") [.ref a] kw) Q E s := by
  refine setS_sortedK hh F N hm hS h2 (by k_room) ha1 ha2 ht fun kt D kS e1 h1 tk1 dr hp F1 N1 l0 l1 => ?_
  have hkl : kt.length = names.length := by have := hp.length_eq; rwa [List.length_map] at this
  refine keys_run (s₀ := { s with drawn := dr }) (kt := kt) (e1 := e1) (hc s.toks dr) l0 l1 ?_ kt [] [] 0 [] h1 tk1 rfl (fun q hq => hp.mem_iff.mp (List.mem_map_of_mem hq)) trivial (fun p hp => nomatch hp) F1 N1
  intro ks e own h2' tk2 hk ho F2 N2
  have hkk := hk.len
  refine kas_kind (T := .type "list") (by k_room) (fun v hv => ?_) rfl rfl ?_
  · (refine ex1 (List.mem_iff_getElem.mp hv) fun i w2_ => ex1 w2_ fun hi y3_ => ?_; clear w2_; obtain rfl := y3_)
    (refine e4a2 (hk.get i (by k_room)) fun b a1 a2 n e' hb => ?_)
    rw [List.getD_eq_getElem?_getD, List.getElem?_eq_getElem hi, Option.getD_some] at e'
    rw [e']
    exact (Looks.ld (N2 _ (.tail _ (.tail _ (List.mem_append_left _ hb)))).1).andThen .now
  · (refine an3 (sort_pure (n := kt.length) (by k_room) (by k_room) (swo_klt (fun i => ka (kt.getD i (Str.empty, 0)).1) (fun i => kb (kt.getD i (Str.empty, 0)).1))) fun hin hpm hpw => ?_)
    refine kas_pure (n := kt.length) (lt := fun i j => klt2 (ka (kt.getD i (Str.empty, 0)).1) (kb (kt.getD i (Str.empty, 0)).1) (ka (kt.getD j (Str.empty, 0)).1) (kb (kt.getD j (Str.empty, 0)).1)) (Inv := fun s' => s' = { s with heap := h2', toks := tk2, drawn := dr }) ?_ _ _ rfl hin ?_
    · intro i j hi hj C s' hs' hC
      subst hs'
      (refine e4a2 (hk.get i hi) fun b1 x1 x2 n1 e1' m1 => ?_)
      (refine e4a2 (hk.get j hj) fun b2 y1 y2 n2 e2' m2 => ?_)
      show wpAny _ _ (keyLt' _ _ _) _ _ _
      rw [e1', e2']
      exact keyLt2 hu N2 (.tail _ (.tail _ (List.mem_append_left _ m1))) (.tail _ (.tail _ (List.mem_append_left _ m2))) (hC _ rfl)
    · intro s' hs'
      subst hs'
      generalize kasEval _ (kas_sort kt.length) = p at hpm hpw
      have hout : (p.toList.map fun i => (kt.map fun q => Value.str q.1 q.2).getD i Value.none) = (p.toList.map fun i => kt.getD i (Str.empty, 0)).map fun q => Value.str q.1 q.2 := by
        rw [List.map_map]
        refine List.map_congr_left fun i hi => ?_
        have hi' : i < kt.length := List.mem_range.mp (hpm.mem_iff.mp hi)
        simp [hi']
      rw [hout]
      refine KatFin.intro (g := fun o => (kS, o) :: (D, seqObj "list" #[] e1) :: (own ++ news)) F2 N2 (.head fun q hq => ?_) fun h3 c3 F3 N3 => ?_
      · rcases List.mem_cons.mp hq with rfl | hq
        · exact Nat.ne_of_lt l0
        · rcases List.mem_append.mp hq with hq | hq
          · exact Nat.ne_of_gt (ho q hq)
          · exact Nat.ne_of_lt (Nat.lt_trans (l1 q hq) l0)
      · refine KasFin.intro (g := fun o => (kS, seqObj "list" #[] c3) :: (D, o) :: (own ++ news)) F3 N3 (.tail (Nat.ne_of_gt l0) (.head fun q hq => ?_)) fun h4 c4 F4 N4 => ?_
        · rcases List.mem_append.mp hq with hq | hq
          · exact Nat.ne_of_gt (Nat.lt_trans l0 (ho q hq))
          · exact Nat.ne_of_lt (l1 q hq)
        · refine h (p.toList.map fun i => kt.getD i (Str.empty, 0)) D c4 h4 tk2 dr ?_ ?_ F4 (fun q hq => ?_) l1
          · refine List.Perm.trans (List.Perm.map _ ?_) hp
            refine (hpm.map _).trans (List.Perm.of_eq ?_)
            refine List.ext_getElem (by simp) fun i h1 h2 => ?_
            simp at h1
            simp [h1]
          · rw [List.pairwise_map]
            exact hpw
          · rcases List.mem_cons.mp hq with rfl | hq
            · exact N4 _ (.tail _ (.head _))
            · exact N4 _ (.tail _ (.tail _ (List.mem_append_right _ hq)))
end
end
section
noncomputable abbrev tup2 (u : Str) (t1 : Tok) (p : Str) (t2 : Tok) : Obj := { cls := .type "tuple", data := .seq #[.str u t1, .str p t2] }
/-- the pairs that lie in a list of values -/
noncomputable def PairsAt (l : List (Addr × Obj)) (vs : List Value) (qs : List (Str × Str)) : Prop := A2 (fun v q => ∃ a t1 t2, v = .ref a ∧ (a, tup2 q.1 t1 q.2 t2) ∈ l) vs qs
theorem PairsAt.shrink {l l' : List (Addr × Obj)} (h : ∀ a u t1 p t2, (a, tup2 u t1 p t2) ∈ l → (a, tup2 u t1 p t2) ∈ l') {vs qs} (k : PairsAt l vs qs) : PairsAt l' vs qs := A2.mono (fun _ _ r => e3a2 r fun a t1 t2 e m => exI3 a t1 t2 ⟨e, h _ _ _ _ _ m⟩) k
theorem PairsAt.mono {l l' : List (Addr × Obj)} (h : ∀ p ∈ l, p ∈ l') {vs qs} (k : PairsAt l vs qs) : PairsAt l' vs qs := k.shrink fun _ _ _ _ _ m => h _ m
theorem PairsAt.app {l : List (Addr × Obj)} {vs qs us ps} (k : PairsAt l vs qs) (y : PairsAt l us ps) : PairsAt l (vs ++ us) (qs ++ ps) := A2.app k y
theorem PairsAt.len {l : List (Addr × Obj)} {vs qs} (k : PairsAt l vs qs) : vs.length = qs.length := A2.len k
noncomputable def look (u : Str) : List (Str × Str) → Option Str
  | [] => none
  | q :: qs => if q.1 = u then some q.2 else look u qs
theorem look_append {u : Str} {a b : List (Str × Str)} : look u a = none → look u (a ++ b) = look u b := by
  induction a with
  | nil => exact fun _ => rfl
  | cons q qs ih =>
    intro h
    have h : (if q.1 = u then some q.2 else look u qs) = none := h
    by_cases e : q.1 = u
    · rw [if_pos e] at h; cases h
    · rw [if_neg e] at h; exact (if_neg e).trans (ih h)
noncomputable def nP (i : Nat) : Str := Str.ofString "n" ++ Str.ofString (toString (i : Int))
noncomputable def xmlU : Str := Str.ofString "http://www.w3.org/XML/1998/namespace"
noncomputable def xmlP : Str := Str.ofString "xml"
theorem nP_len : ∀ i, i < 40 → 0 < (nP i).length ∧ (nP i).length ≤ 10 := by decide +kernel
theorem nP_nodup : (xmlP :: (List.range 40).map nP).Nodup := by decide +kernel
theorem xmlU_not : xmlU ∉ words := fun h => absurd (words_len _ h) (by decide +kernel)
theorem nodup_idx {α : Type} {l : List α} {i j : Nat} {x : α} (hn : l.Nodup) (h1 : l[i]? = some x) (h2 : l[j]? = some x) : i = j := (List.getElem?_inj (List.getElem?_eq_some_iff.mp h1).1 hn).mp (h1.trans h2.symm)
theorem nP_inj {i j : Nat} (hi : i < 40) (hj : j < 40) (h : nP i = nP j) : i = j := by
  have hn := (List.nodup_cons.mp nP_nodup).2
  refine nodup_idx (x := nP i) hn ?_ ?_
  · simp [hi]
  · rw [h]; simp [hj]
theorem nP_xml {i : Nat} (hi : i < 40) : nP i ≠ xmlP := fun e => (List.nodup_cons.mp nP_nodup).1 (List.mem_map.mpr ⟨i, List.mem_range.mpr hi, e⟩)
noncomputable def addK (known : List Str) (u : Str) : List Str := if u ∈ known then known else known ++ [u]
noncomputable def addT (tw lw : List Str) (u : Str) : List Str := if u ∈ tw ++ lw then tw else tw ++ [u]
noncomputable def idx (u : Str) : List Str → Nat
  | [] => 0
  | k :: ks => if k = u then 0 else idx u ks + 1
theorem idx_skip {u k : Str} {ks : List Str} (e : ¬ k = u) : idx u (k :: ks) = idx u ks + 1 := if_neg e
theorem mem_skip {u k : Str} {ks : List Str} (e : ¬ k = u) (h : u ∈ k :: ks) : u ∈ ks := (List.mem_cons.mp h).elim (fun q => absurd q.symm e) id
theorem idx_lt {u : Str} {ks : List Str} : u ∈ ks → idx u ks < ks.length := by
  induction ks with
  | nil => exact fun h => nomatch h
  | cons k ks ih =>
    intro h
    by_cases e : k = u
    · rw [show idx u (k :: ks) = 0 from if_pos e]; exact Nat.succ_pos _
    · rw [idx_skip e]; exact Nat.succ_lt_succ (ih (mem_skip e h))
theorem idx_app {u : Str} {r ks : List Str} : u ∈ ks → idx u (ks ++ r) = idx u ks := by
  induction ks with
  | nil => exact fun h => nomatch h
  | cons k ks ih =>
    intro h
    rw [List.cons_append]
    by_cases e : k = u
    · exact (if_pos e).trans (if_pos e).symm
    · rw [idx_skip e, idx_skip e, ih (mem_skip e h)]
theorem idx_new {u : Str} {ks : List Str} : u ∉ ks → idx u (ks ++ [u]) = ks.length := by
  induction ks with
  | nil => exact fun _ => if_pos rfl
  | cons k ks ih =>
    intro h
    rw [List.cons_append, idx_skip fun e => h (List.mem_cons.mpr (.inl e.symm)), ih fun q => h (.tail _ q)]; rfl
theorem idx_inj {u v : Str} {ks : List Str} : u ∈ ks → v ∈ ks → idx u ks = idx v ks → u = v := by
  induction ks with
  | nil => exact fun h => nomatch h
  | cons k ks ih =>
    intro hu hv h
    by_cases e1 : k = u
    · by_cases e2 : k = v
      · rw [← e1, e2]
      · rw [show idx u (k :: ks) = 0 from if_pos e1, idx_skip e2] at h; cases h
    · by_cases e2 : k = v
      · rw [idx_skip e1, show idx v (k :: ks) = 0 from if_pos e2] at h; cases h
      · rw [idx_skip e1, idx_skip e2] at h
        exact ih (mem_skip e1 hu) (mem_skip e2 hv) (Nat.succ.inj h)
noncomputable def nmK (known : List Str) (u : Str) : Str := nP (idx u known)
noncomputable def pairsOf (known ws : List Str) : List (Str × Str) := ws.map fun u => (u, nmK known u)
theorem addK_mem {known : List Str} {u : Str} : u ∈ addK known u := by unfold addK; split <;> simp_all
theorem addK_sub {known : List Str} {u x : Str} (h : x ∈ known) : x ∈ addK known u := by unfold addK; split <;> simp_all
theorem nmK_add {known : List Str} {u x : Str} (h : x ∈ known) : nmK (addK known u) x = nmK known x := by
  unfold nmK addK; split
  · rfl
  · rw [idx_app h]
theorem pairsOf_add {known ws : List Str} {u : Str} (h : ∀ x ∈ ws, x ∈ known) : pairsOf (addK known u) ws = pairsOf known ws :=
  List.map_congr_left fun x hx => by rw [nmK_add (h x hx)]
theorem nmK_new {known : List Str} {u : Str} (h : u ∉ known) : nmK (addK known u) u = nP known.length := by
  unfold nmK addK; rw [if_neg h, idx_new h]
theorem look_pairs_none {known ws : List Str} {u : Str} (h : u ∉ ws) : look u (pairsOf known ws) = none := by
  induction ws with
  | nil => rfl
  | cons x ws ih =>
    simp only [List.mem_cons, not_or] at h
    show (if x = u then _ else _) = _
    rw [if_neg (fun e => h.1 e.symm)]
    exact ih h.2
theorem look_pairs_some {known ws : List Str} {u : Str} {r : List (Str × Str)} (h : u ∈ ws) : look u (pairsOf known ws ++ r) = some (nmK known u) := by
  induction ws with
  | nil => simp at h
  | cons x ws ih =>
    show (if x = u then _ else _) = _
    by_cases e : x = u
    · rw [if_pos e, e]
    · rw [if_neg e]
      rcases List.mem_cons.mp h with e' | h'
      · exact absurd e'.symm e
      · exact ih h'
/-- the prefix map's pairs -/
noncomputable def KvAt : Nat → List (Str × Value) → List Str → Prop
  | _, [], [] => True
  | i, q :: qs, k :: ks => q.1 = k ∧ (∃ t : Tok, q.2 = Value.str (nP i) t) ∧ KvAt (i + 1) qs ks
  | _, _, _ => False
theorem KvAt.ind {P : Nat → List (Str × Value) → List Str → Prop} (n : ∀ i, P i [] []) (c : ∀ i q qs k ks, q.1 = k → (∃ t : Tok, q.2 = Value.str (nP i) t) → KvAt (i + 1) qs ks → P (i + 1) qs ks → P i (q :: qs) (k :: ks)) : ∀ {i kvs ks}, KvAt i kvs ks → P i kvs ks
  | i, [], [], _ => n i
  | i, q :: qs, k :: ks, h => c i q qs k ks h.1 h.2.1 h.2.2 (KvAt.ind n c h.2.2)
section
variable {i : Nat} {kvs : List (Str × Value)} {ks : List Str} {u : Str}
theorem KvAt.len (h : KvAt i kvs ks) : kvs.length = ks.length := KvAt.ind (P := fun _ kvs ks => kvs.length = ks.length) (fun _ => rfl) (fun _ _ _ _ _ _ _ _ ih => congrArg (· + 1) ih) h
theorem KvAt.push {t : Tok} (h : KvAt i kvs ks) : KvAt i (kvs ++ [(u, Value.str (nP (i + kvs.length)) t)]) (ks ++ [u]) :=
  KvAt.ind (P := fun i kvs ks => KvAt i (kvs ++ [(u, Value.str (nP (i + kvs.length)) t)]) (ks ++ [u])) (fun _ => ⟨rfl, ⟨t, rfl⟩, trivial⟩) (fun i q qs k ks a b _ ih => ⟨a, b, by
    rw [show i + (q :: qs).length = i + 1 + qs.length from Nat.add_right_comm i qs.length 1]; exact ih⟩) h
theorem KvAt.keys (h : KvAt i kvs ks) : kvs.map (·.1) = ks := KvAt.ind (P := fun _ kvs ks => kvs.map (·.1) = ks) (fun _ => rfl) (fun _ _ _ _ _ a _ _ ih => by rw [List.map_cons, a, ih]) h
theorem va_hit {q : Str × Value} {qs : List (Str × Value)} (e : q.1 = u) : valueAt (q :: qs) u = some q.2 := congrArg (Option.map Prod.snd) (List.find?_cons_of_pos (p := fun x : Str × Value => decide (x.1 = u)) (decide_eq_true e))
theorem va_skip {q : Str × Value} {qs : List (Str × Value)} (e : ¬ q.1 = u) : valueAt (q :: qs) u = valueAt qs u := congrArg (Option.map Prod.snd) (List.find?_cons_of_neg (p := fun x : Str × Value => decide (x.1 = u)) fun h => e (of_decide_eq_true h))
theorem KvAt.look (h : KvAt i kvs ks) : u ∈ ks → ∃ t : Tok, valueAt kvs u = some (Value.str (nP (i + idx u ks)) t) :=
  KvAt.ind (P := fun i kvs ks => u ∈ ks → ∃ t : Tok, valueAt kvs u = some (Value.str (nP (i + idx u ks)) t)) (fun _ h => nomatch h) (fun i q qs k ks a b _ ih h => by
    by_cases e : k = u
    · refine b.imp fun t b => ?_
      rw [va_hit (a.trans e), b, show idx u (k :: ks) = 0 from if_pos e]; rfl
    · refine (ih (mem_skip e h)).imp fun t ht => ?_
      rw [va_skip fun q => e (a.symm.trans q), ht, idx_skip e, Nat.add_right_comm]; rfl) h
theorem KvAt.none (h : KvAt i kvs ks) : u ∉ ks → valueAt kvs u = Option.none :=
  KvAt.ind (P := fun _ kvs ks => u ∉ ks → valueAt kvs u = Option.none) (fun _ _ => rfl) (fun i q qs k ks a _ _ ih h => by
    rw [va_skip fun q => h (List.mem_cons.mpr (.inl (q.symm.trans a))), ih fun q => h (.tail _ q)]) h
end
theorem stored_new {kvs : List (Str × Value)} {u : Str} {v : Value} (h : valueAt kvs u = Option.none) : stored kvs u v = kvs ++ [(u, v)] := by
  unfold stored
  rw [if_neg]
  intro hc
  (refine e1a2 (List.any_eq_true.mp hc) fun q hq e => ?_)
  unfold valueAt at h
  simp only [Option.map_eq_none_iff, List.find?_eq_none] at h
  exact h q hq e
/-- how the writer's name spaces lie -/
structure WS (w : World) (c : WC) (top : Addr) (scs : List (Addr × Array Value)) (tv dv : Array Value) (opm : Obj) (tl : List (Addr × Obj)) (known tw lw : List Str) : Prop where
  dv_eq : dv = ((scs ++ [(top, tv)]).map fun p => Value.ref p.1).toArray
  low : ∀ p ∈ scs, ∃ n, (p.1, listOf p.2 n) ∈ tl
  lowsz : ∀ p ∈ scs, p.2.size < 100
  tps : PairsAt tl tv.toList (pairsOf known tw)
  lps : PairsAt tl (flatOf scs scs.length) (pairsOf known lw ++ [(xmlU, xmlP)])
  nd : (tw ++ lw).Nodup
  sub : ∀ x ∈ tw ++ lw, x ∈ known
  wds : ∀ x ∈ known, x ∈ words
  kl : known.length < 40
  kv : ∃ kvs, Obj.IsDictOf (PySem.strKind PR w) opm kvs ∧ KvAt 0 kvs known
  ntop : ∀ p ∈ tl, p.1 ≠ top
  npm : ∀ p ∈ tl, p.1 ≠ c.pm
  low_pm : (c.pm == sysModules) = false
section
variable {w : World} {c : WC} {top : Addr} {scs : List (Addr × Array Value)} {tv dv : Array Value} {opm : Obj} {tl : List (Addr × Obj)} {known tw lw : List Str} {u : Str}
noncomputable def flatP (known tw lw : List Str) : List (Str × Str) := pairsOf known tw ++ (pairsOf known lw ++ [(xmlU, xmlP)])
theorem WS.flat (x : WS w c top scs tv dv opm tl known tw lw) : PairsAt tl (flatOf (scs ++ [(top, tv)]) (scs.length + 1)) (flatP known tw lw) := by
  have e : (scs ++ [(top, tv)])[scs.length]? = some (top, tv) := by simp
  rw [flatOf_succ e]
  have e2 : flatOf (scs ++ [(top, tv)]) scs.length = flatOf scs scs.length := by unfold flatOf; simp
  rw [e2]
  exact x.tps.app x.lps
theorem nodup_map_of {α β : Type} {f : α → β} {l : List α} (hn : l.Nodup) (hi : ∀ a ∈ l, ∀ b ∈ l, f a = f b → a = b) : (l.map f).Nodup :=
  List.pairwise_map.mpr (List.Pairwise.imp_of_mem (fun ha hb h e => h (hi _ ha _ hb e)) hn)
theorem WS.idx40 (x : WS w c top scs tv dv opm tl known tw lw) (h : u ∈ known) : idx u known < 40 := Nat.lt_trans (idx_lt h) x.kl
theorem WS.pre (x : WS w c top scs tv dv opm tl known tw lw) : ((flatP known tw lw).map (·.2)).Nodup := by
  have e : (flatP known tw lw).map (·.2) = ((tw ++ lw).map (nmK known)) ++ [xmlP] := by
    unfold flatP pairsOf
    simp [Function.comp_def]
  rw [e]
  refine List.nodup_append.mpr ⟨nodup_map_of x.nd fun a ha b hb h => ?_, by simp, fun a ha b hb => ?_⟩
  · exact idx_inj (x.sub a ha) (x.sub b hb) (nP_inj (x.idx40 (x.sub a ha)) (x.idx40 (x.sub b hb)) h)
  · simp only [List.mem_cons, List.not_mem_nil, or_false] at hb
    subst hb
    (refine e1a2 (List.mem_map.mp ha) fun y hy y3_ => ?_; obtain rfl := y3_)
    exact nP_xml (x.idx40 (x.sub y hy))
theorem WS.flat_mem (x : WS w c top scs tv dv opm tl known tw lw) : ∀ q ∈ flatP known tw lw, q.1.length ≤ 40 ∧ 0 < q.2.length ∧ q.2.length ≤ 10 := by
  intro q hq
  have key : ∀ y ∈ tw ++ lw, y.length ≤ 40 ∧ 0 < (nmK known y).length ∧ (nmK known y).length ≤ 10 := fun y hy =>
    ⟨Nat.le_trans (words_len y (x.wds y (x.sub y hy))) (by decide), nP_len _ (x.idx40 (x.sub y hy))⟩
  unfold flatP pairsOf at hq
  simp only [List.mem_append, List.mem_map, List.mem_cons, List.not_mem_nil, or_false] at hq
  rcases hq with ⟨y, hy, rfl⟩ | ⟨y, hy, rfl⟩ | rfl
  · exact key y (List.mem_append_left _ hy)
  · exact key y (List.mem_append_right _ hy)
  · decide +kernel
theorem nodup_sub_len {α : Type} [DecidableEq α] {l : List α} : ∀ {k : List α}, l.Nodup → (∀ a ∈ l, a ∈ k) → l.length ≤ k.length := by
  induction l with
  | nil => exact fun _ _ => Nat.zero_le _
  | cons a l ih =>
    intro k hn hs
    have hk := hs a (.head _)
    have := ih (k := k.erase a) (List.nodup_cons.mp hn).2 fun b hb =>
      (List.mem_erase_of_ne (show b ≠ a from fun e => (List.nodup_cons.mp hn).1 (e ▸ hb))).mpr (hs b (.tail _ hb))
    rw [List.length_erase_of_mem hk] at this
    exact Nat.le_trans (Nat.succ_le_succ this) (Nat.le_of_eq (Nat.sub_add_cancel (List.length_pos_of_mem hk)))
theorem WS.len (x : WS w c top scs tv dv opm tl known tw lw) : tw.length + lw.length < 40 := by
  have := nodup_sub_len x.nd x.sub
  rw [List.length_append] at this
  exact Nat.lt_of_le_of_lt this x.kl
theorem WS.flat_len (x : WS w c top scs tv dv opm tl known tw lw) : (flatP known tw lw).length < 100 := by
  have := x.len
  unfold flatP pairsOf
  simp; k_room
theorem WS.tvsz (x : WS w c top scs tv dv opm tl known tw lw) : tv.size < 100 := by
  have := x.tps.len
  simp [pairsOf] at this
  have := x.len
  k_room
theorem WS.found (x : WS w c top scs tv dv opm tl known tw lw) (h : u ∈ tw ++ lw) : look u (flatP known tw lw) = some (nmK known u) := by
  have e : flatP known tw lw = pairsOf known (tw ++ lw) ++ [(xmlU, xmlP)] := by simp [flatP, pairsOf]
  rw [e]; exact look_pairs_some h
theorem WS.lost (x : WS w c top scs tv dv opm tl known tw lw) (hu : u ∈ words) (h : u ∉ tw ++ lw) : look u (flatP known tw lw) = none := by
  have e : flatP known tw lw = pairsOf known (tw ++ lw) ++ [(xmlU, xmlP)] := by simp [flatP, pairsOf]
  rw [e, look_append (look_pairs_none h)]
  show (if xmlU = u then _ else _) = _
  rw [if_neg (show ¬ xmlU = u from fun e => xmlU_not (by rw [e]; exact hu))]
  rfl
theorem WS.mono {tl' : List (Addr × Obj)} (x : WS w c top scs tv dv opm tl known tw lw) (h : ∀ q ∈ tl, q ∈ tl') (h1 : ∀ q ∈ tl', q.1 ≠ top) (h2 : ∀ q ∈ tl', q.1 ≠ c.pm) : WS w c top scs tv dv opm tl' known tw lw :=
  ⟨x.dv_eq, fun p hp => (x.low p hp).imp fun _ hn => h _ hn, x.lowsz, x.tps.mono h, x.lps.mono h, x.nd, x.sub, x.wds, x.kl, x.kv, h1, h2, x.low_pm⟩
theorem addT_in (h : u ∈ tw ++ lw) : addT tw lw u = tw := if_pos h
theorem addT_out (h : u ∉ tw ++ lw) : addT tw lw u = tw ++ [u] := if_neg h
theorem WS.same (x : WS w c top scs tv dv opm tl known tw lw) (h : u ∈ tw ++ lw) : WS w c top scs tv dv opm tl (addK known u) (addT tw lw u) lw := by
  rw [addT_in h, show addK known u = known from if_pos (x.sub u h)]; exact x
theorem WS.grow (x : WS w c top scs tv dv opm tl known tw lw) (hu : u ∈ words) (h : u ∉ tw ++ lw) {d : Addr} {t1 t2 : Tok} {opm' : Obj} (hkl : known.length < 39)
    (hd1 : d ≠ top) (hd2 : d ≠ c.pm) (hk : ∃ kvs, Obj.IsDictOf (PySem.strKind PR w) opm' kvs ∧ KvAt 0 kvs (addK known u)) :
    WS w c top scs (tv.push (.ref d)) dv opm' ((d, tup2 u t1 (nmK (addK known u) u) t2) :: tl) (addK known u) (addT tw lw u) lw := by
  have hsub : ∀ y ∈ tw ++ lw, y ∈ addK known u := fun y hy => addK_sub (x.sub y hy)
  rw [addT_out h]
  refine ⟨?_, fun p hp => ?_, x.lowsz, ?_, ?_, ?_, fun y hy => ?_, fun y hy => ?_, ?_, hk, ?_, ?_, x.low_pm⟩
  · rw [x.dv_eq]; simp
  · (refine ex1 (x.low p hp) fun n hn => ?_)
    exact ⟨n, .tail _ hn⟩
  · have e : (tv.push (.ref d)).toList = tv.toList ++ [.ref d] := by simp
    rw [e, show pairsOf (addK known u) (tw ++ [u]) = pairsOf known tw ++ [(u, nmK (addK known u) u)] by
      rw [← pairsOf_add (known := known) (u := u) fun y hy => x.sub y (List.mem_append_left _ hy)]; simp [pairsOf]]
    exact (x.tps.mono fun p hp => .tail _ hp).app ⟨⟨d, t1, t2, rfl, .head _⟩, trivial⟩
  · rw [pairsOf_add (known := known) (u := u) fun y hy => x.sub y (List.mem_append_right _ hy)]
    exact x.lps.mono fun p hp => .tail _ hp
  · have := x.nd
    rw [List.append_assoc]
    simp only [List.mem_append, not_or] at h
    rw [List.nodup_append] at this ⊢
    refine ⟨this.1, ?_, ?_⟩
    · exact List.nodup_cons.mpr ⟨h.2, this.2.1⟩
    · intro a ha b hb
      rcases List.mem_cons.mp hb with rfl | hb
      · exact fun e => h.1 (e ▸ ha)
      · exact this.2.2 a ha b hb
  · simp only [List.mem_append, List.mem_cons, List.not_mem_nil, or_false] at hy
    rcases hy with (hy | rfl) | hy
    · exact hsub y (List.mem_append_left _ hy)
    · exact addK_mem
    · exact hsub y (List.mem_append_right _ hy)
  · unfold addK at hy
    split at hy
    · exact x.wds y hy
    · rcases List.mem_append.mp hy with hy | hy
      · exact x.wds y hy
      · simp only [List.mem_cons, List.not_mem_nil, or_false] at hy; subst hy; exact hu
  · unfold addK; split
    · exact x.kl
    · simp; k_room
  · intro p hp
    rcases List.mem_cons.mp hp with rfl | hp
    · exact hd1
    · exact x.ntop p hp
  · intro p hp
    rcases List.mem_cons.mp hp with rfl | hp
    · exact hd2
    · exact x.npm p hp
end
end
section
theorem add_b {prog : Program} {w : World} {A : Around} {E : Value → Shared → Prop} {s : Shared} {x y : PySem.Str} {t u : Tok} {Q : Value → Shared → Prop} {K L : Nat} (hx : x.length ≤ K) (hy : y.length ≤ L) (hs : Nat.ble (K + L) 16777216 = true) (h : ∀ t' k, Q (.str (x ++ y) t') { s with toks := k }) : wpAny (model prog w) A (binaryOp .Add (.str x t) (.str y u)) Q E s :=
  KXadd.add hx hy (Nat.le_of_ble_eq_true hs) fun t' k _ => h t' k
theorem sz_le {a b : Str} {x y : Nat} (hx : a.length ≤ x) (hy : b.length ≤ y) (e : Nat.ble (x + y) 16777216 = true) : (a ++ b).length ≤ sizeLine := by
  rw [PySem.Str.length_append, sizeLine_eq]; exact Nat.le_trans (Nat.add_le_add hx hy) (Nat.le_of_ble_eq_true e)
example : True := by (k_with "And" => (fail_if_success k_extra "1"); k_extra "b5"); trivial
theorem sub_last {prog : Program} {w : World} {A : Around} {E : Value → Shared → Prop} {s : Shared} {h₀ : Heap} {L : Addr} {news : List (Addr × Obj)} {value slice : Expr} {l : Addr} {items : Array Value} {n : Nat} {x : Value} {t : Tok} {Q : Value → Shared → Prop}
    (N : News h₀ L s.heap news) (hp : (l, listOf items n) ∈ news) (hx : items[items.size - 1]? = some x) (h0 : 0 < items.size) (h : Q x s)
    (hs : subscripted slice false (.ref l) (.int (-1) t) = operate [.ref l, .int (-1) t] (getItem (.ref l) (.int (-1) t))) (hg : ∀ r, letTemporaryGo value (.ref l) r = pure ()) :
    wpAny (model prog w) A (subscriptTail value slice (.ref l) (.int (-1) t)) Q E s := by
  have hL : s.heap.IsList l items := ⟨_, (N _ hp).1, rfl, _, rfl⟩
  refine subscriptTail_builtin hL.typeIs slot_list_getitem.lookup (wpAny_getItem_list_neg hL (by decide) (by k_room) (by decide) ?_ h) hs hg
  rw [← hx]
  congr 1
  first | (rw [Int.add_comm]; exact Int.toNat_sub items.size 1) | k_room
example : True := by (k_with "compareOp In str ref" => (fail_if_success k_extra "1"); (k_dflt (refine kda_in (knd := PySem.strKind _ _) (by k_asm) (by k_mem) (by k_asm) (by k_asm) (strKind_is _ _ _ _) _ (by assumption) ?_))); (k_with "subscriptTail" => (fail_if_success k_extra "1"); k_extra "b6"); (k_with "subscriptTail Name UnaryOp ref int" => (fail_if_success k_extra "1"); k_extra "b4"); (k_with "getItem ref str" => (fail_if_success k_extra "1"); (k_dflt (refine kdt_getItem (knd := PySem.strKind _ _) (by k_asm) (by k_mem) (by k_asm) (strKind_is _ _ _ _) (by assumption) ?_))); (k_with "call builtin:len" => (fail_if_success k_extra "1"); (k_dflt (refine kda_len (knd := PySem.strKind _ _) (by k_asm) (by k_mem) (by k_asm) (by k_asm) (by k_room) ?_))); (k_with "setItem ref str" => (fail_if_success k_extra "1"); (k_dflt (refine' kda_set (knd := PySem.strKind _ _) ?F_r ?N_r ?U_r ?d_r (strKind_is _ _ _ _) ?z_r ?_; (case F_r => k_asm); (case N_r => k_asm); (case U_r => k_updF); (case d_r => k_asm); (case z_r => rw [sizeLine_eq]; k_room)); intro _ _ _ N'r _; (try dsimp only at N'r))); trivial
theorem frKeep {h₀ h h' : Heap} {L : Addr} {m : Str → Option Value} (F : Fr h₀ L h m) (k : ∀ b o, h.get? b = some o → h'.get? b = some o) : Fr h₀ L h' m := by
  (refine e3a2 F.ns fun oL es ep hL r => ?_)
  exact ⟨⟨oL, es, ep, k _ _ hL, r⟩, fun b o e => k _ _ (F.keep b o e), F.above⟩
theorem newsKeep {h₀ h h' : Heap} {L : Addr} {news : List (Addr × Obj)} (N : News h₀ L h news) (k : ∀ b o, h.get? b = some o → h'.get? b = some o) : News h₀ L h' news :=
  fun p hp => ⟨k _ _ (N p hp).1, (N p hp).2⟩
noncomputable abbrev mUP (a b : Option Value) (m : Str → Option Value) : Str → Option Value := fun y => if y = Str.ofString "prefix" then b else if y = Str.ofString "u" then a else m y
theorem mUP_put {a b a' b' : Option Value} {m : Str → Option Value} : (fun y => if y = Str.ofString "prefix" then b' else if y = Str.ofString "u" then a' else mUP a b m y) = mUP a' b' m := by
  funext y
  unfold mUP
  by_cases e : y = Str.ofString "prefix"
  · simp only [if_pos e]
  · by_cases e' : y = Str.ofString "u"
    · simp only [if_neg e, if_pos e']
    · simp only [if_neg e, if_neg e']
theorem news_move {h₀ h : Heap} {L : Addr} {x y a b c d e : Addr × Obj} {tl : List (Addr × Obj)} (N : News h₀ L h (x :: y :: a :: b :: c :: d :: e :: tl)) : News h₀ L h (x :: a :: b :: c :: d :: e :: ([y] ++ tl)) := fun p hp => N p (by
  simp only [List.mem_cons, List.mem_append, List.not_mem_nil, or_false] at hp ⊢
  rcases hp with h | h | h | h | h | h | h | h
  · exact .inl h
  · exact .inr (.inr (.inl h))
  · exact .inr (.inr (.inr (.inl h)))
  · exact .inr (.inr (.inr (.inr (.inl h))))
  · exact .inr (.inr (.inr (.inr (.inr (.inl h)))))
  · exact .inr (.inr (.inr (.inr (.inr (.inr (.inl h))))))
  · exact .inr (.inl h)
  · exact .inr (.inr (.inr (.inr (.inr (.inr (.inr h)))))))
theorem lt6 {d' : Addr} {a b c d e : Addr × Obj} {tl : List (Addr × Obj)} (h1 : @LT.lt Nat _ a.1 d') (h2 : @LT.lt Nat _ b.1 d') (h3 : @LT.lt Nat _ c.1 d') (h4 : @LT.lt Nat _ d.1 d') (h5 : @LT.lt Nat _ e.1 d') (h6 : ∀ p ∈ tl, p.1 < d') :
    ∀ p ∈ a :: b :: c :: d :: e :: tl, p.1 < d' := fun p hp => by
  simp only [List.mem_cons] at hp
  rcases hp with rfl | rfl | rfl | rfl | rfl | hp
  · exact h1
  · exact h2
  · exact h3
  · exact h4
  · exact h5
  · exact h6 p hp
theorem news_sub {h₀ h : Heap} {L : Addr} {x y z : Addr × Obj} {l r : List (Addr × Obj)} (N : News h₀ L h (x :: y :: z :: l)) (hs : ∀ p ∈ r, p ∈ l) : News h₀ L h (x :: r) := fun p hp => N p (by
  rcases List.mem_cons.mp hp with rfl | hp
  · exact .head _
  · exact .tail _ (.tail _ (.tail _ (hs p hp))))
theorem allLt_mem {d : Addr} : ∀ {l : List (Addr × Obj)}, AllLt d l → ∀ p ∈ l, p.1 < d
  | [], _ => fun _ h => nomatch h
  | p :: r, h => fun q hq => by
    rcases List.mem_cons.mp hq with rfl | hq
    · exact h.1
    · exact allLt_mem h.2 q hq
noncomputable abbrev tup3 (a : Str) (t1 : Tok) (b : Str) (t2 : Tok) (c : Str) (t3 : Tok) : Obj := { cls := .type "tuple", data := .seq #[.str a t1, .str b t2, .str c t3] }
noncomputable def pnm (pr tg : Str) : Str := Str.empty ++ pr ++ Str.ofString ":" ++ tg
theorem mUP_self {m : Str → Option Value} (h1 : m (Str.ofString "prefix") = none) (h2 : m (Str.ofString "u") = none) : m = mUP none none m := by
  funext y
  unfold mUP
  by_cases e : y = Str.ofString "prefix"
  · rw [if_pos e, e, h1]
  · rw [if_neg e]
    by_cases e' : y = Str.ofString "u"
    · rw [if_pos e', e', h2]
    · rw [if_neg e']
theorem fresh_ne {h : Heap} {a : Addr} {h₀ : Heap} {L : Addr} {news : List (Addr × Obj)} (N : News h₀ L h news) (f : h.get? a = none) : ∀ q ∈ news, a ≠ q.1 := fun q hq e => by
  have := (N q hq).1
  rw [← e, f] at this; cases this
theorem newsFresh {h₀ h h' : Heap} {L a : Addr} {o : Obj} {m : Str → Option Value} (F : Fr h₀ L h m) (f : h.get? a = none) (g : h'.get? a = some o) : h'.get? a = some o ∧ a ≠ L ∧ h₀.get? a = none := by
  refine ⟨g, fun e => ?_, ?_⟩
  · (refine e3a2 F.ns fun oL es ep hL _ => ?_)
    rw [e, hL] at f; cases f
  · cases q : h₀.get? a with
    | none => rfl
    | some o => have := F.keep _ _ q; rw [f] at this; cases this
theorem qn_code (A₀ : Around) (h₀ : Heap) (L : Addr) (m : Str → Option Value) (s : Shared) (Q E : Value → Shared → Prop)
   (u tg : Str) (t : Tok)
   (c : WC) (wr wd top : Addr) (scs : List (Addr × Array Value)) (tv dv : Array Value) (nd nt : Nat) (opm : Obj) (tl tl0 : List (Addr × Obj)) (known tw lw : List Str) (hu : u ∈ words) (htg : tg ∈ letters)
   (hws0 : WS w c top scs tv dv opm tl0 known tw lw) (hsub : ∀ q ∈ tl0, q ∈ tl) (hn1 : ∀ q ∈ tl, q.1 ≠ top) (hn2 : ∀ q ∈ tl, q.1 ≠ c.pm) (hkl : known.length < 39) (hnd : ([wr, wd, c.dns, c.pm, top] : List Nat).Nodup)
   (B : Below A₀ base outer h₀) (F : Fr h₀ L s.heap m) (X : (hd.heap_39 w.params).In h₀) (N : News h₀ L s.heap ((wr, instObj 150 wd) :: (wd, wDict w c) :: (c.dns, listOf dv nd) :: (c.pm, opm) :: (top, listOf tv nt) :: tl))
   (T : Top p loose mean mg mb h₀) (hcs : cs.kind = .function) (hdp : dp + 40 < recursionLimit) (hun : un + 400 < cLine) (hB : AllBare s.gens)
   (hret : ∀ (tv' : Array Value) (nt' : Nat) (opm' : Obj) (ex : List (Addr × Obj)) (a : Addr) (t1 t2 t3 : Tok) (h' : Heap) (tk : Nat) (gens : Array GenState),
     WS w c top scs tv' dv opm' (ex ++ tl0) (addK known u) (addT tw lw u) lw → Fr h₀ L h' m →
     News h₀ L h' ((a, tup3 (pnm (nmK (addK known u) u) tg) t1 tg t2 u t3) :: (wr, instObj 150 wd) :: (wd, wDict w c) :: (c.dns, listOf dv nd) :: (c.pm, opm') :: (top, listOf tv' nt') :: (ex ++ tl)) →
     (∀ p ∈ (wr, instObj 150 wd) :: (wd, wDict w c) :: (c.dns, listOf dv nd) :: (c.pm, opm) :: (top, listOf tv nt) :: tl, p.1 < a ∧ ∀ q ∈ ex, p.1 < q.1) → (∀ q ∈ ex, q.1 < a) → AllBare gens →
     Q (.ref a) { s with heap := h', toks := tk, gens := gens }) :
   codeAny (model PR w) (ktrTop dp un gd cn cs L a ccd cl outer) (.call (.ref 90) ⟨[.ref wr, .str (qnameOf u tg) t], []⟩) (fun r s' => match r with | .ok (.ret v) => Q v s' | .ok _ => False | .error e => E e s') s := by
  replace hnd := ndA_iff.mpr hnd
  (refine an2 hnd fun q1 q2 => an4 q1 fun _ _ _ _ => an2 q2 fun q3 q4 => an3 q3 fun _ _ _ => an2 q4 fun q5 _ => an2 q5 fun _ _ => ?_; clear q1 q2 q3 q4 q5)
  have hws := hws0.mono hsub hn1 hn2
  have hdv := hws.dv_eq
  have hsc := hws.low
  have hsz := hws.lowsz
  have htv := hws.tvsz
  have hflat := hws.flat
  have hpre := hws.pre
  have hpl := hws.flat_mem
  have hfl := hws.flat_len
  have htop := hws.ntop
  have hpm := hws.npm
  have hpmm := hws.low_pm
  (refine e1a2 hws.kv fun kvs hkv hkva => ?_)
  have hkl' := hkva.len
  have hkc : kvs.length ≤ 100 := hkl' ▸ Nat.le_of_lt (Nat.lt_of_lt_of_le hkl (by decide))
  have hfound : ∀ pr, look u (flatP known tw lw) = some pr → u ∈ tw ++ lw ∧ pr = nmK (addK known u) u := by
    intro pr hp
    by_cases h : u ∈ tw ++ lw
    · rw [hws.found h] at hp
      injection hp with hp
      exact ⟨h, by rw [nmK_add (hws.sub u h), hp]⟩
    · rw [hws.lost hu h] at hp; cases hp
  have hlost : look u (flatP known tw lw) = none → u ∉ tw ++ lw := fun hp h => by rw [hws.found h] at hp; cases hp
  generalize flatP known tw lw = flat at *
  have hlast : dv[dv.size - 1]? = some (.ref top) := by rw [hdv]; simp
  have hdvp : 0 < dv.size := by rw [hdv]; simp
  have hul := words_len u hu
  have htl := Nat.le_of_eq (letters_len tg htg)
  have hql : (qnameOf u tg).length ≤ 6 := by
    have e : (qnameOf u tg).length = 1 + u.length + 1 + tg.length := by
      show (((Str.ofString "{").cps ++ u.cps) ++ (Str.ofString "}").cps ++ tg.cps).size = _
      simp only [Array.size_append]
      rfl
    k_room
  have ho := q_open u hu tg htg
  have hr := q_rsplit u hu tg htg
  generalize qnameOf u tg = qq at *
  k_dflt (refine' code_def (binds := [(Str.ofString "self", .ref wr), (Str.ofString "qname", .str qq t), (Str.ofString "uri", .none)]) B F X N T ?kA ?kF ?kK ?k6 ?k7 ?k8 ?k9 ?kB ?_ ?c2 ?c3 ?c4 ?c5; (case kA => exact rfl); (case kF => exact rfl); (case kK => first | exact rfl | assumption); (case k6 => k_is); (case k7 => k_is); (case k8 => k_room); (case k9 => first | exact BindsTo.of_eq rfl | exact binds_K (by k_in) rfl (by k_is) rfl rfl rfl); (case c5 => decide); (case kB => exact locs rfl); (case c2 => exact rfl); (case c3 => exact rfl); (case c4 => exact rfl); k_whole; intro g' L' h' FG' F' N' B' X' T'; (try dsimp only); (try k_lift B'); (try k_fold))
  k_steps
  rename_i l _ _ hl _ _ _ _ _
  rw [hr] at hl
  (refine ex2 (two_of hl) fun t1 t2 y1_ => ?_; obtain rfl := y1_)
  k_steps
  refine wpAny_For ?_
  k_steps
  rename_i d' hA led' hs' hz' i0 i1 i2 i3 i4 i5 i6 i7 i8 i9
  rename Fr g' L' _ _ => F1
  rename News g' L' _ _ => N1
  refine call_iter (X'.keeps F1.keep) (T'.nolimit.keeps F1.keep) (by k_room) fun Lg gO oL h₂ tk₂ cd hLg hgO kp fL fg hne hrd => ?_
  (refine ex3 hgO fun oG nm qn' w1_ => an4 w1_ fun hoG g1 g2 g3 => ?_; clear w1_; try clear hgO)
  refine wpAny_pyIter_gen (g := s.gens.size) ⟨oG, nm, qn', hoG, g1, g2, g3⟩ ?_
  generalize hrest : ((wr, instObj 150 wd) :: (wd, wDict w c) :: (c.dns, listOf dv nd) :: (c.pm, opm) :: (top, listOf tv nt) :: tl) = rest at N1
  obtain ⟨m0, hm0, F1⟩ : ∃ m0 : Str → Option Value, m0 = _ ∧ Fr g' L' i7 m0 := ⟨_, rfl, F1⟩
  dsimp only at hm0
  generalize hso : ({ cls := .type "set", data := .set #[] 0 (.fresh 0 0 led') } : Obj) = so0 at hz' N1
  obtain ⟨lo, hlo, N1⟩ : ∃ lo : Addr × Obj, lo = (_, _) ∧ News g' L' i7 ((d', so0) :: lo :: rest) := ⟨_, rfl, N1⟩
  refine hideJ (fun (vs : List Value) (m' : Str → Option Value) (news : List (Addr × Obj)) => ∃ done rst S n so av bv, flat = done ++ rst ∧ PairsAt tl vs rst ∧ look u done = none ∧ Obj.SetObjOf (PySem.strKind PR w) so S n ∧ (∀ x, S x = true → x ∈ done.map (·.2)) ∧ n ≤ done.length ∧
      news = (d', so) :: lo :: rest ∧ m' = mUP av bv m0) fun J_ hJ_ => ?_
  refine loop_gen (S := rest) (h₀ := g') (L := L') (oG := oG) (gs := .fresh cd) (I := [(Lg, oL)]) (items := flatOf (scs ++ [(top, tv)]) (scs.length + 1)) (news := (d', so0) :: lo :: rest)
    J_ rfl rfl (by k_room) T'.nolimit ⟨nm, qn', g1, g2, g3⟩ ?hJS ?turn ?done (frKeep F1 kp) ?hN ?hoff ?hgI ?hgs ?hR ?hB ?hJ
  case hJS => intro vs m' news hz1_; (refine e7a8 ((hJ_ _ _ _).mp hz1_) fun _ _ _ _ _ _ _ _ _ _ _ _ _ y3_ _ => ?_; clear hz1_; obtain rfl := y3_); intro p hp; exact .tail _ (.tail _ hp)
  case hJ => exact (hJ_ _ _ _).mpr (exI7 ([]) flat _ _ _ none none (anI8 rfl hflat rfl hz' (by intro x h; cases h) (Nat.le_refl _) rfl (mUP_self (by rw [hm0]; rfl) (by rw [hm0]; rfl))))
  case hB =>
    intro x hx
    rcases Array.mem_push.mp hx with h | rfl
    · exact hB x h
    · rfl
  case hgs => simp
  case hgI => simp [Ne.symm hne]
  case hN =>
    intro p hp
    rcases List.mem_append.mp hp with hp | hp
    · exact newsKeep N1 kp p hp
    · simp only [List.mem_cons, List.not_mem_nil, or_false] at hp
      rcases hp with rfl | rfl
      · exact newsFresh F1 fg hoG
      · exact newsFresh F1 fL hLg
  case hoff =>
    intro p hp
    simp only [List.mem_cons, List.not_mem_nil, or_false] at hp
    rcases hp with rfl | rfl
    · exact fresh_ne N1 fg
    · exact fresh_ne N1 fL
  case hR =>
    have e : (scs ++ [(top, tv)]).length = scs.length + 1 := by simp
    rw [← e]
    refine hrd _ rest _ rfl (fun h hI => ?_) (fun h hI p hp => ?_) (fun p hp => ?_)
    · rw [← hdv]; exact ⟨_, hI (c.dns, listOf _ nd) (by rw [← hrest]; exact .tail _ (.tail _ (.head _))), rfl, _, rfl⟩
    · rcases List.mem_append.mp hp with hp | hp
      · (refine ex1 (hsc p hp) fun n hn => ?_)
        exact ⟨_, hI (p.1, listOf p.2 n) (by rw [← hrest]; k_data), rfl, _, rfl⟩
      · simp only [List.mem_cons, List.not_mem_nil, or_false] at hp
        subst hp
        exact ⟨_, hI (top, listOf tv nt) (by rw [← hrest]; exact .tail _ (.tail _ (.tail _ (.tail _ (.head _))))), rfl, _, rfl⟩
    · rcases List.mem_append.mp hp with hp | hp
      · have := hsz p hp; k_room
      · simp only [List.mem_cons, List.not_mem_nil, or_false] at hp
        subst hp; show (tv.size : Int) < _; k_room
  case done =>
    intro m₁ news₁ h₁ tk₁ gens₁ hz1_; (refine e7a8 ((hJ_ _ _ _).mp hz1_) fun done rst S n so av bv e1 e2 e3 e4 e5 e6 y4_ y5_ => ?_; clear hz1_; obtain rfl := y4_; obtain rfl := y5_); intro F2 N2 hB2
    dsimp only
    replace N2 : News g' L' h₁ rest := fun p hp => N2 p (.tail _ (.tail _ hp))
    rw [← hrest] at N2
    clear hJ_
    subst hm0
    clear F1 N1 F N FG'
    have hout : u ∉ tw ++ lw := hlost (by
      rw [e1, A2.nil' e2, List.append_nil]; exact e3)
    by_cases hk : u ∈ known
    · (refine ex1 (hkva.look hk) fun tp hv => ?_)
      have hvs : (valueAt kvs u).isSome = true := by rw [hv]; rfl
      rw [Nat.zero_add] at hv
      have hprl : (nP (idx u known)).length ≤ 10 := (nP_len _ (hws.idx40 hk)).2
      have hnm : nP (idx u known) = nmK (addK known u) u := (nmK_add hk).symm
      rw [hnm] at hv hprl
      generalize hprd : nmK (addK known u) u = pr at *
      k_steps
      rename News h₀ L _ _ => kN
      rename Fr h₀ L _ m => kF
      refine hret _ _ _ [_] _ _ _ _ _ _ gens₁ ?_ kF (news_move kN) (fun p hp => ⟨lt6 (by assumption) (by assumption) (by assumption) (by assumption) (by assumption) (allLt_mem (by assumption)) p hp, fun q hq => ?_⟩) (fun q hq => ?_) hB2
      · subst hprd
        exact hws0.grow hu hout hkl (Nat.ne_of_gt (by assumption)) (Nat.ne_of_gt (by assumption)) ⟨kvs, hkv, by rw [addK, if_pos hk]; exact hkva⟩
      · rw [List.mem_singleton.mp hq]
        exact lt6 (by assumption) (by assumption) (by assumption) (by assumption) (by assumption) (allLt_mem (by assumption)) p hp
      · rw [List.mem_singleton.mp hq]
        assumption
    · have hv := hkva.none hk
      have hvs : (valueAt kvs u).isSome = false := by rw [hv]; rfl
      have hnm : Str.ofString "n" ++ Str.ofString (toString ((kvs.length : Nat) : Int)) = nmK (addK known u) u := by rw [nmK_new hk, ← hkl']; rfl
      k_steps
      rename News h₀ L _ _ => kN
      rename Fr h₀ L _ m => kF
      rename Obj.IsDictOf (PySem.strKind PR w) _ (stored kvs u _) => hst
      rw [hnm] at kN
      rw [stored_new hv, hnm] at hst
      refine hret _ _ _ [_] _ _ _ _ _ _ gens₁ ?_ kF (news_move kN) (fun p hp => ⟨lt6 (by assumption) (by assumption) (by assumption) (by assumption) (by assumption) (allLt_mem (by assumption)) p hp, fun q hq => ?_⟩) (fun q hq => ?_) hB2
      · refine hws0.grow hu hout hkl (Nat.ne_of_gt (by assumption)) (Nat.ne_of_gt (by assumption)) ⟨_, hst, ?_⟩
        have z : ∀ t : Tok, KvAt 0 (kvs ++ [(u, Value.str (nmK (addK known u) u) t)]) (addK known u) := fun t => by
          have z := hkva.push (u := u) (t := t)
          rw [Nat.zero_add, hkl', ← nmK_new hk] at z
          rw [show known ++ [u] = addK known u from (if_neg hk).symm] at z
          exact z
        exact z _
      · rw [List.mem_singleton.mp hq]
        exact lt6 (by assumption) (by assumption) (by assumption) (by assumption) (by assumption) (allLt_mem (by assumption)) p hp
      · rw [List.mem_singleton.mp hq]
        assumption
  case turn =>
    intro v vs m₁ news₁ own h₁ tk₁ gens₁ hz1_; (refine e7a8 ((hJ_ _ _ _).mp hz1_) fun done rst S n so av bv e1 e2 e3 e4 e5 e6 y4_ y5_ => ?_; clear hz1_; obtain rfl := y4_; obtain rfl := y5_); intro F2 N2 hoff2 hB2
    (refine e2a3 (A2.inv' e2) fun q qs er y1_ e2q => ?_; clear e2; obtain rfl := er; refine e3a2 y1_ fun pa tq1 tq2 y4_ hpa => ?_; clear y1_; obtain rfl := y4_)
    have hq : q ∈ flat := by rw [e1]; simp
    (refine an3 (hpl q hq) fun hq1 hq2 hq3 => ?_)
    have hn100 : n < 100 := by rw [e1] at hfl; simp at hfl; k_room
    have hpr : (pa, tup2 q.1 tq1 q.2 tq2) ∈ rest := by rw [← hrest]; k_data
    have hlt : ∀ p ∈ rest, p.1 ≠ d' := by
      intro p hp
      rw [← hrest] at hp
      simp only [List.mem_cons] at hp
      rcases hp with rfl | rfl | rfl | rfl | rfl | hp
      · exact Nat.ne_of_lt i1
      · exact Nat.ne_of_lt i2
      · exact Nat.ne_of_lt i3
      · exact Nat.ne_of_lt i4
      · exact Nat.ne_of_lt i5
      · exact allNe_lt i6 p hp
    have hpd : pa ≠ d' := hlt _ hpr
    have hlod : lo.1 ≠ d' := by rw [hlo]; exact Nat.ne_of_lt i0
    refine hide (lo :: (rest ++ own)) fun tl2 htl2 => ?_
    have ht2 : ∀ p ∈ tl2, p.1 ≠ d' := by
      intro p hp
      rw [htl2] at hp
      rcases List.mem_cons.mp hp with rfl | hp
      · exact hlod
      · rcases List.mem_append.mp hp with hp | hp
        · exact hlt p hp
        · exact hoff2 p hp (d', so) (.head _)
    have N3 : News g' L' h₁ ((d', so) :: (pa, tup2 q.1 tq1 q.2 tq2) :: tl2) := by
      intro p hp
      refine N2 p ?_
      rw [htl2] at hp
      simp only [List.mem_cons, List.mem_append, List.cons_append] at hp ⊢
      rcases hp with h | rfl | h
      · exact .inl h
      · exact .inr (.inr (.inl hpr))
      · exact .inr h
    clear N2
    subst hm0
    clear F1 N1 F N FG'
    k_steps
    · exfalso
      have hs : S q.2 = true := by assumption
      have := e5 _ hs
      rw [e1] at hpre
      rw [List.map_append, List.map_cons, List.nodup_append] at hpre
      exact hpre.2.2 _ this _ (.head _) rfl
    · have hqu : q.1 = u := eq_of_beq (by assumption)
      rename News h₀ L _ _ => kN
      rename Fr h₀ L _ m => kF
      (refine an2 (hfound q.2 (by rw [e1, look_append e3]; show (if q.1 = u then _ else _) = _; rw [if_pos hqu])) fun hin hpq => ?_)
      rename AllLt _ tl2 => l2
      have k2 := news_sub (r := rest) kN fun p hp => by rw [htl2]; exact .tail _ (List.mem_append_left _ hp)
      rw [← hrest, hpq] at k2
      refine hret tv nt opm [] _ _ _ _ _ _ gens₁ (hws0.same hin) kF k2 (fun p hp => ⟨?_, fun q hq => nomatch hq⟩) (fun q hq => nomatch hq) hB2
      rw [hrest] at hp
      refine allLt_mem l2 p ?_
      rw [htl2]
      exact .tail _ (List.mem_append_left _ hp)
    · exfalso
      have hz : ((q.2.length : Nat) : Int) = 0 := by assumption
      k_room
    · have hqu : (q.1 == u) = false := by assumption
      rename Obj.SetObjOf (PySem.strKind PR w) _ (fun k' => S k' || decide (k' = q.2)) _ => hs2
      rename Obj => o2
      rename News g' L' _ ((_, _) :: (pa, _) :: tl2) => N4
      rename Fr g' L' _ _ => F4
      refine stop_gen (nw := (d', o2) :: lo :: rest) F4 (fun p hp => N4 p ?_) rfl ((hJ_ _ _ _).mpr (exI7 (done ++ [q]) qs _ _ _ _ _ (anI8 (by rw [e1]; simp) e2q ?_ hs2 (fun x hx => ?_) ?_ rfl mUP_put)))
      · rw [htl2]
        revert p
        k_data
      · rw [look_append e3]
        show (if q.1 = u then _ else _) = _
        rw [if_neg (fun e => by rw [e] at hqu; simp at hqu)]
        rfl
      · rw [List.map_append, List.mem_append]
        rcases Bool.or_eq_true_iff.mp hx with h | h
        · exact .inl (e5 x h)
        · exact .inr (by rw [of_decide_eq_true h]; exact .head _)
      · simp only [List.length_append, List.length_cons, List.length_nil]
        split <;> k_room
end
section
example : True := by (k_with "1" => skip); trivial
section
noncomputable def uOf (x : Str) : Str := (Txt.rsplitMax (Txt.slice x (some 1) none) (Str.ofString "}") 1).getD 0 Str.empty
noncomputable def lOf (x : Str) : Str := (Txt.rsplitMax (Txt.slice x (some 1) none) (Str.ofString "}") 1).getD 1 Str.empty
theorem uOf_q {u l : Str} (hu : u ∈ words) (hl : l ∈ letters) : uOf (qnameOf u l) = u := by unfold uOf; rw [q_rsplit u hu l hl]; rfl
theorem lOf_q {u l : Str} (hu : u ∈ words) (hl : l ∈ letters) : lOf (qnameOf u l) = l := by unfold lOf; rw [q_rsplit u hu l hl]; rfl
noncomputable def stK (known : List Str) (ns : List Str) : List Str := ns.foldl (fun k n => addK k (uOf n)) known
noncomputable def stT (tw lw : List Str) (ns : List Str) : List Str := ns.foldl (fun t n => addT t lw (uOf n)) tw
theorem stK_snoc {known ns : List Str} {n : Str} : stK known (ns ++ [n]) = addK (stK known ns) (uOf n) := by unfold stK; rw [List.foldl_append]; rfl
theorem stT_snoc {tw lw ns : List Str} {n : Str} : stT tw lw (ns ++ [n]) = addT (stT tw lw ns) lw (uOf n) := by unfold stT; rw [List.foldl_append]; rfl
theorem addK_len {known : List Str} {u : Str} : (addK known u).length ≤ known.length + 1 := by unfold addK; split <;> simp
theorem stK_len : ∀ {ns known : List Str}, (stK known ns).length ≤ known.length + ns.length
  | [], _ => Nat.le_refl _
  | n :: ns, known => by
    have h := stK_len (ns := ns) (known := addK known (uOf n))
    have h2 := addK_len (known := known) (u := uOf n)
    simp only [List.length_cons]
    show (stK (addK known (uOf n)) ns).length ≤ _
    k_room
/-- the tuples that lie ready, one for a name -/
noncomputable def TupAt (l : List (Addr × Obj)) (known : List Str) (kvs : List (Str × Value)) (ns : List Str) : Prop :=
  A2 (fun kv n => kv.1 = n ∧ uOf n ∈ known ∧ ∃ a t1 t2 t3, kv.2 = Value.ref a ∧ (a, tup3 (pnm (nmK known (uOf n)) (lOf n)) t1 (lOf n) t2 (uOf n) t3) ∈ l) kvs ns
theorem TupAt.grow {l l' : List (Addr × Obj)} {known : List Str} {u : Str} (h : ∀ p ∈ l, p ∈ l') {kvs : List (Str × Value)} {ns : List Str} (k : TupAt l known kvs ns) : TupAt l' (addK known u) kvs ns :=
  A2.mono (fun _ n r => an3 r fun e hk x => anI3 e (addK_sub hk) (e4a2 x fun a t1 t2 t3 ev m => exI4 a t1 t2 t3 ⟨ev, (nmK_add (u := u) hk).symm ▸ h _ m⟩)) k
theorem TupAt.mono {l l' : List (Addr × Obj)} {known : List Str} (h : ∀ p ∈ l, p ∈ l') {kvs : List (Str × Value)} {ns : List Str} (k : TupAt l known kvs ns) : TupAt l' known kvs ns :=
  A2.mono (fun _ _ r => an3 r fun e hk x => anI3 e hk (e4a2 x fun a t1 t2 t3 ev m => exI4 a t1 t2 t3 ⟨ev, h _ m⟩)) k
theorem TupAt.snoc {l : List (Addr × Obj)} {known : List Str} {n : Str} {a : Addr} {t1 t2 t3 : Tok} (hk : uOf n ∈ known) (m : (a, tup3 (pnm (nmK known (uOf n)) (lOf n)) t1 (lOf n) t2 (uOf n) t3) ∈ l)
    {kvs : List (Str × Value)} {ns : List Str} (k : TupAt l known kvs ns) : TupAt l known (kvs ++ [(n, Value.ref a)]) (ns ++ [n]) := A2.snoc (anI3 rfl hk (exI4 a t1 t2 t3 ⟨rfl, m⟩)) k
theorem TupAt.keys {l : List (Addr × Obj)} {known : List Str} {kvs : List (Str × Value)} {ns : List Str} (k : TupAt l known kvs ns) : kvs.map (·.1) = ns :=
  A2.ind (P := fun (kvs : List (Str × Value)) (ns : List Str) => kvs.map (·.1) = ns) rfl (fun a b as bs r _ ih => by rw [List.map_cons, ih, r.1]) k
theorem valueAt_none : ∀ {kvs : List (Str × Value)} {k : Str}, k ∉ kvs.map (·.1) → valueAt kvs k = Option.none
  | [], _, _ => rfl
  | (a, b) :: r, k, h => by
    simp only [List.map_cons, List.mem_cons, not_or] at h
    have ih := valueAt_none h.2
    unfold valueAt at *
    rw [List.find?_cons]
    rw [show decide ((a, b).1 = k) = false from decide_eq_false fun e => h.1 e.symm]
    exact ih
theorem TupAt.find {l : List (Addr × Obj)} {known : List Str} {k : Str} {kvs : List (Str × Value)} {ns : List Str} (h : TupAt l known kvs ns) : k ∈ ns →
    ∃ a t1 t2 t3, valueAt kvs k = some (Value.ref a) ∧ uOf k ∈ known ∧ (a, tup3 (pnm (nmK known (uOf k)) (lOf k)) t1 (lOf k) t2 (uOf k) t3) ∈ l :=
  A2.ind (P := fun kvs ns => k ∈ ns → ∃ a t1 t2 t3, valueAt kvs k = some (Value.ref a) ∧ uOf k ∈ known ∧ (a, tup3 (pnm (nmK known (uOf k)) (lOf k)) t1 (lOf k) t2 (uOf k) t3) ∈ l) (fun h => nomatch h) (fun c n kvs ns r _ ih h => by
    refine an3 r fun e hk x => ?_
    unfold valueAt
    rw [List.find?_cons]
    by_cases q : c.1 = k
    · rw [decide_eq_true q]
      have e2 : n = k := e.symm.trans q
      exact e2 ▸ e4a2 x fun a t1 t2 t3 ev m => exI4 a t1 t2 t3 (anI3 (congrArg some ev) hk m)
    · rw [decide_eq_false q]
      refine ih ?_
      rcases List.mem_cons.mp h with h | h
      · exact absurd (e.trans h.symm) q
      · exact h) h
/-- what holds between the turns over the names -/
noncomputable def DInv (w : World) (c : WC) (wr wd top : Addr) (scs : List (Addr × Array Value)) (dv : Array Value) (nd : Nat) (known tw lw : List Str) (tl R : List (Addr × Obj)) (d0 : Nat) (names : List Str) (i : Nat) (kvs : List (Str × Value)) (nw : List (Addr × Obj)) : Prop :=
  ∃ tv nt opm ex, nw = (wr, instObj 150 wd) :: (wd, wDict w c) :: (c.dns, listOf dv nd) :: (c.pm, opm) :: (top, listOf tv nt) :: (ex ++ R) ∧ WS w c top scs tv dv opm (ex ++ tl) (stK known (names.take i)) (stT tw lw (names.take i)) lw ∧
    (∀ q ∈ ex, @LT.lt Nat _ d0 q.1) ∧ TupAt ex (stK known (names.take i)) kvs (names.take i) ∧ i ≤ names.length
end
section
theorem not_take {α : Type} [DecidableEq α] {l : List α} {i : Nat} {x : α} (h : l.Nodup) (hx : l[i]? = some x) : x ∉ l.take i := fun hm => by
  (refine ex1 (List.mem_iff_getElem.mp hm) fun j w1_ => ex1 w1_ fun hj e => ?_; clear w1_)
  have hj2 : j < i := by rw [List.length_take] at hj; k_room
  have e2 : l[j]? = some x := by
    rw [← e, List.getElem_take]
    rw [List.length_take] at hj
    exact List.getElem?_eq_getElem (by k_room)
  have := nodup_idx h e2 hx
  k_room
theorem dinv_step {w : World} {c : WC} {wr wd top : Addr} {scs : List (Addr × Array Value)} {dv : Array Value} {nd : Nat} {known tw lw : List Str} {tl R : List (Addr × Obj)} {d0 : Nat} {names : List Str} {i : Nat} {kvs : List (Str × Value)}
    {tvi tv' : Array Value} {nti nt' : Nat} {opmi opm' : Obj} {ex ex2 fr : List (Addr × Obj)} {u l : Str} {a : Addr} {t1 t2 t3 : Tok} (hu : u ∈ words) (hl : l ∈ letters) (hnn : names.Nodup) (hn : names[i]? = some (qnameOf u l))
    (hwsi : WS w c top scs tvi dv opmi (ex ++ tl) (stK known (names.take i)) (stT tw lw (names.take i)) lw) (hexi : ∀ q ∈ ex, @LT.lt Nat _ d0 q.1) (htup : TupAt ex (stK known (names.take i)) kvs (names.take i))
    (hws2 : WS w c top scs tv' dv opm' (ex2 ++ (ex ++ tl)) (addK (stK known (names.take i)) u) (addT (stT tw lw (names.take i)) lw u) lw)
    (ha : @LT.lt Nat _ d0 a) (hex2 : ∀ q ∈ ex2, @LT.lt Nat _ d0 q.1) (hat : @Ne Nat a top) (hap : @Ne Nat a c.pm) :
    DInv w c wr wd top scs dv nd known tw lw tl R d0 names (i + 1) (stored kvs (qnameOf u l) (Value.ref a))
      ((wr, instObj 150 wd) :: (wd, wDict w c) :: (c.dns, listOf dv nd) :: (c.pm, opm') :: (top, listOf tv' nt') :: (((a, tup3 (pnm (nmK (addK (stK known (names.take i)) u) u) l) t1 l t2 u t3) :: (ex2 ++ ex)) ++ R)) := by
  have ht : names.take (i + 1) = names.take i ++ [qnameOf u l] := by rw [List.take_succ, hn]; rfl
  have hnk : qnameOf u l ∉ kvs.map (·.1) := by rw [htup.keys]; exact not_take hnn hn
  refine exI4 tv' nt' opm' _ (anI5 rfl ?_ ?_ ?_ ?_)
  · rw [ht, stK_snoc, stT_snoc, uOf_q hu hl]
    refine hws2.mono (fun q hq => ?_) (fun q hq => ?_) (fun q hq => ?_)
    · simp only [List.mem_append, List.mem_cons, List.cons_append] at hq ⊢
      rcases hq with h | h | h <;> simp only [h, true_or, or_true]
    · simp only [List.mem_append, List.mem_cons, List.cons_append] at hq
      rcases hq with rfl | h | h
      · exact hat
      · exact hws2.ntop q (by simp only [List.mem_append, h, true_or, or_true] <;> rcases h with h | h <;> simp only [h, true_or, or_true])
      · exact hws2.ntop q (by simp only [List.mem_append, h, true_or, or_true])
    · simp only [List.mem_append, List.mem_cons, List.cons_append] at hq
      rcases hq with rfl | h | h
      · exact hap
      · exact hws2.npm q (by simp only [List.mem_append, h, true_or, or_true] <;> rcases h with h | h <;> simp only [h, true_or, or_true])
      · exact hws2.npm q (by simp only [List.mem_append, h, true_or, or_true])
  · refine fmc ?_ (fma (fun q h => ?_) fun q h => ?_)
    · exact ha
    · exact hex2 q h
    · exact hexi q h
  · rw [ht, stK_snoc, uOf_q hu hl, stored_new (valueAt_none hnk)]
    refine TupAt.snoc (t1 := t1) (t2 := t2) (t3 := t3) (by rw [uOf_q hu hl]; exact addK_mem) ?_ (htup.grow fun q hq => ?_)
    · rw [uOf_q hu hl, lOf_q hu hl]; exact .head _
    · exact .tail _ (List.mem_append_right _ hq)
  · (refine ex1 (List.getElem?_eq_some_iff.mp hn) fun h _ => ?_)
    exact h
end
end
section
noncomputable def lamP : Arguments := { posonlyargs := [], args := [{ arg := Str.ofString "n", annotation := none, pos := ⟨135, 78, 135, 79⟩ }], vararg := none, kwonlyargs := [], kw_defaults := [], kwarg := none, defaults := [] }
noncomputable def lamB : Expr := .Call (.Attribute (.Name (Str.ofString "n") ⟨135, 81, 135, 82⟩) (Str.ofString "split") ⟨135, 81, 135, 88⟩) [.Constant (.str (Str.ofString "}")) 0 ⟨135, 89, 135, 92⟩, .Constant (.int 1) 0 ⟨135, 94, 135, 95⟩] [] ⟨135, 81, 135, 96⟩
noncomputable def lamS : Scope := { kind := .function, names := [(Str.ofString "n", .local)], isGenerator := false, isCoroutine := false }
noncomputable def lamQ : Str := Str.ofString "C14NWriterTarget._start.<locals>.<lambda>"
noncomputable def spl (x : Str) : List Str := Txt.splitMax x (Str.ofString "}") 1
noncomputable def kaOf (x : Str) : Str := (spl x).getD 0 Str.empty
noncomputable def kbOf (x : Str) : Str := (spl x).getD 1 Str.empty
noncomputable def W (b : Nat) : Str := mkS (wordN b)
noncomputable def kaN (b : Nat) : List Nat := if b = 125 then [123] else if b = 253 then [123, 33] else 123 :: wordN b
noncomputable def kbN (b : Nat) (l : List Nat) : List Nat := if b = 125 ∨ b = 253 then 125 :: l else l
noncomputable def lettersN : List Nat := [116, 100, 99, 98, 97]
noncomputable def chkW (b : Nat) (n : Nat) : Bool := decide (spl (qnameOf (W b) (mkS [n])) = [mkS (kaN b), mkS (kbN b [n])])
theorem key_all : ((List.range 257).all fun b => lettersN.all fun n => chkW b n) = true := by decide +kernel
theorem letter_of {l : Str} (hl : l ∈ letters) : ∃ n ∈ lettersN, l = mkS [n] :=
  e1a2 (List.mem_map.mp ((show letters = lettersN.map fun n => mkS [n] by decide +kernel) ▸ hl)) fun n hn h => ⟨n, hn, h.symm⟩
theorem words_W {u : Str} (h : u ∈ words) : ∃ a, a < 257 ∧ u = W a := by
  (refine e1a2 (List.mem_map.mp h) fun a ha y3_ => ?_; obtain rfl := y3_)
  exact ⟨a, List.mem_range.mp ha, rfl⟩
theorem q_split (u : Str) (hu : u ∈ words) (l : Str) (hl : l ∈ letters) : (spl (qnameOf u l)).length = 2 ∧ (qnameOf u l).length ≤ 6 := by
  refine ⟨?_, ?_⟩
  · (refine e1a2 (words_W hu) fun a ha y3_ => ?_; obtain rfl := y3_)
    (refine e1a2 (letter_of hl) fun n hn y3_ => ?_; obtain rfl := y3_)
    have h := List.all_eq_true.mp (List.all_eq_true.mp key_all a (List.mem_range.mpr ha)) n hn
    rw [of_decide_eq_true h]; rfl
  · unfold qnameOf
    rw [Str.length_append, Str.length_append, Str.length_append, letters_len l hl]
    exact Nat.add_le_add_right (Nat.add_le_add_right (Nat.add_le_add (Nat.le_of_eq (by decide +kernel : (Str.ofString "{").length = 1)) (words_len u hu)) _) 1
theorem list2 {l : List Str} (h : l.length = 2) : l = [l.getD 0 Str.empty, l.getD 1 Str.empty] := by
  cases l with
  | nil => cases h
  | cons a l => cases l with
    | nil => cases h
    | cons b l => cases l with
      | nil => rfl
      | cons c l => cases h
theorem spl_two {u l : Str} (hu : u ∈ words) (hl : l ∈ letters) : spl (qnameOf u l) = [kaOf (qnameOf u l), kbOf (qnameOf u l)] := list2 (q_split u hu l hl).1
theorem lam_key (A₀ : Around) (h₀ : Heap) (L : Addr) (m : Str → Option Value) (s : Shared) (news : List (Addr × Obj)) (f c' : Addr) (pm ctv : Value) (oc : Obj) (vs : Array Value) (t' : Tok)
   (names : List Str) (hnames : ∀ n ∈ names, ∃ u ∈ words, ∃ l ∈ letters, n = qnameOf u l)
   (B : Below A₀ base outer h₀) (X : (hd.heap_39 w.params).In h₀) (T : Top p loose mean mg mb h₀) (hcs : cs.kind = .function) (hdp : dp + 20 < recursionLimit) (hun : un + 200 < cLine) (hB : AllBare s.gens)
   (hf : (f, kla_obj (Str.ofString "<lambda>") lamQ lamP lamB lamS [] pm c' ctv) ∈ news) (hc : (c', oc) ∈ news) (hd1 : oc.data = .fields vs) (hd2 : vs[1]? = some (.str lamQ t')) :
   KeyCall PR w (ktrTop dp un gd cn cs L a ccd cl outer).in1.in1 h₀ L m news (.ref f) names kaOf kbOf s := by
  intro k t own h tk hk F N
  (refine ex1 (hnames k hk) fun u w2_ => an2 w2_ fun hu w4_ => ex1 w4_ fun l w6_ => an2 w6_ fun hl y7_ => ?_; clear w2_ w4_ w6_; obtain rfl := y7_)
  have hs2 : Txt.splitMax (qnameOf u l) (Str.ofString "}") 1 = _ := spl_two hu hl
  have hq := (q_split u hu l hl).2
  generalize hR : own ++ news = R at *
  replace hf : (f, kla_obj (Str.ofString "<lambda>") lamQ lamP lamB lamS [] pm c' ctv) ∈ R := hR ▸ List.mem_append_right _ hf
  replace hc : (c', oc) ∈ R := hR ▸ List.mem_append_right _ hc
  have N : News h₀ L h ((f, kla_obj (Str.ofString "<lambda>") lamQ lamP lamB lamS [] pm c' ctv) :: (c', oc) :: R) := fun p hp => by
    rcases List.mem_cons.mp hp with rfl | hp
    · exact N _ hf
    · rcases List.mem_cons.mp hp with rfl | hp
      · exact N _ hc
      · exact N _ hp
  generalize hqq : qnameOf u l = qq at *
  generalize kaOf qq = ka at *
  generalize kbOf qq = kb at *
  clear hf hc hR hnames hk
  unfold lamP lamB lamS at *
  refine wpAny_mono (?_ : wpAny _ _ _ (fun (v : Value) (s' : Shared) => Stop (∃ (h' : Heap) (tk' : Nat) (b : Addr) (a1 a2 : Tok) (n : Nat), v = Value.ref b ∧ s' = { s with heap := h', toks := tk' } ∧ Fr h₀ L h' m ∧ News h₀ L h' ((b, listOf #[.str ka a1, .str kb a2] n) :: R) ∧ ∀ p ∈ R, p.1 < b)) (fun _ _ => False) _) (fun _ _ h => h) (fun _ _ h => h)
  refine wpAny_call ?_
  refine' kla_code ?k1 ?k2 ?k3 ?k4 ?k5 ?kA ?kF ?kK ?k6 ?k7 ?k8 ?k9 ?kB ?_ ?c2 ?c3 ?c4 ?c5; (case kA => exact rfl); (case kF => exact rfl); (case kK => exact hcs); (case k1 => k_asm); (case k2 => k_asm); (case k3 => k_asm); (case k4 => k_asm); (case k5 => k_asm); (case k6 => k_mem); (case k7 => exact codeRec_news (by k_asm) (by k_mem) (by assumption) (by assumption)); (case k8 => k_room); (case k9 => exact rfl); (case c5 => decide); (case kB => exact locs rfl); (case c2 => exact rfl); (case c3 => exact rfl); (case c4 => exact rfl); k_whole; intro g' L' h' FG' F' N' B' X' T'; (try dsimp only); (try k_lift B'); (try k_fold)
  k_steps
  rename (List.map _ _ = Txt.splitMax _ _ _) => hl
  rename News h₀ L _ _ => kN
  rename Fr h₀ L _ m => kF
  rename News _ _ h' _ => kN0
  rw [hs2] at hl
  (refine ex2 (two_of hl) fun t1 t2 y1_ => ?_; obtain rfl := y1_)
  exact ⟨_, _, _, t1, t2, 0, rfl, rfl, kF, fun p hp => kN p (by
    rcases List.mem_cons.mp hp with rfl | hp
    · exact .head _
    · exact .tail _ (.tail _ (.tail _ hp))), fun p hp => Heap.lt_size (kN0 p (.tail _ (.tail _ hp))).1⟩
end
section
/-! the program's statements, named by their places -/
noncomputable def stBody : Stmt → List Stmt
  | .FunctionDef _ _ b _ _ _ _ _ _ _ => b
  | .ClassDef _ _ _ b _ _ _ _ _ _ _ => b
  | .For _ _ b _ _ => b
  | _ => []
noncomputable def stScope : Stmt → Scope
  | .FunctionDef _ _ _ _ _ _ s _ _ _ => s
  | .ClassDef _ _ _ _ _ _ s _ _ _ _ => s
  | _ => { kind := .function, names := [], isGenerator := false, isCoroutine := false }
noncomputable def noSt : Stmt := .Pass ⟨0, 0, 0, 0⟩
noncomputable def nth (l : List Stmt) (i : Nat) : Stmt := l.getD i noSt
noncomputable def clsSt (i : Nat) : Stmt := nth (stBody (nth PR.main.body 7)) i
noncomputable def topSt (i : Nat) : Stmt := nth PR.main.body i
noncomputable def startB : { l : List Stmt // l = stBody (clsSt 8) } := ⟨_, by conv => rhs; whnf⟩
noncomputable def startS : { x : Scope // x = stScope (clsSt 8) } := ⟨_, by conv => rhs; whnf⟩
noncomputable abbrev startE (L' : Addr) : Env := envOfC (Str.ofString "C14NWriterTarget._start") startS.1 L' 126 (.ref 125)
theorem drop_nth : ∀ {l : List Stmt} {i : Nat}, i < l.length → l.drop i = nth l i :: l.drop (i + 1)
  | a :: l, 0, _ => rfl
  | a :: l, i + 1, h => by
    have := drop_nth (l := l) (i := i) (by simpa using h)
    simpa [nth] using this
theorem execs_at {M : Model} {A : Around} {E : Value → Shared → Prop} {s : Shared} {env : Env} {Q : Flow → Shared → Prop} {l : List Stmt} (i : Nat) (hi : i < l.length)
    (h : wpAny M A (exec (nth l i) env) (fun f s' => match f with | .next => wpAny M A (execs (l.drop (i + 1)) env) Q E s' | f => Q f s') E s) : wpAny M A (execs (l.drop i) env) Q E s := by
  rw [drop_nth hi]
  exact wpAny_execs_cons h
theorem execs_end {M : Model} {A : Around} {E : Value → Shared → Prop} {s : Shared} {env : Env} {Q : Flow → Shared → Prop} {l : List Stmt} (i : Nat) (hi : l.length ≤ i) (h : Q .next s) : wpAny M A (execs (l.drop i) env) Q E s := by
  rw [List.drop_of_length_le hi]
  exact wpAny_execs_nil h
theorem news_ne {h₀ h : Heap} {L : Addr} {l : List (Addr × Obj)} (N : News h₀ L h l) {a b : Addr} {o o' : Obj} (h1 : (a, o) ∈ l) (h2 : (b, o') ∈ l) (hne : o.data ≠ o'.data) : @Ne Nat a b := fun e => hne (by
  have z1 := (N (a, o) h1).1
  have z2 := (N (b, o') h2).1
  rw [← e] at z2
  rw [show h.get? a = some o from z1] at z2
  injection z2 with z2
  rw [z2])
noncomputable def endB : { l : List Stmt // l = stBody (clsSt 9) } := ⟨_, by conv => rhs; whnf⟩
noncomputable def endS : { x : Scope // x = stScope (clsSt 9) } := ⟨_, by conv => rhs; whnf⟩
noncomputable abbrev endE (L' : Addr) : Env := envOf (Str.ofString "C14NWriterTarget.end") endS.1 L' 133 (.ref 132)
noncomputable def beginB : { l : List Stmt // l = stBody (clsSt 7) } := ⟨_, by conv => rhs; whnf⟩
noncomputable def beginS : { x : Scope // x = stScope (clsSt 7) } := ⟨_, by conv => rhs; whnf⟩
noncomputable abbrev beginE (L' : Addr) : Env := envOf (Str.ofString "C14NWriterTarget.start") beginS.1 L' 120 (.ref 119)
noncomputable def toldB : { l : List Stmt // l = stBody (topSt 16) } := ⟨_, by conv => rhs; whnf⟩
noncomputable def toldS : { x : Scope // x = stScope (topSt 16) } := ⟨_, by conv => rhs; whnf⟩
noncomputable abbrev toldE (L' : Addr) : Env := envOf (Str.ofString "_law_told") toldS.1 L' 203 (.ref 202)
noncomputable def dueB : { l : List Stmt // l = stBody (topSt 20) } := ⟨_, by conv => rhs; whnf⟩
noncomputable def dueS : { x : Scope // x = stScope (topSt 20) } := ⟨_, by conv => rhs; whnf⟩
noncomputable def toldF : { l : List Stmt // l = stBody (nth toldB.1 3) } := ⟨_, by conv => rhs; whnf⟩
noncomputable def dueF : { l : List Stmt // l = stBody (nth dueB.1 4) } := ⟨_, by conv => rhs; whnf⟩
end
section
section
variable {prog : Program} {w : World} {A : Around} {E : Value → Shared → Prop} {s : Shared} {h₀ : Heap} {L : Addr} {m : Str → Option Value} {news : List (Addr × Obj)}
theorem upd_again {d : Addr} {o : Obj} {l : List (Addr × Obj)} {g : Obj → List (Addr × Obj)} (u : UpdF d o l g) (o' : Obj) : UpdF d o' (g o') g := by
  induction u with
  | head h => exact .head h
  | tail h r ih => exact .tail h ih
theorem upd_mem {d : Addr} {o : Obj} {l : List (Addr × Obj)} {g : Obj → List (Addr × Obj)} (u : UpdF d o l g) : (d, o) ∈ l := by
  induction u with
  | head h => exact .head _
  | tail h r ih => exact .tail _ ih
theorem upd_other {d : Addr} {o : Obj} {l : List (Addr × Obj)} {g : Obj → List (Addr × Obj)} (u : UpdF d o l g) (o' : Obj) : ∀ p ∈ l, p.1 ≠ d → p ∈ g o' := by
  induction u with
  | head h => exact fmc (fun hd => absurd rfl hd) (fun p hp _ => .tail _ hp)
  | tail h r ih => exact fmc (fun _ => .head _) (fun p hp hd => .tail _ (ih p hp hd))
theorem tup_lt2 {x y : Addr} {a b c d : Str} {t1 t2 t3 t4 : Tok} {Q : Bool → Shared → Prop} (hx : s.heap.get? x = some (tup2 a t1 b t2)) (hy : s.heap.get? y = some (tup2 c t3 d t4))
    (h : Q (klt2 a b c d) s) : wpAny (model prog w) A (keyLt' (tuples' true) (.ref x) (.ref y)) Q E s := by
  refine kat_lt hx rfl hy rfl ?_
  show KatLex prog w A true false Q [(.str a t1, .str c t3), (.str b t2, .str d t4)] 0 s
  refine kat_cons (wpAny_eqBool_str ?_)
  unfold klt2 at h
  by_cases q : a = c
  · rw [if_pos q] at h
    rw [decide_eq_true q]
    refine kat_yes (kat_cons (wpAny_eqBool_str ?_))
    by_cases q2 : b = d
    · rw [decide_eq_true q2]
      refine kat_yes (kat_nil ?_)
      rw [q2] at h
      rw [decide_eq_false (List.lt_irrefl _)] at h; exact h
    · rw [decide_eq_false q2]
      refine kat_no (kat_one _ _ ?_)
      exact rich_lt_str h
  · rw [if_neg q] at h
    rw [decide_eq_false q]
    exact kat_no (oneLt_str h)
theorem A2.tups {β : Type} {bs : List β} {h : Heap} {R : Value → β → Prop} {P : Value → Prop} {vs : List Value} (hr : ∀ v q, R v q → ∃ f, KatTups h [v] [f] ∧ P f) (k : A2 R vs bs) : ∃ fs, KatTups h vs fs ∧ fs.length = bs.length ∧ ∀ f ∈ fs, P f :=
  A2.ind (R := R) (P := fun vs bs => ∃ fs, KatTups h vs fs ∧ fs.length = bs.length ∧ ∀ f ∈ fs, P f) ⟨[], trivial, rfl, fun _ h => nomatch h⟩ (fun v q vs qs r _ ih => by
    refine e1a2 (hr v q r) fun f t hp => e1a3 ih fun fs kt hl hf => ?_
    exact ⟨f :: fs, ⟨t.1, kt⟩, congrArg (· + 1) hl, fmc hp hf⟩) k
theorem PairsAt.nth {l : List (Addr × Obj)} {vs qs} (k : PairsAt l vs qs) (i : Nat) (hi : i < qs.length) : ∃ a t1 t2, vs.getD i Value.none = .ref a ∧ (a, tup2 (qs.getD i (Str.empty, Str.empty)).1 t1 (qs.getD i (Str.empty, Str.empty)).2 t2) ∈ l := A2.nth k _ _ i hi
theorem PairsAt.pick {l : List (Addr × Obj)} {vs qs} (h : PairsAt l vs qs) {p : List Nat} (hp : ∀ i ∈ p, i < qs.length) : PairsAt l (p.map fun i => vs.getD i Value.none) (p.map fun i => qs.getD i (Str.empty, Str.empty)) := A2.pick h _ _ hp
theorem PairsAt.tups {l : List (Addr × Obj)} {h : Heap} (hl : ∀ q ∈ l, h.get? q.1 = some q.2) {vs qs} (k : PairsAt l vs qs) : ∃ fs, KatTups h vs fs ∧ fs.length = qs.length ∧ ∀ f ∈ fs, ∃ x t, f = Value.str x t :=
  A2.tups (fun _ q r => e3a2 r fun a t1 t2 e m => ⟨.str q.1 t1, ⟨⟨a, _, _, _, e, hl _ m, rfl, rfl, rfl⟩, trivial⟩, exI2 _ _ rfl⟩) k
theorem swo_rows (rows : List (Str × Str)) {n : Nat} : SWO n (fun i j => klt2 (rows.getD i (Str.empty, Str.empty)).1 (rows.getD i (Str.empty, Str.empty)).2 (rows.getD j (Str.empty, Str.empty)).1 (rows.getD j (Str.empty, Str.empty)).2) :=
  swo_klt (fun i => (rows.getD i (Str.empty, Str.empty)).1) (fun i => (rows.getD i (Str.empty, Str.empty)).2)
theorem perm_map_getD {α : Type} (rows : List α) (d : α) {p : List Nat} (hp : p.Perm (List.range rows.length)) : (p.map fun i => rows.getD i d).Perm rows := by
  refine (hp.map _).trans (List.Perm.of_eq ?_)
  refine List.ext_getElem (by simp) fun i h1 h2 => ?_
  simp at h1
  simp [h1]
/-- rows that are sorted -/
noncomputable abbrev SortedR (rows : List (Str × Str)) : Prop := rows.Pairwise fun x y => klt2 y.1 y.2 x.1 x.2 = false
theorem short_sort {a : Addr} {vs : List Value} {n : Nat} {P : PySem.Fin → Shared → Prop} (F : Fr h₀ L s.heap m) (N : News h₀ L s.heap news) (ho : s.heap.get? a = some (seqObj "list" vs.toArray n)) (haL : a ≠ L) (ha0 : h₀.get? a = none) (hna : ∀ p ∈ news, p.1 ≠ a)
    (h2 : vs.length < 2) (h : ∀ c h', Fr h₀ L h' m → News h₀ L h' ((a, seqObj "list" vs.toArray c) :: news) → P (.done (.ret .none)) { s with heap := h' }) :
    wpAny (model prog w) A (Builtin.«list.sort» ⟨[.ref a], []⟩) P E s := by
  have ha : a < s.heap.objs.size := Heap.lt_size ho
  have s1 := Heap.SameBut.update s.heap a (Obj.mapSeq fun _ => (#[] : Array Value))
  obtain ⟨e1, ho1⟩ : ∃ e1, (s.heap.update a (Obj.mapSeq fun _ => (#[] : Array Value))).get? a = some (seqObj "list" #[] e1) := ⟨_, get?_update_seq ho fun _ => #[]⟩
  have F3 : Fr h₀ L (((s.heap.update a (Obj.mapSeq fun _ => (#[] : Array Value))).push (seqObj "tuple" vs.toArray 0)).push (seqObj "list" #[] 0)) m := ((kas_fr F s1 haL ha0).push _).push _
  have N2 : News h₀ L (((s.heap.update a (Obj.mapSeq fun _ => (#[] : Array Value))).push (seqObj "tuple" vs.toArray 0)).push (seqObj "list" #[] 0)) news :=
    (kas_news N s1 hna).grown fun b x e => Heap.get?_push_of_some _ (Heap.get?_push_of_some _ e)
  have N3 : News h₀ L (((s.heap.update a (Obj.mapSeq fun _ => (#[] : Array Value))).push (seqObj "tuple" vs.toArray 0)).push (seqObj "list" #[] 0)) ((a, seqObj "list" #[] e1) :: news) := fun p hp => by
    rcases List.mem_cons.mp hp with rfl | hp
    · exact ⟨Heap.get?_push_of_some _ (Heap.get?_push_of_some _ ho1), haL, ha0⟩
    · exact N2 p hp
  have na := N3 _ (.head _)
  rw [list_sort_plain]
  refine wpAny_bind (listItems_at ho rfl ?_)
  refine wpAny_bind (listUpdate_at ho rfl ?_ (by rw [List.size_toArray, sizeLine_eq]; k_room) (Nat.zero_le _))
  refine wpAny_bind (seqEpoch_at ho1 rfl ?_)
  refine wpAny_bind (wpAny_newTuple ?_ (by show vs.length ≤ _; rw [sizeLine_eq]; k_room))
  refine wpAny_bind (wpAny_newList ?_ (Nat.zero_le _))
  refine wpAny_holding ?_
  show wpAny (model prog w) A _ P E { s with heap := ((s.heap.update a (Obj.mapSeq fun _ => (#[] : Array Value))).push (seqObj "tuple" vs.toArray 0)).push (seqObj "list" #[] 0) }
  dsimp only
  have hn2 : vs.toArray.size < 2 := by rw [List.size_toArray]; k_room
  rw [if_pos hn2, if_pos hn2]
  refine wpAny_bind (wpAny_pure (wpAny_bind (wpAny_pure ?_)))
  dsimp only
  have hout : (arrOf (SortSt.mk' general' (vs.toArray.zip vs.toArray) #[] 7 none)).map (·.2) = vs.toArray := by
    show (vs.toArray.zip vs.toArray).map (·.2) = vs.toArray
    refine Array.ext (by simp) fun i h1 h2 => by simp
  rw [hout]
  obtain ⟨c2, hc2⟩ : ∃ c2, ((((s.heap.update a (Obj.mapSeq fun _ => (#[] : Array Value))).push (seqObj "tuple" vs.toArray 0)).push (seqObj "list" #[] 0)).update a (Obj.mapSeq fun _ => vs.toArray)).get? a = some (seqObj "list" vs.toArray c2) := ⟨_, get?_update_seq na.1 fun _ => vs.toArray⟩
  have s2 := Heap.SameBut.update (((s.heap.update a (Obj.mapSeq fun _ => (#[] : Array Value))).push (seqObj "tuple" vs.toArray 0)).push (seqObj "list" #[] 0)) a (Obj.mapSeq fun _ => vs.toArray)
  refine wpAny_bind (seqEpoch_at na.1 rfl ?_)
  refine wpAny_bind (listUpdate_at na.1 rfl ?_ (Nat.zero_le _) (by rw [List.size_toArray, sizeLine_eq]; k_room))
  simp only [bne_self_eq_false, Bool.false_eq_true, if_false]
  refine wpAny_pure (h c2 _ (kas_fr F3 s2 na.2.1 na.2.2) fun p hp => ?_)
  rcases List.mem_cons.mp hp with rfl | hp
  · exact ⟨hc2, haL, ha0⟩
  · exact kas_news N2 s2 hna p hp
theorem short_lsort {D : Addr} {its : Array Value} {n : Nat} {g : Obj → List (Addr × Obj)} {Q : Value → Shared → Prop} (F : Fr h₀ L s.heap m) (N : News h₀ L s.heap news) (U : UpdF D (listOf its n) news g) (h2 : its.size < 2)
    (h : ∀ c h', Fr h₀ L h' m → News h₀ L h' (g (listOf its c)) → Q .none { s with heap := h' }) :
    wpAny (model prog w) A (call (.builtin "list.sort") [.ref D]) Q E s := by
  (refine e2a4 U.split fun pre post e0 hg x1 x2 => ?_)
  rw [e0] at N
  have nz := N (D, listOf its n) (List.mem_append_right _ (.head _))
  have ho : s.heap.get? D = some (seqObj "list" its.toList.toArray n) := by rw [Array.toArray_toList]; exact nz.1
  have N₀ : News h₀ L s.heap (pre ++ post) := fun p hp => N p ((List.mem_append.mp hp).elim (fun q => List.mem_append_left _ q) fun q => List.mem_append_right _ (.tail _ q))
  refine wpAny_call_entry slot_list_sort ⟨_, nz.1, rfl⟩ entry_list_sort (short_sort (news := pre ++ post) F N₀ ho nz.2.1 nz.2.2 (fun p hp => (List.mem_append.mp hp).elim (x1 p) (x2 p)) (by rw [Array.length_toList]; exact h2) fun c h' F' N' => ?_) (args_list_sort _)
  refine ⟨_, rfl, h c h' F' ?_⟩
  rw [Array.toArray_toList] at N'
  rw [hg]
  intro p hp
  rcases List.mem_append.mp hp with hp | hp
  · exact N' p (.tail _ (List.mem_append_left _ hp))
  · rcases List.mem_cons.mp hp with rfl | hp
    · exact N' _ (.head _)
    · exact N' p (.tail _ (List.mem_append_right _ hp))
/-- list.sort of a list of tuples, by any order that the comparison follows -/
theorem any_lsort {D : Addr} {its : Array Value} {n : Nat} {g : Obj → List (Addr × Obj)} {vs : List Value} {T : Value} {lt : Nat → Nat → Bool} {Q : Value → Shared → Prop} (F : Fr h₀ L s.heap m) (N : News h₀ L s.heap news) (U : UpdF D (listOf its n) news g) (he : its.toList = vs) (h2 : 2 ≤ vs.length) (h5 : vs.length ≤ 5)
    (o : SWO vs.length lt) (hT2 : (T == T) = true)
    (hk : ∀ h', (∀ q ∈ news, q.1 ≠ D → h'.get? q.1 = some q.2) → ∃ fs, KatTups h' vs fs ∧ fs.length = vs.length ∧ ∀ v ∈ fs, Looks (model prog w) h' (typeOf v) T)
    (hc : ∀ h' i j (C : Bool → Shared → Prop), (∀ q ∈ news, q.1 ≠ D → h'.get? q.1 = some q.2) → i < vs.length → j < vs.length → C (lt i j) { s with heap := h' } → kas_ask prog w A.in1 (tuples' (T != .type "tuple")) vs i j C { s with heap := h' })
    (h : ∀ (p : List Nat) c h', p.Perm (List.range vs.length) → p.Pairwise (fun a b => lt b a = false) → Fr h₀ L h' m → News h₀ L h' (g (listOf (p.map fun i => vs.getD i Value.none).toArray c)) → Q .none { s with heap := h' }) :
    wpAny (model prog w) A (call (.builtin "list.sort") [.ref D]) Q E s := by
  refine kat_lsort F N U he h2 (by k_room) fun e1 h' F' N' => ?_
  have hm : ∀ q ∈ news, q.1 ≠ D → h'.get? q.1 = some q.2 := fun q hq hd => (N' q (upd_other U _ q hq hd)).1
  (refine e1a3 (hk h' hm) fun fs k1 hfl k2 => ?_)
  refine kat_kind k1 (by k_room) k2 hT2 ?_
  (refine an3 (sort_pure h2 h5 o) fun hin hpm hpw => ?_)
  refine kas_pure (n := vs.length) (lt := lt) (Inv := fun s' => s' = { s with heap := h' }) ?_ _ _ rfl hin ?_
  · rintro i j hi hj C s' rfl hC
    exact hc h' i j C hm hi hj (hC _ rfl)
  · rintro s' rfl
    refine KasFin.intro F' N' (upd_again U _) fun h'' c F'' N'' => ?_
    exact h _ c h'' hpm hpw F'' N''
theorem pairs_lsort {D : Addr} {its : Array Value} {n : Nat} {g : Obj → List (Addr × Obj)} {rows : List (Str × Str)} {tl : List (Addr × Obj)} {Q : Value → Shared → Prop} (F : Fr h₀ L s.heap m) (N : News h₀ L s.heap news) (U : UpdF D (listOf its n) news g)
    (hp : PairsAt tl its.toList rows) (htl : ∀ q ∈ tl, q ∈ news ∧ q.1 ≠ D) (h5 : rows.length ≤ 5)
    (h : ∀ vs' rows' c h', PairsAt tl vs' rows' → rows'.Perm rows → SortedR rows' → Fr h₀ L h' m → News h₀ L h' (g (listOf vs'.toArray c)) → Q .none { s with heap := h' }) :
    wpAny (model prog w) A (call (.builtin "list.sort") [.ref D]) Q E s := by
  have hl := hp.len
  by_cases h2 : rows.length < 2
  · refine short_lsort F N U (by rw [← Array.length_toList]; k_room) fun c h' F' N' => ?_
    have e : listOf its c = listOf its.toList.toArray c := by rw [Array.toArray_toList]
    rw [e] at N'
    refine h _ _ c h' hp (List.Perm.refl _) ?_ F' N'
    clear h hp hl h5 N'
    cases rows with
    | nil => exact .nil
    | cons x r => rw [List.length_eq_zero_iff.mp (Nat.le_zero.mp (Nat.le_of_lt_succ (Nat.lt_of_succ_lt_succ h2)))]; exact List.pairwise_singleton _ _
  · refine any_lsort (T := .type "str") (lt := fun i j => klt2 (rows.getD i (Str.empty, Str.empty)).1 (rows.getD i (Str.empty, Str.empty)).2 (rows.getD j (Str.empty, Str.empty)).1 (rows.getD j (Str.empty, Str.empty)).2) F N U rfl (by k_room) (by k_room) (swo_rows rows) (by decide) (fun h' hm => ?_) (fun h' i j C hm hi hj hC => ?_) fun p c h' hpm hpw F' N' => ?_
    · (refine e1a3 (hp.tups (h := h') fun q hq => hm q (htl q hq).1 (htl q hq).2) fun fs' k' hf' hx' => ?_)
      exact ⟨fs', anI3 k' (by k_room) (fun v hv => by (refine ex2 (hx' v hv) fun x t y1_ => ?_; obtain rfl := y1_); exact Looks.of_pure rfl)⟩
    · (refine e3a2 (hp.nth i (by k_room)) fun a t1 t2 e1 m1 => ?_)
      (refine e3a2 (hp.nth j (by k_room)) fun b t3 t4 e2 m2 => ?_)
      unfold kas_ask
      rw [e1, e2]
      rw [show (Value.type "str" != Value.type "tuple") = true by decide]
      exact tup_lt2 (hm _ (htl _ m1).1 (htl _ m1).2) (hm _ (htl _ m2).1 (htl _ m2).2) hC
    · rw [hl] at hpm
      have hb : ∀ i ∈ p, i < rows.length := fun i hi => List.mem_range.mp (hpm.mem_iff.mp hi)
      refine h _ _ c h' (hp.pick hb) (perm_map_getD rows _ hpm) ?_ F' N'
      rw [SortedR, List.pairwise_map]
      exact hpw
/-- sorted of a list: a new list, then its sort -/
theorem sorted_list {l : Addr} {vs : List Value} {Q : Value → Shared → Prop} (F : Fr h₀ L s.heap m) (N : News h₀ L s.heap news) (hl : s.heap.IsList l vs.toArray) (hz : vs.length ≤ 1000)
    (h : ∀ B c h', Fr h₀ L h' m → News h₀ L h' ((B, listOf vs.toArray c) :: news) → (∀ q ∈ news, q.1 < B) → wpAny (model prog w) A.in1 (call (.builtin "list.sort") [.ref B]) (fun _ s' => Q (.ref B) s') E { s with heap := h' }) :
    wpAny (model prog w) A (call (.builtin "sorted") [.ref l]) Q E s := by
  refine Calls.call_function_entry kind_sorted plain_sorted entry_sorted (args_sorted1 _) ?_
  unfold Builtin.«sorted»
  refine wpAny_bind (m := checkCount "sorted" 1 1 _) (wpAny_pure ?_)
  refine wpAny_bind (collect_list hl ?_ (by rw [sizeLine_eq]; k_room))
  refine wpAny_bind (wpAny_newList ?_ (by rw [sizeLine_eq]; k_room))
  have hsz : ((s.heap.push (seqObj "list" #[] 0)).update s.heap.objs.size (Obj.mapSeq (· ++ vs.toArray))).objs.size = s.heap.objs.size + 1 := by
    rw [Heap.size_update, size_push']
  have hoL : (((s.heap.push (seqObj "list" #[] 0)).update s.heap.objs.size (Obj.mapSeq (· ++ vs.toArray))).push (seqObj "list" vs.toArray 0)).get? (s.heap.objs.size + 1) = some (seqObj "list" vs.toArray 0) := by
    rw [← hsz]; exact Heap.get?_push_size _ rfl
  have keep : ∀ b o, s.heap.get? b = some o → (((s.heap.push (seqObj "list" #[] 0)).update s.heap.objs.size (Obj.mapSeq (· ++ vs.toArray))).push (seqObj "list" vs.toArray 0)).get? b = some o := fun b o q => by
    have hlt : b < s.heap.objs.size := Heap.lt_size q
    rw [Heap.get?_push_ne _ _ _ (by rw [hsz]; exact Nat.ne_of_lt (Nat.lt_succ_of_lt hlt)), Heap.get?_update_ne _ _ _ _ (Nat.ne_of_lt hlt), Heap.get?_push_ne _ _ _ (Nat.ne_of_lt hlt)]
    exact q
  have hL : L < s.heap.objs.size := F.ns.lt
  show wpAny _ _ _ _ _ { s with heap := ((s.heap.push (seqObj "list" #[] 0)).update s.heap.objs.size (Obj.mapSeq (· ++ vs.toArray))).push (seqObj "list" vs.toArray 0) }
  rw [hsz]
  refine wpAny_bind (wpAny_holding (wpAny_mono (h (s.heap.objs.size + 1) 0 _ (F.kept keep) (fun p hp => ?_) fun q hq => Nat.lt_succ_of_lt (Heap.lt_size (N q hq).1)) (fun _ s' x => ?_) fun _ _ e => e))
  · rcases List.mem_cons.mp hp with rfl | hp
    · exact ⟨hoL, Nat.ne_of_gt (Nat.lt_succ_of_lt hL), Heap.get?_none_of_le (Nat.le_trans F.above (Nat.le_succ_of_le (Nat.le_of_lt hL)))⟩
    · exact N.grown keep p hp
  · exact wpAny_pure ⟨_, rfl, x⟩
end
end
section
open LCg
section
variable {prog : Program} {w : World} {A : Around} {E : Value → Shared → Prop} {s : Shared} {h₀ : Heap} {L : Addr} {m : Str → Option Value} {env : Env}
theorem ListComp_str {elt iter : Expr} {x : Str} {px : Pos} {scope : Scope} {cl : List (Str × Addr)} {pos : Pos} {Q : Value → Shared → Prop} (F₀ : Fr h₀ L s.heap m)
    (hclos : closureFor scope env = pure cl) (hcell : ∀ y ∈ scope.names, y.2 ≠ .cell) (hkind : scope.kind = .function)
    (hnames : ∀ y ∈ scope.names, y.2 = .local → scope.names.lookup y.1 = some .local) (hx : scope.names.lookup x = some .local)
    (h : wpAny (model prog w) A (eval iter env) (fun xv s₁ => Stop (∃ X t news, xv = .str X t ∧ A.handled = none ∧ Fr h₀ L s₁.heap m ∧ News h₀ L s₁.heap news ∧ X.cps.size ≤ sizeLine ∧
      ∀ s₂ : Shared, (∃ h, s₂ = { s₁ with heap := h }) → CompRest prog w A h₀ L m env elt x scope cl s₂ (fun _ => True) (SignAt X) (FinE h₀ L m s₂ Q) X.cps.size 0 [] news)) E s)
    (hs : ∀ x, foldedSetIterable iter env x = pure x := by intro _; rfl) :
    wpAny (model prog w) A (eval (.ListComp elt [⟨.Name x px, iter, [], 0⟩] scope pos) env) Q E s := by
  rw [eval_ListComp]
  refine wpAny_comprehension_free (use := none) rfl hs hclos hkind hnames (wpAny_mono h (fun xv s₁ h₁ => ?_) fun _ _ e => e)
  unfold Stop at h₁
  (refine e3a6 h₁ fun X t news y3_ hh F N hsz R => ?_; try clear h₁; obtain rfl := y3_)
  refine wpAny_pyIter_strU ?_
  have up : ∀ b o, s₁.heap.get? b = some o → (s₁.heap.push { cls := .type (strIterType X), data := .fields #[.str X t, .int 0 0] }).get? b = some o := fun b o e => Heap.get?_push_of_some _ e
  have W : Walks prog w A s₁.heap.objs.size [s₁.heap.objs.size] [s₁.heap.objs.size] X.cps.size (SignAt X) (fun i h => h.IsStrIter s₁.heap.objs.size (strIterType X) X t i) := by
    unfold strIterType
    cases X.cps.all (· < 128)
    · exact Walks.strWide hh _ X t
    · exact Walks.strAscii hh _ X t
  refine block_U W hsz (fun i h st => by (refine e1a2 st fun o e _ => ?_; try clear st); exact ⟨o, e⟩) (fun i h h' o nw st e e' _ _ _ => by (refine e1a2 st fun o' q r => ?_; try clear st); rw [e] at q; cases q; exact ⟨o, e', r⟩) hcell hkind hx ⟨_, Heap.get?_push_size _ rfl, rfl, rfl⟩ (fun b hb => ?_)
    (F.keeps up) (N.grown up) (Nat.ne_of_lt F.ns.lt) (next_is_new F) (fun p hp => Nat.ne_of_lt (Heap.lt_size (N p hp).1)) trivial (R _ ⟨_, rfl⟩) ?_
  · rw [List.mem_singleton.mp hb]
    show s₁.heap.objs.size < (s₁.heap.push _).objs.size
    rw [Heap.size_push]; exact Nat.lt_succ_self _
  · intro D C h tk m' ys news' F' N' o1 hn hC₀ hD₀ hCL hDL hCD offC fin
    refine ⟨m', hn, fun h'' hs'' => fin D h'' tk (F'.change hs'' hCL hC₀) (fun p hp => ?_) o1⟩
    refine ⟨hs''.extBut _ _ ?_ (N' p hp).1, (N' p hp).2⟩
    rcases List.mem_cons.mp hp with rfl | hp
    · exact Ne.symm hCD
    · exact offC p hp
end
noncomputable def refsKv (v1 v2 v3 v4 v5 v6 : Value) : List (Str × Value) := [(Str.ofString "&", v1), (Str.ofString "<", v2), (Str.ofString "\"", v3), (Str.ofString "\t", v4), (Str.ofString "\n", v5), (Str.ofString "\r", v6)]
theorem rg_step {n : Str} {d c : Nat} {v : Value} {qs : List (Str × Value)} {u : Tok} (e : n = ⟨#[d]⟩) (hit : c = d → ∃ t, v = .str ⟨(splN c).toArray⟩ t) (skip : c ≠ d → ∃ t, (valueAt qs (⟨#[c]⟩ : Str)).getD (.str ⟨#[c]⟩ u) = .str ⟨(splN c).toArray⟩ t) :
    ∃ t, (valueAt ((n, v) :: qs) (⟨#[c]⟩ : Str)).getD (.str ⟨#[c]⟩ u) = .str ⟨(splN c).toArray⟩ t := by
  subst e
  by_cases h : c = d
  · rw [show valueAt ((⟨#[d]⟩, v) :: qs) (⟨#[c]⟩ : Str) = some v from congrArg (Option.map Prod.snd) (List.find?_cons_of_pos (p := fun x : Str × Value => decide (x.1 = ⟨#[c]⟩)) (decide_eq_true (by rw [h])))]
    exact hit h
  · rw [show valueAt ((⟨#[d]⟩, v) :: qs) (⟨#[c]⟩ : Str) = valueAt qs ⟨#[c]⟩ from congrArg (Option.map Prod.snd) (List.find?_cons_of_neg (p := fun x : Str × Value => decide (x.1 = ⟨#[c]⟩)) fun q => h (by
      have q : (⟨#[d]⟩ : Str) = ⟨#[c]⟩ := of_decide_eq_true q
      injection q with q; injection q with q; injection q with q; exact q.symm))]
    exact skip h
theorem refs_get (c : Nat) (u t1 t2 t3 t4 t5 t6 : Tok) : ∃ t, (valueAt (refsKv (.str (Str.ofString "&amp;") t1) (.str (Str.ofString "&lt;") t2) (.str (Str.ofString "&quot;") t3) (.str (Str.ofString "&#x9;") t4) (.str (Str.ofString "&#xA;") t5) (.str (Str.ofString "&#xD;") t6)) ⟨#[c]⟩).getD (.str ⟨#[c]⟩ u) = .str ⟨(splN c).toArray⟩ t := by
  refine rg_step (d := 38) (by decide +kernel) (fun h => ⟨t1, by rw [h]; exact congrArg (Value.str · t1) (by decide +kernel)⟩) fun h1 => ?_
  refine rg_step (d := 60) (by decide +kernel) (fun h => ⟨t2, by rw [h]; exact congrArg (Value.str · t2) (by decide +kernel)⟩) fun h2 => ?_
  refine rg_step (d := 34) (by decide +kernel) (fun h => ⟨t3, by rw [h]; exact congrArg (Value.str · t3) (by decide +kernel)⟩) fun h3 => ?_
  refine rg_step (d := 9) (by decide +kernel) (fun h => ⟨t4, by rw [h]; exact congrArg (Value.str · t4) (by decide +kernel)⟩) fun h4 => ?_
  refine rg_step (d := 10) (by decide +kernel) (fun h => ⟨t5, by rw [h]; exact congrArg (Value.str · t5) (by decide +kernel)⟩) fun h5 => ?_
  refine rg_step (d := 13) (by decide +kernel) (fun h => ⟨t6, by rw [h]; exact congrArg (Value.str · t6) (by decide +kernel)⟩) fun h6 => ⟨u, ?_⟩
  rw [show splN c = [c] from by unfold splN; rw [if_neg h1, if_neg h2, if_neg h3, if_neg h4, if_neg h5, if_neg h6]]; rfl
theorem strsAre_snoc {y : Str} {t : Tok} {vs : List Value} {ys : List Str} (h : StrsAre vs ys) : StrsAre (vs ++ [.str y t]) (ys ++ [y]) := by
  induction h with
  | nil => exact .cons y t .nil
  | cons z u r ih => exact .cons z u ih
section
variable {prog : Program} {w : World} {A : Around} {s : Shared} {h₀ : Heap} {L : Addr} {m : Str → Option Value} {env : Env} {elt : Expr} {x : Str} {scope : Scope} {cl : List (Str × Addr)} {S : List (Addr × Obj) → Prop} {P : Nat → Value → Prop} {Fin : List Value → List (Addr × Obj) → Prop}
theorem CompEnd.mono {s₁ : Shared} {I C D : Addr} {oI oC oD : Obj} {r r' : Value → List (Addr × Obj) → Prop} {y : Value} {s₂ : Shared} (h : CompEnd h₀ L m s₁ I oI C oC D oD S r y s₂) (hr : ∀ y n, r y n → r' y n) : CompEnd h₀ L m s₁ I oI C oC D oD S r' y s₂ := by
  (refine e3a6 h fun h' tk news' e a b c d z => ?_; try clear h)
  exact exI3 h' tk news' (anI6 e a b c d (hr _ _ z))
/-- the turns of a list comprehension by what holds between them -/
theorem rest_inv {n : Nat} (Inv : Nat → List Value → List (Addr × Obj) → Prop)
    (step : ∀ i v ys news, i < n → P i v → Inv i ys news → ∀ I oI C oC D m₂ h tk (E' : Value → Shared → Prop), NsObj oC m₂ → m₂ x = some v → Fr h₀ L h m → News h₀ L h ((I, oI) :: (C, oC) :: (D, lst ys) :: news) → Off3 I C D news → ((@Ne Nat I C) ∧ (@Ne Nat I D) ∧ (@Ne Nat C D)) →
      wpAny (model prog w) A (eval elt (compEnvC scope cl C env)) (CompEnd h₀ L m { s with heap := h, toks := tk } I oI C oC D (lst ys) S (fun y news' => Inv (i + 1) (ys ++ [y]) news')) E' { s with heap := h, toks := tk })
    (fin : ∀ ys news, Inv n ys news → Fin ys news) {news : List (Addr × Obj)} (h0 : Inv 0 [] news) : CompRest prog w A h₀ L m env elt x scope cl s S P Fin n 0 [] news := by
  have key : ∀ k i ys news, k + i = n → Inv i ys news → CompRest prog w A h₀ L m env elt x scope cl s S P Fin k i ys news := by
    intro k
    induction k with
    | zero => intro i ys news hi h; exact fin ys news (by rw [← hi, Nat.zero_add]; exact h)
    | succ k ih =>
      intro i ys news hi h v I oI C oC D m₂ h' tk E' hv hC hx F N off ne
      exact wpAny_mono (step i v ys news (by k_room) hv h I oI C oC D m₂ h' tk E' hC hx F N off ne) (fun y s' he => CompEnd.mono he fun y n hn => ih (i + 1) _ n (by k_room) hn) fun _ _ e => e
  exact key n 0 [] news (by k_room) h0
end
theorem str_nth {x : Str} {i c : Nat} (h : x.cps[i]? = some c) : x.cps.toList.take (i + 1) = x.cps.toList.take i ++ [c] := by
  have h' : x.cps.toList[i]? = some c := by rw [← h]; simp
  rw [List.take_add_one, h']; rfl
theorem comp_val {h₀ : Heap} {L I C D : Addr} {m : Str → Option Value} {s₁ s₂ : Shared} {oI oC oD : Obj} {S : List (Addr × Obj) → Prop} {r : Value → List (Addr × Obj) → Prop} {y : Value} {Y : Str} (h : ∃ t, y = .str Y t) (k : ∀ t, CompEnd h₀ L m s₁ I oI C oC D oD S r (.str Y t) s₂) : CompEnd h₀ L m s₁ I oI C oC D oD S r y s₂ := by
  (refine ex1 h fun t y1_ => ?_; try clear h; obtain rfl := y1_); exact k t
noncomputable def catS (l : List Str) : Str := ⟨(l.flatMap fun x => x.cps.toList).toArray⟩
theorem join_cat (l : List Str) : Txt.join (Str.ofString "") l = catS l := by
  have e : Str.ofString "" = ⟨#[]⟩ := by decide +kernel
  have k : ∀ l : List Str, (Str.join ⟨#[]⟩ l).cps.toList = l.flatMap fun x => x.cps.toList := by
    intro l
    induction l with
    | nil => rfl
    | cons x r ih =>
      cases r with
      | nil => show x.cps.toList = _; simp
      | cons y r =>
        show (x ++ ⟨#[]⟩ ++ Str.join ⟨#[]⟩ (y :: r)).cps.toList = _
        simp only [Str.cps_append, Array.toList_append, ih, List.flatMap_cons]
        simp
  unfold Txt.join
  rw [StrLaws.glued_eq_join, e]
  show _ = Str.mk _
  rw [← k l]
theorem len_cat (l : List Str) : (catS l).length = (l.map (·.length)).sum := by
  unfold catS
  show (List.toArray _).size = _
  rw [List.size_toArray]
  induction l with
  | nil => rfl
  | cons x r ih => rw [List.flatMap_cons, List.length_append, ih, List.map_cons, List.sum_cons]; simp [Str.length]
end
section
section
open LCg LCp
variable {prog : Program} {w : World} {A : Around} {E : Value → Shared → Prop} {s : Shared} {h₀ : Heap} {L : Addr} {m : Str → Option Value} {env : Env}
theorem restP_inv {elt : Expr} {x x₂ : Str} {scope : Scope} {cl : List (Str × Addr)} {S : List (Addr × Obj) → Prop} {P : Nat → Value → Prop} {Fin : List Value → List (Addr × Obj) → Prop} {n : Nat} (Inv : Nat → List Value → List (Addr × Obj) → Prop)
    (step : ∀ i v ys news, i < n → P i v → Inv i ys news → ∃ (t : Addr) (ot : Obj) (v₁ v₂ : Value) (nt : Nat), v = .ref t ∧ (t, ot) ∈ news ∧ ot.cls = .type "tuple" ∧ ot.data = .seq #[v₁, v₂] nt ∧
      ∀ I oI C oC D m₂ h tk (E' : Value → Shared → Prop), NsObj oC m₂ → m₂ x = some v₁ → m₂ x₂ = some v₂ → Fr h₀ L h m → News h₀ L h ((I, oI) :: (C, oC) :: (D, lst ys) :: news) → Off3 I C D news → ((@Ne Nat I C) ∧ (@Ne Nat I D) ∧ (@Ne Nat C D)) →
      wpAny (model prog w) A (eval elt (compEnvC scope cl C env)) (CompEnd h₀ L m { s with heap := h, toks := tk } I oI C oC D (lst ys) S (fun y news' => Inv (i + 1) (ys ++ [y]) news')) E' { s with heap := h, toks := tk })
    (fin : ∀ ys news, Inv n ys news → Fin ys news) {news : List (Addr × Obj)} (h0 : Inv 0 [] news) : CompRestP prog w A h₀ L m env elt x x₂ scope cl s S P Fin n 0 [] news := by
  have key : ∀ k i ys news, k + i = n → Inv i ys news → CompRestP prog w A h₀ L m env elt x x₂ scope cl s S P Fin k i ys news := by
    intro k
    induction k with
    | zero => intro i ys news hi h; exact fin ys news (by rw [← hi, Nat.zero_add]; exact h)
    | succ k ih =>
      intro i ys news hi h
      refine CompRestP.succ fun v hv => ?_
      (refine e5a5 (step i v ys news (by k_room) hv h) fun t ot v₁ v₂ nt e hm hc hd go => ?_)
      refine exI5 t ot v₁ v₂ nt (anI5 e hm hc hd (fun I oI C oC D m₂ h tk E' hC hx hx₂ F N off ne => ?_))
      exact wpAny_mono (go I oI C oC D m₂ h tk E' hC hx hx₂ F N off ne) (fun y s' he => CompEnd.mono he fun y n hn => ih (i + 1) _ n (by k_room) hn) fun _ _ e => e
  exact key n 0 [] news (by k_room) h0
end
theorem stop_any {P : Prop} (h : Stop P) : P := h
theorem PairsAt.at {l : List (Addr × Obj)} {vs : List Value} {qs} (h : PairsAt l vs qs) {i : Nat} {v : Value} (hv : vs[i]? = some v) : ∃ q a t1 t2, qs[i]? = some q ∧ v = .ref a ∧ (a, tup2 q.1 t1 q.2 t2) ∈ l :=
  e1a2 (A2.at h hv) fun q e r => e3a2 r fun a t1 t2 e1 m => exI4 q a t1 t2 (anI3 e e1 m)
theorem PairsAt.snoc {l : List (Addr × Obj)} {vs : List Value} {qs : List (Str × Str)} {a : Addr} {q : Str × Str} {t1 t2 : Tok} (h : PairsAt l vs qs) (hm : (a, tup2 q.1 t1 q.2 t2) ∈ l) : PairsAt l (vs ++ [.ref a]) (qs ++ [q]) := h.app ⟨⟨a, t1, t2, rfl, hm⟩, trivial⟩
theorem truthy_nw {prog : Program} {w : World} {A : Around} {E : Value → Shared → Prop} {s : Shared} {h₀ : Heap} {L : Addr} {news : List (Addr × Obj)} {l : Addr} {its : Array Value} {n : Nat} {Q : Bool → Shared → Prop} (N : News h₀ L s.heap news) (hm : (l, listOf its n) ∈ news) (hfit : (its.size : Int) < 2 ^ 63)
    (h1 : its.size ≠ 0 → Q true { s with toks := s.toks + 1 + 1 }) (h2 : its.size = 0 → Q false { s with toks := s.toks + 1 + 1 }) : wpAny (model prog w) A (truthy (.ref l)) Q E s := by
  refine wpAny_truthy_list ⟨_, (N _ hm).1, rfl, _, rfl⟩ hfit ?_
  rcases Nat.eq_zero_or_pos its.size with e | e
  · rw [show (!its.isEmpty) = false by simp [Array.isEmpty, e]]; exact h2 e
  · rw [show (!its.isEmpty) = true by unfold Array.isEmpty; rw [decide_eq_false (by k_room)]; rfl]; exact h1 (by k_room)
theorem off1_mem {D : Addr} : ∀ {l : List (Addr × Obj)}, LCg.Off1 D l → ∀ p ∈ l, p.1 ≠ D
  | [], _, _, h => nomatch h
  | q :: r, ⟨a, b⟩, p, h => by
    rcases List.mem_cons.mp h with rfl | h
    · exact a
    · exact off1_mem b p h
theorem take_snoc {α : Type} {l : List α} {i : Nat} {x : α} (h : l[i]? = some x) : l.take (i + 1) = l.take i ++ [x] := by
  rw [List.take_add_one, h]; rfl
end
section
section
open LCg
variable {prog : Program} {w : World} {A : Around} {s : Shared} {h₀ : Heap} {L : Addr} {env : Env}
theorem loop_walks {target : Expr} {body : List Stmt} {I : Addr} {fp : List Addr} {n n₀ : Nat} {P : Nat → Value → Prop} {St : Nat → Heap → Prop} {S : List (Addr × Obj) → Prop} {R : Result → Shared → Prop}
    (PI : Obj → Prop) (W : Walks prog w A I fp [I] n P St) (hIo : ∀ i h, St i h → ∃ o, h.get? I = some o ∧ PI o)
    (hSt : ∀ i h h' o nw, St i h → h.get? I = some o → h'.get? I = some o → (∀ b o, h₀.get? b = some o → h'.get? b = some o) → News h₀ L h' nw → S nw → St i h')
    (hgo : ∀ i (s' : Shared) v (Q' : Unit → Shared → Prop), P i v → St (i + 1) s'.heap → Q' () s' → wpAny (model prog w) A (letOwnedTupleGo target (.ref I) v) Q' NoE s')
    (hloc : env.locals = L) (J : Nat → (Str → Option Value) → List (Addr × Obj) → Prop) (hJS : ∀ i m nw, J i m nw → S nw)
    (turn : ∀ i v m₁ news₁ oI h tk gens dr, i < n → P i v → J i m₁ news₁ → PI oI → (∀ p ∈ news₁, p.1 ≠ I) → Fr h₀ L h m₁ → News h₀ L h ((I, oI) :: news₁) → AllBare gens → n₀ ≤ tk →
      wpAny (model prog w) A (assign target env v) (fun _ s₂ => wpAny (model prog w) A (execs body env) (fun f s₃ => match f with | .next | .cont => Stop (∃ h₃ tk₃ gens₃ dr₃ m₃ news₃, s₃ = { s with heap := h₃, toks := tk₃, gens := gens₃, drawn := dr₃ } ∧ Fr h₀ L h₃ m₃ ∧ News h₀ L h₃ ((I, oI) :: news₃) ∧ (∀ p ∈ news₃, p.1 ≠ I) ∧ AllBare gens₃ ∧ J (i + 1) m₃ news₃) | .brk => R (.ok .next) s₃ | .ret v => R (.ok (.ret v)) s₃) NoE s₂) NoE { s with heap := h, toks := tk, gens := gens, drawn := dr })
    (done : ∀ m₁ news₁ h tk gens dr, J n m₁ news₁ → Fr h₀ L h m₁ → News h₀ L h news₁ → AllBare gens → n₀ ≤ tk → R (.ok .next) { s with heap := h, toks := tk, gens := gens, drawn := dr })
    {m : Str → Option Value} {news : List (Addr × Obj)} (hst : St 0 s.heap) (F : Fr h₀ L s.heap m) (N : News h₀ L s.heap news) (off : ∀ p ∈ news, p.1 ≠ I) (hIL : I ≠ L) (hI₀ : h₀.get? I = none) (hB : AllBare s.gens) (hJ : J 0 m news) (htk : n₀ ≤ s.toks) :
    codeAny (model prog w) A (.forLoop target (.ref I) body [] env) R s := by
  subst hloc
  refine codeAny_forLoop_any (fun k s' => ∃ i h tk gens dr m₁ news₁, s' = { s with heap := h, toks := tk, gens := gens, drawn := dr } ∧ i ≤ n ∧ k = n + 1 - i ∧ St i h ∧ Fr h₀ env.locals h m₁ ∧ News h₀ env.locals h news₁ ∧ (∀ p ∈ news₁, p.1 ≠ I) ∧ AllBare gens ∧ J i m₁ news₁ ∧ n₀ ≤ tk) ?_ (n + 1)
    ⟨0, s.heap, s.toks, s.gens, s.drawn, m, news, rfl, Nat.zero_le _, rfl, hst, F, N, off, hB, hJ, htk⟩
  intro k s' hz1_; (refine ex7 hz1_ fun i h tk gens dr m₁ news₁ w3_ => an10 w3_ fun y4_ hi y5_ hst F N off hB hJ htk => ?_; clear w3_; clear hz1_; obtain rfl := y4_; obtain rfl := y5_)
  have fr : ∀ h' : Heap, (∀ b o, b ∉ [I] → h.get? b = some o → h'.get? b = some o) → Fr h₀ env.locals h' m₁ := fun h' hk => fr_but F hk (Ne.symm hIL) hI₀
  by_cases hlt : i < n
  · refine wpAny_with_toks (n := n₀) htk (W.item i _ _ _ hlt hst fun v h₂ tk₂ hPv hst₂ hk₂ => ?_)
    intro htk₂
    dsimp only at htk₂ ⊢
    (refine e1a2 (hIo _ _ hst₂) fun oI heI hPI => ?_)
    have F₂ := fr h₂ hk₂
    have N₂ : News h₀ env.locals h₂ ((I, oI) :: news₁) := fun p hp => by
      rcases List.mem_cons.mp hp with rfl | hp
      · exact ⟨heI, hIL, hI₀⟩
      · exact ⟨hk₂ _ _ (by simpa using off p hp) (N p hp).1, (N p hp).2⟩
    refine wpAny_mono (E := NoE) (hgo i _ v _ hPv hst₂ ?_) (fun _ _ h => h) fun _ _ x => x.elim
    refine wpAny_mono (wpAny_toks_of (n := n₀) htk₂ (turn i v m₁ news₁ oI h₂ tk₂ gens dr hlt hPv hJ hPI off F₂ N₂ hB htk₂)) (fun _ s₂ h₂ => wpAny_mono (wpAny_toks_of (n := n₀) h₂.1 h₂.2) (fun f s₃ h₃ => ?_) fun _ _ x => x.2.elim) fun _ _ x => x.2.elim
    (refine an2 h₃ ?_; clear h₃; refine fun ht₃ h₃ => ?_)
    have nx : (∃ h₃ tk₃ gens₃ dr₃ m₃ news₃, s₃ = { s with heap := h₃, toks := tk₃, gens := gens₃, drawn := dr₃ } ∧ Fr h₀ env.locals h₃ m₃ ∧ News h₀ env.locals h₃ ((I, oI) :: news₃) ∧ (∀ p ∈ news₃, p.1 ≠ I) ∧ AllBare gens₃ ∧ J (i + 1) m₃ news₃) →
        ∃ k, k < n + 1 - i ∧ ∃ i h tk gens dr m₁ news₁, s₃ = { s with heap := h, toks := tk, gens := gens, drawn := dr } ∧ i ≤ n ∧ k = n + 1 - i ∧ St i h ∧ Fr h₀ env.locals h m₁ ∧ News h₀ env.locals h news₁ ∧ (∀ p ∈ news₁, p.1 ≠ I) ∧ AllBare gens ∧ J i m₁ news₁ ∧ n₀ ≤ tk := by
      intro hz1_; (refine ex6 hz1_ fun hh tk₃ gens₃ dr₃ m₃ news₃ w2_ => an6 w2_ fun y3_ F₃ N₃ off₃ hB₃ hJ₃ => ?_; clear w2_; clear hz1_; obtain rfl := y3_)
      have N₃' : News h₀ env.locals hh news₃ := fun p hp => N₃ p (.tail _ hp)
      exact ⟨n + 1 - (i + 1), by k_room, i + 1, hh, tk₃, gens₃, dr₃, m₃, news₃, rfl, hlt, rfl, hSt _ _ _ _ _ hst₂ heI (N₃ _ (.head _)).1 F₃.keep N₃' (hJS _ _ _ hJ₃), F₃, N₃', off₃, hB₃, hJ₃, ht₃⟩
    cases f with
    | next => exact nx h₃
    | cont => exact nx h₃
    | brk => exact h₃
    | ret v => exact h₃
  · obtain rfl : i = n := Nat.le_antisymm hi (Nat.not_lt.mp hlt)
    refine wpAny_with_toks (n := n₀) htk (W.done _ _ _ hst fun h₂ tk₂ hk₂ => ?_)
    intro htk₂
    show wpAny _ _ (execs [] env) _ _ _
    exact wpAny_execs_nil (done m₁ news₁ h₂ tk₂ gens dr hJ (fr h₂ hk₂) (fun p hp => ⟨hk₂ _ _ (by simpa using off p hp) (N p hp).1, (N p hp).2⟩) hB htk₂)
theorem stop_turn {h₀ : Heap} {L I : Addr} {oI : Obj} {s : Shared} {J : (Str → Option Value) → List (Addr × Obj) → Prop} {h : Heap} {tk : Nat} {gens : Array GenState} {dr : Drawn} {m : Str → Option Value} {nw : List (Addr × Obj)} (F : Fr h₀ L h m) (N : News h₀ L h ((I, oI) :: nw)) (off : ∀ p ∈ nw, p.1 ≠ I) (hB : AllBare gens) (hJ : J m nw) :
    Stop (∃ h₃ tk₃ gens₃ dr₃ m₃ news₃, ({ s with heap := h, toks := tk, gens := gens, drawn := dr } : Shared) = { s with heap := h₃, toks := tk₃, gens := gens₃, drawn := dr₃ } ∧ Fr h₀ L h₃ m₃ ∧ News h₀ L h₃ ((I, oI) :: news₃) ∧ (∀ p ∈ news₃, p.1 ≠ I) ∧ AllBare gens₃ ∧ J m₃ news₃) := ⟨h, tk, gens, dr, m, nw, rfl, F, N, off, hB, hJ⟩
/-- a for over a list of the ledger -/
theorem loop_list {target : Expr} {body : List Stmt} {n₀ : Nat} {ax : Addr} {its : Array Value} {R : Result → Shared → Prop}
    (hh : A.handled = none) (hgo : ∀ (s' : Shared) v (Q' : Unit → Shared → Prop) I i, its[i]? = some v → s'.heap.IsListIter I ax (i + 1) → Q' () s' → wpAny (model prog w) A (letOwnedTupleGo target (.ref I) v) Q' NoE s')
    (hloc : env.locals = L) (J : Nat → (Str → Option Value) → List (Addr × Obj) → Prop) (hJS : ∀ i m nw, J i m nw → SrcAt h₀ ax its nw)
    (turn : ∀ i v m₁ news₁ I oI h tk gens dr, its[i]? = some v → J i m₁ news₁ → (oI.cls = .type "list_iterator" ∧ ∃ i, oI.data = .fields #[.ref ax, .int i 0]) → (∀ p ∈ news₁, p.1 ≠ I) → Fr h₀ L h m₁ → News h₀ L h ((I, oI) :: news₁) → AllBare gens → n₀ ≤ tk →
      wpAny (model prog w) A (assign target env v) (fun _ s₂ => wpAny (model prog w) A (execs body env) (fun f s₃ => match f with | .next | .cont => Stop (∃ h₃ tk₃ gens₃ dr₃ m₃ news₃, s₃ = { s with heap := h₃, toks := tk₃, gens := gens₃, drawn := dr₃ } ∧ Fr h₀ L h₃ m₃ ∧ News h₀ L h₃ ((I, oI) :: news₃) ∧ (∀ p ∈ news₃, p.1 ≠ I) ∧ AllBare gens₃ ∧ J (i + 1) m₃ news₃) | .brk => R (.ok .next) s₃ | .ret v => R (.ok (.ret v)) s₃) NoE s₂) NoE { s with heap := h, toks := tk, gens := gens, drawn := dr })
    (done : ∀ m₁ news₁ h tk gens dr, J its.size m₁ news₁ → Fr h₀ L h m₁ → News h₀ L h news₁ → AllBare gens → n₀ ≤ tk → R (.ok .next) { s with heap := h, toks := tk, gens := gens, drawn := dr })
    {m : Str → Option Value} {news : List (Addr × Obj)} {E : Value → Shared → Prop} (F : Fr h₀ L s.heap m) (N : News h₀ L s.heap news) (hB : AllBare s.gens) (hJ : J 0 m news) (htk : n₀ ≤ s.toks) :
    wpAny (model prog w) A (pyIter (.ref ax)) (fun it s₂ => codeAny (model prog w) A (.forLoop target it body [] env) R s₂) E s := by
  have hl := (hJS _ _ _ hJ).list F.keep N
  have hlt : ax < s.heap.objs.size := by (refine e1a2 hl fun _ e _ => ?_; try clear hl); exact Heap.lt_size e
  refine wpAny_pyIter_list hl ?_
  have up : ∀ b o, s.heap.get? b = some o → (s.heap.push { cls := .type "list_iterator", data := .fields #[.ref ax, .int 0 0] }).get? b = some o := fun b o e => Heap.get?_push_of_some _ e
  refine loop_walks (PI := fun o => o.cls = .type "list_iterator" ∧ ∃ i, o.data = .fields #[.ref ax, .int i 0]) (s := { s with heap := s.heap.push { cls := .type "list_iterator", data := .fields #[.ref ax, .int 0 0] } }) (Walks.list hh s.heap.objs.size ax (Nat.ne_of_lt hlt) its) (fun i h st => by (refine e1a3 st.1 fun o e c d => ?_); exact ⟨o, e, c, _, d⟩) list_st
    (fun i s' v Q' hv st hq => hgo s' v Q' _ i hv st.1 hq) hloc J hJS (fun i v m₁ news₁ oI h tk gens dr hi hv hJ hP off F N hB ht => turn i v m₁ news₁ _ oI h tk gens dr hv hJ hP off F N hB ht) done ⟨⟨_, Heap.get?_push_size _ rfl, rfl, rfl⟩, hl.push _⟩
    (F.keeps up) (N.grown up) (fun p hp => Nat.ne_of_lt (Heap.lt_size (N p hp).1)) (Nat.ne_of_gt F.ns.lt) (next_is_new F) hB hJ htk
end
theorem truthy_dw {prog : Program} {w : World} {A : Around} {E : Value → Shared → Prop} {s : Shared} {h₀ : Heap} {L : Addr} {news : List (Addr × Obj)} {d : Addr} {o : Obj} {kvs : List (Str × Value)} {Q : Bool → Shared → Prop} (N : News h₀ L s.heap news) (hm : (d, o) ∈ news) (hd : Obj.IsDictOf (PySem.strKind prog w) o kvs) (lo : (d == sysModules) = false) (hfit : kvs.length ≤ 1000) (hne : 0 < kvs.length)
    (h : Q true { s with toks := s.toks + 1 + 1 }) : wpAny (model prog w) A (truthy (.ref d)) Q E s := by
  refine wpAny_truthy_dict lo (kda_dict N hm hd) (by k_room) ?_
  have e : (!kvs.isEmpty) = true := by cases kvs with | nil => simp at hne | cons => rfl
  rw [e]; exact h
theorem truthy_pos' {prog : Program} {w : World} {A : Around} {E : Value → Shared → Prop} {s : Shared} {x : Str} {t : Tok} {Q : Bool → Shared → Prop} (hp : 1 ≤ x.length) (hl : x.length ≤ 3) (h : ∀ k, Q true { s with toks := k }) : wpAny (model prog w) A (PySem.truthy (.str x t)) Q E s := by
  exact KXt.truthy_pos hp hl (by decide) h
theorem lt_ex {a b : Nat} (h : a < b) : ∃ d, d = b ∧ a < d := ⟨b, rfl, h⟩
end
section
theorem mem1 {a : Addr} {o : Obj} {l : List (Addr × Obj)} (h : (a, o) ∈ l) : ∃ q ∈ l, q.1 = a := ⟨_, h, rfl⟩
noncomputable def Ne' (a b : Nat) : Prop := a ≠ b
example : True := by (k_with "ne" => (fail_if_success k_extra "2"); first | exact (show Ne' _ _ by assumption) | exact Ne.symm (show Ne' _ _ by assumption) | (refine neN ?_; (try dsimp only); k_room) | fail); trivial
section
variable {h₀ h : Heap} {L : Addr} {big l : List (Addr × Obj)}
theorem NewsC {a : Addr} {o : Obj} (N : News h₀ L h big) (hm : (a, o) ∈ big) (r : News h₀ L h l) : News h₀ L h ((a, o) :: l) := fun p hp => by
  rcases List.mem_cons.mp hp with rfl | hp
  · exact N _ hm
  · exact r _ hp
theorem NewsT (N : News h₀ L h big) (hs : ∀ p ∈ l, p ∈ big) : News h₀ L h l := fun p hp => N _ (hs p hp)
end
example : True := by (k_with "callWith ref" => (fail_if_success k_extra "2"); k_extra "b1"); (k_with "And" => (fail_if_success k_extra "2"); k_extra "b2"); (k_with "call ref" => (fail_if_success k_extra "2"); k_extra "st"); (k_with "call ref" => (fail_if_success k_extra "2"); k_extra "b3"); (k_with "eval Set" => (fail_if_success k_extra "2"); (k_here; k_dflt (refine' set_eval ?F_r ?N_r ?X_r ?c_r ?p_r ?_; (case F_r => k_asm); (case N_r => k_asm); (case X_r => k_asm); (case c_r => first | k_is | kernel_rfl!); (case p_r => rfl)); intro _ _ _ _ _ l1r _; (try k_lt l1r))); (k_with "exec Assign cons DictComp" => (fail_if_success k_extra "2"); (k_here; k_dflt (refine Assign_DictComp_inv (F₀ := by k_asm) (by rfl) (by with_unfolding_all rfl) (by with_unfolding_all rfl) (by decide) (by rfl) (by decide) (by rfl) (by rfl) (by rfl) ?_ fun _ => rfl))); (k_with "setAdd" => (fail_if_success k_extra "2"); (k_here; k_dflt (refine' setK_add ?F_r ?N_r ?U_r ?d_r ?n_r ?z_r ?_; (case F_r => k_asm); (case N_r => k_asm); (case U_r => k_updF); (case d_r => k_asm); (case n_r => first | exact List.not_mem_nil | simp); (case z_r => first | exact Nat.le_of_ble_eq_true rfl | simp)); intro _ _ _ N'r _; (try dsimp only at N'r))); (k_with "setDisplayStar" => (fail_if_success k_extra "2"); (k_here; k_dflt (refine' setK_star ?h_r ?F_r ?N_r ?U_r ?d_r ?m_r ?x_r ?l_r ?n_r ?z_r ?a_r ?_; (case h_r => rfl); (case F_r => k_asm); (case N_r => k_asm); (case U_r => k_updF); (case d_r => k_asm); (case m_r => k_mem); (case x_r => k_asm); (case l_r => k_asm); (case n_r => k_ne); (case z_r => first | assumption | rfl); (case a_r => first | assumption | (simp only [List.map_cons, List.map_nil]; assumption))); intro _ _ _ _ N'r hS'r; (try dsimp only at N'r); (try simp only [List.map_cons, List.map_nil] at hS'r))); trivial
theorem cell_ex {o : Obj} {q : Addr} (h : o.data = .cell (some (.ref q))) : ∃ o2 q2, o2 = o ∧ q2 = q ∧ o2.data = .cell (some (.ref q2)) := ⟨o, q, rfl, rfl, h⟩
example : True := by (k_with "eval Name" => (fail_if_success k_extra "2"); k_extra "en"); trivial
theorem s_head (h₀ : Heap) (L L' : Addr) (m : Str → Option Value) (s : Shared) (Q : Flow → Shared → Prop) (E : Value → Shared → Prop)
   (c : WC) (wr wd top at_ tb : Addr) (tag k1 k2 k3 k4 v1 v2 v3 v4 : Str) (tt z1 z2 z3 z4 : Tok) (scs : List (Addr × Array Value)) (dv tv ps : Array Value) (nd nt : Nat) (opm oat osf opq : Obj) (tl : List (Addr × Obj)) (known tw lw : List Str)
   (B : Below (ktrTop dp un gd cn cs L a ccd cl outer) base (envX cn cs L a ccd cl :: outer) h₀) (F : Fr h₀ L' s.heap m) (X : (hd.heap_39 w.params).In h₀) (N : News h₀ L' s.heap ((wr, instObj 150 wd) :: (wd, wDict w c) :: (c.dns, listOf dv nd) :: (c.pm, opm) :: (top, listOf tv nt) :: (tb, tabObj ps) :: (at_, oat) :: (L' + 1, osf) :: (L' + 2, opq) :: tl))
   (T : Top p loose mean mg mb h₀) (hdp : dp + 100 < recursionLimit) (hun : un + 1000 < cLine) (hB : AllBare s.gens)
   (hsf : osf.data = .cell (some (.ref wr))) (hpq : opq.data = .cell none) (hws : WS w c top scs tv dv opm tl known tw lw) (hat : Obj.IsDictOf (PySem.strKind PR w) oat [(k1, .str v1 z1), (k2, .str v2 z2), (k3, .str v3 z3), (k4, .str v4 z4)]) (hsm : (at_ == sysModules) = false) (hkn : ([tag, k1, k2, k3, k4] : List Str).Nodup) (hqn : ∀ n ∈ ([tag, k1, k2, k3, k4] : List Str), ∃ u ∈ words, ∃ l ∈ letters, n = qnameOf u l)
   (hnd : ([wr, wd, c.dns, c.pm, top, tb, at_, L' + 1, L' + 2] : List Nat).Nodup) (hndt : ∀ d ∈ ([wr, wd, c.dns, c.pm, top, tb, at_, L' + 1, L' + 2] : List Nat), ∀ p ∈ tl, p.1 ≠ d) (hps : LamTab lamQ ⟨135, 71, 135, 96⟩ tl ps) (hkl : known.length < 30) (hC : Stop (CodeHd base 125 tb))
   (mT : m (Str.ofString "tag") = some (.str tag tt)) (mA : m (Str.ofString "attrs") = some (.ref at_)) (mN : m (Str.ofString "new_namespaces") = some (.ref top)) (mQ : m (Str.ofString "qname_text") = some .none)
   (h : ∀ (names : List Str) (kvs : List (Str × Value)) (pd c' : Addr) (opd ocl opq' : Obj) (tv' : Array Value) (nt' : Nat) (opm' : Obj) (ex : List (Addr × Obj)) (vsl : Array Value) (tkl : Tok) (h' : Heap) (tk : Nat) (gens : Array GenState) (dr : Drawn) (m' : Str → Option Value),
      names.Perm [tag, k1, k2, k3, k4] → names.Pairwise (fun x y => klt2 (kaOf y) (kbOf y) (kaOf x) (kbOf x) = false) → WS w c top scs tv' dv opm' (ex ++ tl) (stK known names) (stT tw lw names) lw →
      Obj.IsDictOf (PySem.strKind PR w) opd kvs → TupAt ex (stK known names) kvs names → ocl.data = .fields vsl → vsl[1]? = some (.str lamQ tkl) → (∀ z ∈ ex, ∀ q ∈ (wr, instObj 150 wd) :: (wd, wDict w c) :: (c.dns, listOf dv nd) :: (c.pm, opm) :: (top, listOf tv nt) :: (tb, tabObj ps) :: (at_, oat) :: (L' + 1, osf) :: (L' + 2, opq) :: tl, z.1 ≠ q.1) → (∀ z ∈ ex, z.1 ≠ c' ∧ z.1 ≠ pd) → (∀ q ∈ (wr, instObj 150 wd) :: (wd, wDict w c) :: (c.dns, listOf dv nd) :: (c.pm, opm) :: (top, listOf tv nt) :: (tb, tabObj ps) :: (at_, oat) :: (L' + 1, osf) :: (L' + 2, opq) :: tl, q.1 ≠ pd) → c' ≠ pd → (∀ d ∈ ([wr, wd, c.dns, c.pm, top, tb, at_, L' + 1, L' + 2] : List Nat), d ≠ c') →
      m' (Str.ofString "tag") = some (.str tag tt) → m' (Str.ofString "attrs") = some (.ref at_) → m' (Str.ofString "new_namespaces") = some (.ref top) → m' (Str.ofString "qname_text") = some .none → m' (Str.ofString "qattrs") = some .none → m' (Str.ofString "parsed_qnames") = some (.ref pd) →
      AllBare gens → Fr h₀ L' h' m' →
      News h₀ L' h' ((wr, instObj 150 wd) :: (wd, wDict w c) :: (c.dns, listOf dv nd) :: (c.pm, opm') :: (top, listOf tv' nt') :: (tb, tabObj #[rawInt 135, rawInt 71, .ref c']) :: (at_, oat) :: (L' + 1, osf) :: (L' + 2, opq') :: (pd, opd) :: (c', ocl) :: (ex ++ tl)) →
      wpAny (model PR w) ((ktrTop dp un gd cn cs L a ccd cl outer).deeper (startE L')) (execs (startB.1.drop 7) (startE L')) Q E { s with heap := h', toks := tk, gens := gens, drawn := dr }) :
   wpAny (model PR w) ((ktrTop dp un gd cn cs L a ccd cl outer).deeper (startE L')) (execs startB.1 (startE L')) Q E s := by
  have hst : startB.1 = List.cons (nth startB.1 0) (nth startB.1 1 :: nth startB.1 2 :: nth startB.1 3 :: nth startB.1 4 :: nth startB.1 5 :: nth startB.1 6 :: startB.1.drop 7) := rfl
  rw [hst]
  refine hide (startB.1.drop 7) fun rest hrest => ?_
  rw [← hrest] at h ⊢
  unfold startE at h ⊢
  conv at h =>
    skip
  conv => arg 3; arg 1; arg 1; whnf
  conv => arg 3; arg 1; arg 2; arg 1; whnf
  conv => arg 3; arg 1; arg 2; arg 2; arg 1; whnf
  conv => arg 3; arg 1; arg 2; arg 2; arg 2; arg 1; whnf
  conv => arg 3; arg 1; arg 2; arg 2; arg 2; arg 2; arg 1; whnf
  conv => arg 3; arg 1; arg 2; arg 2; arg 2; arg 2; arg 2; arg 1; whnf
  conv => arg 3; arg 1; arg 2; arg 2; arg 2; arg 2; arg 2; arg 2; arg 1; whnf
  conv => arg 3; arg 2; arg 2; whnf
  conv => arg 2; arg 2; arg 2; whnf
  have hnd0 := hnd
  replace hnd := ndA_iff.mpr hnd
  have q0_1 : Ne' wr wd := hnd.1.1
  have q0_2 : Ne' wr c.dns := hnd.1.2.1
  have q0_3 : Ne' wr c.pm := hnd.1.2.2.1
  have q0_4 : Ne' wr top := hnd.1.2.2.2.1
  have q0_5 : Ne' wr tb := hnd.1.2.2.2.2.1
  have q0_6 : Ne' wr at_ := hnd.1.2.2.2.2.2.1
  have q0_7 : Ne' wr (L' + 1) := hnd.1.2.2.2.2.2.2.1
  have q0_8 : Ne' wr (L' + 2) := hnd.1.2.2.2.2.2.2.2
  have q1_2 : Ne' wd c.dns := hnd.2.1.1
  have q1_3 : Ne' wd c.pm := hnd.2.1.2.1
  have q1_4 : Ne' wd top := hnd.2.1.2.2.1
  have q1_5 : Ne' wd tb := hnd.2.1.2.2.2.1
  have q1_6 : Ne' wd at_ := hnd.2.1.2.2.2.2.1
  have q1_7 : Ne' wd (L' + 1) := hnd.2.1.2.2.2.2.2.1
  have q1_8 : Ne' wd (L' + 2) := hnd.2.1.2.2.2.2.2.2
  have q2_3 : Ne' c.dns c.pm := hnd.2.2.1.1
  have q2_4 : Ne' c.dns top := hnd.2.2.1.2.1
  have q2_5 : Ne' c.dns tb := hnd.2.2.1.2.2.1
  have q2_6 : Ne' c.dns at_ := hnd.2.2.1.2.2.2.1
  have q2_7 : Ne' c.dns (L' + 1) := hnd.2.2.1.2.2.2.2.1
  have q2_8 : Ne' c.dns (L' + 2) := hnd.2.2.1.2.2.2.2.2
  have q3_4 : Ne' c.pm top := hnd.2.2.2.1.1
  have q3_5 : Ne' c.pm tb := hnd.2.2.2.1.2.1
  have q3_6 : Ne' c.pm at_ := hnd.2.2.2.1.2.2.1
  have q3_7 : Ne' c.pm (L' + 1) := hnd.2.2.2.1.2.2.2.1
  have q3_8 : Ne' c.pm (L' + 2) := hnd.2.2.2.1.2.2.2.2
  have q4_5 : Ne' top tb := hnd.2.2.2.2.1.1
  have q4_6 : Ne' top at_ := hnd.2.2.2.2.1.2.1
  have q4_7 : Ne' top (L' + 1) := hnd.2.2.2.2.1.2.2.1
  have q4_8 : Ne' top (L' + 2) := hnd.2.2.2.2.1.2.2.2
  have q5_6 : Ne' tb at_ := hnd.2.2.2.2.2.1.1
  have q5_7 : Ne' tb (L' + 1) := hnd.2.2.2.2.2.1.2.1
  have q5_8 : Ne' tb (L' + 2) := hnd.2.2.2.2.2.1.2.2
  have q6_7 : Ne' at_ (L' + 1) := hnd.2.2.2.2.2.2.1.1
  have q6_8 : Ne' at_ (L' + 2) := hnd.2.2.2.2.2.2.1.2
  have q7_8 : Ne' (L' + 1) (L' + 2) := hnd.2.2.2.2.2.2.2
  have hnd5 : ([wr, wd, c.dns, c.pm, top] : List Nat).Nodup := (List.nodup_append.mp (show (([wr, wd, c.dns, c.pm, top] : List Nat) ++ [tb, at_, L' + 1, L' + 2]).Nodup from hnd0)).1
  clear hnd hnd0
  have nt0 : ∀ p ∈ tl, p.1 ≠ wr := hndt _ (by k_data)
  have nt1 : ∀ p ∈ tl, p.1 ≠ wd := hndt _ (by k_data)
  have nt2 : ∀ p ∈ tl, p.1 ≠ c.dns := hndt _ (by k_data)
  have nt3 : ∀ p ∈ tl, p.1 ≠ c.pm := hndt _ (by k_data)
  have nt4 : ∀ p ∈ tl, p.1 ≠ top := hndt _ (by k_data)
  have nt5 : ∀ p ∈ tl, p.1 ≠ tb := hndt _ (by k_data)
  have nt6 : ∀ p ∈ tl, p.1 ≠ at_ := hndt _ (by k_data)
  have nt7 : ∀ p ∈ tl, p.1 ≠ L' + 1 := hndt _ (by k_data)
  have nt8 : ∀ p ∈ tl, p.1 ≠ L' + 2 := hndt _ (by k_data)
  k_steps
  rename News h₀ L' _ _ => kN
  rename Fr h₀ L' _ _ => kF
  refine' lam_eval (tl := tl) (ps := ps) [wr, wd, c.dns, c.pm, top, tb, at_, L' + 1, L' + 2] hps ?hq ?d0 kF kN T ?C ?cd ?U ?hm ?g1 ?htl ?hD ?hDn ?cl ?_
  case hq => kernel_rfl
  case d0 => exact rfl
  case C => exact CodeHd.keeps (show CodeHd base 125 tb from hC) B.stays
  case cd => exact rfl
  case U => k_updF
  case hm => k_mem
  case cl => exact rfl
  case g1 => exact fun x hx => hx
  case htl => exact fun x hx => by k_data
  case hD => exact fmc nt0 (fmc nt1 (fmc nt2 (fmc nt3 (fmc nt4 (fmc nt5 (fmc nt6 (fmc nt7 (fmc nt8 (fun _ h => nomatch h)))))))))
  case hDn => exact fmc (mem1 (by k_mem)) (fmc (mem1 (by k_mem)) (fmc (mem1 (by k_mem)) (fmc (mem1 (by k_mem)) (fmc (mem1 (by k_mem)) (fmc (mem1 (by k_mem)) (fmc (mem1 (by k_mem)) (fmc (mem1 (by k_mem)) (fmc (mem1 (by k_mem)) (fun _ h => nomatch h)))))))))
  intro fL c' ocL vsL tL ctL hL tkL FL NL dL1 dL2 neL lL1 lL2
  k_lt lL1
  try dsimp only at NL
  k_steps
  ksk_kw
  ksk_show
  rename News h₀ L' _ _ => kN
  rename Fr h₀ L' _ _ => kF
  with_unfolding_all refine' setS_sorted_by (names := [tag, k1, k2, k3, k4]) (ka := kaOf) (kb := kbOf) ?h kF kN ?k3 ?k4 ?k5 ?k6 ?a1 ?a2 ?a3 ?u ?hc ?_
  case h => exact rfl
  case k3 => k_mem
  case k4 => k_asm
  case k5 => simp
  case k6 => simp
  case a1 => ksk_a1
  case a2 => (intro _; ksk_a2)
  case a3 => (intro _; ksk_a3)
  case u => k_units
  case hc =>
    intro tkx drx
    refine' lam_key w p loose mean mg mb base _ _ _ _ _ _ _ _ _ _ _ _ _ _ _ fL c' _ ctL ocL vsL tL [tag, k1, k2, k3, k4] hqn B X T rfl ?d ?un ?bg ?f ?o dL1 dL2
    case d => (dsimp only [ktrTop]; k_room)
    case un => (dsimp only [ktrTop]; k_room)
    case bg => k_asm
    case f => k_mem
    case o => k_mem
  intro kt' D' n' h' tk' dr' hp' hs' F' N' l1
  dsimp only at F' N' ⊢
  have hDtop : @Ne Nat D' top := Nat.ne_of_gt (l1 (top, listOf tv nt) (by k_data))
  have hDpm : @Ne Nat D' c.pm := Nat.ne_of_gt (l1 (c.pm, opm) (by k_data))
  have hctop : @Ne Nat c' top := (neL _ (by k_data)).symm
  have hcpm : @Ne Nat c' c.pm := (neL _ (by k_data)).symm
  rename _ = Data.cell (some (Value.ref _)) => dcell
  (refine Mine.e2a3 (cell_ex dcell) fun o2 qM y4_ y5_ dcell => ?_; obtain rfl := y4_; obtain rfl := y5_)
  have hqtop : @Ne Nat qM top := Nat.ne_of_gt (by assumption)
  have hqpm : @Ne Nat qM c.pm := Nat.ne_of_gt (by assumption)
  obtain ⟨R, hR, kM⟩ : ∃ R, R = (D', listOf (kt'.map fun q => Value.str q.1 q.2).toArray n') :: (c', ocL) :: (qM, methodObj (Value.ref 90) (Value.ref wr)) :: (L' + 2, o2) :: (L' + 1, osf) :: (tb, tabObj #[rawInt 135, rawInt 71, .ref c']) :: (at_, oat) :: tl ∧ News h₀ L' h' ((wr, instObj 150 wd) :: (wd, wDict w c) :: (c.dns, listOf dv nd) :: (c.pm, opm) :: (top, listOf tv nt) :: R) := ⟨_, rfl, (NewsC N' (by k_mem) (NewsC N' (by k_mem) (NewsC N' (by k_mem) (NewsC N' (by k_mem) (NewsC N' (by k_mem) (NewsC N' (by k_mem) (NewsC N' (by k_mem) (NewsC N' (by k_mem) (NewsC N' (by k_mem) (NewsC N' (by k_mem) (NewsC N' (by k_mem) (NewsC N' (by k_mem) (NewsT N' (l := tl) (fun q hq => by k_data))))))))))))))⟩
  clear kN kF N'
  have hRtop : ∀ q ∈ R, q.1 ≠ top := by
    rw [hR]
    exact fmc hDtop (fmc hctop (fmc hqtop (fmc (Ne.symm q4_8) (fmc (Ne.symm q4_7) (fmc (Ne.symm q4_5) (fmc (Ne.symm q4_6) nt4))))))
  have hRpm : ∀ q ∈ R, q.1 ≠ c.pm := by
    rw [hR]
    exact fmc hDpm (fmc hcpm (fmc hqpm (fmc (Ne.symm q3_8) (fmc (Ne.symm q3_7) (fmc (Ne.symm q3_5) (fmc (Ne.symm q3_6) nt3))))))
  have hRt : ∀ q ∈ tl, q ∈ R := fun q hq => by rw [hR]; k_data
  have hRD : (D', listOf (kt'.map fun q => Value.str q.1 q.2).toArray n') ∈ R := by rw [hR]; exact .head _
  have hRq : (qM, methodObj (Value.ref 90) (Value.ref wr)) ∈ R := by rw [hR]; k_data
  have hRc : (L' + 2, o2) ∈ R := by rw [hR]; k_data
  have h5 := hp'.length_eq
  simp only [List.length_map, List.length_cons, List.length_nil] at h5
  refine exI4 D' ((kt'.map fun q => Value.str q.1 q.2).toArray) _ (DInv w c wr wd top scs dv nd known tw lw tl R D' (kt'.map (·.1))) (anI11 rfl rfl F' kM ?_ ?_ ?_ ?_ ?_ ?_ ?_)
  · exact .inr ⟨_, .tail _ (.tail _ (.tail _ (.tail _ (.tail _ hRD)))), rfl, _, rfl⟩
  · first | assumption | exact hB
  · exact T.nolimit
  · exact exI4 tv nt opm ([]) (anI5 rfl hws (fun q hq => nomatch hq) trivial (Nat.zero_le _))
  · intro i kvs nw hz1_; (refine e4a5 hz1_ fun tvi nti opmi ex y3_ hwsi hexi htup hile => ?_; clear hz1_; obtain rfl := y3_)
    have := congrArg List.length htup.keys
    rw [List.length_map, List.length_take, List.length_map] at this
    rw [sizeLine_eq]; k_room
  · intro i v kvs nw hi hv hz1_; (refine e4a5 hz1_ fun tvi nti opmi ex y3_ hwsi hexi htup hile => ?_; clear hz1_; obtain rfl := y3_); intro I oI C oC D oD m₂ hh tk gens dr E' nO hm₂ hDd F2 N2 hoff hne3 hB2
    obtain ⟨n, tn, hn, rfl⟩ : ∃ n tn, kt'[i]? = some (n, tn) ∧ v = .str n tn := by
      simp only [List.getElem?_toArray, List.getElem?_map, Option.map_eq_some_iff] at hv
      obtain ⟨⟨n, tn⟩, h1, h2⟩ := hv
      exact exI2 n tn ⟨h1, h2.symm⟩
    have hnm : n ∈ kt'.map (·.1) := List.mem_map_of_mem (List.mem_of_getElem? hn)
    (refine ex1 (hqn n (hp'.mem_iff.mp hnm)) fun u w1_ => an2 w1_ fun hu w2_ => ex1 w2_ fun l w3_ => an2 w3_ fun hl hul => ?_; clear w1_ w2_ w3_)
    obtain ⟨tail, htail, N3⟩ : ∃ tail, tail = _ ∧ News h₀ L' hh ((I, oI) :: (C, oC) :: (D, oD) :: (L' + 2, o2) :: (qM, methodObj (Value.ref 90) (Value.ref wr)) :: tail) := ⟨(wr, instObj 150 wd) :: (wd, wDict w c) :: (c.dns, listOf dv nd) :: (c.pm, opmi) :: (top, listOf tvi nti) :: (ex ++ R), rfl, NewsC N2 (by k_mem) (NewsC N2 (by k_mem) (NewsC N2 (by k_mem) (NewsC N2 (by k_data) (NewsC N2 (by k_data) (NewsT N2 (fun q hq => .tail _ (.tail _ (.tail _ hq))))))))⟩
    have hst2 : Stop (News h₀ L' hh _) := N2
    clear N2 kM F'
    k_steps
    subst hul
    have lI := LCg.Off3.mem hoff
    have hkk := stK_len (known := known) (ns := (kt'.map (·.1)).take i)
    rw [List.length_take, List.length_map] at hkk
    have N4 : News h₀ L' hh ((wr, instObj 150 wd) :: (wd, wDict w c) :: (c.dns, listOf dv nd) :: (c.pm, opmi) :: (top, listOf tvi nti) :: (I, oI) :: (C, oC) :: (D, oD) :: (ex ++ R)) := (show News h₀ L' hh _ from hst2) |> fun N2 => (NewsC N2 (by k_mem) (NewsC N2 (by k_mem) (NewsC N2 (by k_mem) (NewsC N2 (by k_mem) (NewsC N2 (by k_mem) (NewsC N2 (by k_mem) (NewsC N2 (by k_mem) (NewsC N2 (by k_mem) (NewsT N2 (fun q hq => .tail _ (.tail _ (.tail _ (.tail _ (.tail _ (.tail _ (.tail _ (.tail _ hq)))))))))))))))))
    show wpAny (model PR w) _ (call _ _) _ _ _
    refine call_meth N3 (by k_mem) ?_
    refine' qn_code w p loose mean mg mb base _ _ _ _ _ _ _ _ _ _ _ _ _ _ _ _ u l tn c wr wd top scs tvi dv nd nti opmi ((I, oI) :: (C, oC) :: (D, oD) :: (ex ++ R)) (ex ++ tl) _ _ lw hu hl hwsi ?sub ?n1 ?n2 ?kl hnd5 B ?F X ?N T ?hc ?dp ?un ?bg ?hret
    case hc => rfl
    case F => exact F2
    case N => exact N4
    case bg => exact hB2
    case sub =>
      intro q hq
      rcases List.mem_append.mp hq with hq | hq
      · exact .tail _ (.tail _ (.tail _ (List.mem_append_left _ hq)))
      · exact .tail _ (.tail _ (.tail _ (List.mem_append_right _ (hRt q hq))))
    case n1 =>
      refine fmc ?_ (fmc ?_ (fmc ?_ (fma (fun q hq => ?_) fun q hq => ?_)))
      · exact Ne.symm (lI (top, listOf tvi nti) (by k_data)).1
      · exact Ne.symm (lI (top, listOf tvi nti) (by k_data)).2.1
      · exact Ne.symm (lI (top, listOf tvi nti) (by k_data)).2.2
      · exact hwsi.ntop q (List.mem_append_left _ hq)
      · exact hRtop q hq
    case n2 =>
      refine fmc ?_ (fmc ?_ (fmc ?_ (fma (fun q hq => ?_) fun q hq => ?_)))
      · exact Ne.symm (lI (c.pm, opmi) (by k_data)).1
      · exact Ne.symm (lI (c.pm, opmi) (by k_data)).2.1
      · exact Ne.symm (lI (c.pm, opmi) (by k_data)).2.2
      · exact hwsi.npm q (List.mem_append_left _ hq)
      · exact hRpm q hq
    case kl => k_room
    case dp => (dsimp only [ktrTop]; k_room)
    case un => (dsimp only [ktrTop]; k_room)
    case hret =>
      intro tv' nt' opm' ex2 a' t1 t2 t3 h2 tk2 gens2 hws2 F3 N3' lt1 lt2 hB3
      have lD : @LT.lt Nat _ D' a' ∧ ∀ q ∈ ex2, @LT.lt Nat _ D' q.1 := lt1 (D', listOf (kt'.map fun q => Value.str q.1 q.2).toArray n') (by k_data)
      have lI1 := lt1 (I, oI) (by k_data)
      have lC1 := lt1 (C, oC) (by k_data)
      have lD1 := lt1 (D, oD) (by k_data)
      refine exI7 h2 _ gens2 dr _ (qnameOf u l) tn (anI8 rfl rfl hB3 F3 ?_ ?_ ?_ (dinv_step (fr := []) (nti := 0) (t1 := t1) (t2 := t2) (t3 := t3) (nt' := nt') hu hl (hp'.nodup_iff.mpr hkn) (by rw [List.getElem?_map, hn]; rfl) hwsi hexi htup hws2 lD.1 lD.2 ?_ ?_))
      · exact fun q hq => N3' q (by
          simp only [List.mem_cons, List.mem_append, List.cons_append] at hq ⊢
          rcases hq with h | h | h | h | h | h | h | h | h | (h | h) | h <;> simp only [h, true_or, or_true])
      · refine LCg.Off3.of fun q hq => ?_
        simp only [List.mem_cons, List.mem_append, List.cons_append] at hq
        rcases hq with rfl | rfl | rfl | rfl | rfl | rfl | (h | h) | h
        · exact lI _ (by k_data)
        · exact lI _ (by k_data)
        · exact lI _ (by k_data)
        · exact lI (c.pm, opmi) (by k_data)
        · exact lI (top, listOf tvi nti) (by k_data)
        · exact ⟨Nat.ne_of_gt lI1.1, Nat.ne_of_gt lC1.1, Nat.ne_of_gt lD1.1⟩
        · exact ⟨Nat.ne_of_gt (lI1.2 q h), Nat.ne_of_gt (lC1.2 q h), Nat.ne_of_gt (lD1.2 q h)⟩
        · exact lI q (by k_data)
        · exact lI q (by k_data)
      · exact .inr ⟨_, .tail _ (.tail _ (.tail _ (.tail _ (.tail _ (List.mem_append_right _ hRD))))), rfl, _, rfl⟩
      · exact Nat.ne_of_gt (lt1 (top, listOf tvi nti) (by k_data)).1
      · exact Nat.ne_of_gt (lt1 (c.pm, opmi) (by k_data)).1
  · intro D oD hh tk gens dr kvs news' F1 N1 hoD off1 hz1_; (refine e4a5 hz1_ fun tv' nt' opm' ex y3_ hws' hex' htup' hle' => ?_; clear hz1_; obtain rfl := y3_); intro hB1 hDs
    have om := off1_mem off1
    have hsz : (kt'.map (·.1)).take (kt'.map fun q => Value.str q.1 q.2).toArray.size = kt'.map (·.1) := List.take_of_length_le (by simp)
    rw [hsz] at hws' htup'
    have lc : @LT.lt Nat _ c' D' := l1 (c', ocL) (by k_mem)
    have hled : ∀ q ∈ (wr, instObj 150 wd) :: (wd, wDict w c) :: (c.dns, listOf dv nd) :: (c.pm, opm) :: (top, listOf tv nt) :: (tb, tabObj ps) :: (at_, oat) :: (L' + 1, osf) :: (L' + 2, opq) :: tl, q.1 < D' := by
      have a1 := l1 (wr, instObj 150 wd) (by k_mem)
      have a2 := l1 (wd, wDict w c) (by k_mem)
      have a3 := l1 (c.dns, listOf dv nd) (by k_mem)
      have a4 := l1 (c.pm, opm) (by k_mem)
      have a5 := l1 (top, listOf tv nt) (by k_mem)
      have a6 := l1 (at_, oat) (by k_mem)
      have a7 := l1 (L' + 1, osf) (by k_mem)
      have a8 := l1 (L' + 2, o2) (by k_mem)
      have a9 := l1 (tb, tabObj #[rawInt 135, rawInt 71, .ref c']) (by k_mem)
      refine fmc ?_ (fmc ?_ (fmc ?_ (fmc ?_ (fmc ?_ (fmc ?_ (fmc ?_ (fmc ?_ (fmc ?_ (fun q hq => ?_)))))))))
      · exact a1
      · exact a2
      · exact a3
      · exact a4
      · exact a5
      · exact a9
      · exact a6
      · exact a7
      · exact a8
      · exact l1 q (by k_data)
    have hpd : ∀ q ∈ (wr, instObj 150 wd) :: (wd, wDict w c) :: (c.dns, listOf dv nd) :: (c.pm, opm) :: (top, listOf tv nt) :: (tb, tabObj ps) :: (at_, oat) :: (L' + 1, osf) :: (L' + 2, opq) :: tl, q.1 ≠ D := by
      rw [hR] at om
      refine fmc ?_ (fmc ?_ (fmc ?_ (fmc ?_ (fmc ?_ (fmc ?_ (fmc ?_ (fmc ?_ (fmc ?_ (fun q hq => ?_)))))))))
      · exact om (wr, instObj 150 wd) (by k_data)
      · exact om (wd, wDict w c) (by k_data)
      · exact om (c.dns, listOf dv nd) (by k_data)
      · exact om (c.pm, opm') (by k_data)
      · exact om (top, listOf tv' nt') (by k_data)
      · exact om (tb, tabObj #[rawInt 135, rawInt 71, .ref c']) (by k_data)
      · exact om (at_, oat) (by k_data)
      · exact om (L' + 1, osf) (by k_data)
      · exact om (L' + 2, o2) (by k_data)
      · exact om q (by k_data)
    refine h (kt'.map (·.1)) kvs D c' oD ocL o2 tv' nt' opm' ex vsL tL hh tk gens dr _ hp' (List.pairwise_map.mpr hs') hws' hoD htup' dL1 dL2 (fun z hz q hq => Nat.ne_of_gt (Nat.lt_trans (hled q hq) (hex' z hz))) (fun z hz => ⟨Nat.ne_of_gt (Nat.lt_trans lc (hex' z hz)), om z (by k_data)⟩) hpd ?_ neL ?_ ?_ ?_ ?_ ?_ ?_ hB1 F1 ?_
    · exact om (c', ocL) (by rw [hR]; k_data)
    · exact mT
    · exact mA
    · exact mN
    · exact mQ
    · exact rfl
    · exact rfl
    · rw [hR] at N1
      refine fun q hq => N1 q ?_
      revert q
      k_data
end
section
example : True := by (k_with "2" => skip); trivial
noncomputable def xmP : Str := Str.ofString "xmlns:"
noncomputable def xmRows (l : List (Str × Str)) : List (Str × Str) := l.map fun q => (xmP ++ q.2, q.1)
example : True := by (k_with "eval Name" => (fail_if_success k_extra "3"); k_extra "en"); (k_with "truthy ref" => (fail_if_success k_extra "3"); (k_here; k_dflt (refine' truthy_nw ?N_r ?m_r ?z_r ?_ ?_; (case N_r => k_asm); (case m_r => k_mem); (case z_r => assumption)); all_goals intro _)); (k_with "call builtin:list.sort" => (fail_if_success k_extra "3"); k_extra "st"); (k_with "SrcLP" => (fail_if_success k_extra "3"); k_extra "st"); trivial
theorem s_decl (h₀ : Heap) (L L' : Addr) (m : Str → Option Value) (s : Shared) (Q : Flow → Shared → Prop) (E : Value → Shared → Prop)
   (top : Addr) (tv : Array Value) (nt : Nat) (prs : List (Str × Str)) (tl : List (Addr × Obj))
   (B : Below (ktrTop dp un gd cn cs L a ccd cl outer) base (envX cn cs L a ccd cl :: outer) h₀) (F : Fr h₀ L' s.heap m) (X : (hd.heap_39 w.params).In h₀) (N : News h₀ L' s.heap ((top, listOf tv nt) :: tl))
   (T : Top p loose mean mg mb h₀) (hdp : dp + 60 < recursionLimit) (hun : un + 600 < cLine) (hB : AllBare s.gens)
   (hps : PairsAt tl tv.toList prs) (hpl : ∀ q ∈ prs, 0 < q.2.length ∧ q.2.length ≤ 10) (hlen : prs.length ≤ 5) (hnt : ∀ q ∈ tl, q.1 ≠ top) (mT : m (Str.ofString "new_namespaces") = some (.ref top))
   (h : ∀ al av n ex rows h' tk, rows.Perm (xmRows prs) → SortedR rows → PairsAt ex av.toList rows → (∀ q ∈ (top, listOf tv nt) :: tl, q.1 ≠ al) → (∀ z ∈ ex, z.1 ≠ al ∧ ∀ q ∈ (top, listOf tv nt) :: tl, z.1 ≠ q.1) → Fr h₀ L' h' (fun y => if y = Str.ofString "attr_list" then some (.ref al) else m y) → News h₀ L' h' ((al, listOf av n) :: (top, listOf tv nt) :: (ex ++ tl)) → Q .next { s with heap := h', toks := tk }) :
   wpAny (model PR w) ((ktrTop dp un gd cn cs L a ccd cl outer).deeper (startE L')) (exec (nth startB.1 7) (startE L')) Q E s := by
  unfold startE
  conv => arg 3; arg 1; whnf
  conv => arg 3; arg 2; arg 2; whnf
  conv => arg 2; arg 2; arg 2; whnf
  have hsz : (tv.size : Int) < 2 ^ 63 := by
    have := hps.len
    rw [Array.length_toList] at this
    k_room
  have hl := hps.len
  rw [Array.length_toList] at hl
  k_steps
  · refine LCp.SrcLP.ledger rfl F N (.head _) (by rw [sizeLine_eq]; k_room) fun g' => ?_
    refine restP_inv (fun i ys news => ∃ ex, news = (top, listOf tv nt) :: (ex ++ tl) ∧ PairsAt ex ys ((xmRows prs).take i) ∧ ∀ z ∈ ex, ∀ q ∈ (top, listOf tv nt) :: tl, z.1 ≠ q.1) ?step ?fin ⟨[], rfl, trivial, fun z hz => nomatch hz⟩
    case step =>
      intro i v ys _ hi hv hz1_; (refine e1a3 hz1_ fun ex y3_ hys hex => ?_; clear hz1_; obtain rfl := y3_)
      (refine ex4 (hps.at (i := i) (v := v) (by rw [← hv]; simp)) fun q ta t1 t2 w2_ => an3 w2_ fun hq y3_ hta => ?_; clear w2_; obtain rfl := y3_)
      refine exI5 ta _ _ _ _ (anI5 rfl (.tail _ (List.mem_append_right _ hta)) rfl rfl ?_)
      intro I oI C oC D m₂ hh tk E' hC hx hx2 F2 N2 off ne
      (refine an2 (hpl q (List.mem_of_getElem? hq)) fun hq2 hq3 => ?_)
      dsimp only
      k_steps
      · rename News h₀ L' _ _ => kN
        rename Fr h₀ L' _ _ => kF
        rename AllLt _ _ => lN
        have lM := allLt_mem lN
        rename Addr => dN
        rename_i t9 k9 a9 h9 i1 i2 i3 i4
        refine ⟨_, _, (top, listOf tv nt) :: ((dN, tup2 (xmP ++ q.2) t9 q.1 t1) :: ex ++ tl), rfl, kF, fun p hp => kN p ?_, LCg.Off3.of fun p hp => ?_, .inr ⟨_, .head _, rfl, _, rfl⟩, _ :: ex, rfl, ?_, fun z hz q hq => ?_⟩
        · revert p; k_data
        · simp only [List.mem_cons, List.cons_append] at hp
          have om := off.mem
          rcases hp with rfl | rfl | h
          · exact om _ (.head _)
          · exact ⟨Nat.ne_of_gt (by assumption), Nat.ne_of_gt (by assumption), Nat.ne_of_gt (by assumption)⟩
          · exact om _ (.tail _ h)
        · rw [take_snoc (show (xmRows prs)[i]? = some (xmP ++ q.2, q.1) by unfold xmRows; rw [List.getElem?_map, hq]; rfl)]
          exact (hys.mono fun _ h => .tail _ h).snoc (.head _)
        · rcases List.mem_cons.mp hz with rfl | hz
          · rcases List.mem_cons.mp hq with rfl | hq
            · exact Nat.ne_of_gt (by assumption)
            · exact Nat.ne_of_gt (lM q (List.mem_append_right _ hq))
          · exact hex z hz q hq
      · exfalso; k_room
    case fin =>
      intro ys _ hz1_; (refine e1a3 hz1_ fun ex y3_ hys hex => ?_; clear hz1_; obtain rfl := y3_)
      k_steps
      rename News h₀ L' _ _ => kN
      rename Fr h₀ L' _ _ => kF
      rename _ ∧ LCg.Off1 _ _ => o1
      have om := off1_mem o1.2
      rw [List.take_of_length_le (by rw [hl]; simp [xmRows])] at hys
      refine pairs_lsort (tl := ex) (rows := xmRows prs) kF kN (.head fun p hp => ?_) (by simpa using hys) (fun q hq => ⟨.tail _ (.tail _ (List.mem_append_left _ hq)), om q (List.mem_append_left _ hq)⟩) (by simpa [xmRows] using hlen) fun vs' rows' c h3 hp1 hp2 hp3 F3 N3 => ?_
      · rcases List.mem_cons.mp hp with rfl | hp
        · exact o1.1
        · exact om p hp
      k_steps
      refine h _ vs'.toArray c ex rows' _ _ hp2 hp3 (by simpa using hp1) (fun q hq => ?_) (fun z hz => ⟨om z (List.mem_append_left _ hz), hex z hz⟩) F3 N3
      rcases List.mem_cons.mp hq with rfl | hq
      · exact o1.1
      · exact om q (List.mem_append_right _ hq)
  · k_steps
    rename News h₀ L' _ _ => kN
    rename Fr h₀ L' _ _ => kF
    rename AllLt _ _ => lN
    have lM := allLt_mem lN
    have e : prs = [] := List.length_eq_zero_iff.mp (by k_room)
    subst e
    refine h _ #[] 0 [] [] _ _ (List.Perm.refl _) .nil trivial (fun q hq => ?_) (fun z hz => nomatch hz) kF kN
    rcases List.mem_cons.mp hq with rfl | hq
    · exact Nat.ne_of_lt (by assumption)
    · exact Nat.ne_of_lt (lM q hq)
end
section
example : True := by (k_with "3" => skip); trivial
section
variable {w : World} {A : Around} {E : Value → Shared → Prop} {s : Shared} {h₀ : Heap} {L v d : Addr} {m : Str → Option Value} {news : List (Addr × Obj)} {od : Obj} {Q : Value → Shared → Prop}
theorem sorted_items4 {k1 k2 k3 k4 v1 v2 v3 v4 : Str} {z1 z2 z3 z4 : Tok} (hh : A.handled = none) (F : Fr h₀ L s.heap m) (N : News h₀ L s.heap news) (hvw : (v, { cls := .type "dict_items", data := .fields #[.ref d] }) ∈ news) (hmd : (d, od) ∈ news)
    (hod : od.IsDictOf (PySem.strKind PR w) [(k1, .str v1 z1), (k2, .str v2 z2), (k3, .str v3 z3), (k4, .str v4 z4)])
    (h : ∀ D tups vals rows c h' tk, rows.Perm [(k1, v1), (k2, v2), (k3, v3), (k4, v4)] → SortedR rows → PairsAt tups vals rows → (∀ q ∈ news, q.1 < D ∧ ∀ z ∈ tups, q.1 < z.1) → Fr h₀ L h' m → News h₀ L h' ((D, listOf vals.toArray c) :: (tups ++ news)) → Q (.ref D) { s with heap := h', toks := tk }) :
    wpAny (model PR w) A (call (.builtin "sorted") [.ref v]) Q E s := by
  with_unfolding_all refine kdx_sortedN (knd := PySem.strKind _ _) (enc := PyData.str) (ps := [((fun t => Value.str k1 t), .str v1 z1), ((fun t => Value.str k2 t), .str v2 z2), ((fun t => Value.str k3 t), .str v3 z3), ((fun t => Value.str k4 t), .str v4 z4)]) hh F N hvw hmd hod (Nat.le_of_ble_eq_true rfl) (fun _ _ h => Value.isStrOf_shape h) rfl ?_
  intro lo l0
  refine KdxOpen.cons fun a1 t1 p1 q1 r1 => KdxOpen.cons fun a2 t2 p2 q2 r2 => KdxOpen.cons fun a3 t3 p3 q3 r3 => KdxOpen.cons fun a4 t4 p4 q4 r4 => KdxOpen.nil ?_
  intro B h' tk lB F' N'
  have lT : ∀ z ∈ [(a4, tup2 k4 t4 v4 z4), (a3, tup2 k3 t3 v3 z3), (a2, tup2 k2 t2 v2 z2), (a1, tup2 k1 t1 v1 z1)], z.1 < B := fun z hz => lB z (List.mem_append_left _ hz)
  refine pairs_lsort (tl := [(a4, tup2 k4 t4 v4 z4), (a3, tup2 k3 t3 v3 z3), (a2, tup2 k2 t2 v2 z2), (a1, tup2 k1 t1 v1 z1)]) (rows := [(k1, v1), (k2, v2), (k3, v3), (k4, v4)]) F' N' (.head fun p hp => Nat.ne_of_lt (lB p hp)) ?_ (fun q hq => ⟨.tail _ (List.mem_append_left _ hq), Nat.ne_of_lt (lT q hq)⟩) (by simp) fun vs' rows' c h3 hp1 hp2 hp3 F3 N3 => ?_
  · show PairsAt _ [.ref a1, .ref a2, .ref a3, .ref a4] _
    exact ⟨⟨a1, t1, z1, rfl, by repeat first | exact .head _ | refine .tail _ ?_⟩, anI4 ⟨a2, t2, z2, rfl, by repeat first | exact .head _ | refine .tail _ ?_⟩ ⟨a3, t3, z3, rfl, by repeat first | exact .head _ | refine .tail _ ?_⟩ ⟨a4, t4, z4, rfl, by repeat first | exact .head _ | refine .tail _ ?_⟩ trivial⟩
  · refine h B _ vs' rows' c h3 tk hp2 hp3 hp1 (fun q hq => ⟨lB q (List.mem_append_right _ hq), fun z hz => ?_⟩) F3 N3
    revert z; refine fmc ?_ (fmc ?_ (fmc ?_ (fmc ?_ (fun _ h => nomatch h))))
    · exact q4 q hq
    · exact q3 q hq
    · exact q2 q hq
    · exact q1 q hq
end
end
section
example : True := by (k_with "eval Name" => (fail_if_success k_extra "4"); k_extra "en"); (k_with "truthy ref" => (fail_if_success k_extra "4"); (k_here; k_dflt (refine truthy_dw (by k_asm) (by k_mem) (by k_asm) (by k_asm) (Nat.le_of_ble_eq_true rfl) (Nat.le_of_ble_eq_true rfl) ?_))); (k_with "truthy str" => (fail_if_success k_extra "4"); (k_here; k_dflt (refine' truthy_pos' ?p_r ?l_r ?_; (case p_r => assumption); (case l_r => assumption); intro _))); (k_with "exec For" => (fail_if_success k_extra "4"); k_extra "fr"); (k_with "call builtin:sorted" => (fail_if_success k_extra "4"); k_extra "st"); (k_with "subscriptTail" => (fail_if_success k_extra "4"); k_extra "b6"); (k_with "call builtin:list.append" => (fail_if_success k_extra "4"); k_extra "ap"); trivial
noncomputable def itRows (known : List Str) (l : List (Str × Str)) : List (Str × Str) := l.map fun q => (pnm (nmK known (uOf q.1)) (lOf q.1), q.2)
theorem s_items (h₀ : Heap) (L L' : Addr) (m : Str → Option Value) (s : Shared) (Q : Flow → Shared → Prop) (E : Value → Shared → Prop)
   (at_ al pd : Addr) (oat opd : Obj) (k1 k2 k3 k4 v1 v2 v3 v4 : Str) (z1 z2 z3 z4 : Tok) (av : Array Value) (n : Nat) (kvs : List (Str × Value)) (names known : List Str) (tl : List (Addr × Obj))
   (B : Below (ktrTop dp un gd cn cs L a ccd cl outer) base (envX cn cs L a ccd cl :: outer) h₀) (F : Fr h₀ L' s.heap m) (X : (hd.heap_39 w.params).In h₀) (N : News h₀ L' s.heap ((at_, oat) :: (al, listOf av n) :: (pd, opd) :: tl))
   (T : Top p loose mean mg mb h₀) (hdp : dp + 60 < recursionLimit) (hun : un + 600 < cLine) (hB : AllBare s.gens)
   (hat : Obj.IsDictOf (PySem.strKind PR w) oat [(k1, .str v1 z1), (k2, .str v2 z2), (k3, .str v3 z3), (k4, .str v4 z4)]) (hsm : (at_ == sysModules) = false) (hopd : Obj.IsDictOf (PySem.strKind PR w) opd kvs) (hkvs : TupAt tl known kvs names) (hkn : known.length < 40) (hkw : ∀ x ∈ known, x ∈ words) (hlt : ∀ k ∈ [k1, k2, k3, k4], lOf k ∈ letters) (hsub : ∀ k ∈ [k1, k2, k3, k4], k ∈ names) (hav : av.size ≤ 10) (hne1 : @Ne Nat at_ al) (hne2 : @Ne Nat pd al) (hnt : ∀ q ∈ tl, q.1 ≠ al)
   (mA : m (Str.ofString "attrs") = some (.ref at_)) (mL : m (Str.ofString "attr_list") = some (.ref al)) (mQ : m (Str.ofString "qattrs") = some .none) (mP : m (Str.ofString "parsed_qnames") = some (.ref pd))
   (h : ∀ av' n' ex krows vals h' tk m', krows.Perm [(k1, v1), (k2, v2), (k3, v3), (k4, v4)] → SortedR krows → av'.toList = av.toList ++ vals → PairsAt ex vals (itRows known krows) → (∀ z ∈ ex, z.1 ≠ al ∧ z.1 ≠ at_ ∧ z.1 ≠ pd ∧ ∀ q ∈ tl, z.1 ≠ q.1) → (∀ y, y ∉ [Str.ofString "k", Str.ofString "v", Str.ofString "attr_qname", Str.ofString "attr_name", Str.ofString "uri"] → m' y = m y) → Fr h₀ L' h' m' → News h₀ L' h' ((at_, oat) :: (al, listOf av' n') :: (pd, opd) :: (ex ++ tl)) → ∀ gens dr, AllBare gens → Q .next { s with heap := h', toks := tk, gens := gens, drawn := dr }) :
   wpAny (model PR w) ((ktrTop dp un gd cn cs L a ccd cl outer).deeper (startE L')) (exec (nth startB.1 8) (startE L')) Q E s := by
  unfold startE
  conv => arg 3; arg 1; whnf
  conv => arg 3; arg 2; arg 2; whnf
  conv => arg 2; arg 2; arg 2; whnf
  k_steps
  rename News h₀ L' _ _ => kN
  rename Fr h₀ L' _ _ => kF
  rename AllLt _ _ => lN
  have lM := allLt_mem lN
  refine sorted_items4 (d := at_) rfl kF kN (.head _) (.tail _ (.head _)) hat fun D tups vals krows c h1 tk1 hpm hsr hpa hlD F1 N1 => ?_
  rename Addr => dV
  obtain ⟨rest, hrest, N1⟩ : ∃ rest, rest = _ ∧ News h₀ L' h1 ((al, listOf av n) :: (pd, opd) :: rest) := ⟨(at_, oat) :: (D, listOf vals.toArray c) :: (tups ++ tl), rfl, fun p hp => N1 p (by
    revert p
    k_data)⟩
  have hr1 : ∀ q ∈ rest, q.1 ≠ al := by
    intro q hq
    rw [hrest] at hq
    simp only [List.mem_cons, List.mem_append] at hq
    have lA := hlD (al, listOf av n) (by simp)
    rcases hq with rfl | rfl | hq | hq
    · exact hne1
    · exact Nat.ne_of_gt lA.1
    · exact Nat.ne_of_gt (lA.2 q hq)
    · exact hnt q hq
  have hsr' : ∀ q ∈ rest, q ∈ rest := fun _ h => h
  have hD : (D, listOf vals.toArray c) ∈ rest := by rw [hrest]; simp
  have hT : ∀ q ∈ tups, q ∈ rest := fun q hq => by rw [hrest]; k_data
  have hTl : ∀ q ∈ tl, q ∈ rest := fun q hq => by rw [hrest]; k_data
  have hlen : krows.length = 4 := hpm.length_eq
  have hvl := hpa.len
  clear kN kF N F
  refine hideJ (fun (i : Nat) (m₁ : Str → Option Value) (nw : List (Addr × Obj)) => ∃ av' n' ex vs, nw = (al, listOf av' n') :: (pd, opd) :: (ex ++ rest) ∧ av'.toList = av.toList ++ vs ∧ PairsAt ex vs ((itRows known krows).take i) ∧ (∀ z ∈ ex, z.1 ≠ al ∧ z.1 ≠ pd ∧ ∀ q ∈ rest, z.1 ≠ q.1) ∧ (∀ y, y ∉ [Str.ofString "k", Str.ofString "v", Str.ofString "attr_qname", Str.ofString "attr_name", Str.ofString "uri"] → m₁ y = m y)) fun J_ hJ_ => ?_
  refine loop_list (L := L') (n₀ := 0) (ax := D) (its := vals.toArray) rfl ?hgo rfl
    J_ ?hJS ?turn ?done F1 N1 hB
    ((hJ_ _ _ _).mpr ⟨av, n, [], [], rfl, by simp, trivial, (fun z hz => nomatch hz), fun _ _ => rfl⟩) (Nat.zero_le _)
  case hgo =>
    intro s' v Q' I i hv st hq
    (refine e4a3 (hpa.at (i := i) (v := v) (by simpa using hv)) fun q a t1 t2 e1 y3_ e2 => ?_; obtain rfl := y3_)
    exact wpAny_letOwnedTupleGo_listiter st hq
  case hJS =>
    intro i m₁ nw hz1_; (refine e4a2 ((hJ_ _ _ _).mp hz1_) fun av' n' ex vs y3_ _ => ?_; clear hz1_; obtain rfl := y3_)
    exact .inr ⟨_, .tail _ (.tail _ (List.mem_append_right _ hD)), rfl, _, rfl⟩
  case done =>
    intro m₁ news₁ h2 tk2 gens dr hz1_; (refine e4a5 ((hJ_ _ _ _).mp hz1_) fun av' n' ex vs y3_ hav' hvs hex hm₁ => ?_; clear hz1_; obtain rfl := y3_); intro F2 N2 hB2 _
    k_steps
    have hsz : (itRows known krows).length = 4 := by unfold itRows; rw [List.length_map]; exact hlen
    rw [List.take_of_length_le (by rw [List.size_toArray]; k_room)] at hvs
    refine h av' n' ex krows vs h2 tk2 m₁ hpm hsr hav' hvs (fun z hz => ?_) hm₁ F2 (fun p hp => N2 p ?_) gens dr hB2
    · (refine an3 (hex z hz) fun z1 z2 z3 => ?_)
      exact ⟨z1, anI3 (z3 (at_, oat) (by rw [hrest]; exact .head _)) z2 (fun q hq => z3 q (hTl q hq))⟩
    · rw [hrest]
      revert p
      k_data
  case turn =>
    intro i v m₁ news₁ I oI h2 tk2 gens dr hv hz1_; (refine e4a5 ((hJ_ _ _ _).mp hz1_) fun av' n' ex vs y3_ hav' hvs hex hm₁ => ?_; clear hz1_; obtain rfl := y3_); intro _ off F2 N2 hB2 _
    (refine e4a3 (hpa.at (i := i) (v := v) (by simpa using hv)) fun q ta t1 t2 hq y3_ hta => ?_; obtain rfl := y3_)
    have hi : i < 4 := by rw [← hlen]; exact (List.getElem?_eq_some_iff.mp hq).1
    have hqm : q.1 ∈ [k1, k2, k3, k4] := by
      have := hpm.mem_iff.mp (List.mem_of_getElem? hq)
      simp only [List.mem_cons, List.not_mem_nil, or_false] at this ⊢
      rcases this with rfl | rfl | rfl | rfl <;> simp
    (refine e4a3 (hkvs.find (hsub _ hqm)) fun tb u1 u2 u3 hval huk htb => ?_)
    have hul := words_len _ (hkw _ huk)
    have hup : 1 ≤ (uOf q.1).length := words_pos _ (hkw _ huk)
    have hll := letters_len _ (hlt _ hqm)
    have hsz : av'.size ≤ 20 := by
      have e := congrArg List.length hav'
      rw [List.length_append, Array.length_toList, Array.length_toList] at e
      have e2 := hvs.len
      rw [List.length_take] at e2
      k_room
    obtain ⟨tail, htail, N2⟩ : ∃ tail, tail = _ ∧ News h₀ L' h2 ((ta, tup2 q.1 t1 q.2 t2) :: (tb, tup3 (pnm (nmK known (uOf q.1)) (lOf q.1)) u1 (lOf q.1) u2 (uOf q.1) u3) :: (al, listOf av' n') :: (pd, opd) :: tail) := ⟨(I, oI) :: (ex ++ rest), rfl, fun p hp => N2 p (by
      simp only [List.mem_cons, List.mem_append] at hp ⊢
      rcases hp with rfl | rfl | h | h | h | h | h
      · simp only [hT _ hta, or_true]
      · simp only [hTl _ htb, or_true]
      all_goals simp only [h, true_or, or_true])⟩
    have n1 : @Ne Nat ta al := hr1 _ (hT _ hta)
    have n2 : @Ne Nat tb al := hr1 _ (hTl _ htb)
    have n3 : ∀ p ∈ tail, p.1 ≠ al := by
      intro p hp
      rw [htail] at hp
      rcases List.mem_cons.mp hp with rfl | hp
      · exact Ne.symm (off (al, listOf av' n') (.head _))
      · rcases List.mem_append.mp hp with hp | hp
        · exact (hex p hp).1
        · exact hr1 p hp
    have mL' : m₁ (Str.ofString "attr_list") = some (.ref al) := (hm₁ _ (by decide)).trans mL
    have mQ' : m₁ (Str.ofString "qattrs") = some .none := (hm₁ _ (by decide)).trans mQ
    have mP' : m₁ (Str.ofString "parsed_qnames") = some (.ref pd) := (hm₁ _ (by decide)).trans mP
    have hIt : (itRows known krows)[i]? = some (pnm (nmK known (uOf q.1)) (lOf q.1), q.2) := by unfold itRows; rw [List.getElem?_map, hq]; rfl
    generalize hpn : pnm (nmK known (uOf q.1)) (lOf q.1) = pn at *
    generalize uOf q.1 = uu at *
    generalize lOf q.1 = ll at *
    clear mA mL mQ mP N1 F1 hrest hpa hpm hsr hat hvl
    k_steps
    · rename News h₀ L' _ _ => kN
      rename Fr h₀ L' _ _ => kF
      rename AllLt _ tail => l2
      have lM2 := allLt_mem l2
      rename (@LT.lt Nat _ ta _) => iA
      (refine e1a2 (lt_ex iA) fun dN y3_ i0 => ?_; obtain rfl := y3_)
      rw [htail] at lM2 kN
      refine stop_turn (gens := gens) (dr := dr) (nw := (al, listOf (av'.push (.ref dN)) (n' + 1)) :: (pd, opd) :: (((dN, tup2 pn u1 q.2 t2) :: ex) ++ rest)) kF (fun p hp => kN p ?_) (fun p hp => ?_) hB2 ((hJ_ _ _ _).mpr (exI4 (av'.push (.ref dN)) (n' + 1) _ (vs ++ [.ref dN]) (anI5 rfl ?_ ?_ (fun z hz => ?_) (fun y hy => ?_))))
      · revert p
        k_data
      · revert p; refine fmc ?_ (fmc ?_ (fmc ?_ (fma (fun p hp => ?_) fun p hp => ?_)))
        · exact off (al, listOf av' n') (.head _)
        · exact off (pd, opd) (.tail _ (.head _))
        · exact Nat.ne_of_gt (lM2 (I, oI) (.head _))
        · exact off p (.tail _ (.tail _ (List.mem_append_left _ hp)))
        · exact off p (.tail _ (.tail _ (List.mem_append_right _ hp)))
      · rw [Array.toList_push, hav', List.append_assoc]
      · rw [take_snoc hIt]
        exact (hvs.mono fun _ h => .tail _ h).snoc (.head _)
      · rcases List.mem_cons.mp hz with rfl | hz
        · exact ⟨Nat.ne_of_gt (by assumption), Nat.ne_of_gt (by assumption), fun q hq => Nat.ne_of_gt (lM2 q (.tail _ (List.mem_append_right _ hq)))⟩
        · exact hex z hz
      · simp only [List.mem_cons, List.not_mem_nil, or_false, not_or] at hy
        (refine an5 hy fun y1 y2 y3 y4 y5 => ?_; try clear hy)
        simp only [if_neg y1, if_neg y2, if_neg y3, if_neg y4, if_neg y5]
        exact hm₁ y (by simp only [List.mem_cons, List.not_mem_nil, or_false, not_or]; exact ⟨y1, anI4 y2 y3 y4 y5⟩)
end
section
example : True := by (k_with "4" => skip); (k_with "eval Name" => (fail_if_success k_extra "5"); k_extra "en"); (k_with "call builtin:dict.get" => (fail_if_success k_extra "5"); (k_here; k_dflt (refine kdg_get1 (knd := PySem.strKind _ _) (by k_asm) (by k_mem) (by k_asm) (by k_asm) (strKind_is _ _ _ _) none (by assumption) ?_))); (k_with "subscriptTail Name UnaryOp ref int" => (fail_if_success k_extra "5"); k_extra "b4"); (k_with "call builtin:list.append" => (fail_if_success k_extra "5"); k_extra "ap"); trivial
noncomputable def spK : Str := Str.ofString "{http://www.w3.org/XML/1998/namespace}space"
theorem s_space (h₀ : Heap) (L L' : Addr) (m : Str → Option Value) (s : Shared) (Q : Flow → Shared → Prop) (E : Value → Shared → Prop)
   (at_ : Addr) (oat : Obj) (kvs : List (Str × Value)) (tl : List (Addr × Obj))
   (B : Below (ktrTop dp un gd cn cs L a ccd cl outer) base (envX cn cs L a ccd cl :: outer) h₀) (F : Fr h₀ L' s.heap m) (X : (hd.heap_39 w.params).In h₀) (N : News h₀ L' s.heap ((at_, oat) :: tl))
   (T : Top p loose mean mg mb h₀) (hdp : dp + 60 < recursionLimit) (hun : un + 600 < cLine) (hB : AllBare s.gens)
   (hat : Obj.IsDictOf (PySem.strKind PR w) oat kvs) (hsm : (at_ == sysModules) = false) (hno : valueAt kvs spK = none) (mA : m (Str.ofString "attrs") = some (.ref at_))
   (h : ∀ h' tk, Fr h₀ L' h' (fun y => if y = Str.ofString "space_behaviour" then some .none else m y) → News h₀ L' h' ((at_, oat) :: tl) → Q .next { s with heap := h', toks := tk }) :
   wpAny (model PR w) ((ktrTop dp un gd cn cs L a ccd cl outer).deeper (startE L')) (exec (nth startB.1 9) (startE L')) Q E s := by
  unfold startE
  conv => arg 3; arg 1; whnf
  conv => arg 3; arg 2; arg 2; whnf
  conv => arg 2; arg 2; arg 2; whnf
  unfold spK at hno
  k_steps
  exact h _ _ (by assumption) (by assumption)
theorem s_pres (h₀ : Heap) (L L' : Addr) (m : Str → Option Value) (s : Shared) (Q : Flow → Shared → Prop) (E : Value → Shared → Prop)
   (c : WC) (wr wd : Addr) (psv : Array Value) (pn : Nat) (osf : Obj) (tl : List (Addr × Obj))
   (B : Below (ktrTop dp un gd cn cs L a ccd cl outer) base (envX cn cs L a ccd cl :: outer) h₀) (F : Fr h₀ L' s.heap m) (X : (hd.heap_39 w.params).In h₀) (N : News h₀ L' s.heap ((wr, instObj 150 wd) :: (wd, wDict w c) :: (c.ps, listOf psv pn) :: (L' + 1, osf) :: tl))
   (T : Top p loose mean mg mb h₀) (hdp : dp + 60 < recursionLimit) (hun : un + 600 < cLine) (hB : AllBare s.gens)
   (hsf : osf.data = .cell (some (.ref wr))) (hps : psv[psv.size - 1]? = some (.bool false)) (hp0 : 0 < psv.size) (hp1 : psv.size ≤ 1000) (hn1 : @Ne Nat wr c.ps) (hn2 : @Ne Nat wd c.ps) (hn3 : @Ne Nat (L' + 1) c.ps) (hnt : ∀ q ∈ tl, q.1 ≠ c.ps) (mS : m (Str.ofString "space_behaviour") = some .none)
   (h : ∀ h' tk pn', Fr h₀ L' h' m → News h₀ L' h' ((wr, instObj 150 wd) :: (wd, wDict w c) :: (c.ps, listOf (psv.push (.bool false)) pn') :: (L' + 1, osf) :: tl) → Q .next { s with heap := h', toks := tk }) :
   wpAny (model PR w) ((ktrTop dp un gd cn cs L a ccd cl outer).deeper (startE L')) (exec (nth startB.1 10) (startE L')) Q E s := by
  unfold startE
  conv => arg 3; arg 1; whnf
  conv => arg 3; arg 2; arg 2; whnf
  conv => arg 2; arg 2; arg 2; whnf
  k_steps
  exact h _ _ _ (by assumption) (by assumption)
end
section
example : True := by (k_with "5" => skip); trivial
section
variable {w : World} {A : Around} {E : Value → Shared → Prop} {s : Shared} {h₀ : Heap} {L : Addr} {m : Str → Option Value} {tl : List (Addr × Obj)} {c : WC} {wr wd : Addr} {Q : Unit → Shared → Prop}
theorem set_rs (b : Bool) (F : Fr h₀ L s.heap m) (X : (hd.heap_39 w.params).In h₀) (N : News h₀ L s.heap ((wr, instObj 150 wd) :: (wd, wDict w c) :: tl)) (hn1 : @Ne Nat wr wd) (hnt : ∀ q ∈ tl, q.1 ≠ wd)
    (h : ∀ h', Fr h₀ L h' m → News h₀ L h' ((wr, instObj 150 wd) :: (wd, wDict w { c with rs := b }) :: tl) → Q () { s with heap := h', toks := s.toks + 2 }) :
    wpAny (model PR w) A (setAttr (.ref wr) (Str.ofString "_root_seen") (.bool b)) Q E s := by
  k_dflt (refine' set_dict (news' := (wr, instObj 150 wd) :: (wd, wDict w { c with rs := b }) :: tl) F X N (InstAt.of_news N (.head _) (.tail _ (.head _))) ?k5 ?k6 ?k7 ?k8 ?k9 ?k10 ?k11 ?k12 ?k13 h; (case k5 => exact rfl); (case k12 => exact Upd.tail hn1 (Upd.head hnt)); (case k6 => k_is); (case k7 => k_is); (case k8 => k_is); (case k9 => k_is); (case k10 => k_get); (case k11 => kernel_rfl); (case k13 => exact Nat.le_of_ble_eq_true rfl))
theorem set_rd (b : Bool) (F : Fr h₀ L s.heap m) (X : (hd.heap_39 w.params).In h₀) (N : News h₀ L s.heap ((wr, instObj 150 wd) :: (wd, wDict w c) :: tl)) (hn1 : @Ne Nat wr wd) (hnt : ∀ q ∈ tl, q.1 ≠ wd)
    (h : ∀ h', Fr h₀ L h' m → News h₀ L h' ((wr, instObj 150 wd) :: (wd, wDict w { c with rd := b }) :: tl) → Q () { s with heap := h', toks := s.toks + 2 }) :
    wpAny (model PR w) A (setAttr (.ref wr) (Str.ofString "_root_done") (.bool b)) Q E s := by
  k_dflt (refine' set_dict (news' := (wr, instObj 150 wd) :: (wd, wDict w { c with rd := b }) :: tl) F X N (InstAt.of_news N (.head _) (.tail _ (.head _))) ?k5 ?k6 ?k7 ?k8 ?k9 ?k10 ?k11 ?k12 ?k13 h; (case k5 => exact rfl); (case k12 => exact Upd.tail hn1 (Upd.head hnt)); (case k6 => k_is); (case k7 => k_is); (case k8 => k_is); (case k9 => k_is); (case k10 => k_get); (case k11 => kernel_rfl); (case k13 => exact Nat.le_of_ble_eq_true rfl))
end
end
section
example : True := by (k_with "eval Name" => (fail_if_success k_extra "6"); k_extra "en"); (k_with "callWith ref" => (fail_if_success k_extra "6"); k_extra "b1"); (k_with "And" => (fail_if_success k_extra "6"); k_extra "b2"); (k_with "call ref" => (fail_if_success k_extra "6"); k_extra "b3"); (k_with "setAttr ref bool" => (fail_if_success k_extra "6"); (k_here; k_dflt (refine' set_rs _ ?F_r ?X_r ?N_r ?a_r ?b_r ?_; (case F_r => k_asm); (case X_r => k_asm); (case N_r => k_asm); (case a_r => assumption); (case b_r => k_all); intro _ _ _))); (k_with "subscriptTail" => (fail_if_success k_extra "6"); k_extra "b6"); trivial
theorem s_getw (h₀ : Heap) (L L' : Addr) (m : Str → Option Value) (s : Shared) (Q : Flow → Shared → Prop) (E : Value → Shared → Prop)
   (c : WC) (wr wd : Addr) (osf : Obj) (tl : List (Addr × Obj))
   (B : Below (ktrTop dp un gd cn cs L a ccd cl outer) base (envX cn cs L a ccd cl :: outer) h₀) (F : Fr h₀ L' s.heap m) (X : (hd.heap_39 w.params).In h₀) (N : News h₀ L' s.heap ((wr, instObj 150 wd) :: (wd, wDict w c) :: (L' + 1, osf) :: tl))
   (T : Top p loose mean mg mb h₀) (hdp : dp + 60 < recursionLimit) (hun : un + 600 < cLine) (hB : AllBare s.gens)
   (hsf : osf.data = .cell (some (.ref wr)))
   (h : ∀ h' tk, Fr h₀ L' h' (fun y => if y = Str.ofString "write" then some (.ref c.bm) else m y) → News h₀ L' h' ((wr, instObj 150 wd) :: (wd, wDict w c) :: (L' + 1, osf) :: tl) → Q .next { s with heap := h', toks := tk }) :
   wpAny (model PR w) ((ktrTop dp un gd cn cs L a ccd cl outer).deeper (startE L')) (exec (nth startB.1 11) (startE L')) Q E s := by
  unfold startE
  conv => arg 3; arg 1; whnf
  conv => arg 3; arg 2; arg 2; whnf
  conv => arg 2; arg 2; arg 2; whnf
  k_steps
  exact h _ _ (by assumption) (by assumption)
theorem s_open (h₀ : Heap) (L L' : Addr) (m : Str → Option Value) (s : Shared) (Q : Flow → Shared → Prop) (E : Value → Shared → Prop)
   (bm pg pd ta : Addr) (opd : Obj) (kvs : List (Str × Value)) (tag qn a2 a3 : Str) (tt u1 u2 u3 : Tok) (pgv : Array Value) (pgn : Nat) (tl : List (Addr × Obj))
   (B : Below (ktrTop dp un gd cn cs L a ccd cl outer) base (envX cn cs L a ccd cl :: outer) h₀) (F : Fr h₀ L' s.heap m) (X : (hd.heap_39 w.params).In h₀) (N : News h₀ L' s.heap ((bm, bmO pg) :: (pg, listOf pgv pgn) :: (pd, opd) :: tl))
   (T : Top p loose mean mg mb h₀) (hdp : dp + 60 < recursionLimit) (hun : un + 600 < cLine) (hB : AllBare s.gens)
   (hta : (ta, tup3 qn u1 a2 u2 a3 u3) ∈ tl) (hopd : Obj.IsDictOf (PySem.strKind PR w) opd kvs) (hv : valueAt kvs tag = some (.ref ta)) (hqn : qn.length ≤ 40) (hp1 : pgv.size ≤ 1000) (hn1 : @Ne Nat bm pg) (hn2 : @Ne Nat pd pg) (hnt : ∀ q ∈ tl, q.1 ≠ pg) (mW : m (Str.ofString "write") = some (.ref bm)) (mP : m (Str.ofString "parsed_qnames") = some (.ref pd)) (mT : m (Str.ofString "tag") = some (.str tag tt))
   (h : ∀ h' tk t n', Fr h₀ L' h' m → News h₀ L' h' ((bm, bmO pg) :: (pg, listOf (pgv.push (.str (Str.ofString "<" ++ qn) t)) n') :: (pd, opd) :: tl) → Q .next { s with heap := h', toks := tk }) :
   wpAny (model PR w) ((ktrTop dp un gd cn cs L a ccd cl outer).deeper (startE L')) (exec (nth startB.1 12) (startE L')) Q E s := by
  unfold startE
  conv => arg 3; arg 1; whnf
  conv => arg 3; arg 2; arg 2; whnf
  conv => arg 2; arg 2; arg 2; whnf
  have n1 : @Ne Nat ta pg := hnt _ hta
  have N2 : News h₀ L' s.heap ((ta, tup3 qn u1 a2 u2 a3 u3) :: (bm, bmO pg) :: (pg, listOf pgv pgn) :: (pd, opd) :: tl) := fun p hp => by
    rcases List.mem_cons.mp hp with rfl | hp
    · exact N _ (by simp [hta])
    · exact N p hp
  clear N
  k_steps
  rename News h₀ L' _ _ => kN
  exact h _ _ _ _ (by assumption) (fun p hp => kN p (.tail _ hp))
theorem s_close (h₀ : Heap) (L L' : Addr) (m : Str → Option Value) (s : Shared) (Q : Flow → Shared → Prop) (E : Value → Shared → Prop)
   (bm pg : Addr) (pgv : Array Value) (pgn : Nat) (tl : List (Addr × Obj))
   (B : Below (ktrTop dp un gd cn cs L a ccd cl outer) base (envX cn cs L a ccd cl :: outer) h₀) (F : Fr h₀ L' s.heap m) (X : (hd.heap_39 w.params).In h₀) (N : News h₀ L' s.heap ((bm, bmO pg) :: (pg, listOf pgv pgn) :: tl))
   (T : Top p loose mean mg mb h₀) (hdp : dp + 60 < recursionLimit) (hun : un + 600 < cLine) (hB : AllBare s.gens)
   (hp1 : pgv.size ≤ 1000) (hn1 : @Ne Nat bm pg) (hnt : ∀ q ∈ tl, q.1 ≠ pg) (mW : m (Str.ofString "write") = some (.ref bm))
   (h : ∀ h' tk t n', Fr h₀ L' h' m → News h₀ L' h' ((bm, bmO pg) :: (pg, listOf (pgv.push (.str (Str.ofString ">") t)) n') :: tl) → Q .next { s with heap := h', toks := tk }) :
   wpAny (model PR w) ((ktrTop dp un gd cn cs L a ccd cl outer).deeper (startE L')) (exec (nth startB.1 14) (startE L')) Q E s := by
  unfold startE
  conv => arg 3; arg 1; whnf
  conv => arg 3; arg 2; arg 2; whnf
  conv => arg 2; arg 2; arg 2; whnf
  k_steps
  exact h _ _ _ _ (by assumption) (by assumption)
theorem s_noq (h₀ : Heap) (L L' : Addr) (m : Str → Option Value) (s : Shared) (Q : Flow → Shared → Prop) (E : Value → Shared → Prop)
   (tl : List (Addr × Obj))
   (B : Below (ktrTop dp un gd cn cs L a ccd cl outer) base (envX cn cs L a ccd cl :: outer) h₀) (F : Fr h₀ L' s.heap m) (X : (hd.heap_39 w.params).In h₀) (N : News h₀ L' s.heap (tl))
   (T : Top p loose mean mg mb h₀) (hdp : dp + 60 < recursionLimit) (hun : un + 600 < cLine) (hB : AllBare s.gens)
   (mQ : m (Str.ofString "qname_text") = some .none)
   (h : ∀ h' tk, Fr h₀ L' h' m → News h₀ L' h' tl → Q .next { s with heap := h', toks := tk }) :
   wpAny (model PR w) ((ktrTop dp un gd cn cs L a ccd cl outer).deeper (startE L')) (exec (nth startB.1 15) (startE L')) Q E s := by
  unfold startE
  conv => arg 3; arg 1; whnf
  conv => arg 3; arg 2; arg 2; whnf
  conv => arg 2; arg 2; arg 2; whnf
  k_steps
  exact h _ _ (by assumption) (by assumption)
theorem s_root (h₀ : Heap) (L L' : Addr) (m : Str → Option Value) (s : Shared) (Q : Flow → Shared → Prop) (E : Value → Shared → Prop)
   (c : WC) (wr wd : Addr) (osf : Obj) (tl : List (Addr × Obj))
   (B : Below (ktrTop dp un gd cn cs L a ccd cl outer) base (envX cn cs L a ccd cl :: outer) h₀) (F : Fr h₀ L' s.heap m) (X : (hd.heap_39 w.params).In h₀) (N : News h₀ L' s.heap ((wr, instObj 150 wd) :: (wd, wDict w c) :: (L' + 1, osf) :: tl))
   (T : Top p loose mean mg mb h₀) (hdp : dp + 60 < recursionLimit) (hun : un + 600 < cLine) (hB : AllBare s.gens)
   (hsf : osf.data = .cell (some (.ref wr))) (hn1 : @Ne Nat wr wd) (hn2 : @Ne Nat (L' + 1) wd) (hnt : ∀ q ∈ tl, q.1 ≠ wd)
   (h : ∀ h' tk, Fr h₀ L' h' m → News h₀ L' h' ((wr, instObj 150 wd) :: (wd, wDict w { c with rs := true }) :: (L' + 1, osf) :: tl) → Q .next { s with heap := h', toks := tk }) :
   wpAny (model PR w) ((ktrTop dp un gd cn cs L a ccd cl outer).deeper (startE L')) (exec (nth startB.1 16) (startE L')) Q E s := by
  unfold startE
  conv => arg 3; arg 1; whnf
  conv => arg 3; arg 2; arg 2; whnf
  conv => arg 2; arg 2; arg 2; whnf
  k_steps
  rename News h₀ L' _ _ => kN
  rename Fr h₀ L' _ _ => kF
  exact h _ _ kF kN
theorem s_nss (h₀ : Heap) (L L' : Addr) (m : Str → Option Value) (s : Shared) (Q : Flow → Shared → Prop) (E : Value → Shared → Prop)
   (c : WC) (wr wd : Addr) (nsv : Array Value) (nn : Nat) (osf : Obj) (tl : List (Addr × Obj))
   (B : Below (ktrTop dp un gd cn cs L a ccd cl outer) base (envX cn cs L a ccd cl :: outer) h₀) (F : Fr h₀ L' s.heap m) (X : (hd.heap_39 w.params).In h₀) (N : News h₀ L' s.heap ((wr, instObj 150 wd) :: (wd, wDict w c) :: (c.nss, listOf nsv nn) :: (L' + 1, osf) :: tl))
   (T : Top p loose mean mg mb h₀) (hdp : dp + 60 < recursionLimit) (hun : un + 600 < cLine) (hB : AllBare s.gens)
   (hsf : osf.data = .cell (some (.ref wr))) (hp1 : nsv.size ≤ 1000) (hn1 : @Ne Nat wr c.nss) (hn2 : @Ne Nat wd c.nss) (hn3 : @Ne Nat (L' + 1) c.nss) (hnt : ∀ q ∈ tl, q.1 ≠ c.nss)
   (h : ∀ h' tk b nn', (∀ q ∈ (wr, instObj 150 wd) :: (wd, wDict w c) :: (c.nss, listOf nsv nn) :: (L' + 1, osf) :: tl, q.1 < b) → Fr h₀ L' h' m → News h₀ L' h' ((b, listOf #[] 0) :: (wr, instObj 150 wd) :: (wd, wDict w c) :: (c.nss, listOf (nsv.push (.ref b)) nn') :: (L' + 1, osf) :: tl) → Q .next { s with heap := h', toks := tk }) :
   wpAny (model PR w) ((ktrTop dp un gd cn cs L a ccd cl outer).deeper (startE L')) (exec (nth startB.1 17) (startE L')) Q E s := by
  unfold startE
  conv => arg 3; arg 1; whnf
  conv => arg 3; arg 2; arg 2; whnf
  conv => arg 2; arg 2; arg 2; whnf
  k_steps
  rename News h₀ L' _ _ => kN
  rename Fr h₀ L' _ _ => kF
  rename AllLt _ _ => lN
  refine h _ _ _ _ (fun q hq => ?_) kF kN
  revert q; refine fmc ?_ (fmc ?_ (fmc ?_ (fmc ?_ (fun q hq => ?_))))
  · assumption
  · assumption
  · assumption
  · assumption
  · exact allLt_mem lN q hq
end
section
example : True := by (k_with "6" => skip); trivial
/-- how a call that wakes no generator ends -/
noncomputable abbrev RetK (h₀ : Heap) (L : Addr) (m : Str → Option Value) (news : List (Addr × Obj)) (s : Shared) (Q : Value → Shared → Prop) (v : Value) : Prop :=
  ∀ (h' : Heap) (tk : Nat), Fr h₀ L h' m → News h₀ L h' news → Q v { s with heap := h', toks := tk }
end
section
theorem to_stop {P : Prop} (h : Stop P) : P := h
theorem gt1 {α : Type} {M : Model} {A : Around} {t : Sem α} {Q : α → Shared → Prop} {E : Value → Shared → Prop} {h : Heap} {g : Array GenState} {d : Drawn} {n : Nat} {o : OsState} (hn : 1 ≤ n)
    (k : ∀ tk, 1 ≤ tk → wpAny M A t Q E { heap := h, gens := g, drawn := d, toks := tk, os := o }) : wpAny M A t Q E { heap := h, gens := g, drawn := d, toks := n, os := o } := k n hn
example : True := by (k_with "execs cons" => (fail_if_success k_extra "7"); (k_here; (refine gt1 ?gt_r (fun tk htk => ?_)); (case gt_r => (fail_if_success assumption); k_room))); (k_with "execs nil" => (fail_if_success k_extra "7"); (k_here; (refine gt1 ?gt_r (fun tk htk => ?_)); (case gt_r => (fail_if_success assumption); k_room))); trivial
noncomputable abbrev escEnv (L' : Addr) : Env := envOf (Str.ofString "_escape_attrib_c14n") { kind := ScopeKind.function, names := [(Str.ofString "text", NameKind.local), (Str.ofString "TypeError", NameKind.globalImplicit), (Str.ofString "AttributeError", NameKind.globalImplicit), (Str.ofString "_raise_serialization_error", NameKind.globalImplicit)], isGenerator := false, isCoroutine := false } L' 168 (Value.ref 167)
noncomputable abbrev mT (x : Str) (t : Tok) : Str → Option Value := fun y => if y = Str.ofString "text" then some (.str x t) else none
theorem mT_put {x y : Str} {t t' : Tok} : (fun z => if z = Str.ofString "text" then some (Value.str y t') else mT x t z) = mT y t' := by
  funext z
  unfold mT
  by_cases e : z = Str.ofString "text"
  · simp only [if_pos e]
  · simp only [if_neg e]
theorem esc_if (h₀ : Heap) (L L' : Addr) (s : Shared) (Q : Flow → Shared → Prop) (E : Value → Shared → Prop)
   (ch : Str) (b : Str) (x : Str) (t : Tok) (tl : List (Addr × Obj))
   (B : Below (ktrTop dp un gd cn cs L a ccd cl outer) base (envX cn cs L a ccd cl :: outer) h₀) (F : Fr h₀ L' s.heap (mT x t)) (X : (hd.heap_39 w.params).In h₀) (N : News h₀ L' s.heap tl)
   (T : Top p loose mean mg mb h₀) (hdp : dp + 20 < recursionLimit) (hun : un + 200 < cLine) (htk : 1 ≤ s.toks) {p1 p2 p3 p4 p5 p6 p7 p8 p9 p10 p11 : Pos}
   {n : Nat} (hx' : n ≤ 1048576) (hb : 1 ≤ b.length ∧ b.length ≤ 6) (hch : ch = ⟨#[ch.cps.getD 0 0]⟩) (hn : x.length ≤ n) (hab : ((ch : Str) == b) = false)
   {pl : Sem Bool} (he : eval ((((Expr.Name (Str.ofString "text") p5).Attribute (Str.ofString "replace") p6).Call [Expr.Constant (Const.str ch) 0 p7, Expr.Constant (Const.str b) 0 p8] [] p9)) (escEnv L') = (do
      let ov ← eval (Expr.Name (Str.ofString "text") p5) (escEnv L')
      standAt p6.atName
      let (f, first) ← holding [ov] (getMethod ov (Str.ofString "replace") pl)
      callWith p9 f first (backTo p9 (starEach [Expr.Constant (Const.str ch) 0 p7, Expr.Constant (Const.str b) 0 p8] (escEnv L'))) []))
   (h : ∀ h' t' tk, 1 ≤ tk → (Txt.replace x ch b).length ≤ 6 * n → Fr h₀ L' h' (mT (Txt.replace x ch b) t') → News h₀ L' h' tl → Q .next { s with heap := h', toks := tk }) :
   wpAny (model PR w) ((ktrTop dp un gd cn cs L a ccd cl outer).deeper (escEnv L')) (exec (Stmt.If
    ((Expr.Constant (Const.str ch) 0 p1).Compare [CmpOp.In] [Expr.Name (Str.ofString "text") p2] p3)
    [Stmt.Assign [Expr.Name (Str.ofString "text") p4] (((Expr.Name (Str.ofString "text") p5).Attribute (Str.ofString "replace") p6).Call [Expr.Constant (Const.str ch) 0 p7, Expr.Constant (Const.str b) 0 p8] [] p9) p10] [] p11) (escEnv L')) Q E s := by
  obtain ⟨sh, sg, sd, st, so⟩ := s
  dsimp only at *
  k_steps
  rotate_left 1
  refine MethodCall_ ?_ he
  k_steps
  · refine wpAny_with_toks (n := 1) (by show 1 ≤ _ + 1 + 1; k_room) (SC.replaceW (show @Ne Nat _ 0 from by k_room) (show @Ne Nat _ 0 from by k_room) (show @Ne Nat _ _ from by k_room) hab (Nat.le_trans hn hx') (by k_room) fun t' k hk => ?_)
    k_steps
    rename Fr h₀ L' _ _ => kF
    rw [mT_put] at kF
    exact h _ t' _ (by assumption) (replace_len hch hb.2 hn) kF (by assumption)
  · have hm : ch.cps.getD 0 0 ∉ x.cps.toList := by
      have e := StrLaws.found_one x (ch.cps.getD 0 0)
      rw [← hch] at e
      rw [(by assumption : (Builtin.Str.occurrences x ch 0 x.length 1).isEmpty = true)] at e
      exact of_decide_eq_false e.symm
    refine h _ t _ (by assumption) (replace_len hch hb.2 hn) ?_ N
    rw [show Txt.replace x ch b = x by rw [hch, replace_rep, rep_free hm]]
    exact F
example : True := by (k_with "exec If" => (fail_if_success k_extra "7"); ((refine' esc_if _ _ _ _ _ _ _ _ _ _ _ _ _ _ _ _ _ _ _ _ _ _ _ _ _ _ _ ?e0_r ?eF_r ?e1_r ?eN_r ?e2_r ?e3_r ?e4_r ?eT_r ?eX_r ?eB_r ?eC_r ?e5_r ?eA_r rfl fun hE tE kE htkE hlE FE NE => ?_); (case e0_r => assumption); (case eF_r => assumption); (case e1_r => assumption); (case eN_r => assumption); (case e2_r => assumption); (case e3_r => assumption); (case e4_r => assumption); (case eT_r => assumption); (case e5_r => assumption); (case eX_r => decide); (case eB_r => decide +kernel); (case eC_r => decide +kernel); (case eA_r => decide +kernel))); trivial
theorem esc (A₀ : Around) (h₀ : Heap) (L : Addr) (m : Str → Option Value) (s : Shared) (Q E : Value → Shared → Prop)
   (x : Str) (tk : Tok) (tl : List (Addr × Obj))
   (B : Below A₀ base outer h₀) (F : Fr h₀ L s.heap m) (X : (hd.heap_39 w.params).In h₀) (N : News h₀ L s.heap (tl))
   (T : Top p loose mean mg mb h₀) (hcs : cs.kind = .function) (hdp : dp + 20 < recursionLimit) (hun : un + 200 < cLine) (hB : AllBare s.gens) (hx : x.length ≤ 20) (htk : 1 ≤ s.toks)
   (hret : ∀ t, RetK h₀ L m tl s Q (.str (escS x) t)) :
   wpAny (model PR w) (ktrTop dp un gd cn cs L a ccd cl outer) (call (.ref 168) [.str x tk]) Q E s := by
  refine wpAny_call ?_
  k_dflt (refine' code_def (binds := [(Str.ofString "text", .str x tk)]) B F X N T ?kA ?kF ?kK ?k6 ?k7 ?k8 ?k9 ?kB ?_ ?c2 ?c3 ?c4 ?c5; (case kA => exact rfl); (case kF => exact rfl); (case kK => first | exact rfl | assumption); (case k6 => k_is); (case k7 => k_is); (case k8 => k_room); (case k9 => first | exact BindsTo.of_eq rfl | exact binds_K (by k_in) rfl (by k_is) rfl rfl rfl); (case c5 => decide); (case kB => exact locs rfl); (case c2 => exact rfl); (case c3 => exact rfl); (case c4 => exact rfl); k_whole; intro g' L' h' FG' F' N' B' X' T'; (try dsimp only); (try k_lift B'); (try k_fold))
  have F1 := F'
  rw [show (fun y => List.lookup y [(Str.ofString "text", Value.str x tk)].reverse) = mT x tk by
    funext y
    unfold mT
    by_cases e : y = Str.ofString "text"
    · subst e; simp [List.lookup]
    · have e2 : (y == Str.ofString "text") = false := beq_eq_false_iff_ne.mpr e
      simp [List.lookup, e, e2]] at F1
  clear F'
  k_steps
  exact (congrArg (fun z => Q (Value.str z _) _) (escR_eq x)).mpr (hret _ _ _ (by assumption) (by assumption))
end
section
example : True := by (k_with "7" => skip); (k_with "And" => (fail_if_success k_extra "8"); k_extra "b5"); (k_with "eval Name" => (fail_if_success k_extra "8"); k_extra "en"); (k_with "call ref" => (fail_if_success k_extra "8"); k_extra "st"); (k_with "callWith ref" => (fail_if_success k_extra "8"); k_extra "b1"); (k_with "And" => (fail_if_success k_extra "8"); k_extra "b2"); (k_with "call ref" => (fail_if_success k_extra "8"); k_extra "b3"); (k_with "truthy ref" => (fail_if_success k_extra "8"); (k_here; k_dflt (refine' truthy_nw ?N_r ?m_r ?z_r ?_ ?_; (case N_r => k_asm); (case m_r => k_mem); (case z_r => assumption)); all_goals intro _)); (k_with "eval ListComp" => (fail_if_success k_extra "8"); (k_here; k_dflt (refine LCp.ListComp_P (F₀ := by k_asm) (by with_unfolding_all rfl) (by decide) (by rfl) (by decide) (by rfl) (by rfl) (by decide) ?_))); (k_with "SrcLP" => (fail_if_success k_extra "8"); k_extra "st"); trivial
noncomputable def fmtRow (q : Str × Str) : Str := Str.empty ++ Str.ofString " " ++ q.1 ++ Str.ofString "=\"" ++ escS q.2 ++ Str.ofString "\""
theorem fmtRow_le {q : Str × Str} (h1 : q.1.length ≤ 20) (h2 : q.2.length ≤ 20) : (fmtRow q).length ≤ 200 := by
  unfold fmtRow
  simp only [Str.length_append]
  exact Nat.le_trans (Nat.add_le_add (Nat.add_le_add (Nat.add_le_add (Nat.add_le_add (Nat.le_refl _) h1) (Nat.le_refl _)) (Nat.le_trans (escS_len q.2) (Nat.mul_le_mul_left 6 h2))) (Nat.le_refl _)) (by decide +kernel)
theorem s_attrs (h₀ : Heap) (L L' : Addr) (m : Str → Option Value) (s : Shared) (Q : Flow → Shared → Prop) (E : Value → Shared → Prop)
   (al bm pg : Addr) (av pgv : Array Value) (n pgn : Nat) (rows : List (Str × Str)) (tl : List (Addr × Obj))
   (B : Below (ktrTop dp un gd cn cs L a ccd cl outer) base (envX cn cs L a ccd cl :: outer) h₀) (F : Fr h₀ L' s.heap m) (X : (hd.heap_39 w.params).In h₀) (N : News h₀ L' s.heap ((al, listOf av n) :: (bm, bmO pg) :: (pg, listOf pgv pgn) :: tl))
   (T : Top p loose mean mg mb h₀) (hdp : dp + 60 < recursionLimit) (hun : un + 600 < cLine) (hB : AllBare s.gens)
   (hps : PairsAt tl av.toList rows) (hl1 : 1 ≤ rows.length) (hl2 : rows.length ≤ 20) (hrl : ∀ q ∈ rows, q.1.length ≤ 20 ∧ q.2.length ≤ 20) (hp1 : pgv.size ≤ 1000) (hn1 : @Ne Nat bm pg) (hn2 : @Ne Nat al pg) (hnt : ∀ q ∈ tl, q.1 ≠ pg) (mL : m (Str.ofString "attr_list") = some (.ref al)) (mW : m (Str.ofString "write") = some (.ref bm))
   (h : ∀ h' tk t n', Fr h₀ L' h' m → News h₀ L' h' ((al, listOf av n) :: (bm, bmO pg) :: (pg, listOf (pgv.push (.str (catS (rows.map fmtRow)) t)) n') :: tl) → Q .next { s with heap := h', toks := tk }) :
   wpAny (model PR w) ((ktrTop dp un gd cn cs L a ccd cl outer).deeper (startE L')) (exec (nth startB.1 13) (startE L')) Q E s := by
  unfold startE
  conv => arg 3; arg 1; whnf
  conv => arg 3; arg 2; arg 2; whnf
  conv => arg 2; arg 2; arg 2; whnf
  have hl := hps.len
  rw [Array.length_toList] at hl
  have hsz : (av.size : Int) < 2 ^ 63 := by k_room
  k_steps
  · refine LCp.SrcLP.ledger rfl F N (.head _) (by rw [sizeLine_eq]; k_room) fun g' => ?_
    refine restP_inv (fun i ys news => StrsAre ys ((rows.map fmtRow).take i) ∧ news = _) ?step ?fin ⟨.nil, rfl⟩
    case step =>
      intro i v ys _ hi hv hz1_; (refine an2 hz1_ fun hys y1_ => ?_; clear hz1_; obtain rfl := y1_)
      (refine ex4 (hps.at (i := i) (v := v) (by rw [← hv]; simp)) fun q ta t1 t2 w2_ => an3 w2_ fun hq y3_ hta => ?_; clear w2_; obtain rfl := y3_)
      refine exI5 ta _ _ _ _ (anI5 rfl (.tail _ (.tail _ (.tail _ hta))) rfl rfl ?_)
      intro I oI C oC D m₂ hh tk E' hC hx hx2 F2 N2 off ne
      (refine an2 (hrl q (List.mem_of_getElem? hq)) fun hq1 hq2 => ?_)
      dsimp only
      k_steps
      show wpAny (model PR w) _ (call _ _) _ _ _
      refine' esc w p loose mean mg mb base _ _ _ _ _ _ _ _ _ _ _ _ _ _ _ _ q.2 t2 _ B ?F X ?N T ?hc ?dp ?un ?bg hq2 ?tk ?hret
      case hc => rfl
      case F => exact F2
      case N => exact N2
      case bg => exact hB
      case dp => (dsimp only [ktrTop]; k_room)
      case un => (dsimp only [ktrTop]; k_room)
      case tk => (show 1 ≤ _ + 1; k_room)
      case hret =>
        intro t h' tk F3 N3
        have he2 : (escS q.2).length ≤ 120 := Nat.le_trans (escS_len q.2) (Nat.mul_le_mul_left 6 hq2)
        have hit : (rows.map fmtRow)[i]? = some (Str.empty ++ Str.ofString " " ++ q.1 ++ Str.ofString "=\"" ++ escS q.2 ++ Str.ofString "\"") := by rw [List.getElem?_map, hq]; rfl
        generalize escS q.2 = ee at *
        k_steps
        refine exI3 _ _ _ (anI7 rfl F3 N3 off (.inr ⟨_, .head _, rfl, _, rfl⟩) ?_ rfl)
        rw [take_snoc hit]
        exact strsAre_snoc hys
    case fin =>
      intro ys _ hz1_; (refine an2 hz1_ fun hys y1_ => ?_; clear hz1_; obtain rfl := y1_)
      k_steps
      rename News h₀ L' _ _ => kN
      have hys2 : StrsAre ys (rows.map fmtRow) := by rwa [List.take_of_length_le (by simp; k_room)] at hys
      refine join_list (x := Str.ofString "") ⟨_, (kN _ (.head _)).1, rfl, _, rfl⟩ (by simpa using hys2) ?_ fun t' k => ?_
      · have e1 : (Str.ofString "").length = 0 := by decide +kernel
        have e2 := StrLaws.sumLen_le (B := 200) (rows.map fmtRow) (by
          intro y hy
          (refine e1a2 (List.mem_map.mp hy) fun q hq y3_ => ?_; obtain rfl := y3_)
          (refine an2 (hrl q hq) fun h1 h2 => ?_)
          exact fmtRow_le h1 h2)
        rw [e1, Nat.mul_zero]
        rw [List.length_map] at e2
        k_room
      · rw [join_cat]
        k_steps
        rename News h₀ L' _ _ => kN2
        rename Fr h₀ L' _ _ => kF2
        exact h _ _ _ _ kF2 (fun p hp => kN2 p (.tail _ hp))
  · exfalso; k_room
end
section
example : True := by (k_with "8" => skip); trivial
theorem start_ (A₀ : Around) (h₀ : Heap) (L : Addr) (m : Str → Option Value) (s : Shared) (Q E : Value → Shared → Prop)
   (c : WC) (wr wd top at_ pg tb : Addr) (tag k1 k2 k3 k4 v1 v2 v3 v4 : Str) (tt z1 z2 z3 z4 : Tok) (scs : List (Addr × Array Value)) (dv nsv psv pgv ps : Array Value) (nd nt nn pn pgn : Nat) (opm oat : Obj) (tl : List (Addr × Obj)) (known lw : List Str)
   (B : Below A₀ base outer h₀) (F : Fr h₀ L s.heap m) (X : (hd.heap_39 w.params).In h₀) (N : News h₀ L s.heap ((wr, instObj 150 wd) :: (wd, wDict w c) :: (c.dns, listOf dv nd) :: (c.pm, opm) :: (top, listOf #[] nt) :: (tb, tabObj ps) :: (at_, oat) :: (c.nss, listOf nsv nn) :: (c.ps, listOf psv pn) :: (c.bm, bmO pg) :: (pg, listOf pgv pgn) :: tl))
   (T : Top p loose mean mg mb h₀) (hcs : cs.kind = .function) (hdp : dp + 150 < recursionLimit) (hun : un + 1500 < cLine) (hB : AllBare s.gens) (hws : WS w c top scs #[] dv opm tl known [] lw) (hat : Obj.IsDictOf (PySem.strKind PR w) oat [(k1, .str v1 z1), (k2, .str v2 z2), (k3, .str v3 z3), (k4, .str v4 z4)]) (hsm : (at_ == sysModules) = false) (hkn : ([tag, k1, k2, k3, k4] : List Str).Nodup) (hqn : ∀ n ∈ ([tag, k1, k2, k3, k4] : List Str), ∃ u ∈ words, ∃ l ∈ letters, n = qnameOf u l) (hvl : ∀ v ∈ ([v1, v2, v3, v4] : List Str), v.length ≤ 20) (hnd : ([wr, wd, c.dns, c.pm, top, tb, at_, c.nss, c.ps, c.bm, pg] : List Nat).Nodup) (hndt : ∀ d ∈ ([wr, wd, c.dns, c.pm, top, tb, at_, c.nss, c.ps, c.bm, pg] : List Nat), ∀ p ∈ tl, p.1 ≠ d) (hpl : LamTab lamQ ⟨135, 71, 135, 96⟩ tl ps) (hkl : known.length < 30) (hC : Stop (CodeHd base 125 tb)) (hps1 : psv[psv.size - 1]? = some (.bool false)) (hps0 : 0 < psv.size) (hps2 : psv.size ≤ 1000) (hns : nsv.size ≤ 1000) (hpg : pgv.size ≤ 900)
   (hret : ∀ (names : List Str) (krows arows : List (Str × Str)) (tv' ps' : Array Value) (nt' nn' pn' pgn' : Nat) (opm' : Obj) (ex : List (Addr × Obj)) (b : Addr) (ta tb_ tc_ : Tok) (h' : Heap) (tk : Nat) (gens : Array GenState) (dr : Drawn),
     names.Perm [tag, k1, k2, k3, k4] → names.Pairwise (fun x y => klt2 (kaOf y) (kbOf y) (kaOf x) (kbOf x) = false) → krows.Perm [(k1, v1), (k2, v2), (k3, v3), (k4, v4)] → SortedR krows → arows.Perm (xmRows (pairsOf (stK known names) (stT [] lw names))) → SortedR arows →
     WS w { c with rs := true } top scs tv' dv opm' (ex ++ tl) (stK known names) (stT [] lw names) lw → LamTab lamQ ⟨135, 71, 135, 96⟩ (ex ++ tl) ps' → (b, listOf #[] 0) ∈ ex → (∀ z ∈ ex, z.1 ∉ ([wr, wd, c.dns, c.pm, top, tb, at_, c.nss, c.ps, c.bm, pg] : List Nat)) → AllBare gens → Fr h₀ L h' m →
     News h₀ L h' ((wr, instObj 150 wd) :: (wd, wDict w { c with rs := true }) :: (c.dns, listOf dv nd) :: (c.pm, opm') :: (top, listOf tv' nt') :: (tb, tabObj ps') :: (at_, oat) :: (c.nss, listOf (nsv.push (.ref b)) nn') :: (c.ps, listOf (psv.push (.bool false)) pn') :: (c.bm, bmO pg) :: (pg, listOf (((pgv.push (.str (Str.ofString "<" ++ pnm (nmK (stK known names) (uOf tag)) (lOf tag)) ta)).push (.str (catS ((arows ++ itRows (stK known names) krows).map fmtRow)) tb_)).push (.str (Str.ofString ">") tc_)) pgn') :: (ex ++ tl)) →
     Q .none { s with heap := h', toks := tk, gens := gens, drawn := dr }) :
   wpAny (model PR w) (ktrTop dp un gd cn cs L a ccd cl outer) (call (.ref 126) [.ref wr, .str tag tt, .ref at_, .ref top]) Q E s := by
  refine wpAny_call ?_
  k_dflt (refine' code_defC (binds := [(Str.ofString "self", .ref wr), (Str.ofString "tag", .str tag tt), (Str.ofString "attrs", .ref at_), (Str.ofString "new_namespaces", .ref top), (Str.ofString "qname_text", .none)]) B F X N T ?kA ?kF ?kK ?k6 ?k7 ?k8 ?k9 ?kB ?kD ?_ ?c2 ?c3 ?c4; (case kA => exact rfl); (case kF => exact rfl); (case kK => first | exact rfl | assumption); (case k6 => k_is); (case k7 => k_is); (case k8 => k_room); (case k9 => first | exact BindsTo.of_eq rfl | exact binds_K (by k_in) rfl (by k_is) rfl rfl rfl); (case kB => exact rfl); (case kD => decide +kernel); (case c2 => exact rfl); (case c3 => exact rfl); (case c4 => exact rfl); k_whole; intro g' L' h' tk' cells' FG' F' N' Y' B' X' T' l1; (try k_lt l1); k_cells Y'; (try simp only [List.cons_append, List.nil_append] at N'); (try dsimp only); (try k_lift B'); (try k_fold))
  have hnd0 := hnd
  replace hnd := ndA_iff.mpr hnd
  rename AllLt L' tl => lN
  have lM := allLt_mem lN
  (refine an2 hnd fun q0_ z0_ => an10 q0_ fun n0_1 n0_2 n0_3 n0_4 n0_5 n0_6 n0_7 n0_8 n0_9 n0_10 => an2 z0_ fun q1_ z1_ => an9 q1_ fun n1_2 n1_3 n1_4 n1_5 n1_6 n1_7 n1_8 n1_9 n1_10 => an2 z1_ fun q2_ z2_ => an8 q2_ fun n2_3 n2_4 n2_5 n2_6 n2_7 n2_8 n2_9 n2_10 => an2 z2_ fun q3_ z3_ => an7 q3_ fun n3_4 n3_5 n3_6 n3_7 n3_8 n3_9 n3_10 => an2 z3_ fun q4_ z4_ => an6 q4_ fun n4_5 n4_6 n4_7 n4_8 n4_9 n4_10 => an2 z4_ fun q5_ z5_ => an5 q5_ fun n5_6 n5_7 n5_8 n5_9 n5_10 => an2 z5_ fun q6_ z6_ => an4 q6_ fun n6_7 n6_8 n6_9 n6_10 => an2 z6_ fun q7_ z7_ => an3 q7_ fun n7_8 n7_9 n7_10 => an2 z7_ fun q8_ n9_10 => an2 q8_ fun n8_9 n8_10 => ?_; clear q0_ z0_ q1_ z1_ q2_ z2_ q3_ z3_ q4_ z4_ q5_ z5_ q6_ z6_ q7_ z7_ q8_)
  have n0_11 : @Ne Nat (wr) (L' + 1) := Nat.ne_of_lt (Nat.lt_succ_of_lt (by assumption))
  have n0_12 : @Ne Nat (wr) (L' + 2) := Nat.ne_of_lt (Nat.lt_succ_of_lt (Nat.lt_succ_of_lt (by assumption)))
  have n1_11 : @Ne Nat (wd) (L' + 1) := Nat.ne_of_lt (Nat.lt_succ_of_lt (by assumption))
  have n1_12 : @Ne Nat (wd) (L' + 2) := Nat.ne_of_lt (Nat.lt_succ_of_lt (Nat.lt_succ_of_lt (by assumption)))
  have n2_11 : @Ne Nat (c.dns) (L' + 1) := Nat.ne_of_lt (Nat.lt_succ_of_lt (by assumption))
  have n2_12 : @Ne Nat (c.dns) (L' + 2) := Nat.ne_of_lt (Nat.lt_succ_of_lt (Nat.lt_succ_of_lt (by assumption)))
  have n3_11 : @Ne Nat (c.pm) (L' + 1) := Nat.ne_of_lt (Nat.lt_succ_of_lt (by assumption))
  have n3_12 : @Ne Nat (c.pm) (L' + 2) := Nat.ne_of_lt (Nat.lt_succ_of_lt (Nat.lt_succ_of_lt (by assumption)))
  have n4_11 : @Ne Nat (top) (L' + 1) := Nat.ne_of_lt (Nat.lt_succ_of_lt (by assumption))
  have n4_12 : @Ne Nat (top) (L' + 2) := Nat.ne_of_lt (Nat.lt_succ_of_lt (Nat.lt_succ_of_lt (by assumption)))
  have n5_11 : @Ne Nat (tb) (L' + 1) := Nat.ne_of_lt (Nat.lt_succ_of_lt (by assumption))
  have n5_12 : @Ne Nat (tb) (L' + 2) := Nat.ne_of_lt (Nat.lt_succ_of_lt (Nat.lt_succ_of_lt (by assumption)))
  have n6_11 : @Ne Nat (at_) (L' + 1) := Nat.ne_of_lt (Nat.lt_succ_of_lt (by assumption))
  have n6_12 : @Ne Nat (at_) (L' + 2) := Nat.ne_of_lt (Nat.lt_succ_of_lt (Nat.lt_succ_of_lt (by assumption)))
  have n7_11 : @Ne Nat (c.nss) (L' + 1) := Nat.ne_of_lt (Nat.lt_succ_of_lt (by assumption))
  have n7_12 : @Ne Nat (c.nss) (L' + 2) := Nat.ne_of_lt (Nat.lt_succ_of_lt (Nat.lt_succ_of_lt (by assumption)))
  have n8_11 : @Ne Nat (c.ps) (L' + 1) := Nat.ne_of_lt (Nat.lt_succ_of_lt (by assumption))
  have n8_12 : @Ne Nat (c.ps) (L' + 2) := Nat.ne_of_lt (Nat.lt_succ_of_lt (Nat.lt_succ_of_lt (by assumption)))
  have n9_11 : @Ne Nat (c.bm) (L' + 1) := Nat.ne_of_lt (Nat.lt_succ_of_lt (by assumption))
  have n9_12 : @Ne Nat (c.bm) (L' + 2) := Nat.ne_of_lt (Nat.lt_succ_of_lt (Nat.lt_succ_of_lt (by assumption)))
  have n10_11 : @Ne Nat (pg) (L' + 1) := Nat.ne_of_lt (Nat.lt_succ_of_lt (by assumption))
  have n10_12 : @Ne Nat (pg) (L' + 2) := Nat.ne_of_lt (Nat.lt_succ_of_lt (Nat.lt_succ_of_lt (by assumption)))
  have n11_12 : @Ne Nat (L' + 1) (L' + 2) := Nat.ne_of_lt (Nat.lt_succ_self _)
  have t0 : ∀ p ∈ tl, p.1 ≠ wr := hndt _ (by k_data)
  have t1 : ∀ p ∈ tl, p.1 ≠ wd := hndt _ (by k_data)
  have t2 : ∀ p ∈ tl, p.1 ≠ c.dns := hndt _ (by k_data)
  have t3 : ∀ p ∈ tl, p.1 ≠ c.pm := hndt _ (by k_data)
  have t4 : ∀ p ∈ tl, p.1 ≠ top := hndt _ (by k_data)
  have t5 : ∀ p ∈ tl, p.1 ≠ tb := hndt _ (by k_data)
  have t6 : ∀ p ∈ tl, p.1 ≠ at_ := hndt _ (by k_data)
  have t7 : ∀ p ∈ tl, p.1 ≠ c.nss := hndt _ (by k_data)
  have t8 : ∀ p ∈ tl, p.1 ≠ c.ps := hndt _ (by k_data)
  have t9 : ∀ p ∈ tl, p.1 ≠ c.bm := hndt _ (by k_data)
  have t10 : ∀ p ∈ tl, p.1 ≠ pg := hndt _ (by k_data)
  have t11 : ∀ p ∈ tl, p.1 ≠ L' + 1 := fun p hp => Nat.ne_of_lt (Nat.lt_succ_of_lt (lM p hp))
  have t12 : ∀ p ∈ tl, p.1 ≠ L' + 2 := fun p hp => Nat.ne_of_lt (Nat.lt_succ_of_lt (Nat.lt_succ_of_lt (lM p hp)))
  rename_i opq osf dpq dsf
  replace dsf : osf.data = .cell (some (.ref wr)) := dsf
  replace dpq : opq.data = .cell none := dpq
  refine hide ((c.nss, listOf nsv nn) :: (c.ps, listOf psv pn) :: (c.bm, bmO pg) :: (pg, listOf pgv pgn) :: tl) fun tlA htlA => ?_
  have NA : News g' L' h' ((wr, instObj 150 wd) :: (wd, wDict w c) :: (c.dns, listOf dv nd) :: (c.pm, opm) :: (top, listOf #[] nt) :: (tb, tabObj ps) :: (at_, oat) :: (L' + 1, osf) :: (L' + 2, opq) :: tlA) := fun p hp => N' p (by
    rw [htlA] at hp
    revert p
    k_data)
  have tA : ∀ d ∈ ([wr, wd, c.dns, c.pm, top, tb, at_, L' + 1, L' + 2] : List Nat), ∀ p ∈ tlA, p.1 ≠ d := by
    rw [htlA]
    exact fmc (fmc n0_7.symm (fmc n0_8.symm (fmc n0_9.symm (fmc n0_10.symm t0)))) (fmc (fmc n1_7.symm (fmc n1_8.symm (fmc n1_9.symm (fmc n1_10.symm t1)))) (fmc (fmc n2_7.symm (fmc n2_8.symm (fmc n2_9.symm (fmc n2_10.symm t2)))) (fmc (fmc n3_7.symm (fmc n3_8.symm (fmc n3_9.symm (fmc n3_10.symm t3)))) (fmc (fmc n4_7.symm (fmc n4_8.symm (fmc n4_9.symm (fmc n4_10.symm t4)))) (fmc (fmc n5_7.symm (fmc n5_8.symm (fmc n5_9.symm (fmc n5_10.symm t5)))) (fmc (fmc n6_7.symm (fmc n6_8.symm (fmc n6_9.symm (fmc n6_10.symm t6)))) (fmc (fmc n7_11 (fmc n8_11 (fmc n9_11 (fmc n10_11 t11)))) (fmc (fmc n7_12 (fmc n8_12 (fmc n9_12 (fmc n10_12 t12)))) (fun _ h => nomatch h)))))))))
  have hsA : ∀ q ∈ tl, q ∈ tlA := fun q hq => by rw [htlA]; k_data
  have ndA : ([wr, wd, c.dns, c.pm, top, tb, at_, L' + 1, L' + 2] : List Nat).Nodup := by
    refine ndA_iff.mp ?_
    exact ⟨⟨n0_1, n0_2, n0_3, n0_4, n0_5, n0_6, n0_11, n0_12⟩, anI7 ⟨n1_2, n1_3, n1_4, n1_5, n1_6, n1_11, n1_12⟩ ⟨n2_3, n2_4, n2_5, n2_6, n2_11, n2_12⟩ ⟨n3_4, n3_5, n3_6, n3_11, n3_12⟩ ⟨n4_5, n4_6, n4_11, n4_12⟩ ⟨n5_6, n5_11, n5_12⟩ ⟨n6_11, n6_12⟩ n11_12⟩
  have hplA : LamTab lamQ ⟨135, 71, 135, 96⟩ tlA ps := by
    rcases hpl with e | ⟨c', oc, vs, t, e, hm, e2⟩
    · exact .inl e
    · exact .inr ⟨c', oc, vs, t, e, hsA _ hm, e2⟩
  show wpAny (model PR w) ((ktrTop dp un gd cn cs L a ccd cl outer).deeper (startE L')) (execs startB.1 (startE L')) _ _ _
  refine s_head w p loose mean mg mb base dp un gd cn cs a ccd cl outer g' L L' _ _ _ _ c wr wd top at_ tb tag k1 k2 k3 k4 v1 v2 v3 v4 tt z1 z2 z3 z4 scs dv #[] ps nd nt opm oat osf opq tlA known [] lw B' F' X' NA T' (by k_room) (by k_room) hB dsf dpq (hws.mono hsA (tA _ (by k_data)) (tA _ (by k_data))) hat hsm hkn hqn ndA tA hplA hkl hC rfl rfl rfl rfl ?_
  intro names kvs pd c' opd ocl opq' tv' nt' opm' exN vsl tkl h1 tk1 gens1 dr1 m1 hpm hpw hws1 hopd htup hd1 hd2 hxN hxN2 hpd hcp hc' mT mA mN mQ mQA mP hB1 F1 N1
  clear N NA N' F F'
  have c7 : @Ne Nat c' c.nss := news_ne N1 (o := ocl) (o' := listOf nsv nn) (by k_data) (by rw [htlA]; k_data) (by rw [hd1]; simp)
  have c8 : @Ne Nat c' c.ps := news_ne N1 (o := ocl) (o' := listOf psv pn) (by k_data) (by rw [htlA]; k_data) (by rw [hd1]; simp)
  have c9 : @Ne Nat c' c.bm := news_ne N1 (o := ocl) (o' := bmO pg) (by k_data) (by rw [htlA]; k_data) (by rw [hd1]; intro e; injection e with e; rw [e] at hd2; simp at hd2)
  have c10 : @Ne Nat c' pg := news_ne N1 (o := ocl) (o' := listOf pgv pgn) (by k_data) (by rw [htlA]; k_data) (by rw [hd1]; simp)
  have c0 : @Ne Nat c' wr := (hc' _ (by k_data)).symm
  have c1 : @Ne Nat c' wd := (hc' _ (by k_data)).symm
  have c2 : @Ne Nat c' c.dns := (hc' _ (by k_data)).symm
  have c3 : @Ne Nat c' c.pm := (hc' _ (by k_data)).symm
  have c4 : @Ne Nat c' top := (hc' _ (by k_data)).symm
  have c5 : @Ne Nat c' tb := (hc' _ (by k_data)).symm
  have c6 : @Ne Nat c' at_ := (hc' _ (by k_data)).symm
  have c11 : @Ne Nat c' (L' + 1) := (hc' _ (by k_data)).symm
  have hled : ∀ k ∈ ([wr, wd, c.dns, c.pm, top, tb, at_, c.nss, c.ps, c.bm, pg, L' + 1] : List Nat), ∃ q ∈ (wr, instObj 150 wd) :: (wd, wDict w c) :: (c.dns, listOf dv nd) :: (c.pm, opm) :: (top, listOf #[] nt) :: (tb, tabObj ps) :: (at_, oat) :: (L' + 1, osf) :: (L' + 2, opq) :: tlA, q.1 = k := by
    rw [htlA]
    exact fmc (mem1 (by k_mem)) (fmc (mem1 (by k_mem)) (fmc (mem1 (by k_mem)) (fmc (mem1 (by k_mem)) (fmc (mem1 (by k_mem)) (fmc (mem1 (by k_mem)) (fmc (mem1 (by k_mem)) (fmc (mem1 (by k_mem)) (fmc (mem1 (by k_mem)) (fmc (mem1 (by k_mem)) (fmc (mem1 (by k_mem)) (fmc (mem1 (by k_mem)) (fun _ h => nomatch h))))))))))))
  have xK : ∀ k ∈ ([wr, wd, c.dns, c.pm, top, tb, at_, c.nss, c.ps, c.bm, pg, L' + 1] : List Nat), ∀ z ∈ exN, z.1 ≠ k := fun k hk z hz => by
    (refine Mine.e1a2 (hled k hk) fun q hq y3_ => ?_; obtain rfl := y3_)
    exact hxN z hz q hq
  have pK : ∀ k ∈ ([wr, wd, c.dns, c.pm, top, tb, at_, c.nss, c.ps, c.bm, pg, L' + 1] : List Nat), @Ne Nat pd k := fun k hk => by
    (refine Mine.e1a2 (hled k hk) fun q hq y3_ => ?_; obtain rfl := y3_)
    exact (hpd q hq).symm
  have hnl : names.length = 5 := hpm.length_eq
  have htw : (stT [] lw names).length ≤ 5 := by
    have key : ∀ (ns : List Str) (t : List Str), (stT t lw ns).length ≤ t.length + ns.length := by
      intro ns
      induction ns with
      | nil => intro t; exact Nat.le_refl _
      | cons n ns ih =>
        intro t
        have := ih (addT t lw (uOf n))
        have e : (addT t lw (uOf n)).length ≤ t.length + 1 := by unfold addT; split <;> simp
        show (stT (addT t lw (uOf n)) lw ns).length ≤ _
        simp only [List.length_cons]
        k_room
    have := key names []
    rw [hnl] at this
    simpa using this
  generalize hK1 : stK known names = known1 at *
  generalize hT1 : stT [] lw names = tw1 at *
  refine hide ((wr, instObj 150 wd) :: (wd, wDict w c) :: (c.dns, listOf dv nd) :: (c.pm, opm') :: (tb, tabObj #[rawInt 135, rawInt 71, .ref c']) :: (at_, oat) :: (L' + 1, osf) :: (L' + 2, opq') :: (pd, opd) :: (c', ocl) :: (exN ++ tlA)) fun tlB htlB => ?_
  have NB : News g' L' h1 ((top, listOf tv' nt') :: tlB) := fun p hp => N1 p (by
    rw [htlB] at hp
    revert p
    k_data)
  have xB : ∀ q ∈ exN, q ∈ tlB := fun q hq => by rw [htlB]; k_data
  have aB : ∀ q ∈ tlA, q ∈ tlB := fun q hq => by rw [htlB]; k_data
  have tB : ∀ q ∈ tlB, q.1 ≠ top := by
    rw [htlB]
    refine fmc n0_4 (fmc n1_4 (fmc n2_4 (fmc n3_4 (fmc n4_5.symm (fmc n4_6.symm (fmc n4_11.symm (fmc n4_12.symm (fmc (pK _ (by k_data)) (fmc c4 (fun q hq => ?_))))))))))
    rcases List.mem_append.mp hq with hq | hq
    · exact xK top (by k_data) q hq
    · exact tA top (by k_data) q hq
  have hxe : ∀ q ∈ exN ++ tl, q ∈ tlB := fun q hq => by
    rcases List.mem_append.mp hq with hq | hq
    · exact xB q hq
    · exact aB q (hsA q hq)
  refine execs_at 7 (by decide) ?_
  refine s_decl w p loose mean mg mb base dp un gd cn cs a ccd cl outer g' L L' _ _ _ _ top tv' nt' (pairsOf known1 tw1) tlB B' F1 X' NB T' (by k_room) (by k_room) hB1 (hws1.tps.mono (fun q hq => ?_)) (fun q hq => ?_) (by simpa [pairsOf] using htw) tB mN ?_
  · exact (List.mem_append.mp hq).elim (xB q) (aB q)
  · exact (hws1.flat_mem q (by unfold flatP; exact List.mem_append_left _ hq)).2
  intro al av n2 ex1 arows h2 tk2 hap has hpA hal hx1 F2 N2
  have hav : av.size ≤ 10 := by
    have e1 := hpA.len
    have e2 := hap.length_eq
    unfold xmRows pairsOf at e2
    rw [List.length_map, List.length_map] at e2
    rw [Array.length_toList] at e1
    k_room
  have hlt : ∀ k ∈ ([k1, k2, k3, k4] : List Str), lOf k ∈ letters := fun k hk => by
    (refine Mine.ex1 (hqn k (.tail _ hk)) fun u w2_ => an2 w2_ fun hu w4_ => Mine.ex1 w4_ fun l w6_ => an2 w6_ fun hl y7_ => ?_; clear w2_ w4_ w6_; obtain rfl := y7_)
    rw [lOf_q hu hl]; exact hl
  have hB' : ∀ q ∈ (top, listOf tv' nt') :: tlB, q.1 ≠ al := hal
  have alB : ∀ k ∈ ([wr, wd, c.dns, c.pm, top, tb, at_, c.nss, c.ps, c.bm, pg, L' + 1] : List Nat), @Ne Nat al k := by
    rw [htlB, htlA] at hal
    exact fmc ((hal (wr, instObj 150 wd) (by k_data)).symm) (fmc ((hal (wd, wDict w c) (by k_data)).symm) (fmc ((hal (c.dns, listOf dv nd) (by k_data)).symm) (fmc ((hal (c.pm, opm') (by k_data)).symm) (fmc ((hal (top, listOf tv' nt') (by k_data)).symm) (fmc ((hal (tb, tabObj #[rawInt 135, rawInt 71, .ref c']) (by k_data)).symm) (fmc ((hal (at_, oat) (by k_data)).symm) (fmc ((hal (c.nss, listOf nsv nn) (by k_data)).symm) (fmc ((hal (c.ps, listOf psv pn) (by k_data)).symm) (fmc ((hal (c.bm, bmO pg) (by k_data)).symm) (fmc ((hal (pg, listOf pgv pgn) (by k_data)).symm) (fmc ((hal (L' + 1, osf) (by k_data)).symm) (fun _ h => nomatch h))))))))))))
  have x1K : ∀ k ∈ ([wr, wd, c.dns, c.pm, top, tb, at_, c.nss, c.ps, c.bm, pg, L' + 1] : List Nat), ∀ z ∈ ex1, z.1 ≠ k := by
    intro k hk z hz
    have hz2 := (hx1 z hz).2
    rw [htlB, htlA] at hz2
    revert k
    exact fmc (hz2 (wr, instObj 150 wd) (by k_data)) (fmc (hz2 (wd, wDict w c) (by k_data)) (fmc (hz2 (c.dns, listOf dv nd) (by k_data)) (fmc (hz2 (c.pm, opm') (by k_data)) (fmc (hz2 (top, listOf tv' nt') (by k_data)) (fmc (hz2 (tb, tabObj #[rawInt 135, rawInt 71, .ref c']) (by k_data)) (fmc (hz2 (at_, oat) (by k_data)) (fmc (hz2 (c.nss, listOf nsv nn) (by k_data)) (fmc (hz2 (c.ps, listOf psv pn) (by k_data)) (fmc (hz2 (c.bm, bmO pg) (by k_data)) (fmc (hz2 (pg, listOf pgv pgn) (by k_data)) (fmc (hz2 (L' + 1, osf) (by k_data)) (fun _ h => nomatch h))))))))))))
  refine hide ((top, listOf tv' nt') :: (wr, instObj 150 wd) :: (wd, wDict w c) :: (c.dns, listOf dv nd) :: (c.pm, opm') :: (tb, tabObj #[rawInt 135, rawInt 71, .ref c']) :: (L' + 1, osf) :: (L' + 2, opq') :: (c', ocl) :: (ex1 ++ (exN ++ tlA))) fun tlC htlC => ?_
  have NC : News g' L' h2 ((at_, oat) :: (al, listOf av n2) :: (pd, opd) :: tlC) := fun p hp => N2 p (by
    rw [htlC] at hp
    rw [htlB]
    revert p
    k_data)
  have hCal : ∀ q ∈ tlC, q.1 ≠ al := by
    intro q hq
    rw [htlC] at hq
    rw [htlB] at hB'
    simp only [List.mem_cons, List.mem_append] at hq
    rcases hq with rfl | rfl | rfl | rfl | rfl | rfl | rfl | rfl | rfl | h | h | h
    · exact hB' _ (by k_data)
    · exact hB' _ (by k_data)
    · exact hB' _ (by k_data)
    · exact hB' _ (by k_data)
    · exact hB' _ (by k_data)
    · exact hB' _ (by k_data)
    · exact hB' _ (by k_data)
    · exact hB' _ (by k_data)
    · exact hB' _ (by k_data)
    · exact (hx1 q h).1
    · exact hB' q (by k_data)
    · exact hB' q (by k_data)
  have hpal : @Ne Nat pd al := hB' (pd, opd) (by rw [htlB]; k_data)
  have xC : ∀ q ∈ exN, q ∈ tlC := fun q hq => by rw [htlC]; k_data
  refine execs_at 8 (by decide) ?_
  refine s_items w p loose mean mg mb base dp un gd cn cs a ccd cl outer g' L L' _ _ _ _ at_ al pd oat opd k1 k2 k3 k4 v1 v2 v3 v4 z1 z2 z3 z4 av n2 kvs names known1 tlC B' F2 X' NC T' (by k_room) (by k_room) hB1 hat hsm hopd (htup.mono xC) hws1.kl hws1.wds hlt (fun k hk => hpm.mem_iff.mpr (.tail _ hk)) hav (alB at_ (by k_data)).symm hpal hCal mA rfl mQA mP ?_
  intro av' n3 ex2 krows vals h3 tk3 m3 hkp hks hav' hpV hx2 hm3 F3 N3 gens3 dr3 hB3
  dsimp only
  have m3T : m3 (Str.ofString "tag") = some (.str tag tt) := (hm3 _ (by decide)).trans mT
  have m3A : m3 (Str.ofString "attrs") = some (.ref at_) := (hm3 _ (by decide)).trans mA
  have m3Q : m3 (Str.ofString "qname_text") = some .none := (hm3 _ (by decide)).trans mQ
  have m3P : m3 (Str.ofString "parsed_qnames") = some (.ref pd) := (hm3 _ (by decide)).trans mP
  have m3L : m3 (Str.ofString "attr_list") = some (.ref al) := (hm3 _ (by decide)).trans rfl
  have hxK : ∀ k ∈ ([wr, wd, c.dns, c.pm, top, tb, at_, c.nss, c.ps, c.bm, pg, L' + 1] : List Nat), ∀ z ∈ ex2, z.1 ≠ k := by
    intro k hk z hz
    (refine an4 (hx2 z hz) fun z1 z2 z3 z4 => ?_)
    rw [htlC, htlA] at z4
    revert k
    exact fmc (z4 (wr, instObj 150 wd) (by k_data)) (fmc (z4 (wd, wDict w c) (by k_data)) (fmc (z4 (c.dns, listOf dv nd) (by k_data)) (fmc (z4 (c.pm, opm') (by k_data)) (fmc (z4 (top, listOf tv' nt') (by k_data)) (fmc (z4 (tb, tabObj #[rawInt 135, rawInt 71, .ref c']) (by k_data)) (fmc z2 (fmc (z4 (c.nss, listOf nsv nn) (by k_data)) (fmc (z4 (c.ps, listOf psv pn) (by k_data)) (fmc (z4 (c.bm, bmO pg) (by k_data)) (fmc (z4 (pg, listOf pgv pgn) (by k_data)) (fmc (z4 (L' + 1, osf) (by k_data)) (fun _ h => nomatch h))))))))))))
  have cK : ∀ k ∈ ([wr, wd, c.dns, c.pm, top, tb, at_, c.nss, c.ps, c.bm, pg, L' + 1] : List Nat), @Ne Nat c' k := fmc c0 (fmc c1 (fmc c2 (fmc c3 (fmc c4 (fmc c5 (fmc c6 (fmc c7 (fmc c8 (fmc c9 (fmc c10 (fmc c11 (fun _ h => nomatch h))))))))))))
  have tK : ∀ k ∈ ([wr, wd, c.dns, c.pm, top, tb, at_, c.nss, c.ps, c.bm, pg, L' + 1] : List Nat), ∀ z ∈ tl, z.1 ≠ k := fmc t0 (fmc t1 (fmc t2 (fmc t3 (fmc t4 (fmc t5 (fmc t6 (fmc t7 (fmc t8 (fmc t9 (fmc t10 (fmc t11 (fun _ h => nomatch h))))))))))))
  refine hide ((al, listOf av' n3) :: (pd, opd) :: (c', ocl) :: (ex2 ++ (ex1 ++ (exN ++ tl)))) fun tl8 htl8 => ?_
  have o8 : ∀ k ∈ ([wr, wd, c.dns, c.pm, top, tb, at_, c.nss, c.ps, c.bm, pg, L' + 1] : List Nat), ∀ z ∈ tl8, z.1 ≠ k := by
    intro k hk z hz
    rw [htl8] at hz
    simp only [List.mem_cons, List.mem_append] at hz
    rcases hz with rfl | rfl | rfl | hz | hz | hz | hz
    · exact alB k hk
    · exact pK k hk
    · exact cK k hk
    · exact hxK k hk z hz
    · exact x1K k hk z hz
    · exact xK k hk z hz
    · exact tK k hk z hz
  have hno : valueAt [(k1, Value.str v1 z1), (k2, Value.str v2 z2), (k3, Value.str v3 z3), (k4, Value.str v4 z4)] spK = none := valueAt_none (fun hm => by
    have hm' : spK ∈ [tag, k1, k2, k3, k4] := .tail _ hm
    (refine Mine.ex1 (hqn _ hm') fun u w1_ => an2 w1_ fun hu w2_ => Mine.ex1 w2_ fun l w3_ => an2 w3_ fun hl e => ?_; clear w1_ w2_ w3_)
    have := (q_split u hu l hl).2
    rw [← e] at this
    exact absurd this (by decide +kernel))
  have N8 : News g' L' h3 ((at_, oat) :: (wr, instObj 150 wd) :: (wd, wDict w c) :: (c.dns, listOf dv nd) :: (c.pm, opm') :: (top, listOf tv' nt') :: (tb, tabObj #[rawInt 135, rawInt 71, .ref c']) :: (c.nss, listOf nsv nn) :: (c.ps, listOf psv pn) :: (c.bm, bmO pg) :: (pg, listOf pgv pgn) :: (L' + 1, osf) :: tl8) := fun p hp => N3 p (by
    rw [htl8] at hp
    rw [htlC, htlA]
    revert p
    k_data)
  refine execs_at 9 (by decide) ?_
  refine s_space w p loose mean mg mb base dp un gd cn cs a ccd cl outer g' L L' _ _ _ _ at_ oat _ _ B' F3 X' N8 T' (by k_room) (by k_room) hB3 hat hsm hno m3A ?_
  intro h4 tk4 F4 N4
  dsimp only
  have N4b : News g' L' h4 ((wr, instObj 150 wd) :: (wd, wDict w c) :: (c.ps, listOf psv pn) :: (L' + 1, osf) :: (c.dns, listOf dv nd) :: (c.pm, opm') :: (top, listOf tv' nt') :: (tb, tabObj #[rawInt 135, rawInt 71, .ref c']) :: (at_, oat) :: (c.nss, listOf nsv nn) :: (c.bm, bmO pg) :: (pg, listOf pgv pgn) :: tl8) := fun p hp => N4 p (by
    revert p
    k_data)
  refine execs_at 10 (by decide) ?_
  refine s_pres w p loose mean mg mb base dp un gd cn cs a ccd cl outer g' L L' _ _ _ _ c wr wd psv pn osf _ B' F4 X' N4b T' (by k_room) (by k_room) hB3 dsf hps1 hps0 hps2 n0_8 n1_8 n8_11.symm (fmc n2_8 (fmc n3_8 (fmc n4_8 (fmc n5_8 (fmc n6_8 (fmc n7_8 (fmc n8_9.symm (fmc n8_10.symm (o8 c.ps (by k_data)))))))))) rfl ?_
  intro h5 tk5 pn5 F5 N5
  dsimp only
  have N5b : News g' L' h5 ((wr, instObj 150 wd) :: (wd, wDict w c) :: (L' + 1, osf) :: (c.dns, listOf dv nd) :: (c.pm, opm') :: (top, listOf tv' nt') :: (tb, tabObj #[rawInt 135, rawInt 71, .ref c']) :: (at_, oat) :: (c.nss, listOf nsv nn) :: (c.ps, listOf (psv.push (.bool false)) pn5) :: (c.bm, bmO pg) :: (pg, listOf pgv pgn) :: tl8) := fun p hp => N5 p (by
    revert p
    k_data)
  refine execs_at 11 (by decide) ?_
  refine s_getw w p loose mean mg mb base dp un gd cn cs a ccd cl outer g' L L' _ _ _ _ c wr wd osf _ B' F5 X' N5b T' (by k_room) (by k_room) hB3 dsf ?_
  intro h6 tk6 F6 N6
  dsimp only
  (refine Mine.e4a3 (htup.find (hpm.mem_iff.mpr (.head _) : tag ∈ names)) fun ta u1 u2 u3 hval htk hta => ?_)
  have htg := lOf_q (u := uOf tag) (l := lOf tag)
  have hqnl : (pnm (nmK known1 (uOf tag)) (lOf tag)).length ≤ 40 := by
    have h1 := (nP_len _ (hws1.idx40 htk)).2
    have h2 : (lOf tag).length ≤ 1 := by
      (refine Mine.ex1 (hqn tag (.head _)) fun u w1_ => an2 w1_ fun hu w2_ => Mine.ex1 w2_ fun l w3_ => an2 w3_ fun hl e => ?_; clear w1_ w2_ w3_)
      rw [e, lOf_q hu hl]; exact Nat.le_of_eq (letters_len l hl)
    unfold pnm nmK
    simp only [Str.length_append]
    have l1 : (Str.empty).length = 0 := rfl
    have l2 : (Str.ofString ":").length = 1 := by decide +kernel
    lia
  have m8 : (pd, opd) ∈ tl8 := by rw [htl8]; k_data
  have m9 : (al, listOf av' n3) ∈ tl8 := by rw [htl8]; k_data
  have N6b : News g' L' h6 ((c.bm, bmO pg) :: (pg, listOf pgv pgn) :: (pd, opd) :: (wr, instObj 150 wd) :: (wd, wDict w c) :: (c.dns, listOf dv nd) :: (c.pm, opm') :: (top, listOf tv' nt') :: (tb, tabObj #[rawInt 135, rawInt 71, .ref c']) :: (at_, oat) :: (c.nss, listOf nsv nn) :: (c.ps, listOf (psv.push (.bool false)) pn5) :: (L' + 1, osf) :: tl8) := fun p hp => N6 p (by
    revert p
    k_data)
  refine execs_at 12 (by decide) ?_
  refine s_open w p loose mean mg mb base dp un gd cn cs a ccd cl outer g' L L' _ _ _ _ c.bm pg pd ta opd kvs tag (pnm (nmK known1 (uOf tag)) (lOf tag)) (lOf tag) (uOf tag) tt u1 u2 u3 pgv pgn _ B' F6 X' N6b T' (by k_room) (by k_room) hB3 ?_ hopd hval hqnl (by k_room) n9_10 (pK pg (by k_data)) (fmc n0_10 (fmc n1_10 (fmc n2_10 (fmc n3_10 (fmc n4_10 (fmc n5_10 (fmc n6_10 (fmc n7_10 (fmc n8_10 (fmc n10_11.symm (o8 pg (by k_data)))))))))))) rfl m3P m3T ?_
  · rw [htl8]; k_data
  intro h7 tk7 t7_ n7_ F7 N7
  dsimp only
  have N7b : News g' L' h7 ((al, listOf av' n3) :: (c.bm, bmO pg) :: (pg, listOf (pgv.push (.str (Str.ofString "<" ++ pnm (nmK known1 (uOf tag)) (lOf tag)) t7_)) n7_) :: (wr, instObj 150 wd) :: (wd, wDict w c) :: (c.dns, listOf dv nd) :: (c.pm, opm') :: (top, listOf tv' nt') :: (tb, tabObj #[rawInt 135, rawInt 71, .ref c']) :: (at_, oat) :: (c.nss, listOf nsv nn) :: (c.ps, listOf (psv.push (.bool false)) pn5) :: (L' + 1, osf) :: tl8) := fun p hp => N7 p (by
    revert p
    k_data)
  have hrows : PairsAt tl8 av'.toList (arows ++ itRows known1 krows) := by
    rw [hav', htl8]
    exact (hpA.mono fun q hq => by k_data).app (hpV.mono fun q hq => by k_data)
  have harl : arows.length = tw1.length := by rw [hap.length_eq]; simp [xmRows, pairsOf]
  have hirl : (itRows known1 krows).length = 4 := by unfold itRows; rw [List.length_map]; exact hkp.length_eq
  have hrl : ∀ q ∈ arows ++ itRows known1 krows, q.1.length ≤ 20 ∧ q.2.length ≤ 20 := by
    intro q hq
    rcases List.mem_append.mp hq with hq | hq
    · have := hap.mem_iff.mp hq
      (refine Mine.e1a2 (List.mem_map.mp this) fun z hz y3_ => ?_; obtain rfl := y3_)
      (refine Mine.e1a2 (List.mem_map.mp hz) fun y hy y3_ => ?_; obtain rfl := y3_)
      have hyk := hws1.sub y (List.mem_append_left _ hy)
      have a1 := words_len y (hws1.wds y hyk)
      have a2 := (nP_len _ (hws1.idx40 hyk)).2
      have l1 : xmP.length = 6 := by decide +kernel
      show (xmP ++ nmK known1 y).length ≤ 20 ∧ y.length ≤ 20
      unfold nmK
      rw [Str.length_append]
      k_room
    · (refine Mine.e1a2 (List.mem_map.mp hq) fun z hz y3_ => ?_; obtain rfl := y3_)
      have hz2 := hkp.mem_iff.mp hz
      have hzk : z.1 ∈ [k1, k2, k3, k4] ∧ z.2 ∈ [v1, v2, v3, v4] := by
        simp only [List.mem_cons, List.not_mem_nil, or_false] at hz2 ⊢
        rcases hz2 with rfl | rfl | rfl | rfl <;> simp
      (refine Mine.e4a3 (htup.find (hpm.mem_iff.mpr (.tail _ hzk.1))) fun _ _ _ _ _ hk2 _ => ?_)
      have a1 := (nP_len _ (hws1.idx40 hk2)).2
      have a2 := letters_len _ (hlt _ hzk.1)
      have a3 := hvl _ hzk.2
      show (pnm (nmK known1 (uOf z.1)) (lOf z.1)).length ≤ 20 ∧ z.2.length ≤ 20
      unfold pnm nmK
      simp only [Str.length_append]
      have l1 : (Str.empty).length = 0 := rfl
      have l2 : (Str.ofString ":").length = 1 := by decide +kernel
      lia
  refine execs_at 13 (by decide) ?_
  refine s_attrs w p loose mean mg mb base dp un gd cn cs a ccd cl outer g' L L' _ _ _ _ al c.bm pg av' _ n3 n7_ (arows ++ itRows known1 krows) _ B' F7 X' N7b T' (by k_room) (by k_room) hB3 (hrows.mono fun q hq => by k_data) (by rw [List.length_append]; k_room) (by rw [List.length_append]; k_room) hrl (by rw [Array.size_push]; k_room) n9_10 (alB pg (by k_data)) (fmc n0_10 (fmc n1_10 (fmc n2_10 (fmc n3_10 (fmc n4_10 (fmc n5_10 (fmc n6_10 (fmc n7_10 (fmc n8_10 (fmc n10_11.symm (o8 pg (by k_data)))))))))))) m3L rfl ?_
  intro h8 tk8 t8_ n8_ F8 N8c
  dsimp only
  have N8d : News g' L' h8 ((c.bm, bmO pg) :: (pg, listOf (((pgv.push (.str (Str.ofString "<" ++ pnm (nmK known1 (uOf tag)) (lOf tag)) t7_)).push (.str (catS ((arows ++ itRows known1 krows).map fmtRow)) t8_))) n8_) :: (wr, instObj 150 wd) :: (wd, wDict w c) :: (c.dns, listOf dv nd) :: (c.pm, opm') :: (top, listOf tv' nt') :: (tb, tabObj #[rawInt 135, rawInt 71, .ref c']) :: (at_, oat) :: (c.nss, listOf nsv nn) :: (c.ps, listOf (psv.push (.bool false)) pn5) :: (L' + 1, osf) :: tl8) := fun p hp => N8c p (by
    revert p
    k_data)
  refine execs_at 14 (by decide) ?_
  refine s_close w p loose mean mg mb base dp un gd cn cs a ccd cl outer g' L L' _ _ _ _ c.bm pg _ n8_ _ B' F8 X' N8d T' (by k_room) (by k_room) hB3 (by simp only [Array.size_push]; k_room) n9_10 (fmc n0_10 (fmc n1_10 (fmc n2_10 (fmc n3_10 (fmc n4_10 (fmc n5_10 (fmc n6_10 (fmc n7_10 (fmc n8_10 (fmc n10_11.symm (o8 pg (by k_data)))))))))))) rfl ?_
  intro h9 tk9 t9_ n9_ F9 N9
  dsimp only
  refine execs_at 15 (by decide) ?_
  refine s_noq w p loose mean mg mb base dp un gd cn cs a ccd cl outer g' L L' _ _ _ _ _ B' F9 X' N9 T' (by k_room) (by k_room) hB3 m3Q ?_
  intro h10 tk10 F10 N10
  dsimp only
  have N10b : News g' L' h10 ((wr, instObj 150 wd) :: (wd, wDict w c) :: (L' + 1, osf) :: (c.dns, listOf dv nd) :: (c.pm, opm') :: (top, listOf tv' nt') :: (tb, tabObj #[rawInt 135, rawInt 71, .ref c']) :: (at_, oat) :: (c.nss, listOf nsv nn) :: (c.ps, listOf (psv.push (.bool false)) pn5) :: (c.bm, bmO pg) :: (pg, listOf ((((pgv.push (.str (Str.ofString "<" ++ pnm (nmK known1 (uOf tag)) (lOf tag)) t7_)).push (.str (catS ((arows ++ itRows known1 krows).map fmtRow)) t8_))).push (.str (Str.ofString ">") t9_)) n9_) :: tl8) := fun p hp => N10 p (by
    revert p
    k_data)
  refine execs_at 16 (by decide) ?_
  refine s_root w p loose mean mg mb base dp un gd cn cs a ccd cl outer g' L L' _ _ _ _ c wr wd osf _ B' F10 X' N10b T' (by k_room) (by k_room) hB3 dsf n0_1 n1_11.symm (fmc n1_2.symm (fmc n1_3.symm (fmc n1_4.symm (fmc n1_5.symm (fmc n1_6.symm (fmc n1_7.symm (fmc n1_8.symm (fmc n1_9.symm (fmc n1_10.symm (o8 wd (by k_data))))))))))) ?_
  intro h11 tk11 F11 N11
  dsimp only
  have N11b : News g' L' h11 ((wr, instObj 150 wd) :: (wd, wDict w { c with rs := true }) :: (c.nss, listOf nsv nn) :: (L' + 1, osf) :: (c.dns, listOf dv nd) :: (c.pm, opm') :: (top, listOf tv' nt') :: (tb, tabObj #[rawInt 135, rawInt 71, .ref c']) :: (at_, oat) :: (c.ps, listOf (psv.push (.bool false)) pn5) :: (c.bm, bmO pg) :: (pg, listOf ((((pgv.push (.str (Str.ofString "<" ++ pnm (nmK known1 (uOf tag)) (lOf tag)) t7_)).push (.str (catS ((arows ++ itRows known1 krows).map fmtRow)) t8_))).push (.str (Str.ofString ">") t9_)) n9_) :: tl8) := fun p hp => N11 p (by
    revert p
    k_data)
  refine execs_at 17 (by decide) ?_
  refine s_nss w p loose mean mg mb base dp un gd cn cs a ccd cl outer g' L L' _ _ _ _ { c with rs := true } wr wd nsv nn osf _ B' F11 X' N11b T' (by k_room) (by k_room) hB3 dsf hns n0_7 n1_7 n7_11.symm (fmc n2_7 (fmc n3_7 (fmc n4_7 (fmc n5_7 (fmc n6_7 (fmc n7_8.symm (fmc n7_9.symm (fmc n7_10.symm (o8 c.nss (by k_data)))))))))) ?_
  intro h12 tk12 b nn12 hb F12 N12
  dsimp only
  refine execs_end 18 (by decide) ?_
  dsimp only
  k_steps
  rename News h₀ L _ _ => kN
  rename Fr h₀ L _ m => kF
  have bK : ∀ k ∈ ([wr, wd, c.dns, c.pm, top, tb, at_, c.nss, c.ps, c.bm, pg] : List Nat), @Ne Nat b k := by
    exact fmc (Nat.ne_of_gt (hb (wr, instObj 150 wd) (by k_data))) (fmc (Nat.ne_of_gt (hb (wd, wDict w { c with rs := true }) (by k_data))) (fmc (Nat.ne_of_gt (hb (c.dns, listOf dv nd) (by k_data))) (fmc (Nat.ne_of_gt (hb (c.pm, opm') (by k_data))) (fmc (Nat.ne_of_gt (hb (top, listOf tv' nt') (by k_data))) (fmc (Nat.ne_of_gt (hb (tb, tabObj #[rawInt 135, rawInt 71, .ref c']) (by k_data))) (fmc (Nat.ne_of_gt (hb (at_, oat) (by k_data))) (fmc (Nat.ne_of_gt (hb (c.nss, listOf nsv nn) (by k_data))) (fmc (Nat.ne_of_gt (hb (c.ps, listOf (psv.push (.bool false)) pn5) (by k_data))) (fmc (Nat.ne_of_gt (hb (c.bm, bmO pg) (by k_data))) (fmc (Nat.ne_of_gt (hb (pg, _) (by k_mem))) (fun _ h => nomatch h)))))))))))
  have sub12 : ∀ k ∈ ([wr, wd, c.dns, c.pm, top, tb, at_, c.nss, c.ps, c.bm, pg] : List Nat), k ∈ ([wr, wd, c.dns, c.pm, top, tb, at_, c.nss, c.ps, c.bm, pg, L' + 1] : List Nat) := fun k hk => List.mem_append_left [L' + 1] hk
  have exK : ∀ k ∈ ([wr, wd, c.dns, c.pm, top, tb, at_, c.nss, c.ps, c.bm, pg] : List Nat), ∀ z ∈ (b, listOf #[] 0) :: (c', ocl) :: exN, z.1 ≠ k := by
    intro k hk z hz
    revert z; refine fmc ?_ (fmc ?_ (fun z hz => ?_))
    · exact bK k hk
    · exact cK k (sub12 k hk)
    · exact xK k (sub12 k hk) z hz
  have shr : ∀ a u t1 p t2, (a, tup2 u t1 p t2) ∈ exN ++ tlA → (a, tup2 u t1 p t2) ∈ ((b, listOf #[] 0) :: (c', ocl) :: exN) ++ tl := by
    intro a u t1 p t2 hm
    rw [htlA] at hm
    simp only [List.mem_append, List.mem_cons, Prod.mk.injEq] at hm
    rcases hm with hm | ⟨_, hm⟩ | ⟨_, hm⟩ | ⟨_, hm⟩ | ⟨_, hm⟩ | hm
    · simp only [List.mem_append, List.mem_cons, hm, true_or, or_true]
    · exact absurd (congrArg (·.cls) hm) (by simp)
    · exact absurd (congrArg (·.cls) hm) (by simp)
    · exact absurd (congrArg (·.cls) hm) (by simp)
    · exact absurd (congrArg (·.cls) hm) (by simp)
    · simp only [List.mem_append, hm, or_true]
  subst hK1 hT1
  refine hret names krows arows tv' #[rawInt 135, rawInt 71, .ref c'] nt' nn12 pn5 n9_ opm' ((b, listOf #[] 0) :: (c', ocl) :: exN) b t7_ t8_ t9_ h12 tk12 gens3 dr3 hpm hpw hkp hks hap has ⟨hws1.dv_eq, fun p hp => (hws.low p hp).imp fun _ h => List.mem_append_right _ h, hws1.lowsz, hws1.tps.shrink shr, hws1.lps.shrink shr, hws1.nd, hws1.sub, hws1.wds, hws1.kl, hws1.kv, fun p hp => ?_, fun p hp => ?_, hws1.low_pm⟩ (.inr ⟨c', ocl, vsl, tkl, rfl, .tail _ (.head _), hd1, hd2⟩) (.head _) (fun z hz hm => exK _ hm z hz rfl) hB3 kF (fun p hp => kN p ?_)
  · exact (List.mem_append.mp hp).elim (exK top (by k_data) p) (t4 p)
  · exact (List.mem_append.mp hp).elim (exK c.pm (by k_data) p) (t3 p)
  · rw [htl8]; revert p; k_data
end
section
example : True := by (k_with "call ref" => (fail_if_success k_extra "9"); k_extra "st"); (k_with "eval Name" => (fail_if_success k_extra "9"); k_extra "en"); (k_with "call builtin:list.append" => (fail_if_success k_extra "9"); k_extra "ap"); (k_with "truthy ref" => (fail_if_success k_extra "9"); (k_here; k_dflt (refine' truthy_nw ?N_r ?m_r ?z_r ?_ ?_; (case N_r => k_asm); (case m_r => k_mem); (case z_r => first | assumption | decide)); all_goals intro _)); trivial
theorem b_excl (h₀ : Heap) (L L' : Addr) (m : Str → Option Value) (s : Shared) (Q : Flow → Shared → Prop) (E : Value → Shared → Prop)
   (c : WC) (wr wd : Addr) (tl : List (Addr × Obj))
   (B : Below (ktrTop dp un gd cn cs L a ccd cl outer) base (envX cn cs L a ccd cl :: outer) h₀) (F : Fr h₀ L' s.heap m) (X : (hd.heap_39 w.params).In h₀) (N : News h₀ L' s.heap ((wr, instObj 150 wd) :: (wd, wDict w c) :: tl))
   (T : Top p loose mean mg mb h₀) (hdp : dp + 100 < recursionLimit) (hun : un + 1000 < cLine) (hB : AllBare s.gens)
   (mS : m (Str.ofString "self") = some (.ref wr))
   (h : ∀ h' tk, Fr h₀ L' h' m → News h₀ L' h' ((wr, instObj 150 wd) :: (wd, wDict w c) :: tl) → Q .next { s with heap := h', toks := tk }) :
   wpAny (model PR w) ((ktrTop dp un gd cn cs L a ccd cl outer).deeper (beginE L')) (exec (nth beginB.1 0) (beginE L')) Q E s := by
  unfold beginE
  conv => arg 3; arg 1; whnf
  conv => arg 3; arg 2; arg 2; whnf
  conv => arg 2; arg 2; arg 2; whnf
  k_steps
  exact h _ _ (by assumption) (by assumption)
theorem b_data (h₀ : Heap) (L L' : Addr) (m : Str → Option Value) (s : Shared) (Q : Flow → Shared → Prop) (E : Value → Shared → Prop)
   (c : WC) (wr wd : Addr) (na : Nat) (tl : List (Addr × Obj))
   (B : Below (ktrTop dp un gd cn cs L a ccd cl outer) base (envX cn cs L a ccd cl :: outer) h₀) (F : Fr h₀ L' s.heap m) (X : (hd.heap_39 w.params).In h₀) (N : News h₀ L' s.heap ((wr, instObj 150 wd) :: (wd, wDict w c) :: (c.da, listOf #[] na) :: tl))
   (T : Top p loose mean mg mb h₀) (hdp : dp + 100 < recursionLimit) (hun : un + 1000 < cLine) (hB : AllBare s.gens)
   (mS : m (Str.ofString "self") = some (.ref wr))
   (h : ∀ h' tk, Fr h₀ L' h' m → News h₀ L' h' ((wr, instObj 150 wd) :: (wd, wDict w c) :: (c.da, listOf #[] na) :: tl) → Q .next { s with heap := h', toks := tk }) :
   wpAny (model PR w) ((ktrTop dp un gd cn cs L a ccd cl outer).deeper (beginE L')) (exec (nth beginB.1 1) (beginE L')) Q E s := by
  unfold beginE
  conv => arg 3; arg 1; whnf
  conv => arg 3; arg 2; arg 2; whnf
  conv => arg 2; arg 2; arg 2; whnf
  k_steps
  · exact absurd rfl (by assumption)
  · exact h _ _ (by assumption) (by assumption)
theorem b_new (h₀ : Heap) (L L' : Addr) (m : Str → Option Value) (s : Shared) (Q : Flow → Shared → Prop) (E : Value → Shared → Prop)
   (tl : List (Addr × Obj))
   (B : Below (ktrTop dp un gd cn cs L a ccd cl outer) base (envX cn cs L a ccd cl :: outer) h₀) (F : Fr h₀ L' s.heap m) (X : (hd.heap_39 w.params).In h₀) (N : News h₀ L' s.heap (tl))
   (T : Top p loose mean mg mb h₀) (hdp : dp + 100 < recursionLimit) (hun : un + 1000 < cLine) (hB : AllBare s.gens)
   (h : ∀ top h' tk, (∀ q ∈ tl, q.1 < top) → Fr h₀ L' h' (fun y => if y = Str.ofString "new_namespaces" then some (.ref top) else m y) → News h₀ L' h' ((top, listOf #[] 0) :: tl) → Q .next { s with heap := h', toks := tk }) :
   wpAny (model PR w) ((ktrTop dp un gd cn cs L a ccd cl outer).deeper (beginE L')) (exec (nth beginB.1 2) (beginE L')) Q E s := by
  unfold beginE
  conv => arg 3; arg 1; whnf
  conv => arg 3; arg 2; arg 2; whnf
  conv => arg 2; arg 2; arg 2; whnf
  k_steps
  exact h _ _ _ (by first | assumption | exact allLt_mem (by assumption)) (by assumption) (by assumption)
theorem b_push (h₀ : Heap) (L L' : Addr) (m : Str → Option Value) (s : Shared) (Q : Flow → Shared → Prop) (E : Value → Shared → Prop)
   (c : WC) (wr wd top : Addr) (dv : Array Value) (nd : Nat) (tl : List (Addr × Obj))
   (B : Below (ktrTop dp un gd cn cs L a ccd cl outer) base (envX cn cs L a ccd cl :: outer) h₀) (F : Fr h₀ L' s.heap m) (X : (hd.heap_39 w.params).In h₀) (N : News h₀ L' s.heap ((wr, instObj 150 wd) :: (wd, wDict w c) :: (c.dns, listOf dv nd) :: tl))
   (T : Top p loose mean mg mb h₀) (hdp : dp + 100 < recursionLimit) (hun : un + 1000 < cLine) (hB : AllBare s.gens)
   (mS : m (Str.ofString "self") = some (.ref wr)) (mN : m (Str.ofString "new_namespaces") = some (.ref top)) (hsz : dv.size ≤ 1000) (hn1 : @Ne Nat wr c.dns) (hn2 : @Ne Nat wd c.dns) (hnt : ∀ q ∈ tl, q.1 ≠ c.dns)
   (h : ∀ h' tk nd', Fr h₀ L' h' m → News h₀ L' h' ((wr, instObj 150 wd) :: (wd, wDict w c) :: (c.dns, listOf (dv.push (.ref top)) nd') :: tl) → Q .next { s with heap := h', toks := tk }) :
   wpAny (model PR w) ((ktrTop dp un gd cn cs L a ccd cl outer).deeper (beginE L')) (exec (nth beginB.1 3) (beginE L')) Q E s := by
  unfold beginE
  conv => arg 3; arg 1; whnf
  conv => arg 3; arg 2; arg 2; whnf
  conv => arg 2; arg 2; arg 2; whnf
  k_steps
  exact h _ _ _ (by assumption) (by assumption)
theorem b_aware (h₀ : Heap) (L L' : Addr) (m : Str → Option Value) (s : Shared) (Q : Flow → Shared → Prop) (E : Value → Shared → Prop)
   (c : WC) (wr wd : Addr) (tl : List (Addr × Obj))
   (B : Below (ktrTop dp un gd cn cs L a ccd cl outer) base (envX cn cs L a ccd cl :: outer) h₀) (F : Fr h₀ L' s.heap m) (X : (hd.heap_39 w.params).In h₀) (N : News h₀ L' s.heap ((wr, instObj 150 wd) :: (wd, wDict w c) :: tl))
   (T : Top p loose mean mg mb h₀) (hdp : dp + 100 < recursionLimit) (hun : un + 1000 < cLine) (hB : AllBare s.gens)
   (mS : m (Str.ofString "self") = some (.ref wr))
   (h : ∀ h' tk, Fr h₀ L' h' m → News h₀ L' h' ((wr, instObj 150 wd) :: (wd, wDict w c) :: tl) → Q .next { s with heap := h', toks := tk }) :
   wpAny (model PR w) ((ktrTop dp un gd cn cs L a ccd cl outer).deeper (beginE L')) (exec (nth beginB.1 4) (beginE L')) Q E s := by
  unfold beginE
  conv => arg 3; arg 1; whnf
  conv => arg 3; arg 2; arg 2; whnf
  conv => arg 2; arg 2; arg 2; whnf
  k_steps
  exact h _ _ (by assumption) (by assumption)
theorem b_call (h₀ : Heap) (L L' : Addr) (m : Str → Option Value) (s : Shared) (Q : Flow → Shared → Prop) (E : Value → Shared → Prop)
   (c : WC) (wr wd at_ top : Addr) (tag : Str) (tt : Tok) (tl : List (Addr × Obj))
   (B : Below (ktrTop dp un gd cn cs L a ccd cl outer) base (envX cn cs L a ccd cl :: outer) h₀) (F : Fr h₀ L' s.heap m) (X : (hd.heap_39 w.params).In h₀) (N : News h₀ L' s.heap ((wr, instObj 150 wd) :: (wd, wDict w c) :: tl))
   (T : Top p loose mean mg mb h₀) (hdp : dp + 100 < recursionLimit) (hun : un + 1000 < cLine) (hB : AllBare s.gens)
   (mS : m (Str.ofString "self") = some (.ref wr)) (mT : m (Str.ofString "tag") = some (.str tag tt)) (mA : m (Str.ofString "attrs") = some (.ref at_)) (mN : m (Str.ofString "new_namespaces") = some (.ref top))
   (h : ∀ h' tk, Fr h₀ L' h' m → News h₀ L' h' ((wr, instObj 150 wd) :: (wd, wDict w c) :: tl) → ∀ Q' : Value → Shared → Prop, (∀ s'', Q .next s'' → Q' .none s'') → wpAny (model PR w) ((ktrTop dp un gd cn cs L a ccd cl outer).deeper (beginE L')) (call (.ref 126) [.ref wr, .str tag tt, .ref at_, .ref top]) Q' E { s with heap := h', toks := tk }) :
   wpAny (model PR w) ((ktrTop dp un gd cn cs L a ccd cl outer).deeper (beginE L')) (exec (nth beginB.1 5) (beginE L')) Q E s := by
  unfold beginE
  conv => arg 3; arg 1; whnf
  conv => arg 3; arg 2; arg 2; whnf
  conv => arg 2; arg 2; arg 2; whnf
  k_steps
  show wpAny (model PR w) _ (call _ _) _ _ _
  exact h _ _ (by assumption) (by assumption) _ (fun s'' hq => hq)
end
section
example : True := by (k_with "9" => skip); trivial
/-- how the open name spaces lie, no new one begun -/
structure WS0 (w : World) (c : WC) (scs : List (Addr × Array Value)) (dv : Array Value) (opm : Obj) (tl : List (Addr × Obj)) (known lw : List Str) : Prop where
  dv_eq : dv = (scs.map fun p => Value.ref p.1).toArray
  low : ∀ p ∈ scs, ∃ n, (p.1, listOf p.2 n) ∈ tl
  lowsz : ∀ p ∈ scs, p.2.size < 100
  lps : PairsAt tl (flatOf scs scs.length) (pairsOf known lw ++ [(xmlU, xmlP)])
  nd : lw.Nodup
  sub : ∀ x ∈ lw, x ∈ known
  wds : ∀ x ∈ known, x ∈ words
  kl : known.length < 40
  kv : ∃ kvs, Obj.IsDictOf (PySem.strKind PR w) opm kvs ∧ KvAt 0 kvs known
  npm : ∀ p ∈ tl, p.1 ≠ c.pm
  low_pm : (c.pm == sysModules) = false
theorem WS0.push {w : World} {c : WC} {scs : List (Addr × Array Value)} {dv : Array Value} {opm : Obj} {tl : List (Addr × Obj)} {known lw : List Str} (x : WS0 w c scs dv opm tl known lw) {top : Addr} (h : ∀ p ∈ tl, p.1 ≠ top) : WS w c top scs #[] (dv.push (.ref top)) opm tl known [] lw :=
  ⟨by rw [x.dv_eq]; simp, x.low, x.lowsz, trivial, x.lps, by simpa using x.nd, by simpa using x.sub, x.wds, x.kl, x.kv, h, x.npm, x.low_pm⟩
theorem WS0.mono {w : World} {c : WC} {scs : List (Addr × Array Value)} {dv : Array Value} {opm : Obj} {tl tl' : List (Addr × Obj)} {known lw : List Str} (x : WS0 w c scs dv opm tl known lw) (h : ∀ q ∈ tl, q ∈ tl') (h2 : ∀ q ∈ tl', q.1 ≠ c.pm) : WS0 w c scs dv opm tl' known lw :=
  ⟨x.dv_eq, fun p hp => (x.low p hp).imp fun _ hn => h _ hn, x.lowsz, x.lps.mono h, x.nd, x.sub, x.wds, x.kl, x.kv, h2, x.low_pm⟩
theorem begin_ (A₀ : Around) (h₀ : Heap) (L : Addr) (m : Str → Option Value) (s : Shared) (Q E : Value → Shared → Prop)
   (c : WC) (wr wd at_ pg tb : Addr) (tag k1 k2 k3 k4 v1 v2 v3 v4 : Str) (tt z1 z2 z3 z4 : Tok) (scs : List (Addr × Array Value)) (dv nsv psv pgv ps : Array Value) (nd na nn pn pgn : Nat) (opm oat : Obj) (tl : List (Addr × Obj)) (known lw : List Str)
   (B : Below A₀ base outer h₀) (F : Fr h₀ L s.heap m) (X : (hd.heap_39 w.params).In h₀) (N : News h₀ L s.heap ((wr, instObj 150 wd) :: (wd, wDict w c) :: (c.dns, listOf dv nd) :: (c.pm, opm) :: (tb, tabObj ps) :: (at_, oat) :: (c.da, listOf #[] na) :: (c.nss, listOf nsv nn) :: (c.ps, listOf psv pn) :: (c.bm, bmO pg) :: (pg, listOf pgv pgn) :: tl))
   (T : Top p loose mean mg mb h₀) (hcs : cs.kind = .function) (hdp : dp + 200 < recursionLimit) (hun : un + 2000 < cLine) (hB : AllBare s.gens) (hws : WS0 w c scs dv opm tl known lw) (hat : Obj.IsDictOf (PySem.strKind PR w) oat [(k1, .str v1 z1), (k2, .str v2 z2), (k3, .str v3 z3), (k4, .str v4 z4)]) (hsm : (at_ == sysModules) = false) (hkn : ([tag, k1, k2, k3, k4] : List Str).Nodup) (hqn : ∀ n ∈ ([tag, k1, k2, k3, k4] : List Str), ∃ u ∈ words, ∃ l ∈ letters, n = qnameOf u l) (hvl : ∀ v ∈ ([v1, v2, v3, v4] : List Str), v.length ≤ 20) (hnd : ([wr, wd, c.dns, c.pm, tb, at_, c.da, c.nss, c.ps, c.bm, pg] : List Nat).Nodup) (hndt : ∀ d ∈ ([wr, wd, c.dns, c.pm, tb, at_, c.da, c.nss, c.ps, c.bm, pg] : List Nat), ∀ p ∈ tl, p.1 ≠ d) (hpl : LamTab lamQ ⟨135, 71, 135, 96⟩ tl ps) (hkl : known.length < 30) (hC : Stop (CodeHd base 125 tb)) (hps1 : psv[psv.size - 1]? = some (.bool false)) (hps0 : 0 < psv.size) (hps2 : psv.size ≤ 1000) (hns : nsv.size ≤ 1000) (hdv : dv.size ≤ 1000) (hpg : pgv.size ≤ 900)
   (hret : ∀ (top : Addr) (names : List Str) (krows arows : List (Str × Str)) (tv' ps' : Array Value) (nt' nd' nn' pn' pgn' : Nat) (opm' : Obj) (ex : List (Addr × Obj)) (b : Addr) (ta tb_ tc_ : Tok) (h' : Heap) (tk : Nat) (gens : Array GenState) (dr : Drawn),
     names.Perm [tag, k1, k2, k3, k4] → names.Pairwise (fun x y => klt2 (kaOf y) (kbOf y) (kaOf x) (kbOf x) = false) → krows.Perm [(k1, v1), (k2, v2), (k3, v3), (k4, v4)] → SortedR krows → arows.Perm (xmRows (pairsOf (stK known names) (stT [] lw names))) → SortedR arows →
     WS w { c with rs := true } top scs tv' (dv.push (.ref top)) opm' (ex ++ tl) (stK known names) (stT [] lw names) lw → LamTab lamQ ⟨135, 71, 135, 96⟩ (ex ++ tl) ps' → (b, listOf #[] 0) ∈ ex → (∀ z ∈ ex, z.1 ∉ ([wr, wd, c.dns, c.pm, top, tb, at_, c.nss, c.ps, c.bm, pg] : List Nat)) → (∀ q ∈ (wr, instObj 150 wd) :: (wd, wDict w c) :: (c.dns, listOf dv nd) :: (c.pm, opm) :: (tb, tabObj ps) :: (at_, oat) :: (c.da, listOf #[] na) :: (c.nss, listOf nsv nn) :: (c.ps, listOf psv pn) :: (c.bm, bmO pg) :: (pg, listOf pgv pgn) :: tl, q.1 < top) → AllBare gens → Fr h₀ L h' m →
     News h₀ L h' ((wr, instObj 150 wd) :: (wd, wDict w { c with rs := true }) :: (c.dns, listOf (dv.push (.ref top)) nd') :: (c.pm, opm') :: (top, listOf tv' nt') :: (tb, tabObj ps') :: (at_, oat) :: (c.da, listOf #[] na) :: (c.nss, listOf (nsv.push (.ref b)) nn') :: (c.ps, listOf (psv.push (.bool false)) pn') :: (c.bm, bmO pg) :: (pg, listOf (((pgv.push (.str (Str.ofString "<" ++ pnm (nmK (stK known names) (uOf tag)) (lOf tag)) ta)).push (.str (catS ((arows ++ itRows (stK known names) krows).map fmtRow)) tb_)).push (.str (Str.ofString ">") tc_)) pgn') :: (ex ++ tl)) →
     Q .none { s with heap := h', toks := tk, gens := gens, drawn := dr }) :
   wpAny (model PR w) (ktrTop dp un gd cn cs L a ccd cl outer) (call (.ref 120) [.ref wr, .str tag tt, .ref at_]) Q E s := by
  refine wpAny_call ?_
  k_dflt (refine' code_def (binds := [(Str.ofString "self", .ref wr), (Str.ofString "tag", .str tag tt), (Str.ofString "attrs", .ref at_)]) B F X N T ?kA ?kF ?kK ?k6 ?k7 ?k8 ?k9 ?kB ?_ ?c2 ?c3 ?c4 ?c5; (case kA => exact rfl); (case kF => exact rfl); (case kK => first | exact rfl | assumption); (case k6 => k_is); (case k7 => k_is); (case k8 => k_room); (case k9 => first | exact BindsTo.of_eq rfl | exact binds_K (by k_in) rfl (by k_is) rfl rfl rfl); (case c5 => decide); (case kB => exact locs rfl); (case c2 => exact rfl); (case c3 => exact rfl); (case c4 => exact rfl); k_whole; intro g' L' h' FG' F' N' B' X' T'; (try dsimp only); (try k_lift B'); (try k_fold))
  have hnd0 := hnd
  replace hnd := ndA_iff.mpr hnd
  (refine an2 hnd fun q0_ z0_ => an10 q0_ fun n0_1 n0_2 n0_3 n0_4 n0_5 n0_6 n0_7 n0_8 n0_9 n0_10 => an2 z0_ fun q1_ z1_ => an9 q1_ fun n1_2 n1_3 n1_4 n1_5 n1_6 n1_7 n1_8 n1_9 n1_10 => an2 z1_ fun q2_ z2_ => an8 q2_ fun n2_3 n2_4 n2_5 n2_6 n2_7 n2_8 n2_9 n2_10 => an2 z2_ fun q3_ z3_ => an7 q3_ fun n3_4 n3_5 n3_6 n3_7 n3_8 n3_9 n3_10 => an2 z3_ fun q4_ z4_ => an6 q4_ fun n4_5 n4_6 n4_7 n4_8 n4_9 n4_10 => an2 z4_ fun q5_ z5_ => an5 q5_ fun n5_6 n5_7 n5_8 n5_9 n5_10 => an2 z5_ fun q6_ z6_ => an4 q6_ fun n6_7 n6_8 n6_9 n6_10 => an2 z6_ fun q7_ z7_ => an3 q7_ fun n7_8 n7_9 n7_10 => an2 z7_ fun q8_ n9_10 => an2 q8_ fun n8_9 n8_10 => ?_; clear q0_ z0_ q1_ z1_ q2_ z2_ q3_ z3_ q4_ z4_ q5_ z5_ q6_ z6_ q7_ z7_ q8_)
  have t0 : ∀ p ∈ tl, p.1 ≠ wr := hndt _ (by k_data)
  have t1 : ∀ p ∈ tl, p.1 ≠ wd := hndt _ (by k_data)
  have t2 : ∀ p ∈ tl, p.1 ≠ c.dns := hndt _ (by k_data)
  have t3 : ∀ p ∈ tl, p.1 ≠ c.pm := hndt _ (by k_data)
  have t4 : ∀ p ∈ tl, p.1 ≠ tb := hndt _ (by k_data)
  have t5 : ∀ p ∈ tl, p.1 ≠ at_ := hndt _ (by k_data)
  have t7 : ∀ p ∈ tl, p.1 ≠ c.nss := hndt _ (by k_data)
  have t8 : ∀ p ∈ tl, p.1 ≠ c.ps := hndt _ (by k_data)
  have t9 : ∀ p ∈ tl, p.1 ≠ c.bm := hndt _ (by k_data)
  have t10 : ∀ p ∈ tl, p.1 ≠ pg := hndt _ (by k_data)
  show wpAny (model PR w) ((ktrTop dp un gd cn cs L a ccd cl outer).deeper (beginE L')) (execs (beginB.1.drop 0) (beginE L')) _ _ _
  refine execs_at 0 (by decide) ?_
  refine b_excl w p loose mean mg mb base dp un gd cn cs a ccd cl outer g' L L' _ _ _ _ c wr wd _ B' F' X' N' T' (by k_room) (by k_room) hB rfl ?_
  intro h1 tk1 F1 N1
  dsimp only
  have N1b : News g' L' h1 ((wr, instObj 150 wd) :: (wd, wDict w c) :: (c.da, listOf #[] na) :: (c.dns, listOf dv nd) :: (c.pm, opm) :: (tb, tabObj ps) :: (at_, oat) :: (c.nss, listOf nsv nn) :: (c.ps, listOf psv pn) :: (c.bm, bmO pg) :: (pg, listOf pgv pgn) :: tl) := fun p hp => N1 p (by
    revert p
    k_data)
  refine execs_at 1 (by decide) ?_
  refine b_data w p loose mean mg mb base dp un gd cn cs a ccd cl outer g' L L' _ _ _ _ c wr wd na _ B' F1 X' N1b T' (by k_room) (by k_room) hB rfl ?_
  intro h2 tk2 F2 N2
  dsimp only
  refine execs_at 2 (by decide) ?_
  refine b_new w p loose mean mg mb base dp un gd cn cs a ccd cl outer g' L L' _ _ _ _ _ B' F2 X' N2 T' (by k_room) (by k_room) hB ?_
  intro top h3 tk3 htop F3 N3
  dsimp only
  have hlt : ∀ q ∈ (wr, instObj 150 wd) :: (wd, wDict w c) :: (c.dns, listOf dv nd) :: (c.pm, opm) :: (tb, tabObj ps) :: (at_, oat) :: (c.da, listOf #[] na) :: (c.nss, listOf nsv nn) :: (c.ps, listOf psv pn) :: (c.bm, bmO pg) :: (pg, listOf pgv pgn) :: tl, q.1 < top := fun q hq => htop q (by
    revert q
    k_data)
  have N3b : News g' L' h3 ((wr, instObj 150 wd) :: (wd, wDict w c) :: (c.dns, listOf dv nd) :: (top, listOf #[] 0) :: (c.pm, opm) :: (tb, tabObj ps) :: (at_, oat) :: (c.da, listOf #[] na) :: (c.nss, listOf nsv nn) :: (c.ps, listOf psv pn) :: (c.bm, bmO pg) :: (pg, listOf pgv pgn) :: tl) := fun p hp => N3 p (by
    revert p
    k_data)
  have nT : ∀ k ∈ ([wr, wd, c.dns, c.pm, tb, at_, c.da, c.nss, c.ps, c.bm, pg] : List Nat), @Ne Nat top k := by
    exact fmc (Nat.ne_of_gt (hlt (wr, instObj 150 wd) (by k_data))) (fmc (Nat.ne_of_gt (hlt (wd, wDict w c) (by k_data))) (fmc (Nat.ne_of_gt (hlt (c.dns, listOf dv nd) (by k_data))) (fmc (Nat.ne_of_gt (hlt (c.pm, opm) (by k_data))) (fmc (Nat.ne_of_gt (hlt (tb, tabObj ps) (by k_data))) (fmc (Nat.ne_of_gt (hlt (at_, oat) (by k_data))) (fmc (Nat.ne_of_gt (hlt (c.da, listOf #[] na) (by k_data))) (fmc (Nat.ne_of_gt (hlt (c.nss, listOf nsv nn) (by k_data))) (fmc (Nat.ne_of_gt (hlt (c.ps, listOf psv pn) (by k_data))) (fmc (Nat.ne_of_gt (hlt (c.bm, bmO pg) (by k_data))) (fmc (Nat.ne_of_gt (hlt (pg, listOf pgv pgn) (by k_data))) (fun _ h => nomatch h)))))))))))
  refine execs_at 3 (by decide) ?_
  refine b_push w p loose mean mg mb base dp un gd cn cs a ccd cl outer g' L L' _ _ _ _ c wr wd top dv nd _ B' F3 X' N3b T' (by k_room) (by k_room) hB rfl rfl hdv n0_2 n1_2 (fmc (nT _ (by k_data)) (fmc n2_3.symm (fmc n2_4.symm (fmc n2_5.symm (fmc n2_6.symm (fmc n2_7.symm (fmc n2_8.symm (fmc n2_9.symm (fmc n2_10.symm t2))))))))) ?_
  intro h4 tk4 nd4 F4 N4
  dsimp only
  refine execs_at 4 (by decide) ?_
  refine b_aware w p loose mean mg mb base dp un gd cn cs a ccd cl outer g' L L' _ _ _ _ c wr wd _ B' F4 X' N4 T' (by k_room) (by k_room) hB rfl ?_
  intro h5 tk5 F5 N5
  dsimp only
  refine execs_at 5 (by decide) ?_
  refine b_call w p loose mean mg mb base dp un gd cn cs a ccd cl outer g' L L' _ _ _ _ c wr wd at_ top tag tt _ B' F5 X' N5 T' (by k_room) (by k_room) hB rfl rfl rfl rfl ?_
  intro h6 tk6 F6 N6 Q' hQ'
  have N6b : News g' L' h6 ((wr, instObj 150 wd) :: (wd, wDict w c) :: (c.dns, listOf (dv.push (.ref top)) nd4) :: (c.pm, opm) :: (top, listOf #[] 0) :: (tb, tabObj ps) :: (at_, oat) :: (c.nss, listOf nsv nn) :: (c.ps, listOf psv pn) :: (c.bm, bmO pg) :: (pg, listOf pgv pgn) :: (c.da, listOf #[] na) :: tl) := fun p hp => N6 p (by
    revert p
    k_data)
  have dT : ∀ d ∈ ([wr, wd, c.dns, c.pm, top, tb, at_, c.nss, c.ps, c.bm, pg] : List Nat), ∀ p ∈ (c.da, listOf #[] na) :: tl, p.1 ≠ d := by
    have tT : ∀ p ∈ tl, p.1 ≠ top := fun p hp => Nat.ne_of_lt (hlt p (by k_data))
    exact fmc (fmc n0_6.symm t0) (fmc (fmc n1_6.symm t1) (fmc (fmc n2_6.symm t2) (fmc (fmc n3_6.symm t3) (fmc (fmc ((nT c.da (by k_data)).symm) tT) (fmc (fmc n4_6.symm t4) (fmc (fmc n5_6.symm t5) (fmc (fmc n6_7 t7) (fmc (fmc n6_8 t8) (fmc (fmc n6_9 t9) (fmc (fmc n6_10 t10) (fun _ h => nomatch h)))))))))))
  have ndS : ([wr, wd, c.dns, c.pm, top, tb, at_, c.nss, c.ps, c.bm, pg] : List Nat).Nodup := by
    refine ndA_iff.mp ?_
    exact ⟨⟨n0_1, n0_2, n0_3, (nT _ (by k_data)).symm, n0_4, n0_5, n0_7, n0_8, n0_9, n0_10⟩, anI9 ⟨n1_2, n1_3, (nT _ (by k_data)).symm, n1_4, n1_5, n1_7, n1_8, n1_9, n1_10⟩ ⟨n2_3, (nT _ (by k_data)).symm, n2_4, n2_5, n2_7, n2_8, n2_9, n2_10⟩ ⟨(nT _ (by k_data)).symm, n3_4, n3_5, n3_7, n3_8, n3_9, n3_10⟩ ⟨nT _ (by k_data), nT _ (by k_data), nT _ (by k_data), nT _ (by k_data), nT _ (by k_data), nT _ (by k_data)⟩ ⟨n4_5, n4_7, n4_8, n4_9, n4_10⟩ ⟨n5_7, n5_8, n5_9, n5_10⟩ ⟨n7_8, n7_9, n7_10⟩ ⟨n8_9, n8_10⟩ n9_10⟩
  have hwsS : WS w c top scs #[] (dv.push (.ref top)) opm ((c.da, listOf #[] na) :: tl) known [] lw := (hws.mono (tl' := (c.da, listOf #[] na) :: tl) (fun q hq => .tail _ hq) (dT c.pm (by k_data))).push (dT top (by k_data))
  have hplS : LamTab lamQ ⟨135, 71, 135, 96⟩ ((c.da, listOf #[] na) :: tl) ps := by
    rcases hpl with e | ⟨c', oc, vs, t, e, hm, e2⟩
    · exact .inl e
    · exact .inr ⟨c', oc, vs, t, e, .tail _ hm, e2⟩
  show wpAny (model PR w) (ktrTop _ _ _ _ _ _ _ _ _ _) _ _ _ _
  refine' start_ w p loose mean mg mb base _ _ _ _ _ _ _ _ _ _ _ _ _ _ _ _ c wr wd top at_ pg tb tag k1 k2 k3 k4 v1 v2 v3 v4 tt z1 z2 z3 z4 scs (dv.push (.ref top)) nsv psv pgv ps nd4 0 nn pn pgn opm oat ((c.da, listOf #[] na) :: tl) known lw B' F6 X' N6b T' rfl ?dp ?un hB hwsS hat hsm hkn hqn hvl ndS dT hplS hkl hC hps1 hps0 hps2 hns hpg ?hret
  case dp => (dsimp only [ktrTop]; k_room)
  case un => (dsimp only [ktrTop]; k_room)
  intro names krows arows tv' ps' nt' nn' pn' pgn' opm' ex b ta tb_ tc_ h7 tk7 gens7 dr7 a1 a2 a3 a4 a5 a6 hws7 hpl7 a7 a8 hB7 F7 N7
  refine hQ' _ ?_
  dsimp only
  refine execs_end 6 (by decide) ?_
  try dsimp only
  k_steps
  rename News h₀ L _ _ => kN
  rename Fr h₀ L _ m => kF
  have shr : ∀ x u t1 p t2, (x, tup2 u t1 p t2) ∈ ex ++ (c.da, listOf #[] na) :: tl → (x, tup2 u t1 p t2) ∈ ex ++ tl := by
    intro x u t1 p t2 hm
    simp only [List.mem_append, List.mem_cons, Prod.mk.injEq] at hm ⊢
    rcases hm with hm | ⟨_, hm⟩ | hm
    · exact .inl hm
    · exact absurd (congrArg (·.cls) hm) (by simp)
    · exact .inr hm
  refine hret top names krows arows tv' ps' nt' nd4 nn' pn' pgn' opm' ex b ta tb_ tc_ h7 tk7 gens7 dr7 a1 a2 a3 a4 a5 a6 ⟨hws7.dv_eq, fun p hp => (hws.low p hp).imp fun _ h => List.mem_append_right _ h, hws7.lowsz, hws7.tps.shrink shr, hws7.lps.shrink shr, hws7.nd, hws7.sub, hws7.wds, hws7.kl, hws7.kv, fun p hp => hws7.ntop p ?_, fun p hp => hws7.npm p ?_, hws7.low_pm⟩ ?_ a7 a8 hlt hB7 kF (fun p hp => kN p ?_)
  · revert p; k_data
  · revert p; k_data
  · rcases hpl7 with e | ⟨c', oc, vs, t, e, hm, e2, e3⟩
    · exact .inl e
    · refine .inr ⟨c', oc, vs, t, e, ?_, e2, e3⟩
      simp only [List.mem_append, List.mem_cons, Prod.mk.injEq] at hm ⊢
      rcases hm with hm | ⟨_, hm⟩ | hm
      · exact .inl hm
      · rw [hm] at e2; exact absurd e2 (by simp)
      · exact .inr hm
  · revert p; k_data
end
section
example : True := by (k_with "call ref" => (fail_if_success k_extra "10"); k_extra "st"); (k_with "eval Name" => (fail_if_success k_extra "10"); k_extra "en"); (k_with "callWith ref" => (fail_if_success k_extra "10"); k_extra "b1"); (k_with "And" => (fail_if_success k_extra "10"); k_extra "b2"); (k_with "call ref" => (fail_if_success k_extra "10"); k_extra "b3"); (k_with "truthy ref" => (fail_if_success k_extra "10"); (k_here; k_dflt (refine' truthy_nw ?N_r ?m_r ?z_r ?_ ?_; (case N_r => k_asm); (case m_r => k_mem); (case z_r => first | assumption | decide)); all_goals intro _)); trivial
theorem updF_upd {d : Addr} {o : Obj} {l : List (Addr × Obj)} {g : Obj → List (Addr × Obj)} (u : UpdF d o l g) (o' : Obj) : Upd d o o' l (g o') := by
  induction u with
  | head h => exact .head h
  | tail h r ih => exact .tail h ih
theorem pop_nw {prog : Program} {w : World} {A : Around} {E : Value → Shared → Prop} {s : Shared} {h₀ : Heap} {L D : Addr} {m : Str → Option Value} {news : List (Addr × Obj)} {pl : List Value} {y : Value} {n : Nat} {g : Obj → List (Addr × Obj)} {Q : Value → Shared → Prop} (F : Fr h₀ L s.heap m) (N : News h₀ L s.heap news) (U : UpdF D (listOf (pl ++ [y]).toArray n) news g) (hz : pl.length ≤ 1000)
    (h : ∀ h', Fr h₀ L h' m → News h₀ L h' (g (listOf pl.toArray (n + 1))) → Q y { s with heap := h' }) : wpAny (model prog w) A (call (.builtin "list.pop") [.ref D]) Q E s :=
  kl_pop (its := (pl ++ [y]).toArray) F N (kpa_last y pl) (updF_upd U _) (by rw [sizeLine_eq]; simp only [List.length_append, List.length_cons, List.length_nil]; k_room) h
example : True := by (k_with "call builtin:list.pop" => (fail_if_success k_extra "10"); k_extra "b7"); (k_with "setAttr ref bool" => (fail_if_success k_extra "10"); (k_here; k_dflt (refine' set_rd _ ?F_r ?X_r ?N_r ?a_r ?b_r ?_; (case F_r => k_asm); (case X_r => k_asm); (case N_r => k_asm); (case a_r => assumption); (case b_r => k_all); intro _ _ _))); trivial
theorem e_ign (h₀ : Heap) (L L' : Addr) (m : Str → Option Value) (s : Shared) (Q : Flow → Shared → Prop) (E : Value → Shared → Prop)
   (c : WC) (wr wd : Addr) (tl : List (Addr × Obj))
   (B : Below (ktrTop dp un gd cn cs L a ccd cl outer) base (envX cn cs L a ccd cl :: outer) h₀) (F : Fr h₀ L' s.heap m) (X : (hd.heap_39 w.params).In h₀) (N : News h₀ L' s.heap ((wr, instObj 150 wd) :: (wd, wDict w c) :: tl))
   (T : Top p loose mean mg mb h₀) (hdp : dp + 60 < recursionLimit) (hun : un + 600 < cLine) (hB : AllBare s.gens)
   (mS : m (Str.ofString "self") = some (.ref wr))
   (h : ∀ h' tk, Fr h₀ L' h' m → News h₀ L' h' ((wr, instObj 150 wd) :: (wd, wDict w c) :: tl) → Q .next { s with heap := h', toks := tk }) :
   wpAny (model PR w) ((ktrTop dp un gd cn cs L a ccd cl outer).deeper (endE L')) (exec (nth endB.1 0) (endE L')) Q E s := by
  unfold endE
  conv => arg 3; arg 1; whnf
  conv => arg 3; arg 2; arg 2; whnf
  conv => arg 2; arg 2; arg 2; whnf
  k_steps
  exact h _ _ (by assumption) (by assumption)
theorem e_data (h₀ : Heap) (L L' : Addr) (m : Str → Option Value) (s : Shared) (Q : Flow → Shared → Prop) (E : Value → Shared → Prop)
   (c : WC) (wr wd : Addr) (na : Nat) (tl : List (Addr × Obj))
   (B : Below (ktrTop dp un gd cn cs L a ccd cl outer) base (envX cn cs L a ccd cl :: outer) h₀) (F : Fr h₀ L' s.heap m) (X : (hd.heap_39 w.params).In h₀) (N : News h₀ L' s.heap ((wr, instObj 150 wd) :: (wd, wDict w c) :: (c.da, listOf #[] na) :: tl))
   (T : Top p loose mean mg mb h₀) (hdp : dp + 60 < recursionLimit) (hun : un + 600 < cLine) (hB : AllBare s.gens)
   (mS : m (Str.ofString "self") = some (.ref wr))
   (h : ∀ h' tk, Fr h₀ L' h' m → News h₀ L' h' ((wr, instObj 150 wd) :: (wd, wDict w c) :: (c.da, listOf #[] na) :: tl) → Q .next { s with heap := h', toks := tk }) :
   wpAny (model PR w) ((ktrTop dp un gd cn cs L a ccd cl outer).deeper (endE L')) (exec (nth endB.1 1) (endE L')) Q E s := by
  unfold endE
  conv => arg 3; arg 1; whnf
  conv => arg 3; arg 2; arg 2; whnf
  conv => arg 2; arg 2; arg 2; whnf
  k_steps
  · exact absurd rfl (by assumption)
  · exact h _ _ (by assumption) (by assumption)
theorem e_pres (h₀ : Heap) (L L' : Addr) (m : Str → Option Value) (s : Shared) (Q : Flow → Shared → Prop) (E : Value → Shared → Prop)
   (c : WC) (wr wd : Addr) (pl : List Value) (y : Value) (pn : Nat) (tl : List (Addr × Obj))
   (B : Below (ktrTop dp un gd cn cs L a ccd cl outer) base (envX cn cs L a ccd cl :: outer) h₀) (F : Fr h₀ L' s.heap m) (X : (hd.heap_39 w.params).In h₀) (N : News h₀ L' s.heap ((wr, instObj 150 wd) :: (wd, wDict w c) :: (c.ps, listOf (pl ++ [y]).toArray pn) :: tl))
   (T : Top p loose mean mg mb h₀) (hdp : dp + 60 < recursionLimit) (hun : un + 600 < cLine) (hB : AllBare s.gens)
   (mS : m (Str.ofString "self") = some (.ref wr)) (hsz : pl.length ≤ 1000) (hn1 : @Ne Nat wr c.ps) (hn2 : @Ne Nat wd c.ps) (hnt : ∀ q ∈ tl, q.1 ≠ c.ps)
   (h : ∀ h' tk pn', Fr h₀ L' h' m → News h₀ L' h' ((wr, instObj 150 wd) :: (wd, wDict w c) :: (c.ps, listOf pl.toArray pn') :: tl) → Q .next { s with heap := h', toks := tk }) :
   wpAny (model PR w) ((ktrTop dp un gd cn cs L a ccd cl outer).deeper (endE L')) (exec (nth endB.1 3) (endE L')) Q E s := by
  unfold endE
  conv => arg 3; arg 1; whnf
  conv => arg 3; arg 2; arg 2; whnf
  conv => arg 2; arg 2; arg 2; whnf
  k_steps
  exact h _ _ _ (by assumption) (by assumption)
theorem e_done (h₀ : Heap) (L L' : Addr) (m : Str → Option Value) (s : Shared) (Q : Flow → Shared → Prop) (E : Value → Shared → Prop)
   (c : WC) (wr wd : Addr) (psv : Array Value) (pn : Nat) (tl : List (Addr × Obj))
   (B : Below (ktrTop dp un gd cn cs L a ccd cl outer) base (envX cn cs L a ccd cl :: outer) h₀) (F : Fr h₀ L' s.heap m) (X : (hd.heap_39 w.params).In h₀) (N : News h₀ L' s.heap ((wr, instObj 150 wd) :: (wd, wDict w c) :: (c.ps, listOf psv pn) :: tl))
   (T : Top p loose mean mg mb h₀) (hdp : dp + 60 < recursionLimit) (hun : un + 600 < cLine) (hB : AllBare s.gens)
   (mS : m (Str.ofString "self") = some (.ref wr)) (hsz : psv.size ≤ 1000) (hn0 : @Ne Nat wr wd) (hn1 : @Ne Nat c.ps wd) (hnt : ∀ q ∈ tl, q.1 ≠ wd)
   (h : ∀ h' tk b, Fr h₀ L' h' m → News h₀ L' h' ((wr, instObj 150 wd) :: (wd, wDict w { c with rd := b }) :: (c.ps, listOf psv pn) :: tl) → Q .next { s with heap := h', toks := tk }) :
   wpAny (model PR w) ((ktrTop dp un gd cn cs L a ccd cl outer).deeper (endE L')) (exec (nth endB.1 4) (endE L')) Q E s := by
  unfold endE
  conv => arg 3; arg 1; whnf
  conv => arg 3; arg 2; arg 2; whnf
  conv => arg 2; arg 2; arg 2; whnf
  k_steps
  exact h _ _ _ (by assumption) (by assumption)
theorem e_dns (h₀ : Heap) (L L' : Addr) (m : Str → Option Value) (s : Shared) (Q : Flow → Shared → Prop) (E : Value → Shared → Prop)
   (c : WC) (wr wd : Addr) (pl : List Value) (y : Value) (pn : Nat) (tl : List (Addr × Obj))
   (B : Below (ktrTop dp un gd cn cs L a ccd cl outer) base (envX cn cs L a ccd cl :: outer) h₀) (F : Fr h₀ L' s.heap m) (X : (hd.heap_39 w.params).In h₀) (N : News h₀ L' s.heap ((wr, instObj 150 wd) :: (wd, wDict w c) :: (c.dns, listOf (pl ++ [y]).toArray pn) :: tl))
   (T : Top p loose mean mg mb h₀) (hdp : dp + 60 < recursionLimit) (hun : un + 600 < cLine) (hB : AllBare s.gens)
   (mS : m (Str.ofString "self") = some (.ref wr)) (hsz : pl.length ≤ 1000) (hn1 : @Ne Nat wr c.dns) (hn2 : @Ne Nat wd c.dns) (hnt : ∀ q ∈ tl, q.1 ≠ c.dns)
   (h : ∀ h' tk pn', Fr h₀ L' h' m → News h₀ L' h' ((wr, instObj 150 wd) :: (wd, wDict w c) :: (c.dns, listOf pl.toArray pn') :: tl) → Q .next { s with heap := h', toks := tk }) :
   wpAny (model PR w) ((ktrTop dp un gd cn cs L a ccd cl outer).deeper (endE L')) (exec (nth endB.1 5) (endE L')) Q E s := by
  unfold endE
  conv => arg 3; arg 1; whnf
  conv => arg 3; arg 2; arg 2; whnf
  conv => arg 2; arg 2; arg 2; whnf
  k_steps
  exact h _ _ _ (by assumption) (by assumption)
theorem e_nss (h₀ : Heap) (L L' : Addr) (m : Str → Option Value) (s : Shared) (Q : Flow → Shared → Prop) (E : Value → Shared → Prop)
   (c : WC) (wr wd : Addr) (pl : List Value) (y : Value) (pn : Nat) (tl : List (Addr × Obj))
   (B : Below (ktrTop dp un gd cn cs L a ccd cl outer) base (envX cn cs L a ccd cl :: outer) h₀) (F : Fr h₀ L' s.heap m) (X : (hd.heap_39 w.params).In h₀) (N : News h₀ L' s.heap ((wr, instObj 150 wd) :: (wd, wDict w c) :: (c.nss, listOf (pl ++ [y]).toArray pn) :: tl))
   (T : Top p loose mean mg mb h₀) (hdp : dp + 60 < recursionLimit) (hun : un + 600 < cLine) (hB : AllBare s.gens)
   (mS : m (Str.ofString "self") = some (.ref wr)) (hsz : pl.length ≤ 1000) (hn1 : @Ne Nat wr c.nss) (hn2 : @Ne Nat wd c.nss) (hnt : ∀ q ∈ tl, q.1 ≠ c.nss)
   (h : ∀ h' tk pn', Fr h₀ L' h' m → News h₀ L' h' ((wr, instObj 150 wd) :: (wd, wDict w c) :: (c.nss, listOf pl.toArray pn') :: tl) → Q .next { s with heap := h', toks := tk }) :
   wpAny (model PR w) ((ktrTop dp un gd cn cs L a ccd cl outer).deeper (endE L')) (exec (nth endB.1 6) (endE L')) Q E s := by
  unfold endE
  conv => arg 3; arg 1; whnf
  conv => arg 3; arg 2; arg 2; whnf
  conv => arg 2; arg 2; arg 2; whnf
  k_steps
  exact h _ _ _ (by assumption) (by assumption)
end
section
example : True := by (k_with "10" => skip); (k_with "And" => (fail_if_success k_extra "11"); k_extra "b5"); (k_with "call ref" => (fail_if_success k_extra "11"); k_extra "st"); (k_with "eval Name" => (fail_if_success k_extra "11"); k_extra "en"); (k_with "callWith ref" => (fail_if_success k_extra "11"); k_extra "b1"); (k_with "And" => (fail_if_success k_extra "11"); k_extra "b2"); (k_with "call ref" => (fail_if_success k_extra "11"); k_extra "b3"); (k_with "getMethod ref" => (fail_if_success k_extra "11"); (k_here; k_dflt (refine' kmu_own ?k1_r ?k2_r ?k3_r ?k4_r ?k5_r ?_; (case k1_r => k_asm); (case k2_r => k_asm); (case k3_r => k_inst); (case k4_r => k_is); (case k5_r => k_is); k_whole))); trivial
theorem newsC {h₀ h : Heap} {L : Addr} {big l : List (Addr × Obj)} {a : Addr} {o : Obj} (N : News h₀ L h big) (hm : (a, o) ∈ big) (r : News h₀ L h l) : News h₀ L h ((a, o) :: l) := fun p hp => by
  rcases List.mem_cons.mp hp with rfl | hp
  · exact N _ hm
  · exact r _ hp
theorem e_write (h₀ : Heap) (L L' : Addr) (m : Str → Option Value) (s : Shared) (Q : Flow → Shared → Prop) (E : Value → Shared → Prop)
   (c : WC) (wr wd top pg : Addr) (scs : List (Addr × Array Value)) (dv tv pgv : Array Value) (nd nt pgn : Nat) (opm : Obj) (u tg : Str) (tt : Tok) (known tw lw : List Str) (tl : List (Addr × Obj))
   (B : Below (ktrTop dp un gd cn cs L a ccd cl outer) base (envX cn cs L a ccd cl :: outer) h₀) (F : Fr h₀ L' s.heap m) (X : (hd.heap_39 w.params).In h₀) (N : News h₀ L' s.heap ((wr, instObj 150 wd) :: (wd, wDict w c) :: (c.dns, listOf dv nd) :: (c.pm, opm) :: (top, listOf tv nt) :: (c.bm, bmO pg) :: (pg, listOf pgv pgn) :: tl))
   (T : Top p loose mean mg mb h₀) (hdp : dp + 100 < recursionLimit) (hun : un + 1000 < cLine) (hB : AllBare s.gens)
   (mS : m (Str.ofString "self") = some (.ref wr)) (mT : m (Str.ofString "tag") = some (.str (qnameOf u tg) tt)) (hws : WS w c top scs tv dv opm tl known tw lw) (hu : u ∈ tw ++ lw) (htg : tg ∈ letters) (hkl : known.length < 39) (hp1 : pgv.size ≤ 1000) (hnd : ([wr, wd, c.dns, c.pm, top, c.bm, pg] : List Nat).Nodup) (hnt : ∀ d ∈ ([top, c.pm, pg] : List Nat), ∀ q ∈ tl, q.1 ≠ d)
   (h : ∀ h' tk t opm' pgn' gens, (∃ kvs, Obj.IsDictOf (PySem.strKind PR w) opm' kvs ∧ KvAt 0 kvs known) → AllBare gens → Fr h₀ L' h' m → News h₀ L' h' ((wr, instObj 150 wd) :: (wd, wDict w c) :: (c.dns, listOf dv nd) :: (c.pm, opm') :: (c.bm, bmO pg) :: (pg, listOf (pgv.push (.str (Str.empty ++ Str.ofString "</" ++ pnm (nmK known u) tg ++ Str.ofString ">") t)) pgn') :: tl) → Q .next { s with heap := h', toks := tk, gens := gens }) :
   wpAny (model PR w) ((ktrTop dp un gd cn cs L a ccd cl outer).deeper (endE L')) (exec (nth endB.1 2) (endE L')) Q E s := by
  unfold endE
  conv => arg 3; arg 1; whnf
  conv => arg 3; arg 2; arg 2; whnf
  conv => arg 2; arg 2; arg 2; whnf
  have hnd5 : ([wr, wd, c.dns, c.pm, top] : List Nat).Nodup := (List.nodup_append.mp (show (([wr, wd, c.dns, c.pm, top] : List Nat) ++ [c.bm, pg]).Nodup from hnd)).1
  have hnd0 := hnd
  replace hnd := ndA_iff.mpr hnd
  (refine an6 hnd fun y1_ y2_ y3_ y4_ y5_ i1 => ?_; try clear hnd; refine an6 y1_ fun b1 b2 b3 b4 b5 b6 => ?_; clear y1_; refine an5 y2_ fun d1 d2 d3 d4 d5 => ?_; clear y2_; refine an4 y3_ fun e1 e2 e3 e4 => ?_; clear y3_; refine an3 y4_ fun f1 f2 f3 => ?_; clear y4_; refine an2 y5_ fun g1 g2 => ?_; clear y5_)
  k_steps
  show wpAny (model PR w) _ (call _ _) _ _ _
  refine wpAny_call ?_
  refine' qn_code w p loose mean mg mb base _ _ _ _ _ _ _ _ _ _ _ _ _ _ _ _ u tg tt c wr wd top scs tv dv nd nt opm ((c.bm, bmO pg) :: (pg, listOf pgv pgn) :: tl) tl known tw lw (hws.wds u (hws.sub u hu)) htg hws (fun q hq => .tail _ (.tail _ hq)) ?n1 ?n2 hkl hnd5 B F X N T rfl ?dp ?un hB ?hret
  case n1 => exact fmc (Ne.symm g1) (fmc (Ne.symm g2) (hnt top (by k_data)))
  case n2 => exact fmc (Ne.symm f2) (fmc (Ne.symm f3) (hnt c.pm (by k_data)))
  case dp => (dsimp only [ktrTop]; k_room)
  case un => (dsimp only [ktrTop]; k_room)
  case hret =>
    intro tv' nt' opm' ex a1 t1 t2 t3 h2 tk2 gens2 hws2 F2 N2 lt1 lt2 hB2
    have hkv := hws2.kv
    rw [show addK known u = known from if_pos (hws.sub u hu)] at N2 hkv
    have lA := lt1 (pg, listOf pgv pgn) (by k_data)
    have apg : @Ne Nat a1 pg := Nat.ne_of_gt lA.1
    refine hide (ex ++ tl) fun tl2 htl2 => ?_
    have n3 : ∀ q ∈ tl2, q.1 ≠ pg := by
      rw [htl2]
      intro q hq
      rcases List.mem_append.mp hq with hq | hq
      · exact Nat.ne_of_gt (lA.2 q hq)
      · exact hnt pg (by k_data) q hq
    have hql : (pnm (nmK known u) tg).length ≤ 40 := by
      have h1 := (nP_len _ (hws.idx40 (hws.sub u hu))).2
      have h2 := letters_len tg htg
      unfold pnm nmK
      simp only [Str.length_append]
      have l1 : (Str.empty).length = 0 := rfl
      have l2 : (Str.ofString ":").length = 1 := by decide +kernel
      k_room
    generalize pnm (nmK known u) tg = qn at *
    have N3 : News h₀ L' h2 ((a1, tup3 qn t1 tg t2 u t3) :: (c.bm, bmO pg) :: (pg, listOf pgv pgn) :: (wr, instObj 150 wd) :: (wd, wDict w c) :: (c.dns, listOf dv nd) :: (c.pm, opm') :: tl2) := fun p hp => N2 p (by
      rw [htl2] at hp
      revert p
      k_data)
    clear N2 N lt1 lt2
    k_steps
    rename News h₀ L' _ _ => kN
    rename Fr h₀ L' _ m => kF
    exact h _ _ _ opm' _ gens2 hkv hB2 kF (newsC kN (by k_mem) (newsC kN (by k_mem) (newsC kN (by k_mem) (newsC kN (by k_mem) (newsC kN (by k_mem) (newsC kN (by k_mem) (fun p hp => kN p (by rw [htl2]; k_data))))))))
end
section
example : True := by (k_with "11" => skip); trivial
theorem end_ (A₀ : Around) (h₀ : Heap) (L : Addr) (m : Str → Option Value) (s : Shared) (Q E : Value → Shared → Prop)
   (c : WC) (wr wd top pg : Addr) (u tg : Str) (tt : Tok) (scs : List (Addr × Array Value)) (dl nl pl : List Value) (xn xp : Value) (tv pgv : Array Value) (nd nt na nn pn pgn : Nat) (opm : Obj) (tl : List (Addr × Obj)) (known tw lw : List Str)
   (B : Below A₀ base outer h₀) (F : Fr h₀ L s.heap m) (X : (hd.heap_39 w.params).In h₀) (N : News h₀ L s.heap ((wr, instObj 150 wd) :: (wd, wDict w c) :: (c.dns, listOf (dl ++ [Value.ref top]).toArray nd) :: (c.pm, opm) :: (top, listOf tv nt) :: (c.da, listOf #[] na) :: (c.nss, listOf (nl ++ [xn]).toArray nn) :: (c.ps, listOf (pl ++ [xp]).toArray pn) :: (c.bm, bmO pg) :: (pg, listOf pgv pgn) :: tl))
   (T : Top p loose mean mg mb h₀) (hcs : cs.kind = .function) (hdp : dp + 150 < recursionLimit) (hun : un + 1500 < cLine) (hB : AllBare s.gens) (hws : WS w c top scs tv (dl ++ [Value.ref top]).toArray opm tl known tw lw) (hu : u ∈ tw ++ lw) (htg : tg ∈ letters) (hkl : known.length < 39) (hdl : dl.length ≤ 1000) (hnl : nl.length ≤ 1000) (hpl : pl.length ≤ 1000) (hp1 : pgv.size ≤ 1000) (hnd : ([wr, wd, c.dns, c.pm, top, c.da, c.nss, c.ps, c.bm, pg] : List Nat).Nodup) (hndt : ∀ d ∈ ([wr, wd, c.dns, c.pm, top, c.da, c.nss, c.ps, c.bm, pg] : List Nat), ∀ p ∈ tl, p.1 ≠ d)
   (hret : ∀ (opm' : Obj) (nd' nn' pn' pgn' : Nat) (t : Tok) (b : Bool) (h' : Heap) (tk : Nat) (gens : Array GenState), (∃ kvs, Obj.IsDictOf (PySem.strKind PR w) opm' kvs ∧ KvAt 0 kvs known) → AllBare gens → Fr h₀ L h' m →
     News h₀ L h' ((wr, instObj 150 wd) :: (wd, wDict w { c with rd := b }) :: (c.dns, listOf dl.toArray nd') :: (c.pm, opm') :: (c.da, listOf #[] na) :: (c.nss, listOf nl.toArray nn') :: (c.ps, listOf pl.toArray pn') :: (c.bm, bmO pg) :: (pg, listOf (pgv.push (.str (Str.empty ++ Str.ofString "</" ++ pnm (nmK known u) tg ++ Str.ofString ">") t)) pgn') :: tl) → Q .none { s with heap := h', toks := tk, gens := gens }) :
   wpAny (model PR w) (ktrTop dp un gd cn cs L a ccd cl outer) (call (.ref 133) [.ref wr, .str (qnameOf u tg) tt]) Q E s := by
  refine wpAny_call ?_
  k_dflt (refine' code_def (binds := [(Str.ofString "self", .ref wr), (Str.ofString "tag", .str (qnameOf u tg) tt)]) B F X N T ?kA ?kF ?kK ?k6 ?k7 ?k8 ?k9 ?kB ?_ ?c2 ?c3 ?c4 ?c5; (case kA => exact rfl); (case kF => exact rfl); (case kK => first | exact rfl | assumption); (case k6 => k_is); (case k7 => k_is); (case k8 => k_room); (case k9 => first | exact BindsTo.of_eq rfl | exact binds_K (by k_in) rfl (by k_is) rfl rfl rfl); (case c5 => decide); (case kB => exact locs rfl); (case c2 => exact rfl); (case c3 => exact rfl); (case c4 => exact rfl); k_whole; intro g' L' h' FG' F' N' B' X' T'; (try dsimp only); (try k_lift B'); (try k_fold))
  have hnd0 := hnd
  replace hnd := ndA_iff.mpr hnd
  (refine an2 hnd fun q0_ z0_ => an9 q0_ fun n0_1 n0_2 n0_3 n0_4 _ n0_6 n0_7 n0_8 n0_9 => an2 z0_ fun q1_ z1_ => an8 q1_ fun n1_2 n1_3 n1_4 n1_5 n1_6 n1_7 n1_8 n1_9 => an2 z1_ fun q2_ z2_ => an7 q2_ fun n2_3 n2_4 n2_5 n2_6 n2_7 n2_8 n2_9 => an2 z2_ fun q3_ z3_ => an6 q3_ fun n3_4 n3_5 n3_6 n3_7 n3_8 n3_9 => an2 z3_ fun q4_ z4_ => an5 q4_ fun n4_5 n4_6 n4_7 n4_8 n4_9 => an2 z4_ fun q5_ z5_ => an4 q5_ fun n5_6 n5_7 _ n5_9 => an2 z5_ fun q6_ z6_ => an3 q6_ fun n6_7 n6_8 n6_9 => an2 z6_ fun q7_ n8_9 => an2 q7_ fun n7_8 n7_9 => ?_; clear q0_ z0_ q1_ z1_ q2_ z2_ q3_ z3_ q4_ z4_ q5_ z5_ q6_ z6_ q7_)
  have t1 : ∀ p ∈ tl, p.1 ≠ wd := hndt _ (by k_data)
  have t2 : ∀ p ∈ tl, p.1 ≠ c.dns := hndt _ (by k_data)
  have t3 : ∀ p ∈ tl, p.1 ≠ c.pm := hndt _ (by k_data)
  have t4 : ∀ p ∈ tl, p.1 ≠ top := hndt _ (by k_data)
  have t6 : ∀ p ∈ tl, p.1 ≠ c.nss := hndt _ (by k_data)
  have t7 : ∀ p ∈ tl, p.1 ≠ c.ps := hndt _ (by k_data)
  have t9 : ∀ p ∈ tl, p.1 ≠ pg := hndt _ (by k_data)
  show wpAny (model PR w) ((ktrTop dp un gd cn cs L a ccd cl outer).deeper (endE L')) (execs (endB.1.drop 0) (endE L')) _ _ _
  refine execs_at 0 (by decide) ?_
  refine e_ign w p loose mean mg mb base dp un gd cn cs a ccd cl outer g' L L' _ _ _ _ c wr wd _ B' F' X' N' T' (by k_room) (by k_room) hB rfl ?_
  intro h1 tk1 F1 N1
  have N1b : News g' L' h1 ((wr, instObj 150 wd) :: (wd, wDict w c) :: (c.da, listOf #[] na) :: (c.dns, listOf (dl ++ [Value.ref top]).toArray nd) :: (c.pm, opm) :: (top, listOf tv nt) :: (c.nss, listOf (nl ++ [xn]).toArray nn) :: (c.ps, listOf (pl ++ [xp]).toArray pn) :: (c.bm, bmO pg) :: (pg, listOf pgv pgn) :: tl) := fun p hp => N1 p (by
    revert p
    k_data)
  refine execs_at 1 (by decide) ?_
  refine e_data w p loose mean mg mb base dp un gd cn cs a ccd cl outer g' L L' _ _ _ _ c wr wd na _ B' F1 X' N1b T' (by k_room) (by k_room) hB rfl ?_
  intro h2 tk2 F2 N2
  have N2b : News g' L' h2 ((wr, instObj 150 wd) :: (wd, wDict w c) :: (c.dns, listOf (dl ++ [Value.ref top]).toArray nd) :: (c.pm, opm) :: (top, listOf tv nt) :: (c.bm, bmO pg) :: (pg, listOf pgv pgn) :: (c.da, listOf #[] na) :: (c.nss, listOf (nl ++ [xn]).toArray nn) :: (c.ps, listOf (pl ++ [xp]).toArray pn) :: tl) := fun p hp => N2 p (by
    revert p
    k_data)
  have hwsA : WS w c top scs tv (dl ++ [Value.ref top]).toArray opm ((c.da, listOf #[] na) :: (c.nss, listOf (nl ++ [xn]).toArray nn) :: (c.ps, listOf (pl ++ [xp]).toArray pn) :: tl) known tw lw := hws.mono (fun q hq => .tail _ (.tail _ (.tail _ hq))) (fmc n4_5.symm (fmc n4_6.symm (fmc n4_7.symm t4))) (fmc n3_5.symm (fmc n3_6.symm (fmc n3_7.symm t3)))
  have ndW : ([wr, wd, c.dns, c.pm, top, c.bm, pg] : List Nat).Nodup := by
    refine ndA_iff.mp ?_
    exact ⟨⟨n0_1, n0_2, n0_3, n0_4, n0_8, n0_9⟩, anI5 ⟨n1_2, n1_3, n1_4, n1_8, n1_9⟩ ⟨n2_3, n2_4, n2_8, n2_9⟩ ⟨n3_4, n3_8, n3_9⟩ ⟨n4_8, n4_9⟩ n8_9⟩
  refine execs_at 2 (by decide) ?_
  refine e_write w p loose mean mg mb base dp un gd cn cs a ccd cl outer g' L L' _ _ _ _ c wr wd top pg scs (dl ++ [Value.ref top]).toArray tv pgv nd nt pgn opm u tg tt known tw lw _ B' F2 X' N2b T' (by k_room) (by k_room) hB rfl rfl hwsA hu htg hkl hp1 ndW (fmc (fmc n4_5.symm (fmc n4_6.symm (fmc n4_7.symm t4))) (fmc (fmc n3_5.symm (fmc n3_6.symm (fmc n3_7.symm t3))) (fmc (fmc n5_9 (fmc n6_9 (fmc n7_9 t9))) (fun _ h => nomatch h)))) ?_
  intro h3 tk3 t3 opm' pgn' gens3 hkv hB3 F3 N3
  have N3b : News g' L' h3 ((wr, instObj 150 wd) :: (wd, wDict w c) :: (c.ps, listOf (pl ++ [xp]).toArray pn) :: (c.dns, listOf (dl ++ [Value.ref top]).toArray nd) :: (c.pm, opm') :: (c.da, listOf #[] na) :: (c.nss, listOf (nl ++ [xn]).toArray nn) :: (c.bm, bmO pg) :: (pg, listOf (pgv.push (.str (Str.empty ++ Str.ofString "</" ++ pnm (nmK known u) tg ++ Str.ofString ">") t3)) pgn') :: tl) := fun p hp => N3 p (by
    revert p
    k_data)
  refine execs_at 3 (by decide) ?_
  refine e_pres w p loose mean mg mb base dp un gd cn cs a ccd cl outer g' L L' _ _ _ _ c wr wd pl xp pn _ B' F3 X' N3b T' (by k_room) (by k_room) hB3 rfl hpl n0_7 n1_7 (fmc n2_7 (fmc n3_7 (fmc n5_7 (fmc n6_7 (fmc n7_8.symm (fmc n7_9.symm t7)))))) ?_
  intro h4 tkh4 pn4 F4 N4
  have N4b : News g' L' h4 ((wr, instObj 150 wd) :: (wd, wDict w c) :: (c.ps, listOf pl.toArray pn4) :: (c.dns, listOf (dl ++ [Value.ref top]).toArray nd) :: (c.pm, opm') :: (c.da, listOf #[] na) :: (c.nss, listOf (nl ++ [xn]).toArray nn) :: (c.bm, bmO pg) :: (pg, listOf (pgv.push (.str (Str.empty ++ Str.ofString "</" ++ pnm (nmK known u) tg ++ Str.ofString ">") t3)) pgn') :: tl) := fun p hp => N4 p (by
    revert p
    k_data)
  refine execs_at 4 (by decide) ?_
  refine e_done w p loose mean mg mb base dp un gd cn cs a ccd cl outer g' L L' _ _ _ _ c wr wd pl.toArray pn4 _ B' F4 X' N4b T' (by k_room) (by k_room) hB3 rfl (by rw [List.size_toArray]; exact hpl) n0_1 n1_7.symm (fmc n1_2.symm (fmc n1_3.symm (fmc n1_5.symm (fmc n1_6.symm (fmc n1_8.symm (fmc n1_9.symm t1)))))) ?_
  intro h5 tk5 bb F5 N5
  have N5b : News g' L' h5 ((wr, instObj 150 wd) :: (wd, wDict w { c with rd := bb }) :: (c.dns, listOf (dl ++ [Value.ref top]).toArray nd) :: (c.pm, opm') :: (c.da, listOf #[] na) :: (c.nss, listOf (nl ++ [xn]).toArray nn) :: (c.ps, listOf pl.toArray pn4) :: (c.bm, bmO pg) :: (pg, listOf (pgv.push (.str (Str.empty ++ Str.ofString "</" ++ pnm (nmK known u) tg ++ Str.ofString ">") t3)) pgn') :: tl) := fun p hp => N5 p (by
    revert p
    k_data)
  refine execs_at 5 (by decide) ?_
  refine e_dns w p loose mean mg mb base dp un gd cn cs a ccd cl outer g' L L' _ _ _ _ { c with rd := bb } wr wd dl (.ref top) nd _ B' F5 X' N5b T' (by k_room) (by k_room) hB3 rfl hdl n0_2 n1_2 (fmc n2_3.symm (fmc n2_5.symm (fmc n2_6.symm (fmc n2_7.symm (fmc n2_8.symm (fmc n2_9.symm t2)))))) ?_
  intro h6 tkh6 nd6 F6 N6
  have N6b : News g' L' h6 ((wr, instObj 150 wd) :: (wd, wDict w { c with rd := bb }) :: (c.nss, listOf (nl ++ [xn]).toArray nn) :: (c.dns, listOf dl.toArray nd6) :: (c.pm, opm') :: (c.da, listOf #[] na) :: (c.ps, listOf pl.toArray pn4) :: (c.bm, bmO pg) :: (pg, listOf (pgv.push (.str (Str.empty ++ Str.ofString "</" ++ pnm (nmK known u) tg ++ Str.ofString ">") t3)) pgn') :: tl) := fun p hp => N6 p (by
    revert p
    k_data)
  refine execs_at 6 (by decide) ?_
  refine e_nss w p loose mean mg mb base dp un gd cn cs a ccd cl outer g' L L' _ _ _ _ { c with rd := bb } wr wd nl xn nn _ B' F6 X' N6b T' (by k_room) (by k_room) hB3 rfl hnl n0_6 n1_6 (fmc n2_6 (fmc n3_6 (fmc n5_6 (fmc n6_7.symm (fmc n6_8.symm (fmc n6_9.symm t6)))))) ?_
  intro h7 tkh7 nn7 F7 N7
  refine execs_end 7 (by decide) ?_
  try dsimp only
  k_steps
  rename News h₀ L _ _ => kN
  rename Fr h₀ L _ m => kF
  refine hret opm' nd6 nn7 pn4 pgn' t3 bb h7 _ gens3 hkv hB3 kF (fun p hp => kN p ?_)
  revert p
  k_data
end
section
theorem init_ (A₀ : Around) (h₀ : Heap) (L : Addr) (m : Str → Option Value) (s : Shared) (Q E : Value → Shared → Prop)
   (bm pg : Addr) (tl : List (Addr × Obj))
   (B : Below A₀ base outer h₀) (F : Fr h₀ L s.heap m) (X : (hd.heap_39 w.params).In h₀) (N : News h₀ L s.heap ((bm, bmO pg) :: tl))
   (T : Top p loose mean mg mb h₀) (hcs : cs.kind = .function) (hdp : dp + 100 < recursionLimit) (hun : un + 1000 < cLine) (hB : AllBare s.gens)
   (hret : ∀ (c : WC) (wr wd a0 t0 b0 : Addr) (opm : Obj) (na nd nn pn n0 nb : Nat) (u1 u2 : Tok) (h' : Heap) (tk : Nat), c.bm = bm → Obj.IsDictOf (PySem.strKind PR w) opm [] → (c.pm == sysModules) = false → ([wr, wd, c.dns, c.pm, c.da, c.nss, c.ps, a0, t0, b0] : List Nat).Nodup → (∀ k ∈ ([wr, wd, c.dns, c.pm, c.da, c.nss, c.ps, a0, t0, b0] : List Nat), ∀ q ∈ (bm, bmO pg) :: tl, q.1 < k) → Fr h₀ L h' m →
     News h₀ L h' ((wr, instObj 150 wd) :: (wd, wDict w c) :: (c.dns, listOf #[.ref a0] nd) :: (c.pm, opm) :: (c.da, listOf #[] na) :: (c.nss, listOf #[.ref b0] nn) :: (c.ps, listOf #[.bool false] pn) :: (a0, listOf #[.ref t0] n0) :: (t0, tup2 xmlU u1 xmlP u2) :: (b0, listOf #[] nb) :: (bm, bmO pg) :: tl) → Q (.ref wr) { s with heap := h', toks := tk }) :
   wpAny (model PR w) (ktrTop dp un gd cn cs L a ccd cl outer) (call (.ref 150) [.ref bm] [(Str.ofString "rewrite_prefixes", .bool true)]) Q E s := by
  k_dflt (refine' call_cls ?k1 ?k2 ?k3 ?k4 ?k5 ?k6 ?_; (case k1 => k_asm); (case k2 => k_asm); (case k3 => k_asm); (case k4 => k_is); (case k5 => k_is); (case k6 => k_is); k_whole; intro x' d' h' F1 N1 l1 l2; (try k_lt l1); (try k_lt2 l2))
  k_dflt (refine' code_def (binds := [(Str.ofString "self", .ref x'), (Str.ofString "write", .ref bm), (Str.ofString "with_comments", .bool false), (Str.ofString "strip_text", .bool false), (Str.ofString "rewrite_prefixes", .bool true), (Str.ofString "qname_aware_tags", .none), (Str.ofString "qname_aware_attrs", .none), (Str.ofString "exclude_attrs", .none), (Str.ofString "exclude_tags", .none)]) B F1 X N1 T ?kA ?kF ?kK ?k6 ?k7 ?k8 ?k9 ?kB ?_ ?c2 ?c3 ?c4 ?c5; (case kA => exact rfl); (case kF => exact rfl); (case kK => first | exact rfl | assumption); (case k6 => k_is); (case k7 => k_is); (case k8 => k_room); (case k9 => (refine' kp_binds ?kx ?ke; (case kx => k_in); (case ke => exact fun _ => rfl))); (case c5 => decide); (case kB => exact locs rfl); (case c2 => exact rfl); (case c3 => exact rfl); (case c4 => exact rfl); k_whole; intro g' L' h2 FG' F' N' B' X' T'; (try dsimp only); (try k_lift B'); (try k_fold))
  k_steps
  rename News h₀ L _ _ => kN
  rename Fr h₀ L _ m => kF
  refine' hret ⟨bm, _, _, _, _, _, false, false, _, _, _, _, _, _, _, _, _, _, _, _, _, _, _, _, _, _, 17⟩ x' d' _ _ _ _ _ _ _ _ _ _ _ _ _ _ rfl ?d ?sy ?nd ?lt kF ?N
  case N => exact (newsC kN (by k_mem) (newsC kN (by k_mem) (newsC kN (by k_mem) (newsC kN (by k_mem) (newsC kN (by k_mem) (newsC kN (by k_mem) (newsC kN (by k_mem) (newsC kN (by k_mem) (newsC kN (by k_mem) (newsC kN (by k_mem) (newsC kN (by k_mem) (fun p hp => kN p (by k_data)))))))))))))
  case d => assumption
  case sy => assumption
  case nd =>
    refine ndA_iff.mp ?_
    and_intros <;> first | exact Nat.ne_of_lt (by assumption) | exact Nat.ne_of_gt (by assumption)
  case lt =>
    have hb1 : @LT.lt Nat _ bm x' := Nat.lt_trans (show @LT.lt Nat _ bm d' by assumption) l2
    have hb2 : ∀ p ∈ tl, @LT.lt Nat _ p.1 x' := fun p hp => Nat.lt_trans (allLt_mem l1 p hp) l2
    intro k hk q hq
    simp only [List.mem_cons, List.not_mem_nil, or_false] at hk
    rcases hk with h | h | h | h | h | h | h | h | h | h <;> (rw [h]; rcases List.mem_cons.mp hq with h2 | h2; (rw [h2]; first | exact hb1 | assumption); first | exact hb2 q h2 | exact allLt_mem (by assumption) q h2)
end
section
noncomputable def tS : Str := Str.ofString "t"
noncomputable def lamPos : Pos := ⟨135, 71, 135, 96⟩
/-- objects that must stay wherever they lie -/
noncomputable def Ess (o : Obj) : Prop := o.cls = .type "tuple" ∨ ∃ vs t, o.data = .fields vs ∧ vs[1]? = some (.str lamQ t)
@[reducible] noncomputable def NeT (a : Nat) : List Nat → List Nat → Prop
  | [], t => a ∉ t
  | b :: l, t => a ≠ b ∧ NeT a l t
@[reducible] noncomputable def NdT : List Nat → List Nat → Prop
  | [], t => t.Nodup
  | a :: l, t => NeT a l t ∧ NdT l t
theorem neT_iff {a : Nat} {t : List Nat} : ∀ {l : List Nat}, NeT a l t ↔ a ∉ l ++ t
  | [] => Iff.rfl
  | b :: l => by
    show (a ≠ b ∧ NeT a l t) ↔ a ∉ b :: (l ++ t)
    rw [neT_iff, List.mem_cons, not_or]
theorem ndT_iff {t : List Nat} : ∀ {l : List Nat}, NdT l t ↔ (l ++ t).Nodup
  | [] => Iff.rfl
  | a :: l => by
    show (NeT a l t ∧ NdT l t) ↔ (a :: (l ++ t)).Nodup
    rw [ndT_iff, neT_iff, List.nodup_cons]
noncomputable def tkeys (wr wd : Addr) (c : WC) (tb pg a0 : Addr) (sc : List (Addr × Array Value)) : List Nat := [wr, wd, c.dns, c.pm, tb, c.da, c.nss, c.ps, c.bm, pg, a0] ++ sc.map (·.1)
/-- the open name spaces, the newest first -/
noncomputable def ScsAt (tl : List (Addr × Obj)) (known : List Str) (sc : List (Addr × Array Value)) (st : List (Str × List Str)) : Prop := A2 (fun p e => (∃ n, (p.1, listOf p.2 n) ∈ tl) ∧ PairsAt tl p.2.toList (pairsOf known e.2)) sc st
theorem ScsAt.len {tl : List (Addr × Obj)} {known : List Str} {sc st} (k : ScsAt tl known sc st) : sc.length = st.length := A2.len k
theorem ScsAt.flat {tl : List (Addr × Obj)} {known : List Str} {sc st} (k : ScsAt tl known sc st) : PairsAt tl (sc.flatMap fun p => p.2.toList) (pairsOf known (st.flatMap (·.2))) :=
  A2.ind (P := fun (sc : List (Addr × Array Value)) (st : List (Str × List Str)) => PairsAt tl (sc.flatMap fun p => p.2.toList) (pairsOf known (st.flatMap (·.2)))) trivial (fun p e ps es r _ ih => by
    rw [List.flatMap_cons, List.flatMap_cons]
    unfold pairsOf
    rw [List.map_append]
    exact PairsAt.app r.2 ih) k
theorem ScsAt.low {tl : List (Addr × Obj)} {known : List Str} {sc st} (k : ScsAt tl known sc st) : ∀ p ∈ sc, ∃ n, (p.1, listOf p.2 n) ∈ tl :=
  A2.ind (P := fun (sc : List (Addr × Array Value)) (_ : List (Str × List Str)) => ∀ p ∈ sc, ∃ n, (p.1, listOf p.2 n) ∈ tl) (fun _ h => nomatch h) (fun _ _ _ _ r _ ih => fmc r.1 ih) k
theorem ScsAt.size {tl : List (Addr × Obj)} {known : List Str} {K : Nat} {sc st} (k : ScsAt tl known sc st) : (∀ e ∈ st, (e : Str × List Str).2.length ≤ K) → ∀ p ∈ sc, p.2.size ≤ K :=
  A2.ind (P := fun (sc : List (Addr × Array Value)) (st : List (Str × List Str)) => (∀ e ∈ st, (e : Str × List Str).2.length ≤ K) → ∀ p ∈ sc, p.2.size ≤ K) (fun _ _ h => nomatch h) (fun p e _ _ r _ ih hk => fmc (by
    have := r.2.len
    rw [Array.length_toList] at this
    unfold pairsOf at this
    rw [List.length_map] at this
    exact this ▸ hk e (.head _)) (ih fun e he => hk e (.tail _ he))) k
theorem ScsAt.keep {tl tl' : List (Addr × Obj)} {known known' : List Str} (hn : ∀ x ∈ known, nmK known' x = nmK known x) (ht : ∀ a u t1 p t2, (a, tup2 u t1 p t2) ∈ tl → (a, tup2 u t1 p t2) ∈ tl') {sc st} (k : ScsAt tl known sc st) : (∀ x ∈ st.flatMap (·.2), x ∈ known) → (∀ p ∈ sc, ∀ n, (p.1, listOf p.2 n) ∈ tl → (p.1, listOf p.2 n) ∈ tl') → ScsAt tl' known' sc st :=
  A2.ind (P := fun (sc : List (Addr × Array Value)) (st : List (Str × List Str)) => (∀ x ∈ st.flatMap (·.2), x ∈ known) → (∀ p ∈ sc, ∀ n, (p.1, listOf p.2 n) ∈ tl → (p.1, listOf p.2 n) ∈ tl') → ScsAt tl' known' sc st) (fun _ _ => trivial) (fun p e ps es r _ ih hs hl => by
    rw [List.flatMap_cons] at hs
    refine ⟨⟨ex1 r.1 fun n a => ⟨n, hl p (.head _) n a⟩, ?_⟩, ih (fun x hx => hs x (List.mem_append_right _ hx)) fun q hq => hl q (.tail _ hq)⟩
    have e : pairsOf known' e.2 = pairsOf known e.2 := List.map_congr_left fun x hx => by rw [hn x (hs x (List.mem_append_left _ hx))]
    rw [e]
    exact r.2.shrink ht) k
noncomputable def TagsOk : List (Str × List Str) → Prop
  | [] => True
  | e :: r => e.1 ∈ e.2 ++ r.flatMap (·.2) ∧ TagsOk r
/-- the writer, told so far -/
structure TS (w : World) (wr wd tb pg a0 : Addr) (c : WC) (sc : List (Addr × Array Value)) (tv0 : Array Value) (opm : Obj) (ps : Array Value) (nsl pgl : List Value) (known : List Str) (st : List (Str × List Str)) (pcs : List Str) (tl : List (Addr × Obj)) : Prop where
  m1 : (wr, instObj 150 wd) ∈ tl
  m2 : (wd, wDict w c) ∈ tl
  m3 : ∃ n, (c.dns, listOf ((sc.map fun p => Value.ref p.1) ++ [Value.ref a0]).reverse.toArray n) ∈ tl
  m4 : (c.pm, opm) ∈ tl
  m5 : (tb, tabObj ps) ∈ tl
  m6 : ∃ n, (c.da, listOf #[] n) ∈ tl
  m7 : ∃ n, (c.nss, listOf nsl.toArray n) ∈ tl
  m8 : ∃ n, (c.ps, listOf (List.replicate (st.length + 1) (Value.bool false)).toArray n) ∈ tl
  m9 : (c.bm, bmO pg) ∈ tl
  m10 : ∃ n, (pg, listOf pgl.toArray n) ∈ tl
  m12 : ∃ n, (a0, listOf tv0 n) ∈ tl
  base : PairsAt tl tv0.toList [(xmlU, xmlP)]
  scs : ScsAt tl known sc st
  lam : LamTab lamQ lamPos tl ps
  kv : ∃ kvs, Obj.IsDictOf (PySem.strKind PR w) opm kvs ∧ KvAt 0 kvs known
  pm_ok : (c.pm == sysModules) = false
  nsn : nsl.length = st.length + 1
  pgS : StrsAre pgl pcs
  ndw : (st.flatMap (·.2)).Nodup
  sub : ∀ x ∈ st.flatMap (·.2), x ∈ known
  wds : ∀ x ∈ known, x ∈ words
  kl : known.length ≤ 25
  pl : pcs.length ≤ 800
  dl : st.length ≤ 100
  tags : TagsOk st
  nda : (tkeys wr wd c tb pg a0 sc).Nodup
section
variable {w : World} {wr wd tb pg a0 : Addr} {c : WC} {sc : List (Addr × Array Value)} {tv0 : Array Value} {opm : Obj} {ps : Array Value} {nsl pgl : List Value} {known : List Str} {st : List (Str × List Str)} {pcs : List Str} {tl tl' : List (Addr × Obj)}
theorem ess_tup (u : Str) (t1 : Tok) (p : Str) (t2 : Tok) : Ess (tup2 u t1 p t2) := .inl rfl
theorem lam_keep {ps : Array Value} (h : ∀ a o, (a, o) ∈ tl → Ess o → (a, o) ∈ tl') (x : LamTab lamQ lamPos tl ps) : LamTab lamQ lamPos tl' ps := by
  rcases x with e | ⟨c', oc, vs, t, e, hm, hd, hv⟩
  · exact .inl e
  · exact .inr ⟨c', oc, vs, t, e, h _ _ hm (.inr ⟨vs, t, hd, hv⟩), hd, hv⟩
theorem TS.keep (x : TS w wr wd tb pg a0 c sc tv0 opm ps nsl pgl known st pcs tl) (h : ∀ a o, (a, o) ∈ tl → a ∈ tkeys wr wd c tb pg a0 sc ∨ Ess o → (a, o) ∈ tl') : TS w wr wd tb pg a0 c sc tv0 opm ps nsl pgl known st pcs tl' := by
  have k : ∀ {a o}, (a, o) ∈ tl → a ∈ ([wr, wd, c.dns, c.pm, tb, c.da, c.nss, c.ps, c.bm, pg, a0] : List Nat) → (a, o) ∈ tl' := fun hm hk => h _ _ hm (.inl (List.mem_append_left _ hk))
  have ht : ∀ a u t1 p t2, (a, tup2 u t1 p t2) ∈ tl → (a, tup2 u t1 p t2) ∈ tl' := fun a u t1 p t2 hm => h _ _ hm (.inr (ess_tup _ _ _ _))
  exact ⟨k x.m1 (by k_data), k x.m2 (by k_data), x.m3.imp fun _ z => k z (by k_data), k x.m4 (by k_data), k x.m5 (by k_data), x.m6.imp fun _ z => k z (by k_data), x.m7.imp fun _ z => k z (by k_data), x.m8.imp fun _ z => k z (by k_data), k x.m9 (by k_data), x.m10.imp fun _ z => k z (by k_data), x.m12.imp fun _ z => k z (by k_data), x.base.shrink ht,
    x.scs.keep (fun _ _ => rfl) ht x.sub (fun p hp n hm => h _ _ hm (.inl (List.mem_append_right _ (List.mem_map_of_mem hp)))), lam_keep (fun a o hm he => h a o hm (.inr he)) x.lam, x.kv, x.pm_ok, x.nsn, x.pgS, x.ndw, x.sub, x.wds, x.kl, x.pl, x.dl, x.tags, x.nda⟩
end
noncomputable def offL (ks : List Nat) (tl : List (Addr × Obj)) : List (Addr × Obj) := tl.filter fun p => decide (p.1 ∉ ks)
theorem offL_mem {ks : List Nat} {tl : List (Addr × Obj)} {q : Addr × Obj} (h : q ∈ tl) (hk : q.1 ∉ ks) : q ∈ offL ks tl := List.mem_filter.mpr ⟨h, decide_eq_true hk⟩
theorem offL_sub {ks : List Nat} {tl : List (Addr × Obj)} {q : Addr × Obj} (h : q ∈ offL ks tl) : q ∈ tl := (List.mem_filter.mp h).1
theorem offL_not {ks : List Nat} {tl : List (Addr × Obj)} {q : Addr × Obj} (h : q ∈ offL ks tl) : q.1 ∉ ks := of_decide_eq_true (List.mem_filter.mp h).2
theorem news_one {h₀ h : Heap} {L : Addr} {l : List (Addr × Obj)} (N : News h₀ L h l) {a : Addr} {o o' : Obj} (h1 : (a, o) ∈ l) (h2 : (a, o') ∈ l) : o = o' := by
  have z1 := (N (a, o) h1).1
  have z2 := (N (a, o') h2).1
  rw [show h.get? a = some o from z1] at z2
  injection z2
theorem flat_rev {a0 : Addr} {tv0 : Array Value} (sc : List (Addr × Array Value)) : flatOf ((a0, tv0) :: sc.reverse) ((a0, tv0) :: sc.reverse).length = (sc.flatMap fun p => p.2.toList) ++ tv0.toList := by
  unfold flatOf
  rw [List.take_length, List.reverse_cons, List.reverse_reverse, List.flatMap_append]
  simp
end
section
noncomputable def endS_ (known : List Str) (u : Str) : Str := Str.empty ++ Str.ofString "</" ++ pnm (nmK known u) tS ++ Str.ofString ">"
theorem sb2 {α} {q : α} {l r : List α} (h : q ∈ l) (k : ∀ z ∈ l, z ∈ r) : q ∈ r := k q h
theorem snoc_of {α : Type} {l : List α} {n : Nat} (h : l.length = n + 1) : ∃ p y, l = p ++ [y] ∧ p.length = n := by
  have hne : l ≠ [] := by rintro rfl; simp at h
  refine exI2 l.dropLast (l.getLast hne) ⟨(List.dropLast_concat_getLast hne).symm, ?_⟩
  simp [h]
theorem strsAre_app1 {y : Str} {t : Tok} {vs : List Value} {ys : List Str} (h : StrsAre vs ys) : StrsAre (vs ++ [.str y t]) (ys ++ [y]) := strsAre_snoc h
theorem strs_len {vs : List Value} {ys : List Str} (h : StrsAre vs ys) : vs.length = ys.length := by
  induction h with
  | nil => rfl
  | cons _ _ _ ih => simp [ih]
theorem nodup_part {α β : Type} {f : α → List β} : ∀ {l : List α}, (l.flatMap f).Nodup → ∀ {e : α}, e ∈ l → (f e).Nodup
  | [], _, _, h => nomatch h
  | a :: l, hn, e, h => by
    rw [List.flatMap_cons] at hn
    rcases List.mem_cons.mp h with rfl | h
    · exact (List.nodup_append.mp hn).1
    · exact nodup_part (List.nodup_append.mp hn).2.1 h
theorem ess_list {v : Array Value} {n : Nat} : ¬ Ess (listOf v n) := by
  rintro (h | ⟨vs, t, h, _⟩)
  · exact absurd h (show ¬ (Value.type "list" = Value.type "tuple") by decide)
  · cases h
theorem ess_inst {a b : Addr} : ¬ Ess (instObj a b) := by
  rintro (h | ⟨vs, t, h, _⟩)
  · cases h
  · cases h
theorem ess_wdict {w : World} {c : WC} : ¬ Ess (wDict w c) := by
  rintro (h | ⟨vs, t, h, _⟩)
  · exact absurd h (show ¬ (Value.type "dict" = Value.type "tuple") by decide)
  · cases h
theorem ess_bm {pg : Addr} : ¬ Ess (bmO pg) := by
  rintro (h | ⟨vs, t, h, h2⟩)
  · exact absurd h (show ¬ (Value.type "builtin_function_or_method" = Value.type "tuple") by decide)
  · injection h with h; rw [← h] at h2; simp at h2
theorem ess_dict {w : World} {o : Obj} {kvs : List (Str × Value)} (hd : Obj.IsDictOf (PySem.strKind PR w) o kvs) : ¬ Ess o := by
  (refine e2a3 hd fun es ep he hdt _ => ?_; try clear hd)
  rintro (h | ⟨vs, t, h, _⟩)
  · rw [he.1] at h; exact absurd h (by decide)
  · rw [hdt] at h; cases h
theorem t_end (A₀ : Around) (h₀ : Heap) (L : Addr) (m : Str → Option Value) (s : Shared) (Q E : Value → Shared → Prop)
   (wr wd tb pg a0 : Addr) (c : WC) (sc : List (Addr × Array Value)) (tv0 : Array Value) (opm : Obj) (ps : Array Value) (nsl pgl : List Value) (known : List Str) (u : Str) (tws : List Str) (st : List (Str × List Str)) (pcs : List Str) (tl : List (Addr × Obj)) (t : Tok)
   (B : Below A₀ base outer h₀) (F : Fr h₀ L s.heap m) (X : (hd.heap_39 w.params).In h₀) (N : News h₀ L s.heap tl) (T : Top p loose mean mg mb h₀) (hcs : cs.kind = .function) (hdp : dp + 150 < recursionLimit) (hun : un + 1500 < cLine) (hB : AllBare s.gens)
   (ts : TS w wr wd tb pg a0 c sc tv0 opm ps nsl pgl known ((u, tws) :: st) pcs tl) (hpl : pcs.length < 800)
   (h : ∀ b sc' opm' nsl' pgl' tl' h' tk gens, TS w wr wd tb pg a0 { c with rd := b } sc' tv0 opm' ps nsl' pgl' known st (pcs ++ [endS_ known u]) tl' → (∃ x, sc = x :: sc') → (∀ b o, (b, o) ∈ tl → b ∉ tkeys wr wd c tb pg a0 sc → (b, o) ∈ tl') → AllBare gens → Fr h₀ L h' m → News h₀ L h' tl' → Q .none { s with heap := h', toks := tk, gens := gens }) :
   wpAny (model PR w) (ktrTop dp un gd cn cs L a ccd cl outer) (call (.ref 133) [.ref wr, .str (qnameOf u tS) t]) Q E s := by
  obtain ⟨⟨top, tv⟩, sc1, rfl, ⟨⟨ntop, mtop⟩, htps⟩, hscs⟩ : ∃ q sc1, sc = q :: sc1 ∧ ((∃ n, (q.1, listOf q.2 n) ∈ tl) ∧ PairsAt tl q.2.toList (pairsOf known tws)) ∧ ScsAt tl known sc1 st := by
    have h := ts.scs
    match sc, h with
    | q :: sc1, h => exact exI2 q sc1 ⟨rfl, h⟩
  obtain ⟨m1, m2, ⟨nd, m3⟩, m4, m5, ⟨na, m6⟩, ⟨nn, m7⟩, ⟨pn, m8⟩, m9, ⟨pgn, m10⟩, ⟨n0, m12⟩, hbase, -, hlam, hkv, hpm, hnsn, hpgS, hndw, hsub, hwds, hkl, hpl', hdl, htags, hnda⟩ := ts
  (refine e2a2 (snoc_of hnsn) fun nl xn y3_ hnl => ?_; obtain rfl := y3_)
  rw [show List.length ((u, tws) :: st) + 1 = (st.length + 1) + 1 from rfl, List.replicate_succ'] at m8
  refine hide (((sc1.map fun p => Value.ref p.1) ++ [Value.ref a0]).reverse) fun dl hdl' => ?_
  rw [show (List.map (fun p : Addr × Array Value => Value.ref p.1) ((top, tv) :: sc1) ++ [Value.ref a0]).reverse = dl ++ [Value.ref top] by rw [hdl']; simp] at m3
  refine hide ([wr, wd, c.dns, c.pm, top, c.da, c.nss, c.ps, c.bm, pg]) fun ks hks => ?_
  have hscl := hscs.len
  -- the keys
  have hnd2 := hnda
  unfold tkeys at hnd2
  replace hnd2 := ndT_iff.mpr (show ([wr, wd, c.dns, c.pm, tb, c.da, c.nss, c.ps, c.bm, pg, a0, top] ++ sc1.map (·.1)).Nodup from hnd2)
  (refine an2 hnd2 fun q0_ z0_ => an12 q0_ fun b1 b2 b3 b4 b5 b6 b7 b8 b9 b10 b11 b12 => an2 z0_ fun q1_ z1_ => an11 q1_ fun d2 d3 d4 d5 d6 d7 d8 d9 d10 d11 d12 => an2 z1_ fun q2_ z2_ => an10 q2_ fun e3 e4 e5 e6 e7 e8 e9 e10 e11 e12 => an2 z2_ fun q3_ z3_ => an9 q3_ fun f4 f5 f6 f7 f8 f9 f10 f11 f12 => an2 z3_ fun q4_ z4_ => an8 q4_ fun g5 g6 g7 g8 g9 _ g11 _ => an2 z4_ fun q5_ z5_ => an7 q5_ fun i6 i7 i8 i9 i10 i11 i12 => an2 z5_ fun q6_ z6_ => an6 q6_ fun j7 j8 j9 j10 j11 j12 => an2 z6_ fun q7_ z7_ => an5 q7_ fun k8 k9 k10 k11 k12 => an2 z7_ fun q8_ z8_ => an4 q8_ fun l9 l10 l11 l12 => an2 z8_ fun q9_ z9_ => an3 q9_ fun o10 o11 o12 => an2 z9_ fun q10_ zl_ => an2 q10_ fun q11 _ => an2 zl_ fun r12 hsn => ?_; clear zl_ q0_ z0_ q1_ z1_ q2_ z2_ q3_ z3_ q4_ z4_ q5_ z5_ q6_ z6_ q7_ z7_ q8_ z8_ q9_ z9_ q10_)
  have hndE : ([wr, wd, c.dns, c.pm, top, c.da, c.nss, c.ps, c.bm, pg] : List Nat).Nodup := by
    refine ndA_iff.mp ?_
    exact ⟨⟨b1, b2, b3, b11, b5, b6, b7, b8, b9⟩, anI8 ⟨d2, d3, d11, d5, d6, d7, d8, d9⟩ ⟨e3, e11, e5, e6, e7, e8, e9⟩ ⟨f11, f5, f6, f7, f8, f9⟩ ⟨Ne.symm i11, Ne.symm j11, Ne.symm k11, Ne.symm l11, Ne.symm o11⟩ ⟨i6, i7, i8, i9⟩ ⟨j7, j8, j9⟩ ⟨k8, k9⟩ l9⟩
  have N1 : News h₀ L s.heap ((wr, instObj 150 wd) :: (wd, wDict w c) :: (c.dns, listOf (dl ++ [Value.ref top]).toArray nd) :: (c.pm, opm) :: (top, listOf tv ntop) :: (c.da, listOf #[] na) :: (c.nss, listOf (nl ++ [xn]).toArray nn) :: (c.ps, listOf (List.replicate (st.length + 1) (Value.bool false) ++ [Value.bool false]).toArray pn) :: (c.bm, bmO pg) :: (pg, listOf pgl.toArray pgn) :: offL ks tl) := by
    exact fmc (N _ m1) (fmc (N _ m2) (fmc (N _ m3) (fmc (N _ m4) (fmc (N _ mtop) (fmc (N _ m6) (fmc (N _ m7) (fmc (N _ m8) (fmc (N _ m9) (fmc (N _ m10) (fun q hq => N _ (offL_sub hq)))))))))))
  have keepE : ∀ b o, (b, o) ∈ tl → Ess o → (b, o) ∈ offL ks tl := by
    intro b o hm he
    refine offL_mem hm fun hk => ?_
    rw [hks] at hk
    simp only [List.mem_cons, List.not_mem_nil, or_false] at hk
    (refine e1a2 hkv fun kvs hkv1 _ => ?_; try clear hkv)
    rcases hk with rfl | rfl | rfl | rfl | rfl | rfl | rfl | rfl | rfl | rfl
    · rw [news_one N hm m1] at he; exact ess_inst he
    · rw [news_one N hm m2] at he; exact ess_wdict he
    · rw [news_one N hm m3] at he; exact ess_list he
    · rw [news_one N hm m4] at he; exact ess_dict hkv1 he
    · rw [news_one N hm mtop] at he; exact ess_list he
    · rw [news_one N hm m6] at he; exact ess_list he
    · rw [news_one N hm m7] at he; exact ess_list he
    · rw [news_one N hm m8] at he; exact ess_list he
    · rw [news_one N hm m9] at he; exact ess_bm he
    · rw [news_one N hm m10] at he; exact ess_list he
  have shr : ∀ a u t1 p t2, (a, tup2 u t1 p t2) ∈ tl → (a, tup2 u t1 p t2) ∈ offL ks tl := fun a u t1 p t2 hm => keepE _ _ hm (ess_tup _ _ _ _)
  have htwk : ∀ x ∈ tws, x ∈ known := fun x hx => hsub x (by rw [List.flatMap_cons]; exact List.mem_append_left _ hx)
  have hsub1 : ∀ x ∈ st.flatMap (·.2), x ∈ known := fun x hx => hsub x (by rw [List.flatMap_cons]; exact List.mem_append_right _ hx)
  have hnd1 : (tws ++ st.flatMap (·.2)).Nodup := by rw [List.flatMap_cons] at hndw; exact hndw
  have hszs : ∀ e ∈ st, e.2.length ≤ 25 := fun e he => Nat.le_trans (nodup_sub_len (l := e.2) (k := known) (nodup_part (List.nodup_append.mp hnd1).2.1 he) (fun x hx => hsub1 x (List.mem_flatMap.mpr ⟨e, he, hx⟩))) hkl
  have lowk : ∀ q ∈ sc1, q.1 ∉ ks := by
    have z : ∀ k ∈ ks, k ∉ sc1.map (·.1) := by
      rw [hks]
      exact fmc b12 (fmc d12 (fmc e12 (fmc f12 (fmc r12 (fmc i12 (fmc j12 (fmc k12 (fmc l12 (fmc o12 (fun _ h => nomatch h))))))))))
    exact fun q hq hk => z _ hk (List.mem_map_of_mem hq)
  have a0k : a0 ∉ ks := by
    rw [hks]
    simp only [List.mem_cons, List.not_mem_nil, or_false, not_or]
    exact ⟨Ne.symm b10, anI9 (Ne.symm d10) (Ne.symm e10) (Ne.symm f10) q11 (Ne.symm i10) (Ne.symm j10) (Ne.symm k10) (Ne.symm l10) (Ne.symm o10)⟩
  have tbk : tb ∉ ks := by
    rw [hks]
    simp only [List.mem_cons, List.not_mem_nil, or_false, not_or]
    exact ⟨Ne.symm b4, anI9 (Ne.symm d4) (Ne.symm e4) (Ne.symm f4) g11 g5 g6 g7 g8 g9⟩
  have hws : WS w c top ((a0, tv0) :: sc1.reverse) tv (dl ++ [Value.ref top]).toArray opm (offL ks tl) known tws (st.flatMap (·.2)) := by
    refine ⟨?_, ?_, ?_, htps.shrink shr, ?_, hnd1, fun x hx => ?_, hwds, Nat.lt_of_le_of_lt hkl (by decide), hkv, fun q hq e => ?_, fun q hq e => ?_, hpm⟩
    · rw [hdl']; simp
    · intro q hq
      rcases List.mem_cons.mp hq with rfl | hq
      · exact ⟨n0, offL_mem m12 a0k⟩
      · have hq' := List.mem_reverse.mp hq
        (refine ex1 (hscs.low q hq') fun n hn => ?_)
        exact ⟨n, offL_mem hn (lowk q hq')⟩
    · intro q hq
      rcases List.mem_cons.mp hq with rfl | hq
      · have := hbase.len
        rw [Array.length_toList] at this
        show tv0.size < 100
        rw [this]; decide
      · exact Nat.lt_of_le_of_lt (hscs.size hszs q (List.mem_reverse.mp hq)) (by decide)
    · rw [flat_rev]
      exact (hscs.flat.app hbase).shrink shr
    · rcases List.mem_append.mp hx with hx | hx
      · exact htwk x hx
      · exact hsub1 x hx
    · exact offL_not hq (by rw [hks, e]; simp)
    · exact offL_not hq (by rw [hks, e]; simp)
  have hut : u ∈ tws ++ st.flatMap (·.2) := htags.1
  have hpgl : pgl.toArray.size ≤ 1000 := by
    have := strs_len hpgS
    rw [List.size_toArray]; k_room
  refine end_ w p loose mean mg mb base _ _ _ _ _ _ _ _ _ _ _ _ _ _ _ _ c wr wd top pg u tS t ((a0, tv0) :: sc1.reverse) dl nl (List.replicate (st.length + 1) (Value.bool false)) xn (Value.bool false) tv pgl.toArray nd ntop na nn pn pgn opm (offL ks tl) known tws (st.flatMap (·.2)) B F X N1 T hcs (by k_room) (by k_room) hB hws hut (by decide) (by k_room) ?_ (by k_room) ?_ hpgl hndE (fun d hd q hq e => offL_not hq (by rw [hks, e]; exact hd)) ?_
  · rw [hdl', List.length_reverse, List.length_append, List.length_map, hscl]; simp only [List.length_cons, List.length_nil] at hdl ⊢; k_room
  · rw [List.length_replicate]; simp only [List.length_cons] at hdl; k_room
  intro opm' nd' nn' pn' pgn' t' b h' tk gens hkv' hB' F' N'
  refine h b sc1 opm' nl (pgl ++ [.str (endS_ known u) t']) _ h' tk gens ?_ ⟨_, rfl⟩ ?_ hB' F' N'
  · have e10 : pgl.toArray.push (Value.str (endS_ known u) t') = (pgl ++ [Value.str (endS_ known u) t']).toArray := by simp
    refine ⟨by k_data, by k_data, ⟨nd', by rw [← hdl']; k_data⟩, by k_data, .tail _ (.tail _ (.tail _ (.tail _ (.tail _ (.tail _ (.tail _ (.tail _ (.tail _ (offL_mem m5 tbk))))))))), ⟨na, by k_data⟩, ⟨nn', by k_data⟩, ⟨pn', by k_data⟩, by k_data, ⟨pgn', by rw [← e10]; exact .tail _ (.tail _ (.tail _ (.tail _ (.tail _ (.tail _ (.tail _ (.tail _ (.head _))))))))⟩,
      ⟨n0, .tail _ (.tail _ (.tail _ (.tail _ (.tail _ (.tail _ (.tail _ (.tail _ (.tail _ (offL_mem m12 a0k)))))))))⟩, (hbase.shrink shr).mono fun _ h => .tail _ (.tail _ (.tail _ (.tail _ (.tail _ (.tail _ (.tail _ (.tail _ (.tail _ h)))))))), ?_, ?_, hkv', hpm, hnl, strsAre_app1 hpgS, (List.nodup_append.mp hnd1).2.1, hsub1, hwds, hkl, ?_, ?_, htags.2, ?_⟩
    · refine hscs.keep (fun _ _ => rfl) (fun a u t1 p t2 hm => .tail _ (.tail _ (.tail _ (.tail _ (.tail _ (.tail _ (.tail _ (.tail _ (.tail _ (shr a u t1 p t2 hm)))))))))) hsub1 (fun q hq n hm => .tail _ (.tail _ (.tail _ (.tail _ (.tail _ (.tail _ (.tail _ (.tail _ (.tail _ (offL_mem hm (lowk q hq)))))))))))
    · exact lam_keep (fun a o hm he => .tail _ (.tail _ (.tail _ (.tail _ (.tail _ (.tail _ (.tail _ (.tail _ (.tail _ (keepE a o hm he)))))))))) hlam
    · rw [List.length_append]; simp only [List.length_cons, List.length_nil]; k_room
    · simp only [List.length_cons] at hdl; k_room
    · unfold tkeys at hnda ⊢
      refine hnda.sublist ?_
      refine List.Sublist.append_left ?_ _
      exact List.sublist_cons_self _ _
  · intro b o hm hk
    refine .tail _ (.tail _ (.tail _ (.tail _ (.tail _ (.tail _ (.tail _ (.tail _ (.tail _ (offL_mem hm fun hk2 => hk ?_)))))))))
    rw [hks] at hk2
    unfold tkeys
    exact sb2 hk2 (by k_data)
end
section
theorem strsAre_appL {vs vs' : List Value} {ys ys' : List Str} (h : StrsAre vs ys) (h' : StrsAre vs' ys') : StrsAre (vs ++ vs') (ys ++ ys') := by
  induction h with
  | nil => exact h'
  | cons y t _ ih => exact .cons y t ih
theorem stK_sub {x : Str} : ∀ {ns known : List Str}, x ∈ known → x ∈ stK known ns
  | [], _, h => h
  | n :: ns, known, h => stK_sub (ns := ns) (known := addK known (uOf n)) (addK_sub h)
theorem stK_nm {x : Str} : ∀ {ns known : List Str}, x ∈ known → nmK (stK known ns) x = nmK known x
  | [], _, _ => rfl
  | n :: ns, known, h => (stK_nm (ns := ns) (known := addK known (uOf n)) (addK_sub h)).trans (nmK_add h)
theorem stT_sub {x : Str} {lw : List Str} : ∀ {ns t : List Str}, x ∈ t → x ∈ stT t lw ns
  | [], _, h => h
  | n :: ns, t, h => stT_sub (ns := ns) (t := addT t lw (uOf n)) (by unfold addT; split; exact h; exact List.mem_append_left _ h)
theorem stT_has {n : Str} {lw : List Str} : ∀ {ns t : List Str}, n ∈ ns → uOf n ∈ stT t lw ns ++ lw
  | k :: ns, t, h => by
    rcases List.mem_cons.mp h with rfl | h
    · by_cases q : uOf n ∈ t ++ lw
      · rcases List.mem_append.mp q with q | q
        · exact List.mem_append_left _ (stT_sub (ns := ns) (t := addT t lw (uOf n)) (by rw [addT_in (List.mem_append_left _ q)]; exact q))
        · exact List.mem_append_right _ q
      · exact List.mem_append_left _ (stT_sub (ns := ns) (t := addT t lw (uOf n)) (by rw [addT_out q]; simp))
    · exact stT_has (ns := ns) (t := addT t lw (uOf k)) h
theorem ess_tab {tl : List (Addr × Obj)} {ps : Array Value} (x : LamTab lamQ lamPos tl ps) : ¬ Ess (tabObj ps) := by
  rintro (h | ⟨vs, t, h, h2⟩)
  · cases h
  · injection h with h
    rw [← h] at h2
    rcases x with rfl | ⟨c', oc, vs', t', rfl, _⟩
    · simp at h2
    · simp [rawInt] at h2
theorem t_start (A₀ : Around) (h₀ : Heap) (L : Addr) (m : Str → Option Value) (s : Shared) (Q E : Value → Shared → Prop)
   (wr wd tb pg a0 at_ : Addr) (c : WC) (sc : List (Addr × Array Value)) (tv0 : Array Value) (opm oat : Obj) (ps : Array Value) (nsl pgl : List Value) (known : List Str) (u k1 k2 k3 k4 v1 v2 v3 v4 : Str) (z1 z2 z3 z4 : Tok) (st : List (Str × List Str)) (pcs : List Str) (tl : List (Addr × Obj)) (t : Tok)
   (B : Below A₀ base outer h₀) (F : Fr h₀ L s.heap m) (X : (hd.heap_39 w.params).In h₀) (N : News h₀ L s.heap tl) (T : Top p loose mean mg mb h₀) (hcs : cs.kind = .function) (hdp : dp + 200 < recursionLimit) (hun : un + 2000 < cLine) (hB : AllBare s.gens)
   (ts : TS w wr wd tb pg a0 c sc tv0 opm ps nsl pgl known st pcs tl) (hu : u ∈ words) (mat : (at_, oat) ∈ tl) (atk : at_ ∉ tkeys wr wd c tb pg a0 sc) (hat : Obj.IsDictOf (PySem.strKind PR w) oat [(k1, .str v1 z1), (k2, .str v2 z2), (k3, .str v3 z3), (k4, .str v4 z4)]) (hsm : (at_ == sysModules) = false)
   (hkn : ([qnameOf u tS, k1, k2, k3, k4] : List Str).Nodup) (hqn : ∀ n ∈ ([qnameOf u tS, k1, k2, k3, k4] : List Str), ∃ u ∈ words, ∃ l ∈ letters, n = qnameOf u l) (hvl : ∀ v ∈ ([v1, v2, v3, v4] : List Str), v.length ≤ 20) (hkl : known.length ≤ 20) (hpl : pcs.length ≤ 700) (hdl : st.length < 100) (hC : Stop (CodeHd base 125 tb))
   (h : ∀ (top : Addr) (names : List Str) (krows arows : List (Str × Str)) (tv' ps' : Array Value) (opm' : Obj) (nsl' pgl' : List Value) (tl' : List (Addr × Obj)) (h' : Heap) (tk : Nat) (gens : Array GenState) (dr : Drawn),
     names.Perm [qnameOf u tS, k1, k2, k3, k4] → names.Pairwise (fun x y => klt2 (kaOf y) (kbOf y) (kaOf x) (kbOf x) = false) → krows.Perm [(k1, v1), (k2, v2), (k3, v3), (k4, v4)] → SortedR krows → arows.Perm (xmRows (pairsOf (stK known names) (stT [] (st.flatMap (·.2)) names))) → SortedR arows →
     TS w wr wd tb pg a0 { c with rs := true } ((top, tv') :: sc) tv0 opm' ps' nsl' pgl' (stK known names) ((u, stT [] (st.flatMap (·.2)) names) :: st) (pcs ++ [Str.ofString "<" ++ pnm (nmK (stK known names) u) tS, catS ((arows ++ itRows (stK known names) krows).map fmtRow), Str.ofString ">"]) tl' →
     (∀ q ∈ tl, q.1 ∈ at_ :: tkeys wr wd c tb pg a0 sc → q.1 < top) → (∀ b o, (b, o) ∈ tl → b ∉ tkeys wr wd c tb pg a0 sc → (b, o) ∈ tl' ∧ b < top) → AllBare gens → Fr h₀ L h' m → News h₀ L h' tl' → Q .none { s with heap := h', toks := tk, gens := gens, drawn := dr }) :
   wpAny (model PR w) (ktrTop dp un gd cn cs L a ccd cl outer) (call (.ref 120) [.ref wr, .str (qnameOf u tS) t, .ref at_]) Q E s := by
  obtain ⟨m1, m2, ⟨nd, m3⟩, m4, m5, ⟨na, m6⟩, ⟨nn, m7⟩, ⟨pn, m8⟩, m9, ⟨pgn, m10⟩, ⟨n0, m12⟩, hbase, hscs, hlam, hkv, hpm, hnsn, hpgS, hndw, hsub, hwds, hkl', hpl', hdl', htags, hnda⟩ := ts
  refine hide (((sc.map fun p => Value.ref p.1) ++ [Value.ref a0]).reverse) fun dl hdl2 => ?_
  rw [← hdl2] at m3
  refine hide ([wr, wd, c.dns, c.pm, tb, at_, c.da, c.nss, c.ps, c.bm, pg]) fun ks hks => ?_
  have hscl := hscs.len
  have hnd2 := hnda
  have atk2 := atk
  unfold tkeys at hnd2 atk2
  replace hnd2 := ndT_iff.mpr hnd2
  replace atk2 := neT_iff.mpr atk2
  (refine an12 hnd2 fun y1_ y2_ y3_ y4_ y5_ y6_ y7_ y8_ y9_ y10_ q12 hsn => ?_; try clear hnd2; refine an11 y1_ fun b1 b2 b3 b4 b5 b6 b7 b8 b9 b10 b12 => ?_; clear y1_; refine an10 y2_ fun d2 d3 d4 d5 d6 d7 d8 d9 d10 d12 => ?_; clear y2_; refine an9 y3_ fun e3 e4 e5 e6 e7 e8 e9 e10 e12 => ?_; clear y3_; refine an8 y4_ fun f4 f5 f6 f7 f8 f9 f10 f12 => ?_; clear y4_; refine an7 y5_ fun g5 g6 g7 g8 g9 g10 g12 => ?_; clear y5_; refine an6 y6_ fun i6 i7 i8 i9 i10 i12 => ?_; clear y6_; refine an5 y7_ fun j7 j8 j9 j10 j12 => ?_; clear y7_; refine an4 y8_ fun k8 k9 k10 k12 => ?_; clear y8_; refine an3 y9_ fun l9 l10 l12 => ?_; clear y9_; refine an2 y10_ fun o10 o12 => ?_; clear y10_)
  (refine an12 atk2 fun x1 x2 x3 x4 x5 x6 x7 x8 x9 x10 x11 x12 => ?_; try clear atk2)
  have hndE : ([wr, wd, c.dns, c.pm, tb, at_, c.da, c.nss, c.ps, c.bm, pg] : List Nat).Nodup := by
    refine ndA_iff.mp ?_
    exact ⟨⟨b1, b2, b3, b4, Ne.symm x1, b5, b6, b7, b8, b9⟩, anI9 ⟨d2, d3, d4, Ne.symm x2, d5, d6, d7, d8, d9⟩ ⟨e3, e4, Ne.symm x3, e5, e6, e7, e8, e9⟩ ⟨f4, Ne.symm x4, f5, f6, f7, f8, f9⟩ ⟨Ne.symm x5, g5, g6, g7, g8, g9⟩ ⟨x6, x7, x8, x9, x10⟩ ⟨i6, i7, i8, i9⟩ ⟨j7, j8, j9⟩ ⟨k8, k9⟩ l9⟩
  have N1 : News h₀ L s.heap ((wr, instObj 150 wd) :: (wd, wDict w c) :: (c.dns, listOf dl.toArray nd) :: (c.pm, opm) :: (tb, tabObj ps) :: (at_, oat) :: (c.da, listOf #[] na) :: (c.nss, listOf nsl.toArray nn) :: (c.ps, listOf (List.replicate (st.length + 1) (Value.bool false)).toArray pn) :: (c.bm, bmO pg) :: (pg, listOf pgl.toArray pgn) :: offL ks tl) := by
    exact fmc (N _ m1) (fmc (N _ m2) (fmc (N _ m3) (fmc (N _ m4) (fmc (N _ m5) (fmc (N _ mat) (fmc (N _ m6) (fmc (N _ m7) (fmc (N _ m8) (fmc (N _ m9) (fmc (N _ m10) (fun q hq => N _ (offL_sub hq))))))))))))
  have keepE : ∀ b o, (b, o) ∈ tl → Ess o → (b, o) ∈ offL ks tl := by
    intro b o hm he
    refine offL_mem hm fun hk => ?_
    rw [hks] at hk
    simp only [List.mem_cons, List.not_mem_nil, or_false] at hk
    (refine e1a2 hkv fun kvs hkv1 _ => ?_; try clear hkv)
    rcases hk with rfl | rfl | rfl | rfl | rfl | rfl | rfl | rfl | rfl | rfl | rfl
    · rw [news_one N hm m1] at he; exact ess_inst he
    · rw [news_one N hm m2] at he; exact ess_wdict he
    · rw [news_one N hm m3] at he; exact ess_list he
    · rw [news_one N hm m4] at he; exact ess_dict hkv1 he
    · rw [news_one N hm m5] at he; exact ess_tab hlam he
    · rw [news_one N hm mat] at he; exact ess_dict hat he
    · rw [news_one N hm m6] at he; exact ess_list he
    · rw [news_one N hm m7] at he; exact ess_list he
    · rw [news_one N hm m8] at he; exact ess_list he
    · rw [news_one N hm m9] at he; exact ess_bm he
    · rw [news_one N hm m10] at he; exact ess_list he
  have shr : ∀ a u t1 p t2, (a, tup2 u t1 p t2) ∈ tl → (a, tup2 u t1 p t2) ∈ offL ks tl := fun a u t1 p t2 hm => keepE _ _ hm (ess_tup _ _ _ _)
  have hszs : ∀ e ∈ st, e.2.length ≤ 25 := fun e he => Nat.le_trans (nodup_sub_len (l := e.2) (k := known) (nodup_part hndw he) (fun x hx => hsub x (List.mem_flatMap.mpr ⟨e, he, hx⟩))) hkl'
  have lowk : ∀ q ∈ sc, q.1 ∉ ks := by
    have z : ∀ k ∈ ks, k ∉ sc.map (·.1) := by
      rw [hks]
      exact fmc b12 (fmc d12 (fmc e12 (fmc f12 (fmc g12 (fmc x12 (fmc i12 (fmc j12 (fmc k12 (fmc l12 (fmc o12 (fun _ h => nomatch h)))))))))))
    exact fun q hq hk => z _ hk (List.mem_map_of_mem hq)
  have a0k : a0 ∉ ks := by
    rw [hks]
    simp only [List.mem_cons, List.not_mem_nil, or_false, not_or]
    exact ⟨Ne.symm b10, anI10 (Ne.symm d10) (Ne.symm e10) (Ne.symm f10) (Ne.symm g10) (Ne.symm x11) (Ne.symm i10) (Ne.symm j10) (Ne.symm k10) (Ne.symm l10) (Ne.symm o10)⟩
  have hws : WS0 w c ((a0, tv0) :: sc.reverse) dl.toArray opm (offL ks tl) known (st.flatMap (·.2)) := by
    refine ⟨?_, ?_, ?_, ?_, hndw, hsub, hwds, Nat.lt_of_le_of_lt hkl (by decide), hkv, fun q hq e => ?_, hpm⟩
    · rw [hdl2]; simp
    · intro q hq
      rcases List.mem_cons.mp hq with rfl | hq
      · exact ⟨n0, offL_mem m12 a0k⟩
      · have hq' := List.mem_reverse.mp hq
        (refine ex1 (hscs.low q hq') fun n hn => ?_)
        exact ⟨n, offL_mem hn (lowk q hq')⟩
    · intro q hq
      rcases List.mem_cons.mp hq with rfl | hq
      · have := hbase.len
        rw [Array.length_toList] at this
        show tv0.size < 100
        rw [this]; decide
      · exact Nat.lt_of_le_of_lt (hscs.size hszs q (List.mem_reverse.mp hq)) (by decide)
    · rw [flat_rev]
      exact (hscs.flat.app hbase).shrink shr
    · exact offL_not hq (by rw [hks, e]; simp)
  have hpgl : pgl.toArray.size ≤ 900 := by
    have := strs_len hpgS
    rw [List.size_toArray]; k_room
  have hrs : (List.replicate (st.length + 1) (Value.bool false)).toArray.size = st.length + 1 := by simp
  refine begin_ w p loose mean mg mb base _ _ _ _ _ _ _ _ _ _ _ _ _ _ _ _ c wr wd at_ pg tb (qnameOf u tS) k1 k2 k3 k4 v1 v2 v3 v4 t z1 z2 z3 z4 ((a0, tv0) :: sc.reverse) dl.toArray nsl.toArray (List.replicate (st.length + 1) (Value.bool false)).toArray pgl.toArray ps nd na nn pn pgn opm oat (offL ks tl) known (st.flatMap (·.2)) B F X N1 T hcs (by k_room) (by k_room) hB hws hat hsm hkn hqn hvl hndE (fun d hd q hq e => offL_not hq (by rw [hks, e]; exact hd)) (lam_keep keepE hlam) (by k_room) hC ?_ (by k_room) (by k_room) ?_ ?_ hpgl ?_
  · rw [hrs]; simp
  · rw [List.size_toArray, hnsn]; k_room
  · rw [List.size_toArray, hdl2, List.length_reverse, List.length_append, List.length_map, hscl]; simp only [List.length_cons, List.length_nil]; k_room
  intro top names krows arows tv' ps' nt' nd' nn' pn' pgn' opm' ex b ta tb_ tc_ h' tk gens dr hpm1 hpw hkp hks1 hap has hws7 hlam7 hbm hex hlt hB' F' N'
  obtain ⟨tl', htl'⟩ : ∃ t', t' = (wr, instObj 150 wd) :: (wd, wDict w { c with rs := true }) :: (c.dns, listOf (dl.toArray.push (.ref top)) nd') :: (c.pm, opm') :: (top, listOf tv' nt') :: (tb, tabObj ps') :: (at_, oat) :: (c.da, listOf #[] na) :: (c.nss, listOf (nsl.toArray.push (.ref b)) nn') :: (c.ps, listOf ((List.replicate (st.length + 1) (Value.bool false)).toArray.push (.bool false)) pn') :: (c.bm, bmO pg) :: (pg, listOf (((pgl.toArray.push (.str (Str.ofString "<" ++ pnm (nmK (stK known names) (uOf (qnameOf u tS))) (lOf (qnameOf u tS))) ta)).push (.str (catS ((arows ++ itRows (stK known names) krows).map fmtRow)) tb_)).push (.str (Str.ofString ">") tc_)) pgn') :: (ex ++ offL ks tl) := ⟨_, rfl⟩
  rw [← htl'] at N'
  have toff : ∀ q ∈ offL ks tl, q ∈ tl' := fun q hq => by rw [htl']; k_data
  have texo : ∀ q ∈ ex ++ offL ks tl, q ∈ tl' := fun q hq => by rw [htl']; k_data
  have hu1 : uOf (qnameOf u tS) = u := uOf_q hu (by decide)
  have hl1 : lOf (qnameOf u tS) = tS := lOf_q hu (by decide)
  have hnl : names.length = 5 := hpm1.length_eq
  have htag : uOf (qnameOf u tS) ∈ stT [] (st.flatMap (·.2)) names ++ st.flatMap (·.2) := stT_has (hpm1.mem_iff.mpr (.head _))
  rw [hu1] at htag
  have ltk : ∀ q ∈ tl, q.1 ∈ at_ :: tkeys wr wd c tb pg a0 sc → q.1 < top := by
    intro q hq hk
    by_cases hk2 : q.1 ∈ ks
    · have key : ∀ k ∈ ks, ∃ z ∈ (wr, instObj 150 wd) :: (wd, wDict w c) :: (c.dns, listOf dl.toArray nd) :: (c.pm, opm) :: (tb, tabObj ps) :: (at_, oat) :: (c.da, listOf #[] na) :: (c.nss, listOf nsl.toArray nn) :: (c.ps, listOf (List.replicate (st.length + 1) (Value.bool false)).toArray pn) :: (c.bm, bmO pg) :: (pg, listOf pgl.toArray pgn) :: offL ks tl, z.1 = k := by
        rw [hks]
        refine fmc ?_ (fmc ?_ (fmc ?_ (fmc ?_ (fmc ?_ (fmc ?_ (fmc ?_ (fmc ?_ (fmc ?_ (fmc ?_ (fmc ?_ (fun _ h => nomatch h)))))))))))
        · exact ⟨(wr, instObj 150 wd), by k_data, rfl⟩
        · exact ⟨(wd, wDict w c), by k_data, rfl⟩
        · exact ⟨(c.dns, listOf dl.toArray nd), by k_data, rfl⟩
        · exact ⟨(c.pm, opm), by k_data, rfl⟩
        · exact ⟨(tb, tabObj ps), by k_data, rfl⟩
        · exact ⟨(at_, oat), by k_data, rfl⟩
        · exact ⟨(c.da, listOf #[] na), by k_data, rfl⟩
        · exact ⟨(c.nss, listOf nsl.toArray nn), by k_data, rfl⟩
        · exact ⟨(c.ps, listOf (List.replicate (st.length + 1) (Value.bool false)).toArray pn), by k_data, rfl⟩
        · exact ⟨(c.bm, bmO pg), by k_data, rfl⟩
        · exact ⟨(pg, listOf pgl.toArray pgn), by k_data, rfl⟩
      (refine e1a2 (key _ hk2) fun z hz e => ?_)
      rw [← e]; exact hlt z hz
    · exact hlt q (by simp only [List.mem_cons, offL_mem hq hk2, or_true])
  have ntk : ∀ k ∈ tkeys wr wd c tb pg a0 sc, top ≠ k := by
    have hin : ∀ k ∈ tkeys wr wd c tb pg a0 sc, ∃ o, (k, o) ∈ tl := by
      unfold tkeys
      refine fma (fmc ⟨_, m1⟩ (fmc ⟨_, m2⟩ (fmc ⟨_, m3⟩ (fmc ⟨_, m4⟩ (fmc ⟨_, m5⟩ (fmc ⟨_, m6⟩ (fmc ⟨_, m7⟩ (fmc ⟨_, m8⟩ (fmc ⟨_, m9⟩ (fmc ⟨_, m10⟩ (fmc ⟨_, m12⟩ (fun _ h => nomatch h)))))))))))) fun k hk => ?_
      · (refine e1a2 (List.mem_map.mp hk) fun q hq y3_ => ?_; obtain rfl := y3_)
        (refine ex1 (hscs.low q hq) fun n hn => ?_)
        exact ⟨_, hn⟩
    intro k hk e
    (refine ex1 (hin k hk) fun o ho => ?_)
    have := ltk (k, o) ho (.tail _ hk)
    rw [e] at this
    exact Nat.lt_irrefl _ this
  have hpk : (c.dns, listOf (dl.toArray.push (.ref top)) nd') ∈ tl' := by rw [htl']; k_data
  have hp7 : (c.nss, listOf (nsl.toArray.push (.ref b)) nn') ∈ tl' := by rw [htl']; k_data
  have hp8 : (c.ps, listOf ((List.replicate (st.length + 1) (Value.bool false)).toArray.push (.bool false)) pn') ∈ tl' := by rw [htl']; k_data
  have hp10 : (pg, listOf (((pgl.toArray.push (.str (Str.ofString "<" ++ pnm (nmK (stK known names) (uOf (qnameOf u tS))) (lOf (qnameOf u tS))) ta)).push (.str (catS ((arows ++ itRows (stK known names) krows).map fmtRow)) tb_)).push (.str (Str.ofString ">") tc_)) pgn') ∈ tl' := by rw [htl']; k_data
  rw [hu1, hl1] at hp10
  refine h top names krows arows tv' ps' opm' (nsl ++ [.ref b]) (pgl ++ [.str (Str.ofString "<" ++ pnm (nmK (stK known names) u) tS) ta, .str (catS ((arows ++ itRows (stK known names) krows).map fmtRow)) tb_, .str (Str.ofString ">") tc_]) tl' h' tk gens dr hpm1 hpw hkp hks1 hap has ?_ ltk ?_ hB' F' N'
  · refine ⟨by rw [htl']; k_data, by rw [htl']; k_data, ⟨nd', ?_⟩, by rw [htl']; k_data, by rw [htl']; k_data, ⟨na, by rw [htl']; k_data⟩, ⟨nn', by simpa using hp7⟩, ⟨pn', ?_⟩, by rw [htl']; k_data, ⟨pgn', by simpa using hp10⟩, ⟨n0, toff _ (offL_mem m12 a0k)⟩, (hbase.shrink shr).mono toff, ⟨⟨⟨nt', ?_⟩, hws7.tps.mono texo⟩, ?_⟩, ?_, hws7.kv, hpm, ?_, ?_, hws7.nd, hws7.sub, hws7.wds, ?_, ?_, ?_, ⟨htag, htags⟩, ?_⟩
    · rw [show (List.map (fun p : Addr × Array Value => Value.ref p.1) ((top, tv') :: sc) ++ [Value.ref a0]).reverse = dl ++ [Value.ref top] by rw [hdl2]; simp]
      simpa using hpk
    · rw [show List.replicate (((u, stT [] (st.flatMap (·.2)) names) :: st).length + 1) (Value.bool false) = List.replicate (st.length + 1) (Value.bool false) ++ [Value.bool false] from List.replicate_succ']
      rw [← List.push_toArray]; exact hp8
    · rw [htl']; k_data
    · exact hscs.keep (fun x hx => stK_nm hx) (fun a u t1 p t2 hm => toff _ (shr a u t1 p t2 hm)) hsub (fun q hq n hm => toff _ (offL_mem hm (lowk q hq)))
    · rcases hlam7 with e | ⟨c', oc, vs, t', e, hm, hd, hv⟩
      · exact .inl e
      · exact .inr ⟨c', oc, vs, t', e, texo _ hm, hd, hv⟩
    · rw [List.length_append, hnsn]; rfl
    · exact strsAre_appL hpgS (.cons _ _ (.cons _ _ (.cons _ _ .nil)))
    · have := stK_len (ns := names) (known := known)
      k_room
    · rw [List.length_append]; simp only [List.length_cons, List.length_nil]; k_room
    · simp only [List.length_cons]; k_room
    · unfold tkeys at hnda ntk ⊢
      rw [List.map_cons]
      refine List.perm_middle.nodup_iff.mpr (List.nodup_cons.mpr ⟨fun hm => ntk top hm rfl, hnda⟩)
  · intro b2 o2 hm hk
    by_cases hk2 : b2 = at_
    · subst hk2
      have := news_one N hm mat
      subst this
      exact ⟨by rw [htl']; k_data, ltk _ hm (.head _)⟩
    · have hnk : b2 ∉ ks := by
        rw [hks]
        unfold tkeys at hk
        simp only [List.mem_cons, List.not_mem_nil, or_false, List.cons_append, List.nil_append, not_or] at hk ⊢
        exact ⟨hk.1, anI10 hk.2.1 hk.2.2.1 hk.2.2.2.1 hk.2.2.2.2.1 hk2 hk.2.2.2.2.2.1 hk.2.2.2.2.2.2.1 hk.2.2.2.2.2.2.2.1 hk.2.2.2.2.2.2.2.2.1 hk.2.2.2.2.2.2.2.2.2.1⟩
      exact ⟨toff _ (offL_mem hm hnk), hlt (b2, o2) (by simp only [List.mem_cons, offL_mem hm hnk, or_true])⟩
end
section
theorem cl_bound {m : Nat} (h : m ≤ 1000) (y : Int) : -1000 < (if (m : Int) - 1 < y.fmod 3 then (m : Int) - 1 else y.fmod 3) ∧ (if (m : Int) - 1 < y.fmod 3 then (m : Int) - 1 else y.fmod 3) < 1000 := by
  have h1 : 0 ≤ y.fmod 3 := Int.fmod_nonneg_of_pos y (by decide)
  have h2 : y.fmod 3 < 3 := Int.fmod_lt_of_pos y (by decide)
  split
  · next h3 => exact ⟨Int.lt_of_lt_of_le (by decide : (-1000 : Int) < -1) (Int.sub_le_sub_right (Int.natCast_nonneg m) 1), Int.lt_trans h3 (Int.lt_trans h2 (by decide))⟩
  · exact ⟨Int.lt_of_lt_of_le (by decide) h1, Int.lt_trans h2 (by decide)⟩
section
open LCg
variable {prog : Program} {w : World} {A : Around} {s : Shared} {h₀ : Heap} {L : Addr} {env : Env}
/-- a for over range(b) -/
theorem loop_range {x : Str} {px : Pos} {body : List Stmt} {n₀ : Nat} {b : Int} {t : Tok} {R : Result → Shared → Prop}
    (hh : A.handled = none) (hloc : env.locals = L) (hb0 : -1000 < b) (hb : b < 1000) (J : Nat → (Str → Option Value) → List (Addr × Obj) → Prop)
    (turn : ∀ i t m₁ news₁ I oI h tk gens dr, i < b.toNat → J i m₁ news₁ → (oI.cls = .type "range_iterator" ∧ ∃ a b c, oI.data = .fields #[rawInt a, rawInt b, rawInt c]) → (∀ p ∈ news₁, p.1 ≠ I) → Fr h₀ L h m₁ → News h₀ L h ((I, oI) :: news₁) → AllBare gens → n₀ ≤ tk →
      wpAny (model prog w) A (assign (.Name x px) env (.int (i : Int) t)) (fun _ s₂ => wpAny (model prog w) A (execs body env) (fun f s₃ => match f with | .next | .cont => Stop (∃ h₃ tk₃ gens₃ dr₃ m₃ news₃, s₃ = { s with heap := h₃, toks := tk₃, gens := gens₃, drawn := dr₃ } ∧ Fr h₀ L h₃ m₃ ∧ News h₀ L h₃ ((I, oI) :: news₃) ∧ (∀ p ∈ news₃, p.1 ≠ I) ∧ AllBare gens₃ ∧ J (i + 1) m₃ news₃) | .brk => R (.ok .next) s₃ | .ret v => R (.ok (.ret v)) s₃) NoE s₂) NoE { s with heap := h, toks := tk, gens := gens, drawn := dr })
    (done : ∀ m₁ news₁ h tk gens dr, J b.toNat m₁ news₁ → Fr h₀ L h m₁ → News h₀ L h news₁ → AllBare gens → n₀ ≤ tk → R (.ok .next) { s with heap := h, toks := tk, gens := gens, drawn := dr })
    {m : Str → Option Value} {news : List (Addr × Obj)} {E : Value → Shared → Prop} (F : Fr h₀ L s.heap m) (N : News h₀ L s.heap news) (hB : AllBare s.gens) (hJ : J 0 m news) (htk : n₀ ≤ s.toks) :
    wpAny (model prog w) A (call (.type "range") [.int b t]) (fun v s₁ => wpAny (model prog w) A (pyIter v) (fun it s₂ => codeAny (model prog w) A (.forLoop (.Name x px) it body [] env) R s₂) E s₁) E s := by
  have e1 : Builtin.Range.rangeSize 0 b 1 = (b.toNat : Int) := by
    unfold Builtin.Range.rangeSize
    rw [if_pos (by decide)]
    by_cases h : 0 < b
    · rw [if_pos h, Int.ediv_one, Int.toNat_of_nonneg (Int.le_of_lt h), Int.sub_zero, Int.sub_add_cancel]
    · rw [if_neg h, Int.toNat_of_nonpos (Int.not_lt.mp h)]; rfl
  have hsm : Builtin.Range.small 0 b 1 = true := by
    unfold Builtin.Range.small
    rw [e1]
    unfold Builtin.Range.rangeFitsLong
    simp only [Bool.and_eq_true, Bool.or_eq_true, decide_eq_true_eq, if_pos (show (1 : Int) > 0 by decide)]
    have kb : -2 ^ 63 ≤ b ∧ b < 2 ^ 63 := ⟨Int.le_trans (by decide) (Int.le_of_lt hb0), Int.lt_trans hb (by decide)⟩
    have kt : (b.toNat : Int) < 1000 := by
      rcases Int.le_total 0 b with h | h
      · rw [Int.toNat_of_nonneg h]; exact hb
      · rw [Int.toNat_of_nonpos h]; decide
    exact ⟨⟨⟨⟨by decide, kb⟩, by decide⟩, Int.le_trans (by decide) (Int.natCast_nonneg _), Int.lt_trans kt (by decide)⟩, .inr (by rw [show (1 : Int) - 1 = 0 from rfl, Int.add_zero]; exact kb)⟩
  refine call_range_1 ?_
  have up : ∀ b' o, s.heap.get? b' = some o → ((s.heap.push { cls := .type "range", data := .fields #[.int 0 s.toks, .int b t, .int 1 (s.toks + 1)] }).push { cls := .type "range_iterator", data := .fields #[rawInt 0, rawInt (Builtin.Range.rangeSize 0 b 1), rawInt 1] }).get? b' = some o := fun b' o e => Heap.get?_push_of_some _ (Heap.get?_push_of_some _ e)
  refine wpAny_pyIter_range (t := s.toks) (u := t) (v := s.toks + 1) (show IsRange _ _ _ _ _ _ _ _ from Heap.get?_push_size _ rfl) hsm ?_
  have hlt : s.heap.objs.size < (s.heap.push { cls := .type "range", data := .fields #[.int 0 s.toks, .int b t, .int 1 (s.toks + 1)] }).objs.size := by rw [Heap.size_push]; exact Nat.lt_succ_self _
  refine loop_walks (PI := fun o => o.cls = .type "range_iterator" ∧ ∃ a b c, o.data = .fields #[rawInt a, rawInt b, rawInt c]) (S := fun _ => True) (Walks.range hh _ 0 1 b.toNat) (fun i h st => ⟨_, st, rfl, _, _, _, rfl⟩) (fun i h h' o nw st e e' _ _ _ => by
      unfold IsRangeIter at st ⊢
      rw [e'] ; rw [e] at st; exact st) (fun i s' v Q' hv st hq => wpAny_pure hq) hloc J (fun _ _ _ _ => trivial) (fun i v m₁ news₁ oI h tk gens dr hi hv hJ hP off F N hB ht => ?_) done ?_ (F.keeps up) (N.grown up) (fun p hp => ?_) ?_ ?_ hB hJ (Nat.le_trans htk (Nat.le_succ_of_le (Nat.le_succ _)))
  · (refine ex1 hv fun t' y1_ => ?_; try clear hv; obtain rfl := y1_)
    have e : (0 : Int) + (i : Int) * 1 = (i : Int) := by rw [Int.zero_add, Int.mul_one]
    rw [e]
    exact turn i t' m₁ news₁ _ oI h tk gens dr hi hJ hP off F N hB ht
  · unfold IsRangeIter
    rw [e1]
    have e2 : (0 : Int) + ((0 : Nat) : Int) * 1 = 0 := by decide
    have e3 : ((b.toNat : Nat) : Int) - ((0 : Nat) : Int) = (b.toNat : Int) := Int.sub_zero _
    rw [e2, e3]
    exact Heap.get?_push_size _ rfl
  · exact Nat.ne_of_lt (Nat.lt_trans (Heap.lt_size (N p hp).1) hlt)
  · exact Nat.ne_of_gt (Nat.lt_trans F.ns.lt hlt)
  · exact Heap.get?_none_of_le (Nat.le_trans F.above (Nat.le_trans (Nat.le_of_lt F.ns.lt) (Nat.le_of_lt hlt)))
end
end
section
example : True := by (k_with "call builtin:chr" => (fail_if_success k_extra "12"); (k_dflt (refine chr_of_range ?_ ?_ ?_; (case _ => exact (or_bound _).1); (case _ => exact (or_bound _).2)))); trivial
noncomputable def Ctoi (w : World) (v : Value) (x : Int) : Prop := ∀ (p : Program) (loose : List Str) (mean : ExcName → Option Value) (mg mb : Str → Option Value) (base : Heap) (tl : List (Addr × Obj))
   (dp un : Nat) (gd : Option (List Code)) (cn : Str) (cs : Scope) (a : Addr) (ccd : Value) (cl : List (Str × Addr)) (outer : List Env) (A₀ : Around) (h₀ : Heap) (L : Addr) (m : Str → Option Value) (s : Shared) (Q E : Value → Shared → Prop)
   (B : Below A₀ base outer h₀) (F : Fr h₀ L s.heap m) (X : (hd.heap_39 w.params).In h₀) (N : News h₀ L s.heap (tl)) (T : Top p loose mean mg mb h₀) (hcs : cs.kind = .function) (hdp : dp + 10 < recursionLimit) (hun : un + 100 < cLine) (hB : AllBare s.gens)
   (hret : ∀ t, RetK h₀ L m tl s Q (.int x t)),
   wpAny (model PR w) (ktrTop dp un gd cn cs L a ccd cl outer) (call (.ref 175) [v]) Q E s
theorem ctoi_i {w : World} {x : Int} {tk : Tok} : Ctoi w (.int x tk) x := by
  intro p loose mean mg mb base tl dp un gd cn cs a ccd cl outer A₀ h₀ L m s Q E B F X N T hcs hdp hun hB hret
  refine wpAny_call ?_
  k_dflt (refine' code_def (binds := [(Str.ofString "c", .int x tk)]) B F X N T ?kA ?kF ?kK ?k6 ?k7 ?k8 ?k9 ?kB ?_ ?c2 ?c3 ?c4 ?c5; (case kA => exact rfl); (case kF => exact rfl); (case kK => first | exact rfl | assumption); (case k6 => k_is); (case k7 => k_is); (case k8 => k_room); (case k9 => first | exact BindsTo.of_eq rfl | exact binds_K (by k_in) rfl (by k_is) rfl rfl rfl); (case c5 => decide); (case kB => exact locs rfl); (case c2 => exact rfl); (case c3 => exact rfl); (case c4 => exact rfl); k_whole; intro g' L' h' FG' F' N' B' X' T'; (try dsimp only); (try k_lift B'); (try k_fold))
  k_steps
  exact hret _ _ _ (by assumption) (by assumption)
theorem ctoi_s {w : World} {x : Nat} {tk : Tok} (hx : x < 1114112) : Ctoi w (.str ⟨#[x]⟩ tk) (x : Int) := by
  intro p loose mean mg mb base tl dp un gd cn cs a ccd cl outer A₀ h₀ L m s Q E B F X N T hcs hdp hun hB hret
  refine wpAny_call ?_
  k_dflt (refine' code_def (binds := [(Str.ofString "c", .str ⟨#[x]⟩ tk)]) B F X N T ?kA ?kF ?kK ?k6 ?k7 ?k8 ?k9 ?kB ?_ ?c2 ?c3 ?c4 ?c5; (case kA => exact rfl); (case kF => exact rfl); (case kK => first | exact rfl | assumption); (case k6 => k_is); (case k7 => k_is); (case k8 => k_room); (case k9 => first | exact BindsTo.of_eq rfl | exact binds_K (by k_in) rfl (by k_is) rfl rfl rfl); (case c5 => decide); (case kB => exact locs rfl); (case c2 => exact rfl); (case c3 => exact rfl); (case c4 => exact rfl); k_whole; intro g' L' h' FG' F' N' B' X' T'; (try dsimp only); (try k_lift B'); (try k_fold))
  k_steps
  exact hret _ _ _ (by assumption) (by assumption)
example : True := by (k_with "call ref" => (fail_if_success k_extra "12"); (k_here; k_dflt (refine' hc _ _ _ _ _ _ _ _ _ _ _ _ _ _ _ _ _ _ _ _ _ _ _ ?kB_r ?kF_r ?kX_r ?kN_r ?kT_r ?kc_r ?kd_r ?ku_r ?kb_r ?_; (case kB_r => k_asm); (case kF_r => k_asm); (case kX_r => k_asm); (case kN_r => k_asm); (case kT_r => k_asm); (case kc_r => rfl); (case kd_r => (dsimp only [ktrTop]; k_room)); (case ku_r => (dsimp only [ktrTop]; k_room)); (case kb_r => k_asm)); (intro _ _ _ _ _; (try dsimp only)))); trivial
theorem unctrl_v (A₀ : Around) (h₀ : Heap) (L : Addr) (m : Str → Option Value) (s : Shared) (Q E : Value → Shared → Prop)
   (v : Value) (x : Int) (tl : List (Addr × Obj))
   (B : Below A₀ base outer h₀) (F : Fr h₀ L s.heap m) (X : (hd.heap_39 w.params).In h₀) (N : News h₀ L s.heap (tl))
   (T : Top p loose mean mg mb h₀) (hcs : cs.kind = .function) (hdp : dp + 20 < recursionLimit) (hun : un + 200 < cLine) (hB : AllBare s.gens) (hc : Ctoi w v x)
   (hret : ∀ t, RetK h₀ L m tl s Q (.str (wordOf x) t)) :
   wpAny (model PR w) (ktrTop dp un gd cn cs L a ccd cl outer) (call (.ref 189) [v]) Q E s := by
  refine wpAny_call ?_
  k_dflt (refine' code_def (binds := [(Str.ofString "c", v)]) B F X N T ?kA ?kF ?kK ?k6 ?k7 ?k8 ?k9 ?kB ?_ ?c2 ?c3 ?c4 ?c5; (case kA => exact rfl); (case kF => exact rfl); (case kK => first | exact rfl | assumption); (case k6 => k_is); (case k7 => k_is); (case k8 => k_room); (case k9 => first | exact BindsTo.of_eq rfl | exact binds_K (by k_in) rfl (by k_is) rfl rfl rfl); (case c5 => decide); (case kB => exact locs rfl); (case c2 => exact rfl); (case c3 => exact rfl); (case c4 => exact rfl); k_whole; intro g' L' h' FG' F' N' B' X' T'; (try dsimp only); (try k_lift B'); (try k_fold))
  k_steps
  all_goals (refine (congrArg (fun z => Q (Value.str z _) _) ?_).mpr (hret _ _ _ (by assumption) (by assumption)); first | exact wy1 (by k_room) | exact wy2 (by k_room) (by k_room) | exact wy3 (by k_room) (by k_room) (by k_room) (by k_room) | exact wy4 (by k_room) (by k_room) (by k_room) (by k_room) | exact wy5 (by k_room) (by k_room) | exact wy6 (by k_room) (by k_room) (by k_room))
example : True := by (k_with "12" => skip); trivial
theorem unctrl_i (A₀ : Around) (h₀ : Heap) (L : Addr) (m : Str → Option Value) (s : Shared) (Q E : Value → Shared → Prop)
   (x : Int) (tk : Tok) (tl : List (Addr × Obj))
   (B : Below A₀ base outer h₀) (F : Fr h₀ L s.heap m) (X : (hd.heap_39 w.params).In h₀) (N : News h₀ L s.heap (tl))
   (T : Top p loose mean mg mb h₀) (hcs : cs.kind = .function) (hdp : dp + 20 < recursionLimit) (hun : un + 200 < cLine) (hB : AllBare s.gens)
   (hret : ∀ t, RetK h₀ L m tl s Q (.str (wordOf x) t)) :
   wpAny (model PR w) (ktrTop dp un gd cn cs L a ccd cl outer) (call (.ref 189) [.int x tk]) Q E s := unctrl_v w p loose mean mg mb base dp un gd cn cs a ccd cl outer A₀ h₀ L m s Q E (.int x tk) x tl B F X N T hcs hdp hun hB ctoi_i hret
theorem unctrl_s (A₀ : Around) (h₀ : Heap) (L : Addr) (m : Str → Option Value) (s : Shared) (Q E : Value → Shared → Prop)
   (x : Nat) (tk : Tok) (tl : List (Addr × Obj))
   (B : Below A₀ base outer h₀) (F : Fr h₀ L s.heap m) (X : (hd.heap_39 w.params).In h₀) (N : News h₀ L s.heap (tl))
   (T : Top p loose mean mg mb h₀) (hcs : cs.kind = .function) (hdp : dp + 20 < recursionLimit) (hun : un + 200 < cLine) (hB : AllBare s.gens) (hx : x < 1114112)
   (hret : ∀ t, RetK h₀ L m tl s Q (.str (wordOf (x : Int)) t)) :
   wpAny (model PR w) (ktrTop dp un gd cn cs L a ccd cl outer) (call (.ref 189) [.str ⟨#[x]⟩ tk]) Q E s := unctrl_v w p loose mean mg mb base dp un gd cn cs a ccd cl outer A₀ h₀ L m s Q E (.str ⟨#[x]⟩ tk) (x : Int) tl B F X N T hcs hdp hun hB (ctoi_s hx) hret
end
section
example : True := by (k_with "12" => skip); (k_with "call builtin:chr" => (fail_if_success k_extra "13"); (k_dflt (refine chr_of_range ?_ ?_ ?_; (case _ => first | decide | k_room); (case _ => first | decide | k_room)))); trivial
theorem mul_is {prog : Program} {w : World} {A : Around} {E : Value → Shared → Prop} {s : Shared} {n : Int} {t : Tok} {x : Str} {u : Tok} {Q : Value → Shared → Prop} (hok : MulOk x n)
    (h : ∀ t' k, Q (.str (Txt.mul x n) t') { s with toks := k }) : wpAny (model prog w) A (binaryOp .Mult (.int n t) (.str x u)) Q E s := by
  refine lm_binaryOp_repeat_right (T := "str") (U := "int") (by decide) (fun s' => typeIs_int s' n t) (typeIs_str s x u) F.fills_int_mul noFill_str_mul F.slot_int_mul lm_noRepeat_int repeat_str F.slot_int_index.lookup
    (call_gives F.slot_int_mul (typeIs_int s n t) F.entry_int_mul (F.args_int_mul_2 _ _) (AutoIntG3.int___mul___int_str_0 n t x u)
      ⟨rfl, typeIs_str _ x u, call_gives F.slot_str_mul (typeIs_str s x u) F.entry_str_mul (F.args_str_mul_2 _ _) (gives_str_mul x n u t hok.1 hok.2.1 hok.2.2) ?_⟩)
  unfold Txt.mul at h
  by_cases h1 : n < 1
  · rw [if_pos h1]; have h' := h s.toks (s.toks + 1); rw [if_pos h1] at h'; exact ⟨by decide, h'⟩
  · rw [if_neg h1]; refine post_val_or_made (fun hc => fits_reps (hok.2.2 h1 (by simpa using hc))) fun t' k => ?_
    have h' := h t' k; rw [if_neg h1] at h'; exact h'
theorem mulok_full : MulOk (Str.ofString "\t\n\r\"&<>") 2 := by unfold MulOk; decide +kernel
example : True := by (k_with "binaryOp Mult int str" => (fail_if_success k_extra "13"); ((k_dflt (refine mul_is mulok_full ?_)); intro _ _; (try dsimp only))); trivial
theorem lpairs (A₀ : Around) (h₀ : Heap) (L : Addr) (m : Str → Option Value) (s : Shared) (Q E : Value → Shared → Prop)
   (x : Int) (tk : Tok) (tl : List (Addr × Obj))
   (B : Below A₀ base outer h₀) (F : Fr h₀ L s.heap m) (X : (hd.heap_39 w.params).In h₀) (N : News h₀ L s.heap (tl))
   (T : Top p loose mean mg mb h₀) (hcs : cs.kind = .function) (hdp : dp + 20 < recursionLimit) (hun : un + 200 < cLine) (hB : AllBare s.gens)
   (hret : ∀ D1 D2 D3 D4 l n a1 a2 a3 b1 b2 b3 c1 c2 c3 d1 d2 d3, @LT.lt Nat _ D1 D2 → @LT.lt Nat _ D2 D3 → @LT.lt Nat _ D3 D4 → @LT.lt Nat _ D4 l → (∀ p ∈ tl, p.1 < D1) → RetK h₀ L m ((l, listOf #[.ref D1, .ref D2, .ref D3, .ref D4] n) :: (D4, tupP (Str.ofString "a") a1 94 a2 fullS a3) :: (D3, tupP (Str.ofString "b") b1 33 b2 (chS (loC x)) b3) :: (D2, tupP (Str.ofString "c") c1 (x + 128) c2 (chS (wdC x)) c3) :: (D1, tupP (Str.ofString "d") d1 (hiN x) d2 (chS (hiN x)) d3) :: tl) s Q (.ref l)) :
   wpAny (model PR w) (ktrTop dp un gd cn cs L a ccd cl outer) (call (.ref 196) [.int x tk]) Q E s := by
  refine wpAny_call ?_
  k_dflt (refine' code_def (binds := [(Str.ofString "x", .int x tk)]) B F X N T ?kA ?kF ?kK ?k6 ?k7 ?k8 ?k9 ?kB ?_ ?c2 ?c3 ?c4 ?c5; (case kA => exact rfl); (case kF => exact rfl); (case kK => first | exact rfl | assumption); (case k6 => k_is); (case k7 => k_is); (case k8 => k_room); (case k9 => first | exact BindsTo.of_eq rfl | exact binds_K (by k_in) rfl (by k_is) rfl rfl rfl); (case c5 => decide); (case kB => exact locs rfl); (case c2 => exact rfl); (case c3 => exact rfl); (case c4 => exact rfl); k_whole; intro g' L' h' FG' F' N' B' X' T'; (try dsimp only); (try k_lift B'); (try k_fold))
  k_steps
  have e1 := hiN_eq x
  have e2 : Str.mk #[((x.fdiv 256).fmod 55296).toNat] = chS (hiN x) := by unfold chS; rw [e1, Int.toNat_natCast]
  have e3 : Str.mk #[(x.fmod 55296).toNat] = chS (loC x) := by unfold chS loC; rw [fm5]
  have e4 : Str.mk #[((x + 128).fmod 55296).toNat] = chS (wdC x) := by unfold chS wdC; rw [fm5]
  rename News h₀ L _ _ => kN
  rename Fr h₀ L _ m => kF
  simp only [e2, e3, e4, e1] at kN
  unfold fullS at hret
  exact hret _ _ _ _ _ _ _ _ _ _ _ _ _ _ _ _ _ _ (by assumption) (by assumption) (by assumption) (by assumption) (by first | assumption | exact allLt_mem (by assumption)) _ _ kF kN
end
section
example : True := by (k_with "13" => skip); trivial
noncomputable abbrev tupI (a : Int) (t : Tok) (b : Int) (u : Tok) : Obj := { cls := .type "tuple", data := .seq #[.int a t, .int b u] }
noncomputable def placesB : { l : List Stmt // l = stBody (topSt 18) } := ⟨_, by conv => rhs; whnf⟩
noncomputable def placesS : { x : Scope // x = stScope (topSt 18) } := ⟨_, by conv => rhs; whnf⟩
noncomputable abbrev placesE (L' : Addr) : Env := envOf (Str.ofString "_law_places") placesS.1 L' 217 (.ref 216)
theorem plN1 {x : Int} (h : x % 128 < 32) : x % 128 + 64 = plN x := by unfold plN; rw [if_pos h]
theorem plN2 {x : Int} (h : ¬ x % 128 < 32) (h2 : x % 128 < 95) : x % 128 - 32 = plN x := by unfold plN; rw [if_neg h, if_pos h2]
theorem plN3 {x : Int} (h : ¬ x % 128 < 32) (h2 : ¬ x % 128 < 95) (h3 : x % 128 < 127) : x % 128 + 2 = plN x := by unfold plN; rw [if_neg h, if_neg h2, if_pos h3]
theorem plN4 {x : Int} (h : ¬ x % 128 < 32) (h2 : ¬ x % 128 < 95) (h3 : ¬ x % 128 < 127) (h4 : x = 127) : 63 = plN x := by unfold plN; rw [if_neg h, if_neg h2, if_neg h3, if_pos h4]
theorem plN5 {x : Int} (h : ¬ x % 128 < 32) (h2 : ¬ x % 128 < 95) (h3 : ¬ x % 128 < 127) (h4 : ¬ x = 127) : 96 = plN x := by unfold plN; rw [if_neg h, if_neg h2, if_neg h3, if_neg h4]
example : True := by (k_with "eval Name" => (fail_if_success k_extra "14"); k_extra "en"); trivial
theorem p_low (h₀ : Heap) (L L' : Addr) (m : Str → Option Value) (s : Shared) (Q : Flow → Shared → Prop) (E : Value → Shared → Prop)
   (x : Int) (tx : Tok) (tl : List (Addr × Obj))
   (B : Below (ktrTop dp un gd cn cs L a ccd cl outer) base (envX cn cs L a ccd cl :: outer) h₀) (F : Fr h₀ L' s.heap m) (X : (hd.heap_39 w.params).In h₀) (N : News h₀ L' s.heap (tl))
   (T : Top p loose mean mg mb h₀) (hdp : dp + 20 < recursionLimit) (hun : un + 200 < cLine) (hB : AllBare s.gens)
   (mX : m (Str.ofString "x") = some (.int x tx))
   (h : ∀ t h' tk, Fr h₀ L' h' (fun y => if y = Str.ofString "low" then some (.int (x % 128) t) else m y) → News h₀ L' h' tl → Q .next { s with heap := h', toks := tk }) :
   wpAny (model PR w) ((ktrTop dp un gd cn cs L a ccd cl outer).deeper (placesE L')) (exec (nth placesB.1 0) (placesE L')) Q E s := by
  unfold placesE
  conv => arg 3; arg 1; whnf
  conv => arg 3; arg 2; arg 2; whnf
  conv => arg 2; arg 2; arg 2; whnf
  k_steps
  rename News h₀ L' _ _ => kN
  rename Fr h₀ L' _ _ => kF
  rw [fm128] at kF
  exact h _ _ _ kF kN
theorem p_plain (h₀ : Heap) (L L' : Addr) (m : Str → Option Value) (s : Shared) (Q : Flow → Shared → Prop) (E : Value → Shared → Prop)
   (x : Int) (tx t0 : Tok) (tl : List (Addr × Obj))
   (B : Below (ktrTop dp un gd cn cs L a ccd cl outer) base (envX cn cs L a ccd cl :: outer) h₀) (F : Fr h₀ L' s.heap m) (X : (hd.heap_39 w.params).In h₀) (N : News h₀ L' s.heap (tl))
   (T : Top p loose mean mg mb h₀) (hdp : dp + 20 < recursionLimit) (hun : un + 200 < cLine) (hB : AllBare s.gens)
   (mX : m (Str.ofString "x") = some (.int x tx)) (mL : m (Str.ofString "low") = some (.int (x % 128) t0))
   (h : ∀ v t h' tk, v = plN x → Fr h₀ L' h' (fun y => if y = Str.ofString "plain" then some (.int v t) else m y) → News h₀ L' h' tl → Q .next { s with heap := h', toks := tk }) :
   wpAny (model PR w) ((ktrTop dp un gd cn cs L a ccd cl outer).deeper (placesE L')) (exec (nth placesB.1 1) (placesE L')) Q E s := by
  unfold placesE
  conv => arg 3; arg 1; whnf
  conv => arg 3; arg 2; arg 2; whnf
  conv => arg 2; arg 2; arg 2; whnf
  k_steps
  all_goals
    rename News h₀ L' _ _ => kN
    rename Fr h₀ L' _ _ => kF
    refine h _ _ _ _ ?_ kF kN
    first | exact plN1 (by assumption) | exact plN2 (by assumption) (by assumption) | exact plN3 (by assumption) (by assumption) (by assumption) | exact plN4 (by assumption) (by assumption) (by assumption) (by assumption) | exact plN5 (by assumption) (by assumption) (by assumption) (by assumption) | (subst x; first | exact plN4 (by assumption) (by assumption) (by assumption) rfl)
theorem p_late (h₀ : Heap) (L L' : Addr) (m : Str → Option Value) (s : Shared) (Q : Flow → Shared → Prop) (E : Value → Shared → Prop)
   (low pl : Int) (t0 t1 : Tok) (tl : List (Addr × Obj))
   (B : Below (ktrTop dp un gd cn cs L a ccd cl outer) base (envX cn cs L a ccd cl :: outer) h₀) (F : Fr h₀ L' s.heap m) (X : (hd.heap_39 w.params).In h₀) (N : News h₀ L' s.heap (tl))
   (T : Top p loose mean mg mb h₀) (hdp : dp + 20 < recursionLimit) (hun : un + 200 < cLine) (hB : AllBare s.gens)
   (mL : m (Str.ofString "low") = some (.int low t0)) (mP : m (Str.ofString "plain") = some (.int pl t1))
   (h : ∀ v t h' tk, v = (if low = 94 then 95 else pl - (if 62 < pl ∧ pl < 96 then 1 else 0)) → Fr h₀ L' h' (fun y => if y = Str.ofString "late" then some (.int v t) else m y) → News h₀ L' h' tl → Q .next { s with heap := h', toks := tk }) :
   wpAny (model PR w) ((ktrTop dp un gd cn cs L a ccd cl outer).deeper (placesE L')) (exec (nth placesB.1 2) (placesE L')) Q E s := by
  unfold placesE
  conv => arg 3; arg 1; whnf
  conv => arg 3; arg 2; arg 2; whnf
  conv => arg 2; arg 2; arg 2; whnf
  k_steps
  all_goals
    rename News h₀ L' _ _ => kN
    rename Fr h₀ L' _ _ => kF
    refine h _ _ _ _ ?_ kF kN
    clear h kF kN
    (try simp only [decide_eq_true_eq])
    (repeat' split) <;> omega
theorem p_rest (h₀ : Heap) (L L' : Addr) (m : Str → Option Value) (s : Shared) (Q : Flow → Shared → Prop) (E : Value → Shared → Prop)
   (x : Int) (tx t0 t1 t2 : Tok) (tl : List (Addr × Obj))
   (B : Below (ktrTop dp un gd cn cs L a ccd cl outer) base (envX cn cs L a ccd cl :: outer) h₀) (F : Fr h₀ L' s.heap m) (X : (hd.heap_39 w.params).In h₀) (N : News h₀ L' s.heap (tl))
   (T : Top p loose mean mg mb h₀) (hdp : dp + 20 < recursionLimit) (hun : un + 200 < cLine) (hB : AllBare s.gens)
   (mX : m (Str.ofString "x") = some (.int x tx)) (mL : m (Str.ofString "low") = some (.int (x % 128) t0)) (mP : m (Str.ofString "plain") = some (.int (plN x) t1)) (mT : m (Str.ofString "late") = some (.int (ltN x) t2))
   (h : ∀ D1 D2 l a t b u c v d y n h' tk, a = pl0a x → b = pl0b x → c = pl1a x → d = pl1b x → @LT.lt Nat _ D1 D2 → @LT.lt Nat _ D2 l → (∀ p ∈ tl, p.1 < D1) → Fr h₀ L' h' m → News h₀ L' h' ((l, listOf #[.ref D1, .ref D2] n) :: (D2, tupI c v d y) :: (D1, tupI a t b u) :: tl) → Q (.ret (.ref l)) { s with heap := h', toks := tk }) :
   wpAny (model PR w) ((ktrTop dp un gd cn cs L a ccd cl outer).deeper (placesE L')) (execs (placesB.1.drop 3) (placesE L')) Q E s := by
  unfold placesE
  conv => arg 3; arg 1; whnf
  conv => arg 3; arg 2; arg 2; whnf
  conv => arg 2; arg 2; arg 2; whnf
  have e256 := fm256 x
  k_steps
  all_goals
    rename News h₀ L' _ _ => kN
    rename Fr h₀ L' _ _ => kF
    refine h _ _ _ _ _ _ _ _ _ _ _ _ _ _ ?_ ?_ ?_ ?_ (by first | assumption | (rw [← e256]; assumption)) (by first | assumption | (rw [← e256]; assumption)) (by first | assumption | exact allLt_mem (by first | assumption | (rw [← e256]; assumption))) kF kN
  all_goals first
    | exact (if_pos (by first | assumption | (rw [← e256]; assumption))).symm
    | exact ((if_pos (by first | assumption | (rw [← e256]; assumption))).trans (if_pos (by first | assumption | (rw [← e256]; assumption)))).symm
    | exact ((if_pos (by first | assumption | (rw [← e256]; assumption))).trans (if_neg (by first | assumption | (rw [← e256]; assumption)))).symm
    | exact ((if_neg (by first | assumption | (rw [← e256]; assumption))).trans (if_pos (by first | assumption | (rw [← e256]; assumption)))).symm
    | exact ((if_neg (by first | assumption | (rw [← e256]; assumption))).trans ((if_neg (by first | assumption | (rw [← e256]; assumption))).trans (if_pos (by first | assumption | (rw [← e256]; assumption))))).symm
    | exact ((if_neg (by first | assumption | (rw [← e256]; assumption))).trans ((if_neg (by first | assumption | (rw [← e256]; assumption))).trans (if_neg (by first | assumption | (rw [← e256]; assumption))))).symm
    | exact ((if_neg (by first | assumption | (rw [← e256]; assumption))).trans (if_neg (by first | assumption | (rw [← e256]; assumption)))).symm
    | exact (if_neg (by first | assumption | (rw [← e256]; assumption))).symm
theorem lplaces (A₀ : Around) (h₀ : Heap) (L : Addr) (m : Str → Option Value) (s : Shared) (Q E : Value → Shared → Prop)
   (x : Int) (tk : Tok) (tl : List (Addr × Obj))
   (B : Below A₀ base outer h₀) (F : Fr h₀ L s.heap m) (X : (hd.heap_39 w.params).In h₀) (N : News h₀ L s.heap (tl))
   (T : Top p loose mean mg mb h₀) (hcs : cs.kind = .function) (hdp : dp + 20 < recursionLimit) (hun : un + 200 < cLine) (hB : AllBare s.gens)
   (hret : ∀ D1 D2 l a t b u c v d y n, a = pl0a x → b = pl0b x → c = pl1a x → d = pl1b x → @LT.lt Nat _ D1 D2 → @LT.lt Nat _ D2 l → (∀ p ∈ tl, p.1 < D1) → RetK h₀ L m ((l, listOf #[.ref D1, .ref D2] n) :: (D2, tupI c v d y) :: (D1, tupI a t b u) :: tl) s Q (.ref l)) :
   wpAny (model PR w) (ktrTop dp un gd cn cs L a ccd cl outer) (call (.ref 217) [.int x tk]) Q E s := by
  refine wpAny_call ?_
  k_dflt (refine' code_def (binds := [(Str.ofString "x", .int x tk)]) B F X N T ?kA ?kF ?kK ?k6 ?k7 ?k8 ?k9 ?kB ?_ ?c2 ?c3 ?c4 ?c5; (case kA => exact rfl); (case kF => exact rfl); (case kK => first | exact rfl | assumption); (case k6 => k_is); (case k7 => k_is); (case k8 => k_room); (case k9 => first | exact BindsTo.of_eq rfl | exact binds_K (by k_in) rfl (by k_is) rfl rfl rfl); (case c5 => decide); (case kB => exact locs rfl); (case c2 => exact rfl); (case c3 => exact rfl); (case c4 => exact rfl); k_whole; intro g' L' h' FG' F' N' B' X' T'; (try dsimp only); (try k_lift B'); (try k_fold))
  show wpAny (model PR w) ((ktrTop dp un gd cn cs L a ccd cl outer).deeper (placesE L')) (execs (placesB.1.drop 0) (placesE L')) _ _ _
  refine execs_at 0 (by decide) ?_
  refine p_low w p loose mean mg mb base dp un gd cn cs a ccd cl outer g' L L' _ _ _ _ x tk tl B' F' X' N' T' hdp hun hB rfl ?_
  intro t0 h1 tk1 F1 N1
  dsimp only
  refine execs_at 1 (by decide) ?_
  refine p_plain w p loose mean mg mb base dp un gd cn cs a ccd cl outer g' L L' _ _ _ _ x tk t0 tl B' F1 X' N1 T' hdp hun hB rfl rfl ?_
  intro v1 t1 h2 tk2 e1 F2 N2
  subst e1
  dsimp only
  refine execs_at 2 (by decide) ?_
  refine p_late w p loose mean mg mb base dp un gd cn cs a ccd cl outer g' L L' _ _ _ _ (x % 128) (plN x) t0 t1 tl B' F2 X' N2 T' hdp hun hB rfl rfl ?_
  intro v2 t2 h3 tk3 e2 F3 N3
  replace e2 : v2 = ltN x := e2
  subst e2
  dsimp only
  refine p_rest w p loose mean mg mb base dp un gd cn cs a ccd cl outer g' L L' _ _ _ _ x tk t0 t1 t2 tl B' F3 X' N3 T' hdp hun hB rfl rfl rfl rfl ?_
  intro D1 D2 l a1 u1 b1 u2 c1 u3 d1 u4 n h4 tk4 q1 q2 q3 q4 q5 q6 q7 F4 N4
  clear F1 F2 F3 N1 N2 N3 F' N'
  k_steps
  rename News h₀ L _ _ => kN
  rename Fr h₀ L _ m => kF
  exact hret D1 D2 l a1 u1 b1 u2 c1 u3 d1 u4 n q1 q2 q3 q4 q5 q6 q7 _ _ kF kN
end
section
example : True := by (k_with "14" => skip); (k_with "call builtin:chr" => (fail_if_success k_extra "15"); (k_dflt (refine chr_of_range ?_ ?_ ?_; (case _ => first | decide | k_room); (case _ => first | decide | k_room)))); trivial
theorem lword (A₀ : Around) (h₀ : Heap) (L : Addr) (m : Str → Option Value) (s : Shared) (Q E : Value → Shared → Prop)
   (x : Int) (tk : Tok) (tl : List (Addr × Obj))
   (B : Below A₀ base outer h₀) (F : Fr h₀ L s.heap m) (X : (hd.heap_39 w.params).In h₀) (N : News h₀ L s.heap (tl))
   (T : Top p loose mean mg mb h₀) (hcs : cs.kind = .function) (hdp : dp + 20 < recursionLimit) (hun : un + 200 < cLine) (hB : AllBare s.gens)
   (hret : ∀ t, RetK h₀ L m tl s Q (.str (wordOf x) t)) :
   wpAny (model PR w) (ktrTop dp un gd cn cs L a ccd cl outer) (call (.ref 210) [.int x tk]) Q E s := by
  refine wpAny_call ?_
  k_dflt (refine' code_def (binds := [(Str.ofString "x", .int x tk)]) B F X N T ?kA ?kF ?kK ?k6 ?k7 ?k8 ?k9 ?kB ?_ ?c2 ?c3 ?c4 ?c5; (case kA => exact rfl); (case kF => exact rfl); (case kK => first | exact rfl | assumption); (case k6 => k_is); (case k7 => k_is); (case k8 => k_room); (case k9 => first | exact BindsTo.of_eq rfl | exact binds_K (by k_in) rfl (by k_is) rfl rfl rfl); (case c5 => decide); (case kB => exact locs rfl); (case c2 => exact rfl); (case c3 => exact rfl); (case c4 => exact rfl); k_whole; intro g' L' h' FG' F' N' B' X' T'; (try dsimp only); (try k_lift B'); (try k_fold))
  k_steps
  all_goals (refine (congrArg (fun z => Q (Value.str z _) _) ?_).mpr (hret _ _ _ (by assumption) (by assumption)); first | exact wy1 (by k_room) | exact lw1 (by k_room) (by k_room) | exact lw2 (by k_room) (by k_room) | exact lw3 (by k_room) (by k_room) (by k_room) | exact lw4 (by k_room) (by k_room) (by k_room) | exact lw6 (by k_room) (by k_room) | exact lw7 (by k_room) (by k_room) (by k_room))
end
section
example : True := by (k_with "15" => skip); trivial
noncomputable abbrev dueE (L' : Addr) : Env := envOfC (Str.ofString "_law_due") dueS.1 L' 227 (.ref 226)
example : True := by (k_with "call ref" => (fail_if_success k_extra "16"); k_extra "st"); (k_with "eval Name" => (fail_if_success k_extra "16"); k_extra "en"); (k_with "call builtin:list.append" => (fail_if_success k_extra "16"); k_extra "ap"); trivial
theorem d_known (h₀ : Heap) (L L' : Addr) (m : Str → Option Value) (s : Shared) (Q : Flow → Shared → Prop) (E : Value → Shared → Prop)
   (ok ow : Obj) (tl : List (Addr × Obj))
   (B : Below (ktrTop dp un gd cn cs L a ccd cl outer) base (envX cn cs L a ccd cl :: outer) h₀) (F : Fr h₀ L' s.heap m) (X : (hd.heap_39 w.params).In h₀) (N : News h₀ L' s.heap ((L' + 1, ok) :: (L' + 2, ow) :: tl))
   (T : Top p loose mean mg mb h₀) (hdp : dp + 400 < recursionLimit) (hun : un + 4000 < cLine) (hB : AllBare s.gens)
   (hk : ok.data = .cell none) (hnt : ∀ q ∈ tl, q.1 ≠ L' + 1)
   (h : ∀ kn n ok' h' tk, (∀ q ∈ (L' + 1, ok) :: (L' + 2, ow) :: tl, q.1 < kn) → ok'.data = .cell (some (.ref kn)) → Fr h₀ L' h' m → News h₀ L' h' ((kn, listOf #[] n) :: (L' + 1, ok') :: (L' + 2, ow) :: tl) → Q .next { s with heap := h', toks := tk }) :
   wpAny (model PR w) ((ktrTop dp un gd cn cs L a ccd cl outer).deeper (dueE L')) (exec (nth dueB.1 0) (dueE L')) Q E s := by
  unfold dueE
  conv => arg 3; arg 1; whnf
  conv => arg 3; arg 2; arg 2; whnf
  conv => arg 2; arg 2; arg 2; whnf
  k_steps
  rename AllLt _ _ => lb
  refine h _ _ _ _ _ (fun q hq => ?_) (by assumption) (by assumption) (by assumption)
  revert q; refine fmc ?_ (fmc ?_ (fun q hq => ?_))
  · assumption
  · assumption
  · exact allLt_mem lb q hq
theorem d_page (h₀ : Heap) (L L' : Addr) (m : Str → Option Value) (s : Shared) (Q : Flow → Shared → Prop) (E : Value → Shared → Prop)
   (tl : List (Addr × Obj))
   (B : Below (ktrTop dp un gd cn cs L a ccd cl outer) base (envX cn cs L a ccd cl :: outer) h₀) (F : Fr h₀ L' s.heap m) (X : (hd.heap_39 w.params).In h₀) (N : News h₀ L' s.heap (tl))
   (T : Top p loose mean mg mb h₀) (hdp : dp + 400 < recursionLimit) (hun : un + 4000 < cLine) (hB : AllBare s.gens)
   (h : ∀ h' tk t, Fr h₀ L' h' (fun y => if y = Str.ofString "page" then some (.str (Str.ofString "") t) else m y) → News h₀ L' h' tl → Q .next { s with heap := h', toks := tk }) :
   wpAny (model PR w) ((ktrTop dp un gd cn cs L a ccd cl outer).deeper (dueE L')) (exec (nth dueB.1 3) (dueE L')) Q E s := by
  unfold dueE
  conv => arg 3; arg 1; whnf
  conv => arg 3; arg 2; arg 2; whnf
  conv => arg 2; arg 2; arg 2; whnf
  k_steps
  exact h _ _ _ (by assumption) (by assumption)
theorem d_scopes (h₀ : Heap) (L L' : Addr) (m : Str → Option Value) (s : Shared) (Q : Flow → Shared → Prop) (E : Value → Shared → Prop)
   (tl : List (Addr × Obj))
   (B : Below (ktrTop dp un gd cn cs L a ccd cl outer) base (envX cn cs L a ccd cl :: outer) h₀) (F : Fr h₀ L' s.heap m) (X : (hd.heap_39 w.params).In h₀) (N : News h₀ L' s.heap (tl))
   (T : Top p loose mean mg mb h₀) (hdp : dp + 400 < recursionLimit) (hun : un + 4000 < cLine) (hB : AllBare s.gens)
   (h : ∀ pg n h' tk, (∀ q ∈ tl, q.1 < pg) → Fr h₀ L' h' (fun y => if y = Str.ofString "scopes" then some (.ref pg) else m y) → News h₀ L' h' ((pg, listOf #[] n) :: tl) → Q .next { s with heap := h', toks := tk }) :
   wpAny (model PR w) ((ktrTop dp un gd cn cs L a ccd cl outer).deeper (dueE L')) (exec (nth dueB.1 1) (dueE L')) Q E s := by
  unfold dueE
  conv => arg 3; arg 1; whnf
  conv => arg 3; arg 2; arg 2; whnf
  conv => arg 2; arg 2; arg 2; whnf
  k_steps
  exact h _ _ _ _ (by first | assumption | exact allLt_mem (by assumption)) (by assumption) (by assumption)
theorem d_names (h₀ : Heap) (L L' : Addr) (m : Str → Option Value) (s : Shared) (Q : Flow → Shared → Prop) (E : Value → Shared → Prop)
   (tl : List (Addr × Obj))
   (B : Below (ktrTop dp un gd cn cs L a ccd cl outer) base (envX cn cs L a ccd cl :: outer) h₀) (F : Fr h₀ L' s.heap m) (X : (hd.heap_39 w.params).In h₀) (N : News h₀ L' s.heap (tl))
   (T : Top p loose mean mg mb h₀) (hdp : dp + 400 < recursionLimit) (hun : un + 4000 < cLine) (hB : AllBare s.gens)
   (h : ∀ pg n h' tk, (∀ q ∈ tl, q.1 < pg) → Fr h₀ L' h' (fun y => if y = Str.ofString "names" then some (.ref pg) else m y) → News h₀ L' h' ((pg, listOf #[] n) :: tl) → Q .next { s with heap := h', toks := tk }) :
   wpAny (model PR w) ((ktrTop dp un gd cn cs L a ccd cl outer).deeper (dueE L')) (exec (nth dueB.1 2) (dueE L')) Q E s := by
  unfold dueE
  conv => arg 3; arg 1; whnf
  conv => arg 3; arg 2; arg 2; whnf
  conv => arg 2; arg 2; arg 2; whnf
  k_steps
  exact h _ _ _ _ (by first | assumption | exact allLt_mem (by assumption)) (by assumption) (by assumption)
theorem e_fresh (h₀ : Heap) (L L' : Addr) (m : Str → Option Value) (s : Shared) (Q : Flow → Shared → Prop) (E : Value → Shared → Prop)
   (tl : List (Addr × Obj))
   (B : Below (ktrTop dp un gd cn cs L a ccd cl outer) base (envX cn cs L a ccd cl :: outer) h₀) (F : Fr h₀ L' s.heap m) (X : (hd.heap_39 w.params).In h₀) (N : News h₀ L' s.heap (tl))
   (T : Top p loose mean mg mb h₀) (hdp : dp + 400 < recursionLimit) (hun : un + 4000 < cLine) (hB : AllBare s.gens)
   (h : ∀ pg n h' tk, (∀ q ∈ tl, q.1 < pg) → Fr h₀ L' h' (fun y => if y = Str.ofString "fresh" then some (.ref pg) else m y) → News h₀ L' h' ((pg, listOf #[] n) :: tl) → Q .next { s with heap := h', toks := tk }) :
   wpAny (model PR w) ((ktrTop dp un gd cn cs L a ccd cl outer).deeper (dueE L')) (exec (nth dueF.1 2) (dueE L')) Q E s := by
  unfold dueE
  conv => arg 3; arg 1; whnf
  conv => arg 3; arg 2; arg 2; whnf
  conv => arg 2; arg 2; arg 2; whnf
  k_steps
  exact h _ _ _ _ (by first | assumption | exact allLt_mem (by assumption)) (by assumption) (by assumption)
theorem e_scopes (h₀ : Heap) (L L' : Addr) (m : Str → Option Value) (s : Shared) (Q : Flow → Shared → Prop) (E : Value → Shared → Prop)
   (sc fr : Addr) (scv : Array Value) (n : Nat) (tl : List (Addr × Obj))
   (B : Below (ktrTop dp un gd cn cs L a ccd cl outer) base (envX cn cs L a ccd cl :: outer) h₀) (F : Fr h₀ L' s.heap m) (X : (hd.heap_39 w.params).In h₀) (N : News h₀ L' s.heap ((sc, listOf scv n) :: tl))
   (T : Top p loose mean mg mb h₀) (hdp : dp + 400 < recursionLimit) (hun : un + 4000 < cLine) (hB : AllBare s.gens)
   (hz : scv.size ≤ 1000) (hnt : ∀ q ∈ tl, q.1 ≠ sc) (mS : m (Str.ofString "scopes") = some (.ref sc)) (mF : m (Str.ofString "fresh") = some (.ref fr))
   (h : ∀ n' h' tk, Fr h₀ L' h' m → News h₀ L' h' ((sc, listOf (scv.push (.ref fr)) n') :: tl) → Q .next { s with heap := h', toks := tk }) :
   wpAny (model PR w) ((ktrTop dp un gd cn cs L a ccd cl outer).deeper (dueE L')) (exec (nth dueF.1 4) (dueE L')) Q E s := by
  unfold dueE
  conv => arg 3; arg 1; whnf
  conv => arg 3; arg 2; arg 2; whnf
  conv => arg 2; arg 2; arg 2; whnf
  k_steps
  exact h _ _ _ (by assumption) (by assumption)
example : True := by (k_with "call ref" => (fail_if_success k_extra "16"); (k_here; k_dflt (refine' lpairs _ _ _ _ _ _ _ _ _ _ _ _ _ _ _ _ _ _ _ _ _ _ _ _ _ _ ?kB_r ?kF_r ?kX_r ?kN_r ?kT_r ?kc_r ?kd_r ?ku_r ?kb_r ?_; (case kB_r => k_asm); (case kF_r => k_asm); (case kX_r => k_asm); (case kN_r => k_asm); (case kT_r => k_asm); (case kc_r => rfl); (case kd_r => (dsimp only [ktrTop]; k_room)); (case ku_r => (dsimp only [ktrTop]; k_room)); (case kb_r => k_asm)); (intro _ _ _ _ _ _ _ _ _ _ _ _ _ _ _ _ _ _ _ _ _ _ _ _ _ _ _; (try dsimp only)))); trivial
theorem e_pairs (h₀ : Heap) (L L' : Addr) (m : Str → Option Value) (s : Shared) (Q : Flow → Shared → Prop) (E : Value → Shared → Prop)
   (x : Int) (tx : Tok) (tl : List (Addr × Obj))
   (B : Below (ktrTop dp un gd cn cs L a ccd cl outer) base (envX cn cs L a ccd cl :: outer) h₀) (F : Fr h₀ L' s.heap m) (X : (hd.heap_39 w.params).In h₀) (N : News h₀ L' s.heap (tl))
   (T : Top p loose mean mg mb h₀) (hdp : dp + 400 < recursionLimit) (hun : un + 4000 < cLine) (hB : AllBare s.gens)
   (mX : m (Str.ofString "x") = some (.int x tx))
   (h : ∀ D1 D2 D3 D4 l n a1 a2 a3 b1 b2 b3 c1 c2 c3 d1 d2 d3 h' tk, @LT.lt Nat _ D1 D2 → @LT.lt Nat _ D2 D3 → @LT.lt Nat _ D3 D4 → @LT.lt Nat _ D4 l → (∀ p ∈ tl, p.1 < D1) → Fr h₀ L' h' (fun y => if y = Str.ofString "pairs" then some (.ref l) else m y) → News h₀ L' h' ((l, listOf #[.ref D1, .ref D2, .ref D3, .ref D4] n) :: (D4, tupP (Str.ofString "a") a1 94 a2 fullS a3) :: (D3, tupP (Str.ofString "b") b1 33 b2 (chS (loC x)) b3) :: (D2, tupP (Str.ofString "c") c1 (x + 128) c2 (chS (wdC x)) c3) :: (D1, tupP (Str.ofString "d") d1 (hiN x) d2 (chS (hiN x)) d3) :: tl) → Q .next { s with heap := h', toks := tk }) :
   wpAny (model PR w) ((ktrTop dp un gd cn cs L a ccd cl outer).deeper (dueE L')) (exec (nth dueF.1 1) (dueE L')) Q E s := by
  unfold dueE
  conv => arg 3; arg 1; whnf
  conv => arg 3; arg 2; arg 2; whnf
  conv => arg 2; arg 2; arg 2; whnf
  k_steps
  rename News h₀ L' _ _ => kN
  refine' h _ _ _ _ _ _ _ _ _ _ _ _ _ _ _ _ _ _ _ _ ?a ?b ?c ?d ?e ?F ?N
  case N => exact kN
  case a => assumption
  case b => assumption
  case c => assumption
  case d => assumption
  case F => assumption
  case e => first | assumption | exact allLt_mem (by assumption)
end
section
example : True := by (k_with "16" => skip); (k_with "call ref" => (fail_if_success k_extra "17"); k_extra "st"); (k_with "eval Name" => (fail_if_success k_extra "17"); k_extra "en"); (k_with "exec For" => (fail_if_success k_extra "17"); k_extra "fr"); (k_with "pyIter ref" => (fail_if_success k_extra "17"); k_extra "st"); (k_with "call builtin:list.pop" => (fail_if_success k_extra "17"); k_extra "b7"); (k_with "call type:range" => (fail_if_success k_extra "17"); k_extra "st"); trivial
/-- the writer told so far, and the open elements' names -/
noncomputable def TJ (w : World) (wr wd tb pg a0 pa : Addr) (known : List Str) (st : List (Str × List Str)) (pcs : List Str) (ks : List Nat) (tl : List (Addr × Obj)) : Prop :=
  ∃ c sc tv0 opm ps nsl pgl palR n, TS w wr wd tb pg a0 c sc tv0 opm ps nsl pgl known st pcs tl ∧ (pa, listOf (List.reverse palR).toArray n) ∈ tl ∧ StrsAre palR (st.map fun e => qnameOf e.1 tS) ∧ ks = pa :: tkeys wr wd c tb pg a0 sc ∧ pa ∉ tkeys wr wd c tb pg a0 sc
theorem TS.keys {w : World} {wr wd tb pg a0 : Addr} {c : WC} {sc : List (Addr × Array Value)} {tv0 : Array Value} {opm : Obj} {ps : Array Value} {nsl pgl : List Value} {known : List Str} {st : List (Str × List Str)} {pcs : List Str} {tl : List (Addr × Obj)} (x : TS w wr wd tb pg a0 c sc tv0 opm ps nsl pgl known st pcs tl) :
    ∀ k ∈ tkeys wr wd c tb pg a0 sc, ∃ o, (k, o) ∈ tl := by
  obtain ⟨m1, m2, ⟨nd, m3⟩, m4, m5, ⟨na, m6⟩, ⟨nn, m7⟩, ⟨pn, m8⟩, m9, ⟨pgn, m10⟩, ⟨n0, m12⟩, hbase, hscs, _⟩ := x
  unfold tkeys
  refine fma (fmc ⟨_, m1⟩ (fmc ⟨_, m2⟩ (fmc ⟨_, m3⟩ (fmc ⟨_, m4⟩ (fmc ⟨_, m5⟩ (fmc ⟨_, m6⟩ (fmc ⟨_, m7⟩ (fmc ⟨_, m8⟩ (fmc ⟨_, m9⟩ (fmc ⟨_, m10⟩ (fmc ⟨_, m12⟩ (fun _ h => nomatch h)))))))))))) fun k hk => ?_
  · (refine e1a2 (List.mem_map.mp hk) fun q hq y3_ => ?_; obtain rfl := y3_)
    (refine ex1 (hscs.low q hq) fun n hn => ?_)
    exact ⟨_, hn⟩
theorem TJ.keys {w : World} {wr wd tb pg a0 pa : Addr} {known : List Str} {st : List (Str × List Str)} {pcs : List Str} {ks : List Nat} {tl : List (Addr × Obj)} (x : TJ w wr wd tb pg a0 pa known st pcs ks tl) : ∀ k ∈ ks, ∃ o, (k, o) ∈ tl := by
  (refine e9a5 x fun c sc tv0 opm ps nsl pgl palR n ts hpa hst y3_ hk => ?_; try clear x; obtain rfl := y3_)
  intro k hk
  rcases List.mem_cons.mp hk with rfl | hk
  · exact ⟨_, hpa⟩
  · exact ts.keys k hk
/-- how many elements a number ends -/
noncomputable def closeN (x : Int) (n : Nat) : Nat := min (x / 256 % 3).toNat (n - 1)
theorem closeN_eq (x : Int) (n : Nat) : (if (n : Int) - 1 < (x.fdiv 256).fmod 3 then (n : Int) - 1 else (x.fdiv 256).fmod 3).toNat = closeN x n := by
  have e : (x.fdiv 256).fmod 3 = x / 256 % 3 := by rw [fd256]; exact Int.fmod_eq_emod_of_nonneg _ (by decide)
  rw [e]
  unfold closeN
  have t : ((n : Int) - 1).toNat = n - 1 := Int.toNat_sub n 1
  split
  · next h => rw [t]; exact (Nat.min_eq_right (t ▸ Int.toNat_le_toNat (Int.le_of_lt h))).symm
  · next h => exact (Nat.min_eq_left (t ▸ Int.toNat_le_toNat (Int.not_lt.mp h))).symm
theorem news_off {h₀ h : Heap} {L : Addr} {ks : List Nat} {l : List (Addr × Obj)} (N : News h₀ L h l) : News h₀ L h (offL ks l) := fun p hp => N p (offL_sub hp)
theorem q_ends (h₀ : Heap) (L L' : Addr) (m : Str → Option Value) (s : Shared) (Q : Flow → Shared → Prop) (E : Value → Shared → Prop)
   (wr wd tb pg a0 pa : Addr) (x : Int) (tx : Tok) (known : List Str) (st : List (Str × List Str)) (pcs : List Str) (ks : List Nat) (tl : List (Addr × Obj))
   (B : Below (ktrTop dp un gd cn cs L a ccd cl outer) base (envX cn cs L a ccd cl :: outer) h₀) (F : Fr h₀ L' s.heap m) (X : (hd.heap_39 w.params).In h₀) (N : News h₀ L' s.heap (tl))
   (T : Top p loose mean mg mb h₀) (hdp : dp + 400 < recursionLimit) (hun : un + 4000 < cLine) (hB : AllBare s.gens)
   (tj : TJ w wr wd tb pg a0 pa known st pcs ks tl) (hpc : pcs.length ≤ 600) (mX : m (Str.ofString "x") = some (.int x tx)) (mP : m (Str.ofString "path") = some (.ref pa)) (mW : m (Str.ofString "writer") = some (.ref wr))
   (h : ∀ h' tk gens dr m' ks' tl', TJ w wr wd tb pg a0 pa known (st.drop (closeN x st.length)) (pcs ++ (st.take (closeN x st.length)).map fun e => endS_ known e.1) ks' tl' → (∀ k ∈ ks', k ∈ ks) → (∀ b o, (b, o) ∈ tl → b ∉ ks → (b, o) ∈ tl') → (∀ y, y ≠ Str.ofString "k" → m' y = m y) → AllBare gens → Fr h₀ L' h' m' → News h₀ L' h' tl' → Q .next { s with heap := h', toks := tk, gens := gens, drawn := dr }) :
   wpAny (model PR w) ((ktrTop dp un gd cn cs L a ccd cl outer).deeper (toldE L')) (exec (nth toldF.1 0) (toldE L')) Q E s := by
  unfold toldE
  conv => arg 3; arg 1; whnf
  conv => arg 3; arg 2; arg 2; whnf
  conv => arg 2; arg 2; arg 2; whnf
  have tj0 := tj
  (refine e9a5 tj fun c sc tv0 opm ps nsl pgl palR pn ts hpa hst hks hpk => ?_; try clear tj)
  have hpl : palR.length = st.length := by rw [strs_len hst, List.length_map]
  have hdl := ts.dl
  have hpz : (List.reverse palR).toArray.size ≤ 1000 := by simp; k_room
  have hsz : ((List.reverse palR).toArray.size : Int) < 2 ^ 63 := by k_room
  have Np : News h₀ L' s.heap ((pa, listOf (List.reverse palR).toArray pn) :: offL [pa] tl) := fun q hq => by
    rcases List.mem_cons.mp hq with rfl | hq
    · exact N _ hpa
    · exact N _ (offL_sub hq)
  have hpu : ∀ q ∈ tl, q ∈ (pa, listOf (List.reverse palR).toArray pn) :: offL [pa] tl := fun q hq => by
    by_cases e : q.1 = pa
    · obtain ⟨q1, q2⟩ := q
      simp only at e
      subst e
      rw [news_one N hq hpa]; exact .head _
    · exact .tail _ (offL_mem hq (by simpa using e))
  clear N
  k_steps
  rename News h₀ L' _ _ => kN
  rename Fr h₀ L' _ m => kF
  have hcl : closeN x st.length ≤ st.length - 1 := Nat.min_le_right _ _
  have hbe : (if ((List.reverse palR).toArray.size : Int) - 1 < (x.fdiv 256).fmod 3 then ((List.reverse palR).toArray.size : Int) - 1 else (x.fdiv 256).fmod 3).toNat = closeN x st.length := by
    have e : (List.reverse palR).toArray.size = st.length := by simp [hpl]
    rw [e]; exact closeN_eq x st.length
  have hb1 : -1000 < (if ((List.reverse palR).toArray.size : Int) - 1 < (x.fdiv 256).fmod 3 then ((List.reverse palR).toArray.size : Int) - 1 else (x.fdiv 256).fmod 3) ∧ (if ((List.reverse palR).toArray.size : Int) - 1 < (x.fdiv 256).fmod 3 then ((List.reverse palR).toArray.size : Int) - 1 else (x.fdiv 256).fmod 3) < 1000 := cl_bound (by assumption) _
  generalize (if ((List.reverse palR).toArray.size : Int) - 1 < (x.fdiv 256).fmod 3 then ((List.reverse palR).toArray.size : Int) - 1 else (x.fdiv 256).fmod 3) = bb at *
  refine hideJ (fun (i : Nat) (m₁ : Str → Option Value) (nw : List (Addr × Obj)) => (∃ ks', TJ w wr wd tb pg a0 pa known (st.drop i) (pcs ++ (st.take i).map fun e => endS_ known e.1) ks' nw ∧ (∀ k ∈ ks', k ∈ ks) ∧ ∀ b o, (b, o) ∈ tl → b ∉ ks → (b, o) ∈ nw) ∧ ∀ y, y ≠ Str.ofString "k" → m₁ y = m y) fun J_ hJ_ => ?_
  refine loop_range (L := L') (n₀ := 0) rfl rfl hb1.1 hb1.2
    J_ ?turn ?done kF (news := tl) (fun q hq => kN q (hpu q hq)) hB ((hJ_ _ _ _).mpr ⟨⟨ks, by simpa using tj0, fun _ h => h, fun _ _ h _ => h⟩, fun _ _ => rfl⟩) (Nat.zero_le _)
  case done =>
    intro m₁ nw h2 tk2 gens dr hz1_; (refine an2 ((hJ_ _ _ _).mp hz1_) fun y1_ hm' => ?_; clear hz1_; refine e1a3 y1_ fun ks' tj' hs' hf' => ?_; clear y1_); intro F2 N2 hB2 _
    rw [hbe] at tj'
    k_steps
    exact h _ _ gens dr m₁ ks' nw tj' hs' hf' hm' hB2 F2 N2
  case turn =>
    intro i ti m₁ nw I oI h2 tk2 gens dr hi hz1_; (refine an2 ((hJ_ _ _ _).mp hz1_) fun y1_ hm1 => ?_; clear hz1_; refine e1a3 y1_ fun ks1 tj1 hsub1 hfr1 => ?_; clear y1_); intro hoI off F2 N2 hB2 _
    rw [hbe] at hi
    obtain ⟨e, hde⟩ : ∃ e, st.drop i = e :: st.drop (i + 1) := ⟨_, List.drop_eq_getElem_cons (Nat.lt_of_lt_of_le hi (Nat.le_trans hcl (Nat.sub_le _ _)))⟩
    have hte : st.take (i + 1) = st.take i ++ [e] := by
      have : st[i]? = some e := by
        have h1 : (st.drop i)[0]? = some e := by rw [hde]; rfl
        rwa [List.getElem?_drop, Nat.add_zero] at h1
      exact take_snoc this
    rw [hde] at tj1
    (refine e9a5 tj1 fun c1 sc1 tv1 opm1 ps1 nsl1 pgl1 palR1 pn1 ts1 hpa1 hst1 hks1 hpk1 => ?_; try clear tj1)
    obtain ⟨u, tws⟩ := e
    obtain ⟨palR2, tn, rfl, hst2⟩ : ∃ palR2 tn, palR1 = Value.str (qnameOf u tS) tn :: palR2 ∧ StrsAre palR2 ((st.drop (i + 1)).map fun e => qnameOf e.1 tS) := by
      cases hst1 with
      | cons y t hr => exact exI2 _ t ⟨rfl, hr⟩
    rw [List.reverse_cons] at hpa1
    have hIk : I ∉ ks1 := by
      intro hk
      rw [hks1] at hk
      rcases List.mem_cons.mp hk with hk | hk
      · exact off _ hpa1 hk.symm
      · (refine ex1 (ts1.keys I hk) fun o ho => ?_)
        exact off _ ho rfl
    have hwr : @Ne Nat wr pa := fun e => hpk1 (by rw [← e]; unfold tkeys; k_data)
    have hwd : @Ne Nat wd pa := fun e => hpk1 (by rw [← e]; unfold tkeys; k_data)
    have hpz2 : palR2.reverse.length ≤ 1000 := by
      have := strs_len hst2
      rw [List.length_reverse, this, List.length_map, List.length_drop]; exact Nat.le_trans (Nat.sub_le _ _) (by k_room)
    have huq : ∀ {a : Addr} {o o' : Obj}, (a, o) ∈ (I, oI) :: nw → (a, o') ∈ (I, oI) :: nw → o = o' := fun h1 h2 => news_one N2 h1 h2
    refine hide (offL [wr, wd, pa] ((I, oI) :: nw)) fun rest hrest => ?_
    have N3 : News h₀ L' h2 ((wr, instObj 150 wd) :: (wd, wDict w c1) :: (pa, listOf (palR2.reverse ++ [Value.str (qnameOf u tS) tn]).toArray pn1) :: rest) := by
      intro q hq
      rw [hrest] at hq
      revert q; refine fmc ?_ (fmc ?_ (fmc ?_ (fun q hq => ?_)))
      · exact N2 _ (.tail _ ts1.m1)
      · exact N2 _ (.tail _ ts1.m2)
      · exact N2 _ (.tail _ hpa1)
      · exact N2 _ (offL_sub hq)
    have nr : ∀ q ∈ rest, q.1 ≠ pa := fun q hq e => by rw [hrest] at hq; exact offL_not hq (by rw [e]; k_data)
    have hmP : m₁ (Str.ofString "path") = some (.ref pa) := (hm1 _ (by decide)).trans mP
    have hmW : m₁ (Str.ofString "writer") = some (.ref wr) := (hm1 _ (by decide)).trans mW
    k_steps
    show wpAny (model PR w) _ (call _ _) _ _ _
    rename News h₀ L' _ _ => kN3
    rename Fr h₀ L' _ _ => kF3
    have ts2 : TS w wr wd tb pg a0 c1 sc1 tv1 opm1 ps1 nsl1 pgl1 known ((u, tws) :: st.drop (i + 1)) (pcs ++ (st.take i).map fun e => endS_ known e.1) ((wr, instObj 150 wd) :: (wd, wDict w c1) :: (pa, listOf palR2.reverse.toArray (pn1 + 1)) :: rest) := by
      refine ts1.keep fun b o hm hk => ?_
      by_cases e1 : b = wr
      · subst e1
        rw [huq (.tail _ hm) (.tail _ ts1.m1)]; exact .head _
      by_cases e2 : b = wd
      · subst e2
        rw [huq (.tail _ hm) (.tail _ ts1.m2)]; exact .tail _ (.head _)
      by_cases e3 : b = pa
      · subst e3
        rcases hk with hk | hk
        · exact absurd hk hpk1
        · rw [huq (.tail _ hm) (.tail _ hpa1)] at hk; exact absurd hk ess_list
      · exact .tail _ (.tail _ (.tail _ (by rw [hrest]; exact offL_mem (.tail _ hm) (by simp only [List.mem_cons, List.not_mem_nil, or_false, not_or]; exact ⟨e1, e2, e3⟩))))
    have hIr : (I, oI) ∈ rest := by
      rw [hrest]
      refine offL_mem (.head _) ?_
      simp only [List.mem_cons, List.not_mem_nil, or_false, not_or]
      exact ⟨fun e => off _ ts1.m1 e.symm, fun e => off _ ts1.m2 e.symm, fun e => off _ hpa1 e.symm⟩
    have hpl3 : (pcs ++ (st.take i).map fun e => endS_ known e.1).length < 800 := by
      rw [List.length_append, List.length_map, List.length_take]; exact Nat.lt_of_le_of_lt (Nat.add_le_add (show pcs.length ≤ 600 by assumption) (Nat.le_trans (Nat.min_le_right _ _) (show st.length ≤ 100 by first | assumption | k_room))) (by decide)
    refine t_end w p loose mean mg mb base _ _ _ _ _ _ _ _ _ _ _ _ _ _ _ _ wr wd tb pg a0 c1 sc1 tv1 opm1 ps1 nsl1 pgl1 known u tws (st.drop (i + 1)) _ _ tn B kF3 X kN3 T rfl (by dsimp only [ktrTop]; k_room) (by dsimp only [ktrTop]; k_room) hB2 ts2 hpl3 ?_
    intro b sc' opm' nsl' pgl' tl3 h3 tk3 gens3 ts3 hsc3 hfr3 hB3 F3 N3'
    refine wpAny_execs_nil ?_
    (refine ex1 hsc3 fun px y1_ => ?_; try clear hsc3; obtain rfl := y1_)
    have hI1 : (I, oI) ∈ tl3 := hfr3 _ _ (.tail _ (.tail _ (.tail _ hIr))) (fun hk => hIk (by rw [hks1]; exact .tail _ hk))
    have hp1 : (pa, listOf palR2.reverse.toArray (pn1 + 1)) ∈ tl3 := hfr3 _ _ (.tail _ (.tail _ (.head _))) hpk1
    have hIpa : I ≠ pa := fun e => off _ hpa1 e.symm
    have hsub3 : ∀ k ∈ tkeys wr wd { c1 with rd := b } tb pg a0 sc', k ∈ tkeys wr wd c1 tb pg a0 (px :: sc') := by
      intro k hk
      unfold tkeys at hk ⊢
      rcases List.mem_append.mp hk with hk | hk
      · exact List.mem_append_left _ hk
      · exact List.mem_append_right _ (.tail _ hk)
    refine stop_turn (gens := gens3) (dr := dr) (nw := offL [I] tl3) F3 (fun q hq => ?_) (fun q hq e => offL_not hq (by rw [e]; k_data)) hB3 ((hJ_ _ _ _).mpr ⟨⟨pa :: tkeys wr wd { c1 with rd := b } tb pg a0 sc', ⟨{ c1 with rd := b }, sc', tv1, opm', ps1, nsl', pgl', palR2, pn1 + 1, ?_, offL_mem hp1 (by simpa using hIpa.symm), hst2, rfl, fun hk => hpk1 (hsub3 _ hk)⟩, fun k hk => hsub1 k ?_, fun b2 o2 hm hk => ?_⟩, fun y hy => ?_⟩)
    · rcases List.mem_cons.mp hq with rfl | hq
      · exact N3' _ hI1
      · exact N3' _ (offL_sub hq)
    · rw [hte, List.map_append, ← List.append_assoc]
      refine ts3.keep fun b2 o2 hm hk => offL_mem hm ?_
      simp only [List.mem_cons, List.not_mem_nil, or_false]
      intro e2
      subst e2
      rcases hk with hk | hk
      · exact hIk (by rw [hks1]; exact .tail _ (hsub3 _ hk))
      · rw [news_one N3' hm hI1] at hk
        rcases hk with hk | ⟨vs, t, h1, h2⟩
        · rw [hoI.1] at hk; exact absurd hk (by decide)
        · (refine an2 hoI fun _ w1_ => ex3 w1_ fun ra rb rc hd => ?_; clear w1_; try clear hoI)
          rw [hd] at h1; injection h1 with h1; rw [← h1] at h2; simp [rawInt] at h2
    · rw [hks1]
      rcases List.mem_cons.mp hk with hk | hk
      · rw [hk]; exact .head _
      · exact .tail _ (hsub3 k hk)
    · have h1 := hfr1 b2 o2 hm hk
      have hbI : b2 ≠ I := off _ h1
      refine offL_mem (hfr3 b2 o2 ?_ (fun hk2 => hk (hsub1 _ (by rw [hks1]; exact .tail _ hk2)))) (by simpa using hbI)
      have hb3 : b2 ∉ ks1 := fun hk2 => hk (hsub1 _ hk2)
      rw [hks1] at hb3
      unfold tkeys at hb3
      simp only [List.mem_cons, List.cons_append, not_or] at hb3
      refine .tail _ (.tail _ (.tail _ ?_))
      rw [hrest]
      refine offL_mem (.tail _ h1) ?_
      simp only [List.mem_cons, List.not_mem_nil, or_false, not_or]
      exact ⟨hb3.2.1, hb3.2.2.1, hb3.1⟩
    · show (if y = Str.ofString "k" then _ else _) = _
      rw [if_neg hy]; exact hm1 y hy
end
section
example : True := by (k_with "17" => skip); (k_with "call ref" => (fail_if_success k_extra "18"); k_extra "st"); (k_with "eval Name" => (fail_if_success k_extra "18"); k_extra "en"); (k_with "exec For" => (fail_if_success k_extra "18"); k_extra "fr"); (k_with "pyIter ref" => (fail_if_success k_extra "18"); k_extra "st"); (k_with "call ref" => (fail_if_success k_extra "18"); (k_here; k_dflt (refine' unctrl_i _ _ _ _ _ _ _ _ _ _ _ _ _ _ _ _ _ _ _ _ _ _ _ _ _ _ ?kB_r ?kF_r ?kX_r ?kN_r ?kT_r ?kc_r ?kd_r ?ku_r ?kb_r ?_; (case kB_r => k_asm); (case kF_r => k_asm); (case kX_r => k_asm); (case kN_r => k_asm); (case kT_r => k_asm); (case kc_r => rfl); (case kd_r => (dsimp only [ktrTop]; k_room)); (case ku_r => (dsimp only [ktrTop]; k_room)); (case kb_r => k_asm)); (intro _ _ _ _ _; (try dsimp only)))); (k_with "call ref" => (fail_if_success k_extra "18"); (k_here; k_dflt (refine' unctrl_s _ _ _ _ _ _ _ _ _ _ _ _ _ _ _ _ _ _ _ _ _ _ _ _ _ _ ?kB_r ?kF_r ?kX_r ?kN_r ?kT_r ?kc_r ?kd_r ?ku_r ?kb_r ?kx_r ?_; (case kB_r => k_asm); (case kF_r => k_asm); (case kX_r => k_asm); (case kN_r => k_asm); (case kT_r => k_asm); (case kc_r => rfl); (case kd_r => (dsimp only [ktrTop]; k_room)); (case ku_r => (dsimp only [ktrTop]; k_room)); (case kb_r => k_asm); (case kx_r => first | decide | k_room | assumption)); (intro _ _ _ _ _; (try dsimp only)))); (k_with "call ref" => (fail_if_success k_extra "18"); (k_here; k_dflt (refine' lpairs _ _ _ _ _ _ _ _ _ _ _ _ _ _ _ _ _ _ _ _ _ _ _ _ _ _ ?kB_r ?kF_r ?kX_r ?kN_r ?kT_r ?kc_r ?kd_r ?ku_r ?kb_r ?_; (case kB_r => k_asm); (case kF_r => k_asm); (case kX_r => k_asm); (case kN_r => k_asm); (case kT_r => k_asm); (case kc_r => rfl); (case kd_r => (dsimp only [ktrTop]; k_room)); (case ku_r => (dsimp only [ktrTop]; k_room)); (case kb_r => k_asm)); (intro _ _ _ _ _ _ _ _ _ _ _ _ _ _ _ _ _ _ _ _ _ _ lDr _ _ _ _; (try k_lt lDr); (try dsimp only)))); (k_with "ite" => (fail_if_success k_extra "18"); (k_closed; k_dflt (first | refine ite_pos (by decide +kernel) ?_ | refine ite_neg (by decide +kernel) ?_))); (k_with "setItem ref str" => (fail_if_success k_extra "18"); (k_dflt (refine' kda_set (knd := PySem.strKind _ _) ?F_r ?N_r ?U_r ?d_r (strKind_is _ _ _ _) ?z_r ?_; (case F_r => k_asm); (case N_r => k_asm); (case U_r => k_updF); (case d_r => k_asm); (case z_r => (rw [sizeLine_eq]; k_room))); intro _ _ _ N'r _; (try dsimp only at N'r))); trivial
noncomputable def attrRows (x : Int) : List (Str × Str) := [(qnameOf (wordOf (hiN x : Int)) (Str.ofString "d"), chS (hiN x)), (qnameOf (wordOf (x + 128)) (Str.ofString "c"), chS (wdC x)), (qnameOf (wordOf 33) (Str.ofString "b"), chS (loC x)), (qnameOf (wordOf 94) (Str.ofString "a"), fullS)]
theorem sb {α} {q : α} {l r : List α} (h : q ∈ l) (k : ∀ z ∈ l, z ∈ r) : q ∈ r := k q h
theorem take_snoc_drop {α : Type} : ∀ {l : List α} {i : Nat} {a : α}, l[i]? = some a → l = l.take i ++ a :: l.drop (i + 1)
  | x :: l, 0, a, h => by simp at h; subst h; rfl
  | x :: l, i + 1, a, h => by
    have := take_snoc_drop (l := l) (i := i) (a := a) (by simpa using h)
    rw [List.take_succ_cons, List.drop_succ_cons, List.cons_append, ← this]
noncomputable def KVal (kvs : List (Str × Value)) (rs : List (Str × Str)) : Prop := A2 (fun q r => q.1 = r.1 ∧ ∃ t, q.2 = Value.str r.2 t) kvs rs
theorem KVal.snoc {k v : Str} {t : Tok} {qs rs} (h : KVal qs rs) : KVal (qs ++ [(k, Value.str v t)]) (rs ++ [(k, v)]) := A2.snoc ⟨rfl, t, rfl⟩ h
theorem KVal.keys {qs rs} (h : KVal qs rs) : qs.map (·.1) = rs.map (·.1) := A2.ind (P := fun (qs : List (Str × Value)) (rs : List (Str × Str)) => qs.map (·.1) = rs.map (·.1)) rfl (fun a b _ _ r _ ih => by rw [List.map_cons, List.map_cons, ih, r.1]) h
theorem KVal.stored {k v : Str} {t : Tok} {qs rs} (h : KVal qs rs) (hk : k ∉ rs.map (·.1)) : KVal (PySem.stored qs k (Value.str v t)) (rs ++ [(k, v)]) := by
  rw [stored_new (valueAt_none (by rw [h.keys]; exact hk))]
  exact h.snoc
theorem lOf_w {x : Int} {l : Str} (hl : l ∈ letters) : lOf (qnameOf (wordOf x) l) = l := lOf_q (wordOf_mem _) hl
theorem lOf_attr (x : Int) : (attrRows x).map (fun r => lOf r.1) = [Str.ofString "d", Str.ofString "c", Str.ofString "b", Str.ofString "a"] := by
  unfold attrRows
  have hd : Str.ofString "d" ∈ letters := by decide +kernel
  have hc : Str.ofString "c" ∈ letters := by decide +kernel
  have hb : Str.ofString "b" ∈ letters := by decide +kernel
  have ha : Str.ofString "a" ∈ letters := by decide +kernel
  simp only [List.map_cons, List.map_nil, lOf_w hd, lOf_w hc, lOf_w hb, lOf_w ha]
theorem nodup_of_map {α β : Type} {f : α → β} : ∀ {l : List α}, (l.map f).Nodup → l.Nodup
  | [], _ => List.nodup_nil
  | a :: l, h => by
    rw [List.map_cons, List.nodup_cons] at h
    exact List.nodup_cons.mpr ⟨fun hm => h.1 (List.mem_map_of_mem hm), nodup_of_map h.2⟩
theorem attr_nodup (x : Int) : ((attrRows x).map (·.1)).Nodup := by
  refine nodup_of_map (f := lOf) ?_
  have e : List.map lOf ((attrRows x).map (·.1)) = (attrRows x).map (fun r => lOf r.1) := by rw [List.map_map]; rfl
  rw [e, lOf_attr]; decide +kernel
theorem q_attrs (h₀ : Heap) (L L' : Addr) (m : Str → Option Value) (s : Shared) (Q : Flow → Shared → Prop) (E : Value → Shared → Prop)
   (ad : Addr) (od : Obj) (x : Int) (tx : Tok) (tl : List (Addr × Obj))
   (B : Below (ktrTop dp un gd cn cs L a ccd cl outer) base (envX cn cs L a ccd cl :: outer) h₀) (F : Fr h₀ L' s.heap m) (X : (hd.heap_39 w.params).In h₀) (N : News h₀ L' s.heap ((ad, od) :: tl))
   (T : Top p loose mean mg mb h₀) (hdp : dp + 400 < recursionLimit) (hun : un + 4000 < cLine) (hB : AllBare s.gens)
   (hod : Obj.IsDictOf (PySem.strKind PR w) od []) (mX : m (Str.ofString "x") = some (.int x tx)) (mA : m (Str.ofString "attributes") = some (.ref ad)) (hnt : ∀ q ∈ tl, q.1 ≠ ad)
   (h : ∀ h' tk gens dr m' od' kvs, Obj.IsDictOf (PySem.strKind PR w) od' kvs → KVal kvs (attrRows x) → (∀ y, y ∉ [Str.ofString "letter", Str.ofString "y", Str.ofString "value"] → m' y = m y) → AllBare gens → Fr h₀ L' h' m' → News h₀ L' h' ((ad, od') :: tl) → Q .next { s with heap := h', toks := tk, gens := gens, drawn := dr }) :
   wpAny (model PR w) ((ktrTop dp un gd cn cs L a ccd cl outer).deeper (toldE L')) (exec (nth toldF.1 2) (toldE L')) Q E s := by
  unfold toldE
  conv => arg 3; arg 1; whnf
  conv => arg 3; arg 2; arg 2; whnf
  conv => arg 2; arg 2; arg 2; whnf
  have hh := hiN_lt x
  k_steps
  rename News h₀ L' _ _ => kN
  rename Fr h₀ L' _ m => kF
  rename AllLt _ tl => lN
  have lM := allLt_mem lN
  rename_i D1 D2 D3 D4 l n a1 a2 a3 b1 b2 b3 c1 c2 c3 d1 d2 d3 i1 i2 i3 i4 hX kX i0
  refine hide ((l, listOf #[.ref D1, .ref D2, .ref D3, .ref D4] n) :: (D4, tupP (Str.ofString "a") a1 94 a2 fullS a3) :: (D3, tupP (Str.ofString "b") b1 33 b2 (chS (loC x)) b3) :: (D2, tupP (Str.ofString "c") c1 (x + 128) c2 (chS (wdC x)) c3) :: (D1, tupP (Str.ofString "d") d1 (hiN x) d2 (chS (hiN x)) d3) :: tl) fun tlA htlA => ?_
  have nA : ∀ q ∈ tlA, q.1 ≠ ad := by
    rw [htlA]
    refine fmc ?_ (fmc ?_ (fmc ?_ (fmc ?_ (fmc ?_ (fun q hq => ?_)))))
    · exact Nat.ne_of_gt (Nat.lt_trans i0 (Nat.lt_trans i1 (Nat.lt_trans i2 (Nat.lt_trans i3 i4))))
    · exact Nat.ne_of_gt (Nat.lt_trans i0 (Nat.lt_trans i1 (Nat.lt_trans i2 i3)))
    · exact Nat.ne_of_gt (Nat.lt_trans i0 (Nat.lt_trans i1 i2))
    · exact Nat.ne_of_gt (Nat.lt_trans i0 i1)
    · exact Nat.ne_of_gt i0
    · exact hnt q hq
  have hl : (l, listOf #[.ref D1, .ref D2, .ref D3, .ref D4] n) ∈ tlA := by rw [htlA]; k_data
  have hD4 : (D4, tupP (Str.ofString "a") a1 94 a2 fullS a3) ∈ tlA := by rw [htlA]; k_data
  have hD3 : (D3, tupP (Str.ofString "b") b1 33 b2 (chS (loC x)) b3) ∈ tlA := by rw [htlA]; k_data
  have hD2 : (D2, tupP (Str.ofString "c") c1 (x + 128) c2 (chS (wdC x)) c3) ∈ tlA := by rw [htlA]; k_data
  have hD1 : (D1, tupP (Str.ofString "d") d1 (hiN x) d2 (chS (hiN x)) d3) ∈ tlA := by rw [htlA]; k_data
  have hnd := attr_nodup x
  refine hideJ (fun (i : Nat) (m₁ : Str → Option Value) (nw : List (Addr × Obj)) => ∃ od' kvs, nw = (ad, od') :: tlA ∧ Obj.IsDictOf (PySem.strKind PR w) od' kvs ∧ KVal kvs ((attrRows x).take i) ∧ ∀ y, y ∉ [Str.ofString "letter", Str.ofString "y", Str.ofString "value"] → m₁ y = m y) fun J_ hJ_ => ?_
  refine loop_list (L := L') (n₀ := 0) (ax := l) (its := #[.ref D1, .ref D2, .ref D3, .ref D4]) rfl ?hgo rfl
    J_ ?hJS ?turn ?done kF (news := (ad, od) :: tlA) (fun q hq => kN q (by
      rw [htlA] at hq
      revert q; k_data)) hB ((hJ_ _ _ _).mpr ⟨od, [], rfl, hod, trivial, fun _ _ => rfl⟩) (Nat.zero_le _)
  case hgo =>
    intro s' v Q' I i hv st hq
    have : ∃ T, v = .ref T := arr4 (P := fun _ v => ∃ T, v = .ref T) hv ⟨_, rfl⟩ ⟨_, rfl⟩ ⟨_, rfl⟩ ⟨_, rfl⟩
    (refine ex1 this fun T' y1_ => ?_; try clear this; obtain rfl := y1_)
    exact wpAny_letOwnedTupleGo_listiter st hq
  case hJS =>
    intro i m₁ nw hz1_; (refine e2a2 ((hJ_ _ _ _).mp hz1_) fun od' kvs y3_ _ => ?_; clear hz1_; obtain rfl := y3_)
    exact .inr ⟨_, .tail _ hl, rfl, _, rfl⟩
  case done =>
    intro m₁ nw h2 tk2 gens dr hz1_; (refine e2a4 ((hJ_ _ _ _).mp hz1_) fun od' kvs y3_ hod' hkv hm' => ?_; clear hz1_; obtain rfl := y3_); intro F2 N2 hB2 _
    k_steps
    refine h _ _ gens dr m₁ od' kvs hod' (by simpa [attrRows] using hkv) hm' hB2 F2 (fun q hq => N2 q ?_)
    rw [htlA]
    revert q; k_data
  case turn =>
    intro i v m₁ nw I oI h2 tk2 gens dr hv hz1_; (refine e2a4 ((hJ_ _ _ _).mp hz1_) fun od' kvs y3_ hod' hkv hm' => ?_; clear hz1_; obtain rfl := y3_); intro hoI off F2 N2 hB2 _
    have hi : i < 4 := by
      rcases Nat.lt_or_ge i 4 with h | h
      · exact h
      · rw [Array.getElem?_eq_none (by simpa using h)] at hv; cases hv
    have hkl : kvs.length ≤ 4 := by
      have e := congrArg List.length hkv.keys
      rw [List.length_map, List.length_map, List.length_take] at e
      k_room
    have hIa : @Ne Nat I ad := Ne.symm (off (ad, od') (.head _))
    have hmA : m₁ (Str.ofString "attributes") = some (.ref ad) := (hm' _ (by decide)).trans mA
    have put : ∀ (k val : Str) (t : Tok) (o2 : Obj) (m2 : Str → Option Value) (hx : Heap) (tkx : Nat), (attrRows x)[i]? = some (k, val) → Obj.IsDictOf (PySem.strKind PR w) o2 (stored kvs k (.str val t)) → (∀ y, y ∉ [Str.ofString "letter", Str.ofString "y", Str.ofString "value"] → m2 y = m₁ y) → Fr h₀ L' hx m2 → News h₀ L' hx ((ad, o2) :: (I, oI) :: tlA) →
        Stop (∃ h₃ tk₃ gens₃ dr₃ m₃ news₃, ({ s with heap := hx, toks := tkx, gens := gens, drawn := dr } : Shared) = { s with heap := h₃, toks := tk₃, gens := gens₃, drawn := dr₃ } ∧ Fr h₀ L' h₃ m₃ ∧ News h₀ L' h₃ ((I, oI) :: news₃) ∧ (∀ p ∈ news₃, p.1 ≠ I) ∧ AllBare gens₃ ∧ J_ (i + 1) m₃ news₃) := by
      intro k val t o2 m2 hx tkx hr ho2 hm2 Fx Nx
      refine stop_turn (h := hx) (tk := tkx) (gens := gens) (dr := dr) (m := m2) (nw := (ad, o2) :: tlA) Fx (fun q hq => Nx q ?_) (fun q hq => ?_) hB2 ((hJ_ _ _ _).mpr (exI2 o2 _ (anI4 rfl ho2 ?_ (fun y hy => (hm2 y hy).trans (hm' y hy)))))
      · revert q; k_data
      · rcases List.mem_cons.mp hq with rfl | hq
        · exact Ne.symm hIa
        · exact off q (.tail _ hq)
      · rw [take_snoc hr]
        refine hkv.stored (fun hm => ?_)
        have h1 : (attrRows x).map (·.1) = ((attrRows x).take i ++ (k, val) :: (attrRows x).drop (i + 1)).map (·.1) := by
          rw [← take_snoc_drop hr]
        rw [h1, List.map_append, List.map_cons] at hnd
        exact (List.nodup_append.mp hnd).2.2 _ hm _ (.head _) rfl
    refine hide ((I, oI) :: tlA) fun rest hrest => ?_
    have nR : ∀ q ∈ rest, q.1 ≠ ad := by
      rw [hrest]
      exact fmc hIa nA
    clear htlA hnd hnt lN lM off hIa
    have hw1 : (wordOf (hiN x : Int)).length ≤ 3 := words_len _ (wordOf_mem _)
    have hw2 : (wordOf (((hiN x : Int).toNat : Nat) : Int)).length ≤ 3 := words_len _ (wordOf_mem _)
    have hw3 : (wordOf (x + 128)).length ≤ 3 := words_len _ (wordOf_mem _)
    match i, hv, put with
    | 0, hv, put =>
      obtain rfl : v = .ref D1 := by simpa using hv.symm
      have N3 : News h₀ L' h2 ((D1, tupP (Str.ofString "d") d1 (hiN x) d2 (chS (hiN x)) d3) :: (ad, od') :: rest) := fun q hq => by
        rcases List.mem_cons.mp hq with rfl | hq
        · exact N2 _ (.tail _ (.tail _ hD1))
        · rw [hrest] at hq
          exact N2 q (sb hq (by k_data))
      have nD : @Ne Nat D1 ad := (Nat.ne_of_gt i0)
      clear N2 kN hD1 hD2 hD3 hD4 hl
      k_steps
      rename News h₀ L' _ _ => kN4
      rename Fr h₀ L' _ _ => kF4
      exact put _ _ _ _ _ _ _ rfl (by assumption) (fun y hy => by
        simp only [List.mem_cons, List.not_mem_nil, or_false, not_or] at hy
        (refine an3 hy fun y1 y2 y3 => ?_; try clear hy)
        simp only [if_neg y1, if_neg y2, if_neg y3]) kF4 (fun q hq => kN4 q (by
          rw [hrest]; revert q; k_data))
    | 1, hv, put =>
      obtain rfl : v = .ref D2 := by simpa using hv.symm
      have N3 : News h₀ L' h2 ((D2, tupP (Str.ofString "c") c1 (x + 128) c2 (chS (wdC x)) c3) :: (ad, od') :: rest) := fun q hq => by
        rcases List.mem_cons.mp hq with rfl | hq
        · exact N2 _ (.tail _ (.tail _ hD2))
        · rw [hrest] at hq
          exact N2 q (sb hq (by k_data))
      have nD : @Ne Nat D2 ad := (Nat.ne_of_gt (Nat.lt_trans i0 i1))
      clear N2 kN hD1 hD2 hD3 hD4 hl
      k_steps
      rename News h₀ L' _ _ => kN4
      rename Fr h₀ L' _ _ => kF4
      exact put _ _ _ _ _ _ _ rfl (by assumption) (fun y hy => by
        simp only [List.mem_cons, List.not_mem_nil, or_false, not_or] at hy
        (refine an3 hy fun y1 y2 y3 => ?_; try clear hy)
        simp only [if_neg y1, if_neg y2, if_neg y3]) kF4 (fun q hq => kN4 q (by
          rw [hrest]; revert q; k_data))
    | 2, hv, put =>
      obtain rfl : v = .ref D3 := by simpa using hv.symm
      have N3 : News h₀ L' h2 ((D3, tupP (Str.ofString "b") b1 33 b2 (chS (loC x)) b3) :: (ad, od') :: rest) := fun q hq => by
        rcases List.mem_cons.mp hq with rfl | hq
        · exact N2 _ (.tail _ (.tail _ hD3))
        · rw [hrest] at hq
          exact N2 q (sb hq (by k_data))
      have nD : @Ne Nat D3 ad := (Nat.ne_of_gt (Nat.lt_trans i0 (Nat.lt_trans i1 i2)))
      clear N2 kN hD1 hD2 hD3 hD4 hl
      k_steps
      rename News h₀ L' _ _ => kN4
      rename Fr h₀ L' _ _ => kF4
      exact put _ _ _ _ _ _ _ rfl (by assumption) (fun y hy => by
        simp only [List.mem_cons, List.not_mem_nil, or_false, not_or] at hy
        (refine an3 hy fun y1 y2 y3 => ?_; try clear hy)
        simp only [if_neg y1, if_neg y2, if_neg y3]) kF4 (fun q hq => kN4 q (by
          rw [hrest]; revert q; k_data))
    | 3, hv, put =>
      obtain rfl : v = .ref D4 := by simpa using hv.symm
      have N3 : News h₀ L' h2 ((D4, tupP (Str.ofString "a") a1 94 a2 fullS a3) :: (ad, od') :: rest) := fun q hq => by
        rcases List.mem_cons.mp hq with rfl | hq
        · exact N2 _ (.tail _ (.tail _ hD4))
        · rw [hrest] at hq
          exact N2 q (sb hq (by k_data))
      have nD : @Ne Nat D4 ad := (Nat.ne_of_gt (Nat.lt_trans i0 (Nat.lt_trans i1 (Nat.lt_trans i2 i3))))
      clear N2 kN hD1 hD2 hD3 hD4 hl
      k_steps
      rename News h₀ L' _ _ => kN4
      rename Fr h₀ L' _ _ => kF4
      exact put _ _ _ _ _ _ _ rfl (by assumption) (fun y hy => by
        simp only [List.mem_cons, List.not_mem_nil, or_false, not_or] at hy
        (refine an3 hy fun y1 y2 y3 => ?_; try clear hy)
        simp only [if_neg y1, if_neg y2, if_neg y3]) kF4 (fun q hq => kN4 q (by
          rw [hrest]; revert q; k_data))
    | i + 4, hv, put => k_room
end
section
example : True := by (k_with "18" => skip); (k_with "call ref" => (fail_if_success k_extra "19"); k_extra "st"); (k_with "eval Name" => (fail_if_success k_extra "19"); k_extra "en"); (k_with "call builtin:list.append" => (fail_if_success k_extra "19"); k_extra "ap"); (k_with "call ref" => (fail_if_success k_extra "19"); (k_here; k_dflt (refine' unctrl_i _ _ _ _ _ _ _ _ _ _ _ _ _ _ _ _ _ _ _ _ _ _ _ _ _ _ ?kB_r ?kF_r ?kX_r ?kN_r ?kT_r ?kc_r ?kd_r ?ku_r ?kb_r ?_; (case kB_r => k_asm); (case kF_r => k_asm); (case kX_r => k_asm); (case kN_r => k_asm); (case kT_r => k_asm); (case kc_r => rfl); (case kd_r => (dsimp only [ktrTop]; k_room)); (case ku_r => (dsimp only [ktrTop]; k_room)); (case kb_r => k_asm)); (intro _ _ _ _ _; (try dsimp only)))); (k_with "subscriptTail Name UnaryOp ref int" => (fail_if_success k_extra "19"); k_extra "b4"); trivial
theorem qn_t (u : Str) : Str.ofString "{" ++ u ++ Str.ofString "}t" = qnameOf u tS := by
  unfold qnameOf tS
  rw [Str.append_assoc (Str.ofString "{" ++ u), show Str.ofString "}t" = Str.ofString "}" ++ Str.ofString "t" by decide +kernel]
theorem q_new (h₀ : Heap) (L L' : Addr) (m : Str → Option Value) (s : Shared) (Q : Flow → Shared → Prop) (E : Value → Shared → Prop)
   (tl : List (Addr × Obj))
   (B : Below (ktrTop dp un gd cn cs L a ccd cl outer) base (envX cn cs L a ccd cl :: outer) h₀) (F : Fr h₀ L' s.heap m) (X : (hd.heap_39 w.params).In h₀) (N : News h₀ L' s.heap (tl))
   (T : Top p loose mean mg mb h₀) (hdp : dp + 400 < recursionLimit) (hun : un + 4000 < cLine) (hB : AllBare s.gens)
   (h : ∀ ad od h' tk, (∀ q ∈ tl, q.1 < ad) → Obj.IsDictOf (PySem.strKind PR w) od [] → (ad == sysModules) = false → Fr h₀ L' h' (fun y => if y = Str.ofString "attributes" then some (.ref ad) else m y) → News h₀ L' h' ((ad, od) :: tl) → Q .next { s with heap := h', toks := tk }) :
   wpAny (model PR w) ((ktrTop dp un gd cn cs L a ccd cl outer).deeper (toldE L')) (exec (nth toldF.1 1) (toldE L')) Q E s := by
  unfold toldE
  conv => arg 3; arg 1; whnf
  conv => arg 3; arg 2; arg 2; whnf
  conv => arg 2; arg 2; arg 2; whnf
  k_steps
  exact h _ _ _ _ (by first | assumption | exact allLt_mem (by assumption)) (by assumption) (by assumption) (by assumption) (by assumption)
theorem q_path (h₀ : Heap) (L L' : Addr) (m : Str → Option Value) (s : Shared) (Q : Flow → Shared → Prop) (E : Value → Shared → Prop)
   (pa : Addr) (pav : Array Value) (pn : Nat) (x : Int) (tx : Tok) (tl : List (Addr × Obj))
   (B : Below (ktrTop dp un gd cn cs L a ccd cl outer) base (envX cn cs L a ccd cl :: outer) h₀) (F : Fr h₀ L' s.heap m) (X : (hd.heap_39 w.params).In h₀) (N : News h₀ L' s.heap ((pa, listOf pav pn) :: tl))
   (T : Top p loose mean mg mb h₀) (hdp : dp + 400 < recursionLimit) (hun : un + 4000 < cLine) (hB : AllBare s.gens)
   (mX : m (Str.ofString "x") = some (.int x tx)) (mP : m (Str.ofString "path") = some (.ref pa)) (hpz : pav.size ≤ 1000) (hnt : ∀ q ∈ tl, q.1 ≠ pa)
   (h : ∀ h' tk t pn', Fr h₀ L' h' m → News h₀ L' h' ((pa, listOf (pav.push (.str (qnameOf (wordOf x) tS) t)) pn') :: tl) → Q .next { s with heap := h', toks := tk }) :
   wpAny (model PR w) ((ktrTop dp un gd cn cs L a ccd cl outer).deeper (toldE L')) (exec (nth toldF.1 3) (toldE L')) Q E s := by
  unfold toldE
  conv => arg 3; arg 1; whnf
  conv => arg 3; arg 2; arg 2; whnf
  conv => arg 2; arg 2; arg 2; whnf
  have hw := words_len _ (wordOf_mem x)
  have hq := qn_t (wordOf x)
  k_steps
  rename News h₀ L' _ _ => kN
  rename Fr h₀ L' _ m => kF
  rw [hq] at kN
  exact h _ _ _ _ kF kN
theorem q_call (h₀ : Heap) (L L' : Addr) (m : Str → Option Value) (s : Shared) (Q : Flow → Shared → Prop) (E : Value → Shared → Prop)
   (c : WC) (wr wd pa ad : Addr) (pav : Array Value) (pn : Nat) (nm : Str) (tn : Tok) (tl : List (Addr × Obj))
   (B : Below (ktrTop dp un gd cn cs L a ccd cl outer) base (envX cn cs L a ccd cl :: outer) h₀) (F : Fr h₀ L' s.heap m) (X : (hd.heap_39 w.params).In h₀) (N : News h₀ L' s.heap ((wr, instObj 150 wd) :: (wd, wDict w c) :: (pa, listOf pav pn) :: tl))
   (T : Top p loose mean mg mb h₀) (hdp : dp + 400 < recursionLimit) (hun : un + 4000 < cLine) (hB : AllBare s.gens)
   (mW : m (Str.ofString "writer") = some (.ref wr)) (mP : m (Str.ofString "path") = some (.ref pa)) (mA : m (Str.ofString "attributes") = some (.ref ad)) (hl : pav[pav.size - 1]? = some (.str nm tn)) (hp0 : 0 < pav.size)
   (h : ∀ h' tk, Fr h₀ L' h' m → News h₀ L' h' ((wr, instObj 150 wd) :: (wd, wDict w c) :: (pa, listOf pav pn) :: tl) → ∀ Q' : Value → Shared → Prop, (∀ s'', Q .next s'' → Q' .none s'') → wpAny (model PR w) ((ktrTop dp un gd cn cs L a ccd cl outer).deeper (toldE L')) (call (.ref 120) [.ref wr, .str nm tn, .ref ad]) Q' E { s with heap := h', toks := tk }) :
   wpAny (model PR w) ((ktrTop dp un gd cn cs L a ccd cl outer).deeper (toldE L')) (exec (nth toldF.1 4) (toldE L')) Q E s := by
  unfold toldE
  conv => arg 3; arg 1; whnf
  conv => arg 3; arg 2; arg 2; whnf
  conv => arg 2; arg 2; arg 2; whnf
  k_steps
  show wpAny (model PR w) _ (call _ _) _ _ _
  exact h _ _ (by assumption) (by assumption) _ (fun s'' hq => hq)
end
section
example : True := by (k_with "19" => skip); trivial
/-- what a turn's start makes of a number -/
noncomputable def SF (x : Int) (known lw : List Str) (names : List Str) (krows arows : List (Str × Str)) : Prop :=
  names.Perm (qnameOf (wordOf x) tS :: (attrRows x).map (·.1)) ∧ names.Pairwise (fun x y => klt2 (kaOf y) (kbOf y) (kaOf x) (kbOf x) = false) ∧ krows.Perm (attrRows x) ∧ SortedR krows ∧ arows.Perm (xmRows (pairsOf (stK known names) (stT [] lw names))) ∧ SortedR arows
noncomputable def startP (x : Int) (known : List Str) (names : List Str) (krows arows : List (Str × Str)) : List Str :=
  [Str.ofString "<" ++ pnm (nmK (stK known names) (wordOf x)) tS, catS ((arows ++ itRows (stK known names) krows).map fmtRow), Str.ofString ">"]
theorem turn_nodup (x : Int) : (qnameOf (wordOf x) tS :: (attrRows x).map (·.1)).Nodup := by
  refine nodup_of_map (f := lOf) ?_
  have e : List.map lOf (qnameOf (wordOf x) tS :: (attrRows x).map (·.1)) = Str.ofString "t" :: (attrRows x).map (fun r => lOf r.1) := by
    rw [List.map_cons, List.map_map, lOf_w (show tS ∈ letters by decide +kernel)]; rfl
  rw [e, lOf_attr]; decide +kernel
theorem turn_names (x : Int) : ∀ n ∈ qnameOf (wordOf x) tS :: (attrRows x).map (·.1), ∃ u ∈ words, ∃ l ∈ letters, n = qnameOf u l := by
  intro n hn
  unfold attrRows at hn
  revert n; refine fmc ?_ (fmc ?_ (fmc ?_ (fmc ?_ (fmc ?_ (fun _ h => nomatch h)))))
  · exact ⟨_, wordOf_mem _, _, by decide +kernel, rfl⟩
  · exact ⟨_, wordOf_mem _, _, by decide +kernel, rfl⟩
  · exact ⟨_, wordOf_mem _, _, by decide +kernel, rfl⟩
  · exact ⟨_, wordOf_mem _, _, by decide +kernel, rfl⟩
  · exact ⟨_, wordOf_mem _, _, by decide +kernel, rfl⟩
theorem attr_vals (x : Int) : ∀ v ∈ (attrRows x).map (·.2), v.length ≤ 20 := by
  intro v hv
  unfold attrRows at hv
  revert v; refine fmc ?_ (fmc ?_ (fmc ?_ (fmc ?_ (fun _ h => nomatch h))))
  · exact show 1 ≤ 20 by decide
  · exact show 1 ≤ 20 by decide
  · exact show 1 ≤ 20 by decide
  · decide +kernel
theorem KVal.inv {kvs : List (Str × Value)} {k v : Str} {r : List (Str × Str)} (h : KVal kvs ((k, v) :: r)) : ∃ z l, kvs = (k, .str v z) :: l ∧ KVal l r :=
  e2a3 (A2.inv h) fun a l e r1 h => an2 r1 fun e1 w => ex1 w fun z e2 => exI2 z l ⟨e.trans (congrArg (· :: l) (Prod.ext e1 e2)), h⟩
theorem KVal.four {kvs : List (Str × Value)} {k1 k2 k3 k4 v1 v2 v3 v4 : Str} (h : KVal kvs [(k1, v1), (k2, v2), (k3, v3), (k4, v4)]) : ∃ z1 z2 z3 z4, kvs = [(k1, .str v1 z1), (k2, .str v2 z2), (k3, .str v3 z3), (k4, .str v4 z4)] := by
  (refine e2a2 (KVal.inv h) fun z1 l1 e1 h1 => e2a2 (KVal.inv h1) fun z2 l2 e2 h2 => e2a2 (KVal.inv h2) fun z3 l3 e3 h3 => e2a2 (KVal.inv h3) fun z4 l4 e4 h4 => ?_)
  rw [e1, e2, e3, e4, A2.nil h4]; exact exI4 z1 z2 z3 z4 rfl
theorem told_turn (h₀ : Heap) (L L' : Addr) (m : Str → Option Value) (s : Shared) (Q : Flow → Shared → Prop) (E : Value → Shared → Prop)
   (wr wd tb pg a0 pa : Addr) (x : Int) (tx : Tok) (known : List Str) (st : List (Str × List Str)) (pcs : List Str) (ks : List Nat) (tl : List (Addr × Obj))
   (B : Below (ktrTop dp un gd cn cs L a ccd cl outer) base (envX cn cs L a ccd cl :: outer) h₀) (F : Fr h₀ L' s.heap m) (X : (hd.heap_39 w.params).In h₀) (N : News h₀ L' s.heap tl)
   (T : Top p loose mean mg mb h₀) (hdp : dp + 500 < recursionLimit) (hun : un + 5000 < cLine) (hB : AllBare s.gens)
   (tj : TJ w wr wd tb pg a0 pa known st pcs ks tl) (hpc : pcs.length ≤ 400) (hkl : known.length ≤ 20) (hst : st.length ≤ 50) (hC : Stop (CodeHd base 125 tb))
   (mX : m (Str.ofString "x") = some (.int x tx)) (mP : m (Str.ofString "path") = some (.ref pa)) (mW : m (Str.ofString "writer") = some (.ref wr))
   (h : ∀ (names : List Str) (krows arows : List (Str × Str)) (h' : Heap) (tk : Nat) (gens : Array GenState) (dr : Drawn) (m' : Str → Option Value) (ks' : List Nat) (tl' : List (Addr × Obj)),
     SF x known ((st.drop (closeN x st.length)).flatMap (·.2)) names krows arows →
     TJ w wr wd tb pg a0 pa (stK known names) ((wordOf x, stT [] ((st.drop (closeN x st.length)).flatMap (·.2)) names) :: st.drop (closeN x st.length)) (pcs ++ ((st.take (closeN x st.length)).map fun e => endS_ known e.1) ++ startP x known names krows arows) ks' tl' →
     (∀ b o, (b, o) ∈ tl → b ∉ ks → (b, o) ∈ tl' ∧ b ∉ ks') → (∀ y, y ∉ [Str.ofString "k", Str.ofString "attributes", Str.ofString "letter", Str.ofString "y", Str.ofString "value"] → m' y = m y) → AllBare gens → Fr h₀ L' h' m' → News h₀ L' h' tl' → Q .next { s with heap := h', toks := tk, gens := gens, drawn := dr }) :
   wpAny (model PR w) ((ktrTop dp un gd cn cs L a ccd cl outer).deeper (toldE L')) (execs (toldF.1.drop 0) (toldE L')) Q E s := by
  refine execs_at 0 (by decide) ?_
  refine q_ends w p loose mean mg mb base dp un gd cn cs a ccd cl outer h₀ L L' _ _ _ _ wr wd tb pg a0 pa x tx known st pcs ks tl B F X N T (by k_room) (by k_room) hB tj (by k_room) mX mP mW ?_
  intro h1 tk1 gens1 dr1 m1 ks1 tl1 tj1 hks1 hfr1 hm1 hB1 F1 N1
  dsimp only
  have hn1 : st.length - closeN x st.length = (st.drop (closeN x st.length)).length := by rw [List.length_drop]
  have hcl : closeN x st.length ≤ st.length := Nat.le_trans (Nat.min_le_right _ _) (Nat.sub_le _ _)
  have hpc1 : (pcs ++ (st.take (closeN x st.length)).map fun e => endS_ known e.1).length ≤ 600 := by
    rw [List.length_append, List.length_map, List.length_take]; k_room
  generalize hst1 : st.drop (closeN x st.length) = st1 at *
  generalize hpcs1 : (pcs ++ (st.take (closeN x st.length)).map fun e => endS_ known e.1) = pcs1 at *
  refine execs_at 1 (by decide) ?_
  refine q_new w p loose mean mg mb base dp un gd cn cs a ccd cl outer h₀ L L' _ _ _ _ tl1 B F1 X N1 T (by k_room) (by k_room) hB1 ?_
  intro ad od h2 tk2 hlt hod hsm F2 N2
  dsimp only
  refine execs_at 2 (by decide) ?_
  refine q_attrs w p loose mean mg mb base dp un gd cn cs a ccd cl outer h₀ L L' _ _ _ _ ad od x tx tl1 B F2 X N2 T (by k_room) (by k_room) hB1 hod ((hm1 _ (by decide)).trans mX) rfl (fun q hq => Nat.ne_of_lt (hlt q hq)) ?_
  intro h3 tk3 gens3 dr3 m3 od' kvs hod' hkv hm3 hB3 F3 N3
  dsimp only
  (refine e9a5 tj1 fun c sc tv0 opm ps nsl pgl palR pn ts hpa hpS y3_ hpk => ?_; try clear tj1; obtain rfl := y3_)
  have adk : ∀ k ∈ pa :: tkeys wr wd c tb pg a0 sc, k < ad := by
    intro k hk
    rcases List.mem_cons.mp hk with rfl | hk
    · exact hlt _ hpa
    · (refine ex1 (ts.keys k hk) fun o ho => ?_)
      exact hlt _ ho
  have m3X : m3 (Str.ofString "x") = some (.int x tx) := (hm3 _ (by decide)).trans ((hm1 _ (by decide)).trans mX)
  have m3P : m3 (Str.ofString "path") = some (.ref pa) := (hm3 _ (by decide)).trans ((hm1 _ (by decide)).trans mP)
  have m3W : m3 (Str.ofString "writer") = some (.ref wr) := (hm3 _ (by decide)).trans ((hm1 _ (by decide)).trans mW)
  have m3A : m3 (Str.ofString "attributes") = some (.ref ad) := (hm3 _ (by decide)).trans rfl
  refine hide ((ad, od') :: tl1) fun tlB htlB => ?_
  rw [← htlB] at N3
  have adm : (ad, od') ∈ tlB := by rw [htlB]; exact .head _
  have sB : ∀ q ∈ tl1, q ∈ tlB := fun q hq => by rw [htlB]; exact .tail _ hq
  have hpaB := sB _ hpa
  have tsB : TS w wr wd tb pg a0 c sc tv0 opm ps nsl pgl known st1 pcs1 tlB := ts.keep fun b o hm _ => sB _ hm
  have hpl : palR.length = st1.length := by rw [strs_len hpS, List.length_map]
  have hst1l : st1.length ≤ 50 := by k_room
  have N4 : News h₀ L' h3 ((pa, listOf (List.reverse palR).toArray pn) :: offL [pa] tlB) := fun q hq => by
    rcases List.mem_cons.mp hq with rfl | hq
    · exact N3 _ hpaB
    · exact N3 _ (offL_sub hq)
  have huq : ∀ {a : Addr} {o o' : Obj}, (a, o) ∈ tlB → (a, o') ∈ tlB → o = o' := fun h1 h2 => news_one N3 h1 h2
  refine execs_at 3 (by decide) ?_
  refine q_path w p loose mean mg mb base dp un gd cn cs a ccd cl outer h₀ L L' _ _ _ _ pa (List.reverse palR).toArray pn x tx _ B F3 X N4 T (by k_room) (by k_room) hB3 m3X m3P (by rw [List.size_toArray, List.length_reverse]; k_room) (fun q hq e => offL_not hq (by rw [e]; simp)) ?_
  intro h5 tk5 tn pn5 F5 N5
  dsimp only
  rw [show (List.reverse palR).toArray.push (Value.str (qnameOf (wordOf x) tS) tn) = (List.reverse (Value.str (qnameOf (wordOf x) tS) tn :: palR)).toArray by simp] at N5
  have hwr : wr ≠ pa := fun e => hpk (by rw [← e]; unfold tkeys; k_data)
  have hwd : wd ≠ pa := fun e => hpk (by rw [← e]; unfold tkeys; k_data)
  refine hide ((wr, instObj 150 wd) :: (wd, wDict w c) :: (pa, listOf (List.reverse (Value.str (qnameOf (wordOf x) tS) tn :: palR)).toArray pn5) :: offL [wr, wd, pa] tlB) fun tl4 htl4 => ?_
  have N6 : News h₀ L' h5 tl4 := by
    rw [htl4]
    refine fmc ?_ (fmc ?_ (fmc ?_ (fun q hq => ?_)))
    · exact N5 _ (.tail _ (offL_mem tsB.m1 (by simpa using hwr)))
    · exact N5 _ (.tail _ (offL_mem tsB.m2 (by simpa using hwd)))
    · exact N5 _ (.head _)
    · refine N5 q (.tail _ (offL_mem (offL_sub hq) ?_))
      have := offL_not hq
      simp only [List.mem_cons, List.not_mem_nil, or_false, not_or] at this ⊢
      exact this.2.2
  have hlast : (List.reverse (Value.str (qnameOf (wordOf x) tS) tn :: palR)).toArray[(List.reverse (Value.str (qnameOf (wordOf x) tS) tn :: palR)).toArray.size - 1]? = some (.str (qnameOf (wordOf x) tS) tn) := by
    simp
  rw [htl4] at N6
  refine execs_at 4 (by decide) ?_
  refine q_call w p loose mean mg mb base dp un gd cn cs a ccd cl outer h₀ L L' _ _ _ _ c wr wd pa ad _ pn5 (qnameOf (wordOf x) tS) tn _ B F5 X N6 T (by k_room) (by k_room) hB3 m3W m3P m3A hlast (by simp) ?_
  intro h7 tk7 F7 N7 Q' hQ'
  rw [← htl4] at N7
  have adk2 : ∀ k ∈ tkeys wr wd c tb pg a0 sc, k < ad := fun k hk => adk k (.tail _ hk)
  have adn : ad ∉ tkeys wr wd c tb pg a0 sc := fun hk => Nat.lt_irrefl _ (adk2 _ hk)
  have ts4 : TS w wr wd tb pg a0 c sc tv0 opm ps nsl pgl known st1 pcs1 tl4 := by
    refine tsB.keep fun b o hm hk => ?_
    rw [htl4]
    by_cases e1 : b = wr
    · subst e1
      rw [huq hm tsB.m1]; exact .head _
    by_cases e2 : b = wd
    · subst e2
      rw [huq hm tsB.m2]; exact .tail _ (.head _)
    by_cases e3 : b = pa
    · subst e3
      rcases hk with hk | hk
      · exact absurd hk hpk
      · rw [huq hm hpaB] at hk; exact absurd hk ess_list
    · exact .tail _ (.tail _ (.tail _ (offL_mem hm (by simp only [List.mem_cons, List.not_mem_nil, or_false, not_or]; exact ⟨e1, e2, e3⟩))))
  have hadw : ad ≠ wr := fun e => adn (by rw [e]; unfold tkeys; k_data)
  have hadd : ad ≠ wd := fun e => adn (by rw [e]; unfold tkeys; k_data)
  have hadp : ad ≠ pa := fun e => Nat.lt_irrefl _ (show ad < ad from by have := adk pa (.head _); rw [← e] at this; exact this)
  have mat : (ad, od') ∈ tl4 := by
    rw [htl4]
    exact .tail _ (.tail _ (.tail _ (offL_mem adm (by simp only [List.mem_cons, List.not_mem_nil, or_false, not_or]; exact ⟨hadw, hadd, hadp⟩))))
  have hpa4 : (pa, listOf (List.reverse (Value.str (qnameOf (wordOf x) tS) tn :: palR)).toArray pn5) ∈ tl4 := by
    rw [htl4]; exact .tail _ (.tail _ (.head _))
  obtain ⟨k1, k2, k3, k4, v1, v2, v3, v4, hrows⟩ : ∃ k1 k2 k3 k4 v1 v2 v3 v4, attrRows x = [(k1, v1), (k2, v2), (k3, v3), (k4, v4)] := ⟨_, _, _, _, _, _, _, _, rfl⟩
  have hkn := turn_nodup x
  have hqn := turn_names x
  have hvl := attr_vals x
  rw [hrows] at hkv hkn hqn hvl
  simp only [List.map_cons, List.map_nil] at hkn hqn hvl
  obtain ⟨z1, z2, z3, z4, rfl⟩ := KVal.four hkv
  refine t_start w p loose mean mg mb base _ _ _ _ _ _ _ _ _ _ _ _ _ _ _ _ wr wd tb pg a0 ad c sc tv0 opm od' ps nsl pgl known (wordOf x) k1 k2 k3 k4 v1 v2 v3 v4 z1 z2 z3 z4 st1 pcs1 tl4 tn B F7 X N7 T rfl (by dsimp only [ktrTop]; k_room) (by dsimp only [ktrTop]; k_room) hB3 ts4 (wordOf_mem _) mat adn hod' hsm hkn hqn hvl (by k_room) (by k_room) (by k_room) hC ?_
  intro top names krows arows tv' ps' opm' nsl' pgl' tl8 h8 tk8 gens8 dr8 p1 p2 p3 p4 p5 p6 ts8 hlt8 hfr8 hB8 F8 N8
  refine hQ' _ ?_
  refine execs_end 5 (by decide) ?_
  have ptop := hfr8 _ _ hpa4 hpk
  have hpn8 : pa ∉ tkeys wr wd { c with rs := true } tb pg a0 ((top, tv') :: sc) := by
    intro hk
    unfold tkeys at hk hpk
    simp only [List.map_cons, List.mem_append, List.mem_cons, List.not_mem_nil, or_false, not_or] at hk hpk
    rcases hk with hk | hk | hk
    · exact absurd hk (by simpa using hpk.1)
    · exact absurd hk (Nat.ne_of_lt ptop.2)
    · exact hpk.2 hk
  refine h names krows arows h8 tk8 gens8 dr8 _ (pa :: tkeys wr wd { c with rs := true } tb pg a0 ((top, tv') :: sc)) tl8 ⟨by rw [hrows]; exact p1, p2, by rw [hrows]; exact p3, p4, p5, p6⟩ ⟨{ c with rs := true }, (top, tv') :: sc, tv0, opm', ps', nsl', pgl', Value.str (qnameOf (wordOf x) tS) tn :: palR, pn5, ts8, ptop.1, .cons _ _ hpS, rfl, hpn8⟩ ?_ ?_ hB8 F8 N8
  · intro b o hm hk
    have hb1 : (b, o) ∈ tlB := sB _ (hfr1 b o hm hk)
    have hb2 : b ∉ pa :: tkeys wr wd c tb pg a0 sc := fun hk2 => hk (hks1 _ hk2)
    have hbw : b ≠ wr := fun e => hb2 (by rw [e]; unfold tkeys; k_data)
    have hbd : b ≠ wd := fun e => hb2 (by rw [e]; unfold tkeys; k_data)
    have hbp : b ≠ pa := fun e => hb2 (by rw [e]; exact .head _)
    have hb4 : (b, o) ∈ tl4 := by
      rw [htl4]
      exact .tail _ (.tail _ (.tail _ (offL_mem hb1 (by simp only [List.mem_cons, List.not_mem_nil, or_false, not_or]; exact ⟨hbw, hbd, hbp⟩))))
    have hb8 := hfr8 b o hb4 (fun hk2 => hb2 (.tail _ hk2))
    refine ⟨hb8.1, fun hk2 => ?_⟩
    rcases List.mem_cons.mp hk2 with hk2 | hk2
    · exact hbp hk2
    · refine hb2 (.tail _ ?_)
      unfold tkeys at hk2 ⊢
      rcases List.mem_append.mp hk2 with hk2 | hk2
      · exact List.mem_append_left _ hk2
      · rcases List.mem_cons.mp hk2 with hk2 | hk2
        · exact absurd hk2 (Nat.ne_of_lt hb8.2)
        · exact List.mem_append_right _ hk2
  · intro y hy
    simp only [List.mem_cons, List.not_mem_nil, or_false, not_or] at hy
    rw [hm3 y (by simp only [List.mem_cons, List.not_mem_nil, or_false, not_or]; exact ⟨hy.2.2.1, hy.2.2.2.1, hy.2.2.2.2⟩)]
    show (if y = Str.ofString "attributes" then _ else _) = _
    rw [if_neg hy.2.1]
    exact hm1 y hy.1
end
section
namespace AP
open Sem (wp)
theorem slot_md_get : Slot "method_descriptor" "__get__" "method_descriptor.__get__" :=
  .of (owner := "method_descriptor") (n := "__get__") (by rw [typeLookup_type, builtinLookup_eq_fast]; kernel_rfl) (by decide +kernel) (by decide +kernel) (by decide +kernel)
    (by first | exact .inl (by decide +kernel) | exact .inr (by decide +kernel)) (by rw [isSubtype_type]; kernel_rfl)
theorem entry_md_get : entryFor table "method_descriptor.__get__" = some Builtin.«method_descriptor.__get__» := entryFor_of_tree (by kernel_rfl)
theorem args_md_get (a b c : Value) : argsOk "method_descriptor.__get__" ⟨[a, b, c], []⟩ := by unfold argsOk; kernel_rfl
theorem type_ap : typeOf (.builtin "list.append") = pure (.type "method_descriptor") := by show builtinType _ = _; rw [builtinType_eq_fast]; kernel_rfl
theorem lk_list_append : typeLookup (.type "list") "append" = pure (some (.builtin "list.append")) := by rw [typeLookup_type, builtinLookup_eq_fast]; kernel_rfl
theorem md_set : typeLookup (.type "method_descriptor") "__set__" = pure none := am_miss_of_fast (by decide +kernel)
theorem md_del : typeLookup (.type "method_descriptor") "__delete__" = pure none := am_miss_of_fast (by decide +kernel)
theorem told_ap : Manifest.toldItsClass.contains "list.append" = false := by decide +kernel
theorem owner_ap : (".".intercalate ("list.append".cutAt '.').dropLast) = "list" := by
  have e0 : "list.append".cutAt '.' = ["list", "append"] := by first | rfl | decide +kernel
  rw [e0]; decide +kernel
theorem sub_list_list : isSubtype (.type "list") (.type (".".intercalate ("list.append".cutAt '.').dropLast)) = pure true := by
  rw [owner_ap, isSubtype_type]; kernel_rfl
section
variable {prog : Program} {w : World} {A : Around} {E : Value → Shared → Prop} {h : Heap} {g : Array GenState} {d : Drawn} {t : Nat} {os : OsState} {a : Addr} {o : Obj}
theorem ap_get {R : Result → Shared → Prop} (hx : h.get? a = some o) (hc : o.cls = .type "list") (hq : R (.ok (.ret (.ref h.objs.size))) ⟨h.push (bmO a), g, d, t, os⟩) :
    codeAny (model prog w) A (.call (.builtin "method_descriptor.__get__") ⟨[.builtin "list.append", .ref a, .type "list"], []⟩) R ⟨h, g, d, t, os⟩ := by
  have hT : (⟨h, g, d, t, os⟩ : Shared).TypeIs (.ref a) "list" := ⟨_, hx, hc⟩
  have hT5 : (⟨h, g, d, t, os⟩ : Shared).TypeIs (.builtin "list.append") "method_descriptor" := type_ap
  have f8 := sub_list_list
  have f9 := told_ap
  refine codeAny_call_builtin slot_md_get.plain entry_md_get (slot_md_get.check _ _ _ _ _ _ _ _ hT5 (args_md_get _ _ _) ?_)
  unfold Builtin.«method_descriptor.__get__»
  repeat (any_goals (first | assumption | wp_step))
  all_goals skip
theorem ap_entry {tk : Tok} {Q : Fin → Shared → Prop} (hx : h.get? a = some o) (hc : o.cls = .type "list") (hd : o.dict = none) (hs : ∃ xs k, o.data = .seq xs k) (hq : Q (.done (.ret (.ref h.objs.size))) ⟨h.push (bmO a), g, d, t, os⟩) :
    wpAny (model prog w) A (Builtin.«object.__getattribute__» ⟨[.ref a, .str "append" tk], []⟩) Q E ⟨h, g, d, t, os⟩ := by
  have hx2 := hx
  (refine ex2 hs ?_; clear hs; refine fun xs k hs => ?_)
  obtain ⟨c, dct, dat, sl⟩ := o
  simp only at hc hs hd
  subst hc hs hd
  have hc : ({ cls := .type "list", dict := none, data := .seq xs k, slots := sl } : Obj).cls = .type "list" := rfl
  have hT : (⟨h, g, d, t, os⟩ : Shared).TypeIs (.ref a) "list" := ⟨_, hx, hc⟩
  have hT5 : (⟨h, g, d, t, os⟩ : Shared).TypeIs (.builtin "list.append") "method_descriptor" := type_ap
  have f4 := lk_list_append
  have f5 := type_ap
  have f6 := slot_md_get.lookup
  have f7 := md_set
  have f8 := md_del
  repeat (any_goals (first | assumption | wp_step))
  refine ap_get hx rfl ?_
  repeat (any_goals (first | assumption | wp_step))
theorem ap_call {tk : Tok} {R : Result → Shared → Prop} (hx : h.get? a = some o) (hc : o.cls = .type "list") (hd : o.dict = none) (hs : ∃ xs k, o.data = .seq xs k) (hq : R (.ok (.ret (.ref h.objs.size))) ⟨h.push (bmO a), g, d, t, os⟩) :
    codeAny (model prog w) A (.call (.builtin "list.__getattribute__") ⟨[.ref a, .str "append" tk], []⟩) R ⟨h, g, d, t, os⟩ :=
  codeAny_call_builtin F.slot_list_getattribute.plain F.entry_list_ga (F.slot_list_getattribute.check _ _ _ _ _ _ _ _ (show (⟨h, g, d, t, os⟩ : Shared).TypeIs (.ref a) "list" from ⟨_, hx, hc⟩) (F.args_list_getattribute_2 _ _) (ap_entry hx hc hd hs hq))
theorem ap_attr {Q : Value → Shared → Prop} (hx : h.get? a = some o) (hc : o.cls = .type "list") (hd : o.dict = none) (hs : ∃ xs k, o.data = .seq xs k) (hq : Q (.ref h.objs.size) ⟨h.push (bmO a), g, d, t + 1, os⟩) : wpAny (model prog w) A (getAttr (.ref a) "append" true) Q E ⟨h, g, d, t, os⟩ := by
  have hs2 := hs
  have hd2 := hd
  have hc2 := hc
  have hx2 := hx
  (refine ex2 hs ?_; clear hs; refine fun xs k hs => ?_)
  obtain ⟨c, dct, dat, sl⟩ := o
  simp only at hc hs hd
  subst hc hs hd
  have hT : ∀ tk', (⟨h, g, d, tk', os⟩ : Shared).TypeIs (.ref a) "list" := fun _ => ⟨_, hx, rfl⟩
  have f2 := F.slot_list_getattribute.lookup
  have f3 := F.slot_list_getattribute.bind (.ref a)
  unfold getAttr getAttrBy
  repeat (any_goals (first | assumption | exact hT _ | wp_step))
  refine ap_call hx2 hc2 hd2 hs2 ?_
  repeat (any_goals (first | assumption | wp_step))
  all_goals skip
end
theorem ap_new {prog : Program} {w : World} {A : Around} {E : Value → Shared → Prop} {s : Shared} {a L : Addr} {v : Array Value} {n : Nat} {h₀ : Heap} {m : Str → Option Value} {news : List (Addr × Obj)} {Q : Value → Shared → Prop}
    (F : Fr h₀ L s.heap m) (N : News h₀ L s.heap news) (hm : (a, listOf v n) ∈ news)
    (h : ∀ q h', Fr h₀ L h' m → News h₀ L h' ((q, bmO a) :: news) → AllLt q news → Q (.ref q) { s with heap := h', toks := s.toks + 1 }) : wpAny (model prog w) A (getAttr (.ref a) "append" true) Q E s := by
  obtain ⟨hh, g, d, tk, os⟩ := s
  refine ap_attr (N _ hm).1 rfl rfl ⟨_, _, rfl⟩ ?_
  exact h hh.objs.size _ (F.push _) (N.push F _) (allLt_of fun p hp => Heap.lt_size (N p hp).1)
end AP
end
section
example : True := by (k_with "call ref" => (fail_if_success k_extra "20"); k_extra "st"); (k_with "eval Name" => (fail_if_success k_extra "20"); k_extra "en"); (k_with "call builtin:list.append" => (fail_if_success k_extra "20"); k_extra "ap"); (k_with "getAttr ref" => (fail_if_success k_extra "20"); (k_here; k_dflt (refine AP.ap_new (by k_asm) (by k_asm) (by k_mem) ?_); intro _ _ _ _ l1r; (try k_lt l1r); (try dsimp only))); trivial
theorem r_pages (h₀ : Heap) (L L' : Addr) (m : Str → Option Value) (s : Shared) (Q : Flow → Shared → Prop) (E : Value → Shared → Prop)
   (tl : List (Addr × Obj))
   (B : Below (ktrTop dp un gd cn cs L a ccd cl outer) base (envX cn cs L a ccd cl :: outer) h₀) (F : Fr h₀ L' s.heap m) (X : (hd.heap_39 w.params).In h₀) (N : News h₀ L' s.heap (tl))
   (T : Top p loose mean mg mb h₀) (hdp : dp + 400 < recursionLimit) (hun : un + 4000 < cLine) (hB : AllBare s.gens)
   (h : ∀ pg n h' tk, (∀ q ∈ tl, q.1 < pg) → Fr h₀ L' h' (fun y => if y = Str.ofString "pages" then some (.ref pg) else m y) → News h₀ L' h' ((pg, listOf #[] n) :: tl) → Q .next { s with heap := h', toks := tk }) :
   wpAny (model PR w) ((ktrTop dp un gd cn cs L a ccd cl outer).deeper (toldE L')) (exec (nth toldB.1 0) (toldE L')) Q E s := by
  unfold toldE
  conv => arg 3; arg 1; whnf
  conv => arg 3; arg 2; arg 2; whnf
  conv => arg 2; arg 2; arg 2; whnf
  k_steps
  exact h _ _ _ _ (by first | assumption | exact allLt_mem (by assumption)) (by assumption) (by assumption)
theorem r_path (h₀ : Heap) (L L' : Addr) (m : Str → Option Value) (s : Shared) (Q : Flow → Shared → Prop) (E : Value → Shared → Prop)
   (tl : List (Addr × Obj))
   (B : Below (ktrTop dp un gd cn cs L a ccd cl outer) base (envX cn cs L a ccd cl :: outer) h₀) (F : Fr h₀ L' s.heap m) (X : (hd.heap_39 w.params).In h₀) (N : News h₀ L' s.heap (tl))
   (T : Top p loose mean mg mb h₀) (hdp : dp + 400 < recursionLimit) (hun : un + 4000 < cLine) (hB : AllBare s.gens)
   (h : ∀ pg n h' tk, (∀ q ∈ tl, q.1 < pg) → Fr h₀ L' h' (fun y => if y = Str.ofString "path" then some (.ref pg) else m y) → News h₀ L' h' ((pg, listOf #[] n) :: tl) → Q .next { s with heap := h', toks := tk }) :
   wpAny (model PR w) ((ktrTop dp un gd cn cs L a ccd cl outer).deeper (toldE L')) (exec (nth toldB.1 2) (toldE L')) Q E s := by
  unfold toldE
  conv => arg 3; arg 1; whnf
  conv => arg 3; arg 2; arg 2; whnf
  conv => arg 2; arg 2; arg 2; whnf
  k_steps
  exact h _ _ _ _ (by first | assumption | exact allLt_mem (by assumption)) (by assumption) (by assumption)
theorem r_writer (h₀ : Heap) (L L' : Addr) (m : Str → Option Value) (s : Shared) (Q : Flow → Shared → Prop) (E : Value → Shared → Prop)
   (pg : Addr) (pgn : Nat) (tl : List (Addr × Obj))
   (B : Below (ktrTop dp un gd cn cs L a ccd cl outer) base (envX cn cs L a ccd cl :: outer) h₀) (F : Fr h₀ L' s.heap m) (X : (hd.heap_39 w.params).In h₀) (N : News h₀ L' s.heap ((pg, listOf #[] pgn) :: tl))
   (T : Top p loose mean mg mb h₀) (hdp : dp + 400 < recursionLimit) (hun : un + 4000 < cLine) (hB : AllBare s.gens)
   (mG : m (Str.ofString "pages") = some (.ref pg))
   (h : ∀ (c : WC) (bm wr wd a0 t0 b0 : Addr) (opm : Obj) (na nd nn pn n0 nb : Nat) (u1 u2 : Tok) (h' : Heap) (tk : Nat), c.bm = bm → Obj.IsDictOf (PySem.strKind PR w) opm [] → (c.pm == sysModules) = false → ([wr, wd, c.dns, c.pm, c.da, c.nss, c.ps, a0, t0, b0] : List Nat).Nodup → (∀ k ∈ ([wr, wd, c.dns, c.pm, c.da, c.nss, c.ps, a0, t0, b0] : List Nat), ∀ q ∈ (bm, bmO pg) :: (pg, listOf #[] pgn) :: tl, q.1 < k) → (∀ q ∈ (pg, listOf #[] pgn) :: tl, q.1 < bm) → Fr h₀ L' h' (fun y => if y = Str.ofString "writer" then some (.ref wr) else m y) → News h₀ L' h' ((wr, instObj 150 wd) :: (wd, wDict w c) :: (c.dns, listOf #[.ref a0] nd) :: (c.pm, opm) :: (c.da, listOf #[] na) :: (c.nss, listOf #[.ref b0] nn) :: (c.ps, listOf #[.bool false] pn) :: (a0, listOf #[.ref t0] n0) :: (t0, tup2 xmlU u1 xmlP u2) :: (b0, listOf #[] nb) :: (bm, bmO pg) :: (pg, listOf #[] pgn) :: tl) → Q .next { s with heap := h', toks := tk }) :
   wpAny (model PR w) ((ktrTop dp un gd cn cs L a ccd cl outer).deeper (toldE L')) (exec (nth toldB.1 1) (toldE L')) Q E s := by
  unfold toldE
  conv => arg 3; arg 1; whnf
  conv => arg 3; arg 2; arg 2; whnf
  conv => arg 2; arg 2; arg 2; whnf
  k_steps
  rename News h₀ L' _ _ => kN
  rename Fr h₀ L' _ m => kF
  rename AllLt _ _ => lb
  show wpAny (model PR w) _ (call _ _ _) _ _ _
  refine init_ w p loose mean mg mb base _ _ _ _ _ _ _ _ _ _ _ _ _ _ _ _ _ pg _ B kF X kN T rfl (by dsimp only [ktrTop]; k_room) (by dsimp only [ktrTop]; k_room) hB ?_
  intro c wr wd a0 t0 b0 opm na nd nn pn n0 nb u1 u2 h2 tk2 e1 e2 e3 e4 e5 F2 N2
  k_steps
  rename News h₀ L' _ _ => kN2
  rename Fr h₀ L' _ _ => kF2
  refine h c _ wr wd a0 t0 b0 opm na nd nn pn n0 nb u1 u2 _ _ e1 e2 e3 e4 e5 ?_ kF2 kN2
  intro q hq
  exact allLt_mem lb q hq
end
section
example : True := by (k_with "20" => skip); (k_with "call ref" => (fail_if_success k_extra "21"); k_extra "st"); (k_with "eval Name" => (fail_if_success k_extra "21"); k_extra "en"); (k_with "call builtin:list.append" => (fail_if_success k_extra "21"); k_extra "ap"); (k_with "exec For" => (fail_if_success k_extra "21"); k_extra "fr"); (k_with "pyIter ref" => (fail_if_success k_extra "21"); k_extra "st"); trivial
/-- what told has told after some numbers -/
inductive Told : List Int → List Str → List (Str × List Str) → List Str → Prop
  | nil : Told [] [] [] []
  | turn {xs : List Int} {known : List Str} {st : List (Str × List Str)} {pcs : List Str} (x : Int) (names : List Str) (krows arows : List (Str × Str)) (h : Told xs known st pcs) (sf : SF x known ((st.drop (closeN x st.length)).flatMap (·.2)) names krows arows) :
    Told (xs ++ [x]) (stK known names) ((wordOf x, stT [] ((st.drop (closeN x st.length)).flatMap (·.2)) names) :: st.drop (closeN x st.length)) (pcs ++ ((st.take (closeN x st.length)).map fun e => endS_ known e.1) ++ startP x known names krows arows)
theorem closeN_le {x : Int} {n : Nat} : closeN x n ≤ n := Nat.le_trans (Nat.min_le_right _ _) (Nat.sub_le _ _)
theorem Told.bounds {xs : List Int} {known : List Str} {st : List (Str × List Str)} {pcs : List Str} (h : Told xs known st pcs) : known.length ≤ 5 * xs.length ∧ st.length ≤ xs.length ∧ pcs.length + st.length ≤ 4 * xs.length := by
  induction h with
  | nil => exact ⟨Nat.le_refl _, Nat.le_refl _, Nat.le_refl _⟩
  | @turn xs known st pcs x names krows arows h sf ih =>
    (refine an3 ih fun i1 i2 i3 => ?_; try clear ih)
    have l1 : names.length = 5 := by rw [sf.1.length_eq]; rfl
    have l2 := stK_len (ns := names) (known := known)
    have l3 := closeN_le (x := x) (n := st.length)
    rw [show (xs ++ [x]).length = xs.length + 1 from List.length_append]
    refine ⟨Nat.le_trans l2 (by rw [l1]; exact Nat.add_le_add_right i1 5), ?_, ?_⟩
    · rw [List.length_cons, List.length_drop]; exact Nat.succ_le_succ (Nat.le_trans (Nat.sub_le _ _) i2)
    · rw [List.length_append, List.length_append, List.length_map, List.length_take, List.length_cons, List.length_drop, Nat.min_eq_left l3, show (startP x known names krows arows).length = 3 from rfl, Nat.add_add_add_comm, Nat.add_assoc pcs.length, Nat.add_sub_cancel' l3]
      exact Nat.add_le_add_right i3 4
theorem TJ.more {w : World} {wr wd tb pg a0 pa : Addr} {known : List Str} {st : List (Str × List Str)} {pcs : List Str} {ks : List Nat} {tl tl' : List (Addr × Obj)} (x : TJ w wr wd tb pg a0 pa known st pcs ks tl) (h : ∀ b o, (b, o) ∈ tl → b ∈ ks ∨ Ess o → (b, o) ∈ tl') : TJ w wr wd tb pg a0 pa known st pcs ks tl' := by
  (refine e9a5 x fun c sc tv0 opm ps nsl pgl palR n ts hpa hst y3_ hk => ?_; try clear x; obtain rfl := y3_)
  exact exI9 c sc tv0 opm ps nsl pgl palR n (anI5 (ts.keep fun b o hm he => h b o hm (he.imp (fun hk => .tail _ hk) id)) (h _ _ hpa (.inl (.head _))) hst rfl hk)
theorem ess_it {ax : Addr} {oI : Obj} (h : oI.cls = .type "list_iterator" ∧ ∃ i, oI.data = .fields #[.ref ax, .int i 0]) : ¬ Ess oI := by
  rintro (hk | ⟨vs, t, h1, h2⟩)
  · rw [h.1] at hk; exact absurd hk (by decide)
  · (refine an2 h fun _ w1_ => ex1 w1_ fun ra hd => ?_; clear w1_; try clear h)
    rw [hd] at h1; injection h1 with h1; rw [← h1] at h2; simp at h2
theorem asg_stop {M : Model} {A : Around} {α : Type} {t : Sem α} {P : Shared → Prop} {E : Value → Shared → Prop} {s : Shared} (h : wpAny M A t (fun _ s => Stop (P s)) E s) : wpAny M A t (fun _ s => P s) E s := h
theorem ints_at {vs : List Value} {xs : List Int} (h : IntsAre vs xs) : ∀ {i : Nat} {v : Value}, vs[i]? = some v → ∃ x t, xs[i]? = some x ∧ v = .int x t := by
  induction h with
  | nil => intro i v h; simp at h
  | cons y t _ ih =>
    intro i v h
    cases i with
    | zero => simp at h; exact exI2 _ _ ⟨rfl, h.symm⟩
    | succ i => exact ih (by simpa using h)
theorem ints_len {vs : List Value} {xs : List Int} (h : IntsAre vs xs) : vs.length = xs.length := by
  induction h with
  | nil => rfl
  | cons y t _ ih => simp [ih]
theorem r_loop (h₀ : Heap) (L L' : Addr) (m : Str → Option Value) (s : Shared) (Q : Flow → Shared → Prop) (E : Value → Shared → Prop)
   (wr wd tb pg a0 pa nb : Addr) (its : List Value) (nn : Nat) (xs : List Int) (ks : List Nat) (tl : List (Addr × Obj))
   (B : Below (ktrTop dp un gd cn cs L a ccd cl outer) base (envX cn cs L a ccd cl :: outer) h₀) (F : Fr h₀ L' s.heap m) (X : (hd.heap_39 w.params).In h₀) (N : News h₀ L' s.heap (tl))
   (T : Top p loose mean mg mb h₀) (hdp : dp + 600 < recursionLimit) (hun : un + 6000 < cLine) (hB : AllBare s.gens)
   (tj : TJ w wr wd tb pg a0 pa [] [] [] ks tl) (hit : IntsAre its xs) (hxl : xs.length ≤ 4) (hnb : (nb, listOf its.toArray nn) ∈ tl) (hnk : nb ∉ ks) (hC : Stop (CodeHd base 125 tb)) (mN : m (Str.ofString "numbers") = some (.ref nb)) (mP : m (Str.ofString "path") = some (.ref pa)) (mW : m (Str.ofString "writer") = some (.ref wr))
   (h : ∀ known st pcs ks' tl' h' tk gens dr m', Told xs known st pcs → TJ w wr wd tb pg a0 pa known st pcs ks' tl' → (∀ b o, (b, o) ∈ tl → b ∉ ks → (b, o) ∈ tl' ∧ b ∉ ks') → (∀ y, y ∉ [Str.ofString "x", Str.ofString "k", Str.ofString "attributes", Str.ofString "letter", Str.ofString "y", Str.ofString "value"] → m' y = m y) → AllBare gens → Fr h₀ L' h' m' → News h₀ L' h' tl' → Q .next { s with heap := h', toks := tk, gens := gens, drawn := dr }) :
   wpAny (model PR w) ((ktrTop dp un gd cn cs L a ccd cl outer).deeper (toldE L')) (exec (nth toldB.1 3) (toldE L')) Q E s := by
  unfold toldE
  conv => arg 3; arg 1; whnf
  conv => arg 3; arg 2; arg 2; whnf
  conv => arg 2; arg 2; arg 2; whnf
  k_steps
  rename Fr h₀ L' _ m => kF
  refine hideJ (fun (i : Nat) (m₁ : Str → Option Value) (nw : List (Addr × Obj)) => ∃ known st pcs ks', Told (xs.take i) known st pcs ∧ TJ w wr wd tb pg a0 pa known st pcs ks' nw ∧ (∀ b o, (b, o) ∈ tl → b ∉ ks → (b, o) ∈ nw ∧ b ∉ ks') ∧ ∀ y, y ∉ [Str.ofString "x", Str.ofString "k", Str.ofString "attributes", Str.ofString "letter", Str.ofString "y", Str.ofString "value"] → m₁ y = m y) fun J_ hJ_ => ?_
  refine loop_list (L := L') (n₀ := 0) (ax := nb) (its := its.toArray) rfl ?hgo rfl
    J_ ?hJS ?turn ?done kF (by assumption) hB ((hJ_ _ _ _).mpr ⟨[], [], [], ks, .nil, tj, fun _ _ hm hk => ⟨hm, hk⟩, fun _ _ => rfl⟩) (Nat.zero_le _)
  case hgo =>
    intro s' v Q' I i hv st hq
    exact wpAny_pure hq
  case hJS =>
    intro i m₁ nw hz1_; (refine e4a4 ((hJ_ _ _ _).mp hz1_) fun known st pcs ks' _ _ hfr _ => ?_; clear hz1_)
    exact .inr ⟨_, (hfr _ _ hnb hnk).1, rfl, _, rfl⟩
  case done =>
    intro m₁ nw h2 tk2 gens dr hz1_; (refine e4a4 ((hJ_ _ _ _).mp hz1_) fun known st pcs ks' hT tj' hfr hm₁ => ?_; clear hz1_); intro F2 N2 hB2 _
    rw [List.size_toArray, ints_len hit, List.take_length] at hT
    k_steps
    exact h known st pcs ks' nw _ _ gens dr m₁ hT tj' hfr hm₁ hB2 F2 N2
  case turn =>
    intro i v m₁ nw I oI h2 tk2 gens dr hv hz1_; (refine e4a4 ((hJ_ _ _ _).mp hz1_) fun known st pcs ks' hT tj' hfr hm₁ => ?_; clear hz1_); intro hoI off F2 N2 hB2 _
    (refine e2a2 (ints_at hit (i := i) (v := v) (by simpa using hv)) fun x tx hx y3_ => ?_; obtain rfl := y3_)
    have hIk : I ∉ ks' := by
      intro hk
      (refine ex1 (tj'.keys I hk) fun o ho => ?_)
      exact off _ ho rfl
    have htl : (xs.take i).length ≤ xs.length := by rw [List.length_take]; exact Nat.min_le_right _ _
    (refine an3 hT.bounds fun bk bs bp => ?_)
    have tjI : TJ w wr wd tb pg a0 pa known st pcs ks' ((I, oI) :: nw) := tj'.more fun b o hm _ => .tail _ hm
    refine asg_stop ?_
    k_steps
    rename Fr h₀ L' _ _ => kF3
    rename News h₀ L' _ _ => kN3
    show wpAny (model PR w) _ (execs (toldF.1.drop 0) (toldE L')) _ _ _
    have hte : xs.take (i + 1) = xs.take i ++ [x] := take_snoc hx
    refine told_turn w p loose mean mg mb base dp un gd cn cs a ccd cl outer h₀ L L' _ _ _ _ wr wd tb pg a0 pa x tx known st pcs ks' ((I, oI) :: nw) B kF3 X kN3 T (by k_room) (by k_room) hB2 tjI (by k_room) (by k_room) (by k_room) hC rfl ((hm₁ _ (by decide)).trans mP) ((hm₁ _ (by decide)).trans mW) ?_
    intro names krows arows h4 tk4 gens4 dr4 m4 ks4 tl4 sf tj4 hfr4 hm4 hB4 F4 N4
    have hI4 := hfr4 I oI (.head _) hIk
    refine stop_turn (gens := gens4) (dr := dr4) (nw := offL [I] tl4) F4 (fun q hq => ?_) (fun q hq e => offL_not hq (by rw [e]; simp)) hB4 ((hJ_ _ _ _).mpr (exI4 _ _ _ ks4 (anI4 (by rw [hte]; exact .turn x names krows arows hT sf) (tj4.more fun b o hm hk => offL_mem hm ?_) (fun b o hm hk => ?_) (fun y hy => ?_))))
    · rcases List.mem_cons.mp hq with rfl | hq
      · exact N4 _ hI4.1
      · exact N4 _ (offL_sub hq)
    · simp only [List.mem_cons, List.not_mem_nil, or_false]
      intro e
      subst e
      rcases hk with hk | hk
      · exact hI4.2 hk
      · rw [news_one N4 hm hI4.1] at hk
        exact ess_it hoI hk
    · have h1 := hfr b o hm hk
      have h5 := hfr4 b o (.tail _ h1.1) h1.2
      exact ⟨offL_mem h5.1 (by simpa using off _ h1.1), h5.2⟩
    · simp only [List.mem_cons, List.not_mem_nil, or_false, not_or] at hy
      rw [hm4 y (by simp only [List.mem_cons, List.not_mem_nil, or_false, not_or]; exact hy.2)]
      show (if y = Str.ofString "x" then _ else _) = _
      rw [if_neg hy.1]
      exact hm₁ y (by simp only [List.mem_cons, List.not_mem_nil, or_false, not_or]; exact hy)
end
section
example : True := by (k_with "21" => skip); (k_with "call ref" => (fail_if_success k_extra "22"); k_extra "st"); (k_with "eval Name" => (fail_if_success k_extra "22"); k_extra "en"); (k_with "call builtin:list.append" => (fail_if_success k_extra "22"); k_extra "ap"); (k_with "exec For" => (fail_if_success k_extra "22"); k_extra "fr"); (k_with "pyIter ref" => (fail_if_success k_extra "22"); k_extra "st"); trivial
theorem strs_at {vs : List Value} {xs : List Str} (h : StrsAre vs xs) : ∀ {i : Nat} {v : Value}, vs[i]? = some v → ∃ x t, xs[i]? = some x ∧ v = .str x t := by
  induction h with
  | nil => intro i v h; simp at h
  | cons y t _ ih =>
    intro i v h
    cases i with
    | zero => simp at h; exact exI2 _ _ ⟨rfl, h.symm⟩
    | succ i => exact ih (by simpa using h)
theorem r_last (h₀ : Heap) (L L' : Addr) (m : Str → Option Value) (s : Shared) (Q : Flow → Shared → Prop) (E : Value → Shared → Prop)
   (wr wd tb pg a0 pa : Addr) (known : List Str) (st : List (Str × List Str)) (pcs : List Str) (ks : List Nat) (tl : List (Addr × Obj))
   (B : Below (ktrTop dp un gd cn cs L a ccd cl outer) base (envX cn cs L a ccd cl :: outer) h₀) (F : Fr h₀ L' s.heap m) (X : (hd.heap_39 w.params).In h₀) (N : News h₀ L' s.heap (tl))
   (T : Top p loose mean mg mb h₀) (hdp : dp + 600 < recursionLimit) (hun : un + 6000 < cLine) (hB : AllBare s.gens)
   (tj : TJ w wr wd tb pg a0 pa known st pcs ks tl) (hpc : pcs.length ≤ 400) (hst : st.length ≤ 50) (mP : m (Str.ofString "path") = some (.ref pa)) (mW : m (Str.ofString "writer") = some (.ref wr))
   (h : ∀ pgl pgn ps tl' h' tk gens dr m', StrsAre pgl (pcs ++ st.map fun e => endS_ known e.1) → (pg, listOf pgl.toArray pgn) ∈ tl' → (tb, tabObj ps) ∈ tl' → (∀ b o, (b, o) ∈ tl → b ∉ ks → (b, o) ∈ tl') → (∀ y, y ≠ Str.ofString "name" → m' y = m y) → AllBare gens → Fr h₀ L' h' m' → News h₀ L' h' tl' → Q .next { s with heap := h', toks := tk, gens := gens, drawn := dr }) :
   wpAny (model PR w) ((ktrTop dp un gd cn cs L a ccd cl outer).deeper (toldE L')) (exec (nth toldB.1 4) (toldE L')) Q E s := by
  unfold toldE
  conv => arg 3; arg 1; whnf
  conv => arg 3; arg 2; arg 2; whnf
  conv => arg 2; arg 2; arg 2; whnf
  have tj0 := tj
  (refine e9a5 tj fun c sc tv0 opm ps nsl pgl palR pn ts hpa hstr hks hpk => ?_; try clear tj)
  have hpl : palR.length = st.length := by rw [strs_len hstr, List.length_map]
  have hpz : (List.reverse palR).toArray.size ≤ 1000 := by simp; k_room
  have hsz : ((List.reverse palR).toArray.size : Int) < 2 ^ 63 := by k_room
  have Np : News h₀ L' s.heap ((pa, listOf (List.reverse palR).toArray pn) :: offL [pa] tl) := fun q hq => by
    rcases List.mem_cons.mp hq with rfl | hq
    · exact N _ hpa
    · exact N _ (offL_sub hq)
  have hone : ∀ {a : Addr} {o o' : Obj}, (a, o) ∈ tl → (a, o') ∈ tl → o = o' := fun h1 h2 => news_one N h1 h2
  have hlt : ∀ q ∈ tl, q.1 < s.heap.objs.size := fun q hq => Heap.lt_size (N q hq).1
  clear N
  k_steps
  rename News h₀ L' _ _ => kN
  rename Fr h₀ L' _ m => kF
  rw [krv_pick] at kN
  dsimp only at kN
  rw [List.reverse_reverse] at kN
  have hrl : ∀ q ∈ tl, q.1 ≠ s.heap.objs.size + 1 := fun q hq => Nat.ne_of_lt (Nat.lt_succ_of_lt (hlt q hq))
  show Stop (wpAny (model PR w) _ (pyIter (.ref (s.heap.objs.size + 1))) _ _ _)
  generalize @HAdd.hAdd Nat Nat Nat _ s.heap.objs.size 1 = rl at *
  have kN2 : News h₀ L' _ ((rl, listOf palR.toArray 0) :: (pa, listOf (List.reverse palR).toArray pn) :: offL [pa] tl) := kN
  have ts0 : TS w wr wd tb pg a0 c sc tv0 opm ps nsl pgl known st pcs ((rl, listOf palR.toArray 0) :: (pa, listOf (List.reverse palR).toArray pn) :: offL [pa] tl) := by
    refine ts.keep fun b o hm hk => ?_
    by_cases e : b = pa
    · subst e
      rcases hk with hk | hk
      · exact absurd hk hpk
      · refine .tail _ ?_
        have h1 : (b, o) = (b, listOf (List.reverse palR).toArray pn) := by
          rw [hone hm hpa]
        rw [h1]; exact .head _
    · exact .tail _ (.tail _ (offL_mem hm (by simpa using e)))
  have hrk : rl ∉ tkeys wr wd c tb pg a0 sc := fun hk => by
    (refine ex1 (ts.keys rl hk) fun o ho => ?_)
    exact hrl _ ho rfl
  have hfr0 : ∀ b o, (b, o) ∈ tl → b ∉ ks → (b, o) ∈ (rl, listOf palR.toArray 0) :: (pa, listOf (List.reverse palR).toArray pn) :: offL [pa] tl ∧ b ∉ tkeys wr wd c tb pg a0 sc := fun b o hm hk => by
    rw [hks] at hk
    exact ⟨.tail _ (.tail _ (offL_mem hm (by simp only [List.mem_cons, List.not_mem_nil, or_false]; exact fun e => hk (by rw [e]; exact .head _)))), fun h2 => hk (.tail _ h2)⟩
  refine hideJ (fun (i : Nat) (m₁ : Str → Option Value) (nw : List (Addr × Obj)) => ∃ c sc opm nsl pgl, TS w wr wd tb pg a0 c sc tv0 opm ps nsl pgl known (st.drop i) (pcs ++ (st.take i).map fun e => endS_ known e.1) nw ∧ (rl, listOf palR.toArray 0) ∈ nw ∧ rl ∉ tkeys wr wd c tb pg a0 sc ∧ (∀ b o, (b, o) ∈ tl → b ∉ ks → (b, o) ∈ nw ∧ b ∉ tkeys wr wd c tb pg a0 sc) ∧ ∀ y, y ≠ Str.ofString "name" → m₁ y = m y) fun J_ hJ_ => ?_
  refine loop_list (L := L') (n₀ := 0) (ax := rl) (its := palR.toArray) rfl ?hgo rfl
    J_ ?hJS ?turn ?done kF kN2 hB ((hJ_ _ _ _).mpr ⟨c, sc, opm, nsl, pgl, by simpa using ts0, .head _, hrk, hfr0, fun _ _ => rfl⟩) (Nat.zero_le _)
  case hgo =>
    intro s' v Q' I i hv st hq
    exact wpAny_pure hq
  case hJS =>
    intro i m₁ nw hz1_; (refine e5a3 ((hJ_ _ _ _).mp hz1_) fun _ _ _ _ _ _ hr _ => ?_; clear hz1_)
    exact .inr ⟨_, hr, rfl, _, rfl⟩
  case done =>
    intro m₁ nw h2 tk2 gens dr hz1_; (refine e5a5 ((hJ_ _ _ _).mp hz1_) fun c1 sc1 opm1 nsl1 pgl1 ts1 hr1 _ hfr1 hm₁ => ?_; clear hz1_); intro F2 N2 hB2 _
    rw [List.size_toArray, hpl, List.take_length] at ts1
    (refine ex1 ts1.m10 fun pgn hpg => ?_)
    k_steps
    exact h pgl1 pgn ps nw _ _ gens dr m₁ ts1.pgS hpg ts1.m5 (fun b o hm hk => (hfr1 b o hm hk).1) hm₁ hB2 F2 N2
  case turn =>
    intro i v m₁ nw I oI h2 tk2 gens dr hv hz1_; (refine e5a5 ((hJ_ _ _ _).mp hz1_) fun c1 sc1 opm1 nsl1 pgl1 ts1 hr1 hrk1 hfr1 hm₁ => ?_; clear hz1_); intro hoI off F2 N2 hB2 _
    have hv' : palR[i]? = some v := by simpa using hv
    have hi : i < st.length := by rw [← hpl]; exact (List.getElem?_eq_some_iff.mp hv').1
    obtain ⟨⟨u, tws⟩, hde⟩ : ∃ e, st.drop i = e :: st.drop (i + 1) := ⟨_, List.drop_eq_getElem_cons hi⟩
    have hei : st[i]? = some (u, tws) := by
      have h1 : (st.drop i)[0]? = some (u, tws) := by rw [hde]; rfl
      rwa [List.getElem?_drop, Nat.add_zero] at h1
    have hte : st.take (i + 1) = st.take i ++ [(u, tws)] := take_snoc hei
    (refine e2a2 (strs_at hstr hv') fun y tn hy y3_ => ?_; obtain rfl := y3_)
    rw [List.getElem?_map, hei] at hy
    injection hy with hy
    simp only at hy
    subst hy
    rw [hde] at ts1
    have hIk : I ∉ tkeys wr wd c1 tb pg a0 sc1 := by
      intro hk
      (refine ex1 (ts1.keys I hk) fun o ho => ?_)
      exact off _ ho rfl
    have hmW : m₁ (Str.ofString "writer") = some (.ref wr) := (hm₁ _ (by decide)).trans mW
    refine hide (offL [wr, wd] ((I, oI) :: nw)) fun rest hrest => ?_
    have N3 : News h₀ L' h2 ((wr, instObj 150 wd) :: (wd, wDict w c1) :: rest) := by
      intro q hq
      rw [hrest] at hq
      revert q; refine fmc ?_ (fmc ?_ (fun q hq => ?_))
      · exact N2 _ (.tail _ ts1.m1)
      · exact N2 _ (.tail _ ts1.m2)
      · exact N2 _ (offL_sub hq)
    have huq : ∀ {a : Addr} {o o' : Obj}, (a, o) ∈ (I, oI) :: nw → (a, o') ∈ (I, oI) :: nw → o = o' := fun h1 h2 => news_one N2 h1 h2
    have ts2 : TS w wr wd tb pg a0 c1 sc1 tv0 opm1 ps nsl1 pgl1 known ((u, tws) :: st.drop (i + 1)) (pcs ++ (st.take i).map fun e => endS_ known e.1) ((wr, instObj 150 wd) :: (wd, wDict w c1) :: rest) := by
      refine ts1.keep fun b o hm hk => ?_
      by_cases e1 : b = wr
      · subst e1
        rw [huq (.tail _ hm) (.tail _ ts1.m1)]; exact .head _
      by_cases e2 : b = wd
      · subst e2
        rw [huq (.tail _ hm) (.tail _ ts1.m2)]; exact .tail _ (.head _)
      · exact .tail _ (.tail _ (by rw [hrest]; exact offL_mem (.tail _ hm) (by simp only [List.mem_cons, List.not_mem_nil, or_false, not_or]; exact ⟨e1, e2⟩)))
    have inR : ∀ b o, (b, o) ∈ (I, oI) :: nw → b ∉ tkeys wr wd c1 tb pg a0 sc1 → (b, o) ∈ rest := by
      intro b o hm hk
      unfold tkeys at hk
      simp only [List.mem_cons, List.cons_append, not_or] at hk
      rw [hrest]
      refine offL_mem hm ?_
      simp only [List.mem_cons, List.not_mem_nil, or_false, not_or]
      exact ⟨hk.1, hk.2.1⟩
    k_steps
    show wpAny (model PR w) _ (call _ _) _ _ _
    rename News h₀ L' _ _ => kN3
    rename Fr h₀ L' _ _ => kF3
    have hpl3 : (pcs ++ (st.take i).map fun e => endS_ known e.1).length < 800 := by
      rw [List.length_append, List.length_map, List.length_take]; exact Nat.lt_of_le_of_lt (Nat.add_le_add (show pcs.length ≤ 400 by assumption) (Nat.le_trans (Nat.min_le_right _ _) (show st.length ≤ 50 by first | assumption | k_room))) (by decide)
    refine t_end w p loose mean mg mb base _ _ _ _ _ _ _ _ _ _ _ _ _ _ _ _ wr wd tb pg a0 c1 sc1 tv0 opm1 ps nsl1 pgl1 known u tws (st.drop (i + 1)) _ _ tn B kF3 X kN3 T rfl (by dsimp only [ktrTop]; k_room) (by dsimp only [ktrTop]; k_room) hB2 ts2 hpl3 ?_
    intro b sc' opm' nsl' pgl' tl3 h3 tk3 gens3 ts3 hsc3 hfr3 hB3 F3 N3'
    (refine ex1 hsc3 fun px y1_ => ?_; try clear hsc3; obtain rfl := y1_)
    have hI1 : (I, oI) ∈ tl3 := hfr3 _ _ (.tail _ (.tail _ (inR _ _ (.head _) hIk))) hIk
    have hr3 := hfr3 _ _ (.tail _ (.tail _ (inR _ _ (.tail _ hr1) hrk1))) hrk1
    have hIr : I ≠ rl := fun e => off _ hr1 e.symm
    have hsub3 : ∀ k ∈ tkeys wr wd { c1 with rd := b } tb pg a0 sc', k ∈ tkeys wr wd c1 tb pg a0 (px :: sc') := by
      intro k hk
      unfold tkeys at hk ⊢
      rcases List.mem_append.mp hk with hk | hk
      · exact List.mem_append_left _ hk
      · exact List.mem_append_right _ (.tail _ hk)
    refine wpAny_execs_nil ?_
    refine stop_turn (gens := gens3) (dr := dr) (nw := offL [I] tl3) F3 (fun q hq => ?_) (fun q hq e => offL_not hq (by rw [e]; simp)) hB3 ((hJ_ _ _ _).mpr (exI5 ({ c1 with rd := b }) sc' opm' nsl' pgl' (anI5 ?_ (offL_mem hr3 (by simpa using hIr.symm)) (fun hk => hrk1 (hsub3 _ hk)) (fun b o hm hk => ?_) (fun y hy => ?_))))
    · rcases List.mem_cons.mp hq with rfl | hq
      · exact N3' _ hI1
      · exact N3' _ (offL_sub hq)
    · rw [hte, List.map_append, ← List.append_assoc]
      refine ts3.keep fun b2 o2 hm hk => offL_mem hm ?_
      simp only [List.mem_cons, List.not_mem_nil, or_false]
      intro e2
      subst e2
      rcases hk with hk | hk
      · exact hIk (hsub3 _ hk)
      · rw [news_one N3' hm hI1] at hk
        exact ess_it hoI hk
    · have h1 := hfr1 b o hm hk
      exact ⟨offL_mem (hfr3 b o (.tail _ (.tail _ (inR _ _ (.tail _ h1.1) h1.2))) h1.2) (by simpa using off _ h1.1), fun h2 => h1.2 (hsub3 _ h2)⟩
    · show (if y = Str.ofString "name" then _ else _) = _
      rw [if_neg hy]; exact hm₁ y hy
end
section
example : True := by (k_with "22" => skip); (k_with "call ref" => (fail_if_success k_extra "23"); k_extra "st"); (k_with "eval Name" => (fail_if_success k_extra "23"); k_extra "en"); (k_with "exec For" => (fail_if_success k_extra "23"); k_extra "fr"); (k_with "pyIter ref" => (fail_if_success k_extra "23"); k_extra "st"); (k_with "call builtin:list.pop" => (fail_if_success k_extra "23"); k_extra "b7"); (k_with "call type:range" => (fail_if_success k_extra "23"); k_extra "st"); trivial
/-- the ends that due adds to a page -/
noncomputable def endsD (p : Str) (ns : List Str) : Str := ns.foldl (fun p n => p ++ Str.ofString "</" ++ n ++ Str.ofString ">") p
theorem endsD_len {p : Str} : ∀ {ns : List Str}, (∀ n ∈ ns, n.length ≤ 30) → (endsD p ns).length ≤ p.length + 40 * ns.length := by
  intro ns
  induction ns generalizing p with
  | nil => intro _; exact Nat.le_refl _
  | cons n ns ih =>
    intro h
    have h1 := ih (p := p ++ Str.ofString "</" ++ n ++ Str.ofString ">") (fun y hy => h y (.tail _ hy))
    have h2 := h n (.head _)
    have l1 : (Str.ofString "</").length = 2 := by decide +kernel
    have l2 : (Str.ofString ">").length = 1 := by decide +kernel
    show (endsD (p ++ Str.ofString "</" ++ n ++ Str.ofString ">") ns).length ≤ _
    simp only [Str.length_append, List.length_cons] at h1 ⊢
    lia
theorem endsD_snoc {p n : Str} {ns : List Str} : endsD p (ns ++ [n]) = endsD p ns ++ Str.ofString "</" ++ n ++ Str.ofString ">" := by unfold endsD; rw [List.foldl_append]; rfl
theorem e_ends (h₀ : Heap) (L L' : Addr) (m : Str → Option Value) (s : Shared) (Q : Flow → Shared → Prop) (E : Value → Shared → Prop)
   (sc nm : Addr) (scR nmR : List Value) (n1 n2 : Nat) (x : Int) (tx tp : Tok) (ns : List Str) (pgS : Str) (tl : List (Addr × Obj))
   (B : Below (ktrTop dp un gd cn cs L a ccd cl outer) base (envX cn cs L a ccd cl :: outer) h₀) (F : Fr h₀ L' s.heap m) (X : (hd.heap_39 w.params).In h₀) (N : News h₀ L' s.heap ((sc, listOf scR.reverse.toArray n1) :: (nm, listOf nmR.reverse.toArray n2) :: tl))
   (T : Top p loose mean mg mb h₀) (hdp : dp + 400 < recursionLimit) (hun : un + 4000 < cLine) (hB : AllBare s.gens)
   (hns : StrsAre nmR ns) (hnl : ∀ n ∈ ns, n.length ≤ 30) (hsl : scR.length = ns.length) (hn50 : ns.length ≤ 50) (hpl : pgS.length ≤ 100000) (hne : @Ne Nat sc nm) (hnt : ∀ q ∈ tl, q.1 ≠ sc ∧ q.1 ≠ nm) (mX : m (Str.ofString "x") = some (.int x tx)) (mS : m (Str.ofString "scopes") = some (.ref sc)) (mN : m (Str.ofString "names") = some (.ref nm)) (mP : m (Str.ofString "page") = some (.str pgS tp))
   (h : ∀ n1' n2' tp' h' tk gens dr m', m' (Str.ofString "page") = some (.str (endsD pgS (ns.take (closeN x ns.length))) tp') → (∀ y, y ≠ Str.ofString "k" → y ≠ Str.ofString "page" → m' y = m y) → AllBare gens → Fr h₀ L' h' m' → News h₀ L' h' ((sc, listOf (scR.drop (closeN x ns.length)).reverse.toArray n1') :: (nm, listOf (nmR.drop (closeN x ns.length)).reverse.toArray n2') :: tl) → Q .next { s with heap := h', toks := tk, gens := gens, drawn := dr }) :
   wpAny (model PR w) ((ktrTop dp un gd cn cs L a ccd cl outer).deeper (dueE L')) (exec (nth dueF.1 0) (dueE L')) Q E s := by
  unfold dueE
  conv => arg 3; arg 1; whnf
  conv => arg 3; arg 2; arg 2; whnf
  conv => arg 2; arg 2; arg 2; whnf
  have hml : nmR.length = ns.length := strs_len hns
  have hpz : (List.reverse nmR).toArray.size ≤ 1000 := by simp; k_room
  have hsz : ((List.reverse nmR).toArray.size : Int) < 2 ^ 63 := by k_room
  have t1 : ∀ q ∈ tl, q.1 ≠ sc := fun q hq => (hnt q hq).1
  have t2 : ∀ q ∈ tl, q.1 ≠ nm := fun q hq => (hnt q hq).2
  k_steps
  rename News h₀ L' _ _ => kN
  rename Fr h₀ L' _ m => kF
  have hcl : closeN x ns.length ≤ ns.length := Nat.le_trans (Nat.min_le_right _ _) (Nat.sub_le _ _)
  have hcl1 : closeN x ns.length ≤ ns.length - 1 := Nat.min_le_right _ _
  have hbe : (if ((List.reverse nmR).toArray.size : Int) - 1 < (x.fdiv 256).fmod 3 then ((List.reverse nmR).toArray.size : Int) - 1 else (x.fdiv 256).fmod 3).toNat = closeN x ns.length := by
    have e : (List.reverse nmR).toArray.size = ns.length := by simp [hml]
    rw [e]; exact closeN_eq x ns.length
  have hb1 : -1000 < (if ((List.reverse nmR).toArray.size : Int) - 1 < (x.fdiv 256).fmod 3 then ((List.reverse nmR).toArray.size : Int) - 1 else (x.fdiv 256).fmod 3) ∧ (if ((List.reverse nmR).toArray.size : Int) - 1 < (x.fdiv 256).fmod 3 then ((List.reverse nmR).toArray.size : Int) - 1 else (x.fdiv 256).fmod 3) < 1000 := cl_bound (by assumption) _
  generalize (if ((List.reverse nmR).toArray.size : Int) - 1 < (x.fdiv 256).fmod 3 then ((List.reverse nmR).toArray.size : Int) - 1 else (x.fdiv 256).fmod 3) = bb at *
  refine loop_range (L := L') (n₀ := 0) rfl rfl hb1.1 hb1.2
    (fun i m₁ nw => ∃ a1 a2 tp', nw = (sc, listOf (scR.drop i).reverse.toArray a1) :: (nm, listOf (nmR.drop i).reverse.toArray a2) :: tl ∧ m₁ (Str.ofString "page") = some (.str (endsD pgS (ns.take i)) tp') ∧ ∀ y, y ≠ Str.ofString "k" → y ≠ Str.ofString "page" → m₁ y = m y) ?turn ?done kF kN hB ⟨n1, n2, tp, rfl, mP, fun _ _ _ => rfl⟩ (Nat.zero_le _)
  case done =>
    intro m₁ nw h2 tk2 gens dr hz1_; (refine e3a3 hz1_ fun a1 a2 tp' y3_ hp' hm' => ?_; clear hz1_; obtain rfl := y3_); intro F2 N2 hB2 _
    rw [hbe] at hp' N2
    k_steps
    exact h a1 a2 tp' _ _ gens dr m₁ hp' hm' hB2 F2 N2
  case turn =>
    intro i ti m₁ nw I oI h2 tk2 gens dr hi hz1_; (refine e3a3 hz1_ fun a1 a2 tp' y3_ hp' hm' => ?_; clear hz1_; obtain rfl := y3_); intro hoI off F2 N2 hB2 _
    rw [hbe] at hi
    have hin := Nat.lt_of_lt_of_le hi hcl
    obtain ⟨v, hv⟩ : ∃ v, nmR.drop i = v :: nmR.drop (i + 1) := ⟨_, List.drop_eq_getElem_cons (by rw [hml]; exact hin)⟩
    obtain ⟨u, hu⟩ : ∃ v, scR.drop i = v :: scR.drop (i + 1) := ⟨_, List.drop_eq_getElem_cons (by rw [show scR.length = ns.length by assumption]; exact hin)⟩
    have hvi : nmR[i]? = some v := by
      have h1 : (nmR.drop i)[0]? = some v := by rw [hv]; rfl
      rwa [List.getElem?_drop, Nat.add_zero] at h1
    (refine e2a2 (strs_at hns hvi) fun n tn hn y3_ => ?_; obtain rfl := y3_)
    have hte : ns.take (i + 1) = ns.take i ++ [n] := take_snoc hn
    have hnn := hnl n (List.mem_of_getElem? hn)
    have hpl2 : (endsD pgS (ns.take i)).length ≤ 110000 := by
      have := endsD_len (p := pgS) (ns := ns.take i) (fun y hy => hnl y (List.mem_of_mem_take hy))
      have := List.length_take_le i ns
      k_room
    rw [hv, hu, List.reverse_cons, List.reverse_cons] at N2
    have hz1 : (scR.drop (i + 1)).reverse.length ≤ 1000 := by rw [List.length_reverse, List.length_drop]; exact Nat.le_trans (Nat.sub_le _ _) (by k_room)
    have hz2 : (nmR.drop (i + 1)).reverse.length ≤ 1000 := by rw [List.length_reverse, List.length_drop]; exact Nat.le_trans (Nat.sub_le _ _) (by k_room)
    have hmS : m₁ (Str.ofString "scopes") = some (.ref sc) := (hm' _ (by decide) (by decide)).trans mS
    have hmN : m₁ (Str.ofString "names") = some (.ref nm) := (hm' _ (by decide) (by decide)).trans mN
    rw [hte, endsD_snoc]
    generalize endsD pgS (ns.take i) = pp at *
    generalize (nmR.drop (i + 1)).reverse = nn1 at *
    generalize (scR.drop (i + 1)).reverse = ss1 at *
    have oS : @Ne Nat I sc := fun e => off _ (.head _) e.symm
    have oN : @Ne Nat I nm := fun e => off _ (.tail _ (.head _)) e.symm
    k_steps
    rename News h₀ L' _ _ => kN3
    rename Fr h₀ L' _ _ => kF3
    refine stop_turn (gens := gens) (dr := dr) kF3 kN3 (fun q hq => ?_) hB2 (exI3 _ _ _ (anI3 rfl rfl (fun y hy1 hy2 => ?_)))
    · rcases List.mem_cons.mp hq with rfl | hq
      · exact oS.symm
      · rcases List.mem_cons.mp hq with rfl | hq
        · exact oN.symm
        · exact off q (.tail _ (.tail _ hq))
    · show (if y = Str.ofString "page" then _ else if y = Str.ofString "k" then _ else _) = _
      rw [if_neg hy2, if_neg hy1]
      exact hm' y hy1 hy2
end
section
example : True := by (k_with "23" => skip); trivial
noncomputable def isS (u : Str) : Value → Bool
  | .str x _ => x == u
  | _ => false
theorem strs_mem {vs : List Value} {xs : List Str} (h : StrsAre vs xs) : ∀ y ∈ vs, ∃ x t, x ∈ xs ∧ y = .str x t := by
  intro y hy
  (refine ex1 (List.mem_iff_getElem?.mp hy) fun i hi => ?_)
  (refine e2a2 (strs_at h hi) fun x t h1 h2 => ?_)
  exact exI2 x t ⟨List.mem_of_getElem? h1, h2⟩
theorem eqs {vs : List Value} {xs : List Str} {u : Str} {t : Tok} (h : StrsAre vs xs) : ∀ y ∈ vs, MeetsSeq.EqGives y (.str u t) (isS u y) := by
  intro y hy
  (refine e2a2 (strs_mem h y hy) fun x t' _ y3_ => ?_; obtain rfl := y3_)
  exact fun _ _ _ _ _ _ h => wpAny_eqBool_str h
theorem isS_any {u : Str} : ∀ {vs : List Value} {xs : List Str}, StrsAre vs xs → vs.any (isS u) = decide (u ∈ xs) := by
  intro vs xs h
  induction h with
  | nil => simp
  | @cons x t vs xs _ ih =>
    rw [List.any_cons, ih]
    simp only [isS, List.mem_cons, Bool.decide_or]
    congr 1
    by_cases e : x = u
    · subst e; simp
    · simp [e, Ne.symm e]
theorem isS_idx {u : Str} {vs : List Value} {xs : List Str} (h : StrsAre vs xs) : u ∈ xs → ∃ hj : idx u xs < vs.length, isS u vs[idx u xs] = true ∧ ∀ i (hi : i < vs.length), i < idx u xs → isS u vs[i] = false := by
  induction h with
  | nil => intro h; exact nomatch h
  | @cons x t vs xs _ ih =>
    intro hm
    by_cases e : x = u
    · have e0 : idx u (x :: xs) = 0 := by unfold idx; rw [if_pos e]
      simp only [e0]
      exact ⟨Nat.zero_lt_succ _, by simp [isS, e], fun i _ hlt => absurd hlt (Nat.not_lt_zero _)⟩
    · have e0 : idx u (x :: xs) = idx u xs + 1 := by
        show (if x = u then 0 else idx u xs + 1) = _
        rw [if_neg e]
      (refine e1a2 (ih ((List.mem_cons.mp hm).resolve_left (Ne.symm e))) fun a b c => ?_)
      simp only [e0]
      refine ⟨Nat.succ_lt_succ a, b, fun i hi hlt => ?_⟩
      cases i with
      | zero => simp [isS, e]
      | succ i => exact c i (Nat.lt_of_succ_lt_succ hi) (Nat.lt_of_succ_lt_succ hlt)
section
variable {prog : Program} {w : World} {A : Around} {E : Value → Shared → Prop} {s : Shared} {h₀ : Heap} {L D : Addr} {news : List (Addr × Obj)} {its : Array Value} {n : Nat}
theorem strs_in {u : Str} {t : Tok} {xs : List Str} {Q : Value → Shared → Prop} (N : News h₀ L s.heap news) (hm : (D, listOf its n) ∈ news) (hs : StrsAre its.toList xs) (h : Q (.bool (decide (u ∈ xs))) s) :
    wpAny (model prog w) A (compareOp .In (.str u t) (.ref D)) Q E s :=
  SeqInW.in_listW (isS u) (fun y hy => eqs hs y (by simpa using hy)) (PySem.IsL.isList (n := n) (N _ hm).1) (by rw [← Array.any_toList, isS_any hs]; exact h)
theorem strs_notin {u : Str} {t : Tok} {xs : List Str} {Q : Value → Shared → Prop} (N : News h₀ L s.heap news) (hm : (D, listOf its n) ∈ news) (hs : StrsAre its.toList xs) (h : Q (.bool (!decide (u ∈ xs))) s) :
    wpAny (model prog w) A (compareOp .NotIn (.str u t) (.ref D)) Q E s :=
  SeqInW.notIn_listW (isS u) (fun y hy => eqs hs y (by simpa using hy)) (PySem.IsL.isList (n := n) (N _ hm).1) (by rw [← Array.any_toList, isS_any hs]; exact h)
theorem strs_index {u : Str} {t : Tok} {xs : List Str} {Q : Value → Shared → Prop} (N : News h₀ L s.heap news) (hm : (D, listOf its n) ∈ news) (hs : StrsAre its.toList xs) (hu : u ∈ xs) (hz : xs.length ≤ 1000)
    (h : Q (.int (idx u xs) s.toks) { s with toks := s.toks + 1 }) : wpAny (model prog w) A (call (.builtin "list.index") [.ref D, .str u t]) Q E s := by
  (refine e1a2 (isS_idx hs hu) fun a b c => ?_)
  have hl : its.toList.length = its.size := Array.length_toList
  have hl2 := strs_len hs
  refine call_meets PySem.F.slot_list_index ⟨_, (N _ hm).1, rfl⟩ PySem.F.entry_list_index (PySem.F.args_list_index_2 _ _)
    (MeetsSeq.list_index D its n (.str u t) (isS u) (fun y hy => eqs hs y (by simpa using hy)) (idx u xs) (by lia) (by lia) (by simpa using b) (fun i hi hlt => (c i (by lia) hlt : isS u its.toList[i] = false))) ⟨(N _ hm).1, h⟩
end
end
section
example : True := by (k_with "call ref" => (fail_if_success k_extra "24"); k_extra "st"); (k_with "eval Name" => (fail_if_success k_extra "24"); k_extra "en"); (k_with "call builtin:list.append" => (fail_if_success k_extra "24"); k_extra "ap"); (k_with "call ref" => (fail_if_success k_extra "24"); k_extra "b8"); (k_with "call builtin:list.index" => (fail_if_success k_extra "24"); k_extra "b9"); trivial
theorem e_names (h₀ : Heap) (L L' : Addr) (m : Str → Option Value) (s : Shared) (Q : Flow → Shared → Prop) (E : Value → Shared → Prop)
   (nm kn : Addr) (nmv kv : Array Value) (n nk : Nat) (x : Int) (tx : Tok) (ok : Obj) (known : List Str) (tl : List (Addr × Obj))
   (B : Below (ktrTop dp un gd cn cs L a ccd cl outer) base (envX cn cs L a ccd cl :: outer) h₀) (F : Fr h₀ L' s.heap m) (X : (hd.heap_39 w.params).In h₀) (N : News h₀ L' s.heap ((L' + 1, ok) :: (nm, listOf nmv n) :: (kn, listOf kv nk) :: tl))
   (T : Top p loose mean mg mb h₀) (hdp : dp + 400 < recursionLimit) (hun : un + 4000 < cLine) (hB : AllBare s.gens)
   (hk : ok.data = .cell (some (.ref kn))) (hks : StrsAre kv.toList known) (hkl : known.length ≤ 30) (hm : wordOf x ∈ known) (hz : nmv.size ≤ 1000) (hne : @Ne Nat nm kn) (hnc : @Ne Nat (L' + 1) nm) (hnt : ∀ q ∈ tl, q.1 ≠ nm) (mX : m (Str.ofString "x") = some (.int x tx)) (mN : m (Str.ofString "names") = some (.ref nm))
   (h : ∀ n' t h' tk, Fr h₀ L' h' m → News h₀ L' h' ((L' + 1, ok) :: (nm, listOf (nmv.push (.str (nmK known (wordOf x) ++ Str.ofString ":t") t)) n') :: (kn, listOf kv nk) :: tl) → Q .next { s with heap := h', toks := tk }) :
   wpAny (model PR w) ((ktrTop dp un gd cn cs L a ccd cl outer).deeper (dueE L')) (exec (nth dueF.1 5) (dueE L')) Q E s := by
  unfold dueE
  conv => arg 3; arg 1; whnf
  conv => arg 3; arg 2; arg 2; whnf
  conv => arg 2; arg 2; arg 2; whnf
  have hix : idx (wordOf x) known ≤ 30 := Nat.le_trans (Nat.le_of_lt (idx_lt hm)) hkl
  have hixc : idx (wordOf x) known ≤ 100 := Nat.le_trans hix (by decide)
  k_steps
  rename News h₀ L' _ _ => kN
  rename Fr h₀ L' _ _ => kF
  exact h _ _ _ _ kF kN
end
section
example : True := by (k_with "24" => skip); trivial
/-- a place (two numbers) as a text: the texts' order is the pairs' order -/
noncomputable def encP (p : Int × Int) : Str := ⟨#[(p.1 + 1).toNat, p.2.toNat]⟩
/-- places that encP tells apart -/
noncomputable def PlOk (p : Int × Int) : Prop := -1 ≤ p.1 ∧ 0 ≤ p.2
theorem tn_inj {x y : Int} (hx : 0 ≤ x) (hy : 0 ≤ y) (h : x.toNat = y.toNat) : x = y := by rw [← Int.toNat_of_nonneg hx, h, Int.toNat_of_nonneg hy]
theorem tn_lt {x y : Int} (hx : 0 ≤ x) (hy : 0 ≤ y) : x.toNat < y.toNat ↔ x < y := by rw [← Int.ofNat_lt, Int.toNat_of_nonneg hx, Int.toNat_of_nonneg hy]
theorem enc1 {a : Int} (h : -1 ≤ a) : 0 ≤ a + 1 := Int.add_le_add_right h 1
theorem pl_eq {p q : Int × Int} (hp : PlOk p) (hq : PlOk q) (h1 : (p.1 + 1).toNat = (q.1 + 1).toNat) (h2 : p.2.toNat = q.2.toNat) : p = q :=
  Prod.ext ((Int.add_left_inj 1).mp (tn_inj (enc1 hp.1) (enc1 hq.1) h1)) (tn_inj hp.2 hq.2 h2)
theorem encP_inj {p q : Int × Int} (hp : PlOk p) (hq : PlOk q) (h : encP p = encP q) : p = q := by
  unfold encP at h
  simp only [Str.mk.injEq, Array.mk.injEq, List.cons.injEq, and_true] at h
  exact pl_eq hp hq h.1 h.2
theorem encP_lt {p q : Int × Int} (hp : PlOk p) (hq : PlOk q) : decide ((encP p).cps.toList < (encP q).cps.toList) = if p.1 = q.1 then decide (p.2 < q.2) else decide (p.1 < q.1) := by
  have key : ((encP p).cps.toList < (encP q).cps.toList) ↔ (p.1 < q.1 ∨ p.1 = q.1 ∧ p.2 < q.2) := by
    show ([(p.1 + 1).toNat, p.2.toNat] < [(q.1 + 1).toNat, q.2.toNat]) ↔ _
    rw [List.cons_lt_cons_iff, List.cons_lt_cons_iff, tn_lt (enc1 hp.1) (enc1 hq.1), tn_lt hp.2 hq.2]
    simp only [List.not_lt_nil, and_false, or_false]
    exact or_congr (Int.add_lt_add_iff_right 1) (and_congr_left' ⟨fun e => (Int.add_left_inj 1).mp (tn_inj (enc1 hp.1) (enc1 hq.1) e), fun e => by rw [e]⟩)
  by_cases e : p.1 = q.1
  · rw [if_pos e]; exact decide_eq_decide.mpr (key.trans ⟨fun h => h.elim (fun l => absurd e (Int.ne_of_lt l)) And.right, fun h => .inr ⟨e, h⟩⟩)
  · rw [if_neg e]; exact decide_eq_decide.mpr (key.trans ⟨fun h => h.elim (fun l => l) fun h => absurd h.1 e, .inl⟩)
noncomputable def plObj (P : Addr) (x : Str) (t : Tok) (r : List (Str × Tok)) : Obj := { cls := .type "tuple", data := .seq (Value.ref P :: Value.str x t :: r.map fun q => Value.str q.1 q.2).toArray }
section
variable {prog : Program} {w : World} {A : Around} {E : Value → Shared → Prop} {s : Shared} {h₀ : Heap} {L : Addr} {m : Str → Option Value} {news : List (Addr × Obj)}
theorem tupI_key {h : Heap} {P : Addr} {a b : Int} {u1 u2 : Tok} (hx : h.get? P = some (tupI a u1 b u2)) : IsTupleKey (intKind prog w) h [a, b] P :=
  ⟨_, _, _, hx, rfl, rfl, .cons (by simp [intKind, Value.isInt]) (.cons (by simp [intKind, Value.isInt]) .nil)⟩
theorem tupI_lt {P P' : Addr} {a b c d : Int} {u1 u2 u3 u4 : Tok} {Q : Bool → Shared → Prop} (hu : A.units < cLine) (hx : s.heap.get? P = some (tupI a u1 b u2)) (hy : s.heap.get? P' = some (tupI c u3 d u4))
    (hne : ¬ (a = c ∧ b = d))
    (h : Q (if a = c then decide (b < d) else decide (a < c)) s) : wpAny (model prog w) A (oneLt' false (.ref P) (.ref P')) Q E s := by
  have kx : IsTupleKey (intKind prog w) s.heap [a, b] P := tupI_key hx
  have ky : IsTupleKey (intKind prog w) s.heap [c, d] P' := tupI_key hy
  refine kat_one _ _ ?_
  show wpAny _ _ (richCompare .Lt (.ref P) (.ref P')) _ _ _
  refine wpAny_richCompare_same_room (op := .Lt) kx.typeIs ky.typeIs F.slot_tuple_lt (wpAny_call_entry F.slot_tuple_lt kx.typeIs F.entry_tuple_lt ?_ (F.args_tuple_lt_2 _ _)) hu
  show wpAny _ _ (isInstance (.ref P') (.type "tuple") >>= _) _ _ s
  refine wpAny_bind (wpAny_isInstance ky.typeIs isSubtype_tuple_tuple ?_)
  first | refine ifn (by decide) ?_ | simp only [Bool.not_true, Bool.false_eq_true, if_false]
  refine wpAny_bind (wpAny_tupleItemsOf hx rfl ?_)
  refine wpAny_bind (wpAny_tupleItemsOf hy rfl ?_)
  refine wpAny_bind ?_
  show wpAny _ _ (forIn [(Value.int a u1, Value.int c u3), (Value.int b u2, Value.int d u4)] _ _) _ _ s
  rw [List.forIn_cons]
  refine wpAny_bind ?_
  dsimp only
  refine wpAny_bind (wpAny_eqBool_int ?_)
  by_cases e : a = c
  · rw [if_pos e] at h
    rw [beq_iff_eq.mpr e]
    first | refine ifn (by decide) ?_ | simp only [Bool.not_true, Bool.false_eq_true, if_false]
    refine wpAny_pure ?_
    dsimp only
    rw [List.forIn_cons]
    refine wpAny_bind ?_
    dsimp only
    refine wpAny_bind (wpAny_eqBool_int ?_)
    have e2 : ¬ b = d := fun e2 => hne ⟨e, e2⟩
    rw [beq_eq_false_iff_ne.mpr e2]
    first | refine ifp (by decide) ?_ | simp only [Bool.not_false, if_true]
    refine wpAny_bind (wpAny_rule ?_)
    refine wpAny_bind (show wpAny _ _ (compareOp .Lt (Value.int b u2) (Value.int d u4)) _ _ _ from lt_int ?_)
    exact wpAny_bind (wpAny_pure (wpAny_pure (wpAny_pure (wpAny_pure ⟨_, rfl, (fun e => nomatch e), h⟩))))
  · rw [if_neg e] at h
    rw [beq_eq_false_iff_ne.mpr e]
    first | refine ifp (by decide) ?_ | simp only [Bool.not_false, if_true]
    refine wpAny_bind (wpAny_rule ?_)
    refine wpAny_bind (show wpAny _ _ (compareOp .Lt (Value.int a u1) (Value.int c u3)) _ _ _ from lt_int ?_)
    exact wpAny_bind (wpAny_pure (wpAny_pure (wpAny_pure (wpAny_pure ⟨_, rfl, (fun e => nomatch e), h⟩))))
theorem lex_same {Q : Bool → Shared → Prop} {f : List Str} (h : Q false s) : ∀ {r r' : List (Str × Tok)} {i : Nat}, r.map (·.1) = f → r'.map (·.1) = f → KatLex prog w A false false Q ((r.map fun q => Value.str q.1 q.2).zip (r'.map fun q => Value.str q.1 q.2)) i s := by
  induction f with
  | nil =>
    intro r r' i h1 h2
    obtain rfl := List.map_eq_nil_iff.mp h1
    exact kat_nil h
  | cons x f ih =>
    intro r r' i h1 h2
    (refine e2a3 (List.map_eq_cons_iff.mp h1) fun p t e1 e2 h1 => e2a3 (List.map_eq_cons_iff.mp h2) fun q t' e3 e4 h2 => ?_)
    rw [e1, e3]
    refine kat_cons (wpAny_eqBool_str ?_)
    rw [decide_eq_true (show p.1 = q.1 from e2.trans e4.symm)]
    exact kat_yes (ih h1 h2)
theorem pl_lt {x y P P' : Addr} {p q : Int × Int} {u v : Str} {t1 t2 t3 t4 t5 t6 : Tok} {r r' : List (Str × Tok)} {Q : Bool → Shared → Prop} (hu : A.units < cLine)
    (hx : s.heap.get? x = some (plObj P u t1 r)) (hy : s.heap.get? y = some (plObj P' v t2 r')) (hP : s.heap.get? P = some (tupI p.1 t3 p.2 t4)) (hP' : s.heap.get? P' = some (tupI q.1 t5 q.2 t6))
    (hp : PlOk p) (hq : PlOk q) (hr : u = v → r.map (·.1) = r'.map (·.1))
    (h : Q (klt2 (encP p) u (encP q) v) s) : wpAny (model prog w) A (keyLt' (tuples' false) (.ref x) (.ref y)) Q E s := by
  refine kat_lt hx rfl hy rfl ?_
  show KatLex prog w A false (decide ((Value.ref P :: Value.str u t1 :: r.map fun q => Value.str q.1 q.2).toArray.size < (Value.ref P' :: Value.str v t2 :: r'.map fun q => Value.str q.1 q.2).toArray.size)) Q ((Value.ref P, Value.ref P') :: (Value.str u t1, Value.str v t2) :: (r.map fun q => Value.str q.1 q.2).zip (r'.map fun q => Value.str q.1 q.2)) 0 s
  refine kat_cons (wpAny_eqBool_tuple (knd := intKind prog w) hu (tupI_key hP) (tupI_key hP') ?_)
  unfold klt2 at h
  by_cases e : p = q
  · subst e
    rw [if_pos rfl] at h
    rw [decide_eq_true rfl]
    refine kat_yes (kat_cons (wpAny_eqBool_str ?_))
    by_cases e2 : u = v
    · subst e2
      rw [decide_eq_true rfl]
      rw [decide_eq_false (List.lt_irrefl _)] at h
      refine kat_yes ?_
      have hl := congrArg List.length (hr rfl)
      rw [List.length_map, List.length_map] at hl
      have hsz : ∀ (z : Str) (t : Tok) (R : Addr), (Value.ref P :: Value.str u t1 :: r.map fun q => Value.str q.1 q.2).toArray.size = (Value.ref R :: Value.str z t :: r'.map fun q => Value.str q.1 q.2).toArray.size := fun z t R => by simp [hl]
      rw [decide_eq_false (by rw [hsz u t2 P']; exact Nat.lt_irrefl _)]
      exact lex_same h (hr rfl) rfl
    · rw [decide_eq_false e2]
      exact kat_no (kat_one _ _ (rich_lt_str h))
  · have e2 : ¬ encP p = encP q := fun k => e (encP_inj hp hq k)
    rw [if_neg e2, encP_lt hp hq] at h
    have e3 : ¬ (p.1 = q.1 ∧ p.2 = q.2) := fun k => e (Prod.ext k.1 k.2)
    have e4 : decide ([p.1, p.2] = [q.1, q.2]) = false := decide_eq_false (fun k => e3 (by simpa using k))
    rw [e4]
    exact kat_no (b := false) (tupI_lt hu hP hP' e3 h)
/-- tuples that open with a place and a text -/
noncomputable def PlAt (f : Str → List Str) (l : List (Addr × Obj)) (vs : List Value) (qs : List ((Int × Int) × Str)) : Prop :=
  A2 (fun v q => ∃ a P t u1 u2 r, v = .ref a ∧ r.map (·.1) = f q.2 ∧ PlOk q.1 ∧ (a, plObj P q.2 t r) ∈ l ∧ (P, tupI q.1.1 u1 q.1.2 u2) ∈ l) vs qs
theorem PlAt.mono {f : Str → List Str} {l l' : List (Addr × Obj)} (h : ∀ p ∈ l, p ∈ l') {vs qs} (k : PlAt f l vs qs) : PlAt f l' vs qs := A2.mono (fun _ _ r => e6a5 r fun a P t u1 u2 r e e2 e3 m1 m2 => exI6 a P t u1 u2 r (anI5 e e2 e3 (h _ m1) (h _ m2))) k
theorem PlAt.len {f : Str → List Str} {l : List (Addr × Obj)} {vs qs} (k : PlAt f l vs qs) : vs.length = qs.length := A2.len k
theorem PlAt.snoc {f : Str → List Str} {l : List (Addr × Obj)} {v : Value} {q : (Int × Int) × Str} (h : ∃ a P t u1 u2 r, v = .ref a ∧ r.map (·.1) = f q.2 ∧ PlOk q.1 ∧ (a, plObj P q.2 t r) ∈ l ∧ (P, tupI q.1.1 u1 q.1.2 u2) ∈ l) {vs qs} (k : PlAt f l vs qs) : PlAt f l (vs ++ [v]) (qs ++ [q]) := A2.snoc h k
theorem PlAt.nth {f : Str → List Str} {l : List (Addr × Obj)} {vs qs} (k : PlAt f l vs qs) (i : Nat) (hi : i < qs.length) : ∃ a P t u1 u2 r, vs.getD i Value.none = .ref a ∧ r.map (·.1) = f (qs.getD i ((0, 0), Str.empty)).2 ∧ PlOk (qs.getD i ((0, 0), Str.empty)).1 ∧ (a, plObj P (qs.getD i ((0, 0), Str.empty)).2 t r) ∈ l ∧ (P, tupI (qs.getD i ((0, 0), Str.empty)).1.1 u1 (qs.getD i ((0, 0), Str.empty)).1.2 u2) ∈ l := A2.nth k _ _ i hi
theorem PlAt.at {f : Str → List Str} {l : List (Addr × Obj)} {vs : List Value} {qs : List ((Int × Int) × Str)} {i : Nat} {v : Value} (k : PlAt f l vs qs) (hv : vs[i]? = some v) : ∃ q a P t r, qs[i]? = some q ∧ v = .ref a ∧ r.map (·.1) = f q.2 ∧ (a, plObj P q.2 t r) ∈ l :=
  e1a2 (A2.at k hv) fun q e r => e6a5 r fun a P t _ _ r e1 e2 _ m _ => exI5 q a P t r (anI4 e e1 e2 m)
theorem PlAt.pick {f : Str → List Str} {l : List (Addr × Obj)} {vs qs} (h : PlAt f l vs qs) {p : List Nat} (hp : ∀ i ∈ p, i < qs.length) : PlAt f l (p.map fun i => vs.getD i Value.none) (p.map fun i => qs.getD i ((0, 0), Str.empty)) := A2.pick h _ _ hp
theorem PlAt.tups {f : Str → List Str} {l : List (Addr × Obj)} {h : Heap} (hl : ∀ q ∈ l, h.get? q.1 = some q.2) {vs qs} (k : PlAt f l vs qs) : ∃ fs, KatTups h vs fs ∧ fs.length = qs.length ∧ ∀ g ∈ fs, ∃ P a t b u, g = Value.ref P ∧ h.get? P = some (tupI a t b u) :=
  A2.tups (fun _ q r => e6a5 r fun a P t u1 u2 r e e2 e3 m1 m2 => ⟨.ref P, ⟨⟨a, _, _, _, e, hl _ m1, rfl, rfl, rfl⟩, trivial⟩, exI5 P _ _ _ _ ⟨rfl, hl _ m2⟩⟩) k
/-- the rows' order -/
noncomputable abbrev plKey (q : (Int × Int) × Str) : Str × Str := (encP q.1, q.2)
noncomputable abbrev SortedP (rows : List ((Int × Int) × Str)) : Prop := rows.Pairwise fun x y => klt2 (encP y.1) y.2 (encP x.1) x.2 = false
theorem pl_lsort {f : Str → List Str} {D : Addr} {its : Array Value} {n : Nat} {g : Obj → List (Addr × Obj)} {rows : List ((Int × Int) × Str)} {tl : List (Addr × Obj)} {Q : Value → Shared → Prop} (hu : A.in1.units < cLine) (F : Fr h₀ L s.heap m) (N : News h₀ L s.heap news) (U : UpdF D (listOf its n) news g)
    (hp : PlAt f tl its.toList rows) (htl : ∀ q ∈ tl, q ∈ news ∧ q.1 ≠ D) (h2 : 2 ≤ rows.length) (h5 : rows.length ≤ 5)
    (h : ∀ vs' rows' c h', PlAt f tl vs' rows' → rows'.Perm rows → SortedP rows' → Fr h₀ L h' m → News h₀ L h' (g (listOf vs'.toArray c)) → Q .none { s with heap := h' }) :
    wpAny (model prog w) A (call (.builtin "list.sort") [.ref D]) Q E s := by
  have hl := hp.len
  refine any_lsort (T := .type "tuple") (lt := fun i j => klt2 (encP (rows.getD i ((0, 0), Str.empty)).1) (rows.getD i ((0, 0), Str.empty)).2 (encP (rows.getD j ((0, 0), Str.empty)).1) (rows.getD j ((0, 0), Str.empty)).2) F N U rfl (by lia) (by lia) (swo_klt (fun i => encP (rows.getD i ((0, 0), Str.empty)).1) (fun i => (rows.getD i ((0, 0), Str.empty)).2)) (by decide) (fun h' hm => ?_) (fun h' i j C hm hi hj hC => ?_) fun p c h' hpm hpw F' N' => ?_
  · (refine e1a3 (hp.tups (h := h') fun q hq => hm q (htl q hq).1 (htl q hq).2) fun fs' k' hf' hx' => ?_)
    refine ⟨fs', anI3 k' (by lia) (fun v hv => ?_)⟩
    (refine e5a2 (hx' v hv) fun P a t b u y3_ hP => ?_; obtain rfl := y3_)
    exact (Looks.ld hP).andThen .now
  · (refine e6a5 (hp.nth i (by lia)) fun a P t u1 u2 r e1 e2 e3 m1 m2 => ?_)
    (refine e6a5 (hp.nth j (by lia)) fun a' P' t' u1' u2' r' e1' e2' e3' m1' m2' => ?_)
    unfold kas_ask
    rw [e1, e1']
    rw [show (Value.type "tuple" != Value.type "tuple") = false by decide]
    have g : ∀ q ∈ tl, h'.get? q.1 = some q.2 := fun q hq => hm q (htl q hq).1 (htl q hq).2
    exact pl_lt hu (g _ m1) (g _ m1') (g _ m2) (g _ m2') e3 e3' (fun e => by rw [e2, e2', e]) hC
  · rw [hl] at hpm
    have hb : ∀ i ∈ p, i < rows.length := fun i hi => List.mem_range.mp (hpm.mem_iff.mp hi)
    refine h _ _ c h' (hp.pick hb) (perm_map_getD rows _ hpm) ?_ F' N'
    rw [SortedP, List.pairwise_map]
    exact hpw
end
theorem plN_range (x : Int) : 0 ≤ plN x ∧ plN x ≤ 128 := by
  unfold plN
  have h1 : 0 ≤ x % 128 := Int.emod_nonneg _ (by decide)
  have h2 : x % 128 < 128 := Int.emod_lt_of_pos _ (by decide)
  dsimp only
  split
  · lia
  · split
    · lia
    · split
      · lia
      · split <;> lia
theorem ltN_range (x : Int) : -1 ≤ ltN x ∧ ltN x ≤ 128 ∧ (0 ≤ ltN x) := by
  have := plN_range x
  unfold ltN
  split
  · lia
  · split <;> lia
theorem pl0_ok (x : Int) : PlOk (pl0a x, pl0b x) := by
  have := plN_range x
  unfold PlOk pl0a pl0b
  refine ⟨?_, ?_⟩ <;> dsimp only <;> (repeat' split) <;> lia
theorem pl1_ok (x : Int) : PlOk (pl1a x, pl1b x) := by
  have := ltN_range x
  unfold PlOk pl1a pl1b
  refine ⟨?_, ?_⟩ <;> dsimp only <;> (repeat' split) <;> lia
end
section
open LCg
noncomputable def forIter : Stmt → Expr
  | .For _ it _ _ _ => it
  | _ => .Name Str.empty ⟨0, 0, 0, 0⟩
example : True := by (k_with "call ref" => (fail_if_success k_extra "25"); k_extra "st"); (k_with "eval Name" => (fail_if_success k_extra "25"); k_extra "en"); (k_with "eval ListComp" => (fail_if_success k_extra "25"); k_extra "c1"); (k_with "CompSrc" => (fail_if_success k_extra "25"); k_extra "st"); (k_with "call builtin:sorted" => (fail_if_success k_extra "25"); k_extra "st"); (k_with "call ref" => (fail_if_success k_extra "25"); k_extra "b8"); (k_with "call ref" => (fail_if_success k_extra "25"); (k_here; k_dflt (refine' lplaces _ _ _ _ _ _ _ _ _ _ _ _ _ _ _ _ _ _ _ _ _ _ _ _ _ _ ?kB_r ?kF_r ?kX_r ?kN_r ?kT_r ?kc_r ?kd_r ?ku_r ?kb_r ?_; (case kB_r => k_asm); (case kF_r => k_asm); (case kX_r => k_asm); (case kN_r => k_asm); (case kT_r => k_asm); (case kc_r => rfl); (case kd_r => (dsimp only [ktrTop]; k_room)); (case ku_r => (dsimp only [ktrTop]; k_room)); (case kb_r => k_asm)); (intro _ _ _ _ _ _ _ _ _ _ _ _ e1r e2r e3r e4r _ _ lPr _ _ _ _; subst e1r e2r e3r e4r; (try k_lt lPr); revert lPr; intro _; (try dsimp only)))); trivial
-- the numbers whose words an element needs
noncomputable def ysOf (x : Int) : List Int := [x, hiN x, x + 128, 33, 94]
noncomputable def rowY (y : Int) : (Int × Int) × Str := ((pl0a y, pl0b y), wordOf y)
theorem f_ys (h₀ : Heap) (L L' : Addr) (m : Str → Option Value) (s : Shared) (Q : Value → Shared → Prop) (E : Value → Shared → Prop)
   (l D1 D2 D3 D4 : Addr) (n : Nat) (a1 a2 a3 b1 b2 b3 c1 c2 c3 d1 d2 d3 : Tok) (x : Int) (tx : Tok) (tl : List (Addr × Obj))
   (B : Below (ktrTop dp un gd cn cs L a ccd cl outer) base (envX cn cs L a ccd cl :: outer) h₀) (F : Fr h₀ L' s.heap m) (X : (hd.heap_39 w.params).In h₀) (N : News h₀ L' s.heap ((l, listOf #[.ref D1, .ref D2, .ref D3, .ref D4] n) :: (D4, tupP (Str.ofString "a") a1 94 a2 fullS a3) :: (D3, tupP (Str.ofString "b") b1 33 b2 (chS (loC x)) b3) :: (D2, tupP (Str.ofString "c") c1 (x + 128) c2 (chS (wdC x)) c3) :: (D1, tupP (Str.ofString "d") d1 (hiN x) d2 (chS (hiN x)) d3) :: tl))
   (T : Top p loose mean mg mb h₀) (hdp : dp + 400 < recursionLimit) (hun : un + 4000 < cLine) (hB : AllBare s.gens)
   (mX : m (Str.ofString "x") = some (.int x tx)) (mP : m (Str.ofString "pairs") = some (.ref l))
   (h : ∀ (B : Addr) vs rows c ex h' tk, rows.Perm ((ysOf x).map rowY) → SortedP rows → PlAt (fun _ => []) ex vs rows → (∀ z ∈ (B, listOf vs.toArray c) :: ex, ∀ q ∈ (l, listOf #[.ref D1, .ref D2, .ref D3, .ref D4] n) :: (D4, tupP (Str.ofString "a") a1 94 a2 fullS a3) :: (D3, tupP (Str.ofString "b") b1 33 b2 (chS (loC x)) b3) :: (D2, tupP (Str.ofString "c") c1 (x + 128) c2 (chS (wdC x)) c3) :: (D1, tupP (Str.ofString "d") d1 (hiN x) d2 (chS (hiN x)) d3) :: tl, @LT.lt Nat _ q.1 z.1) → Fr h₀ L' h' m → News h₀ L' h' ((B, listOf vs.toArray c) :: (ex ++ ((l, listOf #[.ref D1, .ref D2, .ref D3, .ref D4] n) :: (D4, tupP (Str.ofString "a") a1 94 a2 fullS a3) :: (D3, tupP (Str.ofString "b") b1 33 b2 (chS (loC x)) b3) :: (D2, tupP (Str.ofString "c") c1 (x + 128) c2 (chS (wdC x)) c3) :: (D1, tupP (Str.ofString "d") d1 (hiN x) d2 (chS (hiN x)) d3) :: tl))) → Q (.ref B) { s with heap := h', toks := tk }) :
   wpAny (model PR w) ((ktrTop dp un gd cn cs L a ccd cl outer).deeper (dueE L')) (eval (forIter (nth dueF.1 3)) (dueE L')) Q E s := by
  unfold dueE
  conv => arg 3; arg 1; whnf
  conv => arg 3; arg 2; arg 2; whnf
  conv => arg 2; arg 2; arg 2; whnf
  k_steps
  rename News h₀ L' _ _ => kN
  rename Fr h₀ L' _ _ => kF
  refine CompSrc.ledger rfl kF kN (.tail _ (.head _)) (by rw [sizeLine_eq]; exact Nat.le_of_ble_eq_true rfl) fun g' => ?_
  refine rest_inv (fun i ys nw => nw = _ ∧ ys = [Value.int (hiN x) d2, Value.int (x + 128) c2, Value.int 33 b2, Value.int 94 a2].take i) ?_ ?_ ⟨rfl, rfl⟩
  · intro i v ys _ hi hv hz1_; (refine an2 hz1_ fun y1_ hys => ?_; clear hz1_; obtain rfl := y1_); intro I oI C oC D m₂ h tk E' hC hx2 F2 N2 off ne
    match i, hi with
    | 0, hi =>
      obtain rfl : v = .ref D1 := by simpa using hv.symm
      k_steps
      exact exI3 h _ _ (anI7 rfl F2 N2 off (.inr ⟨_, .tail _ (.head _), rfl, _, rfl⟩) rfl (by rw [hys]; rfl))
    | 1, hi =>
      obtain rfl : v = .ref D2 := by simpa using hv.symm
      k_steps
      exact exI3 h _ _ (anI7 rfl F2 N2 off (.inr ⟨_, .tail _ (.head _), rfl, _, rfl⟩) rfl (by rw [hys]; rfl))
    | 2, hi =>
      obtain rfl : v = .ref D3 := by simpa using hv.symm
      k_steps
      exact exI3 h _ _ (anI7 rfl F2 N2 off (.inr ⟨_, .tail _ (.head _), rfl, _, rfl⟩) rfl (by rw [hys]; rfl))
    | 3, hi =>
      obtain rfl : v = .ref D4 := by simpa using hv.symm
      k_steps
      exact exI3 h _ _ (anI7 rfl F2 N2 off (.inr ⟨_, .tail _ (.head _), rfl, _, rfl⟩) rfl (by rw [hys]; rfl))
  · intro ys _ hz1_; (refine an2 hz1_ fun y1_ hys => ?_; clear hz1_; obtain rfl := y1_)
    obtain rfl : ys = [Value.int (hiN x) d2, Value.int (x + 128) c2, Value.int 33 b2, Value.int 94 a2] := hys
    unfold FinE
    intro D h3 tk3 F2 N2 off
    k_steps
    rename News h₀ L' _ _ => kN2
    rename Fr h₀ L' _ _ => kF2
    rename AllLt _ tl => lN
    rename Addr => DI
    obtain ⟨base, hbase, kN2⟩ : ∃ base, base = _ ∧ News h₀ L' _ ((DI, listOf #[Value.int x tx, Value.int (hiN x) d2, Value.int (x + 128) c2, Value.int 33 b2, Value.int 94 a2] 0) :: base) := ⟨_, rfl, kN2⟩
    have hLB : ∀ q ∈ (l, listOf #[.ref D1, .ref D2, .ref D3, .ref D4] n) :: (D4, tupP (Str.ofString "a") a1 94 a2 fullS a3) :: (D3, tupP (Str.ofString "b") b1 33 b2 (chS (loC x)) b3) :: (D2, tupP (Str.ofString "c") c1 (x + 128) c2 (chS (wdC x)) c3) :: (D1, tupP (Str.ofString "d") d1 (hiN x) d2 (chS (hiN x)) d3) :: tl, q ∈ base := by
      intro q hq
      rw [hbase]
      exact .tail _ (.tail _ hq)
    refine CompSrc.ledger rfl kF2 kN2 (.head _) ?hsz fun g' => ?_
    case hsz => rw [sizeLine_eq]; exact Nat.le_of_ble_eq_true rfl
    refine rest_inv (fun i ys nw => ∃ ex, nw = (DI, listOf #[Value.int x tx, Value.int (hiN x) d2, Value.int (x + 128) c2, Value.int 33 b2, Value.int 94 a2] 0) :: (ex ++ base) ∧ PlAt (fun _ => []) ex ys (((ysOf x).map rowY).take i) ∧ ∀ z ∈ ex, ∀ q ∈ base, @LT.lt Nat _ q.1 z.1) ?_ ?_ ⟨[], rfl, trivial, fun _ h => nomatch h⟩
    · intro i v ys _ hi hv hz1_; (refine e1a3 hz1_ fun ex y3_ hys hex => ?_; clear hz1_; obtain rfl := y3_); intro I oI C oC D m₂ h tk E' hC hx2 F2 N2 off ne
      (refine e2a2 (ints_at (xs := ysOf x) (.cons _ _ (.cons _ _ (.cons _ _ (.cons _ _ (.cons _ _ .nil))))) (show ([Value.int x tx, Value.int (hiN x) d2, Value.int (x + 128) c2, Value.int 33 b2, Value.int 94 a2] : List Value)[i]? = some v by simpa using hv)) fun y ty hy y3_ => ?_; obtain rfl := y3_)
      clear kN2 lN
      k_steps
      rename News h₀ L' _ _ => kN3
      rename Fr h₀ L' _ _ => kF3
      rename AllLt _ (ex ++ base) => lX
      rename Addr => T
      have lM := allLt_mem lX
      rename_i tq uq vq yq nq iA iB u1 c1 jI jC jD jDI jX x4 x5 x6 x7 x8 k1 x9 k2 kI kC kD kDI
      (refine e1a2 (lt_ex jI) fun P1 y3_ _ => ?_; obtain rfl := y3_)
      have pM := allLt_mem jX
      have om := off.mem
      refine ⟨_, _, (DI, listOf #[Value.int x tx, Value.int (hiN x) d2, Value.int (x + 128) c2, Value.int 33 b2, Value.int 94 a2] 0) :: ((T, plObj P1 (wordOf y) x5 []) :: (P1, tupI (pl0a y) tq (pl0b y) uq) :: ex ++ base), rfl, kF3, fun p hp => kN3 p ?_, LCg.Off3.of fun p hp => ?_, .inr ⟨_, .head _, rfl, _, rfl⟩, (T, plObj P1 (wordOf y) x5 []) :: (P1, tupI (pl0a y) tq (pl0b y) uq) :: ex, rfl, ?_, fun z hz q hq => ?_⟩
      · revert p
        k_data
      · revert p; refine fmc ?_ (fmc ?_ (fmc ?_ (fun p h => ?_)))
        · exact om _ (.head _)
        · exact ⟨Nat.ne_of_gt kI, Nat.ne_of_gt kC, Nat.ne_of_gt kD⟩
        · exact ⟨Nat.ne_of_gt jI, Nat.ne_of_gt jC, Nat.ne_of_gt jD⟩
        · exact om _ (.tail _ h)
      · rw [take_snoc (show ((ysOf x).map rowY)[i]? = some (rowY y) by rw [List.getElem?_map, hy]; rfl)]
        exact (hys.mono fun _ h => .tail _ (.tail _ h)).snoc (q := rowY y) ⟨T, P1, _, _, _, [], rfl, rfl, pl0_ok y, .head _, .tail _ (.head _)⟩
      · rcases List.mem_cons.mp hz with rfl | hz
        · exact lM q (List.mem_append_right _ hq)
        rcases List.mem_cons.mp hz with rfl | hz
        · exact pM q (List.mem_append_right _ hq)
        · exact hex z hz q hq
    · intro ys _ hz1_; (refine e1a3 hz1_ fun ex y3_ hys hex => ?_; clear hz1_; obtain rfl := y3_)
      rw [List.take_of_length_le (by simp [ysOf])] at hys
      intro D h4 tk4 F4 N4 off4
      clear kN2
      k_steps
      rename News h₀ L' _ _ => kN5
      rename Fr h₀ L' _ _ => kF5
      have om := off1_mem off4
      refine sorted_list (vs := ys) kF5 kN5 ⟨_, (kN5 _ (.head _)).1, rfl, _, rfl⟩ (by rw [hys.len]; exact Nat.le_of_ble_eq_true rfl) fun B c h6 F6 N6 lB => ?_
      refine pl_lsort (tl := ex) (rows := (ysOf x).map rowY) (by dsimp only [ktrTop, Around.in1, Around.deeper]; k_room) F6 N6 (.head fun q hq => Nat.ne_of_lt (lB q hq)) hys (fun q hq => ⟨.tail _ (.tail _ (.tail _ (List.mem_append_left _ hq))), Nat.ne_of_lt (lB q (.tail _ (.tail _ (List.mem_append_left _ hq))))⟩) (Nat.le_of_ble_eq_true rfl) (Nat.le_of_ble_eq_true rfl) fun vs' rows' c' h7 hp1 hp2 hp3 F7 N7 => ?_
      refine h B vs' rows' c' ex _ _ hp2 hp3 hp1 (fun z hz q hq => ?_) F7 fun q hq => N7 q ?_
      · rcases List.mem_cons.mp hz with rfl | hz
        · exact lB q (.tail _ (.tail _ (List.mem_append_right _ (hLB q hq))))
        · exact hex z hz q (hLB q hq)
      · rcases List.mem_cons.mp hq with rfl | hq
        · exact .head _
        rcases List.mem_append.mp hq with hq | hq
        · exact .tail _ (.tail _ (.tail _ (List.mem_append_left _ hq)))
        · exact .tail _ (.tail _ (.tail _ (List.mem_append_right _ (hLB q hq))))
end
section
example : True := by (k_with "25" => skip); trivial
section
open LCg LCp
variable {prog : Program} {w : World} {A : Around} {E : Value → Shared → Prop} {s : Shared} {h₀ : Heap} {L : Addr} {m : Str → Option Value} {env : Env}
/-- what a turn of a comprehension over three names of a tuple owes -/
noncomputable abbrev Turn3 (prog : Program) (w : World) (A : Around) (h₀ : Heap) (L : Addr) (m : Str → Option Value) (env : Env) (elt : Expr) (x y z : Str) (scope : Scope) (cl : List (Str × Addr)) (s₁ : Shared) (its : Array Value) (Inv : Nat → List Value → List (Addr × Obj) → Prop) : Prop :=
  ∀ i v ys news, its[i]? = some v → Inv i ys news → ∃ (t : Addr) (v₁ v₂ v₃ : Value) (nt : Nat), v = .ref t ∧ (t, ({ cls := .type "tuple", data := .seq #[v₁, v₂, v₃] nt } : Obj)) ∈ news ∧
    ∀ I oI C oC D mC h tk (E' : Value → Shared → Prop), NsObj oC mC → mC x = some v₁ → mC y = some v₂ → mC z = some v₃ → Fr h₀ L h m → News h₀ L h ((I, oI) :: (C, oC) :: (D, lst ys) :: news) → Off3 I C D news → ((@Ne Nat I C) ∧ (@Ne Nat I D) ∧ (@Ne Nat C D)) →
    wpAny (model prog w) A (eval elt (compEnvC scope cl C env)) (CompEnd h₀ L m { s₁ with heap := h, toks := tk } I oI C oC D (lst ys) (fun _ => True) (fun v news' => Inv (i + 1) (ys ++ [v]) news')) E' { s₁ with heap := h, toks := tk }
theorem fresh_at {h : Heap} (F : Fr h₀ L h m) {a : Addr} (ha : h.objs.size ≤ a) : h₀.get? a = none ∧ @Ne Nat a L :=
  ⟨Heap.get?_none_of_le (Nat.le_trans F.above (Nat.le_trans (Nat.le_of_lt F.ns.lt) ha)), fun e => absurd F.ns.lt (by rw [← e]; exact Nat.not_lt.mpr ha)⟩
theorem ListComp_3 {elt iter : Expr} {x y z : Str} {px py pz tp : Pos} {tk} {scope : Scope} {cl : List (Str × Addr)} {pos : Pos} {Q : Value → Shared → Prop} (F₀ : Fr h₀ L s.heap m)
    (hclos : closureFor scope env = pure cl) (hcell : ∀ y ∈ scope.names, y.2 ≠ .cell) (hkind : scope.kind = .function)
    (hnames : ∀ y ∈ scope.names, y.2 = .local → scope.names.lookup y.1 = some .local) (hx : scope.names.lookup x = some .local) (hy : scope.names.lookup y = some .local) (hz : scope.names.lookup z = some .local) (hne : x ≠ y ∧ x ≠ z ∧ y ≠ z) (hh : A.handled = none)
    (h : wpAny (model prog w) A (eval iter env) (fun xv s₁ => Stop (∃ ax its k news, xv = .ref ax ∧ Fr h₀ L s₁.heap m ∧ News h₀ L s₁.heap news ∧ its.size ≤ 1000 ∧
      ∃ Inv : Nat → List Value → List (Addr × Obj) → Prop, Inv 0 [] news ∧ (∀ i ys nw, Inv i ys nw → (ax, listOf its k) ∈ nw) ∧ (∀ hp, Turn3 prog w A h₀ L m env elt x y z scope cl { s₁ with heap := hp } its Inv) ∧
        ∀ ys nw D hp tk, Inv its.size ys nw → Fr h₀ L hp m → News h₀ L hp ((D, lst ys) :: nw) → (∀ p ∈ nw, p.1 ≠ D) → Q (.ref D) { s₁ with heap := hp, toks := tk })) E s)
    (hs : ∀ x, foldedSetIterable iter env x = pure x) :
    wpAny (model prog w) A (eval (.ListComp elt [⟨.Tuple [.Name x px, .Name y py, .Name z pz] tk tp, iter, [], 0⟩] scope pos) env) Q E s := by
  rw [eval_ListComp]
  refine wpAny_comprehension_free (use := none) rfl hs hclos hkind hnames (wpAny_mono h (fun xv s₁ h₁ => ?_) fun _ _ e => e)
  unfold Stop at h₁
  (refine ex4 h₁ fun ax its k news w2_ => ?_; try clear h₁; obtain ⟨rfl, F, N, hsz, Inv, J0, Jm, turn, fin⟩ := w2_)
  have inList : ∀ {hp : Heap} {i ys nw}, Inv i ys nw → News h₀ L hp nw → hp.IsList ax its := fun J N => ⟨_, (N _ (Jm _ _ _ J)).1, rfl, _, rfl⟩
  refine wpAny_pyIter_list (inList J0 N) ?_
  have f0 := fresh_at F (Nat.le_refl _)
  have f1 := fresh_at F (a := s₁.heap.objs.size + 1) (Nat.le_succ _)
  have f2 := fresh_at F (a := s₁.heap.objs.size + 2) (by k_room)
  generalize hI : s₁.heap.objs.size = I at *
  have hin : ∀ p ∈ news, p.1 < I := fun p hp => hI ▸ Heap.lt_size (N p hp).1
  refine wpAny_newObj_type (wpAny_newFunctionEnv hcell (by intro y hy; simp at hy) (fun h₁ hns₁ hsb₁ => ?_) hkind)
  dsimp only at hns₁ hsb₁ ⊢
  have hDs : (s₁.heap.push { cls := .type "list_iterator", data := .fields #[.ref ax, .int 0 0] }).objs.size = I + 1 := by rw [Heap.size_push, hI]
  have hCs : ((s₁.heap.push { cls := .type "list_iterator", data := .fields #[.ref ax, .int 0 0] }).push { cls := .type "list", dict := none, data := .seq ([] : List Value).toArray }).objs.size = I + 2 := by rw [Heap.size_push, hDs]
  try rw [hCs] at hns₁
  try rw [hCs] at hsb₁
  rw [hCs, hDs]
  have keep : ∀ b o, b ≠ I + 2 → ((s₁.heap.push { cls := .type "list_iterator", data := .fields #[.ref ax, .int 0 0] }).push { cls := .type "list", dict := none, data := .seq ([] : List Value).toArray }).get? b = some o → h₁.get? b = some o := fun b o hb e => hsb₁.extBut b o hb (Heap.get?_push_of_some _ e)
  have up : ∀ b o, s₁.heap.get? b = some o → h₁.get? b = some o := fun b o e => keep b o (Nat.ne_of_lt (Nat.lt_of_lt_of_le (Heap.lt_size e) (by rw [hI]; exact Nat.le_add_right _ _))) (Heap.get?_push_of_some _ (Heap.get?_push_of_some _ e))
  have gI : h₁.get? I = some { cls := .type "list_iterator", data := .fields #[.ref ax, .int 0 0] } := keep _ _ (by k_room) (Heap.get?_push_of_some _ (hI ▸ Heap.get?_push_size _ rfl))
  have gD : h₁.get? (I + 1) = some (lst []) := keep _ _ (Nat.ne_of_lt (Nat.lt_succ_self (I + 1))) (hDs ▸ Heap.get?_push_size _ rfl)
  have W : Walks prog w A I [I, ax] [I] its.size (fun i v => its[i]? = some v) (fun i h => h.IsListIter I ax i ∧ h.IsList ax its) := Walks.list hh I ax (fun e => by have := hin _ (Jm _ _ _ J0); rw [← e] at this; exact Nat.lt_irrefl _ this) its
  have loop : ∀ s₃ : Shared, s₃ = { s₁ with heap := h₁, toks := s₁.toks + ([] : List (Str × Value)).length } →
      codeAny (model prog w) A (.compLoop (.ListComp elt [⟨.Tuple [.Name x px, .Name y py, .Name z pz] tk tp, iter, [], 0⟩] scope pos) 0 (.ref I) (.ref (I + 1)) (compEnvC scope cl (I + 2) env)) (compPost (model prog w) A E none Q (.ref (I + 1)) (I + 2)) s₃ := by
    rintro s₃ rfl
    refine codeAny_compLoop_pair (fun k s' => ∃ hp tk i ys nw mC, s' = { s₁ with heap := hp, toks := tk } ∧ i ≤ its.size ∧ k = its.size - i ∧ ys.length = i ∧ Inv i ys nw ∧ Fr h₀ L hp m ∧ hp.Ns (I + 2) mC ∧ hp.IsListIter I ax i ∧
      News h₀ L hp ((I + 1, lst ys) :: nw) ∧ ∀ p ∈ nw, p.1 ≠ I ∧ p.1 ≠ I + 2 ∧ p.1 ≠ I + 1) ?_ its.size (exI6 h₁ _ 0 [] news _ (anI10 rfl (Nat.zero_le _) rfl rfl J0 (F.keeps up) hns₁ ⟨_, gI, rfl, rfl⟩ ?_ fun p hp => by have := hin p hp; exact ⟨Nat.ne_of_lt this, Nat.ne_of_lt (Nat.lt_of_lt_of_le this (Nat.le_add_right _ _)), Nat.ne_of_lt (Nat.lt_of_lt_of_le this (Nat.le_add_right _ _))⟩))
    · intro k s' hz1_; (refine ex6 hz1_ fun hp tk i ys nw mC w3_ => an10 w3_ fun y4_ hi y5_ hyl J F' hC hIt N' off => ?_; clear w3_; clear hz1_; obtain rfl := y4_; obtain rfl := y5_)
      have N1 : News h₀ L hp nw := fun p hp => N' p (.tail _ hp)
      rcases Nat.lt_or_ge i its.size with hlt | hge
      · refine W.item i _ _ _ hlt ⟨hIt, inList J N1⟩ fun v h₂ tk₂ hv st₂ hk₂ => ?_
        (refine e5a3 (turn h₁ i v ys nw hv J) fun t v₁ v₂ v₃ nt y3_ hmt go => ?_; obtain rfl := y3_)
        have k1 : ∀ b o, b ≠ I → hp.get? b = some o → h₂.get? b = some o := fun b o hb e => hk₂ b o (by simpa using hb) e
        have hC2 : h₂.Ns (I + 2) mC := hC.at' fun o e => k1 _ o (by k_room) e
        refine wpAny_letOwnedTupleGo_listiter st₂.1 ?_
        refine assign_Tuple_tuple hh ⟨_, k1 _ _ (off _ hmt).1 (N1 _ hmt).1, rfl, nt, rfl⟩ rfl rfl fun h₃ k2 => ?_
        have k2' : ∀ b o, h₂.get? b = some o → h₃.get? b = some o := fun b o e => k2 b o (Nat.ne_of_lt (Heap.lt_size e)) e
        have loc : ∀ nm, scope.names.lookup nm = some .local → (compEnvC scope cl (I + 2) env).kindOf nm = some .local := fun nm h => lookup_relabel_local h
        have pl : ((compEnvC scope cl (I + 2) env).scope.kind == .class || ((compEnvC scope cl (I + 2) env).scope.kind == .module && (compEnvC scope cl (I + 2) env).locals != (compEnvC scope cl (I + 2) env).globals)) = false := by simp [compEnvC, relabel, hkind]
        refine assignInOrder_cons (wpAny_assign_Name (wpAny_storeName_local (loc x hx) (hC2.at' fun o e => k2' _ o e) (fun h₄ hC4 k4 => ?_) pl))
        refine assignInOrder_cons (wpAny_assign_Name (wpAny_storeName_local (loc y hy) hC4 (fun h₅ hC5 k5 => ?_) pl))
        refine assignInOrder_cons (wpAny_assign_Name (wpAny_storeName_local (loc z hz) hC5 (fun h₆ hC6 k6 => ?_) pl))
        refine assignInOrder_nil ?_
        have k7 : ∀ b o, b ≠ I + 2 → h₂.get? b = some o → h₆.get? b = some o := fun b o hb e => k6.extBut b o hb (k5.extBut b o hb (k4.extBut b o hb (k2' b o e)))
        (refine e1a3 st₂.1 fun oI gI6 cI dI => ?_)
        have gI6 := k7 _ _ (by k_room) gI6
        (refine e1a2 (ns_obj hC6) fun oC gC nC => ?_)
        have F6 : Fr h₀ L h₆ m := ((((fr_but F' hk₂ (Ne.symm f0.2) f0.1).keeps k2').change k4 f2.2 f2.1).change k5 f2.2 f2.1).change k6 f2.2 f2.1
        have N6 : News h₀ L h₆ ((I, oI) :: (I + 2, oC) :: (I + 1, lst ys) :: nw) := by
          intro p hp
          rcases List.mem_cons.mp hp with rfl | hp
          · exact ⟨gI6, f0.2, f0.1⟩
          rcases List.mem_cons.mp hp with rfl | hp
          · exact ⟨gC, f2.2, f2.1⟩
          refine ⟨?_, (N' p hp).2⟩
          rcases List.mem_cons.mp hp with rfl | hp
          · exact k7 _ _ (by k_room) (k1 _ _ (by k_room) (N' _ (.head _)).1)
          · exact k7 _ _ (off p hp).2.1 (k1 _ _ (off p hp).1 (N1 p hp).1)
        refine wpAny_mono (go I oI (I + 2) oC (I + 1) _ h₆ _ _ nC (by simp [hne.1, hne.2.1]) (by simp [hne.2.2]) (by simp) F6 N6 (Off3.of fun p hp => off p hp) ⟨by show I ≠ I + 2; k_room, by show I ≠ I + 1; k_room, by show I + 2 ≠ I + 1; k_room⟩) (fun v s₄ h₄ => ?_) fun _ _ e => e
        (refine e3a6 h₄ fun h₇ tk₇ nw' y3_ F7 N7 off7 _ J7 => ?_; try clear h₄; obtain rfl := y3_)
        have off7 := off7.mem
        have gD7 := (N7 (I + 1, lst ys) (.tail _ (.tail _ (.head _)))).1
        refine append_at (hsz := by show ys.toArray.size ≤ sizeLine; rw [List.size_toArray, hyl, sizeLine_eq]; k_room) gD7 fun h₈ k8 gD8 => ?_
        have k8' : ∀ b o, b ≠ I + 1 → h₇.get? b = some o → h₈.get? b = some o := fun b o hb e => k8.extBut b o hb e
        refine ⟨its.size - (i + 1), by k_room, exI6 h₈ tk₇ (i + 1) (ys ++ [v]) nw' _ (anI10 rfl hlt rfl (by rw [List.length_append, hyl]; rfl) J7 (F7.change k8 f1.2 f1.1) ((nC.ns (N7 (I + 2, oC) (.tail _ (.head _))).1).sameBut k8 (show @Ne Nat (I + 2) (I + 1) by k_room)) ⟨oI, k8' _ _ (by k_room) (N7 (I, oI) (.head _)).1, cI, dI⟩ (fun p hp => ?_) fun p hp => off7 p hp)⟩
        rcases List.mem_cons.mp hp with rfl | hp
        · exact ⟨gD8.trans (congrArg some (lst_snoc ys v)), f1.2, f1.1⟩
        · have n7 := N7 p (.tail _ (.tail _ (.tail _ hp)))
          exact ⟨k8' _ _ (off7 p hp).2.2 n7.1, n7.2⟩
      · obtain rfl : i = its.size := Nat.le_antisymm hi hge
        refine W.done _ _ _ ⟨hIt, inList J N1⟩ fun h₂ tk₂ hk₂ => ?_
        have k1 : ∀ b o, b ≠ I → hp.get? b = some o → h₂.get? b = some o := fun b o hb e => hk₂ b o (by simpa using hb) e
        have F2 := fr_but F' hk₂ (Ne.symm f0.2) f0.1
        refine ⟨_, hC.at' fun o e => k1 _ o (by k_room) e, fun h₃ k3 => fin ys nw (I + 1) h₃ _ J (F2.change k3 f2.2 f2.1) (fun p hp => ?_) fun p hp => (off p hp).2.2⟩
        refine ⟨k3.extBut _ _ ?_ (k1 _ _ ?_ (N' p hp).1), (N' p hp).2⟩
        · rcases List.mem_cons.mp hp with rfl | hp
          · show I + 1 ≠ I + 2; k_room
          · exact (off p hp).2.1
        · rcases List.mem_cons.mp hp with rfl | hp
          · show I + 1 ≠ I; k_room
          · exact (off p hp).1
    · intro p hp
      rcases List.mem_cons.mp hp with rfl | hp
      · exact ⟨gD, f1.2, f1.1⟩
      · exact ⟨up _ _ (N p hp).1, (N p hp).2⟩
  refine codeAny_compStart_list (loop _ rfl) (W.self 0 _ _ _ ⟨⟨_, gI, rfl, rfl⟩, ?_⟩ (loop _ rfl))
  exact ⟨_, up _ _ (N _ (Jm _ _ _ J0)).1, rfl, _, rfl⟩
end
end
section
open LCg
noncomputable def dueG : { l : List Stmt // l = stBody (nth dueF.1 3) } := ⟨_, by conv => rhs; whnf⟩
example : True := by (k_with "eval Name" => (fail_if_success k_extra "26"); k_extra "en"); (k_with "call builtin:list.append" => (fail_if_success k_extra "26"); k_extra "ap"); (k_with "eval ListComp" => (fail_if_success k_extra "26"); (k_here; k_dflt (refine LCt.ListComp_T (F₀ := by k_asm) (by with_unfolding_all rfl) (by decide) (by rfl) (by decide) (by rfl) ?_))); (k_with "CompSrcT" => (fail_if_success k_extra "26"); k_extra "st"); (k_with "compareOp NotIn str ref" => (fail_if_success k_extra "26"); (k_here; k_dflt (refine strs_notin (by k_asm) (by k_mem) (by assumption) ?_); (try dsimp only))); (k_with "compareOp In str ref" => (fail_if_success k_extra "26"); (k_here; k_dflt (refine strs_in (by k_asm) (by k_mem) (by assumption) ?_); (try dsimp only))); trivial
theorem g_known (h₀ : Heap) (L L' : Addr) (m : Str → Option Value) (s : Shared) (Q : Flow → Shared → Prop) (E : Value → Shared → Prop)
   (kn : Addr) (kv : Array Value) (nk : Nat) (ok ow : Obj) (known : List Str) (u : Str) (t : Tok) (tl : List (Addr × Obj))
   (B : Below (ktrTop dp un gd cn cs L a ccd cl outer) base (envX cn cs L a ccd cl :: outer) h₀) (F : Fr h₀ L' s.heap m) (X : (hd.heap_39 w.params).In h₀) (N : News h₀ L' s.heap ((L' + 1, ok) :: (L' + 2, ow) :: (kn, listOf kv nk) :: tl))
   (T : Top p loose mean mg mb h₀) (hdp : dp + 400 < recursionLimit) (hun : un + 4000 < cLine) (hB : AllBare s.gens)
   (hk : ok.data = .cell (some (.ref kn))) (hw : ow.data = .cell (some (.str u t))) (hks : StrsAre kv.toList known) (hkl : known.length ≤ 60) (hn1 : @Ne Nat (L' + 1) kn) (hn2 : @Ne Nat (L' + 2) kn) (hnt : ∀ q ∈ tl, q.1 ≠ kn)
   (h : ∀ kv' nk' h' tk, StrsAre kv'.toList (addK known u) → Fr h₀ L' h' m → News h₀ L' h' ((L' + 1, ok) :: (L' + 2, ow) :: (kn, listOf kv' nk') :: tl) → Q .next { s with heap := h', toks := tk }) :
   wpAny (model PR w) ((ktrTop dp un gd cn cs L a ccd cl outer).deeper (dueE L')) (exec (nth dueG.1 0) (dueE L')) Q E s := by
  unfold dueE
  conv => arg 3; arg 1; whnf
  conv => arg 3; arg 2; arg 2; whnf
  conv => arg 2; arg 2; arg 2; whnf
  have hkz : kv.size ≤ 1000 := by have := strs_len hks; rw [Array.length_toList] at this; k_room
  by_cases hu : u ∈ known
  · have hd : (!decide (u ∈ known)) = false := by rw [decide_eq_true hu]; rfl
    k_steps
    rename News h₀ L' _ _ => kN
    rename Fr h₀ L' _ _ => kF
    exact h kv nk _ _ (by unfold addK; rw [if_pos hu]; exact hks) kF kN
  · have hd : (!decide (u ∈ known)) = true := by rw [decide_eq_false hu]; rfl
    k_steps
    rename News h₀ L' _ _ => kN
    rename Fr h₀ L' _ _ => kF
    exact h _ _ _ _ (by unfold addK; rw [if_neg hu, Array.toList_push]; exact strsAre_snoc hks) kF kN
/-- the word lists of the open elements -/
noncomputable def ScAt (l : List (Addr × Obj)) (vs : List Value) (qs : List (List Str)) : Prop := A2 (fun v q => ∃ a its n, v = .ref a ∧ (a, listOf its n) ∈ l ∧ StrsAre its.toList q) vs qs
theorem ScAt.at {l : List (Addr × Obj)} {vs : List Value} {qs : List (List Str)} {i : Nat} {v : Value} (k : ScAt l vs qs) (hv : vs[i]? = some v) : ∃ q a its n, qs[i]? = some q ∧ v = .ref a ∧ (a, listOf its n) ∈ l ∧ StrsAre its.toList q :=
  e1a2 (A2.at k hv) fun q e r => ex3 r fun a its n w => exI4 q a its n ⟨e, w⟩
theorem ScAt.len {l : List (Addr × Obj)} {vs qs} (k : ScAt l vs qs) : vs.length = qs.length := A2.len k
theorem ScAt.mono {l l' : List (Addr × Obj)} (h : ∀ p ∈ l, p ∈ l') {vs qs} (k : ScAt l vs qs) : ScAt l' vs qs := A2.mono (fun _ _ r => e3a3 r fun a its n e m st => exI3 a its n (anI3 e (h _ m) st)) k
theorem ScAt.snoc {l : List (Addr × Obj)} {v : Value} {q : List Str} (h : ∃ a its n, v = .ref a ∧ (a, listOf its n) ∈ l ∧ StrsAre its.toList q) {vs qs} (k : ScAt l vs qs) : ScAt l (vs ++ [v]) (qs ++ [q]) := A2.snoc h k
/-- the words that an element must declare -/
noncomputable def frK (scs : List (List Str)) (fr : List Str) (u : Str) : List Str := if u ∉ fr ∧ ∀ q ∈ scs, u ∉ q then fr ++ [u] else fr
theorem eq_nil {prog : Program} {w : World} {A : Around} {E : Value → Shared → Prop} {s : Shared} {h₀ : Heap} {L D D' : Addr} {news : List (Addr × Obj)} {its : Array Value} {n n' : Nat} {Q : Value → Shared → Prop} (hu : A.units < cLine) (N : News h₀ L s.heap news) (h1 : (D, listOf its n) ∈ news) (h2 : (D', listOf #[] n') ∈ news)
    (h : Q (.bool (decide (its.size = 0))) s) : wpAny (model prog w) A (compareOp .Eq (.ref D) (.ref D')) Q E s := by
  have l1 : s.heap.IsList D its := ⟨_, (N _ h1).1, rfl, _, rfl⟩
  have l2 : s.heap.IsList D' #[] := ⟨_, (N _ h2).1, rfl, _, rfl⟩
  show wpAny _ _ (richCompare .Eq (.ref D) (.ref D')) _ _ _
  by_cases e : its.size = 0
  · rw [decide_eq_true e] at h
    refine SeqAt.RcAt.lists (e := fun _ => true) l1 l2 (by simpa using e) hu (fun j hj => by k_room) prog w E Q ?_
    rw [e]; exact h
  · rw [decide_eq_false e] at h
    exact SeqAt.RcAt.lists_lengths l1 l2 (by simpa using e) hu prog w E Q h
section
open LCt
variable {prog : Program} {w : World} {A : Around} {s : Shared} {h₀ : Heap} {L : Addr} {m : Str → Option Value} {env : Env} {ct elt : Expr} {x : Str} {scope : Scope} {cl : List (Str × Addr)} {S : List (Addr × Obj) → Prop} {P : Nat → Value → Prop} {Fin : List Value → List (Addr × Obj) → Prop}
/-- a list comprehension with a test, by what holds between its turns -/
theorem restT_inv {n : Nat} (Inv : Nat → List Value → List (Addr × Obj) → Prop)
    (step : ∀ i v ys news, i < n → P i v → Inv i ys news → ∀ I oI C oC D mC h tk (E' : Value → Shared → Prop), NsObj oC mC → mC x = some v → Fr h₀ L h m → News h₀ L h ((I, oI) :: (C, oC) :: (D, lst ys) :: news) → Off3 I C D news → ((@Ne Nat I C) ∧ (@Ne Nat I D) ∧ (@Ne Nat C D)) →
      wpAny (model prog w) A (isTrue ct (compEnvC scope cl C env) (eval ct (compEnvC scope cl C env))) (fun ok s' => if ok = true then
        wpAny (model prog w) A (eval elt (compEnvC scope cl C env)) (CompEnd h₀ L m { s with heap := h, toks := tk } I oI C oC D (lst ys) S (fun y news' => Inv (i + 1) (ys ++ [y]) news')) E' s'
        else CompEnd h₀ L m { s with heap := h, toks := tk } I oI C oC D (lst ys) S (fun _ news' => Inv (i + 1) ys news') Value.none s') E' { s with heap := h, toks := tk })
    (fin : ∀ ys news, Inv n ys news → Fin ys news) {news : List (Addr × Obj)} (h0 : Inv 0 [] news) : CompRestT prog w A h₀ L m env ct elt x scope cl s S P Fin n 0 [] news := by
  suffices key : ∀ k i ys news, k + i = n → Inv i ys news → CompRestT prog w A h₀ L m env ct elt x scope cl s S P Fin k i ys news from key n 0 [] news rfl h0
  intro k
  induction k with
  | zero => intro i ys news hi J; exact fin ys news (by rw [← hi, Nat.zero_add]; exact J)
  | succ k ih =>
    intro i ys news hi J
    refine CompRestT.succ fun v I oI C oC D mC h tk E' hv hC hx F N off ne => ?_
    refine wpAny_mono (step i v ys news (by k_room) hv J I oI C oC D mC h tk E' hC hx F N off ne) (fun ok s' h' => ?_) fun _ _ e => e
    cases ok with
    | true =>
      simp only [if_true] at h' ⊢
      exact wpAny_mono h' (fun y s'' he => CompEnd.mono he fun y nw J' => ih (i + 1) _ nw (by k_room) J') fun _ _ e => e
    | false =>
      simp only [Bool.false_eq_true, if_false] at h' ⊢
      exact CompEnd.mono h' fun y nw J' => ih (i + 1) _ nw (by k_room) J'
end
example : True := by (k_with "compareOp Eq ref ref" => (fail_if_success k_extra "26"); (k_here; k_dflt (refine eq_nil ?hu_r (by k_asm) (by k_mem) (by k_mem) ?_; (case hu_r => (dsimp only [ktrTop, Around.deeper]; k_room))); (try dsimp only))); trivial
theorem g_fresh (h₀ : Heap) (L L' : Addr) (m : Str → Option Value) (s : Shared) (Q : Flow → Shared → Prop) (E : Value → Shared → Prop)
   (fr sc : Addr) (fv sv : Array Value) (nf ns : Nat) (ow : Obj) (scs : List (List Str)) (fresh : List Str) (u : Str) (t : Tok) (tl : List (Addr × Obj))
   (B : Below (ktrTop dp un gd cn cs L a ccd cl outer) base (envX cn cs L a ccd cl :: outer) h₀) (F : Fr h₀ L' s.heap m) (X : (hd.heap_39 w.params).In h₀) (N : News h₀ L' s.heap ((L' + 2, ow) :: (fr, listOf fv nf) :: (sc, listOf sv ns) :: tl))
   (T : Top p loose mean mg mb h₀) (hdp : dp + 400 < recursionLimit) (hun : un + 4000 < cLine) (hB : AllBare s.gens)
   (hw : ow.data = .cell (some (.str u t))) (hfs : StrsAre fv.toList fresh) (hfl : fresh.length ≤ 60) (hsc : ScAt tl sv.toList scs) (hsl : scs.length ≤ 60) (hn1 : @Ne Nat (L' + 2) fr) (hn2 : @Ne Nat sc fr) (hnt : ∀ q ∈ tl, q.1 ≠ fr) (mS : m (Str.ofString "scopes") = some (.ref sc)) (mF : m (Str.ofString "fresh") = some (.ref fr))
   (h : ∀ fv' nf' h' tk, StrsAre fv'.toList (frK scs fresh u) → Fr h₀ L' h' m → News h₀ L' h' ((L' + 2, ow) :: (fr, listOf fv' nf') :: (sc, listOf sv ns) :: tl) → Q .next { s with heap := h', toks := tk }) :
   wpAny (model PR w) ((ktrTop dp un gd cn cs L a ccd cl outer).deeper (dueE L')) (exec (nth dueG.1 1) (dueE L')) Q E s := by
  unfold dueE
  conv => arg 3; arg 1; whnf
  conv => arg 3; arg 2; arg 2; whnf
  conv => arg 2; arg 2; arg 2; whnf
  have hkz : fv.size ≤ 1000 := by have := strs_len hfs; rw [Array.length_toList] at this; k_room
  by_cases hu : u ∈ fresh
  · have hd : (!decide (u ∈ fresh)) = false := by rw [decide_eq_true hu]; rfl
    k_steps
    rename News h₀ L' _ _ => kN
    rename Fr h₀ L' _ _ => kF
    exact h fv nf _ _ (by unfold frK; rw [if_neg (fun k => k.1 hu)]; exact hfs) kF kN
  · have hd : (!decide (u ∈ fresh)) = true := by rw [decide_eq_false hu]; rfl
    k_steps
    rename News h₀ L' _ _ => kN
    rename Fr h₀ L' _ _ => kF
    refine LCt.CompSrcT.ledger rfl kF kN (.tail _ (.tail _ (.head _))) (by rw [sizeLine_eq, ← Array.length_toList, hsc.len]; k_room) fun g' => ?_
    refine restT_inv (fun i ys nw => nw = _ ∧ ys.length = ((scs.take i).filter (fun q => decide (u ∈ q))).length) ?_ ?_ ⟨rfl, rfl⟩
    · intro i v ys _ hi hv hz1_; (refine an2 hz1_ fun y1_ hys => ?_; clear hz1_; obtain rfl := y1_); intro I oI C oC D m₂ h tk E' hC hx2 F2 N2 off ne
      (refine ex4 (hsc.at (i := i) (v := v) (by rw [← hv]; simp)) fun q a1 its n1 w2_ => an4 w2_ fun hq y3_ hm hst => ?_; clear w2_; obtain rfl := y3_)
      have hm2 := List.mem_cons_of_mem (L' + 2, ow) (List.mem_cons_of_mem (fr, listOf fv nf) (List.mem_cons_of_mem (sc, listOf sv ns) hm))
      have N3 : News h₀ L' h ((a1, listOf its n1) :: (I, oI) :: (C, oC) :: (D, lst ys) :: (L' + 2, ow) :: (fr, listOf fv nf) :: (sc, listOf sv ns) :: tl) := fun p hp => N2 p (by
        rcases List.mem_cons.mp hp with rfl | hp
        · exact .tail _ (.tail _ (.tail _ hm2))
        · exact hp)
      clear N2
      have hS : SrcAt h₀ sc sv ((L' + 2, ow) :: (fr, listOf fv nf) :: (sc, listOf sv ns) :: tl) := .inr ⟨_, .tail _ (.tail _ (.head _)), rfl, _, rfl⟩
      by_cases hq2 : u ∈ q
      · have hd2 : decide (u ∈ q) = true := decide_eq_true hq2
        k_steps
        rename News h₀ L' h _ => kN3
        rename Fr h₀ L' h _ => kF3
        exact exI3 h _ _ (anI7 rfl kF3 (fun p hp => kN3 p (.tail _ hp)) off hS rfl (by rw [take_snoc hq, List.filter_append, List.length_append, List.length_append, ← hys]; simp [hq2]))
      · have hd2 : decide (u ∈ q) = false := decide_eq_false hq2
        k_steps
        rename News h₀ L' h _ => kN3
        rename Fr h₀ L' h _ => kF3
        exact exI3 h _ _ (anI7 rfl kF3 (fun p hp => kN3 p (.tail _ hp)) off hS rfl (by rw [take_snoc hq, List.filter_append, List.length_append, ← hys]; simp [hq2]))
    · intro ys _ hz1_; (refine an2 hz1_ fun y1_ hys => ?_; clear hz1_; obtain rfl := y1_)
      rw [List.take_of_length_le (by rw [← Array.length_toList, hsc.len]; exact Nat.le_refl _)] at hys
      unfold FinE
      intro D h3 tk3 F3 N3 off3
      (refine an4 off3 fun oD1 oD2 oD3 oD4 => ?_; try clear off3)
      have oDt := off1_mem oD4
      have key : ys.toArray.size = 0 ↔ ∀ q ∈ scs, u ∉ q := by
        rw [List.size_toArray, hys, List.length_eq_zero_iff, List.filter_eq_nil_iff]
        simp
      by_cases hz : ys.toArray.size = 0
      · have hd3 : decide (ys.toArray.size = 0) = true := decide_eq_true hz
        k_steps
        rename News h₀ L' _ _ => kN4
        rename Fr h₀ L' _ _ => kF4
        exact h _ _ _ _ (by unfold frK; rw [if_pos ⟨hu, key.mp hz⟩, Array.toList_push]; exact strsAre_snoc hfs) kF4 (fun p hp => kN4 p (.tail _ (.tail _ hp)))
      · have hd3 : decide (ys.toArray.size = 0) = false := decide_eq_false hz
        k_steps
        rename News h₀ L' _ _ => kN4
        rename Fr h₀ L' _ _ => kF4
        exact h fv nf _ _ (by unfold frK; rw [if_neg (fun k => hz (key.mpr k.2))]; exact hfs) kF4 (fun p hp => kN4 p (.tail _ (.tail _ hp)))
end
section
example : True := by (k_with "26" => skip); trivial
open LCg
theorem sb6 {α} {q : α} {l r : List α} (h : q ∈ l) (k : ∀ z ∈ l, z ∈ r) : q ∈ r := k q h
theorem asg_stop6 {M : Model} {A : Around} {α : Type} {t : Sem α} {P : Shared → Prop} {E : Value → Shared → Prop} {s : Shared} (h : wpAny M A t (fun _ s => Stop (P s)) E s) : wpAny M A t (fun _ s => P s) E s := h
noncomputable def forTgt : Stmt → Expr
  | .For t _ _ _ _ => t
  | _ => .Name Str.empty ⟨0, 0, 0, 0⟩
noncomputable def forPos : Stmt → Pos
  | .For _ _ _ _ p => p
  | _ => ⟨0, 0, 0, 0⟩
theorem foldl_len {f : List Str → Str → List Str} (hf : ∀ k u, (f k u).length ≤ k.length + 1) : ∀ (l : List Str) (k : List Str), (l.foldl f k).length ≤ k.length + l.length
  | [], k => Nat.le_refl _
  | u :: l, k => by
    have h1 := foldl_len hf l (f k u)
    have h2 := hf k u
    show (l.foldl f (f k u)).length ≤ _
    rw [List.length_cons]; k_room
theorem frK_len {scs : List (List Str)} (k : List Str) (u : Str) : (frK scs k u).length ≤ k.length + 1 := by
  unfold frK
  split
  · rw [List.length_append]; exact Nat.le_refl _
  · k_room
theorem cell_ne {o : Obj} {c : Option Value} {its : Array Value} {n : Nat} (h : o.data = .cell c) : (listOf its n).data ≠ o.data := by
  rw [h]; intro e; cases e
theorem pl_obj {P : Addr} {x : Str} {t : Tok} : plObj P x t [] = { cls := .type "tuple", data := .seq #[.ref P, .str x t] } := rfl
example : True := by (k_with "call ref" => (fail_if_success k_extra "27"); k_extra "st"); (k_with "eval Name" => (fail_if_success k_extra "27"); k_extra "en"); trivial
theorem e_words (h₀ : Heap) (L L' : Addr) (m : Str → Option Value) (s : Shared) (Q : Flow → Shared → Prop) (E : Value → Shared → Prop)
   (l D1 D2 D3 D4 : Addr) (n : Nat) (a1 a2 a3 b1 b2 b3 c1 c2 c3 d1 d2 d3 : Tok) (x : Int) (tx : Tok) (tl : List (Addr × Obj)) (kn fr sc : Addr) (kv sv : Array Value) (nk nf ns : Nat) (ok ow : Obj) (known : List Str) (scs : List (List Str))
   (B : Below (ktrTop dp un gd cn cs L a ccd cl outer) base (envX cn cs L a ccd cl :: outer) h₀) (F : Fr h₀ L' s.heap m) (X : (hd.heap_39 w.params).In h₀) (N : News h₀ L' s.heap ((L' + 1, ok) :: (L' + 2, ow) :: (kn, listOf kv nk) :: (fr, listOf #[] nf) :: (sc, listOf sv ns) :: ((l, listOf #[.ref D1, .ref D2, .ref D3, .ref D4] n) :: (D4, tupP (Str.ofString "a") a1 94 a2 fullS a3) :: (D3, tupP (Str.ofString "b") b1 33 b2 (chS (loC x)) b3) :: (D2, tupP (Str.ofString "c") c1 (x + 128) c2 (chS (wdC x)) c3) :: (D1, tupP (Str.ofString "d") d1 (hiN x) d2 (chS (hiN x)) d3) :: tl)))
   (T : Top p loose mean mg mb h₀) (hdp : dp + 400 < recursionLimit) (hun : un + 4000 < cLine) (hB : AllBare s.gens)
   (mX : m (Str.ofString "x") = some (.int x tx)) (mP : m (Str.ofString "pairs") = some (.ref l)) (mS : m (Str.ofString "scopes") = some (.ref sc)) (mF : m (Str.ofString "fresh") = some (.ref fr))
   (hk : ok.data = .cell (some (.ref kn))) (hw : ∃ c, ow.data = .cell c) (hks : StrsAre kv.toList known) (hkl : known.length ≤ 50) (hsc : ScAt tl sv.toList scs) (hsl : scs.length ≤ 60)
   (hnd : @Ne Nat kn fr ∧ @Ne Nat sc kn ∧ @Ne Nat sc fr) (hnt : ∀ q ∈ (l, listOf #[.ref D1, .ref D2, .ref D3, .ref D4] n) :: (D4, tupP (Str.ofString "a") a1 94 a2 fullS a3) :: (D3, tupP (Str.ofString "b") b1 33 b2 (chS (loC x)) b3) :: (D2, tupP (Str.ofString "c") c1 (x + 128) c2 (chS (wdC x)) c3) :: (D1, tupP (Str.ofString "d") d1 (hiN x) d2 (chS (hiN x)) d3) :: tl, @Ne Nat q.1 kn ∧ @Ne Nat q.1 fr ∧ @Ne Nat q.1 (L' + 1) ∧ @Ne Nat q.1 (L' + 2))
   (h : ∀ rows kv' nk' fv' nf' ow' h' tk gens dr m', rows.Perm ((ysOf x).map rowY) → SortedP rows → StrsAre kv'.toList ((rows.map (·.2)).foldl addK known) → StrsAre fv'.toList ((rows.map (·.2)).foldl (frK scs) []) → (∃ c, ow'.data = .cell c) → (∀ y, y ≠ Str.ofString "place" → m' y = m y) → AllBare gens → Fr h₀ L' h' m' → News h₀ L' h' ((L' + 1, ok) :: (L' + 2, ow') :: (kn, listOf kv' nk') :: (fr, listOf fv' nf') :: (sc, listOf sv ns) :: ((l, listOf #[.ref D1, .ref D2, .ref D3, .ref D4] n) :: (D4, tupP (Str.ofString "a") a1 94 a2 fullS a3) :: (D3, tupP (Str.ofString "b") b1 33 b2 (chS (loC x)) b3) :: (D2, tupP (Str.ofString "c") c1 (x + 128) c2 (chS (wdC x)) c3) :: (D1, tupP (Str.ofString "d") d1 (hiN x) d2 (chS (hiN x)) d3) :: tl)) → Q .next { s with heap := h', toks := tk, gens := gens, drawn := dr }) :
   wpAny (model PR w) ((ktrTop dp un gd cn cs L a ccd cl outer).deeper (dueE L')) (exec (nth dueF.1 3) (dueE L')) Q E s := by
  refine wpAny_For (target := forTgt (nth dueF.1 3)) (iter := forIter (nth dueF.1 3)) (body := dueG.1) (orelse := []) (pos := forPos (nth dueF.1 3)) ?_
  refine f_ys w p loose mean mg mb base dp un gd cn cs a ccd cl outer h₀ L L' m s _ _ l D1 D2 D3 D4 n a1 a2 a3 b1 b2 b3 c1 c2 c3 d1 d2 d3 x tx ((L' + 1, ok) :: (L' + 2, ow) :: (kn, listOf kv nk) :: (fr, listOf #[] nf) :: (sc, listOf sv ns) :: tl) B F X (fun q hq => N q ?mem) T hdp hun hB mX mP ?_
  case mem =>
    revert q; k_data
  intro D vs rows c ex h1 tk1 hpm hsr hpa hlt F1 N1
  refine hide ((D, listOf vs.toArray c) :: (ex ++ ((l, listOf #[.ref D1, .ref D2, .ref D3, .ref D4] n) :: (D4, tupP (Str.ofString "a") a1 94 a2 fullS a3) :: (D3, tupP (Str.ofString "b") b1 33 b2 (chS (loC x)) b3) :: (D2, tupP (Str.ofString "c") c1 (x + 128) c2 (chS (wdC x)) c3) :: (D1, tupP (Str.ofString "d") d1 (hiN x) d2 (chS (hiN x)) d3) :: tl))) fun rest hrest => ?_
  have hsub : ∀ q ∈ (l, listOf #[.ref D1, .ref D2, .ref D3, .ref D4] n) :: (D4, tupP (Str.ofString "a") a1 94 a2 fullS a3) :: (D3, tupP (Str.ofString "b") b1 33 b2 (chS (loC x)) b3) :: (D2, tupP (Str.ofString "c") c1 (x + 128) c2 (chS (wdC x)) c3) :: (D1, tupP (Str.ofString "d") d1 (hiN x) d2 (chS (hiN x)) d3) :: tl, q ∈ rest := fun q hq => by rw [hrest]; exact .tail _ (List.mem_append_right _ hq)
  (refine ex1 hw fun cw hcw => ?_; try clear hw)
  have nK1 : @Ne Nat kn (L' + 1) := news_ne N (.tail _ (.tail _ (.head _))) (.head _) (cell_ne hk)
  have nK2 : @Ne Nat kn (L' + 2) := news_ne N (.tail _ (.tail _ (.head _))) (.tail _ (.head _)) (cell_ne hcw)
  have nF1 : @Ne Nat fr (L' + 1) := news_ne N (.tail _ (.tail _ (.tail _ (.head _)))) (.head _) (cell_ne hk)
  have nF2 : @Ne Nat fr (L' + 2) := news_ne N (.tail _ (.tail _ (.tail _ (.head _)))) (.tail _ (.head _)) (cell_ne hcw)
  have nS1 : @Ne Nat sc (L' + 1) := news_ne N (.tail _ (.tail _ (.tail _ (.tail _ (.head _))))) (.head _) (cell_ne hk)
  have nS2 : @Ne Nat sc (L' + 2) := news_ne N (.tail _ (.tail _ (.tail _ (.tail _ (.head _))))) (.tail _ (.head _)) (cell_ne hcw)
  have hR : ∀ q ∈ rest, @Ne Nat q.1 kn ∧ @Ne Nat q.1 fr ∧ @Ne Nat q.1 (L' + 1) ∧ @Ne Nat q.1 (L' + 2) := by
    intro q hq
    have up : ∀ z ∈ (D, listOf vs.toArray c) :: ex, @Ne Nat z.1 kn ∧ @Ne Nat z.1 fr ∧ @Ne Nat z.1 (L' + 1) ∧ @Ne Nat z.1 (L' + 2) := fun z hz =>
      ⟨Nat.ne_of_gt (hlt z hz (kn, listOf kv nk) (by k_data)), Nat.ne_of_gt (hlt z hz (fr, listOf #[] nf) (by k_data)), Nat.ne_of_gt (hlt z hz (L' + 1, ok) (by k_data)), Nat.ne_of_gt (hlt z hz (L' + 2, ow) (by k_data))⟩
    rw [hrest] at hq
    rcases List.mem_cons.mp hq with rfl | hq
    · exact up _ (.head _)
    · rcases List.mem_append.mp hq with hq | hq
      · exact up q (.tail _ hq)
      · exact hnt q hq
  have hD : (D, listOf vs.toArray c) ∈ rest := by rw [hrest]; exact .head _
  have hE : ∀ q ∈ ex, q ∈ rest := fun q hq => by rw [hrest]; exact .tail _ (List.mem_append_left _ hq)
  have hT : ∀ q ∈ tl, q ∈ rest := fun q hq => hsub q (by k_data)
  have hwl : (rows.map (·.2)).length = 5 := by rw [List.length_map, hpm.length_eq]; rfl
  have hsc2 := hsc.mono hT
  have N2 : News h₀ L' h1 ((L' + 1, ok) :: (L' + 2, ow) :: (kn, listOf kv nk) :: (fr, listOf #[] nf) :: (sc, listOf sv ns) :: rest) := fun q hq => N1 q (by
    rw [hrest] at hq
    revert q; k_data)
  have kl : ∀ i, (((rows.map (·.2)).take i).foldl addK known).length ≤ 60 := fun i => by
    have := foldl_len (f := addK) (fun _ _ => addK_len) ((rows.map (·.2)).take i) known
    have h2 := List.length_take_le' i (rows.map (·.2))
    k_room
  have fl : ∀ i, (((rows.map (·.2)).take i).foldl (frK scs) []).length ≤ 60 := fun i => by
    have := foldl_len (f := frK scs) (fun k u => frK_len k u) ((rows.map (·.2)).take i) []
    have h2 := List.length_take_le' i (rows.map (·.2))
    simp only [List.length_nil] at this
    k_room
  clear N1 N hrest hlt hnt
  refine hideJ (fun (i : Nat) (m₁ : Str → Option Value) (nw : List (Addr × Obj)) => ∃ kv' nk' fv' nf' ow', nw = (L' + 1, ok) :: (L' + 2, ow') :: (kn, listOf kv' nk') :: (fr, listOf fv' nf') :: (sc, listOf sv ns) :: rest ∧ (∃ c, ow'.data = .cell c) ∧ StrsAre kv'.toList (((rows.map (·.2)).take i).foldl addK known) ∧ StrsAre fv'.toList (((rows.map (·.2)).take i).foldl (frK scs) []) ∧ ∀ y, y ≠ Str.ofString "place" → m₁ y = m y) fun J_ hJ_ => ?_
  refine loop_list (L := L') (n₀ := 0) (ax := D) (its := vs.toArray) rfl ?hgo rfl
    J_ ?hJS ?turn ?done F1 N2 hB ((hJ_ _ _ _).mpr ⟨kv, nk, #[], nf, ow, rfl, ⟨cw, hcw⟩, hks, .nil, fun _ _ => rfl⟩) (Nat.zero_le _)
  case hgo =>
    intro s' v Q' I i hv st hq
    (refine e5a4 (hpa.at (i := i) (v := v) (by simpa using hv)) fun q a' P t r _ y3_ _ _ => ?_; obtain rfl := y3_)
    exact wpAny_letOwnedTupleGo_listiter st hq
  case hJS =>
    intro i m₁ nw hz1_; (refine e5a2 ((hJ_ _ _ _).mp hz1_) fun kv' nk' fv' nf' ow' y3_ _ => ?_; clear hz1_; obtain rfl := y3_)
    exact .inr ⟨_, .tail _ (.tail _ (.tail _ (.tail _ (.tail _ hD)))), rfl, _, rfl⟩
  case done =>
    intro m₁ nw h2 tk2 gens dr hz1_; (refine e5a5 ((hJ_ _ _ _).mp hz1_) fun kv' nk' fv' nf' ow' y3_ hw' hk' hf' hm' => ?_; clear hz1_; obtain rfl := y3_); intro F2 N2 hB2 _
    rw [List.take_of_length_le (by rw [List.size_toArray, hpa.len, hwl, hpm.length_eq]; exact Nat.le_refl _)] at hk' hf'
    refine h rows kv' nk' fv' nf' ow' h2 tk2 gens dr m₁ hpm hsr hk' hf' hw' hm' hB2 F2 fun q hq => N2 q ?_
    exact sb6 hq (fmc (by k_data) (fmc (by k_data) (fmc (by k_data) (fmc (by k_data) (fmc (by k_data) (fun q h => .tail _ (.tail _ (.tail _ (.tail _ (.tail _ (hsub q (by k_data))))))))))))
  case turn =>
    intro i v m₁ nw I oI h2 tk2 gens dr hv hz1_; (refine e5a5 ((hJ_ _ _ _).mp hz1_) fun kv' nk' fv' nf' ow' y4_ y5_ hk' hf' hm' => ?_; clear hz1_; obtain rfl := y4_; refine ex1 y5_ fun cw' hcw' => ?_; clear y5_); intro hoI off F2 N2 hB2 _
    (refine e5a4 (hpa.at (i := i) (v := v) (by simpa using hv)) fun q a' P t r hq y3_ hr hm => ?_; obtain rfl := y3_)
    obtain rfl : r = [] := List.map_eq_nil_iff.mp hr
    have hmR := hE _ hm
    rw [pl_obj] at hmR
    have nA := hR _ hmR
    have N3 : News h₀ L' h2 ((a', { cls := .type "tuple", data := .seq #[.ref P, .str q.2 t] }) :: (I, oI) :: (L' + 1, ok) :: (L' + 2, ow') :: (kn, listOf kv' nk') :: (fr, listOf fv' nf') :: (sc, listOf sv ns) :: rest) := fun q hq => by
      rcases List.mem_cons.mp hq with rfl | hq
      · exact N2 _ (.tail _ (.tail _ (.tail _ (.tail _ (.tail _ (.tail _ hmR))))))
      · exact N2 q hq
    have nA1 := nA.1
    have nA2 := nA.2.1
    have nA3 := nA.2.2.1
    have nA4 := nA.2.2.2
    have oI1 : @Ne Nat I (L' + 1) := fun e => off _ (.head _) e.symm
    have oI2 : @Ne Nat I (L' + 2) := fun e => off _ (.tail _ (.head _)) e.symm
    have oI3 : @Ne Nat I kn := fun e => off _ (.tail _ (.tail _ (.head _))) e.symm
    have oI4 : @Ne Nat I fr := fun e => off _ (.tail _ (.tail _ (.tail _ (.head _)))) e.symm
    have r1 : ∀ q ∈ rest, q.1 ≠ L' + 1 := fun q hq => (hR q hq).2.2.1
    have r2 : ∀ q ∈ rest, q.1 ≠ L' + 2 := fun q hq => (hR q hq).2.2.2
    have r3 : ∀ q ∈ rest, q.1 ≠ kn := fun q hq => (hR q hq).1
    have r4 : ∀ q ∈ rest, q.1 ≠ fr := fun q hq => (hR q hq).2.1
    clear N2
    refine asg_stop6 ?_
    unfold dueE
    conv => arg 3; arg 1; whnf
    conv => arg 3; arg 2; whnf
    k_steps
    rename Fr h₀ L' _ _ => kF3
    rename News h₀ L' _ _ => kN3
    rename (_ = Data.cell _) => hc3
    rename Obj => o3
    show wpAny (model PR w) _ (execs (dueG.1.drop 0) (dueE L')) _ _ _
    refine execs_at 0 (Nat.le_of_ble_eq_true rfl) ?_
    refine g_known w p loose mean mg mb base dp un gd cn cs a ccd cl outer h₀ L L' _ _ _ _ kn kv' nk' ok o3 _ q.2 t ((a', { cls := .type "tuple", data := .seq #[.ref P, .str q.2 t] }) :: (I, oI) :: (fr, listOf fv' nf') :: (sc, listOf sv ns) :: rest) B kF3 X ?N1 T hdp hun hB2 hk hc3 hk' (kl i) (Ne.symm nK1) (Ne.symm nK2) ?n1 ?_
    case N1 =>
      intro q hq
      refine kN3 q ?_
      revert q; k_data
    case n1 =>
      refine fmc ?_ (fmc ?_ (fmc ?_ (fmc ?_ (fun q hq => ?_))))
      · exact nA1
      · exact oI3
      · exact Ne.symm hnd.1
      · exact hnd.2.1
      · exact r3 q hq
    intro kv2 nk2 h4 tk4 hk2 F4 N4
    dsimp only
    refine execs_at 1 (Nat.le_of_ble_eq_true rfl) ?_
    refine g_fresh w p loose mean mg mb base dp un gd cn cs a ccd cl outer h₀ L L' _ _ _ _ fr sc fv' sv nf' ns o3 scs _ q.2 t ((L' + 1, ok) :: (kn, listOf kv2 nk2) :: (a', { cls := .type "tuple", data := .seq #[.ref P, .str q.2 t] }) :: (I, oI) :: rest) B F4 X ?N2 T hdp hun hB2 hc3 hf' (fl i) (hsc2.mono fun _ hq => .tail _ (.tail _ (.tail _ (.tail _ hq)))) hsl (Ne.symm nF2) hnd.2.2 ?n2 ?mS ?mF ?_
    case N2 =>
      intro q hq
      refine N4 q ?_
      revert q; k_data
    case n2 =>
      refine fmc ?_ (fmc ?_ (fmc ?_ (fmc ?_ (fun q hq => ?_))))
      · exact Ne.symm nF1
      · exact hnd.1
      · exact nA2
      · exact oI4
      · exact r4 q hq
    case mS => exact (if_neg (by decide)).trans ((hm' _ (by decide)).trans mS)
    case mF => exact (if_neg (by decide)).trans ((hm' _ (by decide)).trans mF)
    intro fv2 nf2 h5 tk5 hf2 F5 N5
    dsimp only
    refine execs_end 2 (Nat.le_of_ble_eq_true rfl) ?_
    have hwq : (rows.map (·.2))[i]? = some q.2 := by rw [List.getElem?_map, hq]; rfl
    refine stop_turn (h := h5) (tk := tk5) (gens := gens) (dr := dr) (nw := (L' + 1, ok) :: (L' + 2, o3) :: (kn, listOf kv2 nk2) :: (fr, listOf fv2 nf2) :: (sc, listOf sv ns) :: rest) F5 (fun q hq => N5 q ?_) (fun q hq => ?_) hB2 ((hJ_ _ _ _).mpr (exI5 kv2 nk2 fv2 nf2 o3 (anI5 rfl ⟨_, hc3⟩ ?_ ?_ (fun y hy => ?_))))
    · revert q; k_data
    · revert q; refine fmc ?_ (fmc ?_ (fmc ?_ (fmc ?_ (fmc ?_ (fun q hq => ?_)))))
      · exact Ne.symm oI1
      · exact Ne.symm oI2
      · exact Ne.symm oI3
      · exact Ne.symm oI4
      · exact off (sc, listOf sv ns) (.tail _ (.tail _ (.tail _ (.tail _ (.head _)))))
      · exact off q (.tail _ (.tail _ (.tail _ (.tail _ (.tail _ hq)))))
    · rw [take_snoc hwq, List.foldl_append]; exact hk2
    · rw [take_snoc hwq, List.foldl_append]; exact hf2
    · exact (if_neg hy).trans (hm' y hy)
end
section
example : True := by (k_with "27" => skip); trivial
open LCg
example : True := by (k_with "call ref" => (fail_if_success k_extra "28"); k_extra "st"); (k_with "eval Name" => (fail_if_success k_extra "28"); k_extra "en"); (k_with "eval ListComp" => (fail_if_success k_extra "28"); k_extra "c1"); (k_with "CompSrc" => (fail_if_success k_extra "28"); k_extra "st"); (k_with "call builtin:sorted" => (fail_if_success k_extra "28"); k_extra "st"); (k_with "call builtin:list.index" => (fail_if_success k_extra "28"); k_extra "b9"); trivial
theorem xm_app (known : List Str) (u : Str) {X : Str} (h : nmK known u = Str.ofString "n" ++ X) : Str.ofString "xmlns:n" ++ X = xmP ++ nmK known u := by
  rw [h, ← Str.append_assoc]
  congr 1
theorem e_rows (h₀ : Heap) (L L' : Addr) (m : Str → Option Value) (s : Shared) (Q : Flow → Shared → Prop) (E : Value → Shared → Prop)
   (kn fr : Addr) (kv fv : Array Value) (nk nf : Nat) (ok : Obj) (known fresh : List Str) (tl : List (Addr × Obj))
   (B : Below (ktrTop dp un gd cn cs L a ccd cl outer) base (envX cn cs L a ccd cl :: outer) h₀) (F : Fr h₀ L' s.heap m) (X : (hd.heap_39 w.params).In h₀) (N : News h₀ L' s.heap ((L' + 1, ok) :: (kn, listOf kv nk) :: (fr, listOf fv nf) :: tl))
   (T : Top p loose mean mg mb h₀) (hdp : dp + 400 < recursionLimit) (hun : un + 4000 < cLine) (hB : AllBare s.gens)
   (hk : ok.data = .cell (some (.ref kn))) (hks : StrsAre kv.toList known) (hkl : known.length ≤ 30) (hfs : StrsAre fv.toList fresh) (hf5 : fresh.length ≤ 5) (hfk : ∀ u ∈ fresh, u ∈ known) (mF : m (Str.ofString "fresh") = some (.ref fr))
   (h : ∀ (B : Addr) vs rows c ex h' tk, rows.Perm (xmRows (fresh.map fun u => (u, nmK known u))) → SortedR rows → PairsAt ex vs rows → (∀ z ∈ ex, @LT.lt Nat _ z.1 B) → (∀ z ∈ (B, listOf vs.toArray c) :: ex, ∀ q ∈ (L' + 1, ok) :: (kn, listOf kv nk) :: (fr, listOf fv nf) :: tl, @LT.lt Nat _ q.1 z.1) → Fr h₀ L' h' (fun y => if y = Str.ofString "rows" then some (.ref B) else m y) → News h₀ L' h' ((B, listOf vs.toArray c) :: (ex ++ ((L' + 1, ok) :: (kn, listOf kv nk) :: (fr, listOf fv nf) :: tl))) → Q .next { s with heap := h', toks := tk }) :
   wpAny (model PR w) ((ktrTop dp un gd cn cs L a ccd cl outer).deeper (dueE L')) (exec (nth dueF.1 6) (dueE L')) Q E s := by
  unfold dueE
  conv => arg 3; arg 1; whnf
  conv => arg 3; arg 2; arg 2; whnf
  conv => arg 2; arg 2; arg 2; whnf
  k_steps
  rename News h₀ L' _ _ => kN
  rename Fr h₀ L' _ _ => kF
  refine CompSrc.ledger rfl kF kN (.tail _ (.tail _ (.head _))) (by rw [sizeLine_eq, ← Array.length_toList, strs_len hfs]; k_room) fun g' => ?_
  refine hide ((L' + 1, ok) :: (kn, listOf kv nk) :: (fr, listOf fv nf) :: tl) fun base' hbase => ?_
  have hfb : (fr, listOf fv nf) ∈ base' := by rw [hbase]; exact .tail _ (.tail _ (.head _))
  refine rest_inv (fun i ys nw => ∃ ex, nw = (L' + 1, ok) :: (kn, listOf kv nk) :: (fr, listOf fv nf) :: (ex ++ tl) ∧ PairsAt ex ys ((xmRows (fresh.map fun u => (u, nmK known u))).take i) ∧ ∀ z ∈ ex, ∀ q ∈ base', @LT.lt Nat _ q.1 z.1) ?_ ?_ ⟨[], rfl, trivial, fun _ h => nomatch h⟩
  · intro i v ys _ hi hv hz1_; (refine e1a3 hz1_ fun ex y3_ hys hex => ?_; clear hz1_; obtain rfl := y3_); intro I oI C oC D m₂ h tk E' hC hx2 F2 N2 off ne
    (refine ex2 (strs_at hfs (i := i) (v := v) (by rw [← hv]; simp)) fun u tu w2_ => an2 w2_ fun hu y3_ => ?_; clear w2_; obtain rfl := y3_)
    have huk := hfk u (List.mem_of_getElem? hu)
    have hix : idx u known ≤ 30 := Nat.le_trans (Nat.le_of_lt (idx_lt huk)) hkl
    have hixc : idx u known ≤ 100 := Nat.le_trans hix (by decide)
    k_steps
    rename News h₀ L' _ _ => kN3
    rename Fr h₀ L' _ _ => kF3
    rename AllLt _ (ex ++ tl) => lX
    rename Addr => T
    have lM := allLt_mem lX
    rw [xm_app known u (X := Str.ofString (toString (idx u known : Int))) rfl] at kN3
    obtain ⟨tT, kN3⟩ : ∃ tT, News h₀ L' _ ((T, tup2 (xmP ++ nmK known u) tT u tu) :: (I, oI) :: (C, oC) :: (D, lst ys) :: (L' + 1, ok) :: (kn, listOf kv nk) :: (fr, listOf fv nf) :: (ex ++ tl)) := ⟨_, kN3⟩
    have om := off.mem
    have hbT : ∀ q ∈ base', @LT.lt Nat _ q.1 T := by
      intro q hq
      rw [hbase] at hq
      revert q; refine fmc ?_ (fmc ?_ (fmc ?_ (fun q hq => ?_)))
      · assumption
      · assumption
      · assumption
      · exact lM q (List.mem_append_right _ hq)
    refine CompEnd.intro kF3 kN3 ((L' + 1, ok) :: (kn, listOf kv nk) :: (fr, listOf fv nf) :: (((T, tup2 (xmP ++ nmK known u) tT u tu) :: ex) ++ tl)) (fun p hp => ?_) (LCg.Off3.of fun p hp => ?_) (.inr ⟨_, .tail _ (.tail _ (.head _)), rfl, _, rfl⟩) ⟨(T, tup2 (xmP ++ nmK known u) tT u tu) :: ex, rfl, ?_, fun z hz q hq => ?_⟩
    · revert p
      k_data
    · revert p; refine fmc ?_ (fmc ?_ (fmc ?_ (fmc ?_ (fun p h => ?_))))
      · exact om _ (.head _)
      · exact om _ (.tail _ (.head _))
      · exact om _ (.tail _ (.tail _ (.head _)))
      · exact ⟨Nat.ne_of_gt (by assumption), Nat.ne_of_gt (by assumption), Nat.ne_of_gt (by assumption)⟩
      · exact om _ (.tail _ (.tail _ (.tail _ h)))
    · rw [take_snoc (show (xmRows (fresh.map fun u => (u, nmK known u)))[i]? = some (xmP ++ nmK known u, u) by unfold xmRows; rw [List.getElem?_map, List.getElem?_map, hu]; rfl)]
      exact (hys.mono fun _ h => .tail _ h).snoc (q := (xmP ++ nmK known u, u)) (.head _)
    · rcases List.mem_cons.mp hz with rfl | hz
      · exact hbT q hq
      · exact hex z hz q hq
  · intro ys _ hz1_; (refine e1a3 hz1_ fun ex y3_ hys hex => ?_; clear hz1_; obtain rfl := y3_)
    rw [List.take_of_length_le (by rw [← Array.length_toList, strs_len hfs]; simp [xmRows])] at hys
    unfold FinE
    intro D h4 tk4 F4 N4 off4
    k_steps
    rename News h₀ L' _ _ => kN5
    rename Fr h₀ L' _ _ => kF5
    have om := off1_mem off4
    have hrl : (xmRows (fresh.map fun u => (u, nmK known u))).length = fresh.length := by simp [xmRows]
    refine sorted_list (vs := ys) kF5 kN5 ⟨_, (kN5 _ (.head _)).1, rfl, _, rfl⟩ (by rw [hys.len, hrl]; k_room) fun B c h6 F6 N6 lB => ?_
    refine pairs_lsort (tl := ex) (rows := xmRows (fresh.map fun u => (u, nmK known u))) F6 N6 (.head fun q hq => Nat.ne_of_lt (lB q hq)) hys (fun q hq => ⟨.tail _ (.tail _ (.tail _ (.tail _ (.tail _ (List.mem_append_left _ hq))))), Nat.ne_of_lt (lB q (.tail _ (.tail _ (.tail _ (.tail _ (List.mem_append_left _ hq))))))⟩) (by rw [hrl]; exact hf5) fun vs' rows' c' h7 hp1 hp2 hp3 F7 N7 => ?_
    clear kN kN5 N6 kF5 F6
    k_steps
    rename News h₀ L' _ _ => kN8
    rename Fr h₀ L' _ _ => kF8
    refine h B vs' rows' c' ex _ _ hp2 hp3 hp1 (fun z hz => lB z (.tail _ (.tail _ (.tail _ (.tail _ (List.mem_append_left _ hz)))))) (fun z hz q hq => ?_) kF8 fun q hq => kN8 q ?_
    · rcases List.mem_cons.mp hz with rfl | hz
      · refine lB q (List.mem_cons_of_mem _ ?_)
        revert q
        k_data
      · exact hex z hz q (by rw [hbase]; exact hq)
    · revert q
      k_data
end
section
example : True := by (k_with "28" => skip); trivial
open LCg
example : True := by (k_with "call ref" => (fail_if_success k_extra "29"); k_extra "st"); (k_with "eval Name" => (fail_if_success k_extra "29"); k_extra "en"); (k_with "eval ListComp" => (fail_if_success k_extra "29"); (k_here; k_dflt (refine ListComp_3 (F₀ := by k_asm) (by with_unfolding_all rfl) (by decide) (by rfl) (by decide) (by rfl) (by rfl) (by rfl) (by decide +kernel) (by rfl) ?_ fun _ => rfl))); (k_with "call builtin:sorted" => (fail_if_success k_extra "29"); k_extra "st"); (k_with "call ref" => (fail_if_success k_extra "29"); k_extra "b8"); (k_with "call ref" => (fail_if_success k_extra "29"); (k_here; k_dflt (refine' lplaces _ _ _ _ _ _ _ _ _ _ _ _ _ _ _ _ _ _ _ _ _ _ _ _ _ _ ?kB_r ?kF_r ?kX_r ?kN_r ?kT_r ?kc_r ?kd_r ?ku_r ?kb_r ?_; (case kB_r => k_asm); (case kF_r => k_asm); (case kX_r => k_asm); (case kN_r => k_asm); (case kT_r => k_asm); (case kc_r => rfl); (case kd_r => (dsimp only [ktrTop]; k_room)); (case ku_r => (dsimp only [ktrTop]; k_room)); (case kb_r => k_asm)); (intro _ _ _ _ _ _ _ _ _ _ _ _ e1r e2r e3r e4r _ _ lPr _ _ _ _; subst e1r e2r e3r e4r; (try k_lt lPr); revert lPr; intro _; (try dsimp only)))); trivial
/-- an element's attributes: letter, number, value -/
noncomputable def lrows (x : Int) : List (Str × Int × Str) := [(Str.ofString "d", hiN x, chS (hiN x)), (Str.ofString "c", x + 128, chS (wdC x)), (Str.ofString "b", 33, chS (loC x)), (Str.ofString "a", 94, fullS)]
noncomputable def rowA (q : Str × Int × Str) : (Int × Int) × Str := ((pl1a q.2.1, pl1b q.2.1), q.1)
/-- what stands behind the letter in due's rows -/
noncomputable def fA (x : Int) (l : Str) : List Str := ((lrows x).find? fun q => decide (q.1 = l)).elim [] fun q => [wordOf q.2.1, q.2.2]
theorem fA_at {x : Int} {q : Str × Int × Str} (h : q ∈ lrows x) : fA x q.1 = [wordOf q.2.1, q.2.2] := by
  simp only [lrows, List.mem_cons, List.not_mem_nil, or_false] at h
  have n1 : ¬ Str.ofString "d" = Str.ofString "c" := by decide +kernel
  have n2 : ¬ Str.ofString "d" = Str.ofString "b" := by decide +kernel
  have n3 : ¬ Str.ofString "d" = Str.ofString "a" := by decide +kernel
  have n4 : ¬ Str.ofString "c" = Str.ofString "b" := by decide +kernel
  have n5 : ¬ Str.ofString "c" = Str.ofString "a" := by decide +kernel
  have n6 : ¬ Str.ofString "b" = Str.ofString "a" := by decide +kernel
  rcases h with rfl | rfl | rfl | rfl <;> simp [fA, lrows, List.find?_cons, n1, n2, n3, n4, n5, n6]
theorem pl_obj4 {P : Addr} {x u v : Str} {t t1 t2 : Tok} : plObj P x t [(u, t1), (v, t2)] = { cls := .type "tuple", data := .seq #[.ref P, .str x t, .str u t1, .str v t2] } := rfl
theorem f_attrs (h₀ : Heap) (L L' : Addr) (m : Str → Option Value) (s : Shared) (Q : Value → Shared → Prop) (E : Value → Shared → Prop)
   (l D1 D2 D3 D4 : Addr) (n : Nat) (a1 a2 a3 b1 b2 b3 c1 c2 c3 d1 d2 d3 : Tok) (x : Int) (tx : Tok) (tl : List (Addr × Obj))
   (B : Below (ktrTop dp un gd cn cs L a ccd cl outer) base (envX cn cs L a ccd cl :: outer) h₀) (F : Fr h₀ L' s.heap m) (X : (hd.heap_39 w.params).In h₀) (N : News h₀ L' s.heap ((l, listOf #[.ref D1, .ref D2, .ref D3, .ref D4] n) :: (D4, tupP (Str.ofString "a") a1 94 a2 fullS a3) :: (D3, tupP (Str.ofString "b") b1 33 b2 (chS (loC x)) b3) :: (D2, tupP (Str.ofString "c") c1 (x + 128) c2 (chS (wdC x)) c3) :: (D1, tupP (Str.ofString "d") d1 (hiN x) d2 (chS (hiN x)) d3) :: tl))
   (T : Top p loose mean mg mb h₀) (hdp : dp + 400 < recursionLimit) (hun : un + 4000 < cLine) (hB : AllBare s.gens)
   (mP : m (Str.ofString "pairs") = some (.ref l))
   (h : ∀ (B : Addr) vs rows c ex h' tk, rows.Perm ((lrows x).map rowA) → SortedP rows → PlAt (fA x) ex vs rows → (∀ z ∈ (B, listOf vs.toArray c) :: ex, ∀ q ∈ (l, listOf #[.ref D1, .ref D2, .ref D3, .ref D4] n) :: (D4, tupP (Str.ofString "a") a1 94 a2 fullS a3) :: (D3, tupP (Str.ofString "b") b1 33 b2 (chS (loC x)) b3) :: (D2, tupP (Str.ofString "c") c1 (x + 128) c2 (chS (wdC x)) c3) :: (D1, tupP (Str.ofString "d") d1 (hiN x) d2 (chS (hiN x)) d3) :: tl, @LT.lt Nat _ q.1 z.1) → Fr h₀ L' h' m → News h₀ L' h' ((B, listOf vs.toArray c) :: (ex ++ ((l, listOf #[.ref D1, .ref D2, .ref D3, .ref D4] n) :: (D4, tupP (Str.ofString "a") a1 94 a2 fullS a3) :: (D3, tupP (Str.ofString "b") b1 33 b2 (chS (loC x)) b3) :: (D2, tupP (Str.ofString "c") c1 (x + 128) c2 (chS (wdC x)) c3) :: (D1, tupP (Str.ofString "d") d1 (hiN x) d2 (chS (hiN x)) d3) :: tl))) → Q (.ref B) { s with heap := h', toks := tk }) :
   wpAny (model PR w) ((ktrTop dp un gd cn cs L a ccd cl outer).deeper (dueE L')) (eval (forIter (nth dueF.1 7)) (dueE L')) Q E s := by
  unfold dueE
  conv => arg 3; arg 1; whnf
  conv => arg 3; arg 2; arg 2; whnf
  conv => arg 2; arg 2; arg 2; whnf
  k_steps
  rename News h₀ L' _ _ => kN
  rename Fr h₀ L' _ _ => kF
  refine hide ((l, listOf #[.ref D1, .ref D2, .ref D3, .ref D4] n) :: (D4, tupP (Str.ofString "a") a1 94 a2 fullS a3) :: (D3, tupP (Str.ofString "b") b1 33 b2 (chS (loC x)) b3) :: (D2, tupP (Str.ofString "c") c1 (x + 128) c2 (chS (wdC x)) c3) :: (D1, tupP (Str.ofString "d") d1 (hiN x) d2 (chS (hiN x)) d3) :: tl) fun base' hbase => ?_
  rw [← hbase] at h kN
  have its : ∀ (i : Nat) (v : Value), (#[Value.ref D1, Value.ref D2, Value.ref D3, Value.ref D4] : Array Value)[i]? = some v → ∃ lt y vl t1 t2 t3 Dj, v = .ref Dj ∧ (lrows x)[i]? = some (lt, y, vl) ∧ (Dj, tupP lt t1 y t2 vl t3) ∈ base' := by
    intro i v hv
    rw [hbase]
    exact arr4 (P := fun i v => ∃ lt y vl t1 t2 t3 Dj, v = .ref Dj ∧ (lrows x)[i]? = some (lt, y, vl) ∧ (Dj, tupP lt t1 y t2 vl t3) ∈ (l, listOf #[.ref D1, .ref D2, .ref D3, .ref D4] n) :: (D4, tupP (Str.ofString "a") a1 94 a2 fullS a3) :: (D3, tupP (Str.ofString "b") b1 33 b2 (chS (loC x)) b3) :: (D2, tupP (Str.ofString "c") c1 (x + 128) c2 (chS (wdC x)) c3) :: (D1, tupP (Str.ofString "d") d1 (hiN x) d2 (chS (hiN x)) d3) :: tl) hv (exI7 _ _ _ _ _ _ D1 (anI3 rfl rfl (.tail _ (.tail _ (.tail _ (.tail _ (.head _))))))) (exI7 _ _ _ _ _ _ D2 (anI3 rfl rfl (.tail _ (.tail _ (.tail _ (.head _)))))) (exI7 _ _ _ _ _ _ D3 (anI3 rfl rfl (.tail _ (.tail _ (.head _))))) (exI7 _ _ _ _ _ _ D4 (anI3 rfl rfl (.tail _ (.head _))))
  have hlb : (l, listOf #[Value.ref D1, Value.ref D2, Value.ref D3, Value.ref D4] n) ∈ base' := by rw [hbase]; exact .head _
  clear hbase
  refine show Stop _ from ⟨l, #[Value.ref D1, Value.ref D2, Value.ref D3, Value.ref D4], n, base', rfl, kF, kN, Nat.le_of_ble_eq_true rfl, fun i ys nw => ∃ ex, nw = ex ++ base' ∧ PlAt (fA x) ex ys (((lrows x).map rowA).take i) ∧ ∀ z ∈ ex, ∀ q ∈ base', @LT.lt Nat _ q.1 z.1, ⟨[], rfl, trivial, fun _ h => nomatch h⟩, ?_, fun hp => ?_, ?_⟩
  · intro i ys _ hz1_; (refine e1a2 hz1_ fun ex y3_ _ => ?_; clear hz1_; obtain rfl := y3_)
    exact List.mem_append_right _ hlb
  · intro i v ys _ hv hz1_; (refine e1a3 hz1_ fun ex y3_ hys hex => ?_; clear hz1_; obtain rfl := y3_)
    (refine ex7 (its i v hv) fun lt y vl t1 t2 t3 Dj w2_ => an3 w2_ fun y3_ hq hm => ?_; clear w2_; obtain rfl := y3_)
    refine exI5 Dj _ _ _ 0 (anI3 rfl (List.mem_append_right _ hm) ?_)
    intro I oI C oC D mC h tk E' hC hx1 hx2 hx3 F2 N2 off ne
    clear kN
    k_steps
    rename News h₀ L' _ _ => kN3
    rename Fr h₀ L' _ _ => kF3
    rename AllLt _ (ex ++ base') => lX
    rename Addr => T
    have lM := allLt_mem lX
    rename_i tq uq vq yq nq iA iB u1 c1 jI jC jD jX x4 x5 x6 x7 x8 k1 x9 k2 kI kC kD
    (refine e1a2 (lt_ex iA) fun P2 y3_ _ => ?_; obtain rfl := y3_)
    have pM := allLt_mem jX
    have om := off.mem
    refine ⟨_, _, (T, plObj P2 lt t1 [(wordOf y, x5), (vl, t3)]) :: (P2, tupI (pl1a y) vq (pl1b y) yq) :: ex ++ base', rfl, kF3, fun p hp => kN3 p ?_, LCg.Off3.of fun p hp => ?_, trivial, (T, plObj P2 lt t1 [(wordOf y, x5), (vl, t3)]) :: (P2, tupI (pl1a y) vq (pl1b y) yq) :: ex, rfl, ?_, fun z hz q hq => ?_⟩
    · revert p
      k_data
    · revert p; refine fmc ?_ (fmc ?_ (fun p h => ?_))
      · exact ⟨Nat.ne_of_gt kI, Nat.ne_of_gt kC, Nat.ne_of_gt kD⟩
      · exact ⟨Nat.ne_of_gt (Nat.lt_trans jI iA), Nat.ne_of_gt (Nat.lt_trans jC iA), Nat.ne_of_gt (Nat.lt_trans jD iA)⟩
      · exact om _ h
    · rw [take_snoc (show ((lrows x).map rowA)[i]? = some (rowA (lt, y, vl)) by rw [List.getElem?_map, hq]; rfl)]
      exact (hys.mono fun _ h => .tail _ (.tail _ h)).snoc (q := rowA (lt, y, vl)) ⟨T, P2, _, _, _, [(wordOf y, x5), (vl, t3)], rfl, (fA_at (List.mem_of_getElem? hq)).symm, pl1_ok y, .head _, .tail _ (.head _)⟩
    · rcases List.mem_cons.mp hz with rfl | hz
      · exact lM q (List.mem_append_right _ hq)
      rcases List.mem_cons.mp hz with rfl | hz
      · exact Nat.lt_trans (pM q (List.mem_append_right _ hq)) iA
      · exact hex z hz q hq
  · intro ys _ D h4 tk4 hz1_; (refine e1a3 hz1_ fun ex y3_ hys hex => ?_; clear hz1_; obtain rfl := y3_); intro F4 N4 om
    rw [List.take_of_length_le (by exact Nat.le_of_ble_eq_true rfl)] at hys
    clear kN
    k_steps
    rename News h₀ L' _ _ => kN5
    rename Fr h₀ L' _ _ => kF5
    refine sorted_list (vs := ys) kF5 kN5 ⟨_, (kN5 _ (.head _)).1, rfl, _, rfl⟩ (by rw [hys.len]; exact Nat.le_of_ble_eq_true rfl) fun B c h6 F6 N6 lB => ?_
    refine pl_lsort (tl := ex) (rows := (lrows x).map rowA) (by dsimp only [ktrTop, Around.in1, Around.deeper]; k_room) F6 N6 (.head fun q hq => Nat.ne_of_lt (lB q hq)) hys (fun q hq => ⟨.tail _ (.tail _ (List.mem_append_left _ hq)), Nat.ne_of_lt (lB q (.tail _ (List.mem_append_left _ hq)))⟩) (Nat.le_of_ble_eq_true rfl) (Nat.le_of_ble_eq_true rfl) fun vs' rows' c' h7 hp1 hp2 hp3 F7 N7 => ?_
    refine h B vs' rows' c' ex _ _ hp2 hp3 hp1 (fun z hz q hq => ?_) F7 fun q hq => N7 q ?_
    · rcases List.mem_cons.mp hz with rfl | hz
      · exact lB q (.tail _ (List.mem_append_right _ hq))
      · exact hex z hz q hq
    · rcases List.mem_cons.mp hq with rfl | hq
      · exact .head _
      · exact .tail _ (.tail _ hq)
end
section
example : True := by (k_with "29" => skip); trivial
open LCg
noncomputable def dueH : { l : List Stmt // l = stBody (nth dueF.1 7) } := ⟨_, by conv => rhs; whnf⟩
/-- a row of due's start tag -/
noncomputable def outA (known : List Str) (x : Int) (q : (Int × Int) × Str) : Str × Str := (nmK known ((fA x q.2).headD Str.empty) ++ Str.ofString ":" ++ q.2, (fA x q.2).getD 1 Str.empty)
example : True := by (k_with "call ref" => (fail_if_success k_extra "30"); k_extra "st"); (k_with "eval Name" => (fail_if_success k_extra "30"); k_extra "en"); (k_with "call builtin:list.append" => (fail_if_success k_extra "30"); k_extra "ap"); (k_with "call builtin:list.index" => (fail_if_success k_extra "30"); k_extra "b9"); trivial
theorem sb9 {α} {q : α} {l r : List α} (h : q ∈ l) (k : ∀ z ∈ l, z ∈ r) : q ∈ r := k q h
theorem g_app (h₀ : Heap) (L L' : Addr) (m : Str → Option Value) (s : Shared) (Q : Flow → Shared → Prop) (E : Value → Shared → Prop)
   (kn rw_ : Addr) (kv rv : Array Value) (nk nr : Nat) (ok ow : Obj) (known : List Str) (u lt vl : Str) (t t1 t3 : Tok) (tl : List (Addr × Obj))
   (B : Below (ktrTop dp un gd cn cs L a ccd cl outer) base (envX cn cs L a ccd cl :: outer) h₀) (F : Fr h₀ L' s.heap m) (X : (hd.heap_39 w.params).In h₀) (N : News h₀ L' s.heap ((L' + 1, ok) :: (L' + 2, ow) :: (kn, listOf kv nk) :: (rw_, listOf rv nr) :: tl))
   (T : Top p loose mean mg mb h₀) (hdp : dp + 400 < recursionLimit) (hun : un + 4000 < cLine) (hB : AllBare s.gens)
   (hk : ok.data = .cell (some (.ref kn))) (hw : ow.data = .cell (some (.str u t))) (hks : StrsAre kv.toList known) (hkl : known.length ≤ 30) (huk : u ∈ known) (hll : lt.length ≤ 10) (hz : rv.size ≤ 1000)
   (hn1 : @Ne Nat (L' + 1) rw_) (hn2 : @Ne Nat (L' + 2) rw_) (hn3 : @Ne Nat kn rw_) (hnt : ∀ q ∈ tl, q.1 ≠ rw_) (mR : m (Str.ofString "rows") = some (.ref rw_)) (mL : m (Str.ofString "letter") = some (.str lt t1)) (mV : m (Str.ofString "value") = some (.str vl t3))
   (h : ∀ T tT nr' h' tk, (∀ q ∈ (L' + 1, ok) :: (L' + 2, ow) :: (kn, listOf kv nk) :: (rw_, listOf rv nr) :: tl, @LT.lt Nat _ q.1 T) → Fr h₀ L' h' m → News h₀ L' h' ((T, tup2 (nmK known u ++ Str.ofString ":" ++ lt) tT vl t3) :: (L' + 1, ok) :: (L' + 2, ow) :: (kn, listOf kv nk) :: (rw_, listOf (rv.push (.ref T)) nr') :: tl) → Q .next { s with heap := h', toks := tk }) :
   wpAny (model PR w) ((ktrTop dp un gd cn cs L a ccd cl outer).deeper (dueE L')) (exec (nth dueH.1 0) (dueE L')) Q E s := by
  unfold dueE
  conv => arg 3; arg 1; whnf
  conv => arg 3; arg 2; arg 2; whnf
  conv => arg 2; arg 2; arg 2; whnf
  have hix : idx u known ≤ 30 := Nat.le_trans (Nat.le_of_lt (idx_lt huk)) hkl
  have hixc : idx u known ≤ 100 := Nat.le_trans hix (by decide)
  k_steps
  rename News h₀ L' _ _ => kN
  rename Fr h₀ L' _ _ => kF
  rename AllLt _ tl => lX
  have lM := allLt_mem lX
  refine h _ _ _ _ _ (fun q hq => ?_) kF kN
  revert q; refine fmc ?_ (fmc ?_ (fmc ?_ (fmc ?_ (fun q hq => ?_))))
  · assumption
  · assumption
  · assumption
  · assumption
  · exact lM q hq
theorem e_attrs (h₀ : Heap) (L L' : Addr) (m : Str → Option Value) (s : Shared) (Q : Flow → Shared → Prop) (E : Value → Shared → Prop)
   (l D1 D2 D3 D4 : Addr) (n : Nat) (a1 a2 a3 b1 b2 b3 c1 c2 c3 d1 d2 d3 : Tok) (x : Int) (tx : Tok) (tl : List (Addr × Obj)) (kn rw_ : Addr) (kv rv : Array Value) (nk nr : Nat) (ok ow : Obj) (known : List Str)
   (B : Below (ktrTop dp un gd cn cs L a ccd cl outer) base (envX cn cs L a ccd cl :: outer) h₀) (F : Fr h₀ L' s.heap m) (X : (hd.heap_39 w.params).In h₀) (N : News h₀ L' s.heap ((L' + 1, ok) :: (L' + 2, ow) :: (kn, listOf kv nk) :: (rw_, listOf rv nr) :: ((l, listOf #[.ref D1, .ref D2, .ref D3, .ref D4] n) :: (D4, tupP (Str.ofString "a") a1 94 a2 fullS a3) :: (D3, tupP (Str.ofString "b") b1 33 b2 (chS (loC x)) b3) :: (D2, tupP (Str.ofString "c") c1 (x + 128) c2 (chS (wdC x)) c3) :: (D1, tupP (Str.ofString "d") d1 (hiN x) d2 (chS (hiN x)) d3) :: tl)))
   (T : Top p loose mean mg mb h₀) (hdp : dp + 400 < recursionLimit) (hun : un + 4000 < cLine) (hB : AllBare s.gens)
   (mP : m (Str.ofString "pairs") = some (.ref l)) (mR : m (Str.ofString "rows") = some (.ref rw_)) (hk : ok.data = .cell (some (.ref kn))) (hw : ∃ c, ow.data = .cell c) (hks : StrsAre kv.toList known) (hkl : known.length ≤ 30) (huk : ∀ q ∈ lrows x, wordOf q.2.1 ∈ known) (hz : rv.size ≤ 100)
   (hnd : @Ne Nat kn rw_) (hnt : ∀ q ∈ (l, listOf #[.ref D1, .ref D2, .ref D3, .ref D4] n) :: (D4, tupP (Str.ofString "a") a1 94 a2 fullS a3) :: (D3, tupP (Str.ofString "b") b1 33 b2 (chS (loC x)) b3) :: (D2, tupP (Str.ofString "c") c1 (x + 128) c2 (chS (wdC x)) c3) :: (D1, tupP (Str.ofString "d") d1 (hiN x) d2 (chS (hiN x)) d3) :: tl, @Ne Nat q.1 rw_ ∧ @Ne Nat q.1 (L' + 1) ∧ @Ne Nat q.1 (L' + 2))
   (h : ∀ rows vals rv' nr' ow' ex h' tk gens dr m', rows.Perm ((lrows x).map rowA) → SortedP rows → rv'.toList = rv.toList ++ vals → PairsAt ex vals (rows.map (outA known x)) → (∀ z ∈ ex, ∀ q ∈ (L' + 1, ok) :: (L' + 2, ow) :: (kn, listOf kv nk) :: (rw_, listOf rv nr) :: ((l, listOf #[.ref D1, .ref D2, .ref D3, .ref D4] n) :: (D4, tupP (Str.ofString "a") a1 94 a2 fullS a3) :: (D3, tupP (Str.ofString "b") b1 33 b2 (chS (loC x)) b3) :: (D2, tupP (Str.ofString "c") c1 (x + 128) c2 (chS (wdC x)) c3) :: (D1, tupP (Str.ofString "d") d1 (hiN x) d2 (chS (hiN x)) d3) :: tl), @LT.lt Nat _ q.1 z.1) → (∃ c, ow'.data = .cell c) → (∀ y, y ∉ [Str.ofString "place", Str.ofString "letter", Str.ofString "value"] → m' y = m y) → AllBare gens → Fr h₀ L' h' m' → News h₀ L' h' ((L' + 1, ok) :: (L' + 2, ow') :: (kn, listOf kv nk) :: (rw_, listOf rv' nr') :: (ex ++ ((l, listOf #[.ref D1, .ref D2, .ref D3, .ref D4] n) :: (D4, tupP (Str.ofString "a") a1 94 a2 fullS a3) :: (D3, tupP (Str.ofString "b") b1 33 b2 (chS (loC x)) b3) :: (D2, tupP (Str.ofString "c") c1 (x + 128) c2 (chS (wdC x)) c3) :: (D1, tupP (Str.ofString "d") d1 (hiN x) d2 (chS (hiN x)) d3) :: tl))) → Q .next { s with heap := h', toks := tk, gens := gens, drawn := dr }) :
   wpAny (model PR w) ((ktrTop dp un gd cn cs L a ccd cl outer).deeper (dueE L')) (exec (nth dueF.1 7) (dueE L')) Q E s := by
  refine wpAny_For (target := forTgt (nth dueF.1 7)) (iter := forIter (nth dueF.1 7)) (body := dueH.1) (orelse := []) (pos := forPos (nth dueF.1 7)) ?_
  refine f_attrs w p loose mean mg mb base dp un gd cn cs a ccd cl outer h₀ L L' m s _ _ l D1 D2 D3 D4 n a1 a2 a3 b1 b2 b3 c1 c2 c3 d1 d2 d3 x tx ((L' + 1, ok) :: (L' + 2, ow) :: (kn, listOf kv nk) :: (rw_, listOf rv nr) :: tl) B F X (fun q hq => N q ?mem) T hdp hun hB mP ?_
  case mem =>
    revert q; k_data
  intro D rows' rows c ex0 h1 tk1 hpm hsr hpa hlt F1 N1
  refine hide ((D, listOf rows'.toArray c) :: (ex0 ++ ((l, listOf #[.ref D1, .ref D2, .ref D3, .ref D4] n) :: (D4, tupP (Str.ofString "a") a1 94 a2 fullS a3) :: (D3, tupP (Str.ofString "b") b1 33 b2 (chS (loC x)) b3) :: (D2, tupP (Str.ofString "c") c1 (x + 128) c2 (chS (wdC x)) c3) :: (D1, tupP (Str.ofString "d") d1 (hiN x) d2 (chS (hiN x)) d3) :: tl))) fun rest hrest => ?_
  have hsub : ∀ q ∈ (l, listOf #[.ref D1, .ref D2, .ref D3, .ref D4] n) :: (D4, tupP (Str.ofString "a") a1 94 a2 fullS a3) :: (D3, tupP (Str.ofString "b") b1 33 b2 (chS (loC x)) b3) :: (D2, tupP (Str.ofString "c") c1 (x + 128) c2 (chS (wdC x)) c3) :: (D1, tupP (Str.ofString "d") d1 (hiN x) d2 (chS (hiN x)) d3) :: tl, q ∈ rest := fun q hq => by rw [hrest]; exact .tail _ (List.mem_append_right _ hq)
  (refine ex1 hw fun cw hcw => ?_; try clear hw)
  have nR1 : @Ne Nat rw_ (L' + 1) := news_ne N (.tail _ (.tail _ (.tail _ (.head _)))) (.head _) (cell_ne hk)
  have nR2 : @Ne Nat rw_ (L' + 2) := news_ne N (.tail _ (.tail _ (.tail _ (.head _)))) (.tail _ (.head _)) (cell_ne hcw)
  have nK1 : @Ne Nat kn (L' + 1) := news_ne N (.tail _ (.tail _ (.head _))) (.head _) (cell_ne hk)
  have nK2 : @Ne Nat kn (L' + 2) := news_ne N (.tail _ (.tail _ (.head _))) (.tail _ (.head _)) (cell_ne hcw)
  have hR : ∀ q ∈ rest, @Ne Nat q.1 rw_ ∧ @Ne Nat q.1 (L' + 1) ∧ @Ne Nat q.1 (L' + 2) := by
    intro q hq
    have up : ∀ z ∈ (D, listOf rows'.toArray c) :: ex0, @Ne Nat z.1 rw_ ∧ @Ne Nat z.1 (L' + 1) ∧ @Ne Nat z.1 (L' + 2) := fun z hz =>
      ⟨Nat.ne_of_gt (hlt z hz (rw_, listOf rv nr) (by k_data)), Nat.ne_of_gt (hlt z hz (L' + 1, ok) (by k_data)), Nat.ne_of_gt (hlt z hz (L' + 2, ow) (by k_data))⟩
    rw [hrest] at hq
    rcases List.mem_cons.mp hq with rfl | hq
    · exact up _ (.head _)
    · rcases List.mem_append.mp hq with hq | hq
      · exact up q (.tail _ hq)
      · exact hnt q hq
  have hD : (D, listOf rows'.toArray c) ∈ rest := by rw [hrest]; exact .head _
  have hE : ∀ q ∈ ex0, q ∈ rest := fun q hq => by rw [hrest]; exact .tail _ (List.mem_append_left _ hq)
  have hrl : rows.length = 4 := hpm.length_eq
  have N2 : News h₀ L' h1 ((L' + 1, ok) :: (L' + 2, ow) :: (kn, listOf kv nk) :: (rw_, listOf rv nr) :: rest) := fun q hq => N1 q (by
    rw [hrest] at hq
    revert q; k_data)
  have hmx : ∀ q ∈ rows, ∃ y vl, (q.2, y, vl) ∈ lrows x ∧ fA x q.2 = [wordOf y, vl] := by
    intro q hq
    obtain ⟨⟨lt, y, vl⟩, hm, rfl⟩ := List.mem_map.mp (hpm.mem_iff.mp hq)
    exact exI2 y vl ⟨hm, fA_at hm⟩
  clear N1 N hrest hlt hnt
  refine hideJ (fun (i : Nat) (m₁ : Str → Option Value) (nw : List (Addr × Obj)) => ∃ vals rv' nr' ow' ex, nw = (L' + 1, ok) :: (L' + 2, ow') :: (kn, listOf kv nk) :: (rw_, listOf rv' nr') :: (ex ++ rest) ∧ (∃ c, ow'.data = .cell c) ∧ rv'.toList = rv.toList ++ vals ∧ PairsAt ex vals ((rows.map (outA known x)).take i) ∧ (∀ z ∈ ex, ∀ q ∈ (L' + 1, ok) :: (L' + 2, ow) :: (kn, listOf kv nk) :: (rw_, listOf rv nr) :: rest, @LT.lt Nat _ q.1 z.1) ∧ ∀ y, y ∉ [Str.ofString "place", Str.ofString "letter", Str.ofString "value"] → m₁ y = m y) fun J_ hJ_ => ?_
  refine loop_list (L := L') (n₀ := 0) (ax := D) (its := rows'.toArray) rfl ?hgo rfl
    J_ ?hJS ?turn ?done F1 N2 hB ((hJ_ _ _ _).mpr ⟨[], rv, nr, ow, [], rfl, ⟨cw, hcw⟩, by simp, trivial, (fun _ h => nomatch h), fun _ _ => rfl⟩) (Nat.zero_le _)
  case hgo =>
    intro s' v Q' I i hv st hq
    (refine e5a4 (hpa.at (i := i) (v := v) (by simpa using hv)) fun q a' P t r _ y3_ _ _ => ?_; obtain rfl := y3_)
    exact wpAny_letOwnedTupleGo_listiter st hq
  case hJS =>
    intro i m₁ nw hz1_; (refine e5a2 ((hJ_ _ _ _).mp hz1_) fun vals rv' nr' ow' ex y3_ _ => ?_; clear hz1_; obtain rfl := y3_)
    exact .inr ⟨_, .tail _ (.tail _ (.tail _ (.tail _ (List.mem_append_right _ hD)))), rfl, _, rfl⟩
  case done =>
    intro m₁ nw h2 tk2 gens dr hz1_; (refine e5a6 ((hJ_ _ _ _).mp hz1_) fun vals rv' nr' ow' ex y3_ hw' hv' hps hex hm' => ?_; clear hz1_; obtain rfl := y3_); intro F2 N2 hB2 _
    rw [List.take_of_length_le (by rw [List.size_toArray, hpa.len, List.length_map]; exact Nat.le_refl _)] at hps
    refine h rows vals rv' nr' ow' ex h2 tk2 gens dr m₁ hpm hsr hv' hps (fun z hz q hq => hex z hz q ?_) hw' hm' hB2 F2 fun q hq => N2 q ?_
    · exact sb9 hq (fmc (by k_data) (fmc (by k_data) (fmc (by k_data) (fmc (by k_data) (fun q h => .tail _ (.tail _ (.tail _ (.tail _ (hsub q (by k_data))))))))))
    · rcases List.mem_cons.mp hq with h | hq
      · rw [h]; exact .head _
      rcases List.mem_cons.mp hq with h | hq
      · rw [h]; exact .tail _ (.head _)
      rcases List.mem_cons.mp hq with h | hq
      · rw [h]; exact .tail _ (.tail _ (.head _))
      rcases List.mem_cons.mp hq with h | hq
      · rw [h]; exact .tail _ (.tail _ (.tail _ (.head _)))
      rcases List.mem_append.mp hq with hq | hq
      · exact .tail _ (.tail _ (.tail _ (.tail _ (List.mem_append_left _ hq))))
      · exact .tail _ (.tail _ (.tail _ (.tail _ (List.mem_append_right _ (hsub q hq)))))
  case turn =>
    intro i v m₁ nw I oI h2 tk2 gens dr hv hz1_; (refine e5a6 ((hJ_ _ _ _).mp hz1_) fun vals rv' nr' ow' ex y4_ y5_ hv' hps hex hm' => ?_; clear hz1_; obtain rfl := y4_; refine ex1 y5_ fun cw' hcw' => ?_; clear y5_); intro hoI off F2 N2 hB2 _
    (refine e5a4 (hpa.at (i := i) (v := v) (by simpa using hv)) fun q a' P t r hq y3_ hr hm => ?_; obtain rfl := y3_)
    (refine e2a2 (hmx q (List.mem_of_getElem? hq)) fun y vl hmy hfy => ?_)
    have huy := huk _ hmy
    have hll : q.2.length ≤ 10 := by
      simp only [lrows, List.mem_cons, List.not_mem_nil, or_false, Prod.mk.injEq] at hmy
      rcases hmy with h | h | h | h <;> (rw [h.1]; exact Nat.le_of_ble_eq_true (by decide +kernel))
    have hz2 : rv'.size ≤ 1000 := by
      have e := congrArg List.length hv'
      rw [List.length_append, Array.length_toList, Array.length_toList] at e
      have e2 := hps.len
      have e3 := List.length_take_le' i (rows.map (outA known x))
      rw [List.length_map] at e3
      k_room
    rw [hfy] at hr
    (refine ex2 (two_of hr) fun tw tv w1_ => ?_; clear hr; obtain rfl := w1_)
    have hmR := hE _ hm
    rw [pl_obj4] at hmR
    have nA := hR _ hmR
    refine hide (ex ++ rest) fun all hall => ?_
    have N3 : News h₀ L' h2 ((a', { cls := .type "tuple", data := .seq #[.ref P, .str q.2 t, .str (wordOf y) tw, .str vl tv] }) :: (I, oI) :: (L' + 1, ok) :: (L' + 2, ow') :: (kn, listOf kv nk) :: (rw_, listOf rv' nr') :: all) := fun q hq => by
      rcases List.mem_cons.mp hq with rfl | hq
      · exact N2 _ (.tail _ (.tail _ (.tail _ (.tail _ (.tail _ (List.mem_append_right _ hmR))))))
      · rw [hall] at hq; exact N2 q hq
    have hA : ∀ q ∈ all, @Ne Nat q.1 rw_ ∧ @Ne Nat q.1 (L' + 1) ∧ @Ne Nat q.1 (L' + 2) := by
      intro q hq
      rw [hall] at hq
      rcases List.mem_append.mp hq with hq | hq
      · exact ⟨Nat.ne_of_gt (hex q hq (rw_, listOf rv nr) (by k_data)), Nat.ne_of_gt (hex q hq (L' + 1, ok) (by k_data)), Nat.ne_of_gt (hex q hq (L' + 2, ow) (by k_data))⟩
      · exact hR q hq
    have nA1 := nA.1
    have nA3 := nA.2.1
    have nA4 := nA.2.2
    have oI1 : @Ne Nat I (L' + 1) := fun e => off _ (.head _) e.symm
    have oI2 : @Ne Nat I (L' + 2) := fun e => off _ (.tail _ (.head _)) e.symm
    have oI3 : @Ne Nat I kn := fun e => off _ (.tail _ (.tail _ (.head _))) e.symm
    have oI4 : @Ne Nat I rw_ := fun e => off _ (.tail _ (.tail _ (.tail _ (.head _)))) e.symm
    have r1 : ∀ q ∈ all, q.1 ≠ L' + 1 := fun q hq => (hA q hq).2.1
    have r2 : ∀ q ∈ all, q.1 ≠ L' + 2 := fun q hq => (hA q hq).2.2
    have r4 : ∀ q ∈ all, q.1 ≠ rw_ := fun q hq => (hA q hq).1
    clear N2
    refine asg_stop6 ?_
    unfold dueE
    conv => arg 3; arg 1; whnf
    conv => arg 3; arg 2; whnf
    k_steps
    rename Fr h₀ L' _ _ => kF3
    rename News h₀ L' _ _ => kN3
    rename (_ = Data.cell _) => hc3
    rename Obj => o3
    show wpAny (model PR w) _ (execs (dueH.1.drop 0) (dueE L')) _ _ _
    refine execs_at 0 (Nat.le_of_ble_eq_true rfl) ?_
    refine g_app w p loose mean mg mb base dp un gd cn cs a ccd cl outer h₀ L L' _ _ _ _ kn rw_ kv rv' nk nr' ok o3 known (wordOf y) q.2 vl _ t tv ((a', { cls := .type "tuple", data := .seq #[.ref P, .str q.2 t, .str (wordOf y) tw, .str vl tv] }) :: (I, oI) :: all) B kF3 X ?N1 T hdp hun hB2 hk hc3 hks hkl huy hll hz2 (Ne.symm nR1) (Ne.symm nR2) hnd ?n1 ?mR ?mL ?mV ?_
    case N1 =>
      intro q hq
      refine kN3 q ?_
      revert q; k_data
    case n1 =>
      refine fmc ?_ (fmc ?_ (fun q hq => ?_))
      · exact nA1
      · exact oI4
      · exact r4 q hq
    case mR => exact ((if_neg (by decide +kernel)).trans ((if_neg (by decide +kernel)).trans (if_neg (by decide +kernel)))).trans ((hm' _ (by decide +kernel)).trans mR)
    case mL => exact (if_neg (by decide +kernel)).trans (if_pos rfl)
    case mV => exact if_pos rfl
    intro Z tZ nr2 h4 tk4 hlZ F4 N4
    dsimp only
    refine execs_end 1 (Nat.le_of_ble_eq_true rfl) ?_
    have hlA : ∀ q ∈ all, @LT.lt Nat _ q.1 Z := fun q hq => hlZ q (by k_data)
    have hro : outA known x q = (nmK known (wordOf y) ++ Str.ofString ":" ++ q.2, vl) := by unfold outA; rw [hfy]; rfl
    have hqi : (rows.map (outA known x))[i]? = some (nmK known (wordOf y) ++ Str.ofString ":" ++ q.2, vl) := by rw [List.getElem?_map, hq]; exact congrArg some hro
    refine stop_turn (h := h4) (tk := tk4) (gens := gens) (dr := dr) (nw := (L' + 1, ok) :: (L' + 2, o3) :: (kn, listOf kv nk) :: (rw_, listOf (rv'.push (.ref Z)) nr2) :: (((Z, tup2 (nmK known (wordOf y) ++ Str.ofString ":" ++ q.2) tZ vl tv) :: ex) ++ rest)) F4 (fun q hq => N4 q ?_) (fun q hq => ?_) hB2 ((hJ_ _ _ _).mpr (exI5 (vals ++ [.ref Z]) (rv'.push (.ref Z)) nr2 o3 (_ :: ex) (anI6 rfl ⟨_, hc3⟩ ?_ ?_ (fun z hz q hq => ?_) (fun y hy => ?_))))
    · simp only [List.mem_cons, List.cons_append] at hq ⊢
      rw [← hall] at hq
      rcases hq with h | h | h | h | h | h | h
      · exact .inr (.inr (.inr (.inr (.inr (.inr (.inl h))))))
      · exact .inr (.inl h)
      · exact .inr (.inr (.inl h))
      · exact .inr (.inr (.inr (.inl h)))
      · exact .inr (.inr (.inr (.inr (.inl h))))
      · exact .inl h
      · exact .inr (.inr (.inr (.inr (.inr (.inr (.inr h))))))
    · revert q; refine fmc ?_ (fmc ?_ (fmc ?_ (fmc ?_ (fmc ?_ (fun q hq => ?_)))))
      · exact Ne.symm oI1
      · exact Ne.symm oI2
      · exact Ne.symm oI3
      · exact Ne.symm oI4
      · exact Nat.ne_of_gt (hlZ (I, oI) (by k_data))
      · exact off q (.tail _ (.tail _ (.tail _ (.tail _ hq))))
    · rw [Array.toList_push, hv', List.append_assoc]
    · rw [take_snoc hqi]
      exact (hps.mono fun _ h => .tail _ h).snoc (q := (nmK known (wordOf y) ++ Str.ofString ":" ++ q.2, vl)) (.head _)
    · rcases List.mem_cons.mp hz with rfl | hz
      · revert q; refine fmc ?_ (fmc ?_ (fmc ?_ (fmc ?_ (fun q hq => ?_))))
        · exact hlZ (L' + 1, ok) (.head _)
        · exact hlZ (L' + 2, o3) (.tail _ (.head _))
        · exact hlZ (kn, listOf kv nk) (.tail _ (.tail _ (.head _)))
        · exact hlZ (rw_, listOf rv' nr') (.tail _ (.tail _ (.tail _ (.head _))))
        · exact hlA q (by rw [hall]; exact List.mem_append_right _ hq)
      · exact hex z hz q hq
    · simp only [List.mem_cons, List.not_mem_nil, or_false, not_or] at hy
      (refine an3 hy fun y1 y2 y3 => ?_; try clear hy)
      simp only [if_neg y1, if_neg y2, if_neg y3]
      exact hm' y (by simp only [List.mem_cons, List.not_mem_nil, or_false, not_or]; exact ⟨y1, y2, y3⟩)
end
section
example : True := by (k_with "30" => skip); trivial
open LCg
example : True := by (k_with "eval ListComp" => (fail_if_success k_extra "31"); (k_here; k_dflt (refine ListComp_str (F₀ := by k_asm) (by with_unfolding_all rfl) (by decide) (by rfl) (by decide) (by rfl) ?_))); (k_with "call builtin:dict.get" => (fail_if_success k_extra "31"); (k_here; k_dflt (refine kdg_get2 (knd := PySem.strKind _ _) (by k_asm) (by k_mem) (by k_asm) (by k_asm) (strKind_is _ _ _ _) (valueAt _ _) rfl ?_))); trivial
theorem spelled (A₀ : Around) (h₀ : Heap) (L : Addr) (m : Str → Option Value) (s : Shared) (Q E : Value → Shared → Prop)
   (x : Str) (tk : Tok) (tl : List (Addr × Obj))
   (B : Below A₀ base outer h₀) (F : Fr h₀ L s.heap m) (X : (hd.heap_39 w.params).In h₀) (N : News h₀ L s.heap (tl))
   (T : Top p loose mean mg mb h₀) (hcs : cs.kind = .function) (hdp : dp + 20 < recursionLimit) (hun : un + 200 < cLine) (hB : AllBare s.gens) (hx : x.length ≤ 20)
   (hret : ∀ t, RetK h₀ L m tl s Q (.str (escS x) t)) :
   wpAny (model PR w) (ktrTop dp un gd cn cs L a ccd cl outer) (call (.ref 222) [.str x tk]) Q E s := by
  refine wpAny_call ?_
  k_dflt (refine' code_defC (binds := [(Str.ofString "text", .str x tk)]) B F X N T ?kA ?kF ?kK ?k6 ?k7 ?k8 ?k9 ?kB ?kD ?_ ?c2 ?c3 ?c4; (case kA => exact rfl); (case kF => exact rfl); (case kK => first | exact rfl | assumption); (case k6 => k_is); (case k7 => k_is); (case k8 => k_room); (case k9 => first | exact BindsTo.of_eq rfl | exact binds_K (by k_in) rfl (by k_is) rfl rfl rfl); (case kB => exact rfl); (case kD => decide +kernel); (case c2 => exact rfl); (case c3 => exact rfl); (case c4 => exact rfl); k_whole; intro g' L' h' tk' cells' FG' F' N' Y' B' X' T' l1; (try k_lt l1); k_cells Y'; (try simp only [List.cons_append, List.nil_append] at N'); (try dsimp only); (try k_lift B'); (try k_fold))
  have lc : ∀ p ∈ tl, p.1 ≠ L' + 1 := fun p hp => Nat.ne_of_lt (Nat.lt_succ_of_lt (l1 p hp))
  k_steps
  rename News g' L' _ _ => N1
  rename Fr g' L' _ _ => F1
  refine exI3 x _ _ (anI6 rfl rfl F1 N1 ?_ ?_)
  · show x.length ≤ _
    rw [sizeLine_eq]; k_room
  intro s2 hz1_; (refine ex1 hz1_ fun h2 y1_ => ?_; clear hz1_; obtain rfl := y1_)
  refine rest_inv (fun i ys news => StrsAre ys ((x.cps.toList.take i).map fun c => ⟨(splN c).toArray⟩) ∧ news = _) ?_ ?_ ⟨.nil, rfl⟩
  · intro i _ ys _ hi hz1_; (refine e2a2 hz1_ fun c u hc y3_ => ?_; clear hz1_; obtain rfl := y3_); intro hz2_; (refine an2 hz2_ fun hys y1_ => ?_; clear hz2_; obtain rfl := y1_); intro I oI C oC D m₂ h tk E' hC hx2 F2 N2 off ne
    k_steps
    refine comp_val (refs_get c u _ _ _ _ _ _) fun t' => ?_
    exact exI3 h _ _ (anI7 rfl F2 N2 off trivial (by rw [str_nth hc, List.map_append]; exact strsAre_snoc hys) rfl)
  · intro ys _ hz1_; (refine an2 hz1_ fun hys y1_ => ?_; clear hz1_; obtain rfl := y1_)
    rw [show x.cps.toList.take x.cps.size = x.cps.toList from List.take_of_length_le (by simp)] at hys
    unfold FinE
    intro D h tk F2 N2 off
    k_steps
    refine join_list (x := Str.ofString "") ⟨_, (N2 _ (.head _)).1, rfl, _, rfl⟩ (by simpa using hys) ?_ fun t' k => ?_
    · have e1 : (Str.ofString "").length = 0 := by decide +kernel
      have e2 := StrLaws.sumLen_le (B := 6) (x.cps.toList.map fun c => (⟨(splN c).toArray⟩ : Str)) (by
        intro y hy
        (refine e1a2 (List.mem_map.mp hy) fun c _ y3_ => ?_; obtain rfl := y3_)
        show (List.toArray _).size ≤ 6
        rw [List.size_toArray]; exact splN_len c)
      have e3 : (x.cps.toList.map fun c => (⟨(splN c).toArray⟩ : Str)).length ≤ 20 := by
        rw [List.length_map, Array.length_toList]; exact hx
      rw [e1, Nat.mul_zero]; k_room
    · have e : Txt.join (Str.ofString "") (x.cps.toList.map fun c => (⟨(splN c).toArray⟩ : Str)) = escS x := by
        rw [join_cat, escS_eq]
        unfold catS
        rw [List.flatMap_map]
      rw [e]
      k_steps
      rename News h₀ L _ _ => kN
      rename Fr h₀ L _ m => kF
      exact hret t' h k kF (fun p hp => kN p (.tail _ (.tail _ (.tail _ hp))))
end
section
example : True := by (k_with "31" => skip); (k_with "binaryOp Add str str" => (fail_if_success k_extra "32"); (k_here; (with_reducible show wpAny _ _ (binaryOp Operator.Add (Value.str _ _) (Value.str _ _)) _ _ _); k_dflt (refine' add_b ?x_r ?y_r ?s_r ?_; (case x_r => kt_len); (case y_r => kt_len); (case s_r => decide +kernel)); intro _ _)); trivial
open LCg
example : True := by (k_with "call ref" => (fail_if_success k_extra "32"); k_extra "st"); (k_with "eval Name" => (fail_if_success k_extra "32"); k_extra "en"); (k_with "eval ListComp" => (fail_if_success k_extra "32"); (k_here; k_dflt (refine LCp.ListComp_P (F₀ := by k_asm) (by with_unfolding_all rfl) (by decide) (by rfl) (by decide) (by rfl) (by rfl) (by decide) ?_))); (k_with "SrcLP" => (fail_if_success k_extra "32"); k_extra "st"); (k_with "subscriptTail Name UnaryOp ref int" => (fail_if_success k_extra "32"); k_extra "b4"); (k_with "call builtin:str.join" => (fail_if_success k_extra "32"); k_extra "st"); trivial
/-- a row as due writes it -/
noncomputable def fmtD (q : Str × Str) : Str := Str.ofString " " ++ q.1 ++ Str.ofString "=\"" ++ escS q.2 ++ Str.ofString "\""
theorem fmtD_le {q : Str × Str} (h1 : q.1.length ≤ 20) (h2 : q.2.length ≤ 20) : (fmtD q).length ≤ 200 := by
  unfold fmtD
  simp only [Str.length_append]
  exact Nat.le_trans (Nat.add_le_add (Nat.add_le_add (Nat.add_le_add (Nat.add_le_add (Nat.le_refl _) h1) (Nat.le_refl _)) (Nat.le_trans (escS_len q.2) (Nat.mul_le_mul_left 6 h2))) (Nat.le_refl _)) (by decide +kernel)
example : True := by (k_with "call ref" => (fail_if_success k_extra "32"); (k_here; k_dflt (refine' spelled _ _ _ _ _ _ _ _ _ _ _ _ _ _ _ _ _ _ _ _ _ _ _ _ _ _ ?kB_r ?kF_r ?kX_r ?kN_r ?kT_r ?kc_r ?kd_r ?ku_r ?kb_r ?kx_r ?_; (case kB_r => k_asm); (case kF_r => k_asm); (case kX_r => k_asm); (case kN_r => k_asm); (case kT_r => k_asm); (case kc_r => rfl); (case kd_r => (dsimp only [ktrTop]; k_room)); (case ku_r => (dsimp only [ktrTop]; k_room)); (case kb_r => k_asm); (case kx_r => first | assumption | k_room)); (intro _ _ _ _ _; (try dsimp only)))); trivial
theorem e_page (h₀ : Heap) (L L' : Addr) (m : Str → Option Value) (s : Shared) (Q : Flow → Shared → Prop) (E : Value → Shared → Prop)
   (nm rw_ : Addr) (nmv rv : Array Value) (n nr : Nat) (rows : List (Str × Str)) (pgS nS : Str) (tp tn : Tok) (tl : List (Addr × Obj))
   (B : Below (ktrTop dp un gd cn cs L a ccd cl outer) base (envX cn cs L a ccd cl :: outer) h₀) (F : Fr h₀ L' s.heap m) (X : (hd.heap_39 w.params).In h₀) (N : News h₀ L' s.heap ((nm, listOf nmv n) :: (rw_, listOf rv nr) :: tl))
   (T : Top p loose mean mg mb h₀) (hdp : dp + 400 < recursionLimit) (hun : un + 4000 < cLine) (hB : AllBare s.gens)
   (hps : PairsAt tl rv.toList rows) (hl2 : rows.length ≤ 20) (hrl : ∀ q ∈ rows, q.1.length ≤ 20 ∧ q.2.length ≤ 20) (hpl : pgS.length ≤ 100000) (hnl : nS.length ≤ 30) (hns : nmv[nmv.size - 1]? = some (.str nS tn)) (hn0 : 0 < nmv.size) (hn1 : nmv.size ≤ 1000)
   (mR : m (Str.ofString "rows") = some (.ref rw_)) (mN : m (Str.ofString "names") = some (.ref nm)) (mP : m (Str.ofString "page") = some (.str pgS tp))
   (h : ∀ h' tk t, Fr h₀ L' h' (fun y => if y = Str.ofString "page" then some (.str (pgS ++ Str.ofString "<" ++ nS ++ catS (rows.map fmtD) ++ Str.ofString ">") t) else m y) → News h₀ L' h' ((nm, listOf nmv n) :: (rw_, listOf rv nr) :: tl) → Q .next { s with heap := h', toks := tk }) :
   wpAny (model PR w) ((ktrTop dp un gd cn cs L a ccd cl outer).deeper (dueE L')) (exec (nth dueF.1 8) (dueE L')) Q E s := by
  unfold dueE
  conv => arg 3; arg 1; whnf
  conv => arg 3; arg 2; arg 2; whnf
  conv => arg 2; arg 2; arg 2; whnf
  have hl := hps.len
  rw [Array.length_toList] at hl
  k_steps
  rename News h₀ L' _ _ => kN
  rename Fr h₀ L' _ _ => kF
  refine LCp.SrcLP.ledger rfl kF kN (.tail _ (.head _)) (by rw [sizeLine_eq]; k_room) fun g' => ?_
  refine restP_inv (fun i ys news => StrsAre ys ((rows.map fmtD).take i) ∧ news = _) ?step ?fin ⟨.nil, rfl⟩
  case step =>
    intro i v ys _ hi hv hz1_; (refine an2 hz1_ fun hys y1_ => ?_; clear hz1_; obtain rfl := y1_)
    (refine ex4 (hps.at (i := i) (v := v) (by rw [← hv]; simp)) fun q ta t1 t2 w2_ => an3 w2_ fun hq y3_ hta => ?_; clear w2_; obtain rfl := y3_)
    refine exI5 ta _ _ _ _ (anI5 rfl (.tail _ (.tail _ hta)) rfl rfl ?_)
    intro I oI C oC D m₂ hh tk E' hC hx hx2 F2 N2 off ne
    (refine an2 (hrl q (List.mem_of_getElem? hq)) fun hq1 hq2 => ?_)
    have he2 : (escS q.2).length ≤ 120 := Nat.le_trans (escS_len q.2) (Nat.mul_le_mul_left 6 hq2)
    have hit : (rows.map fmtD)[i]? = some (Str.ofString " " ++ q.1 ++ Str.ofString "=\"" ++ escS q.2 ++ Str.ofString "\"") := by rw [List.getElem?_map, hq]; rfl
    dsimp only
    k_steps
    rename News h₀ L' _ _ => kN3
    rename Fr h₀ L' _ _ => kF3
    refine exI3 _ _ _ (anI7 rfl kF3 kN3 off (.inr ⟨_, .tail _ (.head _), rfl, _, rfl⟩) ?_ rfl)
    rw [take_snoc hit]
    exact strsAre_snoc hys
  case fin =>
    intro ys _ hz1_; (refine an2 hz1_ fun hys y1_ => ?_; clear hz1_; obtain rfl := y1_)
    k_steps
    rename News h₀ L' _ _ => kN2
    have hys2 : StrsAre ys (rows.map fmtD) := by rwa [List.take_of_length_le (by simp; k_room)] at hys
    have e2 : ((rows.map fmtD).map (·.length)).sum ≤ 4000 := by
      have := StrLaws.sumLen_le (B := 200) (rows.map fmtD) (by
        intro y hy
        (refine e1a2 (List.mem_map.mp hy) fun q hq y3_ => ?_; obtain rfl := y3_)
        (refine an2 (hrl q hq) fun h1 h2 => ?_)
        exact fmtD_le h1 h2)
      rw [List.length_map] at this
      k_room
    refine join_list (x := Str.ofString "") ⟨_, (kN2 _ (.head _)).1, rfl, _, rfl⟩ (by simpa using hys2) ?_ fun t' k => ?_
    · have e1 : (Str.ofString "").length = 0 := by decide +kernel
      rw [e1, Nat.mul_zero]
      k_room
    · rw [join_cat]
      have hcl : (catS (rows.map fmtD)).length ≤ 4000 := by rw [len_cat]; exact e2
      generalize catS (rows.map fmtD) = cc at *
      k_steps
      rename News h₀ L' _ _ => kN4
      rename Fr h₀ L' _ _ => kF4
      exact h _ _ _ kF4 (fun p hp => kN4 p (.tail _ hp))
end
section
example : True := by (k_with "32" => skip); trivial
open LCg
example : True := by (k_with "call ref" => (fail_if_success k_extra "33"); k_extra "st"); (k_with "eval Name" => (fail_if_success k_extra "33"); k_extra "en"); (k_with "eval ListComp" => (fail_if_success k_extra "33"); k_extra "c1"); (k_with "CompSrc" => (fail_if_success k_extra "33"); k_extra "st"); (k_with "call builtin:sorted" => (fail_if_success k_extra "33"); k_extra "st"); (k_with "call builtin:str.join" => (fail_if_success k_extra "33"); k_extra "st"); trivial
/-- an end tag as due writes it -/
noncomputable def endD (n : Str) : Str := Str.ofString "</" ++ n ++ Str.ofString ">"
theorem d_ret (h₀ : Heap) (L L' : Addr) (m : Str → Option Value) (s : Shared) (Q : Flow → Shared → Prop) (E : Value → Shared → Prop)
   (nm : Addr) (nmR : List Value) (n : Nat) (ns : List Str) (pgS : Str) (tp : Tok) (tl : List (Addr × Obj))
   (B : Below (ktrTop dp un gd cn cs L a ccd cl outer) base (envX cn cs L a ccd cl :: outer) h₀) (F : Fr h₀ L' s.heap m) (X : (hd.heap_39 w.params).In h₀) (N : News h₀ L' s.heap ((nm, listOf nmR.reverse.toArray n) :: tl))
   (T : Top p loose mean mg mb h₀) (hdp : dp + 400 < recursionLimit) (hun : un + 4000 < cLine) (hB : AllBare s.gens)
   (hs : StrsAre nmR ns) (hl2 : ns.length ≤ 20) (hrl : ∀ q ∈ ns, q.length ≤ 30) (hpl : pgS.length ≤ 100000) (mN : m (Str.ofString "names") = some (.ref nm)) (mP : m (Str.ofString "page") = some (.str pgS tp))
   (h : ∀ h' tk t, Fr h₀ L' h' m → News h₀ L' h' ((nm, listOf nmR.reverse.toArray n) :: tl) → Q (.ret (.str (pgS ++ catS (ns.map endD)) t)) { s with heap := h', toks := tk }) :
   wpAny (model PR w) ((ktrTop dp un gd cn cs L a ccd cl outer).deeper (dueE L')) (exec (nth dueB.1 5) (dueE L')) Q E s := by
  unfold dueE
  conv => arg 3; arg 1; whnf
  conv => arg 3; arg 2; arg 2; whnf
  conv => arg 2; arg 2; arg 2; whnf
  have hnl := strs_len hs
  have hpz : (List.reverse nmR).toArray.size ≤ 1000 := by simp; k_room
  have hsz : ((List.reverse nmR).toArray.size : Int) < 2 ^ 63 := by k_room
  have hlt : ∀ q ∈ (nm, listOf nmR.reverse.toArray n) :: tl, q.1 < s.heap.objs.size := fun q hq => Heap.lt_size (N q hq).1
  k_steps
  rename News h₀ L' _ _ => kN
  rename Fr h₀ L' _ m => kF
  rw [krv_pick] at kN
  dsimp only at kN
  rw [List.reverse_reverse] at kN
  have hml : nmR.toArray.size ≤ 1000 := by simp; k_room
  refine CompSrc.ledger rfl kF kN (.head _) (by rw [sizeLine_eq]; k_room) fun g' => ?_
  refine rest_inv (fun i ys nw => nw = _ ∧ StrsAre ys ((ns.map endD).take i)) ?_ ?_ ⟨rfl, .nil⟩
  · intro i v ys _ hi hv hz1_; (refine an2 hz1_ fun y1_ hys => ?_; clear hz1_; obtain rfl := y1_); intro I oI C oC D m₂ h tk E' hC hx2 F2 N2 off ne
    (refine ex2 (strs_at hs (i := i) (v := v) (by rw [← hv]; simp)) fun u tu w2_ => an2 w2_ fun hu y3_ => ?_; clear w2_; obtain rfl := y3_)
    have hul := hrl u (List.mem_of_getElem? hu)
    k_steps
    rename News h₀ L' _ _ => kN3
    rename Fr h₀ L' _ _ => kF3
    refine exI3 _ _ _ (anI7 rfl kF3 kN3 off (.inr ⟨_, .head _, rfl, _, rfl⟩) rfl ?_)
    rw [take_snoc (show (ns.map endD)[i]? = some (endD u) by rw [List.getElem?_map, hu]; rfl)]
    exact strsAre_snoc hys
  · intro ys _ hz1_; (refine an2 hz1_ fun y1_ hys => ?_; clear hz1_; obtain rfl := y1_)
    rw [List.take_of_length_le (by simp; k_room)] at hys
    unfold FinE
    intro D h4 tk4 F4 N4 off4
    k_steps
    rename News h₀ L' _ _ => kN5
    rename Fr h₀ L' _ _ => kF5
    have e2 : ((ns.map endD).map (·.length)).sum ≤ 1000 := by
      have := StrLaws.sumLen_le (B := 40) (ns.map endD) (by
        intro y hy
        (refine e1a2 (List.mem_map.mp hy) fun q hq y3_ => ?_; obtain rfl := y3_)
        have h1 := hrl q hq
        unfold endD
        simp only [Str.length_append]
        have l3 : (Str.ofString "</").length = 2 := by decide +kernel
        have l4 : (Str.ofString ">").length = 1 := by decide +kernel
        k_room)
      rw [List.length_map] at this
      k_room
    refine join_list (x := Str.ofString "") ⟨_, (kN5 _ (.head _)).1, rfl, _, rfl⟩ (by simpa using hys) ?_ fun t' k => ?_
    · have e1 : (Str.ofString "").length = 0 := by decide +kernel
      rw [e1, Nat.mul_zero]
      k_room
    · rw [join_cat]
      have hcl : (catS (ns.map endD)).length ≤ 1000 := by rw [len_cat]; exact e2
      generalize catS (ns.map endD) = cc at *
      k_steps
      rename News h₀ L' _ _ => kN4
      rename Fr h₀ L' _ _ => kF4
      exact h _ _ _ kF4 (fun p hp => kN4 p (.tail _ (.tail _ hp)))
end
section
example : True := by (k_with "33" => skip); trivial
theorem idx_le {u : Str} : ∀ {ks : List Str}, idx u ks ≤ ks.length
  | [] => Nat.le_refl _
  | k :: ks => by
    unfold idx
    have := idx_le (u := u) (ks := ks)
    split
    · lia
    · simp only [List.length_cons]; lia
theorem nmK_len {known : List Str} {u : Str} (h : known.length ≤ 30) : (nmK known u).length ≤ 10 := by
  have := idx_le (u := u) (ks := known)
  exact (nP_len _ (by lia)).2
theorem catS_len : ∀ (l : List Str), (catS l).length = (l.map (·.length)).sum := by
  intro l
  show (List.toArray _).size = _
  rw [List.size_toArray]
  induction l with
  | nil => rfl
  | cons x r ih =>
    rw [List.flatMap_cons, List.length_append, ih, List.map_cons, List.sum_cons]
    show x.cps.toList.length + _ = x.cps.size + _
    rw [Array.length_toList]
theorem stT_src {y : Str} {lw : List Str} : ∀ {ns t : List Str}, y ∈ stT t lw ns → y ∈ t ∨ ∃ n ∈ ns, y = uOf n
  | [], _, h => .inl h
  | n :: ns, t, h => by
    rcases stT_src (ns := ns) (t := addT t lw (uOf n)) h with h | ⟨n2, h, e⟩
    · unfold addT at h
      split at h
      · exact .inl h
      · rcases List.mem_append.mp h with h | h
        · exact .inl h
        · exact .inr ⟨n, .head _, by simpa using h⟩
    · exact .inr ⟨n2, .tail _ h, e⟩
theorem stT_len {lw : List Str} : ∀ {ns t : List Str}, (stT t lw ns).length ≤ t.length + ns.length
  | [], _ => Nat.le_refl _
  | n :: ns, t => by
    have h := stT_len (lw := lw) (ns := ns) (t := addT t lw (uOf n))
    have h2 : (addT t lw (uOf n)).length ≤ t.length + 1 := by unfold addT; split <;> simp
    show (stT (addT t lw (uOf n)) lw ns).length ≤ _
    simp only [List.length_cons]
    lia
theorem SF.len {x : Int} {known lw names : List Str} {krows arows : List (Str × Str)} (sf : SF x known lw names krows arows) : names.length = 5 := by rw [sf.1.length_eq]; rfl
theorem SF.rows {x : Int} {known lw names : List Str} {krows arows : List (Str × Str)} (sf : SF x known lw names krows arows) (hk : known.length ≤ 20) :
    (∀ q ∈ arows ++ itRows (stK known names) krows, q.1.length ≤ 20 ∧ q.2.length ≤ 20) ∧ (arows ++ itRows (stK known names) krows).length ≤ 9 := by
  have l1 := sf.len
  (refine an6 sf fun s1 s2 s3 s4 s5 s6 => ?_; try clear sf)
  have l2 := stK_len (ns := names) (known := known)
  have l3 := stT_len (lw := lw) (ns := names) (t := [])
  refine ⟨fun q hq => ?_, ?_⟩
  · rcases List.mem_append.mp hq with hq | hq
    · have := s5.mem_iff.mp hq
      (refine e1a2 (List.mem_map.mp this) fun z hz y3_ => ?_; obtain rfl := y3_)
      (refine e1a2 (List.mem_map.mp hz) fun y hy y3_ => ?_; obtain rfl := y3_)
      rcases stT_src hy with h | ⟨n, hn, rfl⟩
      · exact nomatch h
      · (refine ex1 (turn_names x n (s1.mem_iff.mp hn)) fun u w1_ => an2 w1_ fun hu w2_ => ex1 w2_ fun l w3_ => an2 w3_ fun hl e => ?_; clear w1_ w2_ w3_)
        have a1 := words_len u hu
        have a2 := nmK_len (known := stK known names) (u := uOf n) (by lia)
        have l1 : xmP.length = 6 := by decide +kernel
        show (xmP ++ nmK (stK known names) (uOf n)).length ≤ 20 ∧ (uOf n).length ≤ 20
        rw [Str.length_append, show uOf n = u by rw [e]; exact uOf_q hu hl]
        rw [show uOf n = u by rw [e]; exact uOf_q hu hl] at a2
        lia
    · (refine e1a2 (List.mem_map.mp hq) fun z hz y3_ => ?_; obtain rfl := y3_)
      have hz2 := s3.mem_iff.mp hz
      have a3 := attr_vals x z.2 (List.mem_map_of_mem hz2)
      (refine ex1 (turn_names x z.1 (.tail _ (List.mem_map_of_mem hz2))) fun u w1_ => an2 w1_ fun hu w2_ => ex1 w2_ fun l w3_ => an2 w3_ fun hl e => ?_; clear w1_ w2_ w3_)
      have a1 := nmK_len (known := stK known names) (u := uOf z.1) (by lia)
      have a2 := letters_len _ hl
      show (pnm (nmK (stK known names) (uOf z.1)) (lOf z.1)).length ≤ 20 ∧ z.2.length ≤ 20
      rw [show lOf z.1 = l by rw [e]; exact lOf_q hu hl]
      unfold pnm
      simp only [Str.length_append]
      have l1 : (Str.empty).length = 0 := rfl
      have l2 : (Str.ofString ":").length = 1 := by decide +kernel
      lia
  · rw [List.length_append, s5.length_eq]
    unfold itRows xmRows pairsOf
    simp only [List.length_map]
    rw [s3.length_eq]
    have : (attrRows x).length = 4 := rfl
    simp only [List.length_nil] at l3
    lia
theorem pnm_len {known : List Str} {u : Str} (h : known.length ≤ 30) : (pnm (nmK known u) tS).length ≤ 20 := by
  have a1 := nmK_len (known := known) (u := u) h
  unfold pnm
  simp only [Str.length_append]
  have l1 : (Str.empty).length = 0 := rfl
  have l2 : (Str.ofString ":").length = 1 := by decide +kernel
  have l3 : tS.length = 1 := by decide +kernel
  lia
theorem endS_len {known : List Str} {u : Str} (h : known.length ≤ 30) : (endS_ known u).length ≤ 30 := by
  have a1 := pnm_len (known := known) (u := u) h
  unfold endS_
  simp only [Str.length_append]
  have l1 : (Str.empty).length = 0 := rfl
  have l2 : (Str.ofString "</").length = 2 := by decide +kernel
  have l3 : (Str.ofString ">").length = 1 := by decide +kernel
  lia
theorem Told.small {xs : List Int} {known : List Str} {st : List (Str × List Str)} {pcs : List Str} (h : Told xs known st pcs) (hx : xs.length ≤ 4) : ∀ p ∈ pcs, p.length ≤ 2000 := by
  induction h with
  | nil => intro p hp; exact nomatch hp
  | @turn xs known st pcs x names krows arows h sf ih =>
    rw [List.length_append, List.length_cons, List.length_nil] at hx
    have ih := ih (by lia)
    (refine an3 h.bounds fun b1 b2 b3 => ?_)
    have hkl : known.length ≤ 20 := by lia
    have l1 := sf.len
    have l2 := stK_len (ns := names) (known := known)
    (refine an2 (sf.rows hkl) fun r1 r2 => ?_)
    intro p hp
    rcases List.mem_append.mp hp with hp | hp
    · rcases List.mem_append.mp hp with hp | hp
      · exact ih p hp
      · (refine e1a2 (List.mem_map.mp hp) fun e he y3_ => ?_; obtain rfl := y3_)
        exact Nat.le_trans (endS_len (by lia)) (by lia)
    · unfold startP at hp
      simp only [List.mem_cons, List.not_mem_nil, or_false] at hp
      rcases hp with rfl | rfl | rfl
      · have a1 := pnm_len (known := stK known names) (u := wordOf x) (by lia)
        rw [Str.length_append]
        have l2 : (Str.ofString "<").length = 1 := by decide +kernel
        lia
      · rw [catS_len]
        have := StrLaws.sumLen_le (B := 200) ((arows ++ itRows (stK known names) krows).map fmtRow) (by
          intro y hy
          (refine e1a2 (List.mem_map.mp hy) fun q hq y3_ => ?_; obtain rfl := y3_)
          exact ((fmtRow_le (r1 q hq).1 (r1 q hq).2)))
        rw [List.length_map] at this
        lia
      · have l2 : (Str.ofString ">").length = 1 := by decide +kernel
        lia
/-- told's page -/
noncomputable def pageOf (known : List Str) (st : List (Str × List Str)) (pcs : List Str) : Str := catS (pcs ++ st.map fun e => endS_ known e.1)
theorem Told.sum {xs : List Int} {known : List Str} {st : List (Str × List Str)} {pcs : List Str} (h : Told xs known st pcs) (hx : xs.length ≤ 4) : ((pcs ++ st.map fun e => endS_ known e.1).map (·.length)).sum ≤ 40000 ∧ (pcs ++ st.map fun e => endS_ known e.1).length ≤ 20 := by
  (refine an3 h.bounds fun b1 b2 b3 => ?_)
  have hl : (pcs ++ st.map fun e => endS_ known e.1).length ≤ 20 := by rw [List.length_append, List.length_map]; lia
  have := StrLaws.sumLen_le (B := 2000) (pcs ++ st.map fun e => endS_ known e.1) (by
    intro y hy
    rcases List.mem_append.mp hy with hy | hy
    · exact h.small hx y hy
    · (refine e1a2 (List.mem_map.mp hy) fun e he y3_ => ?_; obtain rfl := y3_)
      exact Nat.le_trans (endS_len (by lia)) (by lia))
  exact ⟨by lia, hl⟩
end
section
/-- one number, told by due: rows = the words' rows, dr = the declarations, ar = the attributes' rows -/
noncomputable def DTurn (x : Int) (known : List Str) (st : List (Str × List Str)) (pg : Str) (known' : List Str) (st' : List (Str × List Str)) (pg' : Str) : Prop :=
  ∃ (rows : List ((Int × Int) × Str)) (fr : List Str) (dr : List (Str × Str)) (ar : List ((Int × Int) × Str)), rows.Perm ((ysOf x).map rowY) ∧ SortedP rows ∧ known' = (rows.map (·.2)).foldl addK known ∧
    fr = (rows.map (·.2)).foldl (frK ((st.drop (closeN x st.length)).map (·.2)).reverse) [] ∧ dr.Perm (xmRows (fr.map fun u => (u, nmK known' u))) ∧ SortedR dr ∧ ar.Perm ((lrows x).map rowA) ∧ SortedP ar ∧
    st' = (nmK known' (wordOf x) ++ Str.ofString ":t", fr) :: st.drop (closeN x st.length) ∧
    pg' = endsD pg ((st.map (·.1)).take (closeN x st.length)) ++ Str.ofString "<" ++ (nmK known' (wordOf x) ++ Str.ofString ":t") ++ catS ((dr ++ ar.map (outA known' x)).map fmtD) ++ Str.ofString ">"
theorem ScAt.reverse {l : List (Addr × Obj)} {vs qs} (k : ScAt l vs qs) : ScAt l vs.reverse qs.reverse :=
  A2.ind (P := fun (vs : List Value) (qs : List (List Str)) => ScAt l vs.reverse qs.reverse) trivial (fun _ _ _ _ r _ ih => by rw [List.reverse_cons, List.reverse_cons]; exact A2.snoc r ih) k
theorem ScAt.drop {l : List (Addr × Obj)} {vs qs} (n : Nat) (k : ScAt l vs qs) : ScAt l (vs.drop n) (qs.drop n) := A2.drop n k
theorem strs_drop {vs : List Value} {xs : List Str} (h : StrsAre vs xs) : ∀ n, StrsAre (vs.drop n) (xs.drop n) := by
  induction h with
  | nil => intro n; simp; exact .nil
  | @cons x t vs xs h ih =>
    intro n
    cases n with
    | zero => exact .cons x t h
    | succ n => rw [List.drop_succ_cons, List.drop_succ_cons]; exact ih n
theorem foldK_mem {u : Str} : ∀ {ws known : List Str}, u ∈ ws ∨ u ∈ known → u ∈ ws.foldl addK known
  | [], known, h => h.resolve_left (fun h => nomatch h)
  | w :: ws, known, h => by
    refine foldK_mem (ws := ws) (known := addK known w) ?_
    rcases h with h | h
    · rcases List.mem_cons.mp h with rfl | h
      · exact .inr addK_mem
      · exact .inl h
    · exact .inr (addK_sub h)
theorem foldF_sub {scs : List (List Str)} {u : Str} : ∀ {ws fr : List Str}, u ∈ ws.foldl (frK scs) fr → u ∈ ws ∨ u ∈ fr
  | [], fr, h => .inr h
  | w :: ws, fr, h => by
    rcases foldF_sub (ws := ws) (fr := frK scs fr w) h with h | h
    · exact .inl (.tail _ h)
    · unfold frK at h
      split at h
      · rcases List.mem_append.mp h with h | h
        · exact .inr h
        · rw [List.mem_singleton.mp h]; exact .inl (.head _)
      · exact .inr h
theorem ysOf_rows {x y : Int} (hy : y ∈ ysOf x) {rows : List ((Int × Int) × Str)} (hp : rows.Perm ((ysOf x).map rowY)) : wordOf y ∈ rows.map (·.2) :=
  List.mem_map.mpr ⟨rowY y, hp.mem_iff.mpr (List.mem_map_of_mem hy), rfl⟩
theorem lrows_ys {x : Int} {q : Str × Int × Str} (h : q ∈ lrows x) : q.2.1 ∈ ysOf x := by
  simp only [lrows, List.mem_cons, List.not_mem_nil, or_false] at h
  rcases h with rfl | rfl | rfl | rfl <;> simp [ysOf]
theorem rows_words {x : Int} {rows : List ((Int × Int) × Str)} (hp : rows.Perm ((ysOf x).map rowY)) : ∀ u ∈ rows.map (·.2), u ∈ words := by
  intro u hu
  (refine e1a2 (List.mem_map.mp hu) fun q hq y3_ => ?_; obtain rfl := y3_)
  (refine e1a2 (List.mem_map.mp (hp.mem_iff.mp hq)) fun y _ y3_ => ?_; obtain rfl := y3_)
  exact wordOf_mem y
theorem lrows_val {x : Int} {q : Str × Int × Str} (h : q ∈ lrows x) : q.1.length ≤ 1 ∧ q.2.2.length ≤ 20 := by
  simp only [lrows, List.mem_cons, List.not_mem_nil, or_false] at h
  rcases h with rfl | rfl | rfl | rfl
  · exact ⟨show (Str.ofString "d").length ≤ 1 by decide +kernel, show 1 ≤ 20 by decide⟩
  · exact ⟨show (Str.ofString "c").length ≤ 1 by decide +kernel, show 1 ≤ 20 by decide⟩
  · exact ⟨show (Str.ofString "b").length ≤ 1 by decide +kernel, show 1 ≤ 20 by decide⟩
  · exact ⟨show (Str.ofString "a").length ≤ 1 by decide +kernel, show fullS.length ≤ 20 by decide +kernel⟩
theorem due_turn (h₀ : Heap) (L L' : Addr) (m : Str → Option Value) (s : Shared) (Q : Flow → Shared → Prop) (E : Value → Shared → Prop)
   (kn sc nm : Addr) (ok ow : Obj) (kv : Array Value) (nk n1 n2 : Nat) (scR nmR : List Value) (x : Int) (tx tp : Tok) (known : List Str) (st : List (Str × List Str)) (pg : Str) (rest : List (Addr × Obj))
   (B : Below (ktrTop dp un gd cn cs L a ccd cl outer) base (envX cn cs L a ccd cl :: outer) h₀) (F : Fr h₀ L' s.heap m) (X : (hd.heap_39 w.params).In h₀) (N : News h₀ L' s.heap ((L' + 1, ok) :: (L' + 2, ow) :: (kn, listOf kv nk) :: (sc, listOf scR.reverse.toArray n1) :: (nm, listOf nmR.reverse.toArray n2) :: rest))
   (T : Top p loose mean mg mb h₀) (hdp : dp + 400 < recursionLimit) (hun : un + 4000 < cLine) (hB : AllBare s.gens)
   (hk : ok.data = .cell (some (.ref kn))) (hw : ∃ c, ow.data = .cell c) (hks : StrsAre kv.toList known) (hkl : known.length ≤ 20) (hsS : ScAt rest scR (st.map (·.2))) (hnS : StrsAre nmR (st.map (·.1))) (hnl : ∀ e ∈ st, e.1.length ≤ 30) (hst : st.length ≤ 10) (hpl : pg.length ≤ 50000)
   (hnd : @Ne Nat sc nm ∧ @Ne Nat kn sc ∧ @Ne Nat kn nm) (hr : ∀ q ∈ rest, @Ne Nat q.1 (L' + 1) ∧ @Ne Nat q.1 (L' + 2) ∧ @Ne Nat q.1 kn ∧ @Ne Nat q.1 sc ∧ @Ne Nat q.1 nm)
   (mX : m (Str.ofString "x") = some (.int x tx)) (mS : m (Str.ofString "scopes") = some (.ref sc)) (mN : m (Str.ofString "names") = some (.ref nm)) (mP : m (Str.ofString "page") = some (.str pg tp))
   (h : ∀ known' st' pg' rest' ow' kv' nk' scR' n1' nmR' n2' tp' h' tk gens drw m', DTurn x known st pg known' st' pg' → StrsAre kv'.toList known' → (∃ c, ow'.data = .cell c) → ScAt rest' scR' (st'.map (·.2)) → StrsAre nmR' (st'.map (·.1)) → (∀ q ∈ rest, q ∈ rest') → (∀ q ∈ rest', @Ne Nat q.1 (L' + 1) ∧ @Ne Nat q.1 (L' + 2) ∧ @Ne Nat q.1 kn ∧ @Ne Nat q.1 sc ∧ @Ne Nat q.1 nm) → m' (Str.ofString "page") = some (.str pg' tp') → (∀ y, y ∉ [Str.ofString "k", Str.ofString "page", Str.ofString "pairs", Str.ofString "fresh", Str.ofString "place", Str.ofString "rows", Str.ofString "letter", Str.ofString "value"] → m' y = m y) → AllBare gens → Fr h₀ L' h' m' → News h₀ L' h' ((L' + 1, ok) :: (L' + 2, ow') :: (kn, listOf kv' nk') :: (sc, listOf scR'.reverse.toArray n1') :: (nm, listOf nmR'.reverse.toArray n2') :: rest') → Q .next { s with heap := h', toks := tk, gens := gens, drawn := drw }) :
   wpAny (model PR w) ((ktrTop dp un gd cn cs L a ccd cl outer).deeper (dueE L')) (execs (dueF.1.drop 0) (dueE L')) Q E s := by
  (refine ex1 hw fun cw hcw => ?_; try clear hw)
  have n12 : @Ne Nat (L' + 1) (L' + 2) := Nat.ne_of_lt (Nat.lt_succ_self _)
  have nK1 : @Ne Nat kn (L' + 1) := news_ne N (.tail _ (.tail _ (.head _))) (.head _) (cell_ne hk)
  have nK2 : @Ne Nat kn (L' + 2) := news_ne N (.tail _ (.tail _ (.head _))) (.tail _ (.head _)) (cell_ne hcw)
  have nS1 : @Ne Nat sc (L' + 1) := news_ne N (.tail _ (.tail _ (.tail _ (.head _)))) (.head _) (cell_ne hk)
  have nS2 : @Ne Nat sc (L' + 2) := news_ne N (.tail _ (.tail _ (.tail _ (.head _)))) (.tail _ (.head _)) (cell_ne hcw)
  have nN1 : @Ne Nat nm (L' + 1) := news_ne N (.tail _ (.tail _ (.tail _ (.tail _ (.head _))))) (.head _) (cell_ne hk)
  have nN2 : @Ne Nat nm (L' + 2) := news_ne N (.tail _ (.tail _ (.tail _ (.tail _ (.head _))))) (.tail _ (.head _)) (cell_ne hcw)
  have hsl := hsS.len
  rw [List.length_map] at hsl
  have hcl : closeN x st.length ≤ st.length := Nat.le_trans (Nat.min_le_right _ _) (Nat.sub_le _ _)
  have hns30 : ∀ n ∈ st.map (·.1), n.length ≤ 30 := fun n hn => by (refine e1a2 (List.mem_map.mp hn) fun e he y3_ => ?_; obtain rfl := y3_); exact hnl e he
  refine execs_at 0 (by decide) ?_
  refine e_ends w p loose mean mg mb base dp un gd cn cs a ccd cl outer h₀ L L' _ _ _ _ sc nm scR nmR n1 n2 x tx tp (st.map (·.1)) pg ((L' + 1, ok) :: (L' + 2, ow) :: (kn, listOf kv nk) :: rest) B F X ?N0 T hdp hun hB hnS hns30 (by rw [List.length_map]; exact hsl) (by rw [List.length_map]; k_room) (by k_room) hnd.1 ?hnt mX mS mN mP ?_
  case N0 =>
    intro q hq
    refine N q ?_
    revert q
    k_data
  case hnt =>
    refine fmc ?_ (fmc ?_ (fmc ?_ (fun q hq => ?_)))
    · exact ⟨Ne.symm nS1, Ne.symm nN1⟩
    · exact ⟨Ne.symm nS2, Ne.symm nN2⟩
    · exact hnd.2
    · exact ⟨(hr q hq).2.2.2.1, (hr q hq).2.2.2.2⟩
  rw [List.length_map]
  intro n1a n2a tp1 h1 tk1 gens1 dr1 m1 hp1 hm1 hB1 F1 N1
  dsimp only
  have hpl1 : (endsD pg ((st.map (·.1)).take (closeN x st.length))).length ≤ 60000 := by
    have h1 := endsD_len (p := pg) (ns := (st.map (·.1)).take (closeN x st.length)) fun n hn => hns30 n (List.mem_of_mem_take hn)
    have h2 := List.length_take_le' (closeN x st.length) (st.map (·.1))
    rw [List.length_map] at h2
    k_room
  have mX1 := (hm1 (Str.ofString "x") (by decide +kernel) (by decide +kernel)).trans mX
  have mS1 := (hm1 (Str.ofString "scopes") (by decide +kernel) (by decide +kernel)).trans mS
  have mN1 := (hm1 (Str.ofString "names") (by decide +kernel) (by decide +kernel)).trans mN
  refine hide ((scR.drop (closeN x st.length)).reverse.toArray) fun sv hsv => ?_
  refine hide ((nmR.drop (closeN x st.length)).reverse.toArray) fun nv hnv => ?_
  rw [← hsv, ← hnv] at N1
  have hsvz : sv.size ≤ 20 := by rw [hsv]; simp; k_room
  have hnvz : nv.size ≤ 20 := by
    have h0 := strs_len hnS
    rw [List.length_map] at h0
    rw [hnv]; simp; k_room
  refine execs_at 1 (by decide) ?_
  refine e_pairs w p loose mean mg mb base dp un gd cn cs a ccd cl outer h₀ L L' _ _ _ _ x tx _ B F1 X N1 T hdp hun hB1 mX1 ?_
  intro D1 D2 D3 D4 l n a1 a2 a3 b1 b2 b3 c1 c2 c3 d1 d2 d3 h2 tk2 i1 i2 i3 i4 lD F2 N2
  dsimp only
  refine execs_at 2 (by decide) ?_
  refine e_fresh w p loose mean mg mb base dp un gd cn cs a ccd cl outer h₀ L L' _ _ _ _ _ B F2 X N2 T hdp hun hB1 ?_
  intro fr nf h3 tk3 lF F3 N3
  dsimp only
  have lD' : ∀ z ∈ ([D1, D2, D3, D4, l] : List Nat), ∀ q ∈ (sc, listOf sv n1a) :: (nm, listOf nv n2a) :: (L' + 1, ok) :: (L' + 2, ow) :: (kn, listOf kv nk) :: rest, @LT.lt Nat _ q.1 z := by
    intro z hz q hq
    have k1 := lD q hq
    have k2 := Nat.lt_trans k1 i1
    have k3 := Nat.lt_trans k2 i2
    have k4 := Nat.lt_trans k3 i3
    have k5 := Nat.lt_trans k4 i4
    revert z; refine fmc ?_ (fmc ?_ (fmc ?_ (fmc ?_ (fmc ?_ (fun _ h => nomatch h)))))
    · exact k1
    · exact k2
    · exact k3
    · exact k4
    · exact k5
  have lB : ∀ z ∈ ([D1, D2, D3, D4, l] : List Nat), @Ne Nat z (L' + 1) ∧ @Ne Nat z (L' + 2) ∧ @Ne Nat z kn ∧ @Ne Nat z sc ∧ @Ne Nat z nm := fun z hz =>
    ⟨Nat.ne_of_gt (lD' z hz (L' + 1, ok) (by k_data)), Nat.ne_of_gt (lD' z hz (L' + 2, ow) (by k_data)), Nat.ne_of_gt (lD' z hz (kn, listOf kv nk) (by k_data)), Nat.ne_of_gt (lD' z hz (sc, listOf sv n1a) (by k_data)), Nat.ne_of_gt (lD' z hz (nm, listOf nv n2a) (by k_data))⟩
  have fB : @Ne Nat fr (L' + 1) ∧ @Ne Nat fr (L' + 2) ∧ @Ne Nat fr kn ∧ @Ne Nat fr sc ∧ @Ne Nat fr nm :=
    ⟨Nat.ne_of_gt (lF (L' + 1, ok) (by k_data)), Nat.ne_of_gt (lF (L' + 2, ow) (by k_data)), Nat.ne_of_gt (lF (kn, listOf kv nk) (by k_data)), Nat.ne_of_gt (lF (sc, listOf sv n1a) (by k_data)), Nat.ne_of_gt (lF (nm, listOf nv n2a) (by k_data))⟩
  have fD : ∀ z ∈ ([D1, D2, D3, D4, l] : List Nat), @Ne Nat z fr := by
    refine fmc ?_ (fmc ?_ (fmc ?_ (fmc ?_ (fmc ?_ (fun _ h => nomatch h)))))
    · exact Nat.ne_of_lt (lF _ (.tail _ (.tail _ (.tail _ (.tail _ (.head _))))))
    · exact Nat.ne_of_lt (lF _ (.tail _ (.tail _ (.tail _ (.head _)))))
    · exact Nat.ne_of_lt (lF _ (.tail _ (.tail _ (.head _))))
    · exact Nat.ne_of_lt (lF _ (.tail _ (.head _)))
    · exact Nat.ne_of_lt (lF _ (.head _))
  have fR : ∀ q ∈ rest, @Ne Nat q.1 fr := fun q hq => Nat.ne_of_lt (lF q (by k_data))
  refine execs_at 3 (by decide) ?_
  refine e_words w p loose mean mg mb base dp un gd cn cs a ccd cl outer h₀ L L' _ _ _ _ l D1 D2 D3 D4 n a1 a2 a3 b1 b2 b3 c1 c2 c3 d1 d2 d3 x tx ((nm, listOf nv n2a) :: rest) kn fr sc kv sv nk nf n1a ok ow known ((st.drop (closeN x st.length)).map (·.2)).reverse B F3 X ?N3 T hdp hun hB1 ?mX ?mP ?mS ?mF hk ⟨cw, hcw⟩ hks (by k_room) ?hsc ?hsl ⟨Ne.symm fB.2.2.1, Ne.symm hnd.2.1, Ne.symm fB.2.2.2.1⟩ ?hnt3 ?_
  case N3 =>
    intro q hq
    refine N3 q ?_
    revert q
    k_data
  case mX => exact (if_neg (by decide +kernel)).trans ((if_neg (by decide +kernel)).trans mX1)
  case mP => exact (if_neg (by decide +kernel)).trans (if_pos rfl)
  case mS => exact (if_neg (by decide +kernel)).trans ((if_neg (by decide +kernel)).trans mS1)
  case mF => exact if_pos rfl
  case hsc =>
    rw [hsv]
    have h0 := (hsS.drop (closeN x st.length)).reverse
    rw [← List.map_drop] at h0
    exact h0.mono fun _ hq => .tail _ hq
  case hsl => rw [List.length_reverse, List.length_map, List.length_drop]; k_room
  case hnt3 =>
    intro q hq
    simp only [List.mem_cons] at hq
    have up : ∀ z ∈ ([D1, D2, D3, D4, l] : List Nat), @Ne Nat z kn ∧ @Ne Nat z fr ∧ @Ne Nat z (L' + 1) ∧ @Ne Nat z (L' + 2) := fun z hz => ⟨(lB z hz).2.2.1, fD z hz, (lB z hz).1, (lB z hz).2.1⟩
    rcases hq with rfl | rfl | rfl | rfl | rfl | rfl | hq
    · exact up _ (by k_data)
    · exact up _ (by k_data)
    · exact up _ (by k_data)
    · exact up _ (by k_data)
    · exact up _ (by k_data)
    · exact ⟨Ne.symm hnd.2.2, anI3 (Ne.symm fB.2.2.2.2) nN1 nN2⟩
    · exact ⟨(hr q hq).2.2.1, anI3 (fR q hq) ((hr q hq).1) ((hr q hq).2.1)⟩
  intro rows kv4 nk4 fv nf4 ow4 h4 tk4 gens4 dr4 m4 hpm hsr hkv hfv hw4 hm4 hB4 F4 N4
  dsimp only
  have m4X : m4 (Str.ofString "x") = some (.int x tx) := (hm4 _ (by decide +kernel)).trans ((if_neg (by decide +kernel)).trans ((if_neg (by decide +kernel)).trans mX1))
  have m4P : m4 (Str.ofString "pairs") = some (.ref l) := (hm4 _ (by decide +kernel)).trans ((if_neg (by decide +kernel)).trans (if_pos rfl))
  have m4S : m4 (Str.ofString "scopes") = some (.ref sc) := (hm4 _ (by decide +kernel)).trans ((if_neg (by decide +kernel)).trans ((if_neg (by decide +kernel)).trans mS1))
  have m4N : m4 (Str.ofString "names") = some (.ref nm) := (hm4 _ (by decide +kernel)).trans ((if_neg (by decide +kernel)).trans ((if_neg (by decide +kernel)).trans mN1))
  have m4F : m4 (Str.ofString "fresh") = some (.ref fr) := (hm4 _ (by decide +kernel)).trans (if_pos rfl)
  have m4G : m4 (Str.ofString "page") = some (.str (endsD pg ((st.map (·.1)).take (closeN x st.length))) tp1) := (hm4 _ (by decide +kernel)).trans ((if_neg (by decide +kernel)).trans ((if_neg (by decide +kernel)).trans hp1))
  have hwl : (rows.map (·.2)).length = 5 := by rw [List.length_map, hpm.length_eq]; rfl
  refine hide ((rows.map (·.2)).foldl addK known) fun known' hkn => ?_
  refine hide ((rows.map (·.2)).foldl (frK ((st.drop (closeN x st.length)).map (·.2)).reverse) []) fun fresh hfr => ?_
  rw [← hkn] at hkv
  rw [← hfr] at hfv
  have hkl' : known'.length ≤ 30 := by
    have := foldl_len (f := addK) (fun _ _ => addK_len) (rows.map (·.2)) known
    rw [hkn]; k_room
  have hfl : fresh.length ≤ 5 := by
    have := foldl_len (f := frK ((st.drop (closeN x st.length)).map (·.2)).reverse) (fun k u => frK_len k u) (rows.map (·.2)) []
    rw [hfr]; simp only [List.length_nil] at this; k_room
  have hyk : ∀ y ∈ ysOf x, wordOf y ∈ known' := fun y hy => by rw [hkn]; exact foldK_mem (.inl (ysOf_rows hy hpm))
  have hfk : ∀ u ∈ fresh, u ∈ rows.map (·.2) := fun u hu => by
    rw [hfr] at hu
    exact (foldF_sub hu).resolve_right (fun h => nomatch h)
  have hfk' : ∀ u ∈ fresh, u ∈ known' := fun u hu => by rw [hkn]; exact foldK_mem (.inl (hfk u hu))
  have hxk := hyk x (.head _)
  refine execs_at 4 (by decide) ?_
  refine e_scopes w p loose mean mg mb base dp un gd cn cs a ccd cl outer h₀ L L' _ _ _ _ sc fr sv n1a ((L' + 1, ok) :: (L' + 2, ow4) :: (kn, listOf kv4 nk4) :: (fr, listOf fv nf4) :: (l, listOf #[.ref D1, .ref D2, .ref D3, .ref D4] n) :: (D4, tupP (Str.ofString "a") a1 94 a2 fullS a3) :: (D3, tupP (Str.ofString "b") b1 33 b2 (chS (loC x)) b3) :: (D2, tupP (Str.ofString "c") c1 (x + 128) c2 (chS (wdC x)) c3) :: (D1, tupP (Str.ofString "d") d1 (hiN x) d2 (chS (hiN x)) d3) :: (nm, listOf nv n2a) :: rest) B F4 X ?N4 T hdp hun hB4 (by k_room) ?hnt4 m4S m4F ?_
  case N4 =>
    intro q hq
    refine N4 q ?_
    revert q
    k_data
  case hnt4 =>
    refine fmc ?_ (fmc ?_ (fmc ?_ (fmc ?_ (fmc ?_ (fmc ?_ (fmc ?_ (fmc ?_ (fmc ?_ (fmc ?_ (fun q hq => ?_))))))))))
    · exact Ne.symm nS1
    · exact Ne.symm nS2
    · exact hnd.2.1
    · exact fB.2.2.2.1
    · exact (lB _ (by k_data)).2.2.2.1
    · exact (lB _ (by k_data)).2.2.2.1
    · exact (lB _ (by k_data)).2.2.2.1
    · exact (lB _ (by k_data)).2.2.2.1
    · exact (lB _ (by k_data)).2.2.2.1
    · exact Ne.symm hnd.1
    · exact (hr q hq).2.2.2.1
  intro n1b h5 tk5 F5 N5
  dsimp only
  refine execs_at 5 (by decide) ?_
  refine e_names w p loose mean mg mb base dp un gd cn cs a ccd cl outer h₀ L L' _ _ _ _ nm kn nv kv4 n2a nk4 x tx ok known' ((L' + 2, ow4) :: (fr, listOf fv nf4) :: (sc, listOf (sv.push (.ref fr)) n1b) :: (l, listOf #[.ref D1, .ref D2, .ref D3, .ref D4] n) :: (D4, tupP (Str.ofString "a") a1 94 a2 fullS a3) :: (D3, tupP (Str.ofString "b") b1 33 b2 (chS (loC x)) b3) :: (D2, tupP (Str.ofString "c") c1 (x + 128) c2 (chS (wdC x)) c3) :: (D1, tupP (Str.ofString "d") d1 (hiN x) d2 (chS (hiN x)) d3) :: rest) B F5 X ?N5 T hdp hun hB4 hk hkv hkl' hxk (by k_room) (Ne.symm hnd.2.2) (Ne.symm nN1) ?hnt5 m4X m4N ?_
  case N5 =>
    intro q hq
    refine N5 q ?_
    revert q
    k_data
  case hnt5 =>
    refine fmc ?_ (fmc ?_ (fmc ?_ (fmc ?_ (fmc ?_ (fmc ?_ (fmc ?_ (fmc ?_ (fun q hq => ?_))))))))
    · exact Ne.symm nN2
    · exact fB.2.2.2.2
    · exact hnd.1
    · exact (lB _ (by k_data)).2.2.2.2
    · exact (lB _ (by k_data)).2.2.2.2
    · exact (lB _ (by k_data)).2.2.2.2
    · exact (lB _ (by k_data)).2.2.2.2
    · exact (lB _ (by k_data)).2.2.2.2
    · exact (hr q hq).2.2.2.2
  intro n2b tN h6 tk6 F6 N6
  dsimp only
  refine execs_at 6 (by decide) ?_
  refine e_rows w p loose mean mg mb base dp un gd cn cs a ccd cl outer h₀ L L' _ _ _ _ kn fr kv4 fv nk4 nf4 ok known' fresh ((L' + 2, ow4) :: (nm, listOf (nv.push (.str (nmK known' (wordOf x) ++ Str.ofString ":t") tN)) n2b) :: (sc, listOf (sv.push (.ref fr)) n1b) :: (l, listOf #[.ref D1, .ref D2, .ref D3, .ref D4] n) :: (D4, tupP (Str.ofString "a") a1 94 a2 fullS a3) :: (D3, tupP (Str.ofString "b") b1 33 b2 (chS (loC x)) b3) :: (D2, tupP (Str.ofString "c") c1 (x + 128) c2 (chS (wdC x)) c3) :: (D1, tupP (Str.ofString "d") d1 (hiN x) d2 (chS (hiN x)) d3) :: rest) B F6 X ?N6 T hdp hun hB4 hk hkv hkl' hfv hfl hfk' m4F ?_
  case N6 =>
    intro q hq
    refine N6 q ?_
    revert q
    k_data
  intro rw_ vs dr c ex h7 tk7 hdpm hds hdpa hexr hdl F7 N7
  dsimp only
  have rB : ∀ z ∈ (rw_, listOf vs.toArray c) :: ex, @Ne Nat z.1 (L' + 1) ∧ @Ne Nat z.1 (L' + 2) ∧ @Ne Nat z.1 kn ∧ ∀ q ∈ (l, listOf #[.ref D1, .ref D2, .ref D3, .ref D4] n) :: (D4, tupP (Str.ofString "a") a1 94 a2 fullS a3) :: (D3, tupP (Str.ofString "b") b1 33 b2 (chS (loC x)) b3) :: (D2, tupP (Str.ofString "c") c1 (x + 128) c2 (chS (wdC x)) c3) :: (D1, tupP (Str.ofString "d") d1 (hiN x) d2 (chS (hiN x)) d3) :: rest, @LT.lt Nat _ q.1 z.1 := fun z hz =>
    ⟨Nat.ne_of_gt (hdl z hz (L' + 1, ok) (by k_data)), Nat.ne_of_gt (hdl z hz (L' + 2, ow4) (by k_data)), Nat.ne_of_gt (hdl z hz (kn, listOf kv4 nk4) (by k_data)), fun q hq => hdl z hz q (by
      revert q
      k_data)⟩
  have rL : ∀ q ∈ (fr, listOf fv nf4) :: (nm, listOf (nv.push (.str (nmK known' (wordOf x) ++ Str.ofString ":t") tN)) n2b) :: (sc, listOf (sv.push (.ref fr)) n1b) :: rest, @LT.lt Nat _ q.1 rw_ := fun q hq => hdl (rw_, listOf vs.toArray c) (.head _) q (by
    revert q
    k_data)
  refine execs_at 7 (by decide) ?_
  refine e_attrs w p loose mean mg mb base dp un gd cn cs a ccd cl outer h₀ L L' _ _ _ _ l D1 D2 D3 D4 n a1 a2 a3 b1 b2 b3 c1 c2 c3 d1 d2 d3 x tx ((fr, listOf fv nf4) :: (nm, listOf (nv.push (.str (nmK known' (wordOf x) ++ Str.ofString ":t") tN)) n2b) :: (sc, listOf (sv.push (.ref fr)) n1b) :: (ex ++ rest)) kn rw_ kv4 vs.toArray nk4 c ok ow4 known' B F7 X ?N7 T hdp hun hB4 ?mP7 ?mR7 hk hw4 hkv hkl' (fun q hq => hyk _ (lrows_ys hq)) ?hz7 (Ne.symm (rB _ (.head _)).2.2.1) ?hnt7 ?_
  case N7 =>
    intro q hq
    refine N7 q ?_
    revert q
    k_data
  case mP7 => exact (if_neg (by decide +kernel)).trans m4P
  case mR7 => exact if_pos rfl
  case hz7 => rw [List.size_toArray, hdpa.len, hdpm.length_eq]; simp [xmRows]; k_room
  case hnt7 =>
    intro q hq
    simp only [List.mem_cons, List.mem_append] at hq
    have r0 := (rB _ (.head _)).2.2.2
    rcases hq with rfl | rfl | rfl | rfl | rfl | rfl | rfl | rfl | hq | hq
    · exact ⟨Nat.ne_of_lt (r0 _ (.head _)), (lB l (by k_data)).1, (lB l (by k_data)).2.1⟩
    · exact ⟨Nat.ne_of_lt (r0 _ (.tail _ (.head _))), (lB D4 (by k_data)).1, (lB D4 (by k_data)).2.1⟩
    · exact ⟨Nat.ne_of_lt (r0 _ (.tail _ (.tail _ (.head _)))), (lB D3 (by k_data)).1, (lB D3 (by k_data)).2.1⟩
    · exact ⟨Nat.ne_of_lt (r0 _ (.tail _ (.tail _ (.tail _ (.head _))))), (lB D2 (by k_data)).1, (lB D2 (by k_data)).2.1⟩
    · exact ⟨Nat.ne_of_lt (r0 _ (.tail _ (.tail _ (.tail _ (.tail _ (.head _)))))), (lB D1 (by k_data)).1, (lB D1 (by k_data)).2.1⟩
    · exact ⟨Nat.ne_of_lt (rL _ (.head _)), fB.1, fB.2.1⟩
    · exact ⟨Nat.ne_of_lt (rL _ (.tail _ (.head _))), nN1, nN2⟩
    · exact ⟨Nat.ne_of_lt (rL _ (.tail _ (.tail _ (.head _)))), nS1, nS2⟩
    · exact ⟨Nat.ne_of_lt (hexr q hq), (rB q (.tail _ hq)).1, (rB q (.tail _ hq)).2.1⟩
    · exact ⟨Nat.ne_of_lt (rL _ (.tail _ (.tail _ (.tail _ hq)))), (hr q hq).1, (hr q hq).2.1⟩
  intro ar vals rv' nr' ow8 ex2 h8 tk8 gens8 dr8 m8 hap has hrv hps2 hex2 hw8 hm8 hB8 F8 N8
  dsimp only
  have hnm : (nmK known' (wordOf x) ++ Str.ofString ":t").length ≤ 30 := by
    have h1 := nmK_len (known := known') (u := wordOf x) hkl'
    have h2 : (Str.ofString ":t").length = 2 := by decide +kernel
    rw [Str.length_append]; k_room
  refine execs_at 8 (by decide) ?_
  refine e_page w p loose mean mg mb base dp un gd cn cs a ccd cl outer h₀ L L' _ _ _ _ nm rw_ (nv.push (.str (nmK known' (wordOf x) ++ Str.ofString ":t") tN)) rv' n2b nr' (dr ++ ar.map (outA known' x)) (endsD pg ((st.map (·.1)).take (closeN x st.length))) (nmK known' (wordOf x) ++ Str.ofString ":t") tp1 tN ((L' + 1, ok) :: (L' + 2, ow8) :: (kn, listOf kv4 nk4) :: (fr, listOf fv nf4) :: (sc, listOf (sv.push (.ref fr)) n1b) :: (l, listOf #[.ref D1, .ref D2, .ref D3, .ref D4] n) :: (D4, tupP (Str.ofString "a") a1 94 a2 fullS a3) :: (D3, tupP (Str.ofString "b") b1 33 b2 (chS (loC x)) b3) :: (D2, tupP (Str.ofString "c") c1 (x + 128) c2 (chS (wdC x)) c3) :: (D1, tupP (Str.ofString "d") d1 (hiN x) d2 (chS (hiN x)) d3) :: (ex2 ++ (ex ++ rest))) B F8 X ?N8 T hdp hun hB8 ?hps ?hl8 ?hrl (by k_room) hnm (by simp) (by simp) (by rw [Array.size_push]; k_room) ?mR8 ?mN8 ?mP8 ?_
  case N8 =>
    intro q hq
    refine N8 q ?_
    revert q
    k_data
  case hps =>
    rw [hrv]
    refine PairsAt.app (hdpa.mono fun q hq => ?_) (hps2.mono fun q hq => ?_)
    · k_data
    · k_data
  case hl8 =>
    rw [List.length_append, List.length_map, hdpm.length_eq, hap.length_eq]
    simp [xmRows, lrows]; k_room
  case hrl =>
    intro q hq
    rcases List.mem_append.mp hq with hq | hq
    · have h0 := hdpm.mem_iff.mp hq
      unfold xmRows at h0
      (refine e1a2 (List.mem_map.mp h0) fun q1 h1 y3_ => ?_; obtain rfl := y3_)
      (refine e1a2 (List.mem_map.mp h1) fun u hu y3_ => ?_; obtain rfl := y3_)
      have h2 := nmK_len (known := known') (u := u) hkl'
      have h3 : xmP.length = 6 := by decide +kernel
      have h4 := words_len _ (rows_words hpm u (hfk u hu))
      refine ⟨?_, ?_⟩
      · show (xmP ++ nmK known' u).length ≤ 20
        rw [Str.length_append]; k_room
      · show u.length ≤ 20
        k_room
    · (refine e1a2 (List.mem_map.mp hq) fun q1 h1 y3_ => ?_; obtain rfl := y3_)
      (refine e1a2 (List.mem_map.mp (hap.mem_iff.mp h1)) fun q2 h2 y3_ => ?_; obtain rfl := y3_)
      have h3 := fA_at h2
      have h4 := lrows_val h2
      have h5 := nmK_len (known := known') (u := wordOf q2.2.1) hkl'
      have h6 : (Str.ofString ":").length = 1 := by decide +kernel
      unfold outA
      rw [show (rowA q2).2 = q2.1 from rfl, h3]
      refine ⟨?_, h4.2⟩
      show (nmK known' (wordOf q2.2.1) ++ Str.ofString ":" ++ q2.1).length ≤ 20
      rw [Str.length_append, Str.length_append]; k_room
  case mR8 => exact (hm8 _ (by decide +kernel)).trans (if_pos rfl)
  case mN8 => exact (hm8 _ (by decide +kernel)).trans ((if_neg (by decide +kernel)).trans m4N)
  case mP8 => exact (hm8 _ (by decide +kernel)).trans ((if_neg (by decide +kernel)).trans m4G)
  intro h9 tk9 tP F9 N9
  dsimp only
  refine execs_end 9 (by decide) ?_
  have es : sv.push (.ref fr) = (Value.ref fr :: scR.drop (closeN x st.length)).reverse.toArray := by rw [hsv]; simp
  have en : nv.push (.str (nmK known' (wordOf x) ++ Str.ofString ":t") tN) = (Value.str (nmK known' (wordOf x) ++ Str.ofString ":t") tN :: nmR.drop (closeN x st.length)).reverse.toArray := by rw [hnv]; simp
  rw [es, en] at N9
  refine h known' ((nmK known' (wordOf x) ++ Str.ofString ":t", fresh) :: st.drop (closeN x st.length)) _ ((fr, listOf fv nf4) :: rest) ow8 kv4 nk4 (Value.ref fr :: scR.drop (closeN x st.length)) n1b (Value.str (nmK known' (wordOf x) ++ Str.ofString ":t") tN :: nmR.drop (closeN x st.length)) n2b tP h9 tk9 gens8 dr8 _ ⟨rows, fresh, dr, ar, hpm, hsr, hkn, hfr, hdpm, hds, hap, has, rfl, rfl⟩ hkv hw8 ?_ ?_ (fun q hq => .tail _ hq) ?_ (if_pos rfl) ?_ hB8 F9 ?_
  · refine ⟨⟨fr, fv, nf4, rfl, .head _, hfv⟩, ?_⟩
    rw [List.map_drop]
    exact (hsS.drop _).mono fun _ hq => .tail _ hq
  · rw [List.map_cons, List.map_drop]
    exact .cons _ _ (strs_drop hnS _)
  · intro q hq
    rcases List.mem_cons.mp hq with rfl | hq
    · exact fB
    · exact hr q hq
  · intro y hy
    simp only [List.mem_cons, List.not_mem_nil, or_false, not_or] at hy
    (refine an8 hy fun y1 y2 y3 y4 y5 y6 y7 y8 => ?_; try clear hy)
    rw [if_neg y2, hm8 y (by simp only [List.mem_cons, List.not_mem_nil, or_false, not_or]; exact ⟨y5, y7, y8⟩), if_neg y6, hm4 y y5, if_neg y4, if_neg y3]
    exact hm1 y y1 y2
  · intro q hq
    refine N9 q ?_
    revert q
    k_data
end
section
example : True := by (k_with "call ref" => (fail_if_success k_extra "34"); k_extra "st"); (k_with "eval Name" => (fail_if_success k_extra "34"); k_extra "en"); (k_with "exec For" => (fail_if_success k_extra "34"); k_extra "fr"); (k_with "pyIter ref" => (fail_if_success k_extra "34"); k_extra "st"); trivial
/-- what due has written after some numbers -/
inductive Due : List Int → List Str → List (Str × List Str) → Str → Prop
  | nil : Due [] [] [] (Str.ofString "")
  | turn (x : Int) {xs : List Int} {known known' : List Str} {st st' : List (Str × List Str)} {pg pg' : Str} : Due xs known st pg → DTurn x known st pg known' st' pg' → Due (xs ++ [x]) known' st' pg'
theorem DTurn.len {x : Int} {known known' : List Str} {st st' : List (Str × List Str)} {pg pg' : Str} (h : DTurn x known st pg known' st' pg') (hk : known.length ≤ 20) (hs : st.length ≤ 10) (hn : ∀ e ∈ st, e.1.length ≤ 30) :
    known'.length ≤ known.length + 5 ∧ st'.length ≤ st.length + 1 ∧ (∀ e ∈ st', e.1.length ≤ 30) ∧ pg'.length ≤ pg.length + 3000 := by
  (refine e4a10 h fun rows fr dr ar hpm hsr hkn hfr hdpm hds hap has hst hpg => ?_; try clear h)
  have hwl : (rows.map (·.2)).length = 5 := by rw [List.length_map, hpm.length_eq]; rfl
  have k1 : known'.length ≤ known.length + 5 := by
    have := foldl_len (f := addK) (fun _ _ => addK_len) (rows.map (·.2)) known
    rw [hkn]; k_room
  have hkl' : known'.length ≤ 30 := by k_room
  have hfl : fr.length ≤ 5 := by
    have := foldl_len (f := frK ((st.drop (closeN x st.length)).map (·.2)).reverse) (fun k u => frK_len k u) (rows.map (·.2)) []
    rw [hfr]; simp only [List.length_nil] at this; k_room
  have hfk : ∀ u ∈ fr, u ∈ rows.map (·.2) := fun u hu => by
    rw [hfr] at hu
    exact (foldF_sub hu).resolve_right (fun h => nomatch h)
  have hnm : (nmK known' (wordOf x) ++ Str.ofString ":t").length ≤ 30 := by
    have h1 := nmK_len (known := known') (u := wordOf x) hkl'
    have h2 : (Str.ofString ":t").length = 2 := by decide +kernel
    rw [Str.length_append]; k_room
  refine ⟨k1, anI3 ?_ ?_ ?_⟩
  · rw [hst, List.length_cons, List.length_drop]; k_room
  · intro e he
    rw [hst] at he
    rcases List.mem_cons.mp he with rfl | he
    · exact hnm
    · exact hn e (List.mem_of_mem_drop he)
  · have hrl : ∀ q ∈ dr ++ ar.map (outA known' x), q.1.length ≤ 20 ∧ q.2.length ≤ 20 := by
      intro q hq
      rcases List.mem_append.mp hq with hq | hq
      · have h0 := hdpm.mem_iff.mp hq
        unfold xmRows at h0
        (refine e1a2 (List.mem_map.mp h0) fun q1 h1 y3_ => ?_; obtain rfl := y3_)
        (refine e1a2 (List.mem_map.mp h1) fun u hu y3_ => ?_; obtain rfl := y3_)
        have h2 := nmK_len (known := known') (u := u) hkl'
        have h3 : xmP.length = 6 := by decide +kernel
        have h4 := words_len _ (rows_words hpm u (hfk u hu))
        refine ⟨?_, ?_⟩
        · show (xmP ++ nmK known' u).length ≤ 20
          rw [Str.length_append]; k_room
        · show u.length ≤ 20
          k_room
      · (refine e1a2 (List.mem_map.mp hq) fun q1 h1 y3_ => ?_; obtain rfl := y3_)
        (refine e1a2 (List.mem_map.mp (hap.mem_iff.mp h1)) fun q2 h2 y3_ => ?_; obtain rfl := y3_)
        have h3 := fA_at h2
        have h4 := lrows_val h2
        have h5 := nmK_len (known := known') (u := wordOf q2.2.1) hkl'
        have h6 : (Str.ofString ":").length = 1 := by decide +kernel
        unfold outA
        rw [show (rowA q2).2 = q2.1 from rfl, h3]
        refine ⟨?_, h4.2⟩
        show (nmK known' (wordOf q2.2.1) ++ Str.ofString ":" ++ q2.1).length ≤ 20
        rw [Str.length_append, Str.length_append]; k_room
    have e0 := StrLaws.sumLen_le (B := 200) ((dr ++ ar.map (outA known' x)).map fmtD) (by
      intro y hy
      (refine e1a2 (List.mem_map.mp hy) fun q hq y3_ => ?_; obtain rfl := y3_)
      exact ((fmtD_le (hrl q hq).1 (hrl q hq).2)))
    have e1 : ((dr ++ ar.map (outA known' x)).map fmtD).length ≤ 9 := by
      rw [List.length_map, List.length_append, List.length_map, hdpm.length_eq, hap.length_eq]
      simp [xmRows, lrows]; k_room
    have e2 := endsD_len (p := pg) (ns := (st.map (·.1)).take (closeN x st.length)) fun n hn' => by
      (refine e1a2 (List.mem_map.mp (List.mem_of_mem_take hn')) fun e he y3_ => ?_; obtain rfl := y3_)
      exact hn e he
    have e3 := List.length_take_le' (closeN x st.length) (st.map (·.1))
    rw [List.length_map] at e3
    have l1 : (Str.ofString "<").length = 1 := by decide +kernel
    have l2 : (Str.ofString ">").length = 1 := by decide +kernel
    rw [hpg]
    simp only [Str.length_append, len_cat] at hnm ⊢
    k_room
theorem Due.bounds {xs : List Int} {known : List Str} {st : List (Str × List Str)} {pg : Str} (h : Due xs known st pg) : xs.length ≤ 4 → known.length ≤ 5 * xs.length ∧ st.length ≤ xs.length ∧ (∀ e ∈ st, e.1.length ≤ 30) ∧ pg.length ≤ 3000 * xs.length := by
  induction h with
  | nil => exact fun _ => ⟨Nat.le_refl _, Nat.le_refl _, (fun _ h => nomatch h), Nat.le_of_eq (by decide +kernel)⟩
  | turn x h t ih =>
    intro hl
    rw [List.length_append, List.length_singleton] at hl ⊢
    (refine an4 (ih (by k_room)) fun b1 b2 b3 b4 => ?_)
    (refine an4 (t.len (by k_room) (by k_room) b3) fun c1 c2 c3 c4 => ?_)
    exact ⟨by k_room, anI3 (by k_room) c3 (by k_room)⟩
theorem ScAt.keep {l l' : List (Addr × Obj)} (h : ∀ a its n, (a, listOf its n) ∈ l → (a, listOf its n) ∈ l') {vs qs} (k : ScAt l vs qs) : ScAt l' vs qs := A2.mono (fun _ _ r => e3a3 r fun a its n e m st => exI3 a its n (anI3 e (h _ _ _ m) st)) k
theorem d_loop (h₀ : Heap) (L L' : Addr) (m : Str → Option Value) (s : Shared) (Q : Flow → Shared → Prop) (E : Value → Shared → Prop)
   (kn sc nm nb : Addr) (its : List Value) (nn : Nat) (xs : List Int) (ok ow : Obj) (kv : Array Value) (nk n1 n2 : Nat) (tp : Tok) (rest : List (Addr × Obj))
   (B : Below (ktrTop dp un gd cn cs L a ccd cl outer) base (envX cn cs L a ccd cl :: outer) h₀) (F : Fr h₀ L' s.heap m) (X : (hd.heap_39 w.params).In h₀) (N : News h₀ L' s.heap ((L' + 1, ok) :: (L' + 2, ow) :: (kn, listOf #[] nk) :: (sc, listOf #[] n1) :: (nm, listOf #[] n2) :: rest))
   (T : Top p loose mean mg mb h₀) (hdp : dp + 400 < recursionLimit) (hun : un + 4000 < cLine) (hB : AllBare s.gens)
   (hit : IntsAre its xs) (hxl : xs.length ≤ 4) (hnb : (nb, listOf its.toArray nn) ∈ rest) (hk : ok.data = .cell (some (.ref kn))) (hw : ∃ c, ow.data = .cell c)
   (hnd : @Ne Nat sc nm ∧ @Ne Nat kn sc ∧ @Ne Nat kn nm) (hr : ∀ q ∈ rest, @Ne Nat q.1 (L' + 1) ∧ @Ne Nat q.1 (L' + 2) ∧ @Ne Nat q.1 kn ∧ @Ne Nat q.1 sc ∧ @Ne Nat q.1 nm)
   (mB : m (Str.ofString "numbers") = some (.ref nb)) (mS : m (Str.ofString "scopes") = some (.ref sc)) (mN : m (Str.ofString "names") = some (.ref nm)) (mP : m (Str.ofString "page") = some (.str (Str.ofString "") tp))
   (h : ∀ known st pg rest' ow' kv' nk' (scR' : List Value) n1' (nmR' : List Value) n2' tp' h' tk gens drw m', Due xs known st pg → StrsAre nmR' (st.map (·.1)) → (∀ q ∈ rest, q ∈ rest') → m' (Str.ofString "page") = some (.str pg tp') → (∀ y, y ∉ [Str.ofString "x", Str.ofString "k", Str.ofString "page", Str.ofString "pairs", Str.ofString "fresh", Str.ofString "place", Str.ofString "rows", Str.ofString "letter", Str.ofString "value"] → m' y = m y) → AllBare gens → Fr h₀ L' h' m' → News h₀ L' h' ((L' + 1, ok) :: (L' + 2, ow') :: (kn, listOf kv' nk') :: (sc, listOf scR'.reverse.toArray n1') :: (nm, listOf nmR'.reverse.toArray n2') :: rest') → Q .next { s with heap := h', toks := tk, gens := gens, drawn := drw }) :
   wpAny (model PR w) ((ktrTop dp un gd cn cs L a ccd cl outer).deeper (dueE L')) (exec (nth dueB.1 4) (dueE L')) Q E s := by
  unfold dueE
  conv => arg 3; arg 1; whnf
  conv => arg 3; arg 2; arg 2; whnf
  conv => arg 2; arg 2; arg 2; whnf
  k_steps
  rename News h₀ L' _ _ => kN
  rename Fr h₀ L' _ m => kF
  refine hideJ (fun (i : Nat) (m₁ : Str → Option Value) (nw : List (Addr × Obj)) => ∃ known st pg rest' ow' kv' nk' scR' n1' nmR' n2' tp', nw = (L' + 1, ok) :: (L' + 2, ow') :: (kn, listOf kv' nk') :: (sc, listOf scR'.reverse.toArray n1') :: (nm, listOf nmR'.reverse.toArray n2') :: rest' ∧ Due (xs.take i) known st pg ∧ StrsAre kv'.toList known ∧ (∃ c, ow'.data = .cell c) ∧ ScAt rest' scR' (st.map (·.2)) ∧ StrsAre nmR' (st.map (·.1)) ∧ (∀ q ∈ rest, q ∈ rest') ∧ (∀ q ∈ rest', @Ne Nat q.1 (L' + 1) ∧ @Ne Nat q.1 (L' + 2) ∧ @Ne Nat q.1 kn ∧ @Ne Nat q.1 sc ∧ @Ne Nat q.1 nm) ∧ m₁ (Str.ofString "page") = some (.str pg tp') ∧ ∀ y, y ∉ [Str.ofString "x", Str.ofString "k", Str.ofString "page", Str.ofString "pairs", Str.ofString "fresh", Str.ofString "place", Str.ofString "rows", Str.ofString "letter", Str.ofString "value"] → m₁ y = m y) fun J_ hJ_ => ?_
  refine loop_list (L := L') (n₀ := 0) (ax := nb) (its := its.toArray) rfl ?hgo rfl
    J_ ?hJS ?turn ?done kF kN hB ((hJ_ _ _ _).mpr ⟨[], [], _, rest, ow, #[], nk, [], n1, [], n2, tp, rfl, .nil, .nil, hw, trivial, .nil, fun _ h => h, hr, mP, fun _ _ => rfl⟩) (Nat.zero_le _)
  case hgo =>
    intro s' v Q' I i hv st hq
    exact wpAny_pure hq
  case hJS =>
    intro i m₁ nw hz1_; (refine ex12 ((hJ_ _ _ _).mp hz1_) fun known st pg rest' ow' kv' nk' scR' n1' nmR' n2' tp' w2_ => an8 w2_ fun y3_ _ _ _ _ _ hsub _ => ?_; clear w2_; clear hz1_; obtain rfl := y3_)
    exact .inr ⟨_, .tail _ (.tail _ (.tail _ (.tail _ (.tail _ (hsub _ hnb))))), rfl, _, rfl⟩
  case done =>
    intro m₁ nw h2 tk2 gens dr hz1_; (refine e12a10 ((hJ_ _ _ _).mp hz1_) fun known st pg rest' ow' kv' nk' scR' n1' nmR' n2' tp' y3_ hD hkv hw' hsc hns hsub hr' hp' hm' => ?_; clear hz1_; obtain rfl := y3_); intro F2 N2 hB2 _
    rw [List.size_toArray, ints_len hit, List.take_length] at hD
    k_steps
    exact h known st pg rest' ow' kv' nk' scR' n1' nmR' n2' tp' _ _ gens dr m₁ hD hns hsub hp' hm' hB2 F2 N2
  case turn =>
    intro i v m₁ nw I oI h2 tk2 gens dr hv hz1_; (refine e12a10 ((hJ_ _ _ _).mp hz1_) fun known st pg rest' ow' kv' nk' scR' n1' nmR' n2' tp' y4_ hD hkv y5_ hsc hns hsub hr' hp' hm' => ?_; clear hz1_; obtain rfl := y4_; refine ex1 y5_ fun cw hcw => ?_; clear y5_); intro hoI off F2 N2 hB2 _
    (refine e2a2 (ints_at hit (i := i) (v := v) (by simpa using hv)) fun x tx hx y3_ => ?_; obtain rfl := y3_)
    have htl : (xs.take i).length ≤ 4 := by rw [List.length_take]; k_room
    (refine an4 (hD.bounds htl) fun b1 b2 b3 b4 => ?_)
    refine asg_stop6 ?_
    k_steps
    rename Fr h₀ L' _ _ => kF3
    rename News h₀ L' _ _ => kN3
    have hte : xs.take (i + 1) = xs.take i ++ [x] := take_snoc hx
    have oK : ∀ q ∈ (L' + 1, ok) :: (L' + 2, ow') :: (kn, listOf kv' nk') :: (sc, listOf scR'.reverse.toArray n1') :: (nm, listOf nmR'.reverse.toArray n2') :: rest', @Ne Nat I q.1 := fun q hq e => off q hq e.symm
    show wpAny (model PR w) _ (execs (dueF.1.drop 0) (dueE L')) _ _ _
    refine due_turn w p loose mean mg mb base dp un gd cn cs a ccd cl outer h₀ L L' _ _ _ _ kn sc nm ok ow' kv' nk' n1' n2' scR' nmR' x tx tp' known st pg ((I, oI) :: rest') B kF3 X ?N T hdp hun hB2 hk ⟨cw, hcw⟩ hkv (by k_room) (hsc.mono fun _ h => .tail _ h) hns b3 (by k_room) (by k_room) hnd ?hr (if_pos rfl) ((if_neg (by decide +kernel)).trans ((hm' _ (by decide +kernel)).trans mS)) ((if_neg (by decide +kernel)).trans ((hm' _ (by decide +kernel)).trans mN)) ((if_neg (by decide +kernel)).trans hp') ?_
    case N =>
      intro q hq
      refine kN3 q ?_
      revert q
      k_data
    case hr =>
      intro q hq
      rcases List.mem_cons.mp hq with rfl | hq
      · exact ⟨oK (L' + 1, ok) (.head _), anI4 (oK (L' + 2, ow') (.tail _ (.head _))) (oK (kn, listOf kv' nk') (.tail _ (.tail _ (.head _)))) (oK (sc, listOf scR'.reverse.toArray n1') (.tail _ (.tail _ (.tail _ (.head _))))) (oK (nm, listOf nmR'.reverse.toArray n2') (.tail _ (.tail _ (.tail _ (.tail _ (.head _))))))⟩
      · exact hr' q hq
    intro known2 st2 pg2 rest2 ow2 kv2 nk2 scR2 n12 nmR2 n22 tp2 h4 tk4 gens4 dr4 m4 hT hkv2 hw2 hsc2 hns2 hsub2 hr2 hp2 hm2 hB4 F4 N4
    have hI2 : (I, oI) ∈ rest2 := hsub2 _ (.head _)
    refine stop_turn (h := h4) (tk := tk4) (gens := gens4) (dr := dr4) (m := m4) (nw := (L' + 1, ok) :: (L' + 2, ow2) :: (kn, listOf kv2 nk2) :: (sc, listOf scR2.reverse.toArray n12) :: (nm, listOf nmR2.reverse.toArray n22) :: offL [I] rest2) F4 (fun q hq => N4 q ?_) (fun q hq => ?_) hB4 ((hJ_ _ _ _).mpr (exI12 known2 st2 pg2 (offL [I] rest2) ow2 kv2 nk2 scR2 n12 nmR2 n22 tp2 (anI10 rfl (by rw [hte]; exact .turn x hD hT) hkv2 hw2 (hsc2.keep fun b o n hm => offL_mem hm ?_) hns2 (fun q hq => offL_mem (hsub2 q (.tail _ (hsub q hq))) ?_) (fun q hq => hr2 q (offL_sub hq)) hp2 (fun y hy => ?_))))
    · simp only [List.mem_cons] at hq ⊢
      rcases hq with h | h | h | h | h | h | h
      · rw [h]; exact .inr (.inr (.inr (.inr (.inr hI2))))
      · exact .inl h
      · exact .inr (.inl h)
      · exact .inr (.inr (.inl h))
      · exact .inr (.inr (.inr (.inl h)))
      · exact .inr (.inr (.inr (.inr (.inl h))))
      · exact .inr (.inr (.inr (.inr (.inr (offL_sub h)))))
    · revert q; refine fmc ?_ (fmc ?_ (fmc ?_ (fmc ?_ (fmc ?_ (fun q hq => ?_)))))
      · exact Ne.symm (oK (L' + 1, ok) (.head _))
      · exact Ne.symm (oK (L' + 2, ow') (.tail _ (.head _)))
      · exact Ne.symm (oK (kn, listOf kv' nk') (.tail _ (.tail _ (.head _))))
      · exact Ne.symm (oK (sc, listOf scR'.reverse.toArray n1') (.tail _ (.tail _ (.tail _ (.head _)))))
      · exact Ne.symm (oK (nm, listOf nmR'.reverse.toArray n2') (.tail _ (.tail _ (.tail _ (.tail _ (.head _))))))
      · intro e; exact offL_not hq (by rw [e]; exact .head _)
    · simp only [List.mem_cons, List.not_mem_nil, or_false]
      intro e
      subst e
      have e2 := news_one N4 (.tail _ (.tail _ (.tail _ (.tail _ (.tail _ hm))))) (.tail _ (.tail _ (.tail _ (.tail _ (.tail _ hI2)))))
      have e3 := hoI.1
      rw [← e2] at e3
      have e4 : Value.type "list" = Value.type "list_iterator" := e3
      injection e4 with e4
      exact absurd e4 (by decide)
    · simp only [List.mem_cons, List.not_mem_nil, or_false]
      exact Ne.symm (oK q (.tail _ (.tail _ (.tail _ (.tail _ (.tail _ (hsub q hq)))))))
    · have hy2 : y ≠ Str.ofString "x" ∧ y ∉ [Str.ofString "k", Str.ofString "page", Str.ofString "pairs", Str.ofString "fresh", Str.ofString "place", Str.ofString "rows", Str.ofString "letter", Str.ofString "value"] := by
        simp only [List.mem_cons, List.not_mem_nil, or_false, not_or] at hy ⊢
        exact hy
      rw [hm2 y hy2.2, if_neg hy2.1]
      exact hm' y hy
end
section
example : True := by (k_with "34" => skip); trivial
theorem due_ (A₀ : Around) (h₀ : Heap) (L : Addr) (m : Str → Option Value) (s : Shared) (Q E : Value → Shared → Prop)
   (nb : Addr) (its : List Value) (nn : Nat) (xs : List Int) (tl : List (Addr × Obj))
   (B : Below A₀ base outer h₀) (F : Fr h₀ L s.heap m) (X : (hd.heap_39 w.params).In h₀) (N : News h₀ L s.heap ((nb, listOf its.toArray nn) :: tl))
   (T : Top p loose mean mg mb h₀) (hcs : cs.kind = .function) (hdp : dp + 690 < recursionLimit) (hun : un + 8000 < cLine) (hB : AllBare s.gens) (hit : IntsAre its xs) (hxl : xs.length ≤ 4)
   (hret : ∀ known st pg t h' tk gens dr, Due xs known st pg → AllBare gens → Fr h₀ L h' m → News h₀ L h' ((nb, listOf its.toArray nn) :: tl) → Q (.str (pg ++ catS ((st.map (·.1)).map endD)) t) { s with heap := h', toks := tk, gens := gens, drawn := dr }) :
   wpAny (model PR w) (ktrTop dp un gd cn cs L a ccd cl outer) (call (.ref 227) [.ref nb]) Q E s := by
  refine wpAny_call ?_
  k_dflt (refine' code_defC (binds := [(Str.ofString "numbers", .ref nb)]) B F X N T ?kA ?kF ?kK ?k6 ?k7 ?k8 ?k9 ?kB ?kD ?_ ?c2 ?c3 ?c4; (case kA => exact rfl); (case kF => exact rfl); (case kK => first | exact rfl | assumption); (case k6 => k_is); (case k7 => k_is); (case k8 => k_room); (case k9 => first | exact BindsTo.of_eq rfl | exact binds_K (by k_in) rfl (by k_is) rfl rfl rfl); (case kB => exact rfl); (case kD => decide +kernel); (case c2 => exact rfl); (case c3 => exact rfl); (case c4 => exact rfl); k_whole; intro g' L' h' tk' cells' FG' F' N' Y' B' X' T' l1; (try k_lt l1); k_cells Y'; (try simp only [List.cons_append, List.nil_append] at N'); (try dsimp only); (try k_lift B'); (try k_fold))
  rename_i lnb oW oK dW dK
  have hw : oW.data = .cell none := dW.trans (by with_unfolding_all rfl)
  have hk : oK.data = .cell none := dK.trans (by with_unfolding_all rfl)
  clear dW dK
  rename AllLt L' tl => lT
  have lM := allLt_mem lT
  have lR : ∀ q ∈ (nb, listOf its.toArray nn) :: tl, @LT.lt Nat _ q.1 L' := by
    intro q hq
    rcases List.mem_cons.mp hq with rfl | hq
    · exact lnb
    · exact lM q hq
  have lR1 : ∀ q ∈ (nb, listOf its.toArray nn) :: tl, @LT.lt Nat _ q.1 (L' + 1) := fun q hq => Nat.lt_succ_of_lt (lR q hq)
  have lR2 : ∀ q ∈ (nb, listOf its.toArray nn) :: tl, @LT.lt Nat _ q.1 (L' + 2) := fun q hq => Nat.lt_succ_of_lt (lR1 q hq)
  show wpAny (model PR w) ((ktrTop dp un gd cn cs L a ccd cl outer).deeper (dueE L')) (execs (dueB.1.drop 0) (dueE L')) _ _ _
  refine execs_at 0 (by decide) ?_
  refine d_known w p loose mean mg mb base dp un gd cn cs a ccd cl outer g' L L' _ _ _ _ oK oW ((nb, listOf its.toArray nn) :: tl) B' F' X' (fun q hq => N' q ?_) T' (by k_room) (by k_room) hB hk (fun q hq => Nat.ne_of_lt (lR1 q hq)) ?_
  · revert q
    k_data
  intro kn nk okn h1 tk1 hlt1 hk1 F1 N1
  dsimp only
  refine execs_at 1 (by decide) ?_
  refine d_scopes w p loose mean mg mb base dp un gd cn cs a ccd cl outer g' L L' _ _ _ _ _ B' F1 X' N1 T' (by k_room) (by k_room) hB ?_
  intro sc n1 h2 tk2 hlt2 F2 N2
  dsimp only
  refine execs_at 2 (by decide) ?_
  refine d_names w p loose mean mg mb base dp un gd cn cs a ccd cl outer g' L L' _ _ _ _ _ B' F2 X' N2 T' (by k_room) (by k_room) hB ?_
  intro nm n2 h3 tk3 hlt3 F3 N3
  dsimp only
  refine execs_at 3 (by decide) ?_
  refine d_page w p loose mean mg mb base dp un gd cn cs a ccd cl outer g' L L' _ _ _ _ _ B' F3 X' N3 T' (by k_room) (by k_room) hB ?_
  intro h4 tk4 tp F4 N4
  dsimp only
  have rk : ∀ q ∈ (nb, listOf its.toArray nn) :: tl, @LT.lt Nat _ q.1 kn := fun q hq => hlt1 q (.tail _ (.tail _ hq))
  have rs : ∀ q ∈ (nb, listOf its.toArray nn) :: tl, @LT.lt Nat _ q.1 sc := fun q hq => hlt2 q (.tail _ (.tail _ (.tail _ hq)))
  have rn : ∀ q ∈ (nb, listOf its.toArray nn) :: tl, @LT.lt Nat _ q.1 nm := fun q hq => hlt3 q (.tail _ (.tail _ (.tail _ (.tail _ hq))))
  refine execs_at 4 (by decide) ?_
  refine d_loop w p loose mean mg mb base dp un gd cn cs a ccd cl outer g' L L' _ _ _ _ kn sc nm nb its nn xs okn oW #[] nk n1 n2 tp ((nb, listOf its.toArray nn) :: tl) B' F4 X' (fun q hq => N4 q ?_) T' (by k_room) (by k_room) hB hit hxl (.head _) hk1 ⟨none, hw⟩ ⟨Nat.ne_of_lt (hlt3 _ (.head _)), Nat.ne_of_lt (hlt2 _ (.head _)), Nat.ne_of_lt (hlt3 _ (.tail _ (.head _)))⟩ (fun q hq => ⟨Nat.ne_of_lt (lR1 q hq), Nat.ne_of_lt (lR2 q hq), Nat.ne_of_lt (rk q hq), Nat.ne_of_lt (rs q hq), Nat.ne_of_lt (rn q hq)⟩) rfl rfl rfl rfl ?_
  · revert q
    k_data
  intro known st pg rest' ow' kv' nk' scR' n1' nmR' n2' tp' h5 tk5 gens5 dr5 m5 hD hns hsub hp' hm' hB5 F5 N5
  dsimp only
  (refine an4 (hD.bounds hxl) fun b1 b2 b3 b4 => ?_)
  refine execs_at 5 (by decide) ?_
  refine d_ret w p loose mean mg mb base dp un gd cn cs a ccd cl outer g' L L' _ _ _ _ nm nmR' n2' (st.map (·.1)) pg tp' rest' B' F5 X' (fun q hq => N5 q ?_) T' (by k_room) (by k_room) hB5 hns (by rw [List.length_map]; k_room) (fun q hq => by (refine e1a2 (List.mem_map.mp hq) fun e he y3_ => ?_; obtain rfl := y3_); exact b3 e he) (by k_room) ((hm' _ (by decide +kernel)).trans rfl) hp' ?_
  · exact .tail _ (.tail _ (.tail _ (.tail _ hq)))
  intro h6 tk6 t F6 N6
  dsimp only
  have fin : ∀ q ∈ (nb, listOf its.toArray nn) :: tl, q ∈ (nm, listOf nmR'.reverse.toArray n2') :: rest' := fun q hq => .tail _ (hsub q hq)
  clear N1 N2 N3 N4 N5 F1 F2 F3 F4 F5
  k_steps
  rename News h₀ L _ _ => kN
  rename Fr h₀ L _ m => kF
  exact hret known st pg t _ _ gens5 dr5 hD hB5 kF (fun q hq => kN q (fin q hq))
end
section
example : True := by (k_with "call ref" => (fail_if_success k_extra "35"); k_extra "st"); (k_with "eval Name" => (fail_if_success k_extra "35"); k_extra "en"); (k_with "call builtin:list.append" => (fail_if_success k_extra "35"); k_extra "ap"); (k_with "call builtin:str.join" => (fail_if_success k_extra "35"); k_extra "st"); trivial
theorem r_ret (h₀ : Heap) (L L' : Addr) (m : Str → Option Value) (s : Shared) (Q : Flow → Shared → Prop) (E : Value → Shared → Prop)
   (pg : Addr) (pgl : List Value) (pgn : Nat) (ys : List Str) (tl : List (Addr × Obj))
   (B : Below (ktrTop dp un gd cn cs L a ccd cl outer) base (envX cn cs L a ccd cl :: outer) h₀) (F : Fr h₀ L' s.heap m) (X : (hd.heap_39 w.params).In h₀) (N : News h₀ L' s.heap ((pg, listOf pgl.toArray pgn) :: tl))
   (T : Top p loose mean mg mb h₀) (hdp : dp + 400 < recursionLimit) (hun : un + 4000 < cLine) (hB : AllBare s.gens)
   (hs : StrsAre pgl ys) (hy : (ys.map (·.length)).sum ≤ 40000 ∧ ys.length ≤ 20) (mG : m (Str.ofString "pages") = some (.ref pg))
   (h : ∀ h' tk t, Fr h₀ L' h' m → News h₀ L' h' ((pg, listOf pgl.toArray pgn) :: tl) → Q (.ret (.str (catS ys) t)) { s with heap := h', toks := tk }) :
   wpAny (model PR w) ((ktrTop dp un gd cn cs L a ccd cl outer).deeper (toldE L')) (exec (nth toldB.1 5) (toldE L')) Q E s := by
  unfold toldE
  conv => arg 3; arg 1; whnf
  conv => arg 3; arg 2; arg 2; whnf
  conv => arg 2; arg 2; arg 2; whnf
  k_steps
  rename News h₀ L' _ _ => kN
  refine join_list (x := Str.ofString "") ⟨_, (kN _ (.head _)).1, rfl, _, rfl⟩ (by simpa using hs) ?_ fun t' k => ?_
  · have e1 : (Str.ofString "").length = 0 := by decide +kernel
    rw [e1, Nat.mul_zero]; k_room
  · rw [join_cat]
    k_steps
    rename News h₀ L' _ _ => kN2
    rename Fr h₀ L' _ _ => kF2
    exact h _ _ _ kF2 kN2
end
section
example : True := by (k_with "35" => skip); trivial
theorem told_ (A₀ : Around) (h₀ : Heap) (L : Addr) (m : Str → Option Value) (s : Shared) (Q E : Value → Shared → Prop)
   (nb tb : Addr) (its : List Value) (nn : Nat) (xs : List Int) (tl : List (Addr × Obj))
   (B : Below A₀ base outer h₀) (F : Fr h₀ L s.heap m) (X : (hd.heap_39 w.params).In h₀) (N : News h₀ L s.heap ((nb, listOf its.toArray nn) :: (tb, tabObj #[]) :: tl))
   (T : Top p loose mean mg mb h₀) (hcs : cs.kind = .function) (hdp : dp + 690 < recursionLimit) (hun : un + 8000 < cLine) (hB : AllBare s.gens) (hit : IntsAre its xs) (hxl : xs.length ≤ 4) (hC : Stop (CodeHd base 125 tb))
   (hret : ∀ known st pcs ps t h' tk gens dr, Told xs known st pcs → AllBare gens → Fr h₀ L h' m → News h₀ L h' ((nb, listOf its.toArray nn) :: (tb, tabObj ps) :: offL [tb] tl) → Q (.str (pageOf known st pcs) t) { s with heap := h', toks := tk, gens := gens, drawn := dr }) :
   wpAny (model PR w) (ktrTop dp un gd cn cs L a ccd cl outer) (call (.ref 203) [.ref nb]) Q E s := by
  refine wpAny_call ?_
  k_dflt (refine' code_def (binds := [(Str.ofString "numbers", .ref nb)]) B F X N T ?kA ?kF ?kK ?k6 ?k7 ?k8 ?k9 ?kB ?_ ?c2 ?c3 ?c4 ?c5; (case kA => exact rfl); (case kF => exact rfl); (case kK => first | exact rfl | assumption); (case k6 => k_is); (case k7 => k_is); (case k8 => k_room); (case k9 => first | exact BindsTo.of_eq rfl | exact binds_K (by k_in) rfl (by k_is) rfl rfl rfl); (case c5 => decide); (case kB => exact locs rfl); (case c2 => exact rfl); (case c3 => exact rfl); (case c4 => exact rfl); k_whole; intro g' L' h' FG' F' N' B' X' T'; (try dsimp only); (try k_lift B'); (try k_fold))
  show wpAny (model PR w) ((ktrTop dp un gd cn cs L a ccd cl outer).deeper (toldE L')) (execs (toldB.1.drop 0) (toldE L')) _ _ _
  refine hide ((nb, listOf its.toArray nn) :: (tb, tabObj #[]) :: tl) fun l0 hl0 => ?_
  rw [← hl0] at N'
  have mnb : (nb, listOf its.toArray nn) ∈ l0 := by rw [hl0]; exact .head _
  have mtb : (tb, tabObj #[]) ∈ l0 := by rw [hl0]; exact .tail _ (.head _)
  have hnt : nb ≠ tb := news_ne N' mnb mtb (by intro h; cases h)
  refine execs_at 0 (by decide) ?_
  refine r_pages w p loose mean mg mb base dp un gd cn cs a ccd cl outer g' L L' _ _ _ _ l0 B' F' X' N' T' (by k_room) (by k_room) hB ?_
  intro pg n1 h1 tk1 hlt1 F1 N1
  dsimp only
  refine execs_at 1 (by decide) ?_
  refine r_writer w p loose mean mg mb base dp un gd cn cs a ccd cl outer g' L L' _ _ _ _ pg n1 l0 B' F1 X' N1 T' (by k_room) (by k_room) hB rfl ?_
  intro c bm wr wd a0 t0 b0 opm na nd nn' pn n0 nb' u1 u2 h2 tk2 e1 e2 e3 e4 e5 e6 F2 N2
  dsimp only
  subst e1
  have lt1 : @LT.lt Nat _ tb pg := hlt1 _ mtb
  have lt2 : @LT.lt Nat _ pg c.bm := e6 _ (.head _)
  have g0 : ∀ k ∈ ([wr, wd, c.dns, c.pm, c.da, c.nss, c.ps, a0, t0, b0] : List Nat), ∀ q ∈ l0, @LT.lt Nat _ q.1 k := fun k hk q hq => e5 k hk q (.tail _ (.tail _ hq))
  have gtb : ∀ k ∈ ([wr, wd, c.dns, c.pm, c.da, c.nss, c.ps, a0, t0, b0] : List Nat), @LT.lt Nat _ tb k := fun k hk => g0 k hk _ mtb
  have gpg : ∀ k ∈ ([wr, wd, c.dns, c.pm, c.da, c.nss, c.ps, a0, t0, b0] : List Nat), @LT.lt Nat _ pg k := fun k hk => e5 k hk _ (.tail _ (.head _))
  have gbm : ∀ k ∈ ([wr, wd, c.dns, c.pm, c.da, c.nss, c.ps, a0, t0, b0] : List Nat), @LT.lt Nat _ c.bm k := fun k hk => e5 k hk _ (.head _)
  have hnd := e4
  replace hnd := ndA_iff.mpr hnd
  have n0_1 : @Ne Nat (wr) (wd) := hnd.1.1
  have n0_2 : @Ne Nat (wr) (c.dns) := hnd.1.2.1
  have n0_3 : @Ne Nat (wr) (c.pm) := hnd.1.2.2.1
  have n0_4 : @Ne Nat (wr) (c.da) := hnd.1.2.2.2.1
  have n0_5 : @Ne Nat (wr) (c.nss) := hnd.1.2.2.2.2.1
  have n0_6 : @Ne Nat (wr) (c.ps) := hnd.1.2.2.2.2.2.1
  have n0_7 : @Ne Nat (wr) (a0) := hnd.1.2.2.2.2.2.2.1
  have n1_2 : @Ne Nat (wd) (c.dns) := hnd.2.1.1
  have n1_3 : @Ne Nat (wd) (c.pm) := hnd.2.1.2.1
  have n1_4 : @Ne Nat (wd) (c.da) := hnd.2.1.2.2.1
  have n1_5 : @Ne Nat (wd) (c.nss) := hnd.2.1.2.2.2.1
  have n1_6 : @Ne Nat (wd) (c.ps) := hnd.2.1.2.2.2.2.1
  have n1_7 : @Ne Nat (wd) (a0) := hnd.2.1.2.2.2.2.2.1
  have n2_3 : @Ne Nat (c.dns) (c.pm) := hnd.2.2.1.1
  have n2_4 : @Ne Nat (c.dns) (c.da) := hnd.2.2.1.2.1
  have n2_5 : @Ne Nat (c.dns) (c.nss) := hnd.2.2.1.2.2.1
  have n2_6 : @Ne Nat (c.dns) (c.ps) := hnd.2.2.1.2.2.2.1
  have n2_7 : @Ne Nat (c.dns) (a0) := hnd.2.2.1.2.2.2.2.1
  have n3_4 : @Ne Nat (c.pm) (c.da) := hnd.2.2.2.1.1
  have n3_5 : @Ne Nat (c.pm) (c.nss) := hnd.2.2.2.1.2.1
  have n3_6 : @Ne Nat (c.pm) (c.ps) := hnd.2.2.2.1.2.2.1
  have n3_7 : @Ne Nat (c.pm) (a0) := hnd.2.2.2.1.2.2.2.1
  have n4_5 : @Ne Nat (c.da) (c.nss) := hnd.2.2.2.2.1.1
  have n4_6 : @Ne Nat (c.da) (c.ps) := hnd.2.2.2.2.1.2.1
  have n4_7 : @Ne Nat (c.da) (a0) := hnd.2.2.2.2.1.2.2.1
  have n5_6 : @Ne Nat (c.nss) (c.ps) := hnd.2.2.2.2.2.1.1
  have n5_7 : @Ne Nat (c.nss) (a0) := hnd.2.2.2.2.2.1.2.1
  have n6_7 : @Ne Nat (c.ps) (a0) := hnd.2.2.2.2.2.2.1.1
  refine hide ((wr, instObj 150 wd) :: (wd, wDict w c) :: (c.dns, listOf #[.ref a0] nd) :: (c.pm, opm) :: (c.da, listOf #[] na) :: (c.nss, listOf #[.ref b0] nn') :: (c.ps, listOf #[.bool false] pn) :: (a0, listOf #[.ref t0] n0) :: (t0, tup2 xmlU u1 xmlP u2) :: (b0, listOf #[] nb') :: (c.bm, bmO pg) :: (pg, listOf #[] n1) :: l0) fun l2 hl2 => ?_
  have in0 : ∀ q ∈ l0, q ∈ l2 := fun q hq => by rw [hl2]; k_data
  have ts2 : TS w wr wd tb pg a0 c [] #[.ref t0] opm #[] [.ref b0] [] [] [] [] l2 := by
    refine ⟨?_, ?_, ⟨nd, ?_⟩, ?_, in0 _ mtb, ⟨na, ?_⟩, ⟨nn', ?_⟩, ⟨pn, ?_⟩, ?_, ⟨n1, ?_⟩, ⟨n0, ?_⟩, ⟨⟨t0, u1, u2, rfl, ?_⟩, trivial⟩, trivial, .inl rfl, ⟨[], e2, trivial⟩, e3, rfl, .nil, List.nodup_nil, (fun x hx => nomatch hx), (fun x hx => nomatch hx), Nat.zero_le _, Nat.zero_le _, Nat.zero_le _, trivial, ?_⟩
    · rw [hl2]; exact .head _
    · rw [hl2]; exact .tail _ (.head _)
    · show (c.dns, listOf #[.ref a0] nd) ∈ l2
      rw [hl2]; k_data
    · rw [hl2]; k_data
    · rw [hl2]; k_data
    · show (c.nss, listOf #[.ref b0] nn') ∈ l2
      rw [hl2]; k_data
    · show (c.ps, listOf #[.bool false] pn) ∈ l2
      rw [hl2]; k_data
    · rw [hl2]; k_data
    · show (pg, listOf #[] n1) ∈ l2
      rw [hl2]; k_data
    · rw [hl2]; k_data
    · rw [hl2]; k_data
    · show ([wr, wd, c.dns, c.pm, tb, c.da, c.nss, c.ps, c.bm, pg, a0] : List Nat).Nodup
      refine ndA_iff.mp ?_
      exact ⟨⟨n0_1, n0_2, n0_3, Nat.ne_of_gt (gtb _ (by k_data)), n0_4, n0_5, n0_6, Nat.ne_of_gt (gbm _ (by k_data)), Nat.ne_of_gt (gpg _ (by k_data)), n0_7⟩, anI9 ⟨n1_2, n1_3, Nat.ne_of_gt (gtb _ (by k_data)), n1_4, n1_5, n1_6, Nat.ne_of_gt (gbm _ (by k_data)), Nat.ne_of_gt (gpg _ (by k_data)), n1_7⟩ ⟨n2_3, Nat.ne_of_gt (gtb _ (by k_data)), n2_4, n2_5, n2_6, Nat.ne_of_gt (gbm _ (by k_data)), Nat.ne_of_gt (gpg _ (by k_data)), n2_7⟩ ⟨Nat.ne_of_gt (gtb _ (by k_data)), n3_4, n3_5, n3_6, Nat.ne_of_gt (gbm _ (by k_data)), Nat.ne_of_gt (gpg _ (by k_data)), n3_7⟩ ⟨Nat.ne_of_lt (gtb _ (by k_data)), Nat.ne_of_lt (gtb _ (by k_data)), Nat.ne_of_lt (gtb _ (by k_data)), Nat.ne_of_lt (Nat.lt_trans lt1 lt2), Nat.ne_of_lt lt1, Nat.ne_of_lt (gtb _ (by k_data))⟩ ⟨n4_5, n4_6, Nat.ne_of_gt (gbm _ (by k_data)), Nat.ne_of_gt (gpg _ (by k_data)), n4_7⟩ ⟨n5_6, Nat.ne_of_gt (gbm _ (by k_data)), Nat.ne_of_gt (gpg _ (by k_data)), n5_7⟩ ⟨Nat.ne_of_gt (gbm _ (by k_data)), Nat.ne_of_gt (gpg _ (by k_data)), n6_7⟩ ⟨Nat.ne_of_gt lt2, Nat.ne_of_lt (gbm _ (by k_data))⟩ (Nat.ne_of_lt (gpg _ (by k_data)))⟩
  rw [← hl2] at N2
  refine execs_at 2 (by decide) ?_
  refine r_path w p loose mean mg mb base dp un gd cn cs a ccd cl outer g' L L' _ _ _ _ l2 B' F2 X' N2 T' (by k_room) (by k_room) hB ?_
  intro pa n3 h3 tk3 hlt3 F3 N3
  dsimp only
  have hpk : pa ∉ tkeys wr wd c tb pg a0 [] := fun hk => by
    (refine ex1 (ts2.keys pa hk) fun o ho => ?_)
    exact Nat.lt_irrefl _ (hlt3 _ ho)
  refine hide (pa :: tkeys wr wd c tb pg a0 []) fun ks hks => ?_
  have tj3 : TJ w wr wd tb pg a0 pa [] [] [] ks ((pa, listOf #[] n3) :: l2) := ⟨c, [], #[.ref t0], opm, #[], [.ref b0], [], [], n3, ts2.keep fun b o hm _ => .tail _ hm, .head _, .nil, hks, hpk⟩
  have hk0 : ∀ q ∈ l0, q.1 ≠ tb → q.1 ∉ ks := by
    intro q hq hne hk
    rw [hks] at hk
    rcases List.mem_cons.mp hk with hk | hk
    · exact Nat.lt_irrefl _ (show pa < pa from by have := hlt3 _ (in0 _ hq); rw [hk] at this; exact this)
    · unfold tkeys at hk
      simp only [List.map_nil, List.append_nil, List.mem_cons, List.not_mem_nil, or_false] at hk
      rcases hk with e | e | e | e | e | e | e | e | e | e | e
      · have z := g0 wr (by k_data) q hq; rw [e] at z; exact Nat.lt_irrefl _ z
      · have z := g0 wd (by k_data) q hq; rw [e] at z; exact Nat.lt_irrefl _ z
      · have z := g0 c.dns (by k_data) q hq; rw [e] at z; exact Nat.lt_irrefl _ z
      · have z := g0 c.pm (by k_data) q hq; rw [e] at z; exact Nat.lt_irrefl _ z
      · exact hne e
      · have z := g0 c.da (by k_data) q hq; rw [e] at z; exact Nat.lt_irrefl _ z
      · have z := g0 c.nss (by k_data) q hq; rw [e] at z; exact Nat.lt_irrefl _ z
      · have z := g0 c.ps (by k_data) q hq; rw [e] at z; exact Nat.lt_irrefl _ z
      · have z := e6 q (.tail _ hq); rw [e] at z; exact Nat.lt_irrefl _ z
      · have z := hlt1 q hq; rw [e] at z; exact Nat.lt_irrefl _ z
      · have z := g0 a0 (by k_data) q hq; rw [e] at z; exact Nat.lt_irrefl _ z
  refine execs_at 3 (by decide) ?_
  refine r_loop w p loose mean mg mb base dp un gd cn cs a ccd cl outer g' L L' _ _ _ _ wr wd tb pg a0 pa nb its nn xs ks _ B' F3 X' N3 T' (by k_room) (by k_room) hB tj3 hit hxl (.tail _ (in0 _ mnb)) (hk0 _ mnb hnt) hC rfl rfl rfl ?_
  intro known st pcs ks4 tl4 h4 tk4 gens4 dr4 m4 hT tj4 hfr4 hm4 hB4 F4 N4
  dsimp only
  (refine an3 hT.bounds fun bk bs bp => ?_)
  refine execs_at 4 (by decide) ?_
  refine r_last w p loose mean mg mb base dp un gd cn cs a ccd cl outer g' L L' _ _ _ _ wr wd tb pg a0 pa known st pcs ks4 tl4 B' F4 X' N4 T' (by k_room) (by k_room) hB4 tj4 (by k_room) (by k_room) ((hm4 _ (by decide)).trans rfl) ((hm4 _ (by decide)).trans rfl) ?_
  intro pgl pgn psT tl5 h5 tk5 gens5 dr5 m5 hs5 hpg5 htb5 hfr5 hm5 hB5 F5 N5
  dsimp only
  have N5b : News g' L' h5 ((pg, listOf pgl.toArray pgn) :: tl5) := fun q hq => by
    rcases List.mem_cons.mp hq with rfl | hq
    · exact N5 _ hpg5
    · exact N5 _ hq
  refine execs_at 5 (by decide) ?_
  refine r_ret w p loose mean mg mb base dp un gd cn cs a ccd cl outer g' L L' _ _ _ _ pg pgl pgn _ tl5 B' F5 X' N5b T' (by k_room) (by k_room) hB5 hs5 (hT.sum hxl) ((hm5 _ (by decide)).trans ((hm4 _ (by decide)).trans rfl)) ?_
  intro h6 tk6 t F6 N6
  dsimp only
  have fin : ∀ q ∈ (nb, listOf its.toArray nn) :: (tb, tabObj psT) :: offL [tb] tl, q ∈ (pg, listOf pgl.toArray pgn) :: tl5 := by
    intro q hq
    by_cases eT : q = (tb, tabObj psT)
    · rw [eT]; exact .tail _ htb5
    have hq0 : q ∈ l0 ∧ q.1 ≠ tb := by
      rcases List.mem_cons.mp hq with rfl | hq
      · exact ⟨mnb, hnt⟩
      rcases List.mem_cons.mp hq with h | hq
      · exact absurd h eT
      · refine ⟨by rw [hl0]; exact .tail _ (.tail _ (offL_sub hq)), by simpa using offL_not hq⟩
    have z := hfr4 q.1 q.2 (.tail _ (in0 _ hq0.1)) (hk0 _ hq0.1 hq0.2)
    exact .tail _ (hfr5 q.1 q.2 z.1 z.2)
  k_steps
  rename News h₀ L _ _ => kN
  rename Fr h₀ L _ m => kF
  exact hret known st pcs psT t _ _ gens5 dr5 hT hB5 kF (fun q hq => kN q (fin q hq))
end
section
/-- kn_post for a law that leaves generators behind -/
theorem posts_bare {M : Model} {A : Around} {cd : Code} {s s₁ : Shared} {cw : ClaimW} {cl : Str → Option Addr} {mean : ExcName → Option Value} {args : List WData} {c P : Addr} (hT : TabsAt [(c, P)] s₁.heap)
    (h : codeAny M A cd (fun r s' => Stop ((∃ v d, r = .ok (.ret v) ∧ (∀ x, cw.raises args x = false) ∧ ReadsW cw.records cl s'.heap v d [] ∧ cw.post args d args = true) ∧ (∀ b o, b ≠ P → s₁.heap.get? b = some o → s'.heap.get? b = some o) ∧ (∃ ps, s'.heap.get? P = some (tabObj ps)) ∧ s'.os = s₁.os ∧ AllBare s'.gens)) s) : codeAny M A cd (GoodWG cw cl mean args s₁) s := by
  refine codeAny_mono h fun r s' w => an5 w fun x keep y hos hB => e2a4 x fun v d e1 e2 e3 e4 => ex1 y fun ps hP => ⟨.inl ⟨v, d, [], e1, e2, e3, e4, fun _ => ⟨List.nodup_nil, fun _ h => nomatch h⟩⟩, ⟨fun b o e => ?_, fun b o e => ?_⟩, hos, hB⟩
  · by_cases hb : b = P
    · have t := hT _ (.head _)
      rw [hb] at e
      rw [show s₁.heap.get? P = some (tabObj #[]) from t.2] at e
      cases e
      refine .inr (.inl ⟨?_, rfl, #[], ps, rfl, by rw [Array.empty_append, hb]; exact hP⟩)
      rw [hb]
      exact (t.1.tab t.2).isCodeTable
    · exact .inl (keep b o hb e)
  · by_cases hb : b = P
    · exact ⟨_, by rw [hb]; exact hP⟩
    · exact ⟨o, keep b o hb e⟩
theorem news_swap {h₀ h : Heap} {L : Addr} {a b c e : Addr × Obj} (N : News h₀ L h [a, b, c, e]) : News h₀ L h [a, e, b, c] := fun q hq => N q (by
  simp only [List.mem_cons, List.not_mem_nil, or_false] at hq ⊢
  rcases hq with h | h | h | h
  · exact .inl h
  · exact .inr (.inr (.inr h))
  · exact .inr (.inl h)
  · exact .inr (.inr (.inl h)))
example : True := by (k_with "call ref" => (fail_if_success k_extra "36"); k_extra "st"); trivial
theorem law_of (PL : ∀ (xs : List Int) known st pcs known2 st2 pg2, xs.length ≤ 4 → Told xs known st pcs → Due xs known2 st2 pg2 → pageOf known st pcs = pg2 ++ catS ((st2.map (·.1)).map endD)) : PySem.Challenge.rw_pk0124_01.Holds := hd (by
  k_fill
  intro w s₀ s₁ mg mb G Y fa o pm cd doc dV kV ho hd' hcd hD hmg hg args vals as hpre hlay hrd hwl hlo
  have KX := km_in_of Y
  km_tabs Y
  have X := (Ground.X G).1
  have V := (Ground.X G).2
  refine Ground.open G ?_
  intro T B D TE TW
  try (refine guard_noD D (by decide +kernel) ?_; clear D)
  km_lay T hmg ho hd' cd
  clear hmg
  wrow_args hpre hlay hrd hwl hlo
  first | refine callC_kw (enter_call ?_) | refine enter_call ?_
  w_top on
  refine posts_bare hT9 ?_
  w_call any ho hd' hcd hD T F
  clear hd'
  kn_ghosts F T
  k_drop
  all_goals (try k_fold)
  k_steps
  rename News _ _ _ _ => kN
  rename Fr _ _ _ _ => kF
  rename IntsAre _ (List.take 3 _ ++ _) => hI
  rename s₁.gens = #[] => hg0
  have N0 := news_swap kN
  clear kN
  refine' told_ _ _ _ _ _ _ _ _ _ _ _ _ _ _ _ _ _ _ _ _ _ _ _ _ _ _ _ _ _ ?kB ?kF ?kX ?kN ?kT ?kc ?kd ?ku ?kb ?ki ?kl ?kC ?_
  case kB => assumption
  case kF => exact kF
  case kX => assumption
  case kN => exact N0
  case kT => assumption
  case kc => rfl
  case kd => decide
  case ku => decide
  case kb => exact AllBare.of_eq hg0
  case ki => exact hI
  case kl => rw [List.length_append, List.length_take]; simp; k_room
  case kC => exact codeHd
  intro known st pcs psT t h1 tk1 gens1 dr1 hT hB1 F1 N1
  k_steps
  refine' due_ _ _ _ _ _ _ _ _ _ _ _ _ _ _ _ _ _ _ _ _ _ _ _ _ _ _ _ _ ?kB ?kF ?kX ?kN ?kT ?kc ?kd ?ku ?kb ?ki ?kl ?_
  case kB => assumption
  case kF => exact F1
  case kX => assumption
  case kN => exact N1
  case kT => assumption
  case kc => rfl
  case kd => decide
  case ku => decide
  case kb => exact hB1
  case ki => exact hI
  case kl => rw [List.length_append, List.length_take]; simp; k_room
  intro known2 st2 pg2 t2 h2 tk2 gens2 dr2 hD hB2 F2 N2
  clear N1 F1 kF N0
  k_steps
  rw [PL _ _ _ _ _ _ _ (by rw [List.length_append, List.length_take]; simp; k_room) hT hD]
  rw [beq_self_eq_true]
  refine show Stop _ from ⟨⟨_, .bool true, rfl, fun _ => rfl, .bool _, ?post⟩, fun b o hb e => ?keep, ?tab, rfl, hB2⟩
  case keep => exact F2.keep b o (ghost_ne e (by simpa using hb))
  case tab => exact ⟨_, (N2 _ (.tail _ (.head _))).1⟩
  case post => exact postW_of (by wrow_shape) (by wtm_val) (by str_meet; first | done | w_fin))
end
section
example : True := by (k_with "36" => skip); trivial
/-! the plain law: the orders of words and of attributes -/
noncomputable def lowB (b : Nat) : Nat := if b = 256 then 127 else b % 128
noncomputable def plB (b : Nat) : Nat := if lowB b < 32 then lowB b + 64 else if lowB b < 95 then lowB b - 32 else if lowB b < 127 then lowB b + 2 else if b = 256 then 63 else 96
noncomputable def ltB (b : Nat) : Nat := if lowB b = 94 then 95 else plB b - (if 62 < plB b ∧ plB b < 96 then 1 else 0)
/-- _law_places(y)[0] as one number, of the word's class -/
noncomputable def N0 (b : Nat) : Nat := if 128 ≤ b ∧ b < 256 then (if lowB b = 125 then 2001 else 2000 + plB b + 2) else if lowB b = 33 then 2000 else if lowB b = 125 then 0 else (plB b + 1) * 1000
/-- _law_places(y)[1] as one number -/
noncomputable def N1 (b : Nat) : Nat := if 128 ≤ b ∧ b < 256 then 2000 + 2 * ltB b else if lowB b = 33 then 2253 else (ltB b + 1) * 1000
noncomputable def num (p : Int × Int) : Nat := (p.1 + 1).toNat * 1000 + p.2.toNat
noncomputable def repB (b : Nat) : Int := if b = 256 then 127 else if b = 127 then 383 else b
/-- two numbers that show the same word -/
noncomputable def Alike (y z : Int) : Prop := y % 256 = z % 256 ∧ y % 128 = z % 128 ∧ (y = 127 ↔ z = 127)
theorem alike (y : Int) : Alike y (repB (wcls y)) := by
  have e : ((y % 256).toNat : Int) = y % 256 := Int.toNat_of_nonneg (Int.emod_nonneg _ (by decide))
  have e2 : y % 256 % 128 = y % 128 := Int.emod_emod_of_dvd y (by decide)
  unfold Alike repB wcls
  by_cases h : y = 127
  · subst h; decide
  · rw [if_neg h, if_neg (show ¬ (y % 256).toNat = 256 from fun k => by rw [k] at e; exact absurd (e ▸ Int.emod_lt_of_pos y (by decide : (0 : Int) < 256)) (by decide))]
    by_cases h2 : (y % 256).toNat = 127
    · rw [if_pos h2]
      rw [h2] at e
      exact anI3 e.symm (by rw [← e2, ← e]; rfl) ⟨fun k => absurd k h, fun k => absurd k (by decide)⟩
    · rw [if_neg h2, e]
      exact anI3 (Int.emod_emod_of_dvd y (by decide)).symm e2.symm ⟨fun k => absurd k h, fun k => absurd (by rw [k]; rfl) h2⟩
theorem plN_c {y z : Int} (h : Alike y z) : plN y = plN z := by
  unfold plN
  simp only [h.2.1, h.2.2]
theorem pl0_c {y z : Int} (h : Alike y z) : pl0a y = pl0a z ∧ pl0b y = pl0b z := by
  unfold pl0a pl0b
  simp only [h.1, h.2.1, plN_c h, and_self]
theorem pl1_c {y z : Int} (h : Alike y z) : pl1a y = pl1a z ∧ pl1b y = pl1b z := by
  unfold pl1a pl1b ltN
  simp only [h.1, h.2.1, plN_c h, and_self]
theorem num_all : ∀ b, b < 257 → num (pl0a (repB b), pl0b (repB b)) = N0 b ∧ num (pl1a (repB b), pl1b (repB b)) = N1 b := by decide +kernel
theorem num0 (y : Int) : num (pl0a y, pl0b y) = N0 (wcls y) := by
  rw [(pl0_c (alike y)).1, (pl0_c (alike y)).2]
  exact (num_all _ (wcls_lt y)).1
theorem num1 (y : Int) : num (pl1a y, pl1b y) = N1 (wcls y) := by
  rw [(pl1_c (alike y)).1, (pl1_c (alike y)).2]
  exact (num_all _ (wcls_lt y)).2
theorem pl0b_lt (y : Int) : pl0b y < 1000 := by
  have := plN_range y
  unfold pl0b
  (repeat' split) <;> omega
theorem pl1b_lt (y : Int) : pl1b y < 1000 := by
  have := ltN_range y
  unfold pl1b
  (repeat' split) <;> omega
noncomputable def O1 : List Nat := [125, 32, 33, 253] ++ List.range' 160 63 ++ List.range' 128 32 ++ [255] ++ List.range' 223 30 ++ [254] ++ List.range' 34 61 ++ [256] ++ List.range' 0 32 ++ [127] ++ List.range' 95 30 ++ [126]
noncomputable def O3 : List Nat := [32] ++ List.range' 160 62 ++ List.range' 128 32 ++ [222, 255] ++ List.range' 223 30 ++ [33, 253, 254] ++ List.range' 34 60 ++ [256] ++ List.range' 0 32 ++ [94, 127] ++ List.range' 95 32
noncomputable def ltL : List Nat → List Nat → Bool
  | [], [] => false
  | [], _ :: _ => true
  | _ :: _, [] => false
  | a :: l, b :: r => if a < b then true else if a = b then ltL l r else false
theorem ltL_lt {l : List Nat} : ∀ {r : List Nat}, ltL l r = decide (l < r) := by
  induction l with
  | nil =>
    intro r
    cases r with
    | nil => rfl
    | cons b r => exact (decide_eq_true (List.nil_lt_cons b r)).symm
  | cons a l ih =>
    intro r
    cases r with
    | nil => exact (decide_eq_false (List.not_lt_nil _)).symm
    | cons b r =>
      show (if a < b then true else if a = b then ltL l r else false) = _
      by_cases h : a < b
      · rw [if_pos h, decide_eq_true (List.cons_lt_cons_iff.mpr (.inl h))]
      · rw [if_neg h]
        by_cases e : a = b
        · rw [if_pos e, ih]
          subst e
          by_cases h2 : l < r
          · rw [decide_eq_true h2, decide_eq_true (List.cons_lt_cons_iff.mpr (.inr ⟨rfl, h2⟩))]
          · rw [decide_eq_false h2, decide_eq_false fun k => h2 (((List.cons_lt_cons_iff.mp k).resolve_left h).2)]
        · rw [if_neg e, decide_eq_false fun k => (List.cons_lt_cons_iff.mp k).elim h fun k => e k.1]
noncomputable def kltN (a1 a2 b1 b2 : List Nat) : Bool := if a1 = b1 then ltL a2 b2 else ltL a1 b1
theorem mkS_inj {l r : List Nat} : mkS l = mkS r ↔ l = r := by
  unfold mkS
  constructor
  · intro h; injection h with h; injection h
  · intro h; rw [h]
theorem kltN_eq (a1 a2 b1 b2 : List Nat) : klt2 (mkS a1) (mkS a2) (mkS b1) (mkS b2) = kltN a1 a2 b1 b2 := by
  unfold klt2 kltN
  by_cases h : a1 = b1
  · rw [if_pos (mkS_inj.mpr h), if_pos h, ltL_lt]; rfl
  · rw [if_neg fun k => h (mkS_inj.mp k), if_neg h, ltL_lt]; rfl
theorem key_of {b : Nat} (hb : b < 257) {n : Nat} (hn : n ∈ lettersN) : kaOf (qnameOf (W b) (mkS [n])) = mkS (kaN b) ∧ kbOf (qnameOf (W b) (mkS [n])) = mkS (kbN b [n]) := by
  have h := List.all_eq_true.mp (List.all_eq_true.mp key_all b (List.mem_range.mpr hb)) n hn
  unfold chkW at h
  rw [decide_eq_true_eq] at h
  unfold kaOf kbOf
  rw [h]
  exact ⟨rfl, rfl⟩
/-- a chain -/
noncomputable def adj (r : Nat → Nat → Bool) : List Nat → Bool
  | [] => true
  | [_] => true
  | a :: b :: l => r a b && adj r (b :: l)
theorem adj_pw {r : Nat → Nat → Bool} (tr : ∀ a b c, r a b = true → r b c = true → r a c = true) {l : List Nat} : adj r l = true → l.Pairwise fun a b => r a b = true := by
  induction l with
  | nil => exact fun _ => .nil
  | cons a l ih =>
    intro h
    cases l with
    | nil => exact List.pairwise_singleton _ _
    | cons b l =>
      have h := Bool.and_eq_true_iff.mp (h : (r a b && adj r (b :: l)) = true)
      have ih := ih h.2
      refine .cons (fun c hc => ?_) ih
      rcases List.mem_cons.mp hc with rfl | hc
      · exact h.1
      · exact tr _ _ _ h.1 (List.rel_of_pairwise_cons ih hc)
theorem pw_or {r : Nat → Nat → Bool} {l : List Nat} : (l.Pairwise fun a b => r a b = true) → ∀ {a b}, a ∈ l → b ∈ l → a ≠ b → r a b = true ∨ r b a = true := by
  induction l with
  | nil => exact fun _ _ _ h => nomatch h
  | cons x l ih =>
    intro h a b ha hb hne
    rcases List.mem_cons.mp ha with e1 | ha2
    · rcases List.mem_cons.mp hb with e2 | hb2
      · exact absurd (e1.trans e2.symm) hne
      · rw [e1]; exact .inl (List.rel_of_pairwise_cons h hb2)
    · rcases List.mem_cons.mp hb with e2 | hb2
      · rw [e2]; exact .inr (List.rel_of_pairwise_cons h ha2)
      · exact ih (List.Pairwise.of_cons h) ha2 hb2 hne
noncomputable def r1 (a b : Nat) : Bool := decide (N0 a < N0 b) && lettersN.all fun m => lettersN.all fun n => kltN (kaN a) (kbN a [m]) (kaN b) (kbN b [n])
theorem r1_tr (a b c : Nat) (h1 : r1 a b = true) (h2 : r1 b c = true) : r1 a c = true := by
  unfold r1 at *
  simp only [Bool.and_eq_true, decide_eq_true_eq, List.all_eq_true] at *
  refine ⟨Nat.lt_trans h1.1 h2.1, fun m hm n hn => ?_⟩
  have k1 := h1.2 m hm 116 (.head _)
  have k2 := h2.2 116 (.head _) n hn
  rw [← kltN_eq] at *
  exact klt2_tr k1 k2
theorem O1_chain : adj r1 O1 = true := by decide +kernel
theorem O1_all : ((List.range 257).all fun b => O1.contains b) = true := by decide +kernel
/-- the words' order -/
theorem ord1 {a b : Nat} (ha : a < 257) (hb : b < 257) (hne : a ≠ b) : r1 a b = true ∨ r1 b a = true :=
  pw_or (adj_pw r1_tr O1_chain) (by simpa using List.all_eq_true.mp O1_all a (List.mem_range.mpr ha)) (by simpa using List.all_eq_true.mp O1_all b (List.mem_range.mpr hb)) hne
noncomputable def r3 (a b : Nat) : Bool := decide (N1 a < N1 b) && lettersN.all fun m => lettersN.all fun n => ltL (123 :: (wordN a ++ [125, m])) (123 :: (wordN b ++ [125, n]))
theorem r3_tr (a b c : Nat) (h1 : r3 a b = true) (h2 : r3 b c = true) : r3 a c = true := by
  unfold r3 at *
  simp only [Bool.and_eq_true, decide_eq_true_eq, List.all_eq_true] at *
  refine ⟨Nat.lt_trans h1.1 h2.1, fun m hm n hn => ?_⟩
  have k1 := h1.2 m hm 116 (.head _)
  have k2 := h2.2 116 (.head _) n hn
  rw [ltL_lt, decide_eq_true_eq] at *
  exact List.lt_trans k1 k2
theorem O3_chain : adj r3 O3 = true := by decide +kernel
theorem O3_all : ((List.range 257).all fun b => O3.contains b) = true := by decide +kernel
/-- the attributes' order -/
theorem ord3 {a b : Nat} (ha : a < 257) (hb : b < 257) (hne : a ≠ b) : r3 a b = true ∨ r3 b a = true :=
  pw_or (adj_pw r3_tr O3_chain) (by simpa using List.all_eq_true.mp O3_all a (List.mem_range.mpr ha)) (by simpa using List.all_eq_true.mp O3_all b (List.mem_range.mpr hb)) hne
end
section
theorem r1_of {a b : Nat} (ha : a < 257) (hb : b < 257) (h : N0 a < N0 b) : r1 a b = true := by
  have hne : a ≠ b := fun e => by rw [e] at h; exact Nat.lt_irrefl _ h
  refine (ord1 ha hb hne).resolve_right fun h2 => ?_
  unfold r1 at h2
  rw [Bool.and_eq_true, decide_eq_true_eq] at h2
  exact Nat.lt_asymm h h2.1
theorem told_lt {a b : Nat} (ha : a < 257) (hb : b < 257) (h : N0 a < N0 b) {l l' : Str} (hl : l ∈ letters) (hl' : l' ∈ letters) :
    klt2 (kaOf (qnameOf (W a) l)) (kbOf (qnameOf (W a) l)) (kaOf (qnameOf (W b) l')) (kbOf (qnameOf (W b) l')) = true := by
  (refine e1a2 (letter_of hl) fun m hm y3_ => ?_; obtain rfl := y3_)
  (refine e1a2 (letter_of hl') fun n hn y3_ => ?_; obtain rfl := y3_)
  have k := r1_of ha hb h
  unfold r1 at k
  rw [Bool.and_eq_true, List.all_eq_true] at k
  have k2 := List.all_eq_true.mp (k.2 m hm) n hn
  rw [(key_of ha hm).1, (key_of ha hm).2, (key_of hb hn).1, (key_of hb hn).2, kltN_eq]
  exact k2
theorem tS_mem : tS ∈ letters := by decide +kernel
theorem W_inj {a b : Nat} (ha : a < 257) (hb : b < 257) (h : W a = W b) : a = b := by
  refine Classical.byContradiction fun hne => ?_
  have key : ∀ {a b : Nat}, a < 257 → b < 257 → W a = W b → r1 a b = true → False := by
    intro a b ha hb h k
    have k1 : N0 a < N0 b := by
      unfold r1 at k
      rw [Bool.and_eq_true, decide_eq_true_eq] at k
      exact k.1
    have k2 := told_lt ha hb k1 tS_mem tS_mem
    rw [h, klt2_irr] at k2
    cases k2
  rcases ord1 ha hb hne with k | k
  · exact key ha hb h k
  · exact key hb ha h.symm k
theorem N0_inj {a b : Nat} (ha : a < 257) (hb : b < 257) (h : N0 a = N0 b) : a = b := by
  refine Classical.byContradiction fun hne => ?_
  rcases ord1 ha hb hne with k | k
  all_goals
    unfold r1 at k
    rw [Bool.and_eq_true, decide_eq_true_eq] at k
    omega
/-- words in the order of due's first places -/
noncomputable def le0 (u v : Str) : Prop := ∀ a b, a < 257 → b < 257 → u = W a → v = W b → N0 a ≤ N0 b
theorem le0_anti {u v : Str} (hu : u ∈ words) (hv : v ∈ words) (h1 : le0 u v) (h2 : le0 v u) : u = v := by
  (refine e1a2 (words_W hu) fun a ha y3_ => ?_; obtain rfl := y3_)
  (refine e1a2 (words_W hv) fun b hb y3_ => ?_; obtain rfl := y3_)
  rw [N0_inj ha hb (Nat.le_antisymm (h1 a b ha hb rfl rfl) (h2 b a hb ha rfl rfl))]
theorem nm_eq {a b c d : Nat} (hb : b < 1000) (hd : d < 1000) (h : a * 1000 + b = c * 1000 + d) : a = c ∧ b = d := by
  have k : ∀ {a b : Nat}, b < 1000 → (a * 1000 + b) / 1000 = a := fun {a b} hb => by rw [Nat.add_comm, Nat.add_mul_div_right _ _ (by decide), Nat.div_eq_of_lt hb, Nat.zero_add]
  have e : a = c := (k hb).symm.trans ((congrArg (· / 1000) h).trans (k hd))
  subst e; exact ⟨rfl, Nat.add_left_cancel h⟩
theorem nm_lt {a b c d : Nat} (hd : d < 1000) (h : a * 1000 + b < c * 1000 + d) : a < c ∨ a = c ∧ b < d := by
  rcases Nat.lt_trichotomy a c with k | k | k
  · exact .inl k
  · subst k; exact .inr ⟨rfl, Nat.lt_of_add_lt_add_left h⟩
  · exact absurd h (Nat.not_lt.mpr (Nat.le_of_lt (Nat.lt_of_lt_of_le (Nat.add_lt_add_left hd (c * 1000)) (Nat.le_trans (Nat.le_of_eq (Nat.succ_mul c 1000).symm) (Nat.le_trans (Nat.mul_le_mul_right 1000 k) (Nat.le_add_right _ b))))))
theorem num_lt {p q : Int × Int} (hp : PlOk p) (hq : PlOk q) (hp2 : p.2 < 1000) (hq2 : q.2 < 1000) (h : num p < num q) (u v : Str) : klt2 (encP p) u (encP q) v = true := by
  have hne : ¬ encP p = encP q := fun e => by rw [encP_inj hp hq e] at h; exact Nat.lt_irrefl _ h
  unfold klt2
  rw [if_neg hne, encP_lt hp hq]
  have k := nm_lt ((Int.toNat_lt hq.2).mpr hq2) h
  rw [tn_lt (enc1 hp.1) (enc1 hq.1), tn_lt hp.2 hq.2] at k
  rcases k with k | k
  · have k := Int.lt_of_add_lt_add_right k
    rw [if_neg (Int.ne_of_lt k)]; exact decide_eq_true k
  · rw [if_pos ((Int.add_left_inj 1).mp (tn_inj (enc1 hp.1) (enc1 hq.1) k.1))]; exact decide_eq_true k.2
theorem num_eq {p q : Int × Int} (hp : PlOk p) (hq : PlOk q) (hp2 : p.2 < 1000) (hq2 : q.2 < 1000) (h : num p = num q) : p = q :=
  an2 (nm_eq ((Int.toNat_lt hp.2).mpr hp2) ((Int.toNat_lt hq.2).mpr hq2) h) fun h1 h2 => pl_eq hp hq h1 h2
theorem names_words {x : Int} {names : List Str} (hp : names.Perm (qnameOf (wordOf x) tS :: (attrRows x).map (·.1))) : (names.map uOf).Perm ((ysOf x).map wordOf) := by
  have h := hp.map uOf
  have hd : Str.ofString "d" ∈ letters := by decide +kernel
  have hc : Str.ofString "c" ∈ letters := by decide +kernel
  have hb : Str.ofString "b" ∈ letters := by decide +kernel
  have ha : Str.ofString "a" ∈ letters := by decide +kernel
  have e : (qnameOf (wordOf x) tS :: (attrRows x).map (·.1)).map uOf = (ysOf x).map wordOf := by
    unfold attrRows ysOf
    simp only [List.map_cons, List.map_nil, uOf_q (wordOf_mem _) tS_mem, uOf_q (wordOf_mem _) hd, uOf_q (wordOf_mem _) hc, uOf_q (wordOf_mem _) hb, uOf_q (wordOf_mem _) ha]
  rw [e] at h
  exact h
theorem words_eq {x : Int} {names : List Str} {rows : List ((Int × Int) × Str)} (hp : names.Perm (qnameOf (wordOf x) tS :: (attrRows x).map (·.1))) (hs : names.Pairwise (fun x y => klt2 (kaOf y) (kbOf y) (kaOf x) (kbOf x) = false))
    (hp2 : rows.Perm ((ysOf x).map rowY)) (hs2 : SortedP rows) : names.map uOf = rows.map (·.2) := by
  have hpn := names_words hp
  have hpr : (rows.map (·.2)).Perm ((ysOf x).map wordOf) := by
    have h := hp2.map (·.2)
    rw [List.map_map] at h
    exact h
  have hw : ∀ u ∈ (ysOf x).map wordOf, u ∈ words := fun u hu => by (refine e1a2 (List.mem_map.mp hu) fun y _ y3_ => ?_; obtain rfl := y3_); exact wordOf_mem y
  refine List.Perm.eq_of_pairwise (le := le0) (fun u v hu hv h1 h2 => le0_anti (hw u (hpn.mem_iff.mp hu)) (hw v (hpr.mem_iff.mp hv)) h1 h2) ?_ ?_ (hpn.trans hpr.symm)
  · refine List.pairwise_map.mpr (hs.imp_of_mem fun {n n'} hn hn' h => ?_)
    (refine ex1 (turn_names x n (hp.mem_iff.mp hn)) fun u w2_ => an2 w2_ fun hu w4_ => ex1 w4_ fun l w6_ => an2 w6_ fun hl y7_ => ?_; clear w2_ w4_ w6_; obtain rfl := y7_)
    (refine ex1 (turn_names x n' (hp.mem_iff.mp hn')) fun u' w2_ => an2 w2_ fun hu' w4_ => ex1 w4_ fun l' w6_ => an2 w6_ fun hl' y7_ => ?_; clear w2_ w4_ w6_; obtain rfl := y7_)
    rw [uOf_q hu hl, uOf_q hu' hl']
    rintro a b ha hb rfl rfl
    refine Nat.le_of_not_lt fun k => ?_
    rw [told_lt hb ha k hl' hl] at h
    cases h
  · refine List.pairwise_map.mpr (hs2.imp_of_mem fun {n n'} hn hn' h => ?_)
    (refine e1a2 (List.mem_map.mp (hp2.mem_iff.mp hn)) fun y _ y3_ => ?_; obtain rfl := y3_)
    (refine e1a2 (List.mem_map.mp (hp2.mem_iff.mp hn')) fun y' _ y3_ => ?_; obtain rfl := y3_)
    intro a b ha hb e1 e2
    have e1 : a = wcls y := W_inj ha (wcls_lt y) e1.symm
    have e2 : b = wcls y' := W_inj hb (wcls_lt y') e2.symm
    rw [e1, e2, ← num0, ← num0]
    refine Nat.le_of_not_lt fun k => ?_
    have k2 := num_lt (pl0_ok y') (pl0_ok y) (pl0b_lt y') (pl0b_lt y) k (wordOf y') (wordOf y)
    have h' : klt2 (encP (pl0a y', pl0b y')) (wordOf y') (encP (pl0a y, pl0b y)) (wordOf y) = false := h
    rw [k2] at h'
    cases h'
theorem q_txt (w : List Nat) (m : Nat) : qnameOf (mkS w) (mkS [m]) = mkS (123 :: (w ++ [125, m])) := by
  have e1 : Str.ofString "{" = mkS [123] := by decide +kernel
  have e2 : Str.ofString "}" = mkS [125] := by decide +kernel
  have app : ∀ l r : List Nat, mkS l ++ mkS r = mkS (l ++ r) := fun l r => by
    exact congrArg Str.mk (List.append_toArray l r)
  unfold qnameOf
  rw [e1, e2, app, app, app]
  first | exact congrArg (fun z => mkS (123 :: z)) (List.append_assoc w [125] [m]) | (congr 1; simp)
theorem attr_rows (x : Int) : attrRows x = (lrows x).map fun q => (qnameOf (wordOf q.2.1) q.1, q.2.2) := rfl
theorem lrows_letter {x : Int} {q : Str × Int × Str} (h : q ∈ lrows x) : q.1 ∈ letters := by
  show q.1 ∈ Str.ofString "t" :: (lrows x).map fun q => q.1
  exact .tail _ (List.mem_map_of_mem h)
theorem uniq_of {α β : Type} {f : α → β} {l : List α} (hn : (l.map f).Nodup) : ∀ {q r : α}, q ∈ l → r ∈ l → f q = f r → q = r := by
  induction l with
  | nil => exact fun h => nomatch h
  | cons a l ih =>
    intro q r hq hr e
    have hn := List.nodup_cons.mp hn
    rcases List.mem_cons.mp hq with h1 | h1
    · rcases List.mem_cons.mp hr with h2 | h2
      · exact h1.trans h2.symm
      · exact absurd (List.mem_map.mpr ⟨r, h2, e.symm.trans (congrArg f h1)⟩) hn.1
    · rcases List.mem_cons.mp hr with h2 | h2
      · exact absurd (List.mem_map.mpr ⟨q, h1, e.trans (congrArg f h2)⟩) hn.1
      · exact ih hn.2 h1 h2 e
theorem lrows_uniq {x : Int} {q r : Str × Int × Str} (hq : q ∈ lrows x) (hr : r ∈ lrows x) (h : q.1 = r.1) : q = r :=
  uniq_of (f := fun q : Str × Int × Str => q.1) (l := lrows x) (show [Str.ofString "d", Str.ofString "c", Str.ofString "b", Str.ofString "a"].Nodup by decide +kernel) hq hr h
/-- letters in the order of due's second places -/
noncomputable def le1 (x : Int) (l l' : Str) : Prop := ∀ q q', q ∈ lrows x → q' ∈ lrows x → q.1 = l → q'.1 = l' → N1 (wcls q.2.1) < N1 (wcls q'.2.1) ∨ (N1 (wcls q.2.1) = N1 (wcls q'.2.1) ∧ ¬ l'.cps.toList < l.cps.toList)
theorem klt2_of_lt {a b c d : Str} (h : a.cps.toList < c.cps.toList) : klt2 a b c d = true := by
  unfold klt2
  rw [if_neg (fun e => by rw [e] at h; exact List.lt_irrefl _ h)]
  exact decide_eq_true h
theorem letters_eq {x : Int} {krows : List (Str × Str)} {ar : List ((Int × Int) × Str)} (hp : krows.Perm (attrRows x)) (hs : SortedR krows) (hp2 : ar.Perm ((lrows x).map rowA)) (hs2 : SortedP ar) : krows.map (fun r => lOf r.1) = ar.map (·.2) := by
  have hpk : (krows.map (fun r => lOf r.1)).Perm ((lrows x).map (·.1)) := by
    have h := hp.map (fun r => lOf r.1)
    rw [attr_rows, List.map_map] at h
    refine h.trans (List.Perm.of_eq (List.map_congr_left fun q hq => ?_))
    exact lOf_q (wordOf_mem _) (lrows_letter hq)
  have hpa : (ar.map (·.2)).Perm ((lrows x).map (·.1)) := by
    have h := hp2.map (·.2)
    rw [List.map_map] at h
    exact h
  refine List.Perm.eq_of_pairwise (le := le1 x) (fun l l' hl hl' h1 h2 => ?_) ?_ ?_ (hpk.trans hpa.symm)
  · (refine e1a2 (List.mem_map.mp (hpk.mem_iff.mp hl)) fun q hq y3_ => ?_; obtain rfl := y3_)
    (refine e1a2 (List.mem_map.mp (hpa.mem_iff.mp hl')) fun q' hq' y3_ => ?_; obtain rfl := y3_)
    have k1 := h1 q q' hq hq' rfl rfl
    have k2 := h2 q' q hq' hq rfl rfl
    exact k1.elim (fun k1 => k2.elim (fun k2 => absurd (Nat.lt_trans k1 k2) (Nat.lt_irrefl _)) fun k2 => absurd k1 (Nat.not_lt.mpr (Nat.le_of_eq k2.1))) fun k1 => k2.elim (fun k2 => absurd k2 (Nat.not_lt.mpr (Nat.le_of_eq k1.1))) fun k2 => str_eq_of k2.2 k1.2
  · refine List.pairwise_map.mpr (hs.imp_of_mem fun {n n'} hn hn' h => ?_)
    (refine e1a2 (List.mem_map.mp (attr_rows x ▸ hp.mem_iff.mp hn)) fun q hq y3_ => ?_; obtain rfl := y3_)
    (refine e1a2 (List.mem_map.mp (attr_rows x ▸ hp.mem_iff.mp hn')) fun q' hq' y3_ => ?_; obtain rfl := y3_)
    dsimp only at h ⊢
    rw [lOf_q (wordOf_mem _) (lrows_letter hq), lOf_q (wordOf_mem _) (lrows_letter hq')]
    intro r r' hr hr' e1 e2
    obtain rfl := lrows_uniq hr hq e1
    obtain rfl := lrows_uniq hr' hq' e2
    (refine e1a2 (letter_of (lrows_letter hq)) fun m hm em => ?_)
    (refine e1a2 (letter_of (lrows_letter hq')) fun n hn2 en => ?_)
    have t1 : (qnameOf (wordOf r.2.1) r.1).cps.toList = 123 :: (wordN (wcls r.2.1) ++ [125, m]) := by
      rw [em]; unfold wordOf; rw [q_txt]; rfl
    have t2 : (qnameOf (wordOf r'.2.1) r'.1).cps.toList = 123 :: (wordN (wcls r'.2.1) ++ [125, n]) := by
      rw [en]; unfold wordOf; rw [q_txt]; rfl
    by_cases e : wcls r.2.1 = wcls r'.2.1
    · refine .inr ⟨by rw [e], fun k => ?_⟩
      have k2 : (qnameOf (wordOf r'.2.1) r'.1).cps.toList < (qnameOf (wordOf r.2.1) r.1).cps.toList := by
        rw [t1, t2, e]
        rw [em, en] at k
        have k' : [n] < [m] := k
        have k3 : 123 :: (wordN (wcls r'.2.1) ++ [125]) ++ [n] < 123 :: (wordN (wcls r'.2.1) ++ [125]) ++ [m] := List.append_left_lt k'
        simpa using k3
      rw [klt2_of_lt k2] at h
      cases h
    · rcases ord3 (wcls_lt _) (wcls_lt _) e with k | k
      · unfold r3 at k
        rw [Bool.and_eq_true, decide_eq_true_eq] at k
        exact .inl k.1
      · unfold r3 at k
        rw [Bool.and_eq_true, List.all_eq_true] at k
        have k3 := List.all_eq_true.mp (k.2 n hn2) m hm
        rw [ltL_lt, decide_eq_true_eq] at k3
        rw [klt2_of_lt (by rw [t1, t2]; exact k3)] at h
        cases h
  · refine List.pairwise_map.mpr (hs2.imp_of_mem fun {n n'} hn hn' h => ?_)
    (refine e1a2 (List.mem_map.mp (hp2.mem_iff.mp hn)) fun q hq y3_ => ?_; obtain rfl := y3_)
    (refine e1a2 (List.mem_map.mp (hp2.mem_iff.mp hn')) fun q' hq' y3_ => ?_; obtain rfl := y3_)
    intro r r' hr hr' e1 e2
    obtain rfl := lrows_uniq hr hq e1
    obtain rfl := lrows_uniq hr' hq' e2
    have h' : klt2 (encP (pl1a r'.2.1, pl1b r'.2.1)) r'.1 (encP (pl1a r.2.1, pl1b r.2.1)) r.1 = false := h
    rw [← num1, ← num1]
    rcases Nat.lt_trichotomy (num (pl1a r.2.1, pl1b r.2.1)) (num (pl1a r'.2.1, pl1b r'.2.1)) with k | k | k
    · exact .inl k
    · refine .inr ⟨k, fun k2 => ?_⟩
      have e := num_eq (pl1_ok r.2.1) (pl1_ok r'.2.1) (pl1b_lt _) (pl1b_lt _) k
      rw [e] at h'
      unfold klt2 at h'
      rw [if_pos rfl] at h'
      exact of_decide_eq_false h' k2
    · rw [num_lt (pl1_ok r'.2.1) (pl1_ok r.2.1) (pl1b_lt _) (pl1b_lt _) k] at h'
      cases h'
end
section
theorem empty_app (s : Str) : Str.empty ++ s = s := by
  cases s
  show Str.mk (#[] ++ _) = _
  simp
theorem catS_app (a b : List Str) : catS (a ++ b) = catS a ++ catS b := by
  unfold catS
  rw [List.flatMap_append]
  show _ = Str.mk (_ ++ _)
  simp
theorem catS_one (a : Str) : catS [a] = a := by
  unfold catS
  cases a
  simp
theorem fmt_eq (q : Str × Str) : fmtRow q = fmtD q := by
  unfold fmtRow fmtD
  rw [empty_app]
theorem pnm_t (n : Str) : pnm n tS = n ++ Str.ofString ":t" := by
  have e : Str.ofString ":" ++ tS = Str.ofString ":t" := by decide +kernel
  unfold pnm
  rw [empty_app, Str.append_assoc, e]
theorem endS_eq (known : List Str) (u : Str) : endS_ known u = endD (pnm (nmK known u) tS) := by
  unfold endS_ endD
  rw [empty_app]
theorem endsD_cat : ∀ (ns : List Str) (p : Str), endsD p ns = p ++ catS (ns.map endD)
  | [], p => by
    show p = p ++ catS []
    cases p
    show Str.mk _ = Str.mk (_ ++ #[])
    simp
  | n :: ns, p => by
    show endsD (p ++ Str.ofString "</" ++ n ++ Str.ofString ">") ns = _
    rw [endsD_cat ns, List.map_cons, show endD n :: ns.map endD = [endD n] ++ ns.map endD from rfl, catS_app, catS_one]
    unfold endD
    simp only [Str.append_assoc]
theorem rows_anti {x y : Str × Str} (h1 : klt2 y.1 y.2 x.1 x.2 = false) (h2 : klt2 x.1 x.2 y.1 y.2 = false) : x = y := by
  obtain ⟨x1, x2⟩ := x
  obtain ⟨y1, y2⟩ := y
  unfold klt2 at h1 h2
  dsimp only at h1 h2
  by_cases e : x1 = y1
  · rw [if_pos e.symm] at h1
    rw [if_pos e] at h2
    rw [e, str_eq_of (of_decide_eq_false h2) (of_decide_eq_false h1)]
  · rw [if_neg (fun k => e k.symm)] at h1
    rw [if_neg e] at h2
    exact absurd (str_eq_of (of_decide_eq_false h2) (of_decide_eq_false h1)) e
theorem sorted_eq {l r : List (Str × Str)} (hp : l.Perm r) (h1 : SortedR l) (h2 : SortedR r) : l = r :=
  List.Perm.eq_of_pairwise (le := fun x y => klt2 y.1 y.2 x.1 x.2 = false) (fun _ _ _ _ h1 h2 => rows_anti h1 h2) h1 h2 hp
theorem nmK_foldl {u : Str} : ∀ {ws known : List Str}, u ∈ known → nmK (ws.foldl addK known) u = nmK known u
  | [], _, _ => rfl
  | w :: ws, known, h => by
    show nmK (ws.foldl addK (addK known w)) u = _
    rw [nmK_foldl (addK_sub h), nmK_add h]
theorem foldF_eq {lw : List Str} {scs : List (List Str)} (h : ∀ u, u ∈ lw ↔ ∃ q ∈ scs, u ∈ q) : ∀ (ws fr : List Str), ws.foldl (fun t u => addT t lw u) fr = ws.foldl (frK scs) fr
  | [], _ => rfl
  | u :: ws, fr => by
    show ws.foldl _ (addT fr lw u) = ws.foldl _ (frK scs fr u)
    have e : addT fr lw u = frK scs fr u := by
      unfold addT frK
      by_cases k : u ∈ fr ++ lw
      · rw [if_pos k, if_neg]
        intro hz1_; (refine an2 hz1_ fun k1 k2 => ?_; clear hz1_)
        rcases List.mem_append.mp k with k3 | k3
        · exact k1 k3
        · (refine e1a2 ((h u).mp k3) fun q hq hu => ?_)
          exact k2 q hq hu
      · rw [if_neg k, if_pos]
        refine ⟨fun k1 => k (List.mem_append_left _ k1), fun q hq hu => k (List.mem_append_right _ ((h u).mpr ⟨q, hq, hu⟩))⟩
    rw [e]
    exact foldF_eq h ws _
/-- what told and due have in common after the same numbers -/
structure Same (known : List Str) (st : List (Str × List Str)) (pcs : List Str) (known2 : List Str) (st2 : List (Str × List Str)) (pg : Str) : Prop where
  k : known2 = known
  fr : st2.map (·.2) = st.map (·.2)
  nm : st2.map (·.1) = st.map fun e => pnm (nmK known e.1) tS
  sub : ∀ e ∈ st, e.1 ∈ known
  pg : pg = catS pcs
theorem same_turn {x : Int} {known known2 known2' : List Str} {st st2 st2' : List (Str × List Str)} {pcs : List Str} {pg pg' : Str} {names : List Str} {krows arows : List (Str × Str)} (S : Same known st pcs known2 st2 pg)
    (sf : SF x known ((st.drop (closeN x st.length)).flatMap (·.2)) names krows arows) (dt : DTurn x known2 st2 pg known2' st2' pg') :
    Same (stK known names) ((wordOf x, stT [] ((st.drop (closeN x st.length)).flatMap (·.2)) names) :: st.drop (closeN x st.length)) (pcs ++ ((st.take (closeN x st.length)).map fun e => endS_ known e.1) ++ startP x known names krows arows) known2' st2' pg' := by
  obtain ⟨s1, s2, s3, s4, s5⟩ := S
  subst s1 s5
  (refine an6 sf fun a1 a2 a3 a4 a5 a6 => ?_; try clear sf)
  (refine e4a10 dt fun rows fr dr ar b1 b2 b3 b4 b5 b6 b7 b8 b9 b10 => ?_; try clear dt)
  have hlen : st2.length = st.length := by
    have := congrArg List.length s2
    rwa [List.length_map, List.length_map] at this
  rw [hlen] at b4 b9 b10
  generalize closeN x st.length = n at *
  have hw : names.map uOf = rows.map (·.2) := words_eq a1 a2 b1 b2
  have ek : stK known2 names = known2' := by
    rw [b3, ← hw, List.foldl_map]; rfl
  have ef : stT [] ((st.drop n).flatMap (·.2)) names = fr := by
    have e : stT [] ((st.drop n).flatMap (·.2)) names = (names.map uOf).foldl (fun t u => addT t ((st.drop n).flatMap (·.2)) u) [] := by
      rw [List.foldl_map]; rfl
    rw [e, b4, hw]
    refine foldF_eq (fun u => ?_) _ _
    rw [List.map_drop, s2, ← List.map_drop]
    simp only [List.mem_flatMap, List.mem_reverse, List.mem_map]
    constructor
    · intro hz1_; (refine e1a2 hz1_ fun e he hu => ?_; clear hz1_)
      exact ⟨e.2, ⟨e, he, rfl⟩, hu⟩
    · intro hz1_; (refine e1a2 hz1_ fun _ y3_ hu => ?_; clear hz1_; refine e1a2 y3_ fun e he y6_ => ?_; clear y3_; obtain rfl := y6_)
      exact ⟨e, he, hu⟩
  have exk : wordOf x ∈ known2' := by rw [b3]; exact foldK_mem (.inl (ysOf_rows (.head _) b1))
  have er : arows = dr := by
    rw [ek, ef] at a5
    exact sorted_eq (a5.trans b5.symm) a6 b6
  have el := letters_eq a3 a4 b7 b8
  have ei : itRows known2' krows = ar.map (outA known2' x) := by
    have e1 : itRows known2' krows = (krows.map fun r => lOf r.1).map fun l => (nmK known2' ((fA x l).headD Str.empty) ++ Str.ofString ":" ++ l, (fA x l).getD 1 Str.empty) := by
      unfold itRows
      rw [List.map_map]
      refine List.map_congr_left fun r hr => ?_
      (refine e1a2 (List.mem_map.mp (attr_rows x ▸ a3.mem_iff.mp hr)) fun q hq y3_ => ?_; obtain rfl := y3_)
      show (pnm (nmK known2' (uOf (qnameOf (wordOf q.2.1) q.1))) (lOf (qnameOf (wordOf q.2.1) q.1)), q.2.2) = _
      simp only [Function.comp, lOf_q (wordOf_mem _) (lrows_letter hq), uOf_q (wordOf_mem _) (lrows_letter hq), fA_at hq]
      unfold pnm
      rw [empty_app]
      rfl
    rw [e1, el, List.map_map]
    rfl
  have hst : ∀ e ∈ st, nmK known2' e.1 = nmK known2 e.1 := fun e he => by rw [b3]; exact nmK_foldl (s4 e he)
  refine ⟨ek.symm, ?_, ?_, ?_, ?_⟩
  · rw [b9, List.map_cons, List.map_cons, List.map_drop, s2, ← List.map_drop, ef]
  · rw [b9, List.map_cons, List.map_cons, List.map_drop, s3, ← List.map_drop, ek, pnm_t]
    refine congrArg _ (List.map_congr_left fun e he => ?_)
    rw [hst e (List.mem_of_mem_drop he)]
  · rw [ek]
    intro e he
    rcases List.mem_cons.mp he with rfl | he
    · exact exk
    · rw [b3]; exact foldK_mem (.inr (s4 e (List.mem_of_mem_drop he)))
  · rw [b10, endsD_cat, catS_app, catS_app, s3, ← List.map_take]
    unfold startP
    rw [ek, er, ei, pnm_t]
    have e1 : ((st.take n).map fun e => endS_ known2 e.1) = ((st.take n).map fun e => pnm (nmK known2 e.1) tS).map endD := by
      rw [List.map_map]
      exact List.map_congr_left fun e _ => endS_eq _ _
    have e2 : (dr ++ ar.map (outA known2' x)).map fmtRow = (dr ++ ar.map (outA known2' x)).map fmtD := List.map_congr_left fun q _ => fmt_eq q
    rw [e1, e2]
    have e3 : ∀ a b c : Str, catS [a, b, c] = a ++ (b ++ c) := fun a b c => by
      rw [show [a, b, c] = [a] ++ ([b] ++ [c]) from rfl, catS_app, catS_app, catS_one, catS_one, catS_one]
    rw [e3]
    simp only [Str.append_assoc]
theorem snoc_inj {α : Type} {a b : List α} {x y : α} (h : a ++ [x] = b ++ [y]) : a = b ∧ x = y := by
  have h2 := List.append_inj' h rfl
  exact ⟨h2.1, by simpa using h2.2⟩
theorem same {xs : List Int} {known : List Str} {st : List (Str × List Str)} {pcs : List Str} (h : Told xs known st pcs) : ∀ {known2 : List Str} {st2 : List (Str × List Str)} {pg : Str}, Due xs known2 st2 pg → Same known st pcs known2 st2 pg := by
  induction h with
  | nil =>
    intro known2 st2 pg d
    generalize hx : ([] : List Int) = xs at d
    cases d with
    | nil => exact ⟨rfl, rfl, rfl, (fun _ h => nomatch h), by decide +kernel⟩
    | turn x d t => simp at hx
  | turn x names krows arows h sf ih =>
    intro known2 st2 pg d
    generalize hx : _ ++ [x] = ys at d
    cases d with
    | nil => simp at hx
    | turn y d t =>
      (refine an2 (snoc_inj hx) fun y1_ y2_ => ?_; obtain rfl := y1_; obtain rfl := y2_)
      exact same_turn (ih d) sf t
theorem plain_law (xs : List Int) (known : List Str) (st : List (Str × List Str)) (pcs known2 : List Str) (st2 : List (Str × List Str)) (pg2 : Str) (_ : xs.length ≤ 4) (h : Told xs known st pcs) (d : Due xs known2 st2 pg2) : pageOf known st pcs = pg2 ++ catS ((st2.map (·.1)).map endD) := by
  obtain ⟨s1, s2, s3, s4, s5⟩ := same h d
  unfold pageOf
  rw [catS_app, s5, s3, List.map_map]
  have e1 : (st.map fun e => endS_ known e.1) = st.map (endD ∘ fun e => pnm (nmK known e.1) tS) := List.map_congr_left fun e _ => endS_eq _ _
  rw [e1]
end
section
theorem whole : PySem.Challenge.rw_pk0124_01.Holds := law_of plain_law
end
end Mine
theorem PySem.Challenge.cw_pk0124_01_holds : PySem.Challenge.rw_pk0124_01.Holds :=
  Mine.whole

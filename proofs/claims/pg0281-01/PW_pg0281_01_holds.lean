import PyProof.Rows.All
import Wide.All
import OpenK.AllK
import Wide.FinOn
import PySem.Challenge.RW_pg0281_01
set_option Elab.async false
set_option linter.unusedVariables false
set_option linter.unusedSimpArgs false
set_option maxRecDepth 100000
set_option maxHeartbeats 4000000
set_option pp.deepTerms false
set_option pp.maxSteps 2000
open PySem PySem.W PyProof.Rows
namespace Mine
section
theorem xe02 {A0 A1 X : Prop} (h : A0 ∧ A1) (k : A0 → A1 → X) : X := k h.1 h.2
theorem xe03 {A0 A1 A2 X : Prop} (h : A0 ∧ A1 ∧ A2) (k : A0 → A1 → A2 → X) : X := xe02 h fun a h => xe02 h (k a)
theorem xe04 {A0 A1 A2 A3 X : Prop} (h : A0 ∧ A1 ∧ A2 ∧ A3) (k : A0 → A1 → A2 → A3 → X) : X := xe02 h fun a h => xe03 h (k a)
theorem xe05 {A0 A1 A2 A3 A4 X : Prop} (h : A0 ∧ A1 ∧ A2 ∧ A3 ∧ A4) (k : A0 → A1 → A2 → A3 → A4 → X) : X := xe02 h fun a h => xe04 h (k a)
theorem xe06 {A0 A1 A2 A3 A4 A5 X : Prop} (h : A0 ∧ A1 ∧ A2 ∧ A3 ∧ A4 ∧ A5) (k : A0 → A1 → A2 → A3 → A4 → A5 → X) : X := xe02 h fun a h => xe05 h (k a)
theorem xe07 {A0 A1 A2 A3 A4 A5 A6 X : Prop} (h : A0 ∧ A1 ∧ A2 ∧ A3 ∧ A4 ∧ A5 ∧ A6) (k : A0 → A1 → A2 → A3 → A4 → A5 → A6 → X) : X := xe02 h fun a h => xe06 h (k a)
theorem xe08 {A0 A1 A2 A3 A4 A5 A6 A7 X : Prop} (h : A0 ∧ A1 ∧ A2 ∧ A3 ∧ A4 ∧ A5 ∧ A6 ∧ A7) (k : A0 → A1 → A2 → A3 → A4 → A5 → A6 → A7 → X) : X := xe02 h fun a h => xe07 h (k a)
theorem xe09 {A0 A1 A2 A3 A4 A5 A6 A7 A8 X : Prop} (h : A0 ∧ A1 ∧ A2 ∧ A3 ∧ A4 ∧ A5 ∧ A6 ∧ A7 ∧ A8) (k : A0 → A1 → A2 → A3 → A4 → A5 → A6 → A7 → A8 → X) : X := xe02 h fun a h => xe08 h (k a)
theorem xe010 {A0 A1 A2 A3 A4 A5 A6 A7 A8 A9 X : Prop} (h : A0 ∧ A1 ∧ A2 ∧ A3 ∧ A4 ∧ A5 ∧ A6 ∧ A7 ∧ A8 ∧ A9) (k : A0 → A1 → A2 → A3 → A4 → A5 → A6 → A7 → A8 → A9 → X) : X := xe02 h fun a h => xe09 h (k a)
theorem xe011 {A0 A1 A2 A3 A4 A5 A6 A7 A8 A9 A10 X : Prop} (h : A0 ∧ A1 ∧ A2 ∧ A3 ∧ A4 ∧ A5 ∧ A6 ∧ A7 ∧ A8 ∧ A9 ∧ A10) (k : A0 → A1 → A2 → A3 → A4 → A5 → A6 → A7 → A8 → A9 → A10 → X) : X := xe02 h fun a h => xe010 h (k a)
theorem xe012 {A0 A1 A2 A3 A4 A5 A6 A7 A8 A9 A10 A11 X : Prop} (h : A0 ∧ A1 ∧ A2 ∧ A3 ∧ A4 ∧ A5 ∧ A6 ∧ A7 ∧ A8 ∧ A9 ∧ A10 ∧ A11) (k : A0 → A1 → A2 → A3 → A4 → A5 → A6 → A7 → A8 → A9 → A10 → A11 → X) : X := xe02 h fun a h => xe011 h (k a)
theorem xe11 {α0 : Type} {A0 : α0 → Prop} {X : Prop} (h : ∃ x0, A0 x0) (k : ∀ x0, A0 x0 → X) : X := h.elim fun x h => k x h
theorem xe12 {α0 : Type} {A0 A1 : α0 → Prop} {X : Prop} (h : ∃ x0, A0 x0 ∧ A1 x0) (k : ∀ x0, A0 x0 → A1 x0 → X) : X := h.elim fun x h => xe02 h (k x)
theorem xe13 {α0 : Type} {A0 A1 A2 : α0 → Prop} {X : Prop} (h : ∃ x0, A0 x0 ∧ A1 x0 ∧ A2 x0) (k : ∀ x0, A0 x0 → A1 x0 → A2 x0 → X) : X := h.elim fun x h => xe03 h (k x)
theorem xe14 {α0 : Type} {A0 A1 A2 A3 : α0 → Prop} {X : Prop} (h : ∃ x0, A0 x0 ∧ A1 x0 ∧ A2 x0 ∧ A3 x0) (k : ∀ x0, A0 x0 → A1 x0 → A2 x0 → A3 x0 → X) : X := h.elim fun x h => xe04 h (k x)
theorem xe15 {α0 : Type} {A0 A1 A2 A3 A4 : α0 → Prop} {X : Prop} (h : ∃ x0, A0 x0 ∧ A1 x0 ∧ A2 x0 ∧ A3 x0 ∧ A4 x0) (k : ∀ x0, A0 x0 → A1 x0 → A2 x0 → A3 x0 → A4 x0 → X) : X := h.elim fun x h => xe05 h (k x)
theorem xe16 {α0 : Type} {A0 A1 A2 A3 A4 A5 : α0 → Prop} {X : Prop} (h : ∃ x0, A0 x0 ∧ A1 x0 ∧ A2 x0 ∧ A3 x0 ∧ A4 x0 ∧ A5 x0) (k : ∀ x0, A0 x0 → A1 x0 → A2 x0 → A3 x0 → A4 x0 → A5 x0 → X) : X := h.elim fun x h => xe06 h (k x)
theorem xe17 {α0 : Type} {A0 A1 A2 A3 A4 A5 A6 : α0 → Prop} {X : Prop} (h : ∃ x0, A0 x0 ∧ A1 x0 ∧ A2 x0 ∧ A3 x0 ∧ A4 x0 ∧ A5 x0 ∧ A6 x0) (k : ∀ x0, A0 x0 → A1 x0 → A2 x0 → A3 x0 → A4 x0 → A5 x0 → A6 x0 → X) : X := h.elim fun x h => xe07 h (k x)
theorem xe19 {α0 : Type} {A0 A1 A2 A3 A4 A5 A6 A7 A8 : α0 → Prop} {X : Prop} (h : ∃ x0, A0 x0 ∧ A1 x0 ∧ A2 x0 ∧ A3 x0 ∧ A4 x0 ∧ A5 x0 ∧ A6 x0 ∧ A7 x0 ∧ A8 x0) (k : ∀ x0, A0 x0 → A1 x0 → A2 x0 → A3 x0 → A4 x0 → A5 x0 → A6 x0 → A7 x0 → A8 x0 → X) : X := h.elim fun x h => xe09 h (k x)
theorem xe112 {α0 : Type} {A0 A1 A2 A3 A4 A5 A6 A7 A8 A9 A10 A11 : α0 → Prop} {X : Prop} (h : ∃ x0, A0 x0 ∧ A1 x0 ∧ A2 x0 ∧ A3 x0 ∧ A4 x0 ∧ A5 x0 ∧ A6 x0 ∧ A7 x0 ∧ A8 x0 ∧ A9 x0 ∧ A10 x0 ∧ A11 x0) (k : ∀ x0, A0 x0 → A1 x0 → A2 x0 → A3 x0 → A4 x0 → A5 x0 → A6 x0 → A7 x0 → A8 x0 → A9 x0 → A10 x0 → A11 x0 → X) : X := h.elim fun x h => xe012 h (k x)
theorem xe21 {α0 α1 : Type} {A0 : α0 → α1 → Prop} {X : Prop} (h : ∃ x0 x1, A0 x0 x1) (k : ∀ x0 x1, A0 x0 x1 → X) : X := h.elim fun x h => xe11 h (k x)
theorem xe22 {α0 α1 : Type} {A0 A1 : α0 → α1 → Prop} {X : Prop} (h : ∃ x0 x1, A0 x0 x1 ∧ A1 x0 x1) (k : ∀ x0 x1, A0 x0 x1 → A1 x0 x1 → X) : X := h.elim fun x h => xe12 h (k x)
theorem xe23 {α0 α1 : Type} {A0 A1 A2 : α0 → α1 → Prop} {X : Prop} (h : ∃ x0 x1, A0 x0 x1 ∧ A1 x0 x1 ∧ A2 x0 x1) (k : ∀ x0 x1, A0 x0 x1 → A1 x0 x1 → A2 x0 x1 → X) : X := h.elim fun x h => xe13 h (k x)
theorem xe24 {α0 α1 : Type} {A0 A1 A2 A3 : α0 → α1 → Prop} {X : Prop} (h : ∃ x0 x1, A0 x0 x1 ∧ A1 x0 x1 ∧ A2 x0 x1 ∧ A3 x0 x1) (k : ∀ x0 x1, A0 x0 x1 → A1 x0 x1 → A2 x0 x1 → A3 x0 x1 → X) : X := h.elim fun x h => xe14 h (k x)
theorem xe25 {α0 α1 : Type} {A0 A1 A2 A3 A4 : α0 → α1 → Prop} {X : Prop} (h : ∃ x0 x1, A0 x0 x1 ∧ A1 x0 x1 ∧ A2 x0 x1 ∧ A3 x0 x1 ∧ A4 x0 x1) (k : ∀ x0 x1, A0 x0 x1 → A1 x0 x1 → A2 x0 x1 → A3 x0 x1 → A4 x0 x1 → X) : X := h.elim fun x h => xe15 h (k x)
theorem xe26 {α0 α1 : Type} {A0 A1 A2 A3 A4 A5 : α0 → α1 → Prop} {X : Prop} (h : ∃ x0 x1, A0 x0 x1 ∧ A1 x0 x1 ∧ A2 x0 x1 ∧ A3 x0 x1 ∧ A4 x0 x1 ∧ A5 x0 x1) (k : ∀ x0 x1, A0 x0 x1 → A1 x0 x1 → A2 x0 x1 → A3 x0 x1 → A4 x0 x1 → A5 x0 x1 → X) : X := h.elim fun x h => xe16 h (k x)
theorem xe27 {α0 α1 : Type} {A0 A1 A2 A3 A4 A5 A6 : α0 → α1 → Prop} {X : Prop} (h : ∃ x0 x1, A0 x0 x1 ∧ A1 x0 x1 ∧ A2 x0 x1 ∧ A3 x0 x1 ∧ A4 x0 x1 ∧ A5 x0 x1 ∧ A6 x0 x1) (k : ∀ x0 x1, A0 x0 x1 → A1 x0 x1 → A2 x0 x1 → A3 x0 x1 → A4 x0 x1 → A5 x0 x1 → A6 x0 x1 → X) : X := h.elim fun x h => xe17 h (k x)
theorem xe29 {α0 α1 : Type} {A0 A1 A2 A3 A4 A5 A6 A7 A8 : α0 → α1 → Prop} {X : Prop} (h : ∃ x0 x1, A0 x0 x1 ∧ A1 x0 x1 ∧ A2 x0 x1 ∧ A3 x0 x1 ∧ A4 x0 x1 ∧ A5 x0 x1 ∧ A6 x0 x1 ∧ A7 x0 x1 ∧ A8 x0 x1) (k : ∀ x0 x1, A0 x0 x1 → A1 x0 x1 → A2 x0 x1 → A3 x0 x1 → A4 x0 x1 → A5 x0 x1 → A6 x0 x1 → A7 x0 x1 → A8 x0 x1 → X) : X := h.elim fun x h => xe19 h (k x)
theorem xe212 {α0 α1 : Type} {A0 A1 A2 A3 A4 A5 A6 A7 A8 A9 A10 A11 : α0 → α1 → Prop} {X : Prop} (h : ∃ x0 x1, A0 x0 x1 ∧ A1 x0 x1 ∧ A2 x0 x1 ∧ A3 x0 x1 ∧ A4 x0 x1 ∧ A5 x0 x1 ∧ A6 x0 x1 ∧ A7 x0 x1 ∧ A8 x0 x1 ∧ A9 x0 x1 ∧ A10 x0 x1 ∧ A11 x0 x1) (k : ∀ x0 x1, A0 x0 x1 → A1 x0 x1 → A2 x0 x1 → A3 x0 x1 → A4 x0 x1 → A5 x0 x1 → A6 x0 x1 → A7 x0 x1 → A8 x0 x1 → A9 x0 x1 → A10 x0 x1 → A11 x0 x1 → X) : X := h.elim fun x h => xe112 h (k x)
theorem xe31 {α0 α1 α2 : Type} {A0 : α0 → α1 → α2 → Prop} {X : Prop} (h : ∃ x0 x1 x2, A0 x0 x1 x2) (k : ∀ x0 x1 x2, A0 x0 x1 x2 → X) : X := h.elim fun x h => xe21 h (k x)
theorem xe32 {α0 α1 α2 : Type} {A0 A1 : α0 → α1 → α2 → Prop} {X : Prop} (h : ∃ x0 x1 x2, A0 x0 x1 x2 ∧ A1 x0 x1 x2) (k : ∀ x0 x1 x2, A0 x0 x1 x2 → A1 x0 x1 x2 → X) : X := h.elim fun x h => xe22 h (k x)
theorem xe33 {α0 α1 α2 : Type} {A0 A1 A2 : α0 → α1 → α2 → Prop} {X : Prop} (h : ∃ x0 x1 x2, A0 x0 x1 x2 ∧ A1 x0 x1 x2 ∧ A2 x0 x1 x2) (k : ∀ x0 x1 x2, A0 x0 x1 x2 → A1 x0 x1 x2 → A2 x0 x1 x2 → X) : X := h.elim fun x h => xe23 h (k x)
theorem xe34 {α0 α1 α2 : Type} {A0 A1 A2 A3 : α0 → α1 → α2 → Prop} {X : Prop} (h : ∃ x0 x1 x2, A0 x0 x1 x2 ∧ A1 x0 x1 x2 ∧ A2 x0 x1 x2 ∧ A3 x0 x1 x2) (k : ∀ x0 x1 x2, A0 x0 x1 x2 → A1 x0 x1 x2 → A2 x0 x1 x2 → A3 x0 x1 x2 → X) : X := h.elim fun x h => xe24 h (k x)
theorem xe35 {α0 α1 α2 : Type} {A0 A1 A2 A3 A4 : α0 → α1 → α2 → Prop} {X : Prop} (h : ∃ x0 x1 x2, A0 x0 x1 x2 ∧ A1 x0 x1 x2 ∧ A2 x0 x1 x2 ∧ A3 x0 x1 x2 ∧ A4 x0 x1 x2) (k : ∀ x0 x1 x2, A0 x0 x1 x2 → A1 x0 x1 x2 → A2 x0 x1 x2 → A3 x0 x1 x2 → A4 x0 x1 x2 → X) : X := h.elim fun x h => xe25 h (k x)
theorem xe36 {α0 α1 α2 : Type} {A0 A1 A2 A3 A4 A5 : α0 → α1 → α2 → Prop} {X : Prop} (h : ∃ x0 x1 x2, A0 x0 x1 x2 ∧ A1 x0 x1 x2 ∧ A2 x0 x1 x2 ∧ A3 x0 x1 x2 ∧ A4 x0 x1 x2 ∧ A5 x0 x1 x2) (k : ∀ x0 x1 x2, A0 x0 x1 x2 → A1 x0 x1 x2 → A2 x0 x1 x2 → A3 x0 x1 x2 → A4 x0 x1 x2 → A5 x0 x1 x2 → X) : X := h.elim fun x h => xe26 h (k x)
theorem xe37 {α0 α1 α2 : Type} {A0 A1 A2 A3 A4 A5 A6 : α0 → α1 → α2 → Prop} {X : Prop} (h : ∃ x0 x1 x2, A0 x0 x1 x2 ∧ A1 x0 x1 x2 ∧ A2 x0 x1 x2 ∧ A3 x0 x1 x2 ∧ A4 x0 x1 x2 ∧ A5 x0 x1 x2 ∧ A6 x0 x1 x2) (k : ∀ x0 x1 x2, A0 x0 x1 x2 → A1 x0 x1 x2 → A2 x0 x1 x2 → A3 x0 x1 x2 → A4 x0 x1 x2 → A5 x0 x1 x2 → A6 x0 x1 x2 → X) : X := h.elim fun x h => xe27 h (k x)
theorem xe39 {α0 α1 α2 : Type} {A0 A1 A2 A3 A4 A5 A6 A7 A8 : α0 → α1 → α2 → Prop} {X : Prop} (h : ∃ x0 x1 x2, A0 x0 x1 x2 ∧ A1 x0 x1 x2 ∧ A2 x0 x1 x2 ∧ A3 x0 x1 x2 ∧ A4 x0 x1 x2 ∧ A5 x0 x1 x2 ∧ A6 x0 x1 x2 ∧ A7 x0 x1 x2 ∧ A8 x0 x1 x2) (k : ∀ x0 x1 x2, A0 x0 x1 x2 → A1 x0 x1 x2 → A2 x0 x1 x2 → A3 x0 x1 x2 → A4 x0 x1 x2 → A5 x0 x1 x2 → A6 x0 x1 x2 → A7 x0 x1 x2 → A8 x0 x1 x2 → X) : X := h.elim fun x h => xe29 h (k x)
theorem xe312 {α0 α1 α2 : Type} {A0 A1 A2 A3 A4 A5 A6 A7 A8 A9 A10 A11 : α0 → α1 → α2 → Prop} {X : Prop} (h : ∃ x0 x1 x2, A0 x0 x1 x2 ∧ A1 x0 x1 x2 ∧ A2 x0 x1 x2 ∧ A3 x0 x1 x2 ∧ A4 x0 x1 x2 ∧ A5 x0 x1 x2 ∧ A6 x0 x1 x2 ∧ A7 x0 x1 x2 ∧ A8 x0 x1 x2 ∧ A9 x0 x1 x2 ∧ A10 x0 x1 x2 ∧ A11 x0 x1 x2) (k : ∀ x0 x1 x2, A0 x0 x1 x2 → A1 x0 x1 x2 → A2 x0 x1 x2 → A3 x0 x1 x2 → A4 x0 x1 x2 → A5 x0 x1 x2 → A6 x0 x1 x2 → A7 x0 x1 x2 → A8 x0 x1 x2 → A9 x0 x1 x2 → A10 x0 x1 x2 → A11 x0 x1 x2 → X) : X := h.elim fun x h => xe212 h (k x)
theorem xe44 {α0 α1 α2 α3 : Type} {A0 A1 A2 A3 : α0 → α1 → α2 → α3 → Prop} {X : Prop} (h : ∃ x0 x1 x2 x3, A0 x0 x1 x2 x3 ∧ A1 x0 x1 x2 x3 ∧ A2 x0 x1 x2 x3 ∧ A3 x0 x1 x2 x3) (k : ∀ x0 x1 x2 x3, A0 x0 x1 x2 x3 → A1 x0 x1 x2 x3 → A2 x0 x1 x2 x3 → A3 x0 x1 x2 x3 → X) : X := h.elim fun x h => xe34 h (k x)
theorem xe45 {α0 α1 α2 α3 : Type} {A0 A1 A2 A3 A4 : α0 → α1 → α2 → α3 → Prop} {X : Prop} (h : ∃ x0 x1 x2 x3, A0 x0 x1 x2 x3 ∧ A1 x0 x1 x2 x3 ∧ A2 x0 x1 x2 x3 ∧ A3 x0 x1 x2 x3 ∧ A4 x0 x1 x2 x3) (k : ∀ x0 x1 x2 x3, A0 x0 x1 x2 x3 → A1 x0 x1 x2 x3 → A2 x0 x1 x2 x3 → A3 x0 x1 x2 x3 → A4 x0 x1 x2 x3 → X) : X := h.elim fun x h => xe35 h (k x)
theorem xe46 {α0 α1 α2 α3 : Type} {A0 A1 A2 A3 A4 A5 : α0 → α1 → α2 → α3 → Prop} {X : Prop} (h : ∃ x0 x1 x2 x3, A0 x0 x1 x2 x3 ∧ A1 x0 x1 x2 x3 ∧ A2 x0 x1 x2 x3 ∧ A3 x0 x1 x2 x3 ∧ A4 x0 x1 x2 x3 ∧ A5 x0 x1 x2 x3) (k : ∀ x0 x1 x2 x3, A0 x0 x1 x2 x3 → A1 x0 x1 x2 x3 → A2 x0 x1 x2 x3 → A3 x0 x1 x2 x3 → A4 x0 x1 x2 x3 → A5 x0 x1 x2 x3 → X) : X := h.elim fun x h => xe36 h (k x)
theorem xe47 {α0 α1 α2 α3 : Type} {A0 A1 A2 A3 A4 A5 A6 : α0 → α1 → α2 → α3 → Prop} {X : Prop} (h : ∃ x0 x1 x2 x3, A0 x0 x1 x2 x3 ∧ A1 x0 x1 x2 x3 ∧ A2 x0 x1 x2 x3 ∧ A3 x0 x1 x2 x3 ∧ A4 x0 x1 x2 x3 ∧ A5 x0 x1 x2 x3 ∧ A6 x0 x1 x2 x3) (k : ∀ x0 x1 x2 x3, A0 x0 x1 x2 x3 → A1 x0 x1 x2 x3 → A2 x0 x1 x2 x3 → A3 x0 x1 x2 x3 → A4 x0 x1 x2 x3 → A5 x0 x1 x2 x3 → A6 x0 x1 x2 x3 → X) : X := h.elim fun x h => xe37 h (k x)
theorem xe49 {α0 α1 α2 α3 : Type} {A0 A1 A2 A3 A4 A5 A6 A7 A8 : α0 → α1 → α2 → α3 → Prop} {X : Prop} (h : ∃ x0 x1 x2 x3, A0 x0 x1 x2 x3 ∧ A1 x0 x1 x2 x3 ∧ A2 x0 x1 x2 x3 ∧ A3 x0 x1 x2 x3 ∧ A4 x0 x1 x2 x3 ∧ A5 x0 x1 x2 x3 ∧ A6 x0 x1 x2 x3 ∧ A7 x0 x1 x2 x3 ∧ A8 x0 x1 x2 x3) (k : ∀ x0 x1 x2 x3, A0 x0 x1 x2 x3 → A1 x0 x1 x2 x3 → A2 x0 x1 x2 x3 → A3 x0 x1 x2 x3 → A4 x0 x1 x2 x3 → A5 x0 x1 x2 x3 → A6 x0 x1 x2 x3 → A7 x0 x1 x2 x3 → A8 x0 x1 x2 x3 → X) : X := h.elim fun x h => xe39 h (k x)
theorem xe412 {α0 α1 α2 α3 : Type} {A0 A1 A2 A3 A4 A5 A6 A7 A8 A9 A10 A11 : α0 → α1 → α2 → α3 → Prop} {X : Prop} (h : ∃ x0 x1 x2 x3, A0 x0 x1 x2 x3 ∧ A1 x0 x1 x2 x3 ∧ A2 x0 x1 x2 x3 ∧ A3 x0 x1 x2 x3 ∧ A4 x0 x1 x2 x3 ∧ A5 x0 x1 x2 x3 ∧ A6 x0 x1 x2 x3 ∧ A7 x0 x1 x2 x3 ∧ A8 x0 x1 x2 x3 ∧ A9 x0 x1 x2 x3 ∧ A10 x0 x1 x2 x3 ∧ A11 x0 x1 x2 x3) (k : ∀ x0 x1 x2 x3, A0 x0 x1 x2 x3 → A1 x0 x1 x2 x3 → A2 x0 x1 x2 x3 → A3 x0 x1 x2 x3 → A4 x0 x1 x2 x3 → A5 x0 x1 x2 x3 → A6 x0 x1 x2 x3 → A7 x0 x1 x2 x3 → A8 x0 x1 x2 x3 → A9 x0 x1 x2 x3 → A10 x0 x1 x2 x3 → A11 x0 x1 x2 x3 → X) : X := h.elim fun x h => xe312 h (k x)
theorem xe55 {α0 α1 α2 α3 α4 : Type} {A0 A1 A2 A3 A4 : α0 → α1 → α2 → α3 → α4 → Prop} {X : Prop} (h : ∃ x0 x1 x2 x3 x4, A0 x0 x1 x2 x3 x4 ∧ A1 x0 x1 x2 x3 x4 ∧ A2 x0 x1 x2 x3 x4 ∧ A3 x0 x1 x2 x3 x4 ∧ A4 x0 x1 x2 x3 x4) (k : ∀ x0 x1 x2 x3 x4, A0 x0 x1 x2 x3 x4 → A1 x0 x1 x2 x3 x4 → A2 x0 x1 x2 x3 x4 → A3 x0 x1 x2 x3 x4 → A4 x0 x1 x2 x3 x4 → X) : X := h.elim fun x h => xe45 h (k x)
theorem xe56 {α0 α1 α2 α3 α4 : Type} {A0 A1 A2 A3 A4 A5 : α0 → α1 → α2 → α3 → α4 → Prop} {X : Prop} (h : ∃ x0 x1 x2 x3 x4, A0 x0 x1 x2 x3 x4 ∧ A1 x0 x1 x2 x3 x4 ∧ A2 x0 x1 x2 x3 x4 ∧ A3 x0 x1 x2 x3 x4 ∧ A4 x0 x1 x2 x3 x4 ∧ A5 x0 x1 x2 x3 x4) (k : ∀ x0 x1 x2 x3 x4, A0 x0 x1 x2 x3 x4 → A1 x0 x1 x2 x3 x4 → A2 x0 x1 x2 x3 x4 → A3 x0 x1 x2 x3 x4 → A4 x0 x1 x2 x3 x4 → A5 x0 x1 x2 x3 x4 → X) : X := h.elim fun x h => xe46 h (k x)
theorem xe59 {α0 α1 α2 α3 α4 : Type} {A0 A1 A2 A3 A4 A5 A6 A7 A8 : α0 → α1 → α2 → α3 → α4 → Prop} {X : Prop} (h : ∃ x0 x1 x2 x3 x4, A0 x0 x1 x2 x3 x4 ∧ A1 x0 x1 x2 x3 x4 ∧ A2 x0 x1 x2 x3 x4 ∧ A3 x0 x1 x2 x3 x4 ∧ A4 x0 x1 x2 x3 x4 ∧ A5 x0 x1 x2 x3 x4 ∧ A6 x0 x1 x2 x3 x4 ∧ A7 x0 x1 x2 x3 x4 ∧ A8 x0 x1 x2 x3 x4) (k : ∀ x0 x1 x2 x3 x4, A0 x0 x1 x2 x3 x4 → A1 x0 x1 x2 x3 x4 → A2 x0 x1 x2 x3 x4 → A3 x0 x1 x2 x3 x4 → A4 x0 x1 x2 x3 x4 → A5 x0 x1 x2 x3 x4 → A6 x0 x1 x2 x3 x4 → A7 x0 x1 x2 x3 x4 → A8 x0 x1 x2 x3 x4 → X) : X := h.elim fun x h => xe49 h (k x)
theorem xe512 {α0 α1 α2 α3 α4 : Type} {A0 A1 A2 A3 A4 A5 A6 A7 A8 A9 A10 A11 : α0 → α1 → α2 → α3 → α4 → Prop} {X : Prop} (h : ∃ x0 x1 x2 x3 x4, A0 x0 x1 x2 x3 x4 ∧ A1 x0 x1 x2 x3 x4 ∧ A2 x0 x1 x2 x3 x4 ∧ A3 x0 x1 x2 x3 x4 ∧ A4 x0 x1 x2 x3 x4 ∧ A5 x0 x1 x2 x3 x4 ∧ A6 x0 x1 x2 x3 x4 ∧ A7 x0 x1 x2 x3 x4 ∧ A8 x0 x1 x2 x3 x4 ∧ A9 x0 x1 x2 x3 x4 ∧ A10 x0 x1 x2 x3 x4 ∧ A11 x0 x1 x2 x3 x4) (k : ∀ x0 x1 x2 x3 x4, A0 x0 x1 x2 x3 x4 → A1 x0 x1 x2 x3 x4 → A2 x0 x1 x2 x3 x4 → A3 x0 x1 x2 x3 x4 → A4 x0 x1 x2 x3 x4 → A5 x0 x1 x2 x3 x4 → A6 x0 x1 x2 x3 x4 → A7 x0 x1 x2 x3 x4 → A8 x0 x1 x2 x3 x4 → A9 x0 x1 x2 x3 x4 → A10 x0 x1 x2 x3 x4 → A11 x0 x1 x2 x3 x4 → X) : X := h.elim fun x h => xe412 h (k x)
theorem xe69 {α0 α1 α2 α3 α4 α5 : Type} {A0 A1 A2 A3 A4 A5 A6 A7 A8 : α0 → α1 → α2 → α3 → α4 → α5 → Prop} {X : Prop} (h : ∃ x0 x1 x2 x3 x4 x5, A0 x0 x1 x2 x3 x4 x5 ∧ A1 x0 x1 x2 x3 x4 x5 ∧ A2 x0 x1 x2 x3 x4 x5 ∧ A3 x0 x1 x2 x3 x4 x5 ∧ A4 x0 x1 x2 x3 x4 x5 ∧ A5 x0 x1 x2 x3 x4 x5 ∧ A6 x0 x1 x2 x3 x4 x5 ∧ A7 x0 x1 x2 x3 x4 x5 ∧ A8 x0 x1 x2 x3 x4 x5) (k : ∀ x0 x1 x2 x3 x4 x5, A0 x0 x1 x2 x3 x4 x5 → A1 x0 x1 x2 x3 x4 x5 → A2 x0 x1 x2 x3 x4 x5 → A3 x0 x1 x2 x3 x4 x5 → A4 x0 x1 x2 x3 x4 x5 → A5 x0 x1 x2 x3 x4 x5 → A6 x0 x1 x2 x3 x4 x5 → A7 x0 x1 x2 x3 x4 x5 → A8 x0 x1 x2 x3 x4 x5 → X) : X := h.elim fun x h => xe59 h (k x)
end
section
noncomputable def stA (i : Nat) : Stmt := match PySem.Challenge.pw_pg0281_01.main.body.drop i with
  | s :: _ => s
  | [] => .Pass ⟨0, 0, 0, 0⟩
noncomputable def stI (i j : Nat) : Stmt := match stA i with
  | .ClassDef _ _ _ b _ _ _ _ _ _ _ => match b.drop j with
    | s :: _ => s
    | [] => .Pass ⟨0, 0, 0, 0⟩
  | s => s
noncomputable def fO (st : Stmt) (q : PySem.Str) (df kd pm cd : Value) : Obj := match st with
  | .FunctionDef n a b _ _ _ sc _ _ _ => { cls := .type "function", data := .func { name := n, qualname := q, params := a, body := .stmts b, scope := sc, globals := 3, closure := [], defaults := df, kwdefaults := kd, pyModule := pm, code := cd } }
  | _ => { cls := .none }
noncomputable abbrev so (s : String) : PySem.Str := PySem.Str.ofString s
noncomputable abbrev vs (s : String) (t : Tok) : Value := .str (PySem.Str.ofString s) t
noncomputable def en (P : Params) (s : String) (t : Tok) (v : Value) : DictEntry := { hash := PyData.keyHash P (PySem.Str.ofString s), key := .str (PySem.Str.ofString s) t, val := v }
noncomputable def KF : Params → Frag := fun P => [
  (2, { cls := .none, data := .dict #[en P "\x69mport.loaded._sre" 183 (.bool true), en P "class._frozen_importlib.BuiltinImporter" 185 (.ref 14), en P "watched.\x69mport" 206 (.ref 18), en P "class._frozen_importlib.ModuleSpec" 216 (.ref 22), en P "sys.modules.booked-epoch" 245 (.int 3 0), en P "\x69mport.later-laid._sre" 270 (.bool true), en P "watched.library" 272 (.ref 27), en P "watched.library-objects" 0 (vs "\x0c" 0), en P "watched.library-deep._sre" 273 (vs "\x04\x00\x00\x0b\x04\x00\x00\x0b\x04\x00\x00\x03\x04\x00\x00\x0b\x08\x04dict\x02" 0)] 9 }),
  (3, { cls := .type "dict", data := .dict #[en P "__name__" 165 (vs "law_pg0281_01" 665), en P "__doc__" 166 .none, en P "__package__" 167 .none, en P "__loader__" 168 (.builtin "__main__.__loader__#opaque"), en P "__spec__" 169 .none, en P "__annotations__" 170 (.ref 6), en P "__builtins__" 171 (.ref 4), en P "__file__" 173 (vs "/claim/cut.py" 172), en P "__cached__" 174 .none, en P "_sre" 275 (.ref 12), en P "_wall" 288 (.ref 38), en P "heappush" 298 (.ref 45), en P "heappop" 307 (.ref 52), en P "heapify" 316 (.ref 59), en P "_siftdown" 328 (.ref 66), en P "_siftup" 341 (.ref 73), en P "_netrclex" 401 (.ref 111), en P "tspecials" 437 (.ref 120), en P "_name_disallowed_re" 463 (.ref 125), en P "_value_disallowed_re" 497 (.ref 130), en P "_formatparam" 507 (.ref 138), en P "Headers" 664 (.ref 259), en P "_law_lexer" 679 (.ref 270), en P "_law_ties" 685 (.ref 275), en P "_law_table" 695 (.ref 282), en P "_law_own" 708 (.ref 289), en P "_law_by_line" 714 (.ref 294), en P "_law_by_heap" 720 (.ref 299), en P "_law_by_marks" 726 (.ref 304), en P "_law_no_gap" 732 (.ref 309), en P "_law_ring" 747 (.ref 316), en P "law" 753 (.ref 321)] 32 }),
  (32, { cls := .type "tuple", data := .seq #[] }),
  (34, { cls := .type "tuple", data := .seq #[vs "k" 285] }),
  (35, { cls := .type "tuple", data := .seq #[] }),
  (37, { cls := .type "code", data := .fields #[vs "_wall" 282, vs "_wall" 283, vs "/claim/cut.py" 284, .int 2 0, .int 1 0, .int 0 0, .int 0 0, .int 3 0, .ref 32, .bool true, .int 276 0, .ref 33, .none, .ref 34, .ref 35, .ref 36, .int 286 0, .int 2 0, vs "/claim/cut.py" 287] }),
  (38, fO (stA 1) (so "_wall") .none .none (vs "__main__" 164) (.ref 37)),
  (39, { cls := .type "tuple", data := .seq #[] }),
  (41, { cls := .type "tuple", data := .seq #[vs "heap" 294, vs "item" 295] }),
  (42, { cls := .type "tuple", data := .seq #[] }),
  (44, { cls := .type "code", data := .fields #[vs "heappush" 291, vs "heappush" 292, vs "/claim/cut.py" 293, .int 6 0, .int 2 0, .int 0 0, .int 0 0, .int 3 0, .ref 39, .bool true, .int 276 0, .ref 40, .none, .ref 41, .ref 42, .ref 43, .int 296 0, .int 6 0, vs "/claim/cut.py" 297] }),
  (45, fO (stA 3) (so "heappush") .none .none (vs "cpy313.heapq" 289) (.ref 44)),
  (46, { cls := .type "tuple", data := .seq #[] }),
  (48, { cls := .type "tuple", data := .seq #[vs "heap" 302, vs "lastelt" 303, vs "returnitem" 304] }),
  (49, { cls := .type "tuple", data := .seq #[] }),
  (51, { cls := .type "code", data := .fields #[vs "heappop" 299, vs "heappop" 300, vs "/claim/cut.py" 301, .int 9 0, .int 1 0, .int 0 0, .int 0 0, .int 3 0, .ref 46, .bool true, .int 276 0, .ref 47, .none, .ref 48, .ref 49, .ref 50, .int 305 0, .int 9 0, vs "/claim/cut.py" 306] }),
  (52, fO (stA 4) (so "heappop") .none .none (vs "cpy313.heapq" 289) (.ref 51)),
  (53, { cls := .type "tuple", data := .seq #[] }),
  (55, { cls := .type "tuple", data := .seq #[vs "x" 311, vs "n" 312, vs "i" 313] }),
  (56, { cls := .type "tuple", data := .seq #[] }),
  (58, { cls := .type "code", data := .fields #[vs "heapify" 308, vs "heapify" 309, vs "/claim/cut.py" 310, .int 17 0, .int 1 0, .int 0 0, .int 0 0, .int 3 0, .ref 53, .bool true, .int 276 0, .ref 54, .none, .ref 55, .ref 56, .ref 57, .int 314 0, .int 17 0, vs "/claim/cut.py" 315] }),
  (59, fO (stA 5) (so "heapify") .none .none (vs "cpy313.heapq" 289) (.ref 58)),
  (60, { cls := .type "tuple", data := .seq #[] }),
  (62, { cls := .type "tuple", data := .seq #[vs "heap" 320, vs "startpos" 321, vs "pos" 322, vs "newitem" 323, vs "parentpos" 324, vs "parent" 325] }),
  (63, { cls := .type "tuple", data := .seq #[] }),
  (65, { cls := .type "code", data := .fields #[vs "_siftdown" 317, vs "_siftdown" 318, vs "/claim/cut.py" 319, .int 21 0, .int 3 0, .int 0 0, .int 0 0, .int 3 0, .ref 60, .bool true, .int 276 0, .ref 61, .none, .ref 62, .ref 63, .ref 64, .int 326 0, .int 21 0, vs "/claim/cut.py" 327] }),
  (66, fO (stA 6) (so "_siftdown") .none .none (vs "cpy313.heapq" 289) (.ref 65)),
  (67, { cls := .type "tuple", data := .seq #[] }),
  (69, { cls := .type "tuple", data := .seq #[vs "heap" 332, vs "pos" 333, vs "endpos" 334, vs "startpos" 335, vs "newitem" 336, vs "childpos" 337, vs "rightpos" 338] }),
  (70, { cls := .type "tuple", data := .seq #[] }),
  (72, { cls := .type "code", data := .fields #[vs "_siftup" 329, vs "_siftup" 330, vs "/claim/cut.py" 331, .int 32 0, .int 2 0, .int 0 0, .int 0 0, .int 3 0, .ref 67, .bool true, .int 276 0, .ref 68, .none, .ref 69, .ref 70, .ref 71, .int 339 0, .int 32 0, vs "/claim/cut.py" 340] }),
  (73, fO (stA 7) (so "_siftup") .none .none (vs "cpy313.heapq" 289) (.ref 72)),
  (81, { cls := .type "tuple", data := .seq #[] }),
  (83, { cls := .type "tuple", data := .seq #[vs "self" 359, vs "fp" 360] }),
  (84, { cls := .type "tuple", data := .seq #[] }),
  (86, { cls := .type "code", data := .fields #[vs "__init__" 356, vs "_netrclex.__init__" 357, vs "/claim/cut.py" 358, .int 49 0, .int 2 0, .int 0 0, .int 0 0, .int 3 0, .ref 81, .bool true, .int 276 0, .ref 82, .none, .ref 83, .ref 84, .ref 85, .int 361 0, .int 49 0, vs "/claim/cut.py" 362] }),
  (87, fO (stI 9 0) (so "_netrclex.__init__") .none .none (vs "cpy313.netrc" 342) (.ref 86)),
  (88, { cls := .type "tuple", data := .seq #[] }),
  (90, { cls := .type "tuple", data := .seq #[vs "self" 367, vs "ch" 368] }),
  (91, { cls := .type "tuple", data := .seq #[] }),
  (93, { cls := .type "code", data := .fields #[vs "_read_char" 364, vs "_netrclex._read_char" 365, vs "/claim/cut.py" 366, .int 55 0, .int 1 0, .int 0 0, .int 0 0, .int 3 0, .ref 88, .bool true, .int 276 0, .ref 89, .none, .ref 90, .ref 91, .ref 92, .int 369 0, .int 55 0, vs "/claim/cut.py" 370] }),
  (94, fO (stI 9 1) (so "_netrclex._read_char") .none .none (vs "cpy313.netrc" 342) (.ref 93)),
  (95, { cls := .type "tuple", data := .seq #[] }),
  (97, { cls := .type "tuple", data := .seq #[vs "self" 375, vs "token" 376, vs "fiter" 377, vs "ch" 378] }),
  (98, { cls := .type "tuple", data := .seq #[] }),
  (100, { cls := .type "code", data := .fields #[vs "get_token" 372, vs "_netrclex.get_token" 373, vs "/claim/cut.py" 374, .int 61 0, .int 1 0, .int 0 0, .int 0 0, .int 3 0, .ref 95, .bool true, .int 276 0, .ref 96, .none, .ref 97, .ref 98, .ref 99, .int 379 0, .int 61 0, vs "/claim/cut.py" 380] }),
  (101, fO (stI 9 2) (so "_netrclex.get_token") .none .none (vs "cpy313.netrc" 342) (.ref 100)),
  (102, { cls := .type "tuple", data := .seq #[] }),
  (104, { cls := .type "tuple", data := .seq #[vs "self" 385, vs "token" 386] }),
  (105, { cls := .type "tuple", data := .seq #[] }),
  (107, { cls := .type "code", data := .fields #[vs "push_token" 382, vs "_netrclex.push_token" 383, vs "/claim/cut.py" 384, .int 88 0, .int 2 0, .int 0 0, .int 0 0, .int 3 0, .ref 102, .bool true, .int 276 0, .ref 103, .none, .ref 104, .ref 105, .ref 106, .int 387 0, .int 88 0, vs "/claim/cut.py" 388] }),
  (108, fO (stI 9 3) (so "_netrclex.push_token") .none .none (vs "cpy313.netrc" 342) (.ref 107)),
  (109, { cls := .type "tuple", data := .seq #[vs "instream" 390, vs "lineno" 391, vs "pushback" 392, vs "whitespace" 393] }),
  (110, { cls := .type "dict", data := .dict #[en P "__module__" 351 (vs "cpy313.netrc" 342), en P "__firstlineno__" 355 (.int 47 354), en P "__init__" 363 (.ref 87), en P "_read_char" 371 (.ref 94), en P "get_token" 381 (.ref 101), en P "push_token" 389 (.ref 108), en P "__static_attributes__" 394 (.ref 109), en P "__dict__" 396 (.ref 112), en P "__weakref__" 398 (.ref 113), en P "__doc__" 399 .none] 4 }),
  (111, { cls := .type "type", data := .cls { name := so "_netrclex", bases := [.type "object"], mro := [.ref 111, .type "object"], ns := 110, qualname := so "_netrclex" }, slots := #[none, none, some (vs "_netrclex" 344), some (vs "_netrclex" 352), some (.builtin "object.__new__"), some (.bool true)] }),
  (112, { cls := .type "getset_descriptor", data := .fields #[vs "__dict__" 395, .ref 111, .builtin "function.__dict__", .builtin "function.__dict__#set"] }),
  (113, { cls := .type "getset_descriptor", data := .fields #[vs "__weakref__" 397, .ref 111, .builtin "ExceptionGroup.__weakref__", .none] }),
  (119, { cls := .type "tuple", data := .seq #[.int 14 0, .int 14 0, .int 4 0, .int 1 0, .int 1 0, .int 9 0, .int 0 0, .int 4227896069 0, .int 939524097 0, .int 0 0, .int 0 0, .int 0 0, .int 0 0, .int 0 0, .int 0 0, .int 13 0, .int 11 0, .int 9 0, .int 0 0, .int 4227896069 0, .int 939524097 0, .int 0 0, .int 0 0, .int 0 0, .int 0 0, .int 0 0, .int 0 0, .int 1 0] }),
  (120, { cls := .type "re.Pattern", data := .fields #[vs "[ \\(\\)<>@,;:\\\\\"/\\[\\]\\?=]" 405, .int 32 436, .int 0 0, .none, .none, .ref 119, .int 0 0] }),
  (124, { cls := .type "tuple", data := .seq #[.int 14 0, .int 10 0, .int 4 0, .int 1 0, .int 1 0, .int 22 0, .int 0 0, .int 31 0, .int 16 0, .int 127 0, .int 0 0, .int 13 0, .int 7 0, .int 22 0, .int 0 0, .int 31 0, .int 16 0, .int 127 0, .int 0 0, .int 1 0] }),
  (125, { cls := .type "re.Pattern", data := .fields #[vs "[\\x00-\\x1F\\x7F]" 439, .int 32 462, .int 0 0, .none, .none, .ref 124, .int 0 0] }),
  (129, { cls := .type "tuple", data := .seq #[.int 14 0, .int 14 0, .int 4 0, .int 1 0, .int 1 0, .int 9 0, .int 4294966783 0, .int 0 0, .int 0 0, .int 2147483648 0, .int 0 0, .int 0 0, .int 0 0, .int 0 0, .int 0 0, .int 13 0, .int 11 0, .int 9 0, .int 4294966783 0, .int 0 0, .int 0 0, .int 2147483648 0, .int 0 0, .int 0 0, .int 0 0, .int 0 0, .int 0 0, .int 1 0] }),
  (130, { cls := .type "re.Pattern", data := .fields #[vs "[\\x00-\\x08\\x0A-\\x1F\\x7F]" 465, .int 32 496, .int 0 0, .none, .none, .ref 129, .int 0 0] }),
  (131, { cls := .type "tuple", data := .seq #[.none, .int 1 498] }),
  (132, { cls := .type "tuple", data := .seq #[] }),
  (134, { cls := .type "tuple", data := .seq #[vs "param" 502, vs "value" 503, vs "quote" 504] }),
  (135, { cls := .type "tuple", data := .seq #[] }),
  (137, { cls := .type "code", data := .fields #[vs "_formatparam" 499, vs "_formatparam" 500, vs "/claim/cut.py" 501, .int 94 0, .int 3 0, .int 0 0, .int 0 0, .int 3 0, .ref 132, .bool true, .int 276 0, .ref 133, .none, .ref 134, .ref 135, .ref 136, .int 505 0, .int 94 0, vs "/claim/cut.py" 506] }),
  (138, fO (stA 14) (so "_formatparam") (.ref 131) .none (vs "cpy313.wsgiref.headers" 402) (.ref 137)),
  (146, { cls := .type "tuple", data := .seq #[.none] }),
  (147, { cls := .type "tuple", data := .seq #[] }),
  (149, { cls := .type "tuple", data := .seq #[vs "self" 523, vs "headers" 524, vs "k" 525, vs "v" 526] }),
  (150, { cls := .type "tuple", data := .seq #[] }),
  (152, { cls := .type "code", data := .fields #[vs "__init__" 520, vs "Headers.__init__" 521, vs "/claim/cut.py" 522, .int 105 0, .int 2 0, .int 0 0, .int 0 0, .int 3 0, .ref 147, .bool true, .int 276 0, .ref 148, .none, .ref 149, .ref 150, .ref 151, .int 527 0, .int 105 0, vs "/claim/cut.py" 528] }),
  (153, fO (stI 15 0) (so "Headers.__init__") (.ref 146) .none (vs "cpy313.wsgiref.headers" 402) (.ref 152)),
  (154, { cls := .type "tuple", data := .seq #[] }),
  (156, { cls := .type "tuple", data := .seq #[vs "self" 533, vs "value" 534, vs "name" 535, vs "regex" 536] }),
  (157, { cls := .type "tuple", data := .seq #[] }),
  (159, { cls := .type "code", data := .fields #[vs "_convert_string_type" 530, vs "Headers._convert_string_type" 531, vs "/claim/cut.py" 532, .int 115 0, .int 2 0, .int 0 0, .int 1 0, .int 3 0, .ref 154, .bool true, .int 276 0, .ref 155, .none, .ref 156, .ref 157, .ref 158, .int 537 0, .int 115 0, vs "/claim/cut.py" 538] }),
  (160, fO (stI 15 1) (so "Headers._convert_string_type") .none .none (vs "cpy313.wsgiref.headers" 402) (.ref 159)),
  (161, { cls := .type "tuple", data := .seq #[] }),
  (163, { cls := .type "tuple", data := .seq #[vs "self" 543] }),
  (164, { cls := .type "tuple", data := .seq #[] }),
  (166, { cls := .type "code", data := .fields #[vs "__len__" 540, vs "Headers.__len__" 541, vs "/claim/cut.py" 542, .int 123 0, .int 1 0, .int 0 0, .int 0 0, .int 3 0, .ref 161, .bool true, .int 276 0, .ref 162, .none, .ref 163, .ref 164, .ref 165, .int 544 0, .int 123 0, vs "/claim/cut.py" 545] }),
  (167, fO (stI 15 2) (so "Headers.__len__") .none .none (vs "cpy313.wsgiref.headers" 402) (.ref 166)),
  (168, { cls := .type "tuple", data := .seq #[] }),
  (170, { cls := .type "tuple", data := .seq #[vs "self" 550, vs "name" 551, vs "val" 552] }),
  (171, { cls := .type "tuple", data := .seq #[] }),
  (173, { cls := .type "code", data := .fields #[vs "__setitem__" 547, vs "Headers.__setitem__" 548, vs "/claim/cut.py" 549, .int 126 0, .int 3 0, .int 0 0, .int 0 0, .int 3 0, .ref 168, .bool true, .int 276 0, .ref 169, .none, .ref 170, .ref 171, .ref 172, .int 553 0, .int 126 0, vs "/claim/cut.py" 554] }),
  (174, fO (stI 15 3) (so "Headers.__setitem__") .none .none (vs "cpy313.wsgiref.headers" 402) (.ref 173)),
  (175, { cls := .type "tuple", data := .seq #[] }),
  (178, { cls := .type "code", data := .fields #[vs "__delitem__" 556, vs "Headers.__delitem__" 557, vs "/claim/cut.py" 558, .int 130 0, .int 2 0, .int 0 0, .int 0 0, .int 3 0, .ref 175, .bool true, .int 276 0, .ref 176, .none, .none, .none, .ref 177, .int 559 0, .int 130 0, vs "/claim/cut.py" 560] }),
  (179, fO (stI 15 4) (so "Headers.__delitem__") .none .none (vs "cpy313.wsgiref.headers" 402) (.ref 178)),
  (180, { cls := .type "tuple", data := .seq #[] }),
  (182, { cls := .type "tuple", data := .seq #[vs "self" 565, vs "name" 566] }),
  (183, { cls := .type "tuple", data := .seq #[] }),
  (185, { cls := .type "code", data := .fields #[vs "__getitem__" 562, vs "Headers.__getitem__" 563, vs "/claim/cut.py" 564, .int 134 0, .int 2 0, .int 0 0, .int 0 0, .int 3 0, .ref 180, .bool true, .int 276 0, .ref 181, .none, .ref 182, .ref 183, .ref 184, .int 567 0, .int 134 0, vs "/claim/cut.py" 568] }),
  (186, fO (stI 15 5) (so "Headers.__getitem__") .none .none (vs "cpy313.wsgiref.headers" 402) (.ref 185)),
  (187, { cls := .type "tuple", data := .seq #[] }),
  (189, { cls := .type "tuple", data := .seq #[vs "self" 573, vs "name" 574] }),
  (190, { cls := .type "tuple", data := .seq #[] }),
  (192, { cls := .type "code", data := .fields #[vs "__contains__" 570, vs "Headers.__contains__" 571, vs "/claim/cut.py" 572, .int 137 0, .int 2 0, .int 0 0, .int 0 0, .int 3 0, .ref 187, .bool true, .int 276 0, .ref 188, .none, .ref 189, .ref 190, .ref 191, .int 575 0, .int 137 0, vs "/claim/cut.py" 576] }),
  (193, fO (stI 15 6) (so "Headers.__contains__") .none .none (vs "cpy313.wsgiref.headers" 402) (.ref 192)),
  (194, { cls := .type "tuple", data := .seq #[] }),
  (197, { cls := .type "code", data := .fields #[vs "get_all" 578, vs "Headers.get_all" 579, vs "/claim/cut.py" 580, .int 140 0, .int 2 0, .int 0 0, .int 0 0, .int 3 0, .ref 194, .bool true, .int 276 0, .ref 195, .none, .none, .none, .ref 196, .int 581 0, .int 140 0, vs "/claim/cut.py" 582] }),
  (198, fO (stI 15 7) (so "Headers.get_all") .none .none (vs "cpy313.wsgiref.headers" 402) (.ref 197)),
  (199, { cls := .type "tuple", data := .seq #[.none] }),
  (200, { cls := .type "tuple", data := .seq #[] }),
  (202, { cls := .type "tuple", data := .seq #[vs "self" 587, vs "name" 588, vs "default" 589, vs "k" 590, vs "v" 591] }),
  (203, { cls := .type "tuple", data := .seq #[] }),
  (205, { cls := .type "code", data := .fields #[vs "get" 584, vs "Headers.get" 585, vs "/claim/cut.py" 586, .int 144 0, .int 3 0, .int 0 0, .int 0 0, .int 3 0, .ref 200, .bool true, .int 276 0, .ref 201, .none, .ref 202, .ref 203, .ref 204, .int 592 0, .int 144 0, vs "/claim/cut.py" 593] }),
  (206, fO (stI 15 8) (so "Headers.get") (.ref 199) .none (vs "cpy313.wsgiref.headers" 402) (.ref 205)),
  (207, { cls := .type "tuple", data := .seq #[] }),
  (210, { cls := .type "code", data := .fields #[vs "keys" 595, vs "Headers.keys" 596, vs "/claim/cut.py" 597, .int 151 0, .int 1 0, .int 0 0, .int 0 0, .int 3 0, .ref 207, .bool true, .int 276 0, .ref 208, .none, .none, .none, .ref 209, .int 598 0, .int 151 0, vs "/claim/cut.py" 599] }),
  (211, fO (stI 15 9) (so "Headers.keys") .none .none (vs "cpy313.wsgiref.headers" 402) (.ref 210)),
  (212, { cls := .type "tuple", data := .seq #[] }),
  (215, { cls := .type "code", data := .fields #[vs "values" 601, vs "Headers.values" 602, vs "/claim/cut.py" 603, .int 154 0, .int 1 0, .int 0 0, .int 0 0, .int 3 0, .ref 212, .bool true, .int 276 0, .ref 213, .none, .none, .none, .ref 214, .int 604 0, .int 154 0, vs "/claim/cut.py" 605] }),
  (216, fO (stI 15 10) (so "Headers.values") .none .none (vs "cpy313.wsgiref.headers" 402) (.ref 215)),
  (217, { cls := .type "tuple", data := .seq #[] }),
  (219, { cls := .type "tuple", data := .seq #[vs "self" 610] }),
  (220, { cls := .type "tuple", data := .seq #[] }),
  (222, { cls := .type "code", data := .fields #[vs "items" 607, vs "Headers.items" 608, vs "/claim/cut.py" 609, .int 157 0, .int 1 0, .int 0 0, .int 0 0, .int 3 0, .ref 217, .bool true, .int 276 0, .ref 218, .none, .ref 219, .ref 220, .ref 221, .int 611 0, .int 157 0, vs "/claim/cut.py" 612] }),
  (223, fO (stI 15 11) (so "Headers.items") .none .none (vs "cpy313.wsgiref.headers" 402) (.ref 222)),
  (224, { cls := .type "tuple", data := .seq #[] }),
  (226, { cls := .type "tuple", data := .seq #[vs "self" 617] }),
  (227, { cls := .type "tuple", data := .seq #[] }),
  (229, { cls := .type "code", data := .fields #[vs "__repr__" 614, vs "Headers.__repr__" 615, vs "/claim/cut.py" 616, .int 160 0, .int 1 0, .int 0 0, .int 0 0, .int 3 0, .ref 224, .bool true, .int 276 0, .ref 225, .none, .ref 226, .ref 227, .ref 228, .int 618 0, .int 160 0, vs "/claim/cut.py" 619] }),
  (230, fO (stI 15 12) (so "Headers.__repr__") .none .none (vs "cpy313.wsgiref.headers" 402) (.ref 229)),
  (231, { cls := .type "tuple", data := .seq #[] }),
  (234, { cls := .type "code", data := .fields #[vs "__str__" 621, vs "Headers.__str__" 622, vs "/claim/cut.py" 623, .int 163 0, .int 1 0, .int 0 0, .int 0 0, .int 3 0, .ref 231, .bool true, .int 276 0, .ref 232, .none, .none, .none, .ref 233, .int 624 0, .int 163 0, vs "/claim/cut.py" 625] }),
  (235, fO (stI 15 13) (so "Headers.__str__") .none .none (vs "cpy313.wsgiref.headers" 402) (.ref 234)),
  (236, { cls := .type "tuple", data := .seq #[] }),
  (238, { cls := .type "tuple", data := .seq #[vs "self" 630] }),
  (239, { cls := .type "tuple", data := .seq #[] }),
  (241, { cls := .type "code", data := .fields #[vs "__bytes__" 627, vs "Headers.__bytes__" 628, vs "/claim/cut.py" 629, .int 166 0, .int 1 0, .int 0 0, .int 0 0, .int 3 0, .ref 236, .bool true, .int 276 0, .ref 237, .none, .ref 238, .ref 239, .ref 240, .int 631 0, .int 166 0, vs "/claim/cut.py" 632] }),
  (242, fO (stI 15 14) (so "Headers.__bytes__") .none .none (vs "cpy313.wsgiref.headers" 402) (.ref 241)),
  (243, { cls := .type "tuple", data := .seq #[] }),
  (245, { cls := .type "tuple", data := .seq #[vs "self" 637, vs "name" 638, vs "value" 639] }),
  (246, { cls := .type "tuple", data := .seq #[] }),
  (248, { cls := .type "code", data := .fields #[vs "setdefault" 634, vs "Headers.setdefault" 635, vs "/claim/cut.py" 636, .int 169 0, .int 3 0, .int 0 0, .int 0 0, .int 3 0, .ref 243, .bool true, .int 276 0, .ref 244, .none, .ref 245, .ref 246, .ref 247, .int 640 0, .int 169 0, vs "/claim/cut.py" 641] }),
  (249, fO (stI 15 15) (so "Headers.setdefault") .none .none (vs "cpy313.wsgiref.headers" 402) (.ref 248)),
  (250, { cls := .type "tuple", data := .seq #[] }),
  (252, { cls := .type "tuple", data := .seq #[vs "self" 646, vs "_name" 647, vs "_value" 648, vs "_params" 649, vs "parts" 650, vs "k" 651, vs "v" 652] }),
  (253, { cls := .type "tuple", data := .seq #[] }),
  (255, { cls := .type "code", data := .fields #[vs "add_header" 643, vs "Headers.add_header" 644, vs "/claim/cut.py" 645, .int 172 0, .int 3 0, .int 0 0, .int 0 0, .int 11 0, .ref 250, .bool true, .int 276 0, .ref 251, .none, .ref 252, .ref 253, .ref 254, .int 653 0, .int 172 0, vs "/claim/cut.py" 654] }),
  (256, fO (stI 15 16) (so "Headers.add_header") .none .none (vs "cpy313.wsgiref.headers" 402) (.ref 255)),
  (257, { cls := .type "tuple", data := .seq #[vs "_headers" 656] }),
  (258, { cls := .type "dict", data := .dict #[en P "__module__" 515 (vs "cpy313.wsgiref.headers" 402), en P "__firstlineno__" 519 (.int 103 518), en P "__init__" 529 (.ref 153), en P "_convert_string_type" 539 (.ref 160), en P "__len__" 546 (.ref 167), en P "__setitem__" 555 (.ref 174), en P "__delitem__" 561 (.ref 179), en P "__getitem__" 569 (.ref 186), en P "__contains__" 577 (.ref 193), en P "get_all" 583 (.ref 198), en P "get" 594 (.ref 206), en P "keys" 600 (.ref 211), en P "values" 606 (.ref 216), en P "items" 613 (.ref 223), en P "__repr__" 620 (.ref 230), en P "__str__" 626 (.ref 235), en P "__bytes__" 633 (.ref 242), en P "setdefault" 642 (.ref 249), en P "add_header" 655 (.ref 256), en P "__static_attributes__" 657 (.ref 257), en P "__dict__" 659 (.ref 260), en P "__weakref__" 661 (.ref 261), en P "__doc__" 662 .none] 4 }),
  (259, { cls := .type "type", data := .cls { name := so "Headers", bases := [.type "object"], mro := [.ref 259, .type "object"], ns := 258, qualname := so "Headers" }, slots := #[none, none, some (vs "Headers" 508), some (vs "Headers" 516), some (.builtin "object.__new__"), some (.bool true)] }),
  (260, { cls := .type "getset_descriptor", data := .fields #[vs "__dict__" 658, .ref 259, .builtin "function.__dict__", .builtin "function.__dict__#set"] }),
  (261, { cls := .type "getset_descriptor", data := .fields #[vs "__weakref__" 660, .ref 259, .builtin "ExceptionGroup.__weakref__", .none] }),
  (264, { cls := .type "tuple", data := .seq #[] }),
  (266, { cls := .type "tuple", data := .seq #[vs "text" 670, vs "blanks" 671, vs "_law_read_on" 672, vs "stream" 673, vs "machine" 674] }),
  (267, { cls := .type "tuple", data := .seq #[vs "text" 675, vs "at" 676] }),
  (269, { cls := .type "code", data := .fields #[vs "_law_lexer" 667, vs "_law_lexer" 668, vs "/claim/cut.py" 669, .int 186 0, .int 2 0, .int 0 0, .int 0 0, .int 3 0, .ref 264, .bool true, .int 276 0, .ref 265, .none, .ref 266, .ref 267, .ref 268, .int 677 0, .int 186 0, vs "/claim/cut.py" 678] }),
  (270, fO (stA 17) (so "_law_lexer") .none .none (vs "law_pg0281_01" 665) (.ref 269)),
  (271, { cls := .type "tuple", data := .seq #[] }),
  (274, { cls := .type "code", data := .fields #[vs "_law_ties" 680, vs "_law_ties" 681, vs "/claim/cut.py" 682, .int 198 0, .int 1 0, .int 0 0, .int 0 0, .int 3 0, .ref 271, .bool true, .int 276 0, .ref 272, .none, .none, .none, .ref 273, .int 683 0, .int 198 0, vs "/claim/cut.py" 684] }),
  (275, fO (stA 18) (so "_law_ties") .none .none (vs "law_pg0281_01" 665) (.ref 274)),
  (276, { cls := .type "tuple", data := .seq #[] }),
  (278, { cls := .type "tuple", data := .seq #[vs "ties" 689, vs "table" 690, vs "one" 691, vs "other" 692] }),
  (279, { cls := .type "tuple", data := .seq #[] }),
  (281, { cls := .type "code", data := .fields #[vs "_law_table" 686, vs "_law_table" 687, vs "/claim/cut.py" 688, .int 208 0, .int 1 0, .int 0 0, .int 0 0, .int 3 0, .ref 276, .bool true, .int 276 0, .ref 277, .none, .ref 278, .ref 279, .ref 280, .int 693 0, .int 208 0, vs "/claim/cut.py" 694] }),
  (282, fO (stA 19) (so "_law_table") .none .none (vs "law_pg0281_01" 665) (.ref 281)),
  (283, { cls := .type "tuple", data := .seq #[] }),
  (285, { cls := .type "tuple", data := .seq #[vs "word" 699, vs "ties" 700, vs "own" 701, vs "sign" 702, vs "row" 703, vs "one" 704, vs "other" 705] }),
  (286, { cls := .type "tuple", data := .seq #[] }),
  (288, { cls := .type "code", data := .fields #[vs "_law_own" 696, vs "_law_own" 697, vs "/claim/cut.py" 698, .int 214 0, .int 2 0, .int 0 0, .int 0 0, .int 3 0, .ref 283, .bool true, .int 276 0, .ref 284, .none, .ref 285, .ref 286, .ref 287, .int 706 0, .int 214 0, vs "/claim/cut.py" 707] }),
  (289, fO (stA 20) (so "_law_own") .none .none (vs "law_pg0281_01" 665) (.ref 288)),
  (290, { cls := .type "tuple", data := .seq #[] }),
  (293, { cls := .type "code", data := .fields #[vs "_law_by_line" 709, vs "_law_by_line" 710, vs "/claim/cut.py" 711, .int 225 0, .int 2 0, .int 0 0, .int 0 0, .int 3 0, .ref 290, .bool true, .int 276 0, .ref 291, .none, .none, .none, .ref 292, .int 712 0, .int 225 0, vs "/claim/cut.py" 713] }),
  (294, fO (stA 21) (so "_law_by_line") .none .none (vs "law_pg0281_01" 665) (.ref 293)),
  (295, { cls := .type "tuple", data := .seq #[] }),
  (298, { cls := .type "code", data := .fields #[vs "_law_by_heap" 715, vs "_law_by_heap" 716, vs "/claim/cut.py" 717, .int 243 0, .int 2 0, .int 0 0, .int 0 0, .int 3 0, .ref 295, .bool true, .int 276 0, .ref 296, .none, .none, .none, .ref 297, .int 718 0, .int 243 0, vs "/claim/cut.py" 719] }),
  (299, fO (stA 22) (so "_law_by_heap") .none .none (vs "law_pg0281_01" 665) (.ref 298)),
  (300, { cls := .type "tuple", data := .seq #[] }),
  (303, { cls := .type "code", data := .fields #[vs "_law_by_marks" 721, vs "_law_by_marks" 722, vs "/claim/cut.py" 723, .int 257 0, .int 3 0, .int 0 0, .int 0 0, .int 3 0, .ref 300, .bool true, .int 276 0, .ref 301, .none, .none, .none, .ref 302, .int 724 0, .int 257 0, vs "/claim/cut.py" 725] }),
  (304, fO (stA 23) (so "_law_by_marks") .none .none (vs "law_pg0281_01" 665) (.ref 303)),
  (305, { cls := .type "tuple", data := .seq #[] }),
  (308, { cls := .type "code", data := .fields #[vs "_law_no_gap" 727, vs "_law_no_gap" 728, vs "/claim/cut.py" 729, .int 266 0, .int 2 0, .int 0 0, .int 0 0, .int 3 0, .ref 305, .bool true, .int 276 0, .ref 306, .none, .none, .none, .ref 307, .int 730 0, .int 266 0, vs "/claim/cut.py" 731] }),
  (309, fO (stA 24) (so "_law_no_gap") .none .none (vs "law_pg0281_01" 665) (.ref 308)),
  (310, { cls := .type "tuple", data := .seq #[] }),
  (312, { cls := .type "tuple", data := .seq #[vs "word" 736, vs "own" 737, vs "point" 738, vs "one" 739, vs "other" 740, vs "met" 741, vs "k" 742, vs "sign" 743, vs "free" 744] }),
  (313, { cls := .type "tuple", data := .seq #[] }),
  (315, { cls := .type "code", data := .fields #[vs "_law_ring" 733, vs "_law_ring" 734, vs "/claim/cut.py" 735, .int 274 0, .int 2 0, .int 0 0, .int 0 0, .int 3 0, .ref 310, .bool true, .int 276 0, .ref 311, .none, .ref 312, .ref 313, .ref 314, .int 745 0, .int 274 0, vs "/claim/cut.py" 746] }),
  (316, fO (stA 25) (so "_law_ring") .none .none (vs "law_pg0281_01" 665) (.ref 315)),
  (317, { cls := .type "tuple", data := .seq #[] }),
  (320, { cls := .type "code", data := .fields #[vs "law" 748, vs "law" 749, vs "/claim/cut.py" 750, .int 290 0, .int 1 0, .int 0 0, .int 0 0, .int 3 0, .ref 317, .bool true, .int 276 0, .ref 318, .none, .none, .none, .ref 319, .int 751 0, .int 290 0, vs "/claim/cut.py" 752] }),
  (321, fO (stA 26) (so "law") .none .none (vs "law_pg0281_01" 665) (.ref 320))]
noncomputable def KA : List Addr := [2, 3, 32, 34, 35, 37, 38, 39, 41, 42, 44, 45, 46, 48, 49, 51, 52, 53, 55, 56, 58, 59, 60, 62, 63, 65, 66, 67, 69, 70, 72, 73, 81, 83, 84, 86, 87, 88, 90, 91, 93, 94, 95, 97, 98, 100, 101, 102, 104, 105, 107, 108, 109, 110, 111, 112, 113, 119, 120, 124, 125, 129, 130, 131, 132, 134, 135, 137, 138, 146, 147, 149, 150, 152, 153, 154, 156, 157, 159, 160, 161, 163, 164, 166, 167, 168, 170, 171, 173, 174, 175, 178, 179, 180, 182, 183, 185, 186, 187, 189, 190, 192, 193, 194, 197, 198, 199, 200, 202, 203, 205, 206, 207, 210, 211, 212, 215, 216, 217, 219, 220, 222, 223, 224, 226, 227, 229, 230, 231, 234, 235, 236, 238, 239, 241, 242, 243, 245, 246, 248, 249, 250, 252, 253, 255, 256, 257, 258, 259, 260, 261, 264, 266, 267, 269, 270, 271, 274, 275, 276, 278, 279, 281, 282, 283, 285, 286, 288, 289, 290, 293, 294, 295, 298, 299, 300, 303, 304, 305, 308, 309, 310, 312, 313, 315, 316, 317, 320, 321]
end
section
set_option maxHeartbeats 0
noncomputable abbrev PW : Program := PySem.Challenge.pw_pg0281_01
noncomputable def VW : Program := { PySem.Challenge.pw_pg0281_01 with main := { PySem.Challenge.pw_pg0281_01.main with body := [0, 1, 3, 4, 5, 6, 7, 9, 11, 12, 13, 15, 17, 18, 19, 20, 21, 22, 23, 24, 25, 26].map stA } }
noncomputable def LS : List PySem.Str := [so "tspecials", so "_name_disallowed_re", so "_value_disallowed_re", so "_formatparam"]
theorem KA_eq (P : Params) : KA = (KF P).map (·.1) := by kernel_rfl
noncomputable abbrev HkO : Hook := kmHook KF KA KA_eq [265]
noncomputable def gO (st : Stmt) (q : PySem.Str) : Obj := match st with
  | .FunctionDef n a b _ _ _ sc _ _ _ => { cls := .none, data := .func { name := n, qualname := q, params := a, body := .stmts b, scope := sc, globals := 0, closure := [], defaults := .none, kwdefaults := .none } }
  | _ => { cls := .none }
noncomputable def o0 (P : Params) : Obj := ⟨(.type "dict"), none, (.dict #[en P "__name__" 1 (vs "builtins" 160), en P "__doc__" 2 (.builtin "builtins.__doc__:str#opaque"), en P "__package__" 3 (.builtin "builtins.__package__:str#opaque"), en P "__loader__" 4 (.builtin "builtins.__loader__:shared#opaque"), en P "__spec__" 5 (.builtin "builtins.__spec__#opaque"), en P "__build_class__" 6 (.builtin "__build_class__"), en P "__\x69mport__" 7 (.builtin "__\x69mport__"), en P "abs" 8 (.builtin "abs"), en P "all" 9 (.builtin "all"), en P "any" 10 (.builtin "any"), en P "ascii" 11 (.builtin "ascii"), en P "bin" 12 (.builtin "bin"), en P "breakpoint" 13 (.builtin "breakpoint"), en P "callable" 14 (.builtin "callable"), en P "chr" 15 (.builtin "chr"), en P "compile" 16 (.builtin "compile"), en P "delattr" 17 (.builtin "delattr"), en P "dir" 18 (.builtin "dir"), en P "divmod" 19 (.builtin "divmod"), en P "eval" 20 (.builtin "eval"), en P "exec" 21 (.builtin "exec"), en P "format" 22 (.builtin "format"), en P "getattr" 23 (.builtin "getattr"), en P "globals" 24 (.builtin "globals"), en P "hasattr" 25 (.builtin "hasattr"), en P "hash" 26 (.builtin "hash"), en P "hex" 27 (.builtin "hex"), en P "id" 28 (.builtin "id"), en P "input" 29 (.builtin "input"), en P "isinstance" 30 (.builtin "isinstance"), en P "issubclass" 31 (.builtin "issubclass"), en P "iter" 32 (.builtin "iter"), en P "aiter" 33 (.builtin "aiter"), en P "len" 34 (.builtin "len"), en P "locals" 35 (.builtin "locals"), en P "max" 36 (.builtin "max"), en P "min" 37 (.builtin "min"), en P "next" 38 (.builtin "next"), en P "anext" 39 (.builtin "anext"), en P "oct" 40 (.builtin "oct"), en P "ord" 41 (.builtin "ord"), en P "pow" 42 (.builtin "pow"), en P "print" 43 (.builtin "print"), en P "repr" 44 (.builtin "repr"), en P "round" 45 (.builtin "round"), en P "setattr" 46 (.builtin "setattr"), en P "sorted" 47 (.builtin "sorted"), en P "sum" 48 (.builtin "sum"), en P "vars" 49 (.builtin "vars"), en P "None" 50 .none, en P "Ellipsis" 51 .ellipsis, en P "NotImplemented" 52 .notImplemented, en P "False" 53 (.bool false), en P "True" 54 (.bool true), en P "bool" 55 (.type "bool"), en P "memoryview" 56 (.type "memoryview"), en P "bytearray" 57 (.type "bytearray"), en P "bytes" 58 (.type "bytes"), en P "classmethod" 59 (.type "classmethod"), en P "complex" 60 (.type "complex"), en P "dict" 61 (.type "dict"), en P "enumerate" 62 (.type "enumerate"), en P "filter" 63 (.type "filter"), en P "float" 64 (.type "float"), en P "frozenset" 65 (.type "frozenset"), en P "property" 66 (.type "property"), en P "int" 67 (.type "int"), en P "list" 68 (.type "list"), en P "map" 69 (.type "map"), en P "object" 70 (.type "object"), en P "range" 71 (.type "range"), en P "reversed" 72 (.type "reversed"), en P "set" 73 (.type "set"), en P "slice" 74 (.type "slice"), en P "staticmethod" 75 (.type "staticmethod"), en P "str" 76 (.type "str"), en P "super" 77 (.type "super"), en P "tuple" 78 (.type "tuple"), en P "type" 79 (.type "type"), en P "zip" 80 (.type "zip"), en P "__debug__" 81 (.bool true), en P "BaseException" 82 (.type "BaseException"), en P "BaseExceptionGroup" 83 (.type "BaseExceptionGroup"), en P "Exception" 84 (.type "Exception"), en P "GeneratorExit" 85 (.type "GeneratorExit"), en P "KeyboardInterrupt" 86 (.type "KeyboardInterrupt"), en P "SystemExit" 87 (.type "SystemExit"), en P "ArithmeticError" 88 (.type "ArithmeticError"), en P "AssertionError" 89 (.type "AssertionError"), en P "AttributeError" 90 (.type "AttributeError"), en P "BufferError" 91 (.type "BufferError"), en P "EOFError" 92 (.type "EOFError"), en P "ImportError" 93 (.type "ImportError"), en P "LookupError" 94 (.type "LookupError"), en P "MemoryError" 95 (.type "MemoryError"), en P "NameError" 96 (.type "NameError"), en P "OSError" 97 (.type "OSError"), en P "ReferenceError" 98 (.type "ReferenceError"), en P "RuntimeError" 99 (.type "RuntimeError"), en P "StopAsyncIteration" 100 (.type "StopAsyncIteration"), en P "StopIteration" 101 (.type "StopIteration"), en P "SyntaxError" 102 (.type "SyntaxError"), en P "SystemError" 103 (.type "SystemError"), en P "TypeError" 104 (.type "TypeError"), en P "ValueError" 105 (.type "ValueError"), en P "Warning" 106 (.type "Warning"), en P "FloatingPointError" 107 (.type "FloatingPointError"), en P "OverflowError" 108 (.type "OverflowError"), en P "ZeroDivisionError" 109 (.type "ZeroDivisionError"), en P "BytesWarning" 110 (.type "BytesWarning"), en P "DeprecationWarning" 111 (.type "DeprecationWarning"), en P "EncodingWarning" 112 (.type "EncodingWarning"), en P "FutureWarning" 113 (.type "FutureWarning"), en P "ImportWarning" 114 (.type "ImportWarning"), en P "PendingDeprecationWarning" 115 (.type "PendingDeprecationWarning"), en P "ResourceWarning" 116 (.type "ResourceWarning"), en P "RuntimeWarning" 117 (.type "RuntimeWarning"), en P "SyntaxWarning" 118 (.type "SyntaxWarning"), en P "UnicodeWarning" 119 (.type "UnicodeWarning"), en P "UserWarning" 120 (.type "UserWarning"), en P "BlockingIOError" 121 (.type "BlockingIOError"), en P "ChildProcessError" 122 (.type "ChildProcessError"), en P "ConnectionError" 123 (.type "ConnectionError"), en P "FileExistsError" 124 (.type "FileExistsError"), en P "FileNotFoundError" 125 (.type "FileNotFoundError"), en P "InterruptedError" 126 (.type "InterruptedError"), en P "IsADirectoryError" 127 (.type "IsADirectoryError"), en P "NotADirectoryError" 128 (.type "NotADirectoryError"), en P "PermissionError" 129 (.type "PermissionError"), en P "ProcessLookupError" 130 (.type "ProcessLookupError"), en P "TimeoutError" 131 (.type "TimeoutError"), en P "IndentationError" 132 (.type "IndentationError"), en P "_IncompleteInputError" 133 (.type "_IncompleteInputError"), en P "IndexError" 134 (.type "IndexError"), en P "KeyError" 135 (.type "KeyError"), en P "ModuleNotFoundError" 136 (.type "ModuleNotFoundError"), en P "NotImplementedError" 137 (.type "NotImplementedError"), en P "PythonFinalizationError" 138 (.type "PythonFinalizationError"), en P "RecursionError" 139 (.type "RecursionError"), en P "UnboundLocalError" 140 (.type "UnboundLocalError"), en P "UnicodeError" 141 (.type "UnicodeError"), en P "BrokenPipeError" 142 (.type "BrokenPipeError"), en P "ConnectionAbortedError" 143 (.type "ConnectionAbortedError"), en P "ConnectionRefusedError" 144 (.type "ConnectionRefusedError"), en P "ConnectionResetError" 145 (.type "ConnectionResetError"), en P "TabError" 146 (.type "TabError"), en P "UnicodeDecodeError" 147 (.type "UnicodeDecodeError"), en P "UnicodeEncodeError" 148 (.type "UnicodeEncodeError"), en P "UnicodeTranslateError" 149 (.type "UnicodeTranslateError"), en P "ExceptionGroup" 150 (.type "ExceptionGroup"), en P "EnvironmentError" 151 (.type "OSError"), en P "IOError" 152 (.type "OSError"), en P "open" 153 (.builtin "open"), en P "quit" 154 (.builtin "builtins.quit#opaque"), en P "exit" 155 (.builtin "builtins.exit#opaque"), en P "copyright" 156 (.builtin "builtins.copyright#opaque"), en P "credits" 157 (.builtin "builtins.credits#opaque"), en P "license" 158 (.builtin "builtins.license#opaque"), en P "help" 159 (.builtin "builtins.help#opaque")] 159), #[]⟩
noncomputable def o1 (P : Params) : Obj := ⟨(.type "dict"), none, (.dict #[en P "builtins" 162 (.ref 4), en P "__main__" 163 (.ref 5), en P "_sre" 244 (.ref 12)] 3), #[]⟩
noncomputable def o2 (P : Params) : Obj := ⟨.none, none, (.dict #[en P "\x69mport.loaded._sre" 183 (.bool true), en P "class._frozen_\x69mportlib.BuiltinImporter" 185 (.ref 14), en P "watched.\x69mport" 206 (.ref 18), en P "class._frozen_\x69mportlib.ModuleSpec" 216 (.ref 22), en P "sys.modules.booked-epoch" 245 (.int 3 0), en P "\x69mport.later-laid._sre" 270 (.bool true), en P "watched.library" 272 (.ref 27), en P "watched.library-objects" 0 (vs "\x0c" 0), en P "watched.library-deep._sre" 273 (vs "\x04\x00\x00\x0b\x04\x00\x00\x0b\x04\x00\x00\x03\x04\x00\x00\x0b\x08\x04dict\x02" 0)] 9), #[]⟩
noncomputable def o3 (P : Params) : Obj := ⟨(.type "dict"), none, (.dict #[en P "__name__" 165 (vs "__main__" 164), en P "__doc__" 166 .none, en P "__package__" 167 .none, en P "__loader__" 168 (.builtin "__main__.__loader__#opaque"), en P "__spec__" 169 .none, en P "__annotations__" 170 (.ref 6), en P "__builtins__" 171 (.ref 4), en P "__file__" 173 (vs "/claim/cut.py" 172), en P "__cached__" 174 .none, en P "_sre" 275 (.ref 12)] 10), #[]⟩
noncomputable def o4 (P : Params) : Obj := ⟨(.type "module"), (some 0), .plain, #[]⟩
noncomputable def o5 (P : Params) : Obj := ⟨(.type "module"), (some 3), .plain, #[]⟩
noncomputable def o6 (P : Params) : Obj := ⟨(.type "dict"), none, (.dict #[] 0), #[]⟩
noncomputable def o7 (P : Params) : Obj := ⟨(.type "tuple"), none, (.seq #[] 0), #[]⟩
noncomputable def o8 (P : Params) : Obj := ⟨.none, none, (.fields #[]), #[]⟩
noncomputable def o9 (P : Params) : Obj := ⟨(.type "code"), none, (.fields #[(vs "<module>" 176), (vs "<module>" 177), (vs "/claim/cut.py" 178), (.int 1 0), (.int 0 0), (.int 0 0), (.int 0 0), (.int 0 0), (.ref 7), (.bool false), (.int 175 0), (.ref 8), .none, .none, .none, .none, (.int 179 0), (.int 1 0), (vs "/claim/cut.py" 180)]), #[]⟩
noncomputable def o10 (P : Params) : Obj := ⟨(.type "frame"), none, .plain, #[(some (.ref 9)), (some (.ref 3)), (some (.ref 3)), none, (some (vs "__main__" 164)), none, (some (.ref 0))]⟩
noncomputable def o11 (P : Params) : Obj := ⟨(.type "dict"), none, (.dict #[en P "__name__" 247 (vs "_sre" 246), en P "__doc__" 248 .none, en P "__package__" 250 (vs "" 249), en P "__loader__" 251 (.builtin "off-the-table:_sre.__loader__:shared#opaque"), en P "__spec__" 252 (.builtin "off-the-table:_sre.__spec__:shared#opaque"), en P "compile" 253 (.builtin "_sre.compile"), en P "template" 254 (.builtin "off-the-table:_sre.template:shared#opaque"), en P "getcodesize" 255 (.builtin "off-the-table:_sre.getcodesize:shared#opaque"), en P "ascii_iscased" 256 (.builtin "off-the-table:_sre.ascii_iscased:shared#opaque"), en P "unicode_iscased" 257 (.builtin "off-the-table:_sre.unicode_iscased:shared#opaque"), en P "ascii_tolower" 258 (.builtin "off-the-table:_sre.ascii_tolower:shared#opaque"), en P "unicode_tolower" 259 (.builtin "off-the-table:_sre.unicode_tolower:shared#opaque"), en P "MAGIC" 261 (.int 20230612 260), en P "CODESIZE" 263 (.int 4 262), en P "MAXREPEAT" 265 (.int 4294967295 264), en P "MAXGROUPS" 267 (.int 1073741823 266), en P "copyright" 269 (vs " SRE 2.2.2 Copyright (c) 1997-2002 by Secret Labs AB " 268)] 17), #[]⟩
noncomputable def o12 (P : Params) : Obj := ⟨(.type "module"), (some 11), .plain, #[]⟩
noncomputable def o13 (P : Params) : Obj := ⟨(.type "dict"), none, (.dict #[en P "__module__" 189 (vs "_frozen_\x69mportlib" 186), en P "__firstlineno__" 190 (.int 971 187), en P "__doc__" 191 (.builtin "_frozen_\x69mportlib.BuiltinImporter.__doc__:str#opaque"), en P "_ORIGIN" 192 (vs "built-in" 188), en P "find_spec" 193 (.builtin "_frozen_\x69mportlib.BuiltinImporter.find_spec#opaque"), en P "create_module" 194 (.builtin "_frozen_\x69mportlib.BuiltinImporter.create_module#opaque"), en P "exec_module" 195 (.builtin "_frozen_\x69mportlib.BuiltinImporter.exec_module#opaque"), en P "get_code" 196 (.builtin "_frozen_\x69mportlib.BuiltinImporter.get_code#opaque"), en P "get_source" 197 (.builtin "_frozen_\x69mportlib.BuiltinImporter.get_source#opaque"), en P "is_package" 198 (.builtin "_frozen_\x69mportlib.BuiltinImporter.is_package#opaque"), en P "load_module" 199 (.builtin "_frozen_\x69mportlib.BuiltinImporter.load_module#opaque"), en P "__static_attributes__" 200 (.ref 15), en P "__dict__" 202 (.ref 16), en P "__weakref__" 204 (.ref 17)] 14), #[]⟩
noncomputable def o14 (P : Params) : Obj := ⟨(.type "type"), none, (.cls { name := (so "BuiltinImporter"), bases := [(.type "object")], mro := [(.ref 14), (.type "object")], ns := 13, qualname := (so "BuiltinImporter"), hasDict := true, slotNames := [], subclasses := [], abstract := false, collection := none, hasDel := false }), #[]⟩
noncomputable def o15 (P : Params) : Obj := ⟨(.type "tuple"), none, (.seq #[] 0), #[]⟩
noncomputable def o16 (P : Params) : Obj := ⟨(.type "getset_descriptor"), none, (.fields #[(vs "__dict__" 201), (.ref 14), (.builtin "function.__dict__"), (.builtin "function.__dict__#set")]), #[]⟩
noncomputable def o17 (P : Params) : Obj := ⟨(.type "getset_descriptor"), none, (.fields #[(vs "__weakref__" 203), (.ref 14), (.builtin "ExceptionGroup.__weakref__"), .none]), #[]⟩
noncomputable def o18 (P : Params) : Obj := ⟨.none, none, (.seq #[(.int 13 0), (.str ⟨#[6, 189, 10, 95, 95, 109, 111, 100, 117, 108, 101, 95, 95, 6, 186, 17, 95, 102, 114, 111, 122, 101, 110, 95, 105, 109, 112, 111, 114, 116, 108, 105, 98, 6, 190, 15, 95, 95, 102, 105, 114, 115, 116, 108, 105, 110, 101, 110, 111, 95, 95, 4, 187, 0, 971, 6, 191, 7, 95, 95, 100, 111, 99, 95, 95, 9, 52, 95, 102, 114, 111, 122, 101, 110, 95, 105, 109, 112, 111, 114, 116, 108, 105, 98, 46, 66, 117, 105, 108, 116, 105, 110, 73, 109, 112, 111, 114, 116, 101, 114, 46, 95, 95, 100, 111, 99, 95, 95, 58, 115, 116, 114, 35, 111, 112, 97, 113, 117, 101, 6, 192, 7, 95, 79, 82, 73, 71, 73, 78, 6, 188, 8, 98, 117, 105, 108, 116, 45, 105, 110, 6, 193, 9, 102, 105, 110, 100, 95, 115, 112, 101, 99, 9, 50, 95, 102, 114, 111, 122, 101, 110, 95, 105, 109, 112, 111, 114, 116, 108, 105, 98, 46, 66, 117, 105, 108, 116, 105, 110, 73, 109, 112, 111, 114, 116, 101, 114, 46, 102, 105, 110, 100, 95, 115, 112, 101, 99, 35, 111, 112, 97, 113, 117, 101, 6, 194, 13, 99, 114, 101, 97, 116, 101, 95, 109, 111, 100, 117, 108, 101, 9, 54, 95, 102, 114, 111, 122, 101, 110, 95, 105, 109, 112, 111, 114, 116, 108, 105, 98, 46, 66, 117, 105, 108, 116, 105, 110, 73, 109, 112, 111, 114, 116, 101, 114, 46, 99, 114, 101, 97, 116, 101, 95, 109, 111, 100, 117, 108, 101, 35, 111, 112, 97, 113, 117, 101, 6, 195, 11, 101, 120, 101, 99, 95, 109, 111, 100, 117, 108, 101, 9, 52, 95, 102, 114, 111, 122, 101, 110, 95, 105, 109, 112, 111, 114, 116, 108, 105, 98, 46, 66, 117, 105, 108, 116, 105, 110, 73, 109, 112, 111, 114, 116, 101, 114, 46, 101, 120, 101, 99, 95, 109, 111, 100, 117, 108, 101, 35, 111, 112, 97, 113, 117, 101, 6, 196, 8, 103, 101, 116, 95, 99, 111, 100, 101, 9, 49, 95, 102, 114, 111, 122, 101, 110, 95, 105, 109, 112, 111, 114, 116, 108, 105, 98, 46, 66, 117, 105, 108, 116, 105, 110, 73, 109, 112, 111, 114, 116, 101, 114, 46, 103, 101, 116, 95, 99, 111, 100, 101, 35, 111, 112, 97, 113, 117, 101, 6, 197, 10, 103, 101, 116, 95, 115, 111, 117, 114, 99, 101, 9, 51, 95, 102, 114, 111, 122, 101, 110, 95, 105, 109, 112, 111, 114, 116, 108, 105, 98, 46, 66, 117, 105, 108, 116, 105, 110, 73, 109, 112, 111, 114, 116, 101, 114, 46, 103, 101, 116, 95, 115, 111, 117, 114, 99, 101, 35, 111, 112, 97, 113, 117, 101, 6, 198, 10, 105, 115, 95, 112, 97, 99, 107, 97, 103, 101, 9, 51, 95, 102, 114, 111, 122, 101, 110, 95, 105, 109, 112, 111, 114, 116, 108, 105, 98, 46, 66, 117, 105, 108, 116, 105, 110, 73, 109, 112, 111, 114, 116, 101, 114, 46, 105, 115, 95, 112, 97, 99, 107, 97, 103, 101, 35, 111, 112, 97, 113, 117, 101, 6, 199, 11, 108, 111, 97, 100, 95, 109, 111, 100, 117, 108, 101, 9, 52, 95, 102, 114, 111, 122, 101, 110, 95, 105, 109, 112, 111, 114, 116, 108, 105, 98, 46, 66, 117, 105, 108, 116, 105, 110, 73, 109, 112, 111, 114, 116, 101, 114, 46, 108, 111, 97, 100, 95, 109, 111, 100, 117, 108, 101, 35, 111, 112, 97, 113, 117, 101, 6, 200, 21, 95, 95, 115, 116, 97, 116, 105, 99, 95, 97, 116, 116, 114, 105, 98, 117, 116, 101, 115, 95, 95, 4, 0, 0, 15, 6, 202, 8, 95, 95, 100, 105, 99, 116, 95, 95, 4, 0, 0, 16, 6, 204, 11, 95, 95, 119, 101, 97, 107, 114, 101, 102, 95, 95, 4, 0, 0, 17]⟩ 0), (.bool true), (.bool true), (vs "" 205), (.int 21 0), (.str ⟨#[6, 227, 10, 95, 95, 109, 111, 100, 117, 108, 101, 95, 95, 6, 217, 17, 95, 102, 114, 111, 122, 101, 110, 95, 105, 109, 112, 111, 114, 116, 108, 105, 98, 6, 228, 15, 95, 95, 102, 105, 114, 115, 116, 108, 105, 110, 101, 110, 111, 95, 95, 4, 218, 0, 562, 6, 229, 7, 95, 95, 100, 111, 99, 95, 95, 9, 47, 95, 102, 114, 111, 122, 101, 110, 95, 105, 109, 112, 111, 114, 116, 108, 105, 98, 46, 77, 111, 100, 117, 108, 101, 83, 112, 101, 99, 46, 95, 95, 100, 111, 99, 95, 95, 58, 115, 116, 114, 35, 111, 112, 97, 113, 117, 101, 6, 230, 8, 95, 95, 105, 110, 105, 116, 95, 95, 9, 44, 95, 102, 114, 111, 122, 101, 110, 95, 105, 109, 112, 111, 114, 116, 108, 105, 98, 46, 77, 111, 100, 117, 108, 101, 83, 112, 101, 99, 46, 95, 95, 105, 110, 105, 116, 95, 95, 35, 111, 112, 97, 113, 117, 101, 6, 231, 8, 95, 95, 114, 101, 112, 114, 95, 95, 9, 44, 95, 102, 114, 111, 122, 101, 110, 95, 105, 109, 112, 111, 114, 116, 108, 105, 98, 46, 77, 111, 100, 117, 108, 101, 83, 112, 101, 99, 46, 95, 95, 114, 101, 112, 114, 95, 95, 35, 111, 112, 97, 113, 117, 101, 6, 232, 6, 95, 95, 101, 113, 95, 95, 9, 42, 95, 102, 114, 111, 122, 101, 110, 95, 105, 109, 112, 111, 114, 116, 108, 105, 98, 46, 77, 111, 100, 117, 108, 101, 83, 112, 101, 99, 46, 95, 95, 101, 113, 95, 95, 35, 111, 112, 97, 113, 117, 101, 6, 233, 6, 99, 97, 99, 104, 101, 100, 9, 42, 95, 102, 114, 111, 122, 101, 110, 95, 105, 109, 112, 111, 114, 116, 108, 105, 98, 46, 77, 111, 100, 117, 108, 101, 83, 112, 101, 99, 46, 99, 97, 99, 104, 101, 100, 35, 111, 112, 97, 113, 117, 101, 6, 234, 6, 112, 97, 114, 101, 110, 116, 9, 42, 95, 102, 114, 111, 122, 101, 110, 95, 105, 109, 112, 111, 114, 116, 108, 105, 98, 46, 77, 111, 100, 117, 108, 101, 83, 112, 101, 99, 46, 112, 97, 114, 101, 110, 116, 35, 111, 112, 97, 113, 117, 101, 6, 235, 12, 104, 97, 115, 95, 108, 111, 99, 97, 116, 105, 111, 110, 9, 48, 95, 102, 114, 111, 122, 101, 110, 95, 105, 109, 112, 111, 114, 116, 108, 105, 98, 46, 77, 111, 100, 117, 108, 101, 83, 112, 101, 99, 46, 104, 97, 115, 95, 108, 111, 99, 97, 116, 105, 111, 110, 35, 111, 112, 97, 113, 117, 101, 6, 236, 21, 95, 95, 115, 116, 97, 116, 105, 99, 95, 97, 116, 116, 114, 105, 98, 117, 116, 101, 115, 95, 95, 4, 0, 0, 23, 6, 238, 8, 95, 95, 100, 105, 99, 116, 95, 95, 4, 0, 0, 24, 6, 240, 11, 95, 95, 119, 101, 97, 107, 114, 101, 102, 95, 95, 4, 0, 0, 25, 6, 241, 8, 95, 95, 104, 97, 115, 104, 95, 95, 0]⟩ 0), (.bool true), (.bool true), (vs "" 242)] 1), #[]⟩
noncomputable def o19 (P : Params) : Obj := ⟨(.type "list"), none, (.seq #[] 0), #[]⟩
noncomputable def o20 (P : Params) : Obj := ⟨(.type "dict"), none, (.dict #[en P "name" 208 (vs "_sre" 207), en P "loader" 209 (.ref 14), en P "origin" 210 (vs "built-in" 184), en P "loader_state" 211 .none, en P "submodule_search_locations" 212 .none, en P "_uninitialized_submodules" 213 (.ref 19), en P "_set_fileattr" 214 (.bool false), en P "_cached" 215 .none, en P "_initializing" 243 (.bool false)] 9), #[]⟩
noncomputable def o21 (P : Params) : Obj := ⟨(.type "dict"), none, (.dict #[en P "__module__" 227 (vs "_frozen_\x69mportlib" 217), en P "__firstlineno__" 228 (.int 562 218), en P "__doc__" 229 (.builtin "_frozen_\x69mportlib.ModuleSpec.__doc__:str#opaque"), en P "__init__" 230 (.builtin "_frozen_\x69mportlib.ModuleSpec.__init__#opaque"), en P "__repr__" 231 (.builtin "_frozen_\x69mportlib.ModuleSpec.__repr__#opaque"), en P "__eq__" 232 (.builtin "_frozen_\x69mportlib.ModuleSpec.__eq__#opaque"), en P "cached" 233 (.builtin "_frozen_\x69mportlib.ModuleSpec.cached#opaque"), en P "parent" 234 (.builtin "_frozen_\x69mportlib.ModuleSpec.parent#opaque"), en P "has_location" 235 (.builtin "_frozen_\x69mportlib.ModuleSpec.has_location#opaque"), en P "__static_attributes__" 236 (.ref 23), en P "__dict__" 238 (.ref 24), en P "__weakref__" 240 (.ref 25), en P "__hash__" 241 .none] 13), #[]⟩
noncomputable def o22 (P : Params) : Obj := ⟨(.type "type"), none, (.cls { name := (so "ModuleSpec"), bases := [(.type "object")], mro := [(.ref 22), (.type "object")], ns := 21, qualname := (so "ModuleSpec"), hasDict := true, slotNames := [], subclasses := [], abstract := false, collection := none, hasDel := false }), #[]⟩
noncomputable def o23 (P : Params) : Obj := ⟨(.type "tuple"), none, (.seq #[(vs "_cached" 219), (vs "_set_fileattr" 220), (vs "_uninitialized_submodules" 221), (vs "loader" 222), (vs "loader_state" 223), (vs "name" 224), (vs "origin" 225), (vs "submodule_search_locations" 226)] 0), #[]⟩
noncomputable def o24 (P : Params) : Obj := ⟨(.type "getset_descriptor"), none, (.fields #[(vs "__dict__" 237), (.ref 22), (.builtin "function.__dict__"), (.builtin "function.__dict__#set")]), #[]⟩
noncomputable def o25 (P : Params) : Obj := ⟨(.type "getset_descriptor"), none, (.fields #[(vs "__weakref__" 239), (.ref 22), (.builtin "ExceptionGroup.__weakref__"), .none]), #[]⟩
noncomputable def o26 (P : Params) : Obj := ⟨(.ref 22), (some 20), .plain, #[]⟩
noncomputable def o27 (P : Params) : Obj := ⟨.none, none, (.seq #[(.int 11 0), (.str ⟨#[6, 247, 8, 95, 95, 110, 97, 109, 101, 95, 95, 6, 246, 4, 95, 115, 114, 101, 6, 248, 7, 95, 95, 100, 111, 99, 95, 95, 0, 6, 250, 11, 95, 95, 112, 97, 99, 107, 97, 103, 101, 95, 95, 6, 249, 0, 6, 251, 10, 95, 95, 108, 111, 97, 100, 101, 114, 95, 95, 4, 0, 0, 14, 6, 252, 8, 95, 95, 115, 112, 101, 99, 95, 95, 4, 0, 0, 26, 6, 253, 7, 99, 111, 109, 112, 105, 108, 101, 9, 12, 95, 115, 114, 101, 46, 99, 111, 109, 112, 105, 108, 101, 6, 254, 8, 116, 101, 109, 112, 108, 97, 116, 101, 9, 13, 95, 115, 114, 101, 46, 116, 101, 109, 112, 108, 97, 116, 101, 6, 255, 11, 103, 101, 116, 99, 111, 100, 101, 115, 105, 122, 101, 9, 16, 95, 115, 114, 101, 46, 103, 101, 116, 99, 111, 100, 101, 115, 105, 122, 101, 6, 256, 13, 97, 115, 99, 105, 105, 95, 105, 115, 99, 97, 115, 101, 100, 9, 18, 95, 115, 114, 101, 46, 97, 115, 99, 105, 105, 95, 105, 115, 99, 97, 115, 101, 100, 6, 257, 15, 117, 110, 105, 99, 111, 100, 101, 95, 105, 115, 99, 97, 115, 101, 100, 9, 20, 95, 115, 114, 101, 46, 117, 110, 105, 99, 111, 100, 101, 95, 105, 115, 99, 97, 115, 101, 100, 6, 258, 13, 97, 115, 99, 105, 105, 95, 116, 111, 108, 111, 119, 101, 114, 9, 18, 95, 115, 114, 101, 46, 97, 115, 99, 105, 105, 95, 116, 111, 108, 111, 119, 101, 114, 6, 259, 15, 117, 110, 105, 99, 111, 100, 101, 95, 116, 111, 108, 111, 119, 101, 114, 9, 20, 95, 115, 114, 101, 46, 117, 110, 105, 99, 111, 100, 101, 95, 116, 111, 108, 111, 119, 101, 114, 6, 261, 5, 77, 65, 71, 73, 67, 4, 260, 0, 20230612, 6, 263, 8, 67, 79, 68, 69, 83, 73, 90, 69, 4, 262, 0, 4, 6, 265, 9, 77, 65, 88, 82, 69, 80, 69, 65, 84, 4, 264, 0, 4294967295, 6, 267, 9, 77, 65, 88, 71, 82, 79, 85, 80, 83, 4, 266, 0, 1073741823, 6, 269, 9, 99, 111, 112, 121, 114, 105, 103, 104, 116, 6, 268, 53, 32, 83, 82, 69, 32, 50, 46, 50, 46, 50, 32, 67, 111, 112, 121, 114, 105, 103, 104, 116, 32, 40, 99, 41, 32, 49, 57, 57, 55, 45, 50, 48, 48, 50, 32, 98, 121, 32, 83, 101, 99, 114, 101, 116, 32, 76, 97, 98, 115, 32, 65, 66, 32]⟩ 0), (.bool true), (.bool false), (vs "_sre" 271)] 0), #[]⟩
noncomputable def o28 (P : Params) : Obj := ⟨(.type "tuple"), none, (.seq #[] 0), #[]⟩
noncomputable def o29 (P : Params) : Obj := ⟨.none, none, (.fields #[]), #[]⟩
noncomputable def o30 (P : Params) : Obj := ⟨(.type "code"), none, (.fields #[(vs "<module>" 277), (vs "<module>" 278), (vs "/claim/cut.py" 279), (.int 1 0), (.int 0 0), (.int 0 0), (.int 0 0), (.int 0 0), (.ref 28), (.bool false), (.int 276 0), (.ref 29), .none, .none, .none, .none, (.int 280 0), (.int 1 0), (vs "/claim/cut.py" 281)]), #[]⟩
noncomputable def o31 (P : Params) : Obj := ⟨(.type "frame"), none, .plain, #[(some (.ref 30)), (some (.ref 3)), (some (.ref 3)), none, (some (vs "__main__" 164)), none, (some (.ref 0))]⟩
noncomputable def o3v1 (P : Params) : Obj := ⟨(.type "dict"), none, (.dict #[en P "__name__" 165 (vs "cpy313.netrc" 342), en P "__doc__" 166 .none, en P "__package__" 167 .none, en P "__loader__" 168 (.builtin "__main__.__loader__#opaque"), en P "__spec__" 169 .none, en P "__annotations__" 170 (.ref 6), en P "__builtins__" 171 (.ref 4), en P "__file__" 173 (vs "/claim/cut.py" 172), en P "__cached__" 174 .none, en P "_sre" 275 (.ref 12), en P "_wall" 288 (.ref 38), en P "heappush" 298 (.ref 45), en P "heappop" 307 (.ref 52), en P "heapify" 316 (.ref 59), en P "_siftdown" 328 (.ref 66), en P "_siftup" 341 (.ref 73)] 16), #[]⟩
noncomputable def o29v1 (P : Params) : Obj := ⟨.none, none, (.fields #[(.int 2 0), (.int 0 0), (.ref 37), (.int 6 0), (.int 0 0), (.ref 44), (.int 9 0), (.int 0 0), (.ref 51), (.int 17 0), (.int 0 0), (.ref 58), (.int 21 0), (.int 0 0), (.ref 65), (.int 32 0), (.int 0 0), (.ref 72)]), #[]⟩
noncomputable def o32 (P : Params) : Obj := ⟨(.type "tuple"), none, (.seq #[] 0), #[]⟩
noncomputable def o33 (P : Params) : Obj := ⟨.none, none, (.fields #[]), #[]⟩
noncomputable def o34 (P : Params) : Obj := ⟨(.type "tuple"), none, (.seq #[(vs "k" 285)] 0), #[]⟩
noncomputable def o35 (P : Params) : Obj := ⟨(.type "tuple"), none, (.seq #[] 0), #[]⟩
noncomputable def o36 (P : Params) : Obj := gO (stA 1) (so "_wall")
noncomputable def o37 (P : Params) : Obj := ⟨(.type "code"), none, (.fields #[(vs "_wall" 282), (vs "_wall" 283), (vs "/claim/cut.py" 284), (.int 2 0), (.int 1 0), (.int 0 0), (.int 0 0), (.int 3 0), (.ref 32), (.bool true), (.int 276 0), (.ref 33), .none, (.ref 34), (.ref 35), (.ref 36), (.int 286 0), (.int 2 0), (vs "/claim/cut.py" 287)]), #[]⟩
noncomputable def o38 (P : Params) : Obj := fO (stA 1) (so "_wall") .none .none (vs "__main__" 164) (.ref 37)
noncomputable def o39 (P : Params) : Obj := ⟨(.type "tuple"), none, (.seq #[] 0), #[]⟩
noncomputable def o40 (P : Params) : Obj := ⟨.none, none, (.fields #[]), #[]⟩
noncomputable def o41 (P : Params) : Obj := ⟨(.type "tuple"), none, (.seq #[(vs "heap" 294), (vs "item" 295)] 0), #[]⟩
noncomputable def o42 (P : Params) : Obj := ⟨(.type "tuple"), none, (.seq #[] 0), #[]⟩
noncomputable def o43 (P : Params) : Obj := gO (stA 3) (so "heappush")
noncomputable def o44 (P : Params) : Obj := ⟨(.type "code"), none, (.fields #[(vs "heappush" 291), (vs "heappush" 292), (vs "/claim/cut.py" 293), (.int 6 0), (.int 2 0), (.int 0 0), (.int 0 0), (.int 3 0), (.ref 39), (.bool true), (.int 276 0), (.ref 40), .none, (.ref 41), (.ref 42), (.ref 43), (.int 296 0), (.int 6 0), (vs "/claim/cut.py" 297)]), #[]⟩
noncomputable def o45 (P : Params) : Obj := fO (stA 3) (so "heappush") .none .none (vs "cpy313.heapq" 289) (.ref 44)
noncomputable def o46 (P : Params) : Obj := ⟨(.type "tuple"), none, (.seq #[] 0), #[]⟩
noncomputable def o47 (P : Params) : Obj := ⟨.none, none, (.fields #[]), #[]⟩
noncomputable def o48 (P : Params) : Obj := ⟨(.type "tuple"), none, (.seq #[(vs "heap" 302), (vs "lastelt" 303), (vs "returnitem" 304)] 0), #[]⟩
noncomputable def o49 (P : Params) : Obj := ⟨(.type "tuple"), none, (.seq #[] 0), #[]⟩
noncomputable def o50 (P : Params) : Obj := gO (stA 4) (so "heappop")
noncomputable def o51 (P : Params) : Obj := ⟨(.type "code"), none, (.fields #[(vs "heappop" 299), (vs "heappop" 300), (vs "/claim/cut.py" 301), (.int 9 0), (.int 1 0), (.int 0 0), (.int 0 0), (.int 3 0), (.ref 46), (.bool true), (.int 276 0), (.ref 47), .none, (.ref 48), (.ref 49), (.ref 50), (.int 305 0), (.int 9 0), (vs "/claim/cut.py" 306)]), #[]⟩
noncomputable def o52 (P : Params) : Obj := fO (stA 4) (so "heappop") .none .none (vs "cpy313.heapq" 289) (.ref 51)
noncomputable def o53 (P : Params) : Obj := ⟨(.type "tuple"), none, (.seq #[] 0), #[]⟩
noncomputable def o54 (P : Params) : Obj := ⟨.none, none, (.fields #[]), #[]⟩
noncomputable def o55 (P : Params) : Obj := ⟨(.type "tuple"), none, (.seq #[(vs "x" 311), (vs "n" 312), (vs "i" 313)] 0), #[]⟩
noncomputable def o56 (P : Params) : Obj := ⟨(.type "tuple"), none, (.seq #[] 0), #[]⟩
noncomputable def o57 (P : Params) : Obj := gO (stA 5) (so "heapify")
noncomputable def o58 (P : Params) : Obj := ⟨(.type "code"), none, (.fields #[(vs "heapify" 308), (vs "heapify" 309), (vs "/claim/cut.py" 310), (.int 17 0), (.int 1 0), (.int 0 0), (.int 0 0), (.int 3 0), (.ref 53), (.bool true), (.int 276 0), (.ref 54), .none, (.ref 55), (.ref 56), (.ref 57), (.int 314 0), (.int 17 0), (vs "/claim/cut.py" 315)]), #[]⟩
noncomputable def o59 (P : Params) : Obj := fO (stA 5) (so "heapify") .none .none (vs "cpy313.heapq" 289) (.ref 58)
noncomputable def o60 (P : Params) : Obj := ⟨(.type "tuple"), none, (.seq #[] 0), #[]⟩
noncomputable def o61 (P : Params) : Obj := ⟨.none, none, (.fields #[]), #[]⟩
noncomputable def o62 (P : Params) : Obj := ⟨(.type "tuple"), none, (.seq #[(vs "heap" 320), (vs "startpos" 321), (vs "pos" 322), (vs "newitem" 323), (vs "parentpos" 324), (vs "parent" 325)] 0), #[]⟩
noncomputable def o63 (P : Params) : Obj := ⟨(.type "tuple"), none, (.seq #[] 0), #[]⟩
noncomputable def o64 (P : Params) : Obj := gO (stA 6) (so "_siftdown")
noncomputable def o65 (P : Params) : Obj := ⟨(.type "code"), none, (.fields #[(vs "_siftdown" 317), (vs "_siftdown" 318), (vs "/claim/cut.py" 319), (.int 21 0), (.int 3 0), (.int 0 0), (.int 0 0), (.int 3 0), (.ref 60), (.bool true), (.int 276 0), (.ref 61), .none, (.ref 62), (.ref 63), (.ref 64), (.int 326 0), (.int 21 0), (vs "/claim/cut.py" 327)]), #[]⟩
noncomputable def o66 (P : Params) : Obj := fO (stA 6) (so "_siftdown") .none .none (vs "cpy313.heapq" 289) (.ref 65)
noncomputable def o67 (P : Params) : Obj := ⟨(.type "tuple"), none, (.seq #[] 0), #[]⟩
noncomputable def o68 (P : Params) : Obj := ⟨.none, none, (.fields #[]), #[]⟩
noncomputable def o69 (P : Params) : Obj := ⟨(.type "tuple"), none, (.seq #[(vs "heap" 332), (vs "pos" 333), (vs "endpos" 334), (vs "startpos" 335), (vs "newitem" 336), (vs "childpos" 337), (vs "rightpos" 338)] 0), #[]⟩
noncomputable def o70 (P : Params) : Obj := ⟨(.type "tuple"), none, (.seq #[] 0), #[]⟩
noncomputable def o71 (P : Params) : Obj := gO (stA 7) (so "_siftup")
noncomputable def o72 (P : Params) : Obj := ⟨(.type "code"), none, (.fields #[(vs "_siftup" 329), (vs "_siftup" 330), (vs "/claim/cut.py" 331), (.int 32 0), (.int 2 0), (.int 0 0), (.int 0 0), (.int 3 0), (.ref 67), (.bool true), (.int 276 0), (.ref 68), .none, (.ref 69), (.ref 70), (.ref 71), (.int 339 0), (.int 32 0), (vs "/claim/cut.py" 340)]), #[]⟩
noncomputable def o73 (P : Params) : Obj := fO (stA 7) (so "_siftup") .none .none (vs "cpy313.heapq" 289) (.ref 72)
noncomputable def o3v2 (P : Params) : Obj := ⟨(.type "dict"), none, (.dict #[en P "__name__" 165 (vs "cpy313.netrc" 342), en P "__doc__" 166 .none, en P "__package__" 167 .none, en P "__loader__" 168 (.builtin "__main__.__loader__#opaque"), en P "__spec__" 169 .none, en P "__annotations__" 170 (.ref 6), en P "__builtins__" 171 (.ref 4), en P "__file__" 173 (vs "/claim/cut.py" 172), en P "__cached__" 174 .none, en P "_sre" 275 (.ref 12), en P "_wall" 288 (.ref 38), en P "heappush" 298 (.ref 45), en P "heappop" 307 (.ref 52), en P "heapify" 316 (.ref 59), en P "_siftdown" 328 (.ref 66), en P "_siftup" 341 (.ref 73), en P "_netrclex" 401 (.ref 111)] 17), #[]⟩
noncomputable def o29v2 (P : Params) : Obj := ⟨.none, none, (.fields #[(.int 2 0), (.int 0 0), (.ref 37), (.int 6 0), (.int 0 0), (.ref 44), (.int 9 0), (.int 0 0), (.ref 51), (.int 17 0), (.int 0 0), (.ref 58), (.int 21 0), (.int 0 0), (.ref 65), (.int 32 0), (.int 0 0), (.ref 72), (.int 47 0), (.int 0 0), (.ref 79)]), #[]⟩
noncomputable def o74 (P : Params) : Obj := ⟨(.type "tuple"), none, (.seq #[] 0), #[]⟩
noncomputable def o75 (P : Params) : Obj := ⟨(.type "builtin_function_or_method"), none, (.fields #[(.builtin "type.__prepare__"), (.type "type")]), #[]⟩
noncomputable def o76 (P : Params) : Obj := ⟨(.type "dict"), none, (.dict #[en P "__module__" 351 (vs "cpy313.netrc" 342), en P "__qualname__" 353 (vs "_netrclex" 352), en P "__firstlineno__" 355 (.int 47 354), en P "__init__" 363 (.ref 87), en P "_read_char" 371 (.ref 94), en P "get_token" 381 (.ref 101), en P "push_token" 389 (.ref 108), en P "__static_attributes__" 394 (.ref 109)] 8), #[]⟩
noncomputable def o77 (P : Params) : Obj := ⟨(.type "tuple"), none, (.seq #[] 0), #[]⟩
noncomputable def o78 (P : Params) : Obj := ⟨.none, none, (.fields #[(.int 49 0), (.int 4 0), (.ref 86), (.int 55 0), (.int 4 0), (.ref 93), (.int 61 0), (.int 4 0), (.ref 100), (.int 88 0), (.int 4 0), (.ref 107)]), #[]⟩
noncomputable def o79 (P : Params) : Obj := ⟨(.type "code"), none, (.fields #[(vs "_netrclex" 346), (vs "_netrclex" 347), (vs "/claim/cut.py" 348), (.int 47 0), (.int 0 0), (.int 0 0), (.int 0 0), (.int 0 0), (.ref 77), (.bool false), (.int 276 0), (.ref 78), .none, .none, .none, .none, (.int 349 0), (.int 47 0), (vs "/claim/cut.py" 350)]), #[]⟩
noncomputable def o80 (P : Params) : Obj := ⟨(.type "frame"), none, .plain, #[(some (.ref 79)), (some (.ref 3)), (some (.ref 76)), none, (some (vs "cpy313.netrc" 342)), none, (some (.ref 0))]⟩
noncomputable def o81 (P : Params) : Obj := ⟨(.type "tuple"), none, (.seq #[] 0), #[]⟩
noncomputable def o82 (P : Params) : Obj := ⟨.none, none, (.fields #[]), #[]⟩
noncomputable def o83 (P : Params) : Obj := ⟨(.type "tuple"), none, (.seq #[(vs "self" 359), (vs "fp" 360)] 0), #[]⟩
noncomputable def o84 (P : Params) : Obj := ⟨(.type "tuple"), none, (.seq #[] 0), #[]⟩
noncomputable def o85 (P : Params) : Obj := gO (stI 9 0) (so "_netrclex.__init__")
noncomputable def o86 (P : Params) : Obj := ⟨(.type "code"), none, (.fields #[(vs "__init__" 356), (vs "_netrclex.__init__" 357), (vs "/claim/cut.py" 358), (.int 49 0), (.int 2 0), (.int 0 0), (.int 0 0), (.int 3 0), (.ref 81), (.bool true), (.int 276 0), (.ref 82), .none, (.ref 83), (.ref 84), (.ref 85), (.int 361 0), (.int 49 0), (vs "/claim/cut.py" 362)]), #[]⟩
noncomputable def o87 (P : Params) : Obj := fO (stI 9 0) (so "_netrclex.__init__") .none .none (vs "cpy313.netrc" 342) (.ref 86)
noncomputable def o88 (P : Params) : Obj := ⟨(.type "tuple"), none, (.seq #[] 0), #[]⟩
noncomputable def o89 (P : Params) : Obj := ⟨.none, none, (.fields #[]), #[]⟩
noncomputable def o90 (P : Params) : Obj := ⟨(.type "tuple"), none, (.seq #[(vs "self" 367), (vs "ch" 368)] 0), #[]⟩
noncomputable def o91 (P : Params) : Obj := ⟨(.type "tuple"), none, (.seq #[] 0), #[]⟩
noncomputable def o92 (P : Params) : Obj := gO (stI 9 1) (so "_netrclex._read_char")
noncomputable def o93 (P : Params) : Obj := ⟨(.type "code"), none, (.fields #[(vs "_read_char" 364), (vs "_netrclex._read_char" 365), (vs "/claim/cut.py" 366), (.int 55 0), (.int 1 0), (.int 0 0), (.int 0 0), (.int 3 0), (.ref 88), (.bool true), (.int 276 0), (.ref 89), .none, (.ref 90), (.ref 91), (.ref 92), (.int 369 0), (.int 55 0), (vs "/claim/cut.py" 370)]), #[]⟩
noncomputable def o94 (P : Params) : Obj := fO (stI 9 1) (so "_netrclex._read_char") .none .none (vs "cpy313.netrc" 342) (.ref 93)
noncomputable def o95 (P : Params) : Obj := ⟨(.type "tuple"), none, (.seq #[] 0), #[]⟩
noncomputable def o96 (P : Params) : Obj := ⟨.none, none, (.fields #[]), #[]⟩
noncomputable def o97 (P : Params) : Obj := ⟨(.type "tuple"), none, (.seq #[(vs "self" 375), (vs "token" 376), (vs "fiter" 377), (vs "ch" 378)] 0), #[]⟩
noncomputable def o98 (P : Params) : Obj := ⟨(.type "tuple"), none, (.seq #[] 0), #[]⟩
noncomputable def o99 (P : Params) : Obj := gO (stI 9 2) (so "_netrclex.get_token")
noncomputable def o100 (P : Params) : Obj := ⟨(.type "code"), none, (.fields #[(vs "get_token" 372), (vs "_netrclex.get_token" 373), (vs "/claim/cut.py" 374), (.int 61 0), (.int 1 0), (.int 0 0), (.int 0 0), (.int 3 0), (.ref 95), (.bool true), (.int 276 0), (.ref 96), .none, (.ref 97), (.ref 98), (.ref 99), (.int 379 0), (.int 61 0), (vs "/claim/cut.py" 380)]), #[]⟩
noncomputable def o101 (P : Params) : Obj := fO (stI 9 2) (so "_netrclex.get_token") .none .none (vs "cpy313.netrc" 342) (.ref 100)
noncomputable def o102 (P : Params) : Obj := ⟨(.type "tuple"), none, (.seq #[] 0), #[]⟩
noncomputable def o103 (P : Params) : Obj := ⟨.none, none, (.fields #[]), #[]⟩
noncomputable def o104 (P : Params) : Obj := ⟨(.type "tuple"), none, (.seq #[(vs "self" 385), (vs "token" 386)] 0), #[]⟩
noncomputable def o105 (P : Params) : Obj := ⟨(.type "tuple"), none, (.seq #[] 0), #[]⟩
noncomputable def o106 (P : Params) : Obj := gO (stI 9 3) (so "_netrclex.push_token")
noncomputable def o107 (P : Params) : Obj := ⟨(.type "code"), none, (.fields #[(vs "push_token" 382), (vs "_netrclex.push_token" 383), (vs "/claim/cut.py" 384), (.int 88 0), (.int 2 0), (.int 0 0), (.int 0 0), (.int 3 0), (.ref 102), (.bool true), (.int 276 0), (.ref 103), .none, (.ref 104), (.ref 105), (.ref 106), (.int 387 0), (.int 88 0), (vs "/claim/cut.py" 388)]), #[]⟩
noncomputable def o108 (P : Params) : Obj := fO (stI 9 3) (so "_netrclex.push_token") .none .none (vs "cpy313.netrc" 342) (.ref 107)
noncomputable def o109 (P : Params) : Obj := ⟨(.type "tuple"), none, (.seq #[(vs "instream" 390), (vs "lineno" 391), (vs "pushback" 392), (vs "whitespace" 393)] 0), #[]⟩
noncomputable def o110 (P : Params) : Obj := ⟨(.type "dict"), none, (.dict #[en P "__module__" 351 (vs "cpy313.netrc" 342), en P "__firstlineno__" 355 (.int 47 354), en P "__init__" 363 (.ref 87), en P "_read_char" 371 (.ref 94), en P "get_token" 381 (.ref 101), en P "push_token" 389 (.ref 108), en P "__static_attributes__" 394 (.ref 109), en P "__dict__" 396 (.ref 112), en P "__weakref__" 398 (.ref 113), en P "__doc__" 399 .none] 4), #[]⟩
noncomputable def o111 (P : Params) : Obj := ⟨(.type "type"), none, (.cls { name := (so "_netrclex"), bases := [(.type "object")], mro := [(.ref 111), (.type "object")], ns := 110, qualname := (so "_netrclex"), hasDict := true, slotNames := [], subclasses := [], abstract := false, collection := none, hasDel := false }), #[none, none, (some (vs "_netrclex" 344)), (some (vs "_netrclex" 352)), (some (.builtin "object.__new__")), (some (.bool true))]⟩
noncomputable def o112 (P : Params) : Obj := ⟨(.type "getset_descriptor"), none, (.fields #[(vs "__dict__" 395), (.ref 111), (.builtin "function.__dict__"), (.builtin "function.__dict__#set")]), #[]⟩
noncomputable def o113 (P : Params) : Obj := ⟨(.type "getset_descriptor"), none, (.fields #[(vs "__weakref__" 397), (.ref 111), (.builtin "ExceptionGroup.__weakref__"), .none]), #[]⟩
noncomputable def o114 (P : Params) : Obj := ⟨(.type "super"), none, (.fields #[(.ref 111), (.ref 111), (.ref 111)]), #[]⟩
noncomputable def o115 (P : Params) : Obj := ⟨(.type "builtin_function_or_method"), none, (.fields #[(.builtin "object.__init_subclass__"), (.ref 111)]), #[]⟩
noncomputable def o3v3 (P : Params) : Obj := ⟨(.type "dict"), none, (.dict #[en P "__name__" 165 (vs "cpy313.wsgiref.headers" 402), en P "__doc__" 166 .none, en P "__package__" 167 .none, en P "__loader__" 168 (.builtin "__main__.__loader__#opaque"), en P "__spec__" 169 .none, en P "__annotations__" 170 (.ref 6), en P "__builtins__" 171 (.ref 4), en P "__file__" 173 (vs "/claim/cut.py" 172), en P "__cached__" 174 .none, en P "_sre" 275 (.ref 12), en P "_wall" 288 (.ref 38), en P "heappush" 298 (.ref 45), en P "heappop" 307 (.ref 52), en P "heapify" 316 (.ref 59), en P "_siftdown" 328 (.ref 66), en P "_siftup" 341 (.ref 73), en P "_netrclex" 401 (.ref 111), en P "tspecials" 437 (.ref 120)] 18), #[]⟩
noncomputable def o116 (P : Params) : Obj := ⟨(.type "list"), none, (.seq #[(.int 14 407), (.int 14 408), (.int 4 409), (.int 1 410), (.int 1 411), (.int 9 412), (.int 0 413), (.int 4227896069 414), (.int 939524097 415), (.int 0 416), (.int 0 417), (.int 0 418), (.int 0 419), (.int 0 420), (.int 0 421), (.int 13 422), (.int 11 423), (.int 9 424), (.int 0 425), (.int 4227896069 426), (.int 939524097 427), (.int 0 428), (.int 0 429), (.int 0 430), (.int 0 431), (.int 0 432), (.int 0 433), (.int 1 434)] 0), #[]⟩
noncomputable def o117 (P : Params) : Obj := ⟨(.type "dict"), none, (.dict #[] 0), #[]⟩
noncomputable def o118 (P : Params) : Obj := ⟨(.type "tuple"), none, (.seq #[.none] 0), #[]⟩
noncomputable def o119 (P : Params) : Obj := ⟨(.type "tuple"), none, (.seq #[(.int 14 0), (.int 14 0), (.int 4 0), (.int 1 0), (.int 1 0), (.int 9 0), (.int 0 0), (.int 4227896069 0), (.int 939524097 0), (.int 0 0), (.int 0 0), (.int 0 0), (.int 0 0), (.int 0 0), (.int 0 0), (.int 13 0), (.int 11 0), (.int 9 0), (.int 0 0), (.int 4227896069 0), (.int 939524097 0), (.int 0 0), (.int 0 0), (.int 0 0), (.int 0 0), (.int 0 0), (.int 0 0), (.int 1 0)] 0), #[]⟩
noncomputable def o120 (P : Params) : Obj := ⟨(.type "re.Pattern"), none, (.fields #[(vs "[ \\(\\)<>@,;:\\\\\"/\\[\\]\\?=]" 405), (.int 32 436), (.int 0 0), .none, .none, (.ref 119), (.int 0 0)]), #[]⟩
noncomputable def o3v4 (P : Params) : Obj := ⟨(.type "dict"), none, (.dict #[en P "__name__" 165 (vs "cpy313.wsgiref.headers" 402), en P "__doc__" 166 .none, en P "__package__" 167 .none, en P "__loader__" 168 (.builtin "__main__.__loader__#opaque"), en P "__spec__" 169 .none, en P "__annotations__" 170 (.ref 6), en P "__builtins__" 171 (.ref 4), en P "__file__" 173 (vs "/claim/cut.py" 172), en P "__cached__" 174 .none, en P "_sre" 275 (.ref 12), en P "_wall" 288 (.ref 38), en P "heappush" 298 (.ref 45), en P "heappop" 307 (.ref 52), en P "heapify" 316 (.ref 59), en P "_siftdown" 328 (.ref 66), en P "_siftup" 341 (.ref 73), en P "_netrclex" 401 (.ref 111), en P "tspecials" 437 (.ref 120), en P "_name_disallowed_re" 463 (.ref 125), en P "_value_disallowed_re" 497 (.ref 130), en P "_formatparam" 507 (.ref 138)] 21), #[]⟩
noncomputable def o29v3 (P : Params) : Obj := ⟨.none, none, (.fields #[(.int 2 0), (.int 0 0), (.ref 37), (.int 6 0), (.int 0 0), (.ref 44), (.int 9 0), (.int 0 0), (.ref 51), (.int 17 0), (.int 0 0), (.ref 58), (.int 21 0), (.int 0 0), (.ref 65), (.int 32 0), (.int 0 0), (.ref 72), (.int 47 0), (.int 0 0), (.ref 79), (.int 94 0), (.int 0 0), (.ref 137)]), #[]⟩
noncomputable def o121 (P : Params) : Obj := ⟨(.type "list"), none, (.seq #[(.int 14 441), (.int 10 442), (.int 4 443), (.int 1 444), (.int 1 445), (.int 22 446), (.int 0 447), (.int 31 448), (.int 16 449), (.int 127 450), (.int 0 451), (.int 13 452), (.int 7 453), (.int 22 454), (.int 0 455), (.int 31 456), (.int 16 457), (.int 127 458), (.int 0 459), (.int 1 460)] 0), #[]⟩
noncomputable def o122 (P : Params) : Obj := ⟨(.type "dict"), none, (.dict #[] 0), #[]⟩
noncomputable def o123 (P : Params) : Obj := ⟨(.type "tuple"), none, (.seq #[.none] 0), #[]⟩
noncomputable def o124 (P : Params) : Obj := ⟨(.type "tuple"), none, (.seq #[(.int 14 0), (.int 10 0), (.int 4 0), (.int 1 0), (.int 1 0), (.int 22 0), (.int 0 0), (.int 31 0), (.int 16 0), (.int 127 0), (.int 0 0), (.int 13 0), (.int 7 0), (.int 22 0), (.int 0 0), (.int 31 0), (.int 16 0), (.int 127 0), (.int 0 0), (.int 1 0)] 0), #[]⟩
noncomputable def o125 (P : Params) : Obj := ⟨(.type "re.Pattern"), none, (.fields #[(vs "[\\x00-\\x1F\\x7F]" 439), (.int 32 462), (.int 0 0), .none, .none, (.ref 124), (.int 0 0)]), #[]⟩
noncomputable def o126 (P : Params) : Obj := ⟨(.type "list"), none, (.seq #[(.int 14 467), (.int 14 468), (.int 4 469), (.int 1 470), (.int 1 471), (.int 9 472), (.int 4294966783 473), (.int 0 474), (.int 0 475), (.int 2147483648 476), (.int 0 477), (.int 0 478), (.int 0 479), (.int 0 480), (.int 0 481), (.int 13 482), (.int 11 483), (.int 9 484), (.int 4294966783 485), (.int 0 486), (.int 0 487), (.int 2147483648 488), (.int 0 489), (.int 0 490), (.int 0 491), (.int 0 492), (.int 0 493), (.int 1 494)] 0), #[]⟩
noncomputable def o127 (P : Params) : Obj := ⟨(.type "dict"), none, (.dict #[] 0), #[]⟩
noncomputable def o128 (P : Params) : Obj := ⟨(.type "tuple"), none, (.seq #[.none] 0), #[]⟩
noncomputable def o129 (P : Params) : Obj := ⟨(.type "tuple"), none, (.seq #[(.int 14 0), (.int 14 0), (.int 4 0), (.int 1 0), (.int 1 0), (.int 9 0), (.int 4294966783 0), (.int 0 0), (.int 0 0), (.int 2147483648 0), (.int 0 0), (.int 0 0), (.int 0 0), (.int 0 0), (.int 0 0), (.int 13 0), (.int 11 0), (.int 9 0), (.int 4294966783 0), (.int 0 0), (.int 0 0), (.int 2147483648 0), (.int 0 0), (.int 0 0), (.int 0 0), (.int 0 0), (.int 0 0), (.int 1 0)] 0), #[]⟩
noncomputable def o130 (P : Params) : Obj := ⟨(.type "re.Pattern"), none, (.fields #[(vs "[\\x00-\\x08\\x0A-\\x1F\\x7F]" 465), (.int 32 496), (.int 0 0), .none, .none, (.ref 129), (.int 0 0)]), #[]⟩
noncomputable def o131 (P : Params) : Obj := ⟨(.type "tuple"), none, (.seq #[.none, (.int 1 498)] 0), #[]⟩
noncomputable def o132 (P : Params) : Obj := ⟨(.type "tuple"), none, (.seq #[] 0), #[]⟩
noncomputable def o133 (P : Params) : Obj := ⟨.none, none, (.fields #[]), #[]⟩
noncomputable def o134 (P : Params) : Obj := ⟨(.type "tuple"), none, (.seq #[(vs "param" 502), (vs "value" 503), (vs "quote" 504)] 0), #[]⟩
noncomputable def o135 (P : Params) : Obj := ⟨(.type "tuple"), none, (.seq #[] 0), #[]⟩
noncomputable def o136 (P : Params) : Obj := gO (stA 14) (so "_formatparam")
noncomputable def o137 (P : Params) : Obj := ⟨(.type "code"), none, (.fields #[(vs "_formatparam" 499), (vs "_formatparam" 500), (vs "/claim/cut.py" 501), (.int 94 0), (.int 3 0), (.int 0 0), (.int 0 0), (.int 3 0), (.ref 132), (.bool true), (.int 276 0), (.ref 133), .none, (.ref 134), (.ref 135), (.ref 136), (.int 505 0), (.int 94 0), (vs "/claim/cut.py" 506)]), #[]⟩
noncomputable def o138 (P : Params) : Obj := fO (stA 14) (so "_formatparam") (.ref 131) .none (vs "cpy313.wsgiref.headers" 402) (.ref 137)
noncomputable def o3v5 (P : Params) : Obj := ⟨(.type "dict"), none, (.dict #[en P "__name__" 165 (vs "cpy313.wsgiref.headers" 402), en P "__doc__" 166 .none, en P "__package__" 167 .none, en P "__loader__" 168 (.builtin "__main__.__loader__#opaque"), en P "__spec__" 169 .none, en P "__annotations__" 170 (.ref 6), en P "__builtins__" 171 (.ref 4), en P "__file__" 173 (vs "/claim/cut.py" 172), en P "__cached__" 174 .none, en P "_sre" 275 (.ref 12), en P "_wall" 288 (.ref 38), en P "heappush" 298 (.ref 45), en P "heappop" 307 (.ref 52), en P "heapify" 316 (.ref 59), en P "_siftdown" 328 (.ref 66), en P "_siftup" 341 (.ref 73), en P "_netrclex" 401 (.ref 111), en P "tspecials" 437 (.ref 120), en P "_name_disallowed_re" 463 (.ref 125), en P "_value_disallowed_re" 497 (.ref 130), en P "_formatparam" 507 (.ref 138), en P "Headers" 664 (.ref 259)] 22), #[]⟩
noncomputable def o29v4 (P : Params) : Obj := ⟨.none, none, (.fields #[(.int 2 0), (.int 0 0), (.ref 37), (.int 6 0), (.int 0 0), (.ref 44), (.int 9 0), (.int 0 0), (.ref 51), (.int 17 0), (.int 0 0), (.ref 58), (.int 21 0), (.int 0 0), (.ref 65), (.int 32 0), (.int 0 0), (.ref 72), (.int 47 0), (.int 0 0), (.ref 79), (.int 94 0), (.int 0 0), (.ref 137), (.int 103 0), (.int 0 0), (.ref 144)]), #[]⟩
noncomputable def o139 (P : Params) : Obj := ⟨(.type "tuple"), none, (.seq #[] 0), #[]⟩
noncomputable def o140 (P : Params) : Obj := ⟨(.type "builtin_function_or_method"), none, (.fields #[(.builtin "type.__prepare__"), (.type "type")]), #[]⟩
noncomputable def o141 (P : Params) : Obj := ⟨(.type "dict"), none, (.dict #[en P "__module__" 515 (vs "cpy313.wsgiref.headers" 402), en P "__qualname__" 517 (vs "Headers" 516), en P "__firstlineno__" 519 (.int 103 518), en P "__init__" 529 (.ref 153), en P "_convert_string_type" 539 (.ref 160), en P "__len__" 546 (.ref 167), en P "__setitem__" 555 (.ref 174), en P "__delitem__" 561 (.ref 179), en P "__getitem__" 569 (.ref 186), en P "__contains__" 577 (.ref 193), en P "get_all" 583 (.ref 198), en P "get" 594 (.ref 206), en P "keys" 600 (.ref 211), en P "values" 606 (.ref 216), en P "items" 613 (.ref 223), en P "__repr__" 620 (.ref 230), en P "__str__" 626 (.ref 235), en P "__bytes__" 633 (.ref 242), en P "setdefault" 642 (.ref 249), en P "add_header" 655 (.ref 256), en P "__static_attributes__" 657 (.ref 257)] 21), #[]⟩
noncomputable def o142 (P : Params) : Obj := ⟨(.type "tuple"), none, (.seq #[] 0), #[]⟩
noncomputable def o143 (P : Params) : Obj := ⟨.none, none, (.fields #[(.int 105 0), (.int 4 0), (.ref 152), (.int 115 0), (.int 4 0), (.ref 159), (.int 123 0), (.int 4 0), (.ref 166), (.int 126 0), (.int 4 0), (.ref 173), (.int 130 0), (.int 4 0), (.ref 178), (.int 134 0), (.int 4 0), (.ref 185), (.int 137 0), (.int 4 0), (.ref 192), (.int 140 0), (.int 4 0), (.ref 197), (.int 144 0), (.int 4 0), (.ref 205), (.int 151 0), (.int 4 0), (.ref 210), (.int 154 0), (.int 4 0), (.ref 215), (.int 157 0), (.int 4 0), (.ref 222), (.int 160 0), (.int 4 0), (.ref 229), (.int 163 0), (.int 4 0), (.ref 234), (.int 166 0), (.int 4 0), (.ref 241), (.int 169 0), (.int 4 0), (.ref 248), (.int 172 0), (.int 4 0), (.ref 255)]), #[]⟩
noncomputable def o144 (P : Params) : Obj := ⟨(.type "code"), none, (.fields #[(vs "Headers" 510), (vs "Headers" 511), (vs "/claim/cut.py" 512), (.int 103 0), (.int 0 0), (.int 0 0), (.int 0 0), (.int 0 0), (.ref 142), (.bool false), (.int 276 0), (.ref 143), .none, .none, .none, .none, (.int 513 0), (.int 103 0), (vs "/claim/cut.py" 514)]), #[]⟩
noncomputable def o145 (P : Params) : Obj := ⟨(.type "frame"), none, .plain, #[(some (.ref 144)), (some (.ref 3)), (some (.ref 141)), none, (some (vs "cpy313.wsgiref.headers" 402)), none, (some (.ref 0))]⟩
noncomputable def o146 (P : Params) : Obj := ⟨(.type "tuple"), none, (.seq #[.none] 0), #[]⟩
noncomputable def o147 (P : Params) : Obj := ⟨(.type "tuple"), none, (.seq #[] 0), #[]⟩
noncomputable def o148 (P : Params) : Obj := ⟨.none, none, (.fields #[]), #[]⟩
noncomputable def o149 (P : Params) : Obj := ⟨(.type "tuple"), none, (.seq #[(vs "self" 523), (vs "headers" 524), (vs "k" 525), (vs "v" 526)] 0), #[]⟩
noncomputable def o150 (P : Params) : Obj := ⟨(.type "tuple"), none, (.seq #[] 0), #[]⟩
noncomputable def o151 (P : Params) : Obj := gO (stI 15 0) (so "Headers.__init__")
noncomputable def o152 (P : Params) : Obj := ⟨(.type "code"), none, (.fields #[(vs "__init__" 520), (vs "Headers.__init__" 521), (vs "/claim/cut.py" 522), (.int 105 0), (.int 2 0), (.int 0 0), (.int 0 0), (.int 3 0), (.ref 147), (.bool true), (.int 276 0), (.ref 148), .none, (.ref 149), (.ref 150), (.ref 151), (.int 527 0), (.int 105 0), (vs "/claim/cut.py" 528)]), #[]⟩
noncomputable def o153 (P : Params) : Obj := fO (stI 15 0) (so "Headers.__init__") (.ref 146) .none (vs "cpy313.wsgiref.headers" 402) (.ref 152)
noncomputable def o154 (P : Params) : Obj := ⟨(.type "tuple"), none, (.seq #[] 0), #[]⟩
noncomputable def o155 (P : Params) : Obj := ⟨.none, none, (.fields #[]), #[]⟩
noncomputable def o156 (P : Params) : Obj := ⟨(.type "tuple"), none, (.seq #[(vs "self" 533), (vs "value" 534), (vs "name" 535), (vs "regex" 536)] 0), #[]⟩
noncomputable def o157 (P : Params) : Obj := ⟨(.type "tuple"), none, (.seq #[] 0), #[]⟩
noncomputable def o158 (P : Params) : Obj := gO (stI 15 1) (so "Headers._convert_string_type")
noncomputable def o159 (P : Params) : Obj := ⟨(.type "code"), none, (.fields #[(vs "_convert_string_type" 530), (vs "Headers._convert_string_type" 531), (vs "/claim/cut.py" 532), (.int 115 0), (.int 2 0), (.int 0 0), (.int 1 0), (.int 3 0), (.ref 154), (.bool true), (.int 276 0), (.ref 155), .none, (.ref 156), (.ref 157), (.ref 158), (.int 537 0), (.int 115 0), (vs "/claim/cut.py" 538)]), #[]⟩
noncomputable def o160 (P : Params) : Obj := fO (stI 15 1) (so "Headers._convert_string_type") .none .none (vs "cpy313.wsgiref.headers" 402) (.ref 159)
noncomputable def o161 (P : Params) : Obj := ⟨(.type "tuple"), none, (.seq #[] 0), #[]⟩
noncomputable def o162 (P : Params) : Obj := ⟨.none, none, (.fields #[]), #[]⟩
noncomputable def o163 (P : Params) : Obj := ⟨(.type "tuple"), none, (.seq #[(vs "self" 543)] 0), #[]⟩
noncomputable def o164 (P : Params) : Obj := ⟨(.type "tuple"), none, (.seq #[] 0), #[]⟩
noncomputable def o165 (P : Params) : Obj := gO (stI 15 2) (so "Headers.__len__")
noncomputable def o166 (P : Params) : Obj := ⟨(.type "code"), none, (.fields #[(vs "__len__" 540), (vs "Headers.__len__" 541), (vs "/claim/cut.py" 542), (.int 123 0), (.int 1 0), (.int 0 0), (.int 0 0), (.int 3 0), (.ref 161), (.bool true), (.int 276 0), (.ref 162), .none, (.ref 163), (.ref 164), (.ref 165), (.int 544 0), (.int 123 0), (vs "/claim/cut.py" 545)]), #[]⟩
noncomputable def o167 (P : Params) : Obj := fO (stI 15 2) (so "Headers.__len__") .none .none (vs "cpy313.wsgiref.headers" 402) (.ref 166)
noncomputable def o168 (P : Params) : Obj := ⟨(.type "tuple"), none, (.seq #[] 0), #[]⟩
noncomputable def o169 (P : Params) : Obj := ⟨.none, none, (.fields #[]), #[]⟩
noncomputable def o170 (P : Params) : Obj := ⟨(.type "tuple"), none, (.seq #[(vs "self" 550), (vs "name" 551), (vs "val" 552)] 0), #[]⟩
noncomputable def o171 (P : Params) : Obj := ⟨(.type "tuple"), none, (.seq #[] 0), #[]⟩
noncomputable def o172 (P : Params) : Obj := gO (stI 15 3) (so "Headers.__setitem__")
noncomputable def o173 (P : Params) : Obj := ⟨(.type "code"), none, (.fields #[(vs "__setitem__" 547), (vs "Headers.__setitem__" 548), (vs "/claim/cut.py" 549), (.int 126 0), (.int 3 0), (.int 0 0), (.int 0 0), (.int 3 0), (.ref 168), (.bool true), (.int 276 0), (.ref 169), .none, (.ref 170), (.ref 171), (.ref 172), (.int 553 0), (.int 126 0), (vs "/claim/cut.py" 554)]), #[]⟩
noncomputable def o174 (P : Params) : Obj := fO (stI 15 3) (so "Headers.__setitem__") .none .none (vs "cpy313.wsgiref.headers" 402) (.ref 173)
noncomputable def o175 (P : Params) : Obj := ⟨(.type "tuple"), none, (.seq #[] 0), #[]⟩
noncomputable def o176 (P : Params) : Obj := ⟨.none, none, (.fields #[]), #[]⟩
noncomputable def o177 (P : Params) : Obj := gO (stI 15 4) (so "Headers.__delitem__")
noncomputable def o178 (P : Params) : Obj := ⟨(.type "code"), none, (.fields #[(vs "__delitem__" 556), (vs "Headers.__delitem__" 557), (vs "/claim/cut.py" 558), (.int 130 0), (.int 2 0), (.int 0 0), (.int 0 0), (.int 3 0), (.ref 175), (.bool true), (.int 276 0), (.ref 176), .none, .none, .none, (.ref 177), (.int 559 0), (.int 130 0), (vs "/claim/cut.py" 560)]), #[]⟩
noncomputable def o179 (P : Params) : Obj := fO (stI 15 4) (so "Headers.__delitem__") .none .none (vs "cpy313.wsgiref.headers" 402) (.ref 178)
noncomputable def o180 (P : Params) : Obj := ⟨(.type "tuple"), none, (.seq #[] 0), #[]⟩
noncomputable def o181 (P : Params) : Obj := ⟨.none, none, (.fields #[]), #[]⟩
noncomputable def o182 (P : Params) : Obj := ⟨(.type "tuple"), none, (.seq #[(vs "self" 565), (vs "name" 566)] 0), #[]⟩
noncomputable def o183 (P : Params) : Obj := ⟨(.type "tuple"), none, (.seq #[] 0), #[]⟩
noncomputable def o184 (P : Params) : Obj := gO (stI 15 5) (so "Headers.__getitem__")
noncomputable def o185 (P : Params) : Obj := ⟨(.type "code"), none, (.fields #[(vs "__getitem__" 562), (vs "Headers.__getitem__" 563), (vs "/claim/cut.py" 564), (.int 134 0), (.int 2 0), (.int 0 0), (.int 0 0), (.int 3 0), (.ref 180), (.bool true), (.int 276 0), (.ref 181), .none, (.ref 182), (.ref 183), (.ref 184), (.int 567 0), (.int 134 0), (vs "/claim/cut.py" 568)]), #[]⟩
noncomputable def o186 (P : Params) : Obj := fO (stI 15 5) (so "Headers.__getitem__") .none .none (vs "cpy313.wsgiref.headers" 402) (.ref 185)
noncomputable def o187 (P : Params) : Obj := ⟨(.type "tuple"), none, (.seq #[] 0), #[]⟩
noncomputable def o188 (P : Params) : Obj := ⟨.none, none, (.fields #[]), #[]⟩
noncomputable def o189 (P : Params) : Obj := ⟨(.type "tuple"), none, (.seq #[(vs "self" 573), (vs "name" 574)] 0), #[]⟩
noncomputable def o190 (P : Params) : Obj := ⟨(.type "tuple"), none, (.seq #[] 0), #[]⟩
noncomputable def o191 (P : Params) : Obj := gO (stI 15 6) (so "Headers.__contains__")
noncomputable def o192 (P : Params) : Obj := ⟨(.type "code"), none, (.fields #[(vs "__contains__" 570), (vs "Headers.__contains__" 571), (vs "/claim/cut.py" 572), (.int 137 0), (.int 2 0), (.int 0 0), (.int 0 0), (.int 3 0), (.ref 187), (.bool true), (.int 276 0), (.ref 188), .none, (.ref 189), (.ref 190), (.ref 191), (.int 575 0), (.int 137 0), (vs "/claim/cut.py" 576)]), #[]⟩
noncomputable def o193 (P : Params) : Obj := fO (stI 15 6) (so "Headers.__contains__") .none .none (vs "cpy313.wsgiref.headers" 402) (.ref 192)
noncomputable def o194 (P : Params) : Obj := ⟨(.type "tuple"), none, (.seq #[] 0), #[]⟩
noncomputable def o195 (P : Params) : Obj := ⟨.none, none, (.fields #[]), #[]⟩
noncomputable def o196 (P : Params) : Obj := gO (stI 15 7) (so "Headers.get_all")
noncomputable def o197 (P : Params) : Obj := ⟨(.type "code"), none, (.fields #[(vs "get_all" 578), (vs "Headers.get_all" 579), (vs "/claim/cut.py" 580), (.int 140 0), (.int 2 0), (.int 0 0), (.int 0 0), (.int 3 0), (.ref 194), (.bool true), (.int 276 0), (.ref 195), .none, .none, .none, (.ref 196), (.int 581 0), (.int 140 0), (vs "/claim/cut.py" 582)]), #[]⟩
noncomputable def o198 (P : Params) : Obj := fO (stI 15 7) (so "Headers.get_all") .none .none (vs "cpy313.wsgiref.headers" 402) (.ref 197)
noncomputable def o199 (P : Params) : Obj := ⟨(.type "tuple"), none, (.seq #[.none] 0), #[]⟩
noncomputable def o200 (P : Params) : Obj := ⟨(.type "tuple"), none, (.seq #[] 0), #[]⟩
noncomputable def o201 (P : Params) : Obj := ⟨.none, none, (.fields #[]), #[]⟩
noncomputable def o202 (P : Params) : Obj := ⟨(.type "tuple"), none, (.seq #[(vs "self" 587), (vs "name" 588), (vs "default" 589), (vs "k" 590), (vs "v" 591)] 0), #[]⟩
noncomputable def o203 (P : Params) : Obj := ⟨(.type "tuple"), none, (.seq #[] 0), #[]⟩
noncomputable def o204 (P : Params) : Obj := gO (stI 15 8) (so "Headers.get")
noncomputable def o205 (P : Params) : Obj := ⟨(.type "code"), none, (.fields #[(vs "get" 584), (vs "Headers.get" 585), (vs "/claim/cut.py" 586), (.int 144 0), (.int 3 0), (.int 0 0), (.int 0 0), (.int 3 0), (.ref 200), (.bool true), (.int 276 0), (.ref 201), .none, (.ref 202), (.ref 203), (.ref 204), (.int 592 0), (.int 144 0), (vs "/claim/cut.py" 593)]), #[]⟩
noncomputable def o206 (P : Params) : Obj := fO (stI 15 8) (so "Headers.get") (.ref 199) .none (vs "cpy313.wsgiref.headers" 402) (.ref 205)
noncomputable def o207 (P : Params) : Obj := ⟨(.type "tuple"), none, (.seq #[] 0), #[]⟩
noncomputable def o208 (P : Params) : Obj := ⟨.none, none, (.fields #[]), #[]⟩
noncomputable def o209 (P : Params) : Obj := gO (stI 15 9) (so "Headers.keys")
noncomputable def o210 (P : Params) : Obj := ⟨(.type "code"), none, (.fields #[(vs "keys" 595), (vs "Headers.keys" 596), (vs "/claim/cut.py" 597), (.int 151 0), (.int 1 0), (.int 0 0), (.int 0 0), (.int 3 0), (.ref 207), (.bool true), (.int 276 0), (.ref 208), .none, .none, .none, (.ref 209), (.int 598 0), (.int 151 0), (vs "/claim/cut.py" 599)]), #[]⟩
noncomputable def o211 (P : Params) : Obj := fO (stI 15 9) (so "Headers.keys") .none .none (vs "cpy313.wsgiref.headers" 402) (.ref 210)
noncomputable def o212 (P : Params) : Obj := ⟨(.type "tuple"), none, (.seq #[] 0), #[]⟩
noncomputable def o213 (P : Params) : Obj := ⟨.none, none, (.fields #[]), #[]⟩
noncomputable def o214 (P : Params) : Obj := gO (stI 15 10) (so "Headers.values")
noncomputable def o215 (P : Params) : Obj := ⟨(.type "code"), none, (.fields #[(vs "values" 601), (vs "Headers.values" 602), (vs "/claim/cut.py" 603), (.int 154 0), (.int 1 0), (.int 0 0), (.int 0 0), (.int 3 0), (.ref 212), (.bool true), (.int 276 0), (.ref 213), .none, .none, .none, (.ref 214), (.int 604 0), (.int 154 0), (vs "/claim/cut.py" 605)]), #[]⟩
noncomputable def o216 (P : Params) : Obj := fO (stI 15 10) (so "Headers.values") .none .none (vs "cpy313.wsgiref.headers" 402) (.ref 215)
noncomputable def o217 (P : Params) : Obj := ⟨(.type "tuple"), none, (.seq #[] 0), #[]⟩
noncomputable def o218 (P : Params) : Obj := ⟨.none, none, (.fields #[]), #[]⟩
noncomputable def o219 (P : Params) : Obj := ⟨(.type "tuple"), none, (.seq #[(vs "self" 610)] 0), #[]⟩
noncomputable def o220 (P : Params) : Obj := ⟨(.type "tuple"), none, (.seq #[] 0), #[]⟩
noncomputable def o221 (P : Params) : Obj := gO (stI 15 11) (so "Headers.items")
noncomputable def o222 (P : Params) : Obj := ⟨(.type "code"), none, (.fields #[(vs "items" 607), (vs "Headers.items" 608), (vs "/claim/cut.py" 609), (.int 157 0), (.int 1 0), (.int 0 0), (.int 0 0), (.int 3 0), (.ref 217), (.bool true), (.int 276 0), (.ref 218), .none, (.ref 219), (.ref 220), (.ref 221), (.int 611 0), (.int 157 0), (vs "/claim/cut.py" 612)]), #[]⟩
noncomputable def o223 (P : Params) : Obj := fO (stI 15 11) (so "Headers.items") .none .none (vs "cpy313.wsgiref.headers" 402) (.ref 222)
noncomputable def o224 (P : Params) : Obj := ⟨(.type "tuple"), none, (.seq #[] 0), #[]⟩
noncomputable def o225 (P : Params) : Obj := ⟨.none, none, (.fields #[]), #[]⟩
noncomputable def o226 (P : Params) : Obj := ⟨(.type "tuple"), none, (.seq #[(vs "self" 617)] 0), #[]⟩
noncomputable def o227 (P : Params) : Obj := ⟨(.type "tuple"), none, (.seq #[] 0), #[]⟩
noncomputable def o228 (P : Params) : Obj := gO (stI 15 12) (so "Headers.__repr__")
noncomputable def o229 (P : Params) : Obj := ⟨(.type "code"), none, (.fields #[(vs "__repr__" 614), (vs "Headers.__repr__" 615), (vs "/claim/cut.py" 616), (.int 160 0), (.int 1 0), (.int 0 0), (.int 0 0), (.int 3 0), (.ref 224), (.bool true), (.int 276 0), (.ref 225), .none, (.ref 226), (.ref 227), (.ref 228), (.int 618 0), (.int 160 0), (vs "/claim/cut.py" 619)]), #[]⟩
noncomputable def o230 (P : Params) : Obj := fO (stI 15 12) (so "Headers.__repr__") .none .none (vs "cpy313.wsgiref.headers" 402) (.ref 229)
noncomputable def o231 (P : Params) : Obj := ⟨(.type "tuple"), none, (.seq #[] 0), #[]⟩
noncomputable def o232 (P : Params) : Obj := ⟨.none, none, (.fields #[]), #[]⟩
noncomputable def o233 (P : Params) : Obj := gO (stI 15 13) (so "Headers.__str__")
noncomputable def o234 (P : Params) : Obj := ⟨(.type "code"), none, (.fields #[(vs "__str__" 621), (vs "Headers.__str__" 622), (vs "/claim/cut.py" 623), (.int 163 0), (.int 1 0), (.int 0 0), (.int 0 0), (.int 3 0), (.ref 231), (.bool true), (.int 276 0), (.ref 232), .none, .none, .none, (.ref 233), (.int 624 0), (.int 163 0), (vs "/claim/cut.py" 625)]), #[]⟩
noncomputable def o235 (P : Params) : Obj := fO (stI 15 13) (so "Headers.__str__") .none .none (vs "cpy313.wsgiref.headers" 402) (.ref 234)
noncomputable def o236 (P : Params) : Obj := ⟨(.type "tuple"), none, (.seq #[] 0), #[]⟩
noncomputable def o237 (P : Params) : Obj := ⟨.none, none, (.fields #[]), #[]⟩
noncomputable def o238 (P : Params) : Obj := ⟨(.type "tuple"), none, (.seq #[(vs "self" 630)] 0), #[]⟩
noncomputable def o239 (P : Params) : Obj := ⟨(.type "tuple"), none, (.seq #[] 0), #[]⟩
noncomputable def o240 (P : Params) : Obj := gO (stI 15 14) (so "Headers.__bytes__")
noncomputable def o241 (P : Params) : Obj := ⟨(.type "code"), none, (.fields #[(vs "__bytes__" 627), (vs "Headers.__bytes__" 628), (vs "/claim/cut.py" 629), (.int 166 0), (.int 1 0), (.int 0 0), (.int 0 0), (.int 3 0), (.ref 236), (.bool true), (.int 276 0), (.ref 237), .none, (.ref 238), (.ref 239), (.ref 240), (.int 631 0), (.int 166 0), (vs "/claim/cut.py" 632)]), #[]⟩
noncomputable def o242 (P : Params) : Obj := fO (stI 15 14) (so "Headers.__bytes__") .none .none (vs "cpy313.wsgiref.headers" 402) (.ref 241)
noncomputable def o243 (P : Params) : Obj := ⟨(.type "tuple"), none, (.seq #[] 0), #[]⟩
noncomputable def o244 (P : Params) : Obj := ⟨.none, none, (.fields #[]), #[]⟩
noncomputable def o245 (P : Params) : Obj := ⟨(.type "tuple"), none, (.seq #[(vs "self" 637), (vs "name" 638), (vs "value" 639)] 0), #[]⟩
noncomputable def o246 (P : Params) : Obj := ⟨(.type "tuple"), none, (.seq #[] 0), #[]⟩
noncomputable def o247 (P : Params) : Obj := gO (stI 15 15) (so "Headers.setdefault")
noncomputable def o248 (P : Params) : Obj := ⟨(.type "code"), none, (.fields #[(vs "setdefault" 634), (vs "Headers.setdefault" 635), (vs "/claim/cut.py" 636), (.int 169 0), (.int 3 0), (.int 0 0), (.int 0 0), (.int 3 0), (.ref 243), (.bool true), (.int 276 0), (.ref 244), .none, (.ref 245), (.ref 246), (.ref 247), (.int 640 0), (.int 169 0), (vs "/claim/cut.py" 641)]), #[]⟩
noncomputable def o249 (P : Params) : Obj := fO (stI 15 15) (so "Headers.setdefault") .none .none (vs "cpy313.wsgiref.headers" 402) (.ref 248)
noncomputable def o250 (P : Params) : Obj := ⟨(.type "tuple"), none, (.seq #[] 0), #[]⟩
noncomputable def o251 (P : Params) : Obj := ⟨.none, none, (.fields #[]), #[]⟩
noncomputable def o252 (P : Params) : Obj := ⟨(.type "tuple"), none, (.seq #[(vs "self" 646), (vs "_name" 647), (vs "_value" 648), (vs "_params" 649), (vs "parts" 650), (vs "k" 651), (vs "v" 652)] 0), #[]⟩
noncomputable def o253 (P : Params) : Obj := ⟨(.type "tuple"), none, (.seq #[] 0), #[]⟩
noncomputable def o254 (P : Params) : Obj := gO (stI 15 16) (so "Headers.add_header")
noncomputable def o255 (P : Params) : Obj := ⟨(.type "code"), none, (.fields #[(vs "add_header" 643), (vs "Headers.add_header" 644), (vs "/claim/cut.py" 645), (.int 172 0), (.int 3 0), (.int 0 0), (.int 0 0), (.int 11 0), (.ref 250), (.bool true), (.int 276 0), (.ref 251), .none, (.ref 252), (.ref 253), (.ref 254), (.int 653 0), (.int 172 0), (vs "/claim/cut.py" 654)]), #[]⟩
noncomputable def o256 (P : Params) : Obj := fO (stI 15 16) (so "Headers.add_header") .none .none (vs "cpy313.wsgiref.headers" 402) (.ref 255)
noncomputable def o257 (P : Params) : Obj := ⟨(.type "tuple"), none, (.seq #[(vs "_headers" 656)] 0), #[]⟩
noncomputable def o258 (P : Params) : Obj := ⟨(.type "dict"), none, (.dict #[en P "__module__" 515 (vs "cpy313.wsgiref.headers" 402), en P "__firstlineno__" 519 (.int 103 518), en P "__init__" 529 (.ref 153), en P "_convert_string_type" 539 (.ref 160), en P "__len__" 546 (.ref 167), en P "__setitem__" 555 (.ref 174), en P "__delitem__" 561 (.ref 179), en P "__getitem__" 569 (.ref 186), en P "__contains__" 577 (.ref 193), en P "get_all" 583 (.ref 198), en P "get" 594 (.ref 206), en P "keys" 600 (.ref 211), en P "values" 606 (.ref 216), en P "items" 613 (.ref 223), en P "__repr__" 620 (.ref 230), en P "__str__" 626 (.ref 235), en P "__bytes__" 633 (.ref 242), en P "setdefault" 642 (.ref 249), en P "add_header" 655 (.ref 256), en P "__static_attributes__" 657 (.ref 257), en P "__dict__" 659 (.ref 260), en P "__weakref__" 661 (.ref 261), en P "__doc__" 662 .none] 4), #[]⟩
noncomputable def o259 (P : Params) : Obj := ⟨(.type "type"), none, (.cls { name := (so "Headers"), bases := [(.type "object")], mro := [(.ref 259), (.type "object")], ns := 258, qualname := (so "Headers"), hasDict := true, slotNames := [], subclasses := [], abstract := false, collection := none, hasDel := false }), #[none, none, (some (vs "Headers" 508)), (some (vs "Headers" 516)), (some (.builtin "object.__new__")), (some (.bool true))]⟩
noncomputable def o260 (P : Params) : Obj := ⟨(.type "getset_descriptor"), none, (.fields #[(vs "__dict__" 658), (.ref 259), (.builtin "function.__dict__"), (.builtin "function.__dict__#set")]), #[]⟩
noncomputable def o261 (P : Params) : Obj := ⟨(.type "getset_descriptor"), none, (.fields #[(vs "__weakref__" 660), (.ref 259), (.builtin "ExceptionGroup.__weakref__"), .none]), #[]⟩
noncomputable def o262 (P : Params) : Obj := ⟨(.type "super"), none, (.fields #[(.ref 259), (.ref 259), (.ref 259)]), #[]⟩
noncomputable def o263 (P : Params) : Obj := ⟨(.type "builtin_function_or_method"), none, (.fields #[(.builtin "object.__init_subclass__"), (.ref 259)]), #[]⟩
noncomputable def o3v6 (P : Params) : Obj := ⟨(.type "dict"), none, (.dict #[en P "__name__" 165 (vs "law_pg0281_01" 665), en P "__doc__" 166 .none, en P "__package__" 167 .none, en P "__loader__" 168 (.builtin "__main__.__loader__#opaque"), en P "__spec__" 169 .none, en P "__annotations__" 170 (.ref 6), en P "__builtins__" 171 (.ref 4), en P "__file__" 173 (vs "/claim/cut.py" 172), en P "__cached__" 174 .none, en P "_sre" 275 (.ref 12), en P "_wall" 288 (.ref 38), en P "heappush" 298 (.ref 45), en P "heappop" 307 (.ref 52), en P "heapify" 316 (.ref 59), en P "_siftdown" 328 (.ref 66), en P "_siftup" 341 (.ref 73), en P "_netrclex" 401 (.ref 111), en P "tspecials" 437 (.ref 120), en P "_name_disallowed_re" 463 (.ref 125), en P "_value_disallowed_re" 497 (.ref 130), en P "_formatparam" 507 (.ref 138), en P "Headers" 664 (.ref 259), en P "_law_lexer" 679 (.ref 270), en P "_law_ties" 685 (.ref 275), en P "_law_table" 695 (.ref 282), en P "_law_own" 708 (.ref 289), en P "_law_by_line" 714 (.ref 294), en P "_law_by_heap" 720 (.ref 299), en P "_law_by_marks" 726 (.ref 304), en P "_law_no_gap" 732 (.ref 309), en P "_law_ring" 747 (.ref 316), en P "law" 753 (.ref 321)] 32), #[]⟩
noncomputable def o29v5 (P : Params) : Obj := ⟨.none, none, (.fields #[(.int 2 0), (.int 0 0), (.ref 37), (.int 6 0), (.int 0 0), (.ref 44), (.int 9 0), (.int 0 0), (.ref 51), (.int 17 0), (.int 0 0), (.ref 58), (.int 21 0), (.int 0 0), (.ref 65), (.int 32 0), (.int 0 0), (.ref 72), (.int 47 0), (.int 0 0), (.ref 79), (.int 94 0), (.int 0 0), (.ref 137), (.int 103 0), (.int 0 0), (.ref 144), (.int 186 0), (.int 0 0), (.ref 269), (.int 198 0), (.int 0 0), (.ref 274), (.int 208 0), (.int 0 0), (.ref 281), (.int 214 0), (.int 0 0), (.ref 288), (.int 225 0), (.int 0 0), (.ref 293), (.int 243 0), (.int 0 0), (.ref 298), (.int 257 0), (.int 0 0), (.ref 303), (.int 266 0), (.int 0 0), (.ref 308), (.int 274 0), (.int 0 0), (.ref 315), (.int 290 0), (.int 0 0), (.ref 320)]), #[]⟩
noncomputable def o264 (P : Params) : Obj := ⟨(.type "tuple"), none, (.seq #[] 0), #[]⟩
noncomputable def o265 (P : Params) : Obj := ⟨.none, none, (.fields #[]), #[]⟩
noncomputable def o266 (P : Params) : Obj := ⟨(.type "tuple"), none, (.seq #[(vs "text" 670), (vs "blanks" 671), (vs "_law_read_on" 672), (vs "stream" 673), (vs "machine" 674)] 0), #[]⟩
noncomputable def o267 (P : Params) : Obj := ⟨(.type "tuple"), none, (.seq #[(vs "text" 675), (vs "at" 676)] 0), #[]⟩
noncomputable def o268 (P : Params) : Obj := gO (stA 17) (so "_law_lexer")
noncomputable def o269 (P : Params) : Obj := ⟨(.type "code"), none, (.fields #[(vs "_law_lexer" 667), (vs "_law_lexer" 668), (vs "/claim/cut.py" 669), (.int 186 0), (.int 2 0), (.int 0 0), (.int 0 0), (.int 3 0), (.ref 264), (.bool true), (.int 276 0), (.ref 265), .none, (.ref 266), (.ref 267), (.ref 268), (.int 677 0), (.int 186 0), (vs "/claim/cut.py" 678)]), #[]⟩
noncomputable def o270 (P : Params) : Obj := fO (stA 17) (so "_law_lexer") .none .none (vs "law_pg0281_01" 665) (.ref 269)
noncomputable def o271 (P : Params) : Obj := ⟨(.type "tuple"), none, (.seq #[] 0), #[]⟩
noncomputable def o272 (P : Params) : Obj := ⟨.none, none, (.fields #[]), #[]⟩
noncomputable def o273 (P : Params) : Obj := gO (stA 18) (so "_law_ties")
noncomputable def o274 (P : Params) : Obj := ⟨(.type "code"), none, (.fields #[(vs "_law_ties" 680), (vs "_law_ties" 681), (vs "/claim/cut.py" 682), (.int 198 0), (.int 1 0), (.int 0 0), (.int 0 0), (.int 3 0), (.ref 271), (.bool true), (.int 276 0), (.ref 272), .none, .none, .none, (.ref 273), (.int 683 0), (.int 198 0), (vs "/claim/cut.py" 684)]), #[]⟩
noncomputable def o275 (P : Params) : Obj := fO (stA 18) (so "_law_ties") .none .none (vs "law_pg0281_01" 665) (.ref 274)
noncomputable def o276 (P : Params) : Obj := ⟨(.type "tuple"), none, (.seq #[] 0), #[]⟩
noncomputable def o277 (P : Params) : Obj := ⟨.none, none, (.fields #[]), #[]⟩
noncomputable def o278 (P : Params) : Obj := ⟨(.type "tuple"), none, (.seq #[(vs "ties" 689), (vs "table" 690), (vs "one" 691), (vs "other" 692)] 0), #[]⟩
noncomputable def o279 (P : Params) : Obj := ⟨(.type "tuple"), none, (.seq #[] 0), #[]⟩
noncomputable def o280 (P : Params) : Obj := gO (stA 19) (so "_law_table")
noncomputable def o281 (P : Params) : Obj := ⟨(.type "code"), none, (.fields #[(vs "_law_table" 686), (vs "_law_table" 687), (vs "/claim/cut.py" 688), (.int 208 0), (.int 1 0), (.int 0 0), (.int 0 0), (.int 3 0), (.ref 276), (.bool true), (.int 276 0), (.ref 277), .none, (.ref 278), (.ref 279), (.ref 280), (.int 693 0), (.int 208 0), (vs "/claim/cut.py" 694)]), #[]⟩
noncomputable def o282 (P : Params) : Obj := fO (stA 19) (so "_law_table") .none .none (vs "law_pg0281_01" 665) (.ref 281)
noncomputable def o283 (P : Params) : Obj := ⟨(.type "tuple"), none, (.seq #[] 0), #[]⟩
noncomputable def o284 (P : Params) : Obj := ⟨.none, none, (.fields #[]), #[]⟩
noncomputable def o285 (P : Params) : Obj := ⟨(.type "tuple"), none, (.seq #[(vs "word" 699), (vs "ties" 700), (vs "own" 701), (vs "sign" 702), (vs "row" 703), (vs "one" 704), (vs "other" 705)] 0), #[]⟩
noncomputable def o286 (P : Params) : Obj := ⟨(.type "tuple"), none, (.seq #[] 0), #[]⟩
noncomputable def o287 (P : Params) : Obj := gO (stA 20) (so "_law_own")
noncomputable def o288 (P : Params) : Obj := ⟨(.type "code"), none, (.fields #[(vs "_law_own" 696), (vs "_law_own" 697), (vs "/claim/cut.py" 698), (.int 214 0), (.int 2 0), (.int 0 0), (.int 0 0), (.int 3 0), (.ref 283), (.bool true), (.int 276 0), (.ref 284), .none, (.ref 285), (.ref 286), (.ref 287), (.int 706 0), (.int 214 0), (vs "/claim/cut.py" 707)]), #[]⟩
noncomputable def o289 (P : Params) : Obj := fO (stA 20) (so "_law_own") .none .none (vs "law_pg0281_01" 665) (.ref 288)
noncomputable def o290 (P : Params) : Obj := ⟨(.type "tuple"), none, (.seq #[] 0), #[]⟩
noncomputable def o291 (P : Params) : Obj := ⟨.none, none, (.fields #[]), #[]⟩
noncomputable def o292 (P : Params) : Obj := gO (stA 21) (so "_law_by_line")
noncomputable def o293 (P : Params) : Obj := ⟨(.type "code"), none, (.fields #[(vs "_law_by_line" 709), (vs "_law_by_line" 710), (vs "/claim/cut.py" 711), (.int 225 0), (.int 2 0), (.int 0 0), (.int 0 0), (.int 3 0), (.ref 290), (.bool true), (.int 276 0), (.ref 291), .none, .none, .none, (.ref 292), (.int 712 0), (.int 225 0), (vs "/claim/cut.py" 713)]), #[]⟩
noncomputable def o294 (P : Params) : Obj := fO (stA 21) (so "_law_by_line") .none .none (vs "law_pg0281_01" 665) (.ref 293)
noncomputable def o295 (P : Params) : Obj := ⟨(.type "tuple"), none, (.seq #[] 0), #[]⟩
noncomputable def o296 (P : Params) : Obj := ⟨.none, none, (.fields #[]), #[]⟩
noncomputable def o297 (P : Params) : Obj := gO (stA 22) (so "_law_by_heap")
noncomputable def o298 (P : Params) : Obj := ⟨(.type "code"), none, (.fields #[(vs "_law_by_heap" 715), (vs "_law_by_heap" 716), (vs "/claim/cut.py" 717), (.int 243 0), (.int 2 0), (.int 0 0), (.int 0 0), (.int 3 0), (.ref 295), (.bool true), (.int 276 0), (.ref 296), .none, .none, .none, (.ref 297), (.int 718 0), (.int 243 0), (vs "/claim/cut.py" 719)]), #[]⟩
noncomputable def o299 (P : Params) : Obj := fO (stA 22) (so "_law_by_heap") .none .none (vs "law_pg0281_01" 665) (.ref 298)
noncomputable def o300 (P : Params) : Obj := ⟨(.type "tuple"), none, (.seq #[] 0), #[]⟩
noncomputable def o301 (P : Params) : Obj := ⟨.none, none, (.fields #[]), #[]⟩
noncomputable def o302 (P : Params) : Obj := gO (stA 23) (so "_law_by_marks")
noncomputable def o303 (P : Params) : Obj := ⟨(.type "code"), none, (.fields #[(vs "_law_by_marks" 721), (vs "_law_by_marks" 722), (vs "/claim/cut.py" 723), (.int 257 0), (.int 3 0), (.int 0 0), (.int 0 0), (.int 3 0), (.ref 300), (.bool true), (.int 276 0), (.ref 301), .none, .none, .none, (.ref 302), (.int 724 0), (.int 257 0), (vs "/claim/cut.py" 725)]), #[]⟩
noncomputable def o304 (P : Params) : Obj := fO (stA 23) (so "_law_by_marks") .none .none (vs "law_pg0281_01" 665) (.ref 303)
noncomputable def o305 (P : Params) : Obj := ⟨(.type "tuple"), none, (.seq #[] 0), #[]⟩
noncomputable def o306 (P : Params) : Obj := ⟨.none, none, (.fields #[]), #[]⟩
noncomputable def o307 (P : Params) : Obj := gO (stA 24) (so "_law_no_gap")
noncomputable def o308 (P : Params) : Obj := ⟨(.type "code"), none, (.fields #[(vs "_law_no_gap" 727), (vs "_law_no_gap" 728), (vs "/claim/cut.py" 729), (.int 266 0), (.int 2 0), (.int 0 0), (.int 0 0), (.int 3 0), (.ref 305), (.bool true), (.int 276 0), (.ref 306), .none, .none, .none, (.ref 307), (.int 730 0), (.int 266 0), (vs "/claim/cut.py" 731)]), #[]⟩
noncomputable def o309 (P : Params) : Obj := fO (stA 24) (so "_law_no_gap") .none .none (vs "law_pg0281_01" 665) (.ref 308)
noncomputable def o310 (P : Params) : Obj := ⟨(.type "tuple"), none, (.seq #[] 0), #[]⟩
noncomputable def o311 (P : Params) : Obj := ⟨.none, none, (.fields #[]), #[]⟩
noncomputable def o312 (P : Params) : Obj := ⟨(.type "tuple"), none, (.seq #[(vs "word" 736), (vs "own" 737), (vs "point" 738), (vs "one" 739), (vs "other" 740), (vs "met" 741), (vs "k" 742), (vs "sign" 743), (vs "free" 744)] 0), #[]⟩
noncomputable def o313 (P : Params) : Obj := ⟨(.type "tuple"), none, (.seq #[] 0), #[]⟩
noncomputable def o314 (P : Params) : Obj := gO (stA 25) (so "_law_ring")
noncomputable def o315 (P : Params) : Obj := ⟨(.type "code"), none, (.fields #[(vs "_law_ring" 733), (vs "_law_ring" 734), (vs "/claim/cut.py" 735), (.int 274 0), (.int 2 0), (.int 0 0), (.int 0 0), (.int 3 0), (.ref 310), (.bool true), (.int 276 0), (.ref 311), .none, (.ref 312), (.ref 313), (.ref 314), (.int 745 0), (.int 274 0), (vs "/claim/cut.py" 746)]), #[]⟩
noncomputable def o316 (P : Params) : Obj := fO (stA 25) (so "_law_ring") .none .none (vs "law_pg0281_01" 665) (.ref 315)
noncomputable def o317 (P : Params) : Obj := ⟨(.type "tuple"), none, (.seq #[] 0), #[]⟩
noncomputable def o318 (P : Params) : Obj := ⟨.none, none, (.fields #[]), #[]⟩
noncomputable def o319 (P : Params) : Obj := gO (stA 26) (so "law")
noncomputable def o320 (P : Params) : Obj := ⟨(.type "code"), none, (.fields #[(vs "law" 748), (vs "law" 749), (vs "/claim/cut.py" 750), (.int 290 0), (.int 1 0), (.int 0 0), (.int 0 0), (.int 3 0), (.ref 317), (.bool true), (.int 276 0), (.ref 318), .none, .none, .none, (.ref 319), (.int 751 0), (.int 290 0), (vs "/claim/cut.py" 752)]), #[]⟩
noncomputable def o321 (P : Params) : Obj := fO (stA 26) (so "law") .none .none (vs "law_pg0281_01" 665) (.ref 320)
noncomputable def h0 (P : Params) : Heap := ⟨⟨[o0 P, o1 P, o2 P, o3 P, o4 P, o5 P, o6 P, o7 P, o8 P, o9 P, o10 P, o11 P, o12 P, o13 P, o14 P, o15 P, o16 P, o17 P, o18 P, o19 P, o20 P, o21 P, o22 P, o23 P, o24 P, o25 P, o26 P, o27 P]⟩, { }⟩
noncomputable def ha (P : Params) : Heap := ⟨⟨[o0 P, o1 P, o2 P, o3 P, o4 P, o5 P, o6 P, o7 P, o8 P, o9 P, o10 P, o11 P, o12 P, o13 P, o14 P, o15 P, o16 P, o17 P, o18 P, o19 P, o20 P, o21 P, o22 P, o23 P, o24 P, o25 P, o26 P, o27 P, o28 P, o29 P, o30 P, o31 P]⟩, { }⟩
noncomputable def Ta (P : Params) : BT := (.node (o0 P) (.node (o1 P) (.node (o3 P) (.node (o7 P) (.node (o15 P) (.node (o31 P) .nil .nil) .nil) (.node (o23 P) .nil .nil)) (.node (o11 P) (.node (o19 P) .nil .nil) (.node (o27 P) .nil .nil))) (.node (o5 P) (.node (o9 P) (.node (o17 P) .nil .nil) (.node (o25 P) .nil .nil)) (.node (o13 P) (.node (o21 P) .nil .nil) (.node (o29 P) .nil .nil)))) (.node (o2 P) (.node (o4 P) (.node (o8 P) (.node (o16 P) .nil .nil) (.node (o24 P) .nil .nil)) (.node (o12 P) (.node (o20 P) .nil .nil) (.node (o28 P) .nil .nil))) (.node (o6 P) (.node (o10 P) (.node (o18 P) .nil .nil) (.node (o26 P) .nil .nil)) (.node (o14 P) (.node (o22 P) .nil .nil) (.node (o30 P) .nil .nil)))))
theorem hTa (P : Params) : absHeap (Ta P) 32 { } = ha P := by kernel_rfl
noncomputable def T1 (P : Params) : BT := (.node (o0 P) (.node (o1 P) (.node (o3v1 P) (.node (o7 P) (.node (o15 P) (.node (o31 P) (.node (o63 P) .nil .nil) .nil) (.node (o47 P) .nil .nil)) (.node (o23 P) (.node (o39 P) (.node (o71 P) .nil .nil) .nil) (.node (o55 P) .nil .nil))) (.node (o11 P) (.node (o19 P) (.node (o35 P) (.node (o67 P) .nil .nil) .nil) (.node (o51 P) .nil .nil)) (.node (o27 P) (.node (o43 P) .nil .nil) (.node (o59 P) .nil .nil)))) (.node (o5 P) (.node (o9 P) (.node (o17 P) (.node (o33 P) (.node (o65 P) .nil .nil) .nil) (.node (o49 P) .nil .nil)) (.node (o25 P) (.node (o41 P) (.node (o73 P) .nil .nil) .nil) (.node (o57 P) .nil .nil))) (.node (o13 P) (.node (o21 P) (.node (o37 P) (.node (o69 P) .nil .nil) .nil) (.node (o53 P) .nil .nil)) (.node (o29v1 P) (.node (o45 P) .nil .nil) (.node (o61 P) .nil .nil))))) (.node (o2 P) (.node (o4 P) (.node (o8 P) (.node (o16 P) (.node (o32 P) (.node (o64 P) .nil .nil) .nil) (.node (o48 P) .nil .nil)) (.node (o24 P) (.node (o40 P) (.node (o72 P) .nil .nil) .nil) (.node (o56 P) .nil .nil))) (.node (o12 P) (.node (o20 P) (.node (o36 P) (.node (o68 P) .nil .nil) .nil) (.node (o52 P) .nil .nil)) (.node (o28 P) (.node (o44 P) .nil .nil) (.node (o60 P) .nil .nil)))) (.node (o6 P) (.node (o10 P) (.node (o18 P) (.node (o34 P) (.node (o66 P) .nil .nil) .nil) (.node (o50 P) .nil .nil)) (.node (o26 P) (.node (o42 P) .nil .nil) (.node (o58 P) .nil .nil))) (.node (o14 P) (.node (o22 P) (.node (o38 P) (.node (o70 P) .nil .nil) .nil) (.node (o54 P) .nil .nil)) (.node (o30 P) (.node (o46 P) .nil .nil) (.node (o62 P) .nil .nil))))))
noncomputable def h1 (P : Params) : Heap := absHeap (T1 P) 74 { }
noncomputable def Tb (P : Params) : BT := (.node (o0 P) (.node (o1 P) (.node (o3v2 P) (.node (o7 P) (.node (o15 P) (.node (o31 P) (.node (o63 P) .nil .nil) (.node (o95 P) .nil .nil)) (.node (o47 P) (.node (o79 P) .nil .nil) (.node (o111 P) .nil .nil))) (.node (o23 P) (.node (o39 P) (.node (o71 P) .nil .nil) (.node (o103 P) .nil .nil)) (.node (o55 P) (.node (o87 P) .nil .nil) .nil))) (.node (o11 P) (.node (o19 P) (.node (o35 P) (.node (o67 P) .nil .nil) (.node (o99 P) .nil .nil)) (.node (o51 P) (.node (o83 P) .nil .nil) (.node (o115 P) .nil .nil))) (.node (o27 P) (.node (o43 P) (.node (o75 P) .nil .nil) (.node (o107 P) .nil .nil)) (.node (o59 P) (.node (o91 P) .nil .nil) .nil)))) (.node (o5 P) (.node (o9 P) (.node (o17 P) (.node (o33 P) (.node (o65 P) .nil .nil) (.node (o97 P) .nil .nil)) (.node (o49 P) (.node (o81 P) .nil .nil) (.node (o113 P) .nil .nil))) (.node (o25 P) (.node (o41 P) (.node (o73 P) .nil .nil) (.node (o105 P) .nil .nil)) (.node (o57 P) (.node (o89 P) .nil .nil) .nil))) (.node (o13 P) (.node (o21 P) (.node (o37 P) (.node (o69 P) .nil .nil) (.node (o101 P) .nil .nil)) (.node (o53 P) (.node (o85 P) .nil .nil) .nil)) (.node (o29v2 P) (.node (o45 P) (.node (o77 P) .nil .nil) (.node (o109 P) .nil .nil)) (.node (o61 P) (.node (o93 P) .nil .nil) .nil))))) (.node (o2 P) (.node (o4 P) (.node (o8 P) (.node (o16 P) (.node (o32 P) (.node (o64 P) .nil .nil) (.node (o96 P) .nil .nil)) (.node (o48 P) (.node (o80 P) .nil .nil) (.node (o112 P) .nil .nil))) (.node (o24 P) (.node (o40 P) (.node (o72 P) .nil .nil) (.node (o104 P) .nil .nil)) (.node (o56 P) (.node (o88 P) .nil .nil) .nil))) (.node (o12 P) (.node (o20 P) (.node (o36 P) (.node (o68 P) .nil .nil) (.node (o100 P) .nil .nil)) (.node (o52 P) (.node (o84 P) .nil .nil) .nil)) (.node (o28 P) (.node (o44 P) (.node (o76 P) .nil .nil) (.node (o108 P) .nil .nil)) (.node (o60 P) (.node (o92 P) .nil .nil) .nil)))) (.node (o6 P) (.node (o10 P) (.node (o18 P) (.node (o34 P) (.node (o66 P) .nil .nil) (.node (o98 P) .nil .nil)) (.node (o50 P) (.node (o82 P) .nil .nil) (.node (o114 P) .nil .nil))) (.node (o26 P) (.node (o42 P) (.node (o74 P) .nil .nil) (.node (o106 P) .nil .nil)) (.node (o58 P) (.node (o90 P) .nil .nil) .nil))) (.node (o14 P) (.node (o22 P) (.node (o38 P) (.node (o70 P) .nil .nil) (.node (o102 P) .nil .nil)) (.node (o54 P) (.node (o86 P) .nil .nil) .nil)) (.node (o30 P) (.node (o46 P) (.node (o78 P) .nil .nil) (.node (o110 P) .nil .nil)) (.node (o62 P) (.node (o94 P) .nil .nil) .nil))))))
noncomputable def hb (P : Params) : Heap := absHeap (Tb P) 116 { }
noncomputable def Tc (P : Params) : BT := (.node (o0 P) (.node (o1 P) (.node (o3v3 P) (.node (o7 P) (.node (o15 P) (.node (o31 P) (.node (o63 P) .nil .nil) (.node (o95 P) .nil .nil)) (.node (o47 P) (.node (o79 P) .nil .nil) (.node (o111 P) .nil .nil))) (.node (o23 P) (.node (o39 P) (.node (o71 P) .nil .nil) (.node (o103 P) .nil .nil)) (.node (o55 P) (.node (o87 P) .nil .nil) (.node (o119 P) .nil .nil)))) (.node (o11 P) (.node (o19 P) (.node (o35 P) (.node (o67 P) .nil .nil) (.node (o99 P) .nil .nil)) (.node (o51 P) (.node (o83 P) .nil .nil) (.node (o115 P) .nil .nil))) (.node (o27 P) (.node (o43 P) (.node (o75 P) .nil .nil) (.node (o107 P) .nil .nil)) (.node (o59 P) (.node (o91 P) .nil .nil) .nil)))) (.node (o5 P) (.node (o9 P) (.node (o17 P) (.node (o33 P) (.node (o65 P) .nil .nil) (.node (o97 P) .nil .nil)) (.node (o49 P) (.node (o81 P) .nil .nil) (.node (o113 P) .nil .nil))) (.node (o25 P) (.node (o41 P) (.node (o73 P) .nil .nil) (.node (o105 P) .nil .nil)) (.node (o57 P) (.node (o89 P) .nil .nil) .nil))) (.node (o13 P) (.node (o21 P) (.node (o37 P) (.node (o69 P) .nil .nil) (.node (o101 P) .nil .nil)) (.node (o53 P) (.node (o85 P) .nil .nil) (.node (o117 P) .nil .nil))) (.node (o29v2 P) (.node (o45 P) (.node (o77 P) .nil .nil) (.node (o109 P) .nil .nil)) (.node (o61 P) (.node (o93 P) .nil .nil) .nil))))) (.node (o2 P) (.node (o4 P) (.node (o8 P) (.node (o16 P) (.node (o32 P) (.node (o64 P) .nil .nil) (.node (o96 P) .nil .nil)) (.node (o48 P) (.node (o80 P) .nil .nil) (.node (o112 P) .nil .nil))) (.node (o24 P) (.node (o40 P) (.node (o72 P) .nil .nil) (.node (o104 P) .nil .nil)) (.node (o56 P) (.node (o88 P) .nil .nil) (.node (o120 P) .nil .nil)))) (.node (o12 P) (.node (o20 P) (.node (o36 P) (.node (o68 P) .nil .nil) (.node (o100 P) .nil .nil)) (.node (o52 P) (.node (o84 P) .nil .nil) (.node (o116 P) .nil .nil))) (.node (o28 P) (.node (o44 P) (.node (o76 P) .nil .nil) (.node (o108 P) .nil .nil)) (.node (o60 P) (.node (o92 P) .nil .nil) .nil)))) (.node (o6 P) (.node (o10 P) (.node (o18 P) (.node (o34 P) (.node (o66 P) .nil .nil) (.node (o98 P) .nil .nil)) (.node (o50 P) (.node (o82 P) .nil .nil) (.node (o114 P) .nil .nil))) (.node (o26 P) (.node (o42 P) (.node (o74 P) .nil .nil) (.node (o106 P) .nil .nil)) (.node (o58 P) (.node (o90 P) .nil .nil) .nil))) (.node (o14 P) (.node (o22 P) (.node (o38 P) (.node (o70 P) .nil .nil) (.node (o102 P) .nil .nil)) (.node (o54 P) (.node (o86 P) .nil .nil) (.node (o118 P) .nil .nil))) (.node (o30 P) (.node (o46 P) (.node (o78 P) .nil .nil) (.node (o110 P) .nil .nil)) (.node (o62 P) (.node (o94 P) .nil .nil) .nil))))))
noncomputable def hc (P : Params) : Heap := absHeap (Tc P) 121 { }
noncomputable def T2 (P : Params) : BT := (.node (o0 P) (.node (o1 P) (.node (o3v4 P) (.node (o7 P) (.node (o15 P) (.node (o31 P) (.node (o63 P) (.node (o127 P) .nil .nil) .nil) (.node (o95 P) .nil .nil)) (.node (o47 P) (.node (o79 P) .nil .nil) (.node (o111 P) .nil .nil))) (.node (o23 P) (.node (o39 P) (.node (o71 P) (.node (o135 P) .nil .nil) .nil) (.node (o103 P) .nil .nil)) (.node (o55 P) (.node (o87 P) .nil .nil) (.node (o119 P) .nil .nil)))) (.node (o11 P) (.node (o19 P) (.node (o35 P) (.node (o67 P) (.node (o131 P) .nil .nil) .nil) (.node (o99 P) .nil .nil)) (.node (o51 P) (.node (o83 P) .nil .nil) (.node (o115 P) .nil .nil))) (.node (o27 P) (.node (o43 P) (.node (o75 P) .nil .nil) (.node (o107 P) .nil .nil)) (.node (o59 P) (.node (o91 P) .nil .nil) (.node (o123 P) .nil .nil))))) (.node (o5 P) (.node (o9 P) (.node (o17 P) (.node (o33 P) (.node (o65 P) (.node (o129 P) .nil .nil) .nil) (.node (o97 P) .nil .nil)) (.node (o49 P) (.node (o81 P) .nil .nil) (.node (o113 P) .nil .nil))) (.node (o25 P) (.node (o41 P) (.node (o73 P) (.node (o137 P) .nil .nil) .nil) (.node (o105 P) .nil .nil)) (.node (o57 P) (.node (o89 P) .nil .nil) (.node (o121 P) .nil .nil)))) (.node (o13 P) (.node (o21 P) (.node (o37 P) (.node (o69 P) (.node (o133 P) .nil .nil) .nil) (.node (o101 P) .nil .nil)) (.node (o53 P) (.node (o85 P) .nil .nil) (.node (o117 P) .nil .nil))) (.node (o29v3 P) (.node (o45 P) (.node (o77 P) .nil .nil) (.node (o109 P) .nil .nil)) (.node (o61 P) (.node (o93 P) .nil .nil) (.node (o125 P) .nil .nil)))))) (.node (o2 P) (.node (o4 P) (.node (o8 P) (.node (o16 P) (.node (o32 P) (.node (o64 P) (.node (o128 P) .nil .nil) .nil) (.node (o96 P) .nil .nil)) (.node (o48 P) (.node (o80 P) .nil .nil) (.node (o112 P) .nil .nil))) (.node (o24 P) (.node (o40 P) (.node (o72 P) (.node (o136 P) .nil .nil) .nil) (.node (o104 P) .nil .nil)) (.node (o56 P) (.node (o88 P) .nil .nil) (.node (o120 P) .nil .nil)))) (.node (o12 P) (.node (o20 P) (.node (o36 P) (.node (o68 P) (.node (o132 P) .nil .nil) .nil) (.node (o100 P) .nil .nil)) (.node (o52 P) (.node (o84 P) .nil .nil) (.node (o116 P) .nil .nil))) (.node (o28 P) (.node (o44 P) (.node (o76 P) .nil .nil) (.node (o108 P) .nil .nil)) (.node (o60 P) (.node (o92 P) .nil .nil) (.node (o124 P) .nil .nil))))) (.node (o6 P) (.node (o10 P) (.node (o18 P) (.node (o34 P) (.node (o66 P) (.node (o130 P) .nil .nil) .nil) (.node (o98 P) .nil .nil)) (.node (o50 P) (.node (o82 P) .nil .nil) (.node (o114 P) .nil .nil))) (.node (o26 P) (.node (o42 P) (.node (o74 P) (.node (o138 P) .nil .nil) .nil) (.node (o106 P) .nil .nil)) (.node (o58 P) (.node (o90 P) .nil .nil) (.node (o122 P) .nil .nil)))) (.node (o14 P) (.node (o22 P) (.node (o38 P) (.node (o70 P) (.node (o134 P) .nil .nil) .nil) (.node (o102 P) .nil .nil)) (.node (o54 P) (.node (o86 P) .nil .nil) (.node (o118 P) .nil .nil))) (.node (o30 P) (.node (o46 P) (.node (o78 P) .nil .nil) (.node (o110 P) .nil .nil)) (.node (o62 P) (.node (o94 P) .nil .nil) (.node (o126 P) .nil .nil)))))))
noncomputable def h2 (P : Params) : Heap := absHeap (T2 P) 139 { }
noncomputable def T3 (P : Params) : BT := (.node (o0 P) (.node (o1 P) (.node (o3v5 P) (.node (o7 P) (.node (o15 P) (.node (o31 P) (.node (o63 P) (.node (o127 P) (.node (o255 P) .nil .nil) .nil) (.node (o191 P) .nil .nil)) (.node (o95 P) (.node (o159 P) .nil .nil) (.node (o223 P) .nil .nil))) (.node (o47 P) (.node (o79 P) (.node (o143 P) .nil .nil) (.node (o207 P) .nil .nil)) (.node (o111 P) (.node (o175 P) .nil .nil) (.node (o239 P) .nil .nil)))) (.node (o23 P) (.node (o39 P) (.node (o71 P) (.node (o135 P) (.node (o263 P) .nil .nil) .nil) (.node (o199 P) .nil .nil)) (.node (o103 P) (.node (o167 P) .nil .nil) (.node (o231 P) .nil .nil))) (.node (o55 P) (.node (o87 P) (.node (o151 P) .nil .nil) (.node (o215 P) .nil .nil)) (.node (o119 P) (.node (o183 P) .nil .nil) (.node (o247 P) .nil .nil))))) (.node (o11 P) (.node (o19 P) (.node (o35 P) (.node (o67 P) (.node (o131 P) (.node (o259 P) .nil .nil) .nil) (.node (o195 P) .nil .nil)) (.node (o99 P) (.node (o163 P) .nil .nil) (.node (o227 P) .nil .nil))) (.node (o51 P) (.node (o83 P) (.node (o147 P) .nil .nil) (.node (o211 P) .nil .nil)) (.node (o115 P) (.node (o179 P) .nil .nil) (.node (o243 P) .nil .nil)))) (.node (o27 P) (.node (o43 P) (.node (o75 P) (.node (o139 P) .nil .nil) (.node (o203 P) .nil .nil)) (.node (o107 P) (.node (o171 P) .nil .nil) (.node (o235 P) .nil .nil))) (.node (o59 P) (.node (o91 P) (.node (o155 P) .nil .nil) (.node (o219 P) .nil .nil)) (.node (o123 P) (.node (o187 P) .nil .nil) (.node (o251 P) .nil .nil)))))) (.node (o5 P) (.node (o9 P) (.node (o17 P) (.node (o33 P) (.node (o65 P) (.node (o129 P) (.node (o257 P) .nil .nil) .nil) (.node (o193 P) .nil .nil)) (.node (o97 P) (.node (o161 P) .nil .nil) (.node (o225 P) .nil .nil))) (.node (o49 P) (.node (o81 P) (.node (o145 P) .nil .nil) (.node (o209 P) .nil .nil)) (.node (o113 P) (.node (o177 P) .nil .nil) (.node (o241 P) .nil .nil)))) (.node (o25 P) (.node (o41 P) (.node (o73 P) (.node (o137 P) .nil .nil) (.node (o201 P) .nil .nil)) (.node (o105 P) (.node (o169 P) .nil .nil) (.node (o233 P) .nil .nil))) (.node (o57 P) (.node (o89 P) (.node (o153 P) .nil .nil) (.node (o217 P) .nil .nil)) (.node (o121 P) (.node (o185 P) .nil .nil) (.node (o249 P) .nil .nil))))) (.node (o13 P) (.node (o21 P) (.node (o37 P) (.node (o69 P) (.node (o133 P) (.node (o261 P) .nil .nil) .nil) (.node (o197 P) .nil .nil)) (.node (o101 P) (.node (o165 P) .nil .nil) (.node (o229 P) .nil .nil))) (.node (o53 P) (.node (o85 P) (.node (o149 P) .nil .nil) (.node (o213 P) .nil .nil)) (.node (o117 P) (.node (o181 P) .nil .nil) (.node (o245 P) .nil .nil)))) (.node (o29v4 P) (.node (o45 P) (.node (o77 P) (.node (o141 P) .nil .nil) (.node (o205 P) .nil .nil)) (.node (o109 P) (.node (o173 P) .nil .nil) (.node (o237 P) .nil .nil))) (.node (o61 P) (.node (o93 P) (.node (o157 P) .nil .nil) (.node (o221 P) .nil .nil)) (.node (o125 P) (.node (o189 P) .nil .nil) (.node (o253 P) .nil .nil))))))) (.node (o2 P) (.node (o4 P) (.node (o8 P) (.node (o16 P) (.node (o32 P) (.node (o64 P) (.node (o128 P) (.node (o256 P) .nil .nil) .nil) (.node (o192 P) .nil .nil)) (.node (o96 P) (.node (o160 P) .nil .nil) (.node (o224 P) .nil .nil))) (.node (o48 P) (.node (o80 P) (.node (o144 P) .nil .nil) (.node (o208 P) .nil .nil)) (.node (o112 P) (.node (o176 P) .nil .nil) (.node (o240 P) .nil .nil)))) (.node (o24 P) (.node (o40 P) (.node (o72 P) (.node (o136 P) .nil .nil) (.node (o200 P) .nil .nil)) (.node (o104 P) (.node (o168 P) .nil .nil) (.node (o232 P) .nil .nil))) (.node (o56 P) (.node (o88 P) (.node (o152 P) .nil .nil) (.node (o216 P) .nil .nil)) (.node (o120 P) (.node (o184 P) .nil .nil) (.node (o248 P) .nil .nil))))) (.node (o12 P) (.node (o20 P) (.node (o36 P) (.node (o68 P) (.node (o132 P) (.node (o260 P) .nil .nil) .nil) (.node (o196 P) .nil .nil)) (.node (o100 P) (.node (o164 P) .nil .nil) (.node (o228 P) .nil .nil))) (.node (o52 P) (.node (o84 P) (.node (o148 P) .nil .nil) (.node (o212 P) .nil .nil)) (.node (o116 P) (.node (o180 P) .nil .nil) (.node (o244 P) .nil .nil)))) (.node (o28 P) (.node (o44 P) (.node (o76 P) (.node (o140 P) .nil .nil) (.node (o204 P) .nil .nil)) (.node (o108 P) (.node (o172 P) .nil .nil) (.node (o236 P) .nil .nil))) (.node (o60 P) (.node (o92 P) (.node (o156 P) .nil .nil) (.node (o220 P) .nil .nil)) (.node (o124 P) (.node (o188 P) .nil .nil) (.node (o252 P) .nil .nil)))))) (.node (o6 P) (.node (o10 P) (.node (o18 P) (.node (o34 P) (.node (o66 P) (.node (o130 P) (.node (o258 P) .nil .nil) .nil) (.node (o194 P) .nil .nil)) (.node (o98 P) (.node (o162 P) .nil .nil) (.node (o226 P) .nil .nil))) (.node (o50 P) (.node (o82 P) (.node (o146 P) .nil .nil) (.node (o210 P) .nil .nil)) (.node (o114 P) (.node (o178 P) .nil .nil) (.node (o242 P) .nil .nil)))) (.node (o26 P) (.node (o42 P) (.node (o74 P) (.node (o138 P) .nil .nil) (.node (o202 P) .nil .nil)) (.node (o106 P) (.node (o170 P) .nil .nil) (.node (o234 P) .nil .nil))) (.node (o58 P) (.node (o90 P) (.node (o154 P) .nil .nil) (.node (o218 P) .nil .nil)) (.node (o122 P) (.node (o186 P) .nil .nil) (.node (o250 P) .nil .nil))))) (.node (o14 P) (.node (o22 P) (.node (o38 P) (.node (o70 P) (.node (o134 P) (.node (o262 P) .nil .nil) .nil) (.node (o198 P) .nil .nil)) (.node (o102 P) (.node (o166 P) .nil .nil) (.node (o230 P) .nil .nil))) (.node (o54 P) (.node (o86 P) (.node (o150 P) .nil .nil) (.node (o214 P) .nil .nil)) (.node (o118 P) (.node (o182 P) .nil .nil) (.node (o246 P) .nil .nil)))) (.node (o30 P) (.node (o46 P) (.node (o78 P) (.node (o142 P) .nil .nil) (.node (o206 P) .nil .nil)) (.node (o110 P) (.node (o174 P) .nil .nil) (.node (o238 P) .nil .nil))) (.node (o62 P) (.node (o94 P) (.node (o158 P) .nil .nil) (.node (o222 P) .nil .nil)) (.node (o126 P) (.node (o190 P) .nil .nil) (.node (o254 P) .nil .nil))))))))
noncomputable def h3 (P : Params) : Heap := absHeap (T3 P) 264 { }
noncomputable def h4 (P : Params) : Heap := ⟨⟨[o0 P, o1 P, o2 P, o3v6 P, o4 P, o5 P, o6 P, o7 P, o8 P, o9 P, o10 P, o11 P, o12 P, o13 P, o14 P, o15 P, o16 P, o17 P, o18 P, o19 P, o20 P, o21 P, o22 P, o23 P, o24 P, o25 P, o26 P, o27 P, o28 P, o29v5 P, o30 P, o31 P, o32 P, o33 P, o34 P, o35 P, o36 P, o37 P, o38 P, o39 P, o40 P, o41 P, o42 P, o43 P, o44 P, o45 P, o46 P, o47 P, o48 P, o49 P, o50 P, o51 P, o52 P, o53 P, o54 P, o55 P, o56 P, o57 P, o58 P, o59 P, o60 P, o61 P, o62 P, o63 P, o64 P, o65 P, o66 P, o67 P, o68 P, o69 P, o70 P, o71 P, o72 P, o73 P, o74 P, o75 P, o76 P, o77 P, o78 P, o79 P, o80 P, o81 P, o82 P, o83 P, o84 P, o85 P, o86 P, o87 P, o88 P, o89 P, o90 P, o91 P, o92 P, o93 P, o94 P, o95 P, o96 P, o97 P, o98 P, o99 P, o100 P, o101 P, o102 P, o103 P, o104 P, o105 P, o106 P, o107 P, o108 P, o109 P, o110 P, o111 P, o112 P, o113 P, o114 P, o115 P, o116 P, o117 P, o118 P, o119 P, o120 P, o121 P, o122 P, o123 P, o124 P, o125 P, o126 P, o127 P, o128 P, o129 P, o130 P, o131 P, o132 P, o133 P, o134 P, o135 P, o136 P, o137 P, o138 P, o139 P, o140 P, o141 P, o142 P, o143 P, o144 P, o145 P, o146 P, o147 P, o148 P, o149 P, o150 P, o151 P, o152 P, o153 P, o154 P, o155 P, o156 P, o157 P, o158 P, o159 P, o160 P, o161 P, o162 P, o163 P, o164 P, o165 P, o166 P, o167 P, o168 P, o169 P, o170 P, o171 P, o172 P, o173 P, o174 P, o175 P, o176 P, o177 P, o178 P, o179 P, o180 P, o181 P, o182 P, o183 P, o184 P, o185 P, o186 P, o187 P, o188 P, o189 P, o190 P, o191 P, o192 P, o193 P, o194 P, o195 P, o196 P, o197 P, o198 P, o199 P, o200 P, o201 P, o202 P, o203 P, o204 P, o205 P, o206 P, o207 P, o208 P, o209 P, o210 P, o211 P, o212 P, o213 P, o214 P, o215 P, o216 P, o217 P, o218 P, o219 P, o220 P, o221 P, o222 P, o223 P, o224 P, o225 P, o226 P, o227 P, o228 P, o229 P, o230 P, o231 P, o232 P, o233 P, o234 P, o235 P, o236 P, o237 P, o238 P, o239 P, o240 P, o241 P, o242 P, o243 P, o244 P, o245 P, o246 P, o247 P, o248 P, o249 P, o250 P, o251 P, o252 P, o253 P, o254 P, o255 P, o256 P, o257 P, o258 P, o259 P, o260 P, o261 P, o262 P, o263 P, o264 P, o265 P, o266 P, o267 P, o268 P, o269 P, o270 P, o271 P, o272 P, o273 P, o274 P, o275 P, o276 P, o277 P, o278 P, o279 P, o280 P, o281 P, o282 P, o283 P, o284 P, o285 P, o286 P, o287 P, o288 P, o289 P, o290 P, o291 P, o292 P, o293 P, o294 P, o295 P, o296 P, o297 P, o298 P, o299 P, o300 P, o301 P, o302 P, o303 P, o304 P, o305 P, o306 P, o307 P, o308 P, o309 P, o310 P, o311 P, o312 P, o313 P, o314 P, o315 P, o316 P, o317 P, o318 P, o319 P, o320 P, o321 P]⟩, { }⟩
noncomputable def T4 (P : Params) : BT := (.node (o0 P) (.node (o1 P) (.node (o3v6 P) (.node (o7 P) (.node (o15 P) (.node (o31 P) (.node (o63 P) (.node (o127 P) (.node (o255 P) .nil .nil) .nil) (.node (o191 P) (.node (o319 P) .nil .nil) .nil)) (.node (o95 P) (.node (o159 P) (.node (o287 P) .nil .nil) .nil) (.node (o223 P) .nil .nil))) (.node (o47 P) (.node (o79 P) (.node (o143 P) (.node (o271 P) .nil .nil) .nil) (.node (o207 P) .nil .nil)) (.node (o111 P) (.node (o175 P) (.node (o303 P) .nil .nil) .nil) (.node (o239 P) .nil .nil)))) (.node (o23 P) (.node (o39 P) (.node (o71 P) (.node (o135 P) (.node (o263 P) .nil .nil) .nil) (.node (o199 P) .nil .nil)) (.node (o103 P) (.node (o167 P) (.node (o295 P) .nil .nil) .nil) (.node (o231 P) .nil .nil))) (.node (o55 P) (.node (o87 P) (.node (o151 P) (.node (o279 P) .nil .nil) .nil) (.node (o215 P) .nil .nil)) (.node (o119 P) (.node (o183 P) (.node (o311 P) .nil .nil) .nil) (.node (o247 P) .nil .nil))))) (.node (o11 P) (.node (o19 P) (.node (o35 P) (.node (o67 P) (.node (o131 P) (.node (o259 P) .nil .nil) .nil) (.node (o195 P) .nil .nil)) (.node (o99 P) (.node (o163 P) (.node (o291 P) .nil .nil) .nil) (.node (o227 P) .nil .nil))) (.node (o51 P) (.node (o83 P) (.node (o147 P) (.node (o275 P) .nil .nil) .nil) (.node (o211 P) .nil .nil)) (.node (o115 P) (.node (o179 P) (.node (o307 P) .nil .nil) .nil) (.node (o243 P) .nil .nil)))) (.node (o27 P) (.node (o43 P) (.node (o75 P) (.node (o139 P) (.node (o267 P) .nil .nil) .nil) (.node (o203 P) .nil .nil)) (.node (o107 P) (.node (o171 P) (.node (o299 P) .nil .nil) .nil) (.node (o235 P) .nil .nil))) (.node (o59 P) (.node (o91 P) (.node (o155 P) (.node (o283 P) .nil .nil) .nil) (.node (o219 P) .nil .nil)) (.node (o123 P) (.node (o187 P) (.node (o315 P) .nil .nil) .nil) (.node (o251 P) .nil .nil)))))) (.node (o5 P) (.node (o9 P) (.node (o17 P) (.node (o33 P) (.node (o65 P) (.node (o129 P) (.node (o257 P) .nil .nil) .nil) (.node (o193 P) (.node (o321 P) .nil .nil) .nil)) (.node (o97 P) (.node (o161 P) (.node (o289 P) .nil .nil) .nil) (.node (o225 P) .nil .nil))) (.node (o49 P) (.node (o81 P) (.node (o145 P) (.node (o273 P) .nil .nil) .nil) (.node (o209 P) .nil .nil)) (.node (o113 P) (.node (o177 P) (.node (o305 P) .nil .nil) .nil) (.node (o241 P) .nil .nil)))) (.node (o25 P) (.node (o41 P) (.node (o73 P) (.node (o137 P) (.node (o265 P) .nil .nil) .nil) (.node (o201 P) .nil .nil)) (.node (o105 P) (.node (o169 P) (.node (o297 P) .nil .nil) .nil) (.node (o233 P) .nil .nil))) (.node (o57 P) (.node (o89 P) (.node (o153 P) (.node (o281 P) .nil .nil) .nil) (.node (o217 P) .nil .nil)) (.node (o121 P) (.node (o185 P) (.node (o313 P) .nil .nil) .nil) (.node (o249 P) .nil .nil))))) (.node (o13 P) (.node (o21 P) (.node (o37 P) (.node (o69 P) (.node (o133 P) (.node (o261 P) .nil .nil) .nil) (.node (o197 P) .nil .nil)) (.node (o101 P) (.node (o165 P) (.node (o293 P) .nil .nil) .nil) (.node (o229 P) .nil .nil))) (.node (o53 P) (.node (o85 P) (.node (o149 P) (.node (o277 P) .nil .nil) .nil) (.node (o213 P) .nil .nil)) (.node (o117 P) (.node (o181 P) (.node (o309 P) .nil .nil) .nil) (.node (o245 P) .nil .nil)))) (.node (o29v5 P) (.node (o45 P) (.node (o77 P) (.node (o141 P) (.node (o269 P) .nil .nil) .nil) (.node (o205 P) .nil .nil)) (.node (o109 P) (.node (o173 P) (.node (o301 P) .nil .nil) .nil) (.node (o237 P) .nil .nil))) (.node (o61 P) (.node (o93 P) (.node (o157 P) (.node (o285 P) .nil .nil) .nil) (.node (o221 P) .nil .nil)) (.node (o125 P) (.node (o189 P) (.node (o317 P) .nil .nil) .nil) (.node (o253 P) .nil .nil))))))) (.node (o2 P) (.node (o4 P) (.node (o8 P) (.node (o16 P) (.node (o32 P) (.node (o64 P) (.node (o128 P) (.node (o256 P) .nil .nil) .nil) (.node (o192 P) (.node (o320 P) .nil .nil) .nil)) (.node (o96 P) (.node (o160 P) (.node (o288 P) .nil .nil) .nil) (.node (o224 P) .nil .nil))) (.node (o48 P) (.node (o80 P) (.node (o144 P) (.node (o272 P) .nil .nil) .nil) (.node (o208 P) .nil .nil)) (.node (o112 P) (.node (o176 P) (.node (o304 P) .nil .nil) .nil) (.node (o240 P) .nil .nil)))) (.node (o24 P) (.node (o40 P) (.node (o72 P) (.node (o136 P) (.node (o264 P) .nil .nil) .nil) (.node (o200 P) .nil .nil)) (.node (o104 P) (.node (o168 P) (.node (o296 P) .nil .nil) .nil) (.node (o232 P) .nil .nil))) (.node (o56 P) (.node (o88 P) (.node (o152 P) (.node (o280 P) .nil .nil) .nil) (.node (o216 P) .nil .nil)) (.node (o120 P) (.node (o184 P) (.node (o312 P) .nil .nil) .nil) (.node (o248 P) .nil .nil))))) (.node (o12 P) (.node (o20 P) (.node (o36 P) (.node (o68 P) (.node (o132 P) (.node (o260 P) .nil .nil) .nil) (.node (o196 P) .nil .nil)) (.node (o100 P) (.node (o164 P) (.node (o292 P) .nil .nil) .nil) (.node (o228 P) .nil .nil))) (.node (o52 P) (.node (o84 P) (.node (o148 P) (.node (o276 P) .nil .nil) .nil) (.node (o212 P) .nil .nil)) (.node (o116 P) (.node (o180 P) (.node (o308 P) .nil .nil) .nil) (.node (o244 P) .nil .nil)))) (.node (o28 P) (.node (o44 P) (.node (o76 P) (.node (o140 P) (.node (o268 P) .nil .nil) .nil) (.node (o204 P) .nil .nil)) (.node (o108 P) (.node (o172 P) (.node (o300 P) .nil .nil) .nil) (.node (o236 P) .nil .nil))) (.node (o60 P) (.node (o92 P) (.node (o156 P) (.node (o284 P) .nil .nil) .nil) (.node (o220 P) .nil .nil)) (.node (o124 P) (.node (o188 P) (.node (o316 P) .nil .nil) .nil) (.node (o252 P) .nil .nil)))))) (.node (o6 P) (.node (o10 P) (.node (o18 P) (.node (o34 P) (.node (o66 P) (.node (o130 P) (.node (o258 P) .nil .nil) .nil) (.node (o194 P) .nil .nil)) (.node (o98 P) (.node (o162 P) (.node (o290 P) .nil .nil) .nil) (.node (o226 P) .nil .nil))) (.node (o50 P) (.node (o82 P) (.node (o146 P) (.node (o274 P) .nil .nil) .nil) (.node (o210 P) .nil .nil)) (.node (o114 P) (.node (o178 P) (.node (o306 P) .nil .nil) .nil) (.node (o242 P) .nil .nil)))) (.node (o26 P) (.node (o42 P) (.node (o74 P) (.node (o138 P) (.node (o266 P) .nil .nil) .nil) (.node (o202 P) .nil .nil)) (.node (o106 P) (.node (o170 P) (.node (o298 P) .nil .nil) .nil) (.node (o234 P) .nil .nil))) (.node (o58 P) (.node (o90 P) (.node (o154 P) (.node (o282 P) .nil .nil) .nil) (.node (o218 P) .nil .nil)) (.node (o122 P) (.node (o186 P) (.node (o314 P) .nil .nil) .nil) (.node (o250 P) .nil .nil))))) (.node (o14 P) (.node (o22 P) (.node (o38 P) (.node (o70 P) (.node (o134 P) (.node (o262 P) .nil .nil) .nil) (.node (o198 P) .nil .nil)) (.node (o102 P) (.node (o166 P) (.node (o294 P) .nil .nil) .nil) (.node (o230 P) .nil .nil))) (.node (o54 P) (.node (o86 P) (.node (o150 P) (.node (o278 P) .nil .nil) .nil) (.node (o214 P) .nil .nil)) (.node (o118 P) (.node (o182 P) (.node (o310 P) .nil .nil) .nil) (.node (o246 P) .nil .nil)))) (.node (o30 P) (.node (o46 P) (.node (o78 P) (.node (o142 P) (.node (o270 P) .nil .nil) .nil) (.node (o206 P) .nil .nil)) (.node (o110 P) (.node (o174 P) (.node (o302 P) .nil .nil) .nil) (.node (o238 P) .nil .nil))) (.node (o62 P) (.node (o94 P) (.node (o158 P) (.node (o286 P) .nil .nil) .nil) (.node (o222 P) .nil .nil)) (.node (o126 P) (.node (o190 P) (.node (o318 P) .nil .nil) .nil) (.node (o254 P) .nil .nil))))))))
theorem hT4 (P : Params) : absHeap (T4 P) 322 { } = h4 P := by kernel_rfl
noncomputable def e1 : Env := { scope := PW.main.scope, locals := mainNs, globals := mainNs, cells := [], code := .ref 30, frame := some 31 }
noncomputable abbrev c1 : Code := .body (behindTheImports PW) e1
noncomputable abbrev q0 : Pos := ⟨0, 0, 0, 0⟩
noncomputable abbrev ann0 : Option Value := some (.ref 6)
noncomputable def gst1 : List Stmt := (behindTheImports PW).take 8
noncomputable def gst2 : List Stmt := ((behindTheImports PW).drop 8).take 1
noncomputable def gst3 : List Stmt := ((behindTheImports PW).drop 9).take 2
noncomputable def gst4 : List Stmt := ((behindTheImports PW).drop 11).take 3
noncomputable def gst5 : List Stmt := ((behindTheImports PW).drop 14).take 1
noncomputable def gst6 : List Stmt := (behindTheImports PW).drop 15
theorem gst_eq : behindTheImports PW = gst1 ++ (gst2 ++ (gst3 ++ (gst4 ++ (gst5 ++ (gst6 ++ []))))) := by kernel_rfl
noncomputable abbrev sh (h : Params → Heap) (t : Nat) (w : World) (os : OsState) : Shared := ⟨h w.params, #[], {}, t, os⟩
end
section
set_option maxHeartbeats 0
theorem t_open : ∀ w : World, (fencedOpening treeTable PW w 3778).map (fun s => (s.heap, s.gens, s.drawn, s.toks)) = some (h0 w.params, #[], {}, 276) := by
  intro w
  kernel_rfl
theorem t_size : ∀ w : World, ((h0 w.params).isNs mainGlobals && (#[] : Array GenState).size == 0, (h0 w.params).objs.size, (h0 w.params).nsMap mainGlobals "__annotations__") = (true, 28, ann0) := by
  intro w
  kernel_rfl
theorem t_pre : ∀ (w : World) (os : OsState), topGo treeTable PW w 28 ann0 12 (sh h0 276 w os) (topStub PW) = some (sh ha 282 w os, ⟨denote treeTable c1, c1, q0, [topFrame q0]⟩) := by
  intro w os
  kernel_rfl
theorem t_block : ∀ (w : World) (os : OsState), segRun treeTable PW w 28 ann0 1 1 (sh ha 282 w os) (blockOf (behindTheImports PW) e1 c1 q0 [topFrame q0]) = some (.next, sh ha 282 w os, c1, q0) := by
  intro w os
  kernel_rfl
theorem t_g1T : ∀ (w : World) (os : OsState), segRunT treeTable PW w 28 ann0 1 209 ⟨Ta w.params, 32, { }, #[], {}, 282, os⟩ (PySem.W.piecesOf gst1 e1 c1 q0 [topFrame q0]) = some (.next, ⟨T1 w.params, 74, { }, #[], {}, 344, os⟩, c1, ⟨46, 0, 46, 8⟩) := by
  intro w os
  kernel_rfl
theorem t_g1 (w : World) (os : OsState) : segRun treeTable PW w 28 ann0 1 209 (sh ha 282 w os) (PySem.W.piecesOf gst1 e1 c1 q0 [topFrame q0]) = some (.next, sh h1 344 w os, c1, ⟨46, 0, 46, 8⟩) := by
  have h := segRun_of (t_g1T w os)
  unfold SharedT.abs at h
  rw [hTa] at h
  exact h
theorem t_g2T : ∀ (w : World) (os : OsState), segRunT treeTable PW w 28 ann0 1 324 ⟨T1 w.params, 74, { }, #[], {}, 344, os⟩ (PySem.W.piecesOf gst2 e1 c1 ⟨46, 0, 46, 8⟩ [topFrame q0]) = some (.next, ⟨Tb w.params, 116, { }, #[], {}, 402, os⟩, c1, ⟨47, 0, 89, 35⟩) := by
  intro w os
  kernel_rfl
theorem t_g2 (w : World) (os : OsState) : segRun treeTable PW w 28 ann0 1 324 (sh h1 344 w os) (PySem.W.piecesOf gst2 e1 c1 ⟨46, 0, 46, 8⟩ [topFrame q0]) = some (.next, sh hb 402 w os, c1, ⟨47, 0, 89, 35⟩) := by
  have h := segRun_of (t_g2T w os)
  exact h
theorem t_g3T : ∀ (w : World) (os : OsState), segRunT treeTable PW w 28 ann0 1 87 ⟨Tb w.params, 116, { }, #[], {}, 402, os⟩ (PySem.W.piecesOf gst3 e1 c1 ⟨47, 0, 89, 35⟩ [topFrame q0]) = some (.next, ⟨Tc w.params, 121, { }, #[], {}, 438, os⟩, c1, ⟨91, 0, 91, 9⟩) := by
  intro w os
  kernel_rfl
theorem t_g3 (w : World) (os : OsState) : segRun treeTable PW w 28 ann0 1 87 (sh hb 402 w os) (PySem.W.piecesOf gst3 e1 c1 ⟨47, 0, 89, 35⟩ [topFrame q0]) = some (.next, sh hc 438 w os, c1, ⟨91, 0, 91, 9⟩) := by
  have h := segRun_of (t_g3T w os)
  exact h
theorem t_g4T : ∀ (w : World) (os : OsState), segRunT treeTable PW w 28 ann0 1 180 ⟨Tc w.params, 121, { }, #[], {}, 438, os⟩ (PySem.W.piecesOf gst4 e1 c1 ⟨91, 0, 91, 9⟩ [topFrame q0]) = some (.next, ⟨T2 w.params, 139, { }, #[], {}, 508, os⟩, c1, ⟨94, 0, 102, 20⟩) := by
  intro w os
  kernel_rfl
theorem t_g4 (w : World) (os : OsState) : segRun treeTable PW w 28 ann0 1 180 (sh hc 438 w os) (PySem.W.piecesOf gst4 e1 c1 ⟨91, 0, 91, 9⟩ [topFrame q0]) = some (.next, sh h2 508 w os, c1, ⟨94, 0, 102, 20⟩) := by
  have h := segRun_of (t_g4T w os)
  exact h
theorem t_g5T : ∀ (w : World) (os : OsState), segRunT treeTable PW w 28 ann0 1 727 ⟨T2 w.params, 139, { }, #[], {}, 508, os⟩ (PySem.W.piecesOf gst5 e1 c1 ⟨94, 0, 102, 20⟩ [topFrame q0]) = some (.next, ⟨T3 w.params, 264, { }, #[], {}, 665, os⟩, c1, ⟨103, 0, 184, 93⟩) := by
  intro w os
  kernel_rfl
theorem t_g5 (w : World) (os : OsState) : segRun treeTable PW w 28 ann0 1 727 (sh h2 508 w os) (PySem.W.piecesOf gst5 e1 c1 ⟨94, 0, 102, 20⟩ [topFrame q0]) = some (.next, sh h3 665 w os, c1, ⟨103, 0, 184, 93⟩) := by
  have h := segRun_of (t_g5T w os)
  exact h
theorem t_g6T : ∀ (w : World) (os : OsState), segRunT treeTable PW w 28 ann0 1 305 ⟨T3 w.params, 264, { }, #[], {}, 665, os⟩ (PySem.W.piecesOf gst6 e1 c1 ⟨103, 0, 184, 93⟩ [topFrame q0]) = some (.next, ⟨T4 w.params, 322, { }, #[], {}, 754, os⟩, c1, ⟨290, 0, 312, 82⟩) := by
  intro w os
  kernel_rfl
theorem t_g6 (w : World) (os : OsState) : segRun treeTable PW w 28 ann0 1 305 (sh h3 665 w os) (PySem.W.piecesOf gst6 e1 c1 ⟨103, 0, 184, 93⟩ [topFrame q0]) = some (.next, sh h4 754 w os, c1, ⟨290, 0, 312, 82⟩) := by
  have h := segRun_of (t_g6T w os)
  unfold SharedT.abs at h
  rw [hT4] at h
  exact h
theorem t_fin : ∀ (w : World) (os : OsState), topRun treeTable PW w 28 ann0 2 (sh h4 754 w os) ⟨doneF .next, c1, ⟨290, 0, 312, 82⟩, [topFrame q0]⟩ = some (sh h4 754 w os) := by
  intro w os
  kernel_rfl
theorem t_run (w : World) (os : OsState) : topRun treeTable PW w 28 ann0 (12 + (1 + (209 + (324 + (87 + (180 + (727 + (305 + 2)))))))) (sh h0 276 w os) (topStub PW) = some (sh h4 754 w os) := by
  refine go_top (t_pre w os) (piece_block (t_block w os) ?_)
  rw [gst_eq]
  exact piece_app (t_g1 w os) (piece_app (t_g2 w os) (piece_app (t_g3 w os) (piece_app (t_g4 w os) (piece_app (t_g5 w os) (piece_app (t_g6 w os) (piece_nil (t_fin w os)))))))
theorem t_looks : ∀ w : World, (fun os => ((staticsOk (importedModules PW.main.body) (h0 w.params) (h4 w.params) && namesBound PW (h4 w.params) && gensDone (sh h4 754 w os) && laidKept (h0 w.params) (h4 w.params)),
    openSeen VW LS (importedModules PW.main.body) (fun s => xlAt VW [] s && recOk PySem.Challenge.rw_pg0281_01.row.records s) true (sh h4 754 w os), HkO.obs (sh h4 754 w os))) = fun _ => (true, openGood VW LS, HkO.val w) := by
  intro w
  kernel_rfl
theorem hd_left : LeftO PW VW LS (fun s => xlAt VW [] s && recOk PySem.Challenge.rw_pg0281_01.row.records s) HkO.obs HkO.val 3778 :=
  LeftO.of_pieces t_open t_size t_run rfl t_looks
end
section
set_option maxHeartbeats 0
theorem hd_said : PySem.Challenge.rw_pg0281_01.wellSaid = true := by
  unfold OpenLaw.wellSaid OpenRow.wellSaid OpenRow.partSaid looksOpen
  repeat' (with_reducible refine look_both ?_ ?_)
  all_goals decide +kernel
end
section
inductive AV where
  | none
  | bool (b : Bool)
  | int (i : Int)
  | str (x : PySem.Str)
  | tup (xs : List AV)
  | lst (xs : List AV)
  | dct (es : List (PySem.Str × AV))
  | ref (a : Addr)
  | val (v : Value)
  | rng (a b c : Int)

noncomputable abbrev PM := Addr → Option Obj

noncomputable def GObj (a b c : Int) (o : Obj) : Prop := ∃ t u v, o = { cls := .type "range", dict := none, data := .fields #[.int a t, .int b u, .int c v], slots := #[] }
noncomputable def LObj (vs : List Value) (o : Obj) : Prop := ∃ n, o = { cls := .type "list", data := .seq vs.toArray n }
noncomputable def TObj (vs : List Value) (o : Obj) : Prop := ∃ n, o = { cls := .type "tuple", data := .seq vs.toArray n }
noncomputable def DObj (prog : Program) (w : World) (kvs : List (PySem.Str × Value)) (o : Obj) : Prop :=
  o.ExactDict ∧ ∃ es ep, o.data = .dict es ep ∧ KeysOf (PySem.strKind prog w) es ∧ Pairs (PySem.strKind prog w) es.toList kvs ∧ (kvs.map (·.1)).Nodup

structure Cx where
  prog : Program
  w : World
  K : Frag
  H0 : Heap

mutual
inductive VRep (C : Cx) (P : PM) : AV → Value → Prop
  | none : VRep C P .none .none
  | bool {b : Bool} : VRep C P (.bool b) (.bool b)
  | int {i : Int} {t : Tok} : VRep C P (.int i) (.int i t)
  | str {x : PySem.Str} {t : Tok} : VRep C P (.str x) (.str x t)
  | ref {a : Addr} : VRep C P (.ref a) (.ref a)
  | val {v : Value} : VRep C P (.val v) v
  | rng {n : Addr} {o : Obj} {a b c : Int} : P n = some o → GObj a b c o → VRep C P (.rng a b c) (.ref n)
  | tup {a : Addr} {o : Obj} {xs : List AV} {vs : List Value} : P a = some o → TObj vs o → VReps C P xs vs → VRep C P (.tup xs) (.ref a)
  | lst {a : Addr} {o : Obj} {xs : List AV} {vs : List Value} : P a = some o → LObj vs o → VReps C P xs vs → VRep C P (.lst xs) (.ref a)
  | dct {a : Addr} {o : Obj} {es : List (PySem.Str × AV)} {kvs : List (PySem.Str × Value)} : a ≠ 1 → P a = some o → DObj C.prog C.w kvs o → VEnts C P es kvs → VRep C P (.dct es) (.ref a)
inductive VReps (C : Cx) (P : PM) : List AV → List Value → Prop
  | nil : VReps C P [] []
  | cons {x : AV} {v : Value} {xs : List AV} {vs : List Value} : VRep C P x v → VReps C P xs vs → VReps C P (x :: xs) (v :: vs)
inductive VEnts (C : Cx) (P : PM) : List (PySem.Str × AV) → List (PySem.Str × Value) → Prop
  | nil : VEnts C P [] []
  | cons {k : PySem.Str} {x : AV} {v : Value} {es : List (PySem.Str × AV)} {kvs : List (PySem.Str × Value)} : VRep C P x v → VEnts C P es kvs → VEnts C P ((k, x) :: es) ((k, v) :: kvs)
end

section
variable {C : Cx} {P P' : PM}
theorem VReps.ind {motive : List AV → List Value → Prop} (n : motive [] []) (c : ∀ {x v xs vs}, VRep C P x v → VReps C P xs vs → motive xs vs → motive (x :: xs) (v :: vs)) {xs : List AV} {vs : List Value} (h : VReps C P xs vs) : motive xs vs :=
  VReps.rec (motive_1 := fun _ _ _ => True) (motive_2 := fun xs vs _ => motive xs vs) (motive_3 := fun _ _ _ => True) trivial trivial trivial trivial trivial trivial (fun _ _ => trivial) (fun _ _ _ _ => trivial) (fun _ _ _ _ => trivial) (fun _ _ _ _ _ => trivial)
    n (fun h1 h2 _ ih => c h1 h2 ih) trivial (fun _ _ _ _ => trivial) h
theorem VEnts.ind {motive : List (PySem.Str × AV) → List (PySem.Str × Value) → Prop} (n : motive [] []) (c : ∀ {k x v es kvs}, VRep C P x v → VEnts C P es kvs → motive es kvs → motive ((k, x) :: es) ((k, v) :: kvs)) {es : List (PySem.Str × AV)} {kvs : List (PySem.Str × Value)} (h : VEnts C P es kvs) : motive es kvs :=
  VEnts.rec (motive_1 := fun _ _ _ => True) (motive_2 := fun _ _ _ => True) (motive_3 := fun es kvs _ => motive es kvs) trivial trivial trivial trivial trivial trivial (fun _ _ => trivial) (fun _ _ _ _ => trivial) (fun _ _ _ _ => trivial) (fun _ _ _ _ _ => trivial)
    trivial (fun _ _ _ _ => trivial) n (fun h1 h2 _ ih => c h1 h2 ih) h
theorem VRep.mono (hp : ∀ b o, P b = some o → P' b = some o) {x : AV} {v : Value} (h : VRep C P x v) : VRep C P' x v :=
  VRep.rec (motive_1 := fun x v _ => VRep C P' x v) (motive_2 := fun xs vs _ => VReps C P' xs vs) (motive_3 := fun es kvs _ => VEnts C P' es kvs) .none .bool .int .str .ref .val (fun h1 h2 => .rng (hp _ _ h1) h2) (fun h1 h2 _ ih => .tup (hp _ _ h1) h2 ih) (fun h1 h2 _ ih => .lst (hp _ _ h1) h2 ih) (fun h0 h1 h2 _ ih => .dct h0 (hp _ _ h1) h2 ih)
    .nil (fun _ _ i1 i2 => .cons i1 i2) .nil (fun _ _ i1 i2 => .cons i1 i2) h
theorem VReps.mono (hp : ∀ b o, P b = some o → P' b = some o) {xs : List AV} {vs : List Value} (h : VReps C P xs vs) : VReps C P' xs vs := h.ind (motive := fun xs vs => VReps C P' xs vs) .nil fun h1 _ ih => .cons (h1.mono hp) ih
theorem VEnts.mono (hp : ∀ b o, P b = some o → P' b = some o) {es : List (PySem.Str × AV)} {kvs : List (PySem.Str × Value)} (h : VEnts C P es kvs) : VEnts C P' es kvs := h.ind (motive := fun es kvs => VEnts C P' es kvs) .nil fun h1 _ ih => .cons (h1.mono hp) ih
theorem VReps.length {xs : List AV} {vs : List Value} (h : VReps C P xs vs) : xs.length = vs.length := h.ind (motive := fun xs vs => xs.length = vs.length) rfl fun _ _ ih => congrArg Nat.succ ih
theorem VReps.get {xs : List AV} {vs : List Value} (h : VReps C P xs vs) : ∀ {i : Nat} {x : AV}, xs[i]? = some x → ∃ v, vs[i]? = some v ∧ VRep C P x v :=
  h.ind (motive := fun xs vs => ∀ {i : Nat} {x : AV}, xs[i]? = some x → ∃ v, vs[i]? = some v ∧ VRep C P x v) (fun e => nomatch e) fun {y v xs vs} h1 _ ih i x e => by
    cases i with
    | zero => exact ⟨v, rfl, Option.some.inj e ▸ h1⟩
    | succ i => exact ih e
theorem VReps.get' {xs : List AV} {vs : List Value} (h : VReps C P xs vs) : ∀ {i : Nat} {v : Value}, vs[i]? = some v → ∃ x, xs[i]? = some x ∧ VRep C P x v :=
  h.ind (motive := fun xs vs => ∀ {i : Nat} {v : Value}, vs[i]? = some v → ∃ x, xs[i]? = some x ∧ VRep C P x v) (fun e => nomatch e) fun {y v xs vs} h1 _ ih i x e => by
    cases i with
    | zero => exact ⟨y, rfl, Option.some.inj e ▸ h1⟩
    | succ i => exact ih e
theorem VReps.append {xs ys : List AV} {vs us : List Value} (h : VReps C P xs vs) (h' : VReps C P ys us) : VReps C P (xs ++ ys) (vs ++ us) := h.ind (motive := fun xs vs => VReps C P (xs ++ ys) (vs ++ us)) h' fun h1 _ ih => .cons h1 ih
theorem VReps.take {xs : List AV} {vs : List Value} (h : VReps C P xs vs) : ∀ n, VReps C P (xs.take n) (vs.take n) :=
  h.ind (motive := fun xs vs => ∀ n : Nat, VReps C P (xs.take n) (vs.take n)) (fun n => by rw [List.take_nil, List.take_nil]; exact .nil) fun h1 _ ih n => by
    cases n with
    | zero => exact .nil
    | succ n => exact .cons h1 (ih n)
theorem VReps.drop {xs : List AV} {vs : List Value} (h : VReps C P xs vs) : ∀ n, VReps C P (xs.drop n) (vs.drop n) :=
  h.ind (motive := fun xs vs => ∀ n : Nat, VReps C P (xs.drop n) (vs.drop n)) (fun n => by rw [List.drop_nil, List.drop_nil]; exact .nil) fun h1 h2 ih n => by
    cases n with
    | zero => exact .cons h1 h2
    | succ n => exact ih n
theorem VReps.set {xs : List AV} {vs : List Value} (h : VReps C P xs vs) (n : Nat) {x : AV} {v : Value} (hx : VRep C P x v) : VReps C P (xs.set n x) (vs.set n v) :=
  (h.ind (motive := fun xs vs => ∀ n : Nat, VReps C P (xs.set n x) (vs.set n v)) (fun _ => .nil) fun h1 h2 ih n => by
    cases n with
    | zero => exact .cons hx h2
    | succ n => exact .cons h1 (ih n)) n
theorem VEnts.find {es : List (PySem.Str × AV)} {kvs : List (PySem.Str × Value)} (h : VEnts C P es kvs) : ∀ {k : PySem.Str} {x : AV}, es.lookup k = some x → ∃ v, valueAt kvs k = some v ∧ VRep C P x v :=
  h.ind (motive := fun es kvs => ∀ {k : PySem.Str} {x : AV}, es.lookup k = some x → ∃ v, valueAt kvs k = some v ∧ VRep C P x v) (fun e => nomatch e) fun {k' x' v' es kvs} h1 _ ih k x e => by
    rw [List.lookup_cons] at e
    by_cases hk : k = k'
    · subst hk
      rw [beq_self_eq_true] at e
      exact ⟨v', by simp [valueAt], Option.some.inj e ▸ h1⟩
    · rw [beq_eq_false_iff_ne.mpr hk] at e
      refine xe12 (ih e) fun v e1 e2 => ?_
      have hk' : ¬ k' = k := fun z => hk z.symm
      exact ⟨v, by simpa [valueAt, hk'] using e1, e2⟩
theorem VEnts.keys {es : List (PySem.Str × AV)} {kvs : List (PySem.Str × Value)} (h : VEnts C P es kvs) : kvs.map (·.1) = es.map (·.1) := h.ind (motive := fun es kvs => kvs.map (·.1) = es.map (·.1)) rfl fun _ _ ih => congrArg (List.cons _) ih
theorem VRep.int_inv {a : Int} {v : Value} (h : VRep C P (.int a) v) : ∃ t, v = .int a t := by cases h; exact ⟨_, rfl⟩
theorem VRep.str_inv {a : PySem.Str} {v : Value} (h : VRep C P (.str a) v) : ∃ t, v = .str a t := by cases h; exact ⟨_, rfl⟩
theorem VRep.bool_inv {a : Bool} {v : Value} (h : VRep C P (.bool a) v) : v = .bool a := by cases h; rfl
theorem VRep.none_inv {v : Value} (h : VRep C P .none v) : v = .none := by cases h; rfl
theorem VRep.ref_inv {a : Addr} {v : Value} (h : VRep C P (.ref a) v) : v = .ref a := by cases h; rfl
theorem VRep.val_inv {u v : Value} (h : VRep C P (.val u) v) : v = u := by cases h; rfl
theorem VRep.lst_inv {xs : List AV} {v : Value} (h : VRep C P (.lst xs) v) : ∃ a o vs, v = .ref a ∧ P a = some o ∧ LObj vs o ∧ VReps C P xs vs := by cases h with | lst h1 h2 h3 => exact ⟨_, _, _, rfl, h1, h2, h3⟩
theorem VRep.tup_inv {xs : List AV} {v : Value} (h : VRep C P (.tup xs) v) : ∃ a o vs, v = .ref a ∧ P a = some o ∧ TObj vs o ∧ VReps C P xs vs := by cases h with | tup h1 h2 h3 => exact ⟨_, _, _, rfl, h1, h2, h3⟩
theorem VReps.nil_inv {vs : List Value} (h : VReps C P [] vs) : vs = [] := by cases h; rfl
theorem VReps.cons_inv {x : AV} {xs : List AV} {vs : List Value} (h : VReps C P (x :: xs) vs) : ∃ v us, vs = v :: us ∧ VRep C P x v ∧ VReps C P xs us := by cases h with | cons h1 h2 => exact ⟨_, _, rfl, h1, h2⟩
theorem VReps.one_inv {x : AV} {vs : List Value} (h : VReps C P [x] vs) : ∃ v, vs = [v] ∧ VRep C P x v := by
  refine xe23 h.cons_inv fun v us qe0 h1 h2 => ?_; subst qe0
  obtain rfl := h2.nil_inv
  exact ⟨v, rfl, h1⟩
theorem VReps.two_inv {x y : AV} {vs : List Value} (h : VReps C P [x, y] vs) : ∃ v u, vs = [v, u] ∧ VRep C P x v ∧ VRep C P y u := by
  refine xe23 h.cons_inv fun v us qe0 h1 h2 => ?_; subst qe0
  refine xe12 h2.one_inv fun u qe0 h3 => ?_; subst qe0
  exact ⟨v, u, rfl, h1, h3⟩
theorem VEnts.nil_inv {kvs : List (PySem.Str × Value)} (h : VEnts C P [] kvs) : kvs = [] := by cases h; rfl
end

inductive AO where
  | list (xs : List AV)
  | dict (es : List (PySem.Str × AV))
  | idict (es : List (PySem.Str × AV))
  | cell (x : Option AV)
  | raw (o : Obj)

theorem keysN {α : Type} {P : List (PySem.Str × α) → Prop} (h : P []) : ∀ cel : List (PySem.Str × α), cel.map (·.1) = [] → P cel := fun cel e => (List.map_eq_nil_iff.mp e) ▸ h
theorem keysC {α : Type} {P : List (PySem.Str × α) → Prop} {c : PySem.Str} {r : List PySem.Str} (k : ∀ (a : α) (l : List (PySem.Str × α)), l.map (·.1) = r → P ((c, a) :: l)) (cel : List (PySem.Str × α)) (e : cel.map (·.1) = c :: r) : P cel := by
  obtain ⟨⟨d, a⟩, l, rfl, e1, e2⟩ := List.map_eq_cons_iff.mp e
  cases e1
  exact k a l e2
noncomputable def asI (f : Int → Option AV) : AV → Option AV
  | .int k => f k
  | _ => none
noncomputable def asS (f : PySem.Str → Option AV) : AV → Option AV
  | .str k => f k
  | _ => none
noncomputable def asL (f : List AV → Option AV) : AV → Option AV
  | .lst k => f k
  | _ => none
noncomputable def asT (f : PySem.Str → PySem.Str → Option AV) : AV → Option AV
  | .tup [.str a, .str b] => f a b
  | _ => none
theorem asI_e {f : Int → Option AV} {k : Int} : asI f (.int k) = f k := rfl
theorem asS_e {f : PySem.Str → Option AV} {k : PySem.Str} : asS f (.str k) = f k := rfl
theorem asL_e {f : List AV → Option AV} {k : List AV} : asL f (.lst k) = f k := rfl
theorem asT_e {f : PySem.Str → PySem.Str → Option AV} {a b : PySem.Str} : asT f (.tup [.str a, .str b]) = f a b := rfl
noncomputable abbrev St := List (Addr × AO)
noncomputable def adr (st : St) : List Addr := st.map (·.1)

inductive ORep (C : Cx) (P : PM) : AO → Obj → Prop
  | list {xs : List AV} {vs : List Value} {o : Obj} : LObj vs o → VReps C P xs vs → ORep C P (.list xs) o
  | dict {es : List (PySem.Str × AV)} {kvs : List (PySem.Str × Value)} {o : Obj} : DObj C.prog C.w kvs o → VEnts C P es kvs → ORep C P (.dict es) o
  | idict {es : List (PySem.Str × AV)} {des : Array DictEntry} {ep : Nat} {o : Obj} : o.data = .dict des ep → StrKeys des → des.size ≤ es.length → (∀ x y, es.lookup x = some y → ∃ v, nsFind des x = some v ∧ VRep C P y v) → (∀ x, es.lookup x = none → nsFind des x = none) → ORep C P (.idict es) o
  | cell0 {o : Obj} : o.data = .cell none → ORep C P (.cell none) o
  | cell {x : AV} {v : Value} {o : Obj} : o.data = .cell (some v) → VRep C P x v → ORep C P (.cell (some x)) o
  | raw {o : Obj} : ORep C P (.raw o) o
theorem ORep.mono {C : Cx} {P P' : PM} (hp : ∀ b o, P b = some o → P' b = some o) {x : AO} {o : Obj} (h : ORep C P x o) : ORep C P' x o := by
  cases h with
  | list h1 h2 => exact .list h1 (h2.mono hp)
  | dict h1 h2 => exact .dict h1 (h2.mono hp)
  | idict h1 h2 hz h3 h4 => exact .idict h1 h2 hz (fun x y e => let ⟨v, e1, e2⟩ := h3 x y e; ⟨v, e1, e2.mono hp⟩) h4
  | cell0 h => exact .cell0 h
  | cell h1 h2 => exact .cell h1 (h2.mono hp)
  | raw => exact .raw

theorem ORep.list_inv {C : Cx} {P : PM} {xs : List AV} {o : Obj} (h : ORep C P (.list xs) o) : ∃ vs, LObj vs o ∧ VReps C P xs vs := by cases h with | list h1 h2 => exact ⟨_, h1, h2⟩
structure Rp (C : Cx) (P : PM) (st : St) (h : Heap) : Prop where
  base : ∀ b o, C.H0.get? b = some o → P b = some o
  keep : ∀ b o, P b = some o → h.get? b = some o
  nd : (adr st).Nodup
  own : ∀ x ∈ st, P x.1 = none ∧ ∃ o, h.get? x.1 = some o ∧ ORep C P x.2 o
  one : 1 ∉ adr st ∧ ∃ b, 1 < b ∧ P b ≠ none
theorem Rp.big {C : Cx} {P : PM} {st : St} {h : Heap} (R : Rp C P st h) : 1 < h.objs.size := by
  refine xe12 R.one.2 fun b h1 h2 => ?_
  refine xe11 (Option.ne_none_iff_exists'.mp h2) fun o e => ?_
  exact Nat.lt_trans h1 (Heap.lt_size (R.keep b o e))
theorem Rp.one_up {C : Cx} {P P' : PM} {st st' : St} {h : Heap} (R : Rp C P st h) (hp : ∀ b o, P b = some o → P' b = some o) (ha : ∀ b ∈ adr st', b ∈ adr st) : 1 ∉ adr st' ∧ ∃ b, 1 < b ∧ P' b ≠ none :=
  ⟨fun hm => R.one.1 (ha _ hm), let ⟨b, h1, h2⟩ := R.one.2; ⟨b, h1, fun e => h2 (by cases q : P b with | none => rfl | some o => rw [hp b o q] at e; cases e)⟩⟩

structure Step (P P' : PM) (st st' : St) (h h' : Heap) : Prop where
  p : ∀ b o, P b = some o → P' b = some o
  p' : ∀ b, P' b ≠ none → P b ≠ none ∨ h.get? b = none ∨ b ∈ adr st
  sb : ∀ b ∈ adr st', b ∈ adr st ∨ h.get? b = none
  keep : ∀ b o, h.get? b = some o → b ∉ adr st → h'.get? b = some o

theorem Step.refl (P : PM) (st : St) (h : Heap) : Step P P st st h h := ⟨fun _ _ e => e, fun _ e => .inl e, fun _ e => .inl e, fun _ _ e _ => e⟩
theorem Step.trans {P P' P'' : PM} {st st' st'' : St} {h h' h'' : Heap} (a : Step P P' st st' h h') (b : Step P' P'' st' st'' h' h'') : Step P P'' st st'' h h'' := by
  have key : ∀ x, h'.get? x = none → h.get? x = none ∨ x ∈ adr st := fun x e => by
    cases q : h.get? x with
    | none => exact .inl rfl
    | some o =>
      by_cases hx : x ∈ adr st
      · exact .inr hx
      · rw [a.keep x o q hx] at e; cases e
  refine ⟨fun x o e => b.p x o (a.p x o e), fun x e => ?_, fun x e => ?_, fun x o e hx => ?_⟩
  · rcases b.p' x e with q | q | q
    · exact a.p' x q
    · rcases key x q with z | z
      · exact .inr (.inl z)
      · exact .inr (.inr z)
    · rcases a.sb x q with z | z
      · exact .inr (.inr z)
      · exact .inr (.inl z)
  · rcases b.sb x e with q | q
    · exact a.sb x q
    · exact (key x q).symm
  · refine b.keep x o (a.keep x o e hx) fun hx' => ?_
    rcases a.sb x hx' with z | z
    · exact hx z
    · rw [e] at z; cases z

structure AOk (lv : Nat) (A : Around) : Prop where
  handled : A.handled = none
  depth : A.depth + 10 * lv ≤ 900
  units : A.units + 50 * lv ≤ 9000
theorem AOk.room {lv : Nat} {A : Around} (a : AOk lv A) : A.depth < recursionLimit := by have := a.depth; refine (?_ : _ < 1000); lia
theorem AOk.cl {lv : Nat} {A : Around} (a : AOk lv A) : A.units < cLine := by have := a.units; refine (?_ : _ < 9900); lia

structure EOk (sc : Scope) (cel : List (PySem.Str × Addr)) (env : Env) : Prop where
  scope : env.scope = sc
  cells : env.cells = cel
  globals : env.globals = mainGlobals
  builtins : env.builtins = builtinsNs
  kind : sc.kind = .function

noncomputable abbrev Locs := List (PySem.Str × AV)

structure FRp (C : Cx) (P : PM) (loc : Locs) (env : Env) (st : St) (h : Heap) : Prop where
  ns : ∃ m, h.Ns env.locals m ∧ ∀ x y, loc.lookup x = some y → ∃ v, m x = some v ∧ VRep C P y v
  off : P env.locals = none ∧ env.locals ∉ adr st

theorem FRp.step {C : Cx} {P P' : PM} {loc : Locs} {env : Env} {st st' : St} {h h' : Heap} (F : FRp C P loc env st h) (S : Step P P' st st' h h') : FRp C P' loc env st' h' := by
  obtain ⟨⟨m, hn, hm⟩, hp, ho⟩ := F
  refine xe32 (id hn) fun o es ep e r => ?_
  refine ⟨⟨m, ⟨o, es, ep, S.keep _ _ e ho, r⟩, fun x y q => let ⟨v, e1, e2⟩ := hm x y q; ⟨v, e1, e2.mono S.p⟩⟩, ?_, fun q => ?_⟩
  · cases z : P' env.locals with
    | none => rfl
    | some o' =>
      rcases S.p' env.locals (by rw [z]; simp) with q | q | q
      · exact absurd hp q
      · rw [e] at q; cases q
      · exact absurd q ho
  · rcases S.sb _ q with z | z
    · exact ho z
    · rw [e] at z; cases z

section
variable (C : Cx)
noncomputable def Ev (lv : Nat) (sc : Scope) (cel : List (PySem.Str × Addr)) (loc : Locs) (e : Expr) (st : St) (Post : AV → St → Prop) : Prop :=
  ∀ (P : PM) (A : Around) (env : Env) (s : Shared) (Q : Value → Shared → Prop) (E : Value → Shared → Prop),
    AOk lv A → EOk sc cel env → Rp C P st s.heap → FRp C P loc env st s.heap →
    (∀ P' x v st' h' k, Post x st' → Step P P' st st' s.heap h' → Rp C P' st' h' → VRep C P' x v → Q v { s with heap := h', toks := k }) →
    wpAny (model C.prog C.w) A (eval e env) Q E s
noncomputable def Evs (lv : Nat) (sc : Scope) (cel : List (PySem.Str × Addr)) (loc : Locs) (es : List Expr) (st : St) (Post : List AV → St → Prop) : Prop :=
  match es with
  | [] => Post [] st
  | e :: r => Ev C lv sc cel loc e st fun x st₁ => Evs lv sc cel loc r st₁ fun xs st₂ => Post (x :: xs) st₂
noncomputable def Tr (lv : Nat) (sc : Scope) (cel : List (PySem.Str × Addr)) (loc : Locs) (e : Expr) (st : St) (Post : Bool → St → Prop) : Prop :=
  ∀ (P : PM) (A : Around) (env : Env) (s : Shared) (Q : Bool → Shared → Prop) (E : Value → Shared → Prop),
    AOk lv A → EOk sc cel env → Rp C P st s.heap → FRp C P loc env st s.heap →
    (∀ P' b st' h' k, Post b st' → Step P P' st st' s.heap h' → Rp C P' st' h' → Q b { s with heap := h', toks := k }) →
    wpAny (model C.prog C.w) A (isTrue e env (eval e env)) Q E s
inductive Fl where
  | next | brk | cont
  | ret (x : AV)
inductive FlRep (P : PM) : Fl → Flow → Prop
  | next : FlRep P .next .next
  | brk : FlRep P .brk .brk
  | cont : FlRep P .cont .cont
  | ret {x : AV} {v : Value} : VRep C P x v → FlRep P (.ret x) (.ret v)
structure StepX (L : Addr) (P P' : PM) (st st' : St) (h h' : Heap) : Prop where
  p : ∀ b o, P b = some o → P' b = some o
  p' : ∀ b, P' b ≠ none → P b ≠ none ∨ h.get? b = none ∨ b ∈ adr st
  sb : ∀ b ∈ adr st', b ∈ adr st ∨ h.get? b = none
  keep : ∀ b o, h.get? b = some o → b ∉ adr st → b ≠ L → h'.get? b = some o
noncomputable def Ex (lv : Nat) (sc : Scope) (cel : List (PySem.Str × Addr)) (loc : Locs) (ss : List Stmt) (st : St) (Post : Fl → Locs → St → Prop) : Prop :=
  ∀ (P : PM) (A : Around) (env : Env) (s : Shared) (Q : Flow → Shared → Prop) (E : Value → Shared → Prop),
    AOk lv A → EOk sc cel env → Rp C P st s.heap → FRp C P loc env st s.heap →
    (∀ P' f fl loc' st' h' k, Post f loc' st' → StepX env.locals P P' st st' s.heap h' → Rp C P' st' h' → FRp C P' loc' env st' h' → FlRep C P' f fl → Q fl { s with heap := h', toks := k }) →
    wpAny (model C.prog C.w) A (execs ss env) Q E s
noncomputable def Ex1 (lv : Nat) (sc : Scope) (cel : List (PySem.Str × Addr)) (loc : Locs) (t : Stmt) (st : St) (Post : Fl → Locs → St → Prop) : Prop :=
  ∀ (P : PM) (A : Around) (env : Env) (s : Shared) (Q : Flow → Shared → Prop) (E : Value → Shared → Prop),
    AOk lv A → EOk sc cel env → Rp C P st s.heap → FRp C P loc env st s.heap →
    (∀ P' f fl loc' st' h' k, Post f loc' st' → StepX env.locals P P' st st' s.heap h' → Rp C P' st' h' → FRp C P' loc' env st' h' → FlRep C P' f fl → Q fl { s with heap := h', toks := k }) →
    wpAny (model C.prog C.w) A (exec t env) Q E s
noncomputable def Fn (lv : Nat) (f : Value) (args : List AV) (kw : List (PySem.Str × AV)) (st : St) (Post : AV → St → Prop) : Prop :=
  ∀ (P : PM) (A : Around) (s : Shared) (vs : List Value) (kvs : List (PySem.Str × Value)) (R : Result → Shared → Prop),
    AOk lv A → Rp C P st s.heap → VReps C P args vs → VEnts C P kw kvs →
    (∀ P' x v st' h' k, Post x st' → Step P P' st st' s.heap h' → Rp C P' st' h' → VRep C P' x v → R (.ok (.ret v)) { s with heap := h', toks := k }) →
    codeAny (model C.prog C.w) A (.call f ⟨vs, kvs⟩) R s
noncomputable def Cl (lv : Nat) (f : Value) (args : List AV) (kw : List (PySem.Str × AV)) (st : St) (Post : AV → St → Prop) : Prop :=
  ∀ (P : PM) (A : Around) (s : Shared) (vs : List Value) (kvs : List (PySem.Str × Value)) (Q : Value → Shared → Prop) (E : Value → Shared → Prop),
    AOk lv A → Rp C P st s.heap → VReps C P args vs → VEnts C P kw kvs →
    (∀ P' x v st' h' k, Post x st' → Step P P' st st' s.heap h' → Rp C P' st' h' → VRep C P' x v → Q v { s with heap := h', toks := k }) →
    wpAny (model C.prog C.w) A (call f vs kvs) Q E s
end
theorem Fn.cl {C : Cx} {lv : Nat} {f : Value} {args : List AV} {kw : List (PySem.Str × AV)} {st : St} {Post : AV → St → Prop} (h : Fn C lv f args kw st Post) : Cl C lv f args kw st Post :=
  fun P A s vs kvs Q E a R hv hk k => wpAny_call (h P A s vs kvs _ a R hv hk fun P' x v st' h' tk hx S R' hr => k P' x v st' h' tk hx S R' hr)
end
section
variable {C : Cx} {lv : Nat} {sc : Scope} {cel : List (PySem.Str × Addr)} {loc : Locs} {st : St}

structure Gd (C : Cx) : Prop where
  kin : C.K.In C.H0
  g : ∃ mg, C.H0.Ns mainGlobals mg
  b : ∃ mb, C.H0.Ns builtinsNs mb ∧ ∀ x : PySem.Str, x ≠ "__name__" → mb x = bootBuiltins x
  nolimit : C.H0.NoLimit

theorem Rp.h0 {P : PM} {h : Heap} (R : Rp C P st h) : ∀ b o, C.H0.get? b = some o → h.get? b = some o := fun b o e => R.keep b o (R.base b o e)
theorem Rp.at {P : PM} {h : Heap} (R : Rp C P st h) {a : Addr} {x : AO} (hm : (a, x) ∈ st) : ∃ o, h.get? a = some o ∧ ORep C P x o := (R.own _ hm).2
theorem Step.toX {P P' : PM} {st st' : St} {h h' : Heap} (S : Step P P' st st' h h') (L : Addr) : StepX L P P' st st' h h' := ⟨S.p, S.p', S.sb, fun b o e hb _ => S.keep b o e hb⟩
theorem StepX.trans {L : Addr} {P P' P'' : PM} {st st' st'' : St} {h h' h'' : Heap} (a : StepX L P P' st st' h h') (hL : h'.get? L ≠ none) (b : StepX L P' P'' st' st'' h' h'') : StepX L P P'' st st'' h h'' := by
  have key : ∀ x, x ≠ L → h'.get? x = none → h.get? x = none ∨ x ∈ adr st := fun x hne e => by
    cases q : h.get? x with
    | none => exact .inl rfl
    | some o =>
      by_cases hx : x ∈ adr st
      · exact .inr hx
      · rw [a.keep x o q hx hne] at e; cases e
  have ne : ∀ x, h'.get? x = none → x ≠ L := fun x e z => hL (z ▸ e)
  refine ⟨fun x o e => b.p x o (a.p x o e), fun x e => ?_, fun x e => ?_, fun x o e hx hl => ?_⟩
  · rcases b.p' x e with q | q | q
    · exact a.p' x q
    · rcases key x (ne x q) q with z | z
      · exact .inr (.inl z)
      · exact .inr (.inr z)
    · rcases a.sb x q with z | z
      · exact .inr (.inr z)
      · exact .inr (.inl z)
  · rcases b.sb x e with q | q
    · exact a.sb x q
    · exact (key x (ne x q) q).symm
  · refine b.keep x o (a.keep x o e hx hl) (fun hx' => ?_) hl
    rcases a.sb x hx' with z | z
    · exact hx z
    · rw [e] at z; cases z
theorem FRp.lives {P : PM} {env : Env} {h : Heap} (F : FRp C P loc env st h) : h.get? env.locals ≠ none := by
  obtain ⟨⟨m, ⟨o, _, _, e, _⟩, _⟩, _⟩ := F
  rw [e]; simp

theorem Ev.mono {e : Expr} {Post Post' : AV → St → Prop} (h : Ev C lv sc cel loc e st Post) (hp : ∀ x s, Post x s → Post' x s) : Ev C lv sc cel loc e st Post' :=
  fun P A env s Q E a en R F k => h P A env s Q E a en R F fun P' x v st' h' tk hx => k P' x v st' h' tk (hp _ _ hx)
theorem Fn.mono {f : Value} {args : List AV} {kw : List (PySem.Str × AV)} {Post Post' : AV → St → Prop} (h : Fn C lv f args kw st Post) (hp : ∀ x s, Post x s → Post' x s) : Fn C lv f args kw st Post' :=
  fun P A s vs kvs R a rp hv hk k => h P A s vs kvs R a rp hv hk fun P' x v st' h' tk hx => k P' x v st' h' tk (hp _ _ hx)
theorem Tr.mono {e : Expr} {Post Post' : Bool → St → Prop} (h : Tr C lv sc cel loc e st Post) (hp : ∀ b s, Post b s → Post' b s) : Tr C lv sc cel loc e st Post' :=
  fun P A env s Q E a en R F k => h P A env s Q E a en R F fun P' x st' h' tk hx => k P' x st' h' tk (hp _ _ hx)

theorem Ev.pureV {e : Expr} {x : AV} {Post : AV → St → Prop} (hp : Post x st)
    (h : ∀ (P : PM) (A : Around) (env : Env) (s : Shared) (Q : Value → Shared → Prop) (E : Value → Shared → Prop), AOk lv A → EOk sc cel env → Rp C P st s.heap → FRp C P loc env st s.heap →
      (∀ v k, VRep C P x v → Q v { s with toks := k }) → wpAny (model C.prog C.w) A (eval e env) Q E s) : Ev C lv sc cel loc e st Post :=
  fun P A env s Q E a en R F k => h P A env s Q E a en R F fun v tk hv => k P x v st s.heap tk hp (Step.refl ..) R hv

theorem Ev.int {i : Int} {kd : Nat} {p : Pos} {Post : AV → St → Prop} (hp : Post (.int i) st) : Ev C lv sc cel loc (.Constant (.int i) kd p) st Post :=
  Ev.pureV hp fun P A env s Q E a en R F k => wpAny_Constant_int (k _ _ .int)
theorem Ev.str {x : PySem.Str} {kd : Nat} {p : Pos} {Post : AV → St → Prop} (hp : Post (.str x) st) : Ev C lv sc cel loc (.Constant (.str x) kd p) st Post :=
  Ev.pureV hp fun P A env s Q E a en R F k => wpAny_Constant_str (k _ _ .str)
theorem Ev.bool {b : Bool} {kd : Nat} {p : Pos} {Post : AV → St → Prop} (hp : Post (.bool b) st) : Ev C lv sc cel loc (.Constant (.bool b) kd p) st Post :=
  Ev.pureV hp fun P A env s Q E a en R F k => wpAny_Constant_bool (k _ s.toks .bool)
theorem Ev.none {kd : Nat} {p : Pos} {Post : AV → St → Prop} (hp : Post .none st) : Ev C lv sc cel loc (.Constant .none kd p) st Post :=
  Ev.pureV hp fun P A env s Q E a en R F k => wpAny_Constant_none (k _ s.toks .none)

theorem Ev.lc {x : PySem.Str} {y : AV} {p : Pos} {Post : AV → St → Prop} (hs : sc.names.lookup x = some .local) (hl : loc.lookup x = some y) (hp : Post y st) (hd : (x == ("__debug__" : PySem.Str)) = false) :
    Ev C lv sc cel loc (.Name x p) st Post :=
  Ev.pureV hp fun P A env s Q E a en R F k => by
    obtain ⟨⟨m, hn, hm⟩, _⟩ := F
    refine xe12 (hm x y hl) fun v e1 e2 => ?_
    exact wpAny_Name (wpAny_loadName_local (by rw [en.scope]; exact en.kind) (by rw [Env.kindOf, en.scope]; exact hs) hn e1 (k v s.toks e2)) hd

theorem Ev.ce {x : PySem.Str} {y : AV} {a : Addr} {p : Pos} {Post : AV → St → Prop} (hs : sc.names.lookup x = some .cell) (hc : cel.lookup x = some a) (hm : (a, AO.cell (some y)) ∈ st) (hp : Post y st) (hd : (x == ("__debug__" : PySem.Str)) = false) :
    Ev C lv sc cel loc (.Name x p) st Post :=
  Ev.pureV hp fun P A env s Q E a' en R F k => by
    refine xe12 (R.at hm) fun o ho hr => ?_
    cases hr with
    | cell hd hv => exact wpAny_Name (wpAny_loadName_cell (by rw [en.scope]; exact en.kind) (by rw [Env.kindOf, en.scope]; exact hs) (by rw [en.cells]; exact hc) ⟨o, ho, hd⟩ (k _ s.toks hv)) (by assumption)
theorem Ev.free {x : PySem.Str} {y : AV} {a : Addr} {p : Pos} {Post : AV → St → Prop} (hs : sc.names.lookup x = some .free) (hc : cel.lookup x = some a) (hm : (a, AO.cell (some y)) ∈ st) (hp : Post y st) (hd : (x == ("__debug__" : PySem.Str)) = false) (hn : (x == ("__classdict__" : PySem.Str)) = false) :
    Ev C lv sc cel loc (.Name x p) st Post :=
  Ev.pureV hp fun P A env s Q E a' en R F k => by
    refine xe12 (R.at hm) fun o ho hr => ?_
    cases hr with
    | cell hd hv => exact wpAny_Name (wpAny_loadName_free (by rw [en.scope]; exact en.kind) (by rw [Env.kindOf, en.scope]; exact hs) (by rw [en.cells]; exact hc) ⟨o, ho, hd⟩ (k _ s.toks hv) hn) (by assumption)

theorem Ev.glob {x : PySem.Str} {v : Value} {p : Pos} {Post : AV → St → Prop} (G : Gd C) (hs : sc.names.lookup x = some .globalImplicit) (hk : nsIn C.K mainGlobals x = some (some v)) (hp : Post (.val v) st) (hd : (x == ("__debug__" : PySem.Str)) = false) :
    Ev C lv sc cel loc (.Name x p) st Post :=
  Ev.pureV hp fun P A env s Q E a en R F k => by
    refine xe11 G.g fun mg hg => ?_
    have e := mg_of G.kin hg hk
    refine Calls.Name_function_global (by rw [en.scope]; exact en.kind) (by rw [Env.kindOf, en.scope]; exact hs) (Calls.loadGlobal_global (by rw [en.globals]; exact hg.keeps R.h0) e (k v s.toks .val)) hd
theorem Ev.built {x : PySem.Str} {v : Value} {p : Pos} {Post : AV → St → Prop} (G : Gd C) (hs : sc.names.lookup x = some .globalImplicit) (hk : nsIn C.K mainGlobals x = some .none) (hb : bootBuiltins x = some v) (hp : Post (.val v) st) (hn : x ≠ "__name__") (hd : (x == ("__debug__" : PySem.Str)) = false) :
    Ev C lv sc cel loc (.Name x p) st Post :=
  Ev.pureV hp fun P A env s Q E a en R F k => by
    refine xe11 G.g fun mg hg => ?_
    refine xe12 G.b fun mb hb1 hb2 => ?_
    have e := mg_none_of G.kin hg hk
    refine Calls.Name_function_global (by rw [en.scope]; exact en.kind) (by rw [Env.kindOf, en.scope]; exact hs) (Calls.loadGlobal_builtin (by rw [en.globals]; exact hg.keeps R.h0) e (by rw [en.builtins]; exact hb1.keeps R.h0) ((hb2 x hn).trans hb) (k v s.toks .val)) hd

noncomputable def Op2 (C : Cx) (lv : Nat) (m : Value → Value → Sem Value) (x y : AV) (st : St) (Post : AV → St → Prop) : Prop :=
  ∀ (P : PM) (A : Around) (s : Shared) (u v : Value) (Q : Value → Shared → Prop) (E : Value → Shared → Prop), AOk lv A → Rp C P st s.heap → VRep C P x u → VRep C P y v →
    (∀ P' z r st' h' k, Post z st' → Step P P' st st' s.heap h' → Rp C P' st' h' → VRep C P' z r → Q r { s with heap := h', toks := k }) → wpAny (model C.prog C.w) A (m u v) Q E s
noncomputable abbrev op2L (C : Cx) (lv : Nat) (m : Value → Value → Sem Value) (Post : AV → St → Prop) (x : AV) : AV → St → Prop := fun y st₂ => Op2 C lv m x y st₂ Post
noncomputable abbrev op2K (C : Cx) (lv : Nat) (sc : Scope) (cel : List (PySem.Str × Addr)) (loc : Locs) (r : Expr) (m : Value → Value → Sem Value) (Post : AV → St → Prop) : AV → St → Prop := fun x st₁ => Ev C lv sc cel loc r st₁ (op2L C lv m Post x)
noncomputable abbrev boolK (Post : Bool → St → Prop) : AV → St → Prop := fun z st => ∃ b, z = .bool b ∧ Post b st
theorem boolI {Post : Bool → St → Prop} {b : Bool} (h : Post b st) : boolK Post (.bool b) st := ⟨b, rfl, h⟩
noncomputable abbrev nxtK (Post : Fl → Locs → St → Prop) : Locs → St → Prop := fun l s => Post .next l s
noncomputable abbrev rtK (loc : Locs) (Post : Fl → Locs → St → Prop) : AV → St → Prop := fun x s => Post (.ret x) loc s
theorem Op2.pureV {m : Value → Value → Sem Value} {x y z : AV} {Post : AV → St → Prop} (hp : Post z st)
    (h : ∀ (P : PM) (A : Around) (s : Shared) (u v : Value) (Q : Value → Shared → Prop) (E : Value → Shared → Prop), AOk lv A → Rp C P st s.heap → VRep C P x u → VRep C P y v →
      (∀ r k, VRep C P z r → Q r { s with toks := k }) → wpAny (model C.prog C.w) A (m u v) Q E s) : Op2 C lv m x y st Post :=
  fun P A s u v Q E a R hu hv k => h P A s u v Q E a R hu hv fun r tk hr => k P z r st s.heap tk hp (Step.refl ..) R hr

theorem Op2.pureII {m : Value → Value → Sem Value} {a b : Int} {z : AV} {Post : AV → St → Prop} (hp : Post z st)
    (h : ∀ (P : PM) (A : Around) (s : Shared) (t t' : Tok) (Q : Value → Shared → Prop) (E : Value → Shared → Prop), AOk lv A → (∀ r k, VRep C P z r → Q r { s with toks := k }) → wpAny (model C.prog C.w) A (m (.int a t) (.int b t')) Q E s) : Op2 C lv m (.int a) (.int b) st Post :=
  Op2.pureV hp fun P A s u v Q E ao R hu hv k => by
    refine xe11 hu.int_inv fun t qe0 => ?_; subst qe0
    refine xe11 hv.int_inv fun t' qe0 => ?_; subst qe0
    exact h P A s t t' Q E ao k
theorem Op2.pureSS {m : Value → Value → Sem Value} {a b : PySem.Str} {z : AV} {Post : AV → St → Prop} (hp : Post z st)
    (h : ∀ (P : PM) (A : Around) (s : Shared) (t t' : Tok) (Q : Value → Shared → Prop) (E : Value → Shared → Prop), AOk lv A → (∀ r k, VRep C P z r → Q r { s with toks := k }) → wpAny (model C.prog C.w) A (m (.str a t) (.str b t')) Q E s) : Op2 C lv m (.str a) (.str b) st Post :=
  Op2.pureV hp fun P A s u v Q E ao R hu hv k => by
    refine xe11 hu.str_inv fun t qe0 => ?_; subst qe0
    refine xe11 hv.str_inv fun t' qe0 => ?_; subst qe0
    exact h P A s t t' Q E ao k

theorem Ev.bin {l r : Expr} {op : Operator} {p : Pos} {Post : AV → St → Prop} (h : Ev C lv sc cel loc l st (op2K C lv sc cel loc r (binaryOp op) Post)) :
    Ev C lv sc cel loc (.BinOp l op r p) st Post := fun P A env s Q E a en R F k => by
  refine wpAny_BinOp (h P A env s _ E a en R F fun P₁ x u st₁ h₁ k₁ hx S₁ R₁ hu => ?_)
  refine hx P₁ A env _ _ E a en R₁ (F.step S₁) fun P₂ y v st₂ h₂ k₂ hy S₂ R₂ hv => ?_
  exact hy P₂ A _ u v Q E a R₂ (hu.mono S₂.p) hv fun P₃ z r st₃ h₃ k₃ hz S₃ R₃ hr => k P₃ z r st₃ h₃ k₃ hz ((S₁.trans S₂).trans S₃) R₃ hr

theorem Op2.addI {a b : Int} {Post : AV → St → Prop} (hp : Post (.int (a + b)) st) : Op2 C lv (binaryOp .Add) (.int a) (.int b) st Post :=
  Op2.pureII hp fun P A s _ _ Q E _ k => PyProof.Rows.add_int (k _ _ .int)
theorem Op2.subI {a b : Int} {Post : AV → St → Prop} (hp : Post (.int (a - b)) st) : Op2 C lv (binaryOp .Sub) (.int a) (.int b) st Post :=
  Op2.pureII hp fun P A s _ _ Q E _ k => PyProof.Rows.sub_int (k _ _ .int)
theorem Op2.mulI {a b : Int} {Post : AV → St → Prop} (hm : IntMulOk a b) (hp : Post (.int (a * b)) st) : Op2 C lv (binaryOp .Mult) (.int a) (.int b) st Post :=
  Op2.pureII hp fun P A s _ _ Q E _ k => PyProof.Rows.mul_int (k _ _ .int) hm
theorem Op2.modI {a b : Int} {Post : AV → St → Prop} (hb : b ≠ 0) (hp : Post (.int (a.fmod b)) st) : Op2 C lv (binaryOp .Mod) (.int a) (.int b) st Post :=
  Op2.pureII hp fun P A s _ _ Q E _ k => PyProof.Rows.mod_int' hb (k _ _ .int)
theorem Op2.divI {a b : Int} {Post : AV → St → Prop} (hb : b ≠ 0) (hg : Builtin.divisionGoesByPylong a b = false) (hp : Post (.int (a.fdiv b)) st) : Op2 C lv (binaryOp .FloorDiv) (.int a) (.int b) st Post :=
  Op2.pureII hp fun P A s _ _ Q E _ k => PyProof.Rows.floordiv_int hb (k _ _ .int) (.inl hg)
theorem Op2.shrI {a b : Int} {Post : AV → St → Prop} (hb : 0 ≤ b) (hp : Post (.int (a.fdiv (2 ^ b.toNat))) st) : Op2 C lv (binaryOp .RShift) (.int a) (.int b) st Post :=
  Op2.pureII hp fun P A s _ _ Q E _ k => PyProof.Rows.rshift_int hb (k _ _ .int)

theorem Ev.cmp {l r : Expr} {op : CmpOp} {p : Pos} {Post : AV → St → Prop} (hm : behindInMarks op r = false) (h : Ev C lv sc cel loc l st (op2K C lv sc cel loc r (compareOp op) Post)) :
    Ev C lv sc cel loc (.Compare l [op] [r] p) st Post := fun P A env s Q E a en R F k => by
  refine wpAny_Compare1 (h P A env s _ E a en R F fun P₁ x u st₁ h₁ k₁ hx S₁ R₁ hu => ?_) hm
  refine hx P₁ A env _ _ E a en R₁ (F.step S₁) fun P₂ y v st₂ h₂ k₂ hy S₂ R₂ hv => ?_
  exact hy P₂ A _ u v Q E a R₂ (hu.mono S₂.p) hv fun P₃ z r st₃ h₃ k₃ hz S₃ R₃ hr => k P₃ z r st₃ h₃ k₃ hz ((S₁.trans S₂).trans S₃) R₃ hr

theorem Tr.cmp {l r : Expr} {op : CmpOp} {p : Pos} {Post : Bool → St → Prop} (hm : behindInMarks op r = false)
    (h : Ev C lv sc cel loc l st (op2K C lv sc cel loc r (compareOp op) (boolK Post))) :
    Tr C lv sc cel loc (.Compare l [op] [r] p) st Post := fun P A env s Q E a en R F k => by
  refine wpAny_isTrue_Compare1 (h P A env s _ E a en R F fun P₁ x u st₁ h₁ k₁ hx S₁ R₁ hu => ?_) hm
  refine hx P₁ A env _ _ E a en R₁ (F.step S₁) fun P₂ y v st₂ h₂ k₂ hy S₂ R₂ hv => ?_
  refine hy P₂ A _ u v _ E a R₂ (hu.mono S₂.p) hv fun P₃ z r st₃ h₃ k₃ hz S₃ R₃ hr => ?_
  refine xe12 hz fun b qe0 hb => ?_; clear hz; subst qe0
  cases hr
  exact wpAny_truthy_bool (k P₃ b st₃ h₃ k₃ hb ((S₁.trans S₂).trans S₃) R₃)
theorem Tr.not {x : Expr} {p : Pos} {Post : Bool → St → Prop} (h : Tr C lv sc cel loc x st fun b st₁ => Post (!b) st₁) : Tr C lv sc cel loc (.UnaryOp .Not x p) st Post := fun P A env s Q E a en R F k =>
  wpAny_isTrue_Not (h P A env s _ E a en R F fun P' b st' h' tk hb S R' => k P' (!b) st' h' tk hb S R')

theorem Ex.nil {Post : Fl → Locs → St → Prop} (hp : Post .next loc st) : Ex C lv sc cel loc [] st Post := fun P A env s Q E a en R F k =>
  wpAny_execs_nil (k P .next .next loc st s.heap s.toks hp ((Step.refl ..).toX _) R F .next)
noncomputable abbrev seqP (C : Cx) (lv : Nat) (sc : Scope) (cel : List (PySem.Str × Addr)) (ss : List Stmt) (Post : Fl → Locs → St → Prop) : Fl → Locs → St → Prop := fun f loc' st' => match f with
  | .next => Ex C lv sc cel loc' ss st' Post
  | f => Post f loc' st'
noncomputable abbrev retP (Post : AV → St → Prop) : Fl → Locs → St → Prop := fun f _ st' => match f with
  | .ret x => Post x st'
  | _ => Post .none st'
noncomputable abbrev loopP (Inv : Nat → Locs → St → Prop) (Post : Fl → Locs → St → Prop) (i : Nat) : Fl → Locs → St → Prop := fun f loc' st' => match f with
  | .next => Inv i loc' st'
  | .cont => Inv i loc' st'
  | .brk => Post .next loc' st'
  | .ret r => Post (.ret r) loc' st'
noncomputable abbrev lessP (Inv : Nat → Locs → St → Prop) (Post : Fl → Locs → St → Prop) (n : Nat) : Fl → Locs → St → Prop := fun f loc' st' => match f with
  | .next => ∃ m, m < n ∧ Inv m loc' st'
  | .cont => ∃ m, m < n ∧ Inv m loc' st'
  | .brk => Post .next loc' st'
  | .ret r => Post (.ret r) loc' st'
theorem Ex.cons {t : Stmt} {ss : List Stmt} {Post : Fl → Locs → St → Prop}
    (h : Ex1 C lv sc cel loc t st (seqP C lv sc cel ss Post)) : Ex C lv sc cel loc (t :: ss) st Post := fun P A env s Q E a en R F k => by
  refine wpAny_execs_cons (h P A env s _ E a en R F fun P₁ f fl loc₁ st₁ h₁ k₁ hf S₁ R₁ F₁ hfl => ?_)
  cases hfl with
  | next => exact hf P₁ A env _ Q E a en R₁ F₁ fun P₂ f fl loc₂ st₂ h₂ k₂ hf₂ S₂ R₂ F₂ hfl₂ => k P₂ f fl loc₂ st₂ h₂ k₂ hf₂ (S₁.trans F₁.lives S₂) R₂ F₂ hfl₂
  | brk => exact k P₁ _ _ loc₁ st₁ h₁ k₁ hf S₁ R₁ F₁ .brk
  | cont => exact k P₁ _ _ loc₁ st₁ h₁ k₁ hf S₁ R₁ F₁ .cont
  | ret hv => exact k P₁ _ _ loc₁ st₁ h₁ k₁ hf S₁ R₁ F₁ (.ret hv)

theorem Ex1.ret {e : Expr} {p : Pos} {Post : Fl → Locs → St → Prop} (h : Ev C lv sc cel loc e st (rtK loc Post)) : Ex1 C lv sc cel loc (.Return (some e) p) st Post := fun P A env s Q E a en R F k =>
  wpAny_Return_some (h P A env s _ E a en R F fun P' x v st' h' tk hx S R' hv => k P' (.ret x) (.ret v) loc st' h' tk hx (S.toX _) R' (F.step S) (.ret hv))
theorem Ex1.iff {t : Expr} {b o : List Stmt} {p : Pos} {Post : Fl → Locs → St → Prop} (h : Tr C lv sc cel loc t st fun c st' => if c then Ex C lv sc cel loc b st' Post else Ex C lv sc cel loc o st' Post) :
    Ex1 C lv sc cel loc (.If t b o p) st Post := fun P A env s Q E a en R F k => by
  refine wpAny_If (h P A env s _ E a en R F fun P₁ c st₁ h₁ k₁ hc S₁ R₁ => ?_)
  cases c with
  | true => simp only [if_true] at hc ⊢; exact hc P₁ A env _ Q E a en R₁ (F.step S₁) fun P₂ f fl loc₂ st₂ h₂ k₂ hf₂ S₂ R₂ F₂ hfl₂ => k P₂ f fl loc₂ st₂ h₂ k₂ hf₂ ((S₁.toX _).trans (F.step S₁).lives S₂) R₂ F₂ hfl₂
  | false => simp only [Bool.false_eq_true, if_false] at hc ⊢; exact hc P₁ A env _ Q E a en R₁ (F.step S₁) fun P₂ f fl loc₂ st₂ h₂ k₂ hf₂ S₂ R₂ F₂ hfl₂ => k P₂ f fl loc₂ st₂ h₂ k₂ hf₂ ((S₁.toX _).trans (F.step S₁).lives S₂) R₂ F₂ hfl₂
theorem Ex1.cont {p : Pos} {Post : Fl → Locs → St → Prop} (h : Post .cont loc st) : Ex1 C lv sc cel loc (.Continue p) st Post := fun P A env s Q E a en R F k =>
  wpAny_Continue (k P .cont .cont loc st s.heap s.toks h ((Step.refl ..).toX _) R F .cont)
theorem Ex1.brk {p : Pos} {Post : Fl → Locs → St → Prop} (h : Post .brk loc st) : Ex1 C lv sc cel loc (.Break p) st Post := fun P A env s Q E a en R F k =>
  wpAny_Break (k P .brk .brk loc st s.heap s.toks h ((Step.refl ..).toX _) R F .brk)

noncomputable def setL (loc : Locs) (x : PySem.Str) (y : AV) : Locs := (x, y) :: loc
theorem FRp.set {P : PM} {env : Env} {h' : Heap} {x : PySem.Str} {y : AV} {v : Value} {m : PySem.Str → Option Value} (hm : ∀ x y, loc.lookup x = some y → ∃ v, m x = some v ∧ VRep C P y v) (hoff : P env.locals = .none ∧ env.locals ∉ adr st)
    (hn : h'.Ns env.locals (fun z => if z = x then some v else m z)) (hv : VRep C P y v) : FRp C P (setL loc x y) env st h' := by
  refine ⟨⟨_, hn, fun z w e => ?_⟩, hoff⟩
  unfold setL at e
  rw [List.lookup_cons] at e
  by_cases hz : z = x
  · subst hz
    simp at e; subst e
    exact ⟨v, by simp, hv⟩
  · have hb : (z == x) = false := beq_eq_false_iff_ne.mpr hz
    rw [hb] at e
    refine xe12 (hm z w e) fun u e1 e2 => ?_
    exact ⟨u, by simp [hz, e1], e2⟩
theorem sameBut_step {L : Addr} {P : PM} {h h' : Heap} (R : Rp C P st h) (hL : P L = none ∧ L ∉ adr st) (hs : Heap.SameBut L h h') : StepX L P P st st h h' ∧ Rp C P st h' := by
  refine ⟨⟨fun _ _ e => e, fun _ e => .inl e, fun _ e => .inl e, fun b o e _ hb => (hs.2 b hb).trans e⟩, ⟨R.base, fun b o e => ?_, R.nd, fun x hx => ?_, R.one⟩⟩
  · have : b ≠ L := by rintro rfl; rw [hL.1] at e; cases e
    exact (hs.2 b this).trans (R.keep b o e)
  · obtain ⟨h1, o, h2, h3⟩ := R.own x hx
    have : x.1 ≠ L := by rintro rfl; exact hL.2 (List.mem_map_of_mem hx)
    exact ⟨h1, o, (hs.2 _ this).trans h2, h3⟩

noncomputable def Bd (C : Cx) (sc : Scope) (cel : List (PySem.Str × Addr)) (loc : Locs) (x : PySem.Str) (y : AV) (st : St) (Post : Locs → St → Prop) : Prop :=
  ∀ (P : PM) (A : Around) (env : Env) (s : Shared) (v : Value) (Q : Unit → Shared → Prop) (E : Value → Shared → Prop), EOk sc cel env → Rp C P st s.heap → FRp C P loc env st s.heap → VRep C P y v →
    (∀ loc' st' h' k, Post loc' st' → StepX env.locals P P st st' s.heap h' → Rp C P st' h' → FRp C P loc' env st' h' → Q () { s with heap := h', toks := k }) → wpAny (model C.prog C.w) A (storeName env x v) Q E s
theorem Bd.lc {x : PySem.Str} {y : AV} {Post : Locs → St → Prop} (hs : sc.names.lookup x = some .local) (hp : Post (setL loc x y) st) : Bd C sc cel loc x y st Post := fun P A env s v Q E en R F hv k => by
  obtain ⟨⟨m, hn, hm⟩, hoff⟩ := F
  refine wpAny_storeName_local (by rw [Env.kindOf, en.scope]; exact hs) hn (fun h' hn' hs' => ?_) (by rw [en.scope, en.kind]; rfl)
  refine xe02 (sameBut_step R hoff hs') fun S R' => ?_
  exact k _ st h' _ hp S R' (FRp.set hm hoff hn' hv)

noncomputable abbrev bdK (C : Cx) (sc : Scope) (cel : List (PySem.Str × Addr)) (loc : Locs) (x : PySem.Str) (Post : Fl → Locs → St → Prop) : AV → St → Prop := fun y st₁ => Bd C sc cel loc x y st₁ (nxtK Post)
theorem Ex1.assign {x : PySem.Str} {e : Expr} {p p' : Pos} {Post : Fl → Locs → St → Prop} (hsw : ∀ env, env.scope = sc → swapsWith e (some (.Name x p')) p.line env = pure false)
    (h : Ev C lv sc cel loc e st (bdK C sc cel loc x Post)) : Ex1 C lv sc cel loc (.Assign [.Name x p'] e p) st Post := fun P A env s Q E a en R F k => by
  refine wpAny_Assign_Name (h P A env s _ E a en R F fun P₁ y v st₁ h₁ k₁ hy S₁ R₁ hv => ?_) (hsw env en.scope)
  exact hy P₁ A env _ v _ E en R₁ (F.step S₁) hv fun loc' st' h' tk hp S R' F' => k P₁ .next .next loc' st' h' tk hp ((S₁.toX _).trans (F.step S₁).lives S) R' F' .next
end
section
variable {C : Cx} {lv : Nat} {sc : Scope} {cel : List (PySem.Str × Addr)} {loc : Locs} {st : St}

theorem Rp.push {P : PM} {h : Heap} (R : Rp C P st h) {x : AO} {o : Obj} (hx : ORep C P x o) (hf : o.isFreed = false) : Rp C P ((h.objs.size, x) :: st) (h.push o) ∧ Step P P st ((h.objs.size, x) :: st) h (h.push o) := by
  have hnew : h.get? h.objs.size = none := by
    cases e : h.get? h.objs.size with
    | none => rfl
    | some o' => exact absurd (Heap.lt_size e) (Nat.lt_irrefl _)
  have hP : P h.objs.size = none := by
    cases e : P h.objs.size with
    | none => rfl
    | some o' => rw [R.keep _ _ e] at hnew; cases hnew
  have hst : h.objs.size ∉ adr st := fun hm => by
    refine xe12 (List.mem_map.mp hm) fun y hy e => ?_
    obtain ⟨_, o', ho, _⟩ := R.own y hy
    rw [e, hnew] at ho; cases ho
  refine ⟨⟨R.base, fun b o' e => Heap.get?_push_of_some _ (R.keep b o' e), List.nodup_cons.mpr ⟨hst, R.nd⟩, fun y hy => ?_, ⟨fun hm => (List.mem_cons.mp hm).elim (fun e => Nat.ne_of_lt R.big e) R.one.1, R.one.2⟩⟩, ⟨fun _ _ e => e, fun _ e => .inl e, fun b hb => ?_, fun b o' e _ => Heap.get?_push_of_some _ e⟩⟩
  · rcases List.mem_cons.mp hy with rfl | hy
    · exact ⟨hP, o, Heap.get?_push_size _ hf, hx⟩
    · obtain ⟨h1, o', h2, h3⟩ := R.own y hy
      exact ⟨h1, o', Heap.get?_push_of_some _ h2, h3⟩
  · rcases List.mem_cons.mp hb with rfl | hb
    · exact .inr hnew
    · exact .inl hb

noncomputable def addP (P : PM) (a : Addr) (o : Obj) : PM := fun b => if b = a then some o else P b
theorem Rp.pushF {P : PM} {h : Heap} (R : Rp C P st h) {o : Obj} (hf : o.isFreed = false) : Rp C (addP P h.objs.size o) st (h.push o) ∧ Step P (addP P h.objs.size o) st st h (h.push o) := by
  have hnew : h.get? h.objs.size = none := by
    cases e : h.get? h.objs.size with
    | none => rfl
    | some o' => exact absurd (Heap.lt_size e) (Nat.lt_irrefl _)
  have hP : ∀ b o', P b = some o' → b ≠ h.objs.size := fun b o' e z => by subst z; rw [R.keep _ _ e] at hnew; cases hnew
  have up : ∀ b o', P b = some o' → addP P h.objs.size o b = some o' := fun b o' e => by unfold addP; rw [if_neg (hP b o' e)]; exact e
  have hst : ∀ y ∈ st, y.1 ≠ h.objs.size := fun y hy e => by
    obtain ⟨_, o', ho, _⟩ := R.own y hy
    rw [e, hnew] at ho; cases ho
  refine ⟨⟨fun b o' e => up b o' (R.base b o' e), fun b o' e => ?_, R.nd, fun y hy => ?_, R.one_up up fun _ q => q⟩, ⟨up, fun b e => ?_, fun b hb => .inl hb, fun b o' e _ => Heap.get?_push_of_some _ e⟩⟩
  · unfold addP at e
    split at e
    · rename_i q; subst q; cases e; exact Heap.get?_push_size _ hf
    · exact Heap.get?_push_of_some _ (R.keep b o' e)
  · obtain ⟨h1, o', h2, h3⟩ := R.own y hy
    exact ⟨by unfold addP; rw [if_neg (hst y hy)]; exact h1, o', Heap.get?_push_of_some _ h2, h3.mono up⟩
  · unfold addP at e
    split at e
    · rename_i q; subst q; exact .inr (.inl hnew)
    · exact .inl e

theorem Rp.sub {P : PM} {st' : St} {h : Heap} (R : Rp C P st h) (hs : st'.Sublist st) : Rp C P st' h :=
  ⟨R.base, R.keep, R.nd.sublist (hs.map _), fun x hx => R.own x (hs.subset hx), R.one_up (fun _ _ q => q) fun b hb => (hs.map _).subset hb⟩
theorem Step.sub {P P' : PM} {st st' st'' : St} {h h' : Heap} (S : Step P P' st st' h h') (hs : st''.Sublist st') : Step P P' st st'' h h' :=
  ⟨S.p, S.p', fun b hb => S.sb b ((hs.map _).subset hb), S.keep⟩

inductive Upd : St → Addr → AO → AO → St → Prop
  | head {a : Addr} {x y : AO} {st : St} : Upd ((a, x) :: st) a x y ((a, y) :: st)
  | tail {a : Addr} {x y : AO} {p : Addr × AO} {st st' : St} : Upd st a x y st' → Upd (p :: st) a x y (p :: st')
theorem Upd.adr {st st' : St} {a : Addr} {x y : AO} (u : Upd st a x y st') : adr st' = adr st := by
  induction u with
  | head => rfl
  | tail _ ih => simp only [Mine.adr, List.map_cons] at ih ⊢; rw [ih]
theorem Upd.mem {st st' : St} {a : Addr} {x y : AO} (u : Upd st a x y st') : (a, x) ∈ st := by
  induction u with
  | head => exact List.mem_cons_self
  | tail _ ih => exact List.mem_cons_of_mem _ ih
theorem Upd.mem' {st st' : St} {a : Addr} {x y : AO} (u : Upd st a x y st') : ∀ p ∈ st', p = (a, y) ∨ (p ∈ st ∧ (p.1 = a → (Mine.adr st).Nodup → False)) := by
  induction u with
  | @head a x y st =>
    intro p hp
    rcases List.mem_cons.mp hp with rfl | hp
    · exact .inl rfl
    · refine .inr ⟨List.mem_cons_of_mem _ hp, fun e nd => ?_⟩
      have := (List.nodup_cons.mp nd).1
      exact this (List.mem_map.mpr ⟨p, hp, e⟩)
  | @tail a x y q st st' u ih =>
    intro p hp
    rcases List.mem_cons.mp hp with rfl | hp
    · refine .inr ⟨List.mem_cons_self, fun e nd => ?_⟩
      have := (List.nodup_cons.mp nd).1
      exact this (List.mem_map.mpr ⟨(a, x), u.mem, e.symm⟩)
    · rcases ih p hp with rfl | ⟨h1, h2⟩
      · exact .inl rfl
      · exact .inr ⟨List.mem_cons_of_mem _ h1, fun e nd => h2 e (List.nodup_cons.mp nd).2⟩
theorem Rp.upd {P : PM} {st' : St} {h h' : Heap} {a : Addr} {x y : AO} {o' : Obj} (R : Rp C P st h) (u : Upd st a x y st') (hs : Heap.SameBut a h h') (ho : h'.get? a = some o') (hy : ORep C P y o') :
    Rp C P st' h' ∧ Step P P st st' h h' := by
  have hPa : P a = none := (R.own _ u.mem).1
  refine ⟨⟨R.base, fun b o e => ?_, by rw [u.adr]; exact R.nd, fun p hp => ?_, R.one_up (fun _ _ q => q) fun b hb => by rw [← u.adr]; exact hb⟩, ⟨fun _ _ e => e, fun _ e => .inl e, fun b hb => .inl (by rw [← u.adr]; exact hb), fun b o e hb => ?_⟩⟩
  · have : b ≠ a := by rintro rfl; rw [hPa] at e; cases e
    exact (hs.2 b this).trans (R.keep b o e)
  · rcases u.mem' p hp with rfl | ⟨h1, h2⟩
    · exact ⟨hPa, o', ho, hy⟩
    · obtain ⟨q1, o, q2, q3⟩ := R.own p h1
      exact ⟨q1, o, (hs.2 _ fun e => h2 e R.nd).trans q2, q3⟩
  · have : b ≠ a := by rintro rfl; exact hb (List.mem_map_of_mem u.mem)
    exact (hs.2 b this).trans e

inductive Del : St → Addr → AO → St → Prop
  | head {a : Addr} {x : AO} {st : St} : Del ((a, x) :: st) a x st
  | tail {a : Addr} {x : AO} {p : Addr × AO} {st st' : St} : Del st a x st' → Del (p :: st) a x (p :: st')
theorem Del.sub {st st' : St} {a : Addr} {x : AO} (d : Del st a x st') : st'.Sublist st := by
  induction d with
  | head => exact List.sublist_cons_self _ _
  | tail _ ih => exact ih.cons_cons _
theorem Del.mem {st st' : St} {a : Addr} {x : AO} (d : Del st a x st') : (a, x) ∈ st := by
  induction d with
  | head => exact List.mem_cons_self
  | tail _ ih => exact List.mem_cons_of_mem _ ih
theorem Del.off {st st' : St} {a : Addr} {x : AO} (d : Del st a x st') (nd : (Mine.adr st).Nodup) : a ∉ Mine.adr st' := by
  induction d with
  | head => exact (List.nodup_cons.mp nd).1
  | @tail a x p st st' d ih =>
    intro hm
    rcases List.mem_cons.mp hm with e | hm
    · exact (List.nodup_cons.mp nd).1 (e ▸ List.mem_map_of_mem d.mem)
    · exact ih (List.nodup_cons.mp nd).2 hm
theorem Rp.frz {P : PM} {st' : St} {h : Heap} {a : Addr} {x : AO} {o : Obj} (R : Rp C P st h) (d : Del st a x st') (ho : h.get? a = some o) : Rp C (addP P a o) st' h ∧ Step P (addP P a o) st st' h h := by
  have hPa : P a = none := (R.own _ d.mem).1
  have up : ∀ b o', P b = some o' → addP P a o b = some o' := fun b o' e => by
    have : b ≠ a := by rintro rfl; rw [hPa] at e; cases e
    unfold addP; rw [if_neg this]; exact e
  refine ⟨⟨fun b o' e => up b o' (R.base b o' e), fun b o' e => ?_, R.nd.sublist (d.sub.map _), fun y hy => ?_, R.one_up up fun b hb => (d.sub.map _).subset hb⟩, ⟨up, fun b e => ?_, fun b hb => .inl ((d.sub.map _).subset hb), fun _ _ e _ => e⟩⟩
  · unfold addP at e
    split at e
    · rename_i q; subst q; cases e; exact ho
    · exact R.keep b o' e
  · obtain ⟨h1, o', h2, h3⟩ := R.own y (d.sub.subset hy)
    have : y.1 ≠ a := fun e => d.off R.nd (e ▸ List.mem_map_of_mem hy)
    exact ⟨by unfold addP; rw [if_neg this]; exact h1, o', h2, h3.mono up⟩
  · unfold addP at e
    split at e
    · rename_i q; subst q; exact .inr (.inr (List.mem_map_of_mem d.mem))
    · exact .inl e

noncomputable def plainE : Expr → Bool
  | .Starred .. => false
  | _ => true
theorem starEach_plain {env : Env} : ∀ {es : List Expr}, es.all plainE = true → starEach es env = es.map fun e => (false, eval e env)
  | [], _ => rfl
  | e :: r, h => by
    rw [List.all_cons, Bool.and_eq_true] at h
    cases e <;> first | (cases h.1; done) | (show (false, _) :: starEach r env = _; rw [starEach_plain h.2]; rfl)
theorem backTo_plain {env : Env} {pos : Pos} {es : List Expr} (h : es.all plainE = true) : backTo pos (starEach es env) = es.map fun e => (false, eval e env) := by
  rw [starEach_plain h]
  unfold backTo
  rw [List.map_map]
  refine List.map_congr_left fun e _ => ?_
  simp
theorem spliced_of {env : Env} : ∀ (es : List Expr) (st : St) (Post : List AV → St → Prop), Evs C lv sc cel loc es st Post →
    ∀ (P : PM) (A : Around) (s : Shared) (Q : List Value → Shared → Prop) (E : Value → Shared → Prop), AOk lv A → EOk sc cel env → Rp C P st s.heap → FRp C P loc env st s.heap →
    (∀ P' xs vs st' h' k, Post xs st' → Step P P' st st' s.heap h' → Rp C P' st' h' → VReps C P' xs vs → Q vs { s with heap := h', toks := k }) →
    wpAny (model C.prog C.w) A (spliced (es.map fun e => (false, eval e env))) Q E s
  | [], st, Post, h, P, A, s, Q, E, a, en, R, F, k => wpAny_pure (k P [] [] st s.heap s.toks h (Step.refl ..) R .nil)
  | e :: r, st, Post, h, P, A, s, Q, E, a, en, R, F, k => by
    refine (?_ : wpAny _ A (spliced ((false, eval e env) :: r.map fun e => (false, eval e env))) Q E s)
    unfold spliced
    refine wpAny_bind (h P A env s _ E a en R F fun P₁ x v st₁ h₁ k₁ hx S₁ R₁ hv => ?_)
    simp only [Bool.false_eq_true, if_false]
    refine wpAny_bind (wpAny_pure (wpAny_bind (wpAny_holding ?_)))
    refine spliced_of r st₁ _ hx P₁ A _ _ E a en R₁ (F.step S₁) fun P₂ xs vs st₂ h₂ k₂ hxs S₂ R₂ hvs => ?_
    exact wpAny_pure (k P₂ (x :: xs) (v :: vs) st₂ h₂ k₂ hxs (S₁.trans S₂) R₂ (.cons (hv.mono S₂.p) hvs))

theorem size_of {C : Cx} {P : PM} {xs : List AV} {vs : List Value} (h : VReps C P xs vs) (hs : xs.length ≤ sizeLine) : vs.length ≤ sizeLine := h.length ▸ hs
noncomputable abbrev lstK (f : List AV → AV) (Post : AV → St → Prop) : List AV → St → Prop := fun xs s => xs.length ≤ sizeLine ∧ Post (f xs) s
theorem Ev.tup {es : List Expr} {kd : Nat} {p : Pos} {Post : AV → St → Prop} (hpl : es.all plainE = true) (h : Evs C lv sc cel loc es st (lstK .tup Post)) : Ev C lv sc cel loc (.Tuple es kd p) st Post := fun P A env s Q E a en R F k => by
  refine wpAny_Tuple_spliced ?_
  rw [backTo_plain hpl]
  refine spliced_of es st _ h P A s _ E a en R F fun P₁ xs vs st₁ h₁ k₁ hx S₁ R₁ hv => ⟨size_of hv hx.1, ?_⟩
  refine xe02 (R₁.pushF (o := { cls := .type "tuple", data := .seq vs.toArray }) rfl) fun R₂ S₂ => ?_
  exact k _ (.tup xs) _ st₁ _ k₁ hx.2 (S₁.trans S₂) R₂ (.tup (by unfold addP; rw [if_pos rfl]) ⟨0, rfl⟩ (hv.mono S₂.p))
theorem Ev.lstF {es : List Expr} {p : Pos} {Post : AV → St → Prop} (hpl : es.all plainE = true) (h : Evs C lv sc cel loc es st (lstK .lst Post)) : Ev C lv sc cel loc (.List es p) st Post := fun P A env s Q E a en R F k => by
  refine wpAny_List_spliced ?_
  rw [backTo_plain hpl]
  refine spliced_of es st _ h P A s _ E a en R F fun P₁ xs vs st₁ h₁ k₁ hx S₁ R₁ hv => ⟨size_of hv hx.1, ?_⟩
  refine xe02 (R₁.pushF (o := { cls := .type "list", data := .seq vs.toArray }) rfl) fun R₂ S₂ => ?_
  exact k _ (.lst xs) _ st₁ _ k₁ hx.2 (S₁.trans S₂) R₂ (.lst (by unfold addP; rw [if_pos rfl]) ⟨0, rfl⟩ (hv.mono S₂.p))
theorem Ev.lstM {es : List Expr} {p : Pos} {Post : AV → St → Prop} (hpl : es.all plainE = true) (h : Evs C lv sc cel loc es st fun xs st' => xs.length ≤ sizeLine ∧ ∀ a, Post (.ref a) ((a, .list xs) :: st')) : Ev C lv sc cel loc (.List es p) st Post := fun P A env s Q E a en R F k => by
  refine wpAny_List_spliced ?_
  rw [backTo_plain hpl]
  refine spliced_of es st _ h P A s _ E a en R F fun P₁ xs vs st₁ h₁ k₁ hx S₁ R₁ hv => ⟨size_of hv hx.1, ?_⟩
  refine xe02 (R₁.push (x := .list xs) (o := { cls := .type "list", data := .seq vs.toArray }) (.list ⟨0, rfl⟩ hv) rfl) fun R₂ S₂ => ?_
  exact k _ (.ref _) _ _ _ k₁ (hx.2 _) (S₁.trans S₂) R₂ .ref

theorem Ex.sub {ss : List Stmt} {Post : Fl → Locs → St → Prop} (h : Ex C lv sc cel loc ss st fun f l s => ∃ s', s'.Sublist s ∧ Post f l s') : Ex C lv sc cel loc ss st Post := fun P A env s Q E a en R F k =>
  h P A env s Q E a en R F fun P' f fl loc' st' h' tk hx S R' F' hf => by
    refine xe12 hx fun s' hs hp => ?_; clear hx
    exact k P' f fl loc' s' h' tk hp ⟨S.p, S.p', fun b hb => S.sb b ((hs.map _).subset hb), S.keep⟩ (R'.sub hs) ⟨F'.ns, F'.off.1, fun hb => F'.off.2 ((hs.map _).subset hb)⟩ hf
theorem Fn.sub {f : Value} {args : List AV} {kw : List (PySem.Str × AV)} {Post : AV → St → Prop} (h : Fn C lv f args kw st fun x s => ∃ s', s'.Sublist s ∧ Post x s') : Fn C lv f args kw st Post :=
  fun P A s vs kvs R a rp hv hk k => h P A s vs kvs R a rp hv hk fun P' x v st' h' tk hx S R' hv => by
    refine xe12 hx fun s' hs hp => ?_; clear hx
    exact k P' x v s' h' tk hp (S.sub hs) (R'.sub hs) hv
theorem Ev.frz {e : Expr} {Post : AV → St → Prop} (h : Ev C lv sc cel loc e st fun x s => ∃ a xs s', x = .ref a ∧ Del s a (.list xs) s' ∧ Post (.lst xs) s') : Ev C lv sc cel loc e st Post := fun P A env s Q E a en R F k =>
  h P A env s Q E a en R F fun P' x v st' h' tk hx S R' hv => by
    refine xe33 hx fun b xs s' qe0 d hp => ?_; clear hx; subst qe0
    cases hv
    obtain ⟨_, o, ho, hr⟩ := R'.own _ d.mem
    cases hr with
    | list hl hvs =>
      refine xe02 (R'.frz d ho) fun R₂ S₂ => ?_
      exact k _ (.lst xs) _ s' h' tk hp (S.trans S₂) R₂ (.lst (by unfold addP; rw [if_pos rfl]) hl (hvs.mono S₂.p))
end
section
variable {C : Cx} {lv : Nat} {sc : Scope} {cel : List (PySem.Str × Addr)} {loc : Locs} {st : St}

noncomputable def KeepF (C : Cx) (st : St) (f : Value) : Prop :=
  ∀ (M : Model) (P : PM) (h : Heap), Rp C P st h → ∃ k, (k = Keeper.frame ∨ k = Keeper.machine ∨ k = Keeper.boundFrame) ∧ Looks M h (keeperOf f) k
theorem KeepF.k (G : Gd C) {f : Value} (hk : keepIn C.K f = true) : KeepF C st f := fun M P h R => keeps_K hk h (G.kin.keeps R.h0)
theorem KeepF.b {id : String} : KeepF C st (.builtin id) := fun M P h R => ⟨.machine, .inr (.inl rfl), Looks.of_pure rfl⟩
theorem KeepF.t {id : String} : KeepF C st (.type id) := fun M P h R => ⟨.machine, .inr (.inl rfl), Looks.of_pure rfl⟩

theorem evalAll_kw {env : Env} {pos : Pos} : ∀ (ks : List Keyword) (st : St) (Post : List AV → St → Prop), Evs C lv sc cel loc (ks.map (·.value)) st Post →
    ∀ (P : PM) (A : Around) (s : Shared) (Q : List Value → Shared → Prop) (E : Value → Shared → Prop), AOk lv A → EOk sc cel env → Rp C P st s.heap → FRp C P loc env st s.heap →
    (∀ P' xs vs st' h' k, Post xs st' → Step P P' st st' s.heap h' → Rp C P' st' h' → VReps C P' xs vs → Q vs { s with heap := h', toks := k }) →
    wpAny (model C.prog C.w) A (evalAll ((backToKw pos (keywordEach ks env)).map (·.2))) Q E s
  | [], st, Post, h, P, A, s, Q, E, a, en, R, F, k => wpAny_pure (k P [] [] st s.heap s.toks h (Step.refl ..) R .nil)
  | ⟨n, v, p⟩ :: r, st, Post, h, P, A, s, Q, E, a, en, R, F, k => by
    refine (?_ : wpAny _ A (evalAll ((do let u ← eval v env; standAt pos; pure u) :: (backToKw pos (keywordEach r env)).map (·.2))) Q E s)
    refine wpAny_evalAll_cons (wpAny_bind (h P A env s _ E a en R F fun P₁ x u st₁ h₁ k₁ hx S₁ R₁ hv => wpAny_bind (wpAny_standAt (wpAny_pure ?_))))
    refine evalAll_kw r st₁ _ hx P₁ A _ _ E a en R₁ (F.step S₁) fun P₂ xs vs st₂ h₂ k₂ hxs S₂ R₂ hvs => ?_
    exact k P₂ (x :: xs) (u :: vs) st₂ h₂ k₂ hxs (S₁.trans S₂) R₂ (.cons (hv.mono S₂.p) hvs)
theorem kw_names {env : Env} {pos : Pos} : ∀ (ks : List Keyword), (backToKw pos (keywordEach ks env)).filterMap (·.1) = ks.filterMap (·.arg)
  | [] => rfl
  | ⟨n, v, p⟩ :: r => by
    refine (?_ : List.filterMap (·.1) ((n, _) :: backToKw pos (keywordEach r env)) = _)
    cases n with
    | none => simpa using kw_names r
    | some n => simpa using kw_names r
theorem kw_some {env : Env} {pos : Pos} : ∀ (ks : List Keyword), ks.all (·.arg.isSome) = true → (backToKw pos (keywordEach ks env)).all (·.1.isSome) = true
  | [], _ => rfl
  | ⟨n, v, p⟩ :: r, h => by
    rw [List.all_cons, Bool.and_eq_true] at h
    refine (?_ : List.all ((n, _) :: backToKw pos (keywordEach r env)) _ = true)
    rw [List.all_cons, Bool.and_eq_true]
    exact ⟨h.1, kw_some r h.2⟩
theorem all_any {l : List (Option PySem.Str × Sem Value)} (h : l.all (·.1.isSome) = true) : l.any (·.1.isNone) = false := by
  rw [List.any_eq_false]
  intro x hx
  have := List.all_eq_true.mp h x hx
  cases e : x.1 with
  | none => rw [e] at this; cases this
  | some _ => simp
theorem evalArgs_of {M : Model} {A : Around} {E : Value → Shared → Prop} {s : Shared} {f : Value} {env : Env} {es : List Expr} {keywords : List (Option PySem.Str × Sem Value)} {Q : Args → Shared → Prop} (hall : keywords.all (·.1.isSome) = true)
    (h : wpAny M A (spliced (es.map fun e => (false, eval e env))) (fun vs s₁ => wpAny M A (evalAll (keywords.map (·.2))) (fun ks s₂ => Q ⟨vs, (keywords.filterMap (·.1)).zip ks⟩ s₂) E s₁) E s) :
    wpAny M A (evalArgs f true (es.map fun e => (false, eval e env)) keywords) Q E s := by
  cases es with
  | nil =>
    refine evalArgs_kw_nil hall ?_
    have h' : wpAny M A (pure ([] : List Value)) _ E s := h
    intro Γ p hΓ
    exact h' Γ p hΓ Γ p hΓ
  | cons e r => exact evalArgs_kw hall h
theorem VEnts.zip {P : PM} {ns : List PySem.Str} {xs : List AV} {vs : List Value} (h : VReps C P xs vs) : VEnts C P (ns.zip xs) (ns.zip vs) :=
  (h.ind (motive := fun xs vs => ∀ ns : List PySem.Str, VEnts C P (ns.zip xs) (ns.zip vs)) (fun ns => by rw [List.zip_nil_right, List.zip_nil_right]; exact .nil) fun h1 _ ih ns => by
    cases ns with
    | nil => exact .nil
    | cons n ns => exact .cons h1 (ih ns)) ns

theorem call_of {f : Value} {first : List AV} {es : List Expr} {ks : List Keyword} {p : Pos} {Post : AV → St → Prop} (hpl : es.all plainE = true) (hk : ks.all (·.arg.isSome) = true)
    (h : Evs C lv sc cel loc es st fun xs st₁ => Evs C lv sc cel loc (ks.map (·.value)) st₁ fun ys st₂ => KeepF C st₂ f ∧ Cl C lv f (first ++ xs) ((ks.filterMap (·.arg)).zip ys) st₂ Post)
    {P : PM} {A : Around} {env : Env} {s : Shared} {fs : List Value} {Q : Value → Shared → Prop} {E : Value → Shared → Prop} (a : AOk lv A) (en : EOk sc cel env) (R : Rp C P st s.heap) (F : FRp C P loc env st s.heap) (hf : VReps C P first fs)
    (k : ∀ P' x v st' h' k, Post x st' → Step P P' st st' s.heap h' → Rp C P' st' h' → VRep C P' x v → Q v { s with heap := h', toks := k }) :
    wpAny (model C.prog C.w) A (callWith p f fs (backTo p (starEach es env)) (backToKw p (keywordEach ks env))) Q E s := by
  have hall := kw_some (env := env) (pos := p) ks hk
  refine callWith_of (P := fun h => ∃ P' st', Rp C P' st' h ∧ KeepF C st' f) ?_ (fun h hP => ?_) ?_
  · rw [backTo_plain hpl, all_any hall, Bool.or_false]
    rw [List.any_eq_false]
    intro x hx
    refine xe12 (List.mem_map.mp hx) fun e _ qe0 => ?_; subst qe0
    simp
  · refine xe22 hP fun P' st' R' hk' => ?_; clear hP
    exact hk' _ P' h R'
  · rw [backTo_plain hpl]
    refine evalArgs_of hall (spliced_of es st _ h P A s _ E a en R F fun P₁ xs vs st₁ h₁ k₁ hx S₁ R₁ hv => ?_)
    refine evalAll_kw ks st₁ _ hx P₁ A _ _ E a en R₁ (F.step S₁) fun P₂ ys us st₂ h₂ k₂ hy S₂ R₂ hu => ?_
    refine ⟨⟨P₂, st₂, R₂, hy.1⟩, ?_⟩
    rw [kw_names]
    refine hy.2 P₂ A _ _ _ _ E a R₂ (((hf.mono S₁.p).mono S₂.p).append (hv.mono S₂.p)) (VEnts.zip hu) fun P₃ x v st₃ h₃ k₃ hx S₃ R₃ hv => ?_
    exact k P₃ x v st₃ h₃ k₃ hx ((S₁.trans S₂).trans S₃) R₃ hv

theorem Ev.call {x : PySem.Str} {np : Pos} {es : List Expr} {ks : List Keyword} {p : Pos} {Post : AV → St → Prop} (hpl : es.all plainE = true) (hk : ks.all (·.arg.isSome) = true)
    (h : Ev C lv sc cel loc (.Name x np) st fun fv st₀ => ∃ f, fv = .val f ∧ Evs C lv sc cel loc es st₀ fun xs st₁ => Evs C lv sc cel loc (ks.map (·.value)) st₁ fun ys st₂ => KeepF C st₂ f ∧ Cl C lv f xs ((ks.filterMap (·.arg)).zip ys) st₂ Post) :
    Ev C lv sc cel loc (.Call (.Name x np) es ks p) st Post := fun P A env s Q E a en R F k => by
  refine wpAny_Call_Name_kw (h P A env s _ E a en R F fun P₁ fv v st₁ h₁ k₁ hx S₁ R₁ hv => ?_)
  obtain ⟨f, rfl, hx⟩ := hx
  cases hv
  exact call_of (first := []) hpl hk hx a en R₁ (F.step S₁) .nil fun P' x v st' h' tk hx S R' hv => k P' x v st' h' tk hx (S₁.trans S) R' hv

noncomputable def Mt (C : Cx) (ov : AV) (name : PySem.Str) (st : St) (f : Value) (first : List AV) : Prop :=
  ∀ (P : PM) (A : Around) (s : Shared) (v : Value) (pl : Sem Bool) (Q : Value × List Value → Shared → Prop) (E : Value → Shared → Prop), Rp C P st s.heap → VRep C P ov v →
    (∀ fs k, VReps C P first fs → Q (f, fs) { s with toks := k }) → wpAny (model C.prog C.w) A (getMethod v name pl) Q E s
noncomputable def noSuper (o : Expr) : Prop := ∀ (name : PySem.Str) (env : Env) (whole : Sem Value), attributeBase o name env whole = whole
theorem attributeBase_of {o : Expr} {name : PySem.Str} {env : Env} {whole : Sem Value} (h : noSuper o) : attributeBase o name env whole = whole := h name env whole
theorem methodForm {env : Env} {pos : Pos} {es : List Expr} {ks : List Keyword} (hpl : es.all plainE = true) (hk : ks.all (·.arg.isSome) = true) (hn : es.length + ks.length < 29) : methodCallForm (es.length + ks.length) (backTo pos (starEach es env)) (backToKw pos (keywordEach ks env)) = true := by
  unfold methodCallForm
  rw [kw_some ks hk, backTo_plain hpl, Bool.and_true, Bool.and_eq_true]
  refine ⟨List.all_eq_true.mpr fun x hx => by refine xe12 (List.mem_map.mp hx) fun e _ qe0 => ?_; subst qe0; rfl, ?_⟩
  rw [decide_eq_true_eq]
  split <;> lia

theorem Ev.meth {o : Expr} {name : PySem.Str} {apos p : Pos} {es : List Expr} {ks : List Keyword} {Post : AV → St → Prop} (hsup : noSuper o) (hpl : es.all plainE = true) (hk : ks.all (·.arg.isSome) = true) (hn : es.length + ks.length < 29) (hline : (apos.endLine == p.line) = true)
    (h : Ev C lv sc cel loc o st fun ov st₀ => ∃ f first, Mt C ov name st₀ f first ∧ Evs C lv sc cel loc es st₀ fun xs st₁ => Evs C lv sc cel loc (ks.map (·.value)) st₁ fun ys st₂ => KeepF C st₂ f ∧ Cl C lv f (first ++ xs) ((ks.filterMap (·.arg)).zip ys) st₂ Post) :
    Ev C lv sc cel loc (.Call (.Attribute o name apos) es ks p) st Post := fun P A env s Q E a en R F k => by
  rw [arm_eval_Call, attributeBase_of hsup]
  refine wpAny_bind (h P A env s _ E a en R F fun P₁ ov v st₁ h₁ k₁ hx S₁ R₁ hv => wpAny_bind (wpAny_standAt ?_))
  obtain ⟨f, first, hm, hx⟩ := hx
  have hform := methodForm (env := env) (pos := p) hpl hk hn
  have hpos : methodCallPos true o env apos p = pure p := by unfold methodCallPos; simp [hline]
  unfold methodCall
  rw [hform]
  refine wpAny_bind (wpAny_holding (hm P₁ A _ v _ _ E R₁ hv fun fs tk hfs => ?_))
  refine wpAny_bind (wpAny_of_eq hpos ?_)
  exact call_of hpl hk hx a en R₁ (F.step S₁) hfs fun P' x v st' h' tk hx S R' hv => k P' x v st' h' tk hx (S₁.trans S) R' hv

noncomputable def Bn (C : Cx) (fd : FuncData) (args : List AV) (kw : List (PySem.Str × AV)) (st : St) (Post : Locs → St → Prop) : Prop :=
  ∀ (P : PM) (A : Around) (s : Shared) (vs : List Value) (kvs : List (PySem.Str × Value)) (Q : List (PySem.Str × Value) → Shared → Prop) (E : Value → Shared → Prop), Rp C P st s.heap → VReps C P args vs → VEnts C P kw kvs →
    (∀ P' yl binds st' h' k, Post yl st' → Step P P' st st' s.heap h' → Rp C P' st' h' → VEnts C P' yl binds → Q binds { s with heap := h', toks := k }) → wpAny (model C.prog C.w) A (bindArgs fd ⟨vs, kvs⟩) Q E s
theorem Bn.pos {fd : FuncData} {args : List AV} {Post : Locs → St → Prop} (ns : List PySem.Str) (hb : ∀ vs : List Value, vs.length = args.length → bindArgs fd ⟨vs, []⟩ = pure (ns.zip vs)) (hp : Post (ns.zip args) st) : Bn C fd args [] st Post :=
  fun P A s vs kvs Q E R hv hk k => by
    obtain rfl := hk.nil_inv
    rw [hb vs hv.length.symm]
    exact wpAny_pure (k P _ _ st s.heap s.toks hp (Step.refl ..) R (VEnts.zip hv))

theorem bindL_off (kindOf : PySem.Str → Option NameKind) : ∀ (binds : List (PySem.Str × Value)) (m : PySem.Str → Option Value) (x : PySem.Str), x ∉ binds.map (·.1) → bindL kindOf binds m x = m x
  | [], m, x, _ => rfl
  | (n, v) :: r, m, x, h => by
    rw [List.map_cons, List.mem_cons, not_or] at h
    unfold bindL
    rw [bindL_off kindOf r _ x h.2]
    split
    · refine (?_ : (if x = n then some v else m x) = m x)
      rw [if_neg h.1]
    · rfl
theorem bindL_on (kindOf : PySem.Str → Option NameKind) : ∀ (binds : List (PySem.Str × Value)) (m : PySem.Str → Option Value) (x : PySem.Str) (v : Value), (binds.map (·.1)).Nodup → binds.lookup x = some v → kindOf x = some .local → bindL kindOf binds m x = some v
  | [], m, x, v, _, h, _ => by cases h
  | (n, u) :: r, m, x, v, hn, h, hk => by
    rw [List.map_cons, List.nodup_cons] at hn
    unfold bindL
    rw [List.lookup_cons] at h
    by_cases e : x = n
    · subst e
      simp at h
      subst h
      rw [bindL_off kindOf r _ x hn.1, if_pos hk]
      simp
    · have hb : (x == n) = false := beq_eq_false_iff_ne.mpr e
      rw [hb] at h
      exact bindL_on kindOf r _ x v hn.2 h hk
theorem bindC_off (kindOf : PySem.Str → Option NameKind) : ∀ (binds : List (PySem.Str × Value)) (m : PySem.Str → Option Value) (x : PySem.Str), x ∉ binds.map (·.1) → bindC kindOf binds m x = m x
  | [], m, x, _ => rfl
  | (n, v) :: r, m, x, h => by
    rw [List.map_cons, List.mem_cons, not_or] at h
    unfold bindC
    rw [bindC_off kindOf r _ x h.2]
    split
    · rfl
    · refine (?_ : (if x = n then some v else m x) = m x)
      rw [if_neg h.1]
theorem bindC_on (kindOf : PySem.Str → Option NameKind) : ∀ (binds : List (PySem.Str × Value)) (m : PySem.Str → Option Value) (x : PySem.Str), (binds.map (·.1)).Nodup → kindOf x ≠ some .local → m x = none → bindC kindOf binds m x = binds.lookup x
  | [], m, x, _, _, hm => hm
  | (n, u) :: r, m, x, hn, hk, hm => by
    rw [List.map_cons, List.nodup_cons] at hn
    unfold bindC
    rw [List.lookup_cons]
    by_cases e : x = n
    · subst e
      rw [bindC_off kindOf r _ x hn.1, if_neg hk]
      simp
    · have hb : (x == n) = false := beq_eq_false_iff_ne.mpr e
      rw [hb]
      refine bindC_on kindOf r _ x hn.2 hk ?_
      split
      · exact hm
      · refine (?_ : (if x = n then some u else m x) = none)
        rw [if_neg e]; exact hm
theorem VEnts.find' {P : PM} {es : List (PySem.Str × AV)} {kvs : List (PySem.Str × Value)} (h : VEnts C P es kvs) : ∀ {k : PySem.Str} {x : AV}, es.lookup k = some x → ∃ v, kvs.lookup k = some v ∧ VRep C P x v :=
  h.ind (motive := fun es kvs => ∀ {k : PySem.Str} {x : AV}, es.lookup k = some x → ∃ v, kvs.lookup k = some v ∧ VRep C P x v) (fun e => nomatch e) fun {k' x' v' es kvs} h1 _ ih k x e => by
    rw [List.lookup_cons] at e ⊢
    cases hk : k == k' with
    | true => rw [hk] at e; exact ⟨v', rfl, Option.some.inj e ▸ h1⟩
    | false => rw [hk] at e; exact ih e
theorem VEnts.miss {P : PM} {es : List (PySem.Str × AV)} {kvs : List (PySem.Str × Value)} (h : VEnts C P es kvs) : ∀ {k : PySem.Str}, es.lookup k = none → kvs.lookup k = none :=
  h.ind (motive := fun es kvs => ∀ {k : PySem.Str}, es.lookup k = none → kvs.lookup k = none) (fun _ => rfl) fun {k' x' v' es kvs} h1 _ ih k e => by
    rw [List.lookup_cons] at e ⊢
    cases hk : k == k' with
    | true => rw [hk] at e; cases e
    | false => rw [hk] at e; exact ih e

noncomputable def isCell (x : PySem.Str × NameKind) : Bool := x.2 == .cell
theorem cellsFrom_names : ∀ (names : List (PySem.Str × NameKind)) (n : Nat) (acc : List (PySem.Str × Addr)), (cellsFrom n names acc).map (·.1) = ((names.filter isCell).map (·.1)).reverse ++ acc.map (·.1)
  | [], n, acc => by simp [cellsFrom]
  | (x, k) :: r, n, acc => by
    unfold cellsFrom
    split
    · rename_i hk
      rw [cellsFrom_names r]
      have : isCell (x, k) = true := hk
      simp [List.filter_cons, this]
    · rename_i hk
      rw [cellsFrom_names r]
      have : isCell (x, k) = false := by simpa [isCell] using hk
      simp [List.filter_cons, this]

noncomputable def cellSt (yl : Locs) (cel : List (PySem.Str × Addr)) : St := cel.map fun p => (p.2, AO.cell (yl.lookup p.1))

noncomputable def ExC (C : Cx) (cd : Value) (lv : Nat) (sc : Scope) (cel : List (PySem.Str × Addr)) (loc : Locs) (ss : List Stmt) (st : St) (Post : Fl → Locs → St → Prop) : Prop :=
  ∀ (P : PM) (A : Around) (env : Env) (s : Shared) (Q : Flow → Shared → Prop) (E : Value → Shared → Prop), env.code = cd →
    AOk lv A → EOk sc cel env → Rp C P st s.heap → FRp C P loc env st s.heap →
    (∀ P' f fl loc' st' h' k, Post f loc' st' → StepX env.locals P P' st st' s.heap h' → Rp C P' st' h' → FRp C P' loc' env st' h' → FlRep C P' f fl → Q fl { s with heap := h', toks := k }) →
    wpAny (model C.prog C.w) A (execs ss env) Q E s
theorem Fn.defC {a : Addr} {oc : Value} {od : Option Addr} {fd : FuncData} {osl : Array (Option Value)} {body : List Stmt} {args : List AV} {kw : List (PySem.Str × AV)} {Post : AV → St → Prop} (G : Gd C)
    (ho : C.K.lookup a = some ⟨oc, od, .func fd, osl⟩) (hcd : codeIn C.K fd.code fd.qualname = true) (hb : fd.body = .stmts body) (hclo : fd.closure = []) (hgl : fd.globals = mainGlobals) (hbu : fd.builtins = builtinsNs)
    (hco : fd.scope.isCoroutine = false) (hgen : fd.scope.isGenerator = false) (hk : fd.scope.kind = .function)
    (h : Bn C fd args kw st fun yl st₁ => (yl.map (·.1)).Nodup ∧ (∀ x ∈ yl, fd.scope.names.lookup x.1 = some .local ∨ (fd.scope.names.lookup x.1 = some .cell ∧ x.1 ∈ (fd.scope.names.filter isCell).map (·.1))) ∧
      ((∀ x ∈ (fd.scope.names.filter isCell).map (·.1), fd.scope.names.lookup x ≠ some .local)) ∧ ((fd.scope.names.filter isCell).map (·.1)).Nodup ∧
      ∀ cel : List (PySem.Str × Addr), cel.map (·.1) = ((fd.scope.names.filter isCell).map (·.1)).reverse →
        ExC C fd.code lv fd.scope cel (yl.filter fun x => decide (fd.scope.names.lookup x.1 = some .local)) body (cellSt yl cel ++ st₁) (retP Post)) :
    Fn C (lv + 1) (.ref a) args kw st Post := fun P A s vs kvs R ao Rr hv hkv k => by
  have hoH := Rr.h0 a _ (G.kin a _ ho)
  have hA1 : AOk lv A := ⟨ao.handled, by have := ao.depth; lia, by have := ao.units; lia⟩
  refine codeAny_call_function ao.room hoH rfl hco hgen hb ((codeRec_of G.kin hcd).keeps Rr.h0) ?_
  refine h P A.in1 s vs kvs _ _ Rr hv hkv fun P₁ yl binds st₁ h₁ k₁ hyl S₁ R₁ hbi => ?_
  refine xe05 hyl fun hnd hkinds hcl hcnd hbody => ?_; clear hyl
  rw [hclo]
  have hkeys := hbi.keys
  have hcn := cellsFrom_names fd.scope.names (h₁.objs.size + 1) []
  refine wpAny_newFunctionEnv_cells hk (fun x hx => ?_) fun env he s' X => ?_
  · have hx' : x.1 ∈ yl.map (·.1) := hkeys ▸ List.mem_map_of_mem hx
    refine xe12 (List.mem_map.mp hx') fun y hy e => ?_
    rcases hkinds y hy with q | ⟨q, z⟩
    · exact .inl (e ▸ q)
    · refine .inr ⟨e ▸ q, ?_⟩
      have hm : x.1 ∈ (cellsFrom (h₁.objs.size + 1) fd.scope.names []).map (·.1) := by rw [hcn, ← e]; simpa using z
      refine xe12 (List.mem_map.mp hm) fun c hc ec => ?_
      cases hq : (cellsFrom (h₁.objs.size + 1) fd.scope.names []).lookup x.1 with
      | some _ => rfl
      | none => exact absurd (List.lookup_eq_none_iff.mp hq c hc) (by simp [ec])
  · refine xe21 X.toInCall.same fun h₂ tk hs' => ?_
    subst hs'
    have hkeep : ∀ b o, h₁.get? b = some o → h₂.get? b = some o := X.toInCall.keep
    refine ⟨(G.nolimit.keeps R₁.h0).keeps hkeep, codeAny_func ?_⟩
    have hsc : env.scope = fd.scope := by rw [he]; rfl
    have hcells : env.cells = cellsFrom (h₁.objs.size + 1) fd.scope.names [] := by rw [he]; rfl
    have hloc : env.locals = h₁.objs.size := by rw [he]; rfl
    have hkof : env.kindOf = fun n => fd.scope.names.lookup n := by rw [he]; rfl
    have new : ∀ b, h₁.objs.size ≤ b → h₁.get? b = none := fun b hb => by
      cases e : h₁.get? b with
      | none => rfl
      | some o => exact absurd (Heap.lt_size e) (Nat.not_lt.mpr hb)
    have hPn : ∀ b, h₁.objs.size ≤ b → P₁ b = none := fun b hb => by
      cases e : P₁ b with
      | none => rfl
      | some o => have := R₁.keep b o e; rw [new b hb] at this; cases this
    have hSn : ∀ b, h₁.objs.size ≤ b → b ∉ adr st₁ := fun b hb hm => by
      refine xe12 (List.mem_map.mp hm) fun y hy e => ?_
      obtain ⟨_, o, ho, _⟩ := R₁.own y hy
      rw [e, new b hb] at ho; cases ho
    have hab : ∀ n c, (n, c) ∈ env.cells → h₁.objs.size < c := fun n c hm => by have := X.above n c hm; rw [hloc] at this; exact this
    have hcelN : env.cells.map (·.1) = ((fd.scope.names.filter isCell).map (·.1)).reverse := by rw [hcells, hcn]; simp
    have hcelNd : (env.cells.map (·.1)).Nodup := by rw [hcelN]; exact List.pairwise_reverse.mpr (hcnd.imp Ne.symm)
    have look : ∀ n c, (n, c) ∈ env.cells → env.cells.lookup n = some c := by
      have gen : ∀ l : List (PySem.Str × Addr), (l.map (·.1)).Nodup → ∀ n c, (n, c) ∈ l → l.lookup n = some c := by
        intro l
        induction l with
        | nil => intro _ n c hm; cases hm
        | cons p r ih =>
          intro hn n c hm
          rw [List.map_cons, List.nodup_cons] at hn
          rw [List.lookup_cons]
          rcases List.mem_cons.mp hm with e | hm
          · subst e; simp
          · have : n ≠ p.1 := fun e => hn.1 (e ▸ List.mem_map.mpr ⟨(n, c), hm, rfl⟩)
            have hb : (n == p.1) = false := beq_eq_false_iff_ne.mpr this
            rw [hb]; exact ih hn.2 n c hm
      exact gen _ hcelNd
    have hadr : adr (cellSt yl env.cells) = env.cells.map (·.2) := by unfold adr cellSt; rw [List.map_map]; rfl
    have R₂ : Rp C P₁ (cellSt yl env.cells ++ st₁) h₂ := by
      refine ⟨R₁.base, fun b o e => hkeep b o (R₁.keep b o e), ?_, fun x hx => ?_, ⟨fun hm => ?_, R₁.one.2⟩⟩
      · refine (?_ : ((cellSt yl env.cells ++ st₁).map (·.1)).Nodup)
        rw [List.map_append]
        refine List.nodup_append.mpr ⟨?_, R₁.nd, fun x hx y hy e => ?_⟩
        · refine (?_ : (adr (cellSt yl env.cells)).Nodup)
          rw [hadr]
          exact List.pairwise_map.mpr X.apart
        · subst e
          have hx' : x ∈ adr (cellSt yl env.cells) := hx
          rw [hadr] at hx'
          refine xe12 (List.mem_map.mp hx') fun p hp qe0 => ?_; subst qe0
          exact hSn _ (Nat.le_of_lt (hab p.1 p.2 hp)) hy
      · rcases List.mem_append.mp hx with hx | hx
        · unfold cellSt at hx
          refine xe12 (List.mem_map.mp hx) fun p hp qe0 => ?_; subst qe0
          have hlt := hab p.1 p.2 hp
          refine ⟨hPn _ (Nat.le_of_lt hlt), ?_⟩
          refine xe12 (X.cell p.1 p.2 (look p.1 p.2 hp)) fun o ho hd => ?_
          refine ⟨o, ho, ?_⟩
          have hpm : p.1 ∈ (fd.scope.names.filter isCell).map (·.1) := by
            have : p.1 ∈ env.cells.map (·.1) := List.mem_map_of_mem hp
            rw [hcelN] at this; simpa using this
          have hnl : env.kindOf p.1 ≠ some .local := by rw [hkof]; exact hcl _ hpm
          rw [bindC_on env.kindOf binds _ p.1 (by rw [hkeys]; exact hnd) hnl rfl] at hd
          cases q : yl.lookup p.1 with
          | none => rw [hbi.miss q] at hd; exact .cell0 hd
          | some y => refine xe12 (hbi.find' q) fun v e1 e2 => ?_; rw [e1] at hd; exact .cell hd e2
        · obtain ⟨q1, o, q2, q3⟩ := R₁.own x hx
          exact ⟨q1, o, hkeep _ _ q2, q3⟩
      · have hm' : 1 ∈ adr (cellSt yl env.cells) ++ adr st₁ := by unfold adr at hm ⊢; rw [List.map_append] at hm; exact hm
        rcases List.mem_append.mp hm' with q | q
        · rw [hadr] at q
          refine xe12 (List.mem_map.mp q) fun p hp e => ?_
          have h1 := hab p.1 p.2 hp
          have h2 := R₁.big
          rw [e] at h1; exact absurd (Nat.lt_trans h2 h1) (Nat.lt_irrefl _)
        · exact R₁.one.1 q
    have F₂ : FRp C P₁ (yl.filter fun x => decide (fd.scope.names.lookup x.1 = some .local)) env (cellSt yl env.cells ++ st₁) h₂ := by
      refine ⟨⟨_, X.toInCall.ns, fun x y e => ?_⟩, ?_, fun hm => ?_⟩
      · have gen : ∀ l : Locs, (l.filter fun x => decide (fd.scope.names.lookup x.1 = some .local)).lookup x = some y → l.lookup x = some y ∧ fd.scope.names.lookup x = some .local := by
          intro l
          induction l with
          | nil => intro e; cases e
          | cons p r ih =>
            intro e
            rw [List.filter_cons] at e
            split at e
            · rename_i q
              rw [List.lookup_cons] at e ⊢
              by_cases hx : x = p.1
              · subst hx; simp at e; subst e; simpa using of_decide_eq_true q
              · have hb : (x == p.1) = false := beq_eq_false_iff_ne.mpr hx
                rw [hb] at e ⊢; exact ih e
            · rename_i q
              refine xe02 (ih e) fun i1 i2 => ?_
              have : x ≠ p.1 := fun z => q (by rw [← z, i2]; simp)
              have hb : (x == p.1) = false := beq_eq_false_iff_ne.mpr this
              rw [List.lookup_cons, hb]; exact ⟨i1, i2⟩
        refine xe02 (gen yl e) fun g1 g2 => ?_
        refine xe12 (hbi.find' g1) fun v e1 e2 => ?_
        exact ⟨v, bindL_on env.kindOf binds _ x v (by rw [hkeys]; exact hnd) e1 (by rw [hkof]; exact g2), e2⟩
      · rw [hloc]; exact hPn _ (Nat.le_refl _)
      · rw [hloc] at hm
        have hm' : h₁.objs.size ∈ adr (cellSt yl env.cells) ++ adr st₁ := by unfold adr at hm ⊢; rw [List.map_append] at hm; exact hm
        rcases List.mem_append.mp hm' with q | q
        · rw [hadr] at q
          refine xe12 (List.mem_map.mp q) fun p hp e => ?_
          exact absurd (hab p.1 p.2 hp) (by rw [e]; exact Nat.lt_irrefl _)
        · exact hSn _ (Nat.le_refl _) q
    have en : EOk fd.scope env.cells env := ⟨hsc, rfl, by rw [he]; exact hgl, by rw [he]; exact hbu, hk⟩
    have ad : AOk lv (A.deeper env) := ⟨ao.handled, by refine (?_ : A.depth + 1 + 10 * lv ≤ 900); have := ao.depth; lia, by refine (?_ : A.units + 3 + 50 * lv ≤ 9000); have := ao.units; lia⟩
    have hcode : env.code = fd.code := by rw [he]; rfl
    refine hbody env.cells hcelN P₁ (A.deeper env) env _ _ _ hcode ad en R₂ F₂ fun P₃ f fl loc' st₃ h₃ k₃ hf S₃ R₃ F₃ hfl => ?_
    have S : Step P P₃ st st₃ s.heap h₃ := by
      refine S₁.trans ⟨S₃.p, fun b hb => ?_, fun b hb => ?_, fun b o e hb => ?_⟩
      · rcases S₃.p' b hb with q | q | q
        · exact .inl q
        · refine .inr (.inl ?_)
          cases z : h₁.get? b with
          | none => rfl
          | some o => rw [hkeep b o z] at q; cases q
        · have q' : b ∈ adr (cellSt yl env.cells) ++ adr st₁ := by unfold adr at q ⊢; rw [List.map_append] at q; exact q
          rcases List.mem_append.mp q' with q | q
          · rw [hadr] at q
            refine xe12 (List.mem_map.mp q) fun p hp qe0 => ?_; subst qe0
            exact .inr (.inl (new _ (Nat.le_of_lt (hab p.1 p.2 hp))))
          · exact .inr (.inr q)
      · rcases S₃.sb b hb with q | q
        · have q' : b ∈ adr (cellSt yl env.cells) ++ adr st₁ := by unfold adr at q ⊢; rw [List.map_append] at q; exact q
          rcases List.mem_append.mp q' with q | q
          · rw [hadr] at q
            refine xe12 (List.mem_map.mp q) fun p hp qe0 => ?_; subst qe0
            exact .inr (new _ (Nat.le_of_lt (hab p.1 p.2 hp)))
          · exact .inl q
        · refine .inr ?_
          cases z : h₁.get? b with
          | none => rfl
          | some o => rw [hkeep b o z] at q; cases q
      · have hlt := Heap.lt_size e
        refine S₃.keep b o (hkeep b o e) (fun q => ?_) (by rw [hloc]; exact Nat.ne_of_lt hlt)
        have q' : b ∈ adr (cellSt yl env.cells) ++ adr st₁ := by unfold adr at q ⊢; rw [List.map_append] at q; exact q
        rcases List.mem_append.mp q' with q | q
        · rw [hadr] at q
          refine xe12 (List.mem_map.mp q) fun p hp qe0 => ?_; subst qe0
          exact absurd (hab p.1 p.2 hp) (Nat.lt_asymm hlt)
        · exact hb q
    cases hfl with
    | next => exact k P₃ .none .none st₃ h₃ _ hf S R₃ .none
    | brk => exact k P₃ .none .none st₃ h₃ _ hf S R₃ .none
    | cont => exact k P₃ .none .none st₃ h₃ _ hf S R₃ .none
    | ret hv => exact k P₃ _ _ st₃ h₃ _ hf S R₃ hv

theorem Fn.def {a : Addr} {oc : Value} {od : Option Addr} {fd : FuncData} {osl : Array (Option Value)} {body : List Stmt} {args : List AV} {kw : List (PySem.Str × AV)} {Post : AV → St → Prop} (G : Gd C)
    (ho : C.K.lookup a = some ⟨oc, od, .func fd, osl⟩) (hcd : codeIn C.K fd.code fd.qualname = true) (hb : fd.body = .stmts body) (hclo : fd.closure = []) (hgl : fd.globals = mainGlobals) (hbu : fd.builtins = builtinsNs)
    (hco : fd.scope.isCoroutine = false) (hgen : fd.scope.isGenerator = false) (hk : fd.scope.kind = .function)
    (h : Bn C fd args kw st fun yl st₁ => (yl.map (·.1)).Nodup ∧ (∀ x ∈ yl, fd.scope.names.lookup x.1 = some .local ∨ (fd.scope.names.lookup x.1 = some .cell ∧ x.1 ∈ (fd.scope.names.filter isCell).map (·.1))) ∧
      ((∀ x ∈ (fd.scope.names.filter isCell).map (·.1), fd.scope.names.lookup x ≠ some .local)) ∧ ((fd.scope.names.filter isCell).map (·.1)).Nodup ∧
      ∀ cel : List (PySem.Str × Addr), cel.map (·.1) = ((fd.scope.names.filter isCell).map (·.1)).reverse →
        Ex C lv fd.scope cel (yl.filter fun x => decide (fd.scope.names.lookup x.1 = some .local)) body (cellSt yl cel ++ st₁) (retP Post)) :
    Fn C (lv + 1) (.ref a) args kw st Post :=
  Fn.defC G ho hcd hb hclo hgl hbu hco hgen hk fun P A s vs kvs Q E R hv hk' k => h P A s vs kvs Q E R hv hk' fun P' yl binds st' h' tk hp => k P' yl binds st' h' tk ⟨hp.1, hp.2.1, hp.2.2.1, hp.2.2.2.1, fun cel hc P A env s Q E _ => hp.2.2.2.2 cel hc P A env s Q E⟩
end
section
variable {C : Cx} {lv : Nat} {sc : Scope} {cel : List (PySem.Str × Addr)} {loc : Locs} {st : St}

noncomputable def lentIter (T : String) : Bool := ["enumerate", "zip", "dict_itemiterator", "dict_reverseitemiterator", "odict_iterator", "itertools.zip_longest", "itertools.pairwise"].contains T
theorem letGo_of {M : Model} {A : Around} {E : Value → Shared → Prop} {s : Shared} {t : Expr} {I : Addr} {v : Value} {Q : Unit → Shared → Prop} (h : ∃ o T, s.heap.get? I = some o ∧ o.cls = .type T ∧ lentIter T = false) (hq : Q () s) :
    wpAny M A (letOwnedTupleGo t (.ref I) v) Q E s := by
  refine xe23 h fun o T ho hc hl => ?_; clear h
  have key : ∀ a, wpAny M A (do
      let o ← load I
      match o.cls, o.data with
      | .type n, .fields vs =>
        if ["enumerate", "zip", "dict_itemiterator", "dict_reverseitemiterator", "odict_iterator", "itertools.zip_longest", "itertools.pairwise"].contains n && vs[0]? == some (rawInt a) then
          rule "for.unpacks-the-owned-tuple"
          updateField I 0 .none
      | _, _ => pure ()) Q E s := fun a => by
    refine wpAny_bind (wpAny_load ho ?_)
    rw [hc]
    split
    · rename_i n vs e1 e2
      cases e1
      unfold lentIter at hl
      rw [hl]
      exact wpAny_pure hq
    · exact wpAny_pure hq
  have kT : wpAny M A (letOwnedTupleGo (.List [] ⟨0, 0, 0, 0⟩) (.ref I) v) Q E s := by
    cases v with
    | ref a => exact key a
    | _ => exact wpAny_pure hq
  cases t <;> first | exact wpAny_pure hq | exact kT

noncomputable def ItO (C : Cx) (x : AV) (st : St) (ys : List AV) : Prop :=
  ∀ (P : PM) (A : Around) (s : Shared) (v : Value) (Q : Value → Shared → Prop) (E : Value → Shared → Prop), A.handled = none → Rp C P st s.heap → VRep C P x v →
    (∀ I fp Pi Si h' k, (∀ A' : Around, A'.handled = none → Walks C.prog C.w A' I fp [I] ys.length Pi Si) → (∀ j u, Pi j u → ∃ y, ys[j]? = some y ∧ VRep C P y u) → (∀ j h, Si j h → ∃ o T, h.get? I = some o ∧ o.cls = .type T ∧ lentIter T = false) → Si 0 h' →
      s.heap.get? I = none → (∀ b ∈ fp, h'.get? b ≠ none ∧ (s.heap.get? b = none ∨ P b ≠ none)) → (∀ b o, s.heap.get? b = some o → h'.get? b = some o) → (∀ b ∈ fp, b ≠ I → P b ≠ none) → Q (.ref I) { s with heap := h', toks := k }) →
    wpAny (model C.prog C.w) A (pyIter v) Q E s
structure Wk (C : Cx) (P : PM) (I : Addr) (ys : List AV) (ok : St → Prop) (Si : Nat → Heap → Prop) : Prop where
  item : ∀ (i : Nat) (P' : PM) (st' : St) (A : Around) (s : Shared) (Q : Option Value → Shared → Prop) (E : Value → Shared → Prop), A.handled = none → i < ys.length → (∀ b o, P b = some o → P' b = some o) → ok st' → Rp C P' st' s.heap → Si i s.heap →
    (∀ v h' tk y, ys[i]? = some y → VRep C P' y v → Si (i + 1) h' → (∀ b o, b ∉ [I] → s.heap.get? b = some o → h'.get? b = some o) → Q (some v) { s with heap := h', toks := tk }) → wpAny (model C.prog C.w) A (pyNext (.ref I)) Q E s
  done : ∀ (P' : PM) (st' : St) (A : Around) (s : Shared) (Q : Option Value → Shared → Prop) (E : Value → Shared → Prop), A.handled = none → (∀ b o, P b = some o → P' b = some o) → ok st' → Rp C P' st' s.heap → Si ys.length s.heap →
    (∀ h' tk, (∀ b o, b ∉ [I] → s.heap.get? b = some o → h'.get? b = some o) → Q none { s with heap := h', toks := tk }) → wpAny (model C.prog C.w) A (pyNext (.ref I)) Q E s
  self : ∀ (i : Nat) (P' : PM) (st' : St) (A : Around) (s : Shared) (Q : Value → Shared → Prop) (E : Value → Shared → Prop), A.handled = none → (∀ b o, P b = some o → P' b = some o) → ok st' → Rp C P' st' s.heap → Si i s.heap → Q (.ref I) s → wpAny (model C.prog C.w) A (pyIter (.ref I)) Q E s
  frame : ∀ i h h', Si i h → (∀ o, h.get? I = some o → h'.get? I = some o) → Si i h'
  cls : ∀ j h, Si j h → ∃ o T, h.get? I = some o ∧ o.cls = .type T ∧ lentIter T = false
noncomputable def ItW (C : Cx) (x : AV) (st : St) (ys : List AV) (ok : St → Prop) : Prop :=
  ∀ (P : PM) (A : Around) (s : Shared) (v : Value) (Q : Value → Shared → Prop) (E : Value → Shared → Prop), A.handled = none → Rp C P st s.heap → VRep C P x v →
    (∀ I Si h' k, Wk C P I ys ok Si → Si 0 h' → s.heap.get? I = none → (∀ b o, s.heap.get? b = some o → h'.get? b = some o) → Q (.ref I) { s with heap := h', toks := k }) → wpAny (model C.prog C.w) A (pyIter v) Q E s
noncomputable def ItOf (C : Cx) (x : AV) (st : St) (ys : List AV) : Prop := ItW C x st ys fun _ => True
theorem ItO.to {x : AV} {ys : List AV} (l : ItO C x st ys) : ItOf C x st ys := fun P A s v Q E hh R hv k => by
  refine l P A s v Q E hh R hv fun I fp Pi Si h₂ k₂ hW hPi hIc hS0 hwr hfp hk₂ hfz => ?_
  -- what the walk needs beyond its own place is frozen
  have at1 : ∀ {i : Nat} {h : Heap} {P' : PM} {st' : St}, (∀ b o, P b = some o → P' b = some o) → Rp C P' st' h → (∃ h0, Si i h0 ∧ (∀ b ∈ fp, b ≠ I → ∀ o, h0.get? b = some o → P b = some o) ∧ ∀ o, h0.get? I = some o → h.get? I = some o) → Si i h := fun hp R' ⟨h0, hS, hf, hI⟩ => by
    refine (hW A hh).frame _ _ _ hS fun b hb o e => ?_
    by_cases z : b = I
    · subst z; exact hI o e
    · exact R'.keep b o (hp b o (hf b hb z o e))
  have up : ∀ {i : Nat} {h h' : Heap} {P' : PM} {st' : St}, (∀ b o, P b = some o → P' b = some o) → Rp C P' st' h → Si i h' → (∀ b o, b ∉ [I] → h.get? b = some o → h'.get? b = some o) → ∃ h0, Si i h0 ∧ (∀ b ∈ fp, b ≠ I → ∀ o, h0.get? b = some o → P b = some o) ∧ ∀ o, h0.get? I = some o → h'.get? I = some o := fun hp R' hS hk => by
    refine ⟨_, hS, fun b hb hne o e => ?_, fun _ e => e⟩
    refine xe11 (Option.ne_none_iff_exists'.mp (hfz b hb hne)) fun o' e' => ?_
    have := hk b o' (fun hm => hne (List.mem_singleton.mp hm)) (R'.keep b o' (hp b o' e'))
    rw [e] at this; cases this; exact e'
  refine k I (fun i h => ∃ h0, Si i h0 ∧ (∀ b ∈ fp, b ≠ I → ∀ o, h0.get? b = some o → P b = some o) ∧ ∀ o, h0.get? I = some o → h.get? I = some o) h₂ k₂ ⟨?_, ?_, ?_, ?_, ?_⟩ ?_ hwr hk₂
  · intro i P' st' A' s' Q' E' hA hi hp _ R' hS hQ
    refine (hW A' hA).item i s' Q' E' hi (at1 hp R' hS) fun v h' tk hP hS' hk' => ?_
    refine xe12 (hPi i v hP) fun y hy hvy => ?_
    exact hQ v h' tk y hy (hvy.mono hp) (up hp R' hS' hk') hk'
  · intro P' st' A' s' Q' E' hA hp _ R' hS hQ
    exact (hW A' hA).done s' Q' E' (at1 hp R' hS) hQ
  · intro i P' st' A' s' Q' E' hA hp _ R' hS hq
    exact (hW A' hA).self i s' Q' E' (at1 hp R' hS) hq
  · intro i h h' ⟨h0, hS, hf, hI⟩ hk'
    exact ⟨h0, hS, hf, fun o e => hk' o (hI o e)⟩
  · intro j h ⟨h0, hS, _, hI⟩
    refine xe22 (hIc j h0 hS) fun o T e q => ?_
    exact ⟨o, T, hI o e, q⟩
  · refine ⟨h₂, hS0, fun b hb hne o e => ?_, fun _ e => e⟩
    refine xe11 (Option.ne_none_iff_exists'.mp (hfz b hb hne)) fun o' e' => ?_
    have := hk₂ b o' (R.keep b o' e')
    rw [e] at this; cases this; exact e'


theorem ItO.lst {xs : List AV} : ItO C (.lst xs) st xs := fun P A s v Q E hh R hv k => by
  cases hv with
  | @lst a o _ vs hP hl hvs =>
    refine xe11 hl fun n qe0 => ?_; clear hl; subst qe0
    have ha := R.keep a _ hP
    have hL : s.heap.IsList a vs.toArray := ⟨_, ha, rfl, n, rfl⟩
    have hlt := Heap.lt_size ha
    refine wpAny_pyIter_list hL ?_
    have hlen : xs.length = vs.toArray.size := by simp [hvs.length]
    refine k s.heap.objs.size [s.heap.objs.size, a] _ _ _ s.toks (fun A' hA => hlen ▸ Walks.list hA s.heap.objs.size a (Nat.ne_of_lt hlt) vs.toArray) (fun j u e => hvs.get' (by simpa using e)) (fun j h e => ?_) ⟨⟨_, Heap.get?_push_size _ rfl, rfl, rfl⟩, hL.at fun o e => Heap.get?_push_of_some _ e⟩ ?_ (fun b hb => ?_) (fun b o e => Heap.get?_push_of_some _ e) (fun b hb hne => (by rcases List.mem_cons.mp hb with e | hb; exact absurd e hne; rw [List.mem_singleton.mp hb, hP]; simp))
    · refine xe13 e.1 fun o ho hc _ => ?_
      exact ⟨o, _, ho, hc, by decide +kernel⟩
    · cases e : s.heap.get? s.heap.objs.size with
      | none => rfl
      | some o => exact absurd (Heap.lt_size e) (Nat.lt_irrefl _)
    · rcases List.mem_cons.mp hb with rfl | hb
      · refine ⟨by rw [Heap.get?_push_size _ rfl]; simp, .inl ?_⟩
        cases e : s.heap.get? s.heap.objs.size with
        | none => rfl
        | some o => exact absurd (Heap.lt_size e) (Nat.lt_irrefl _)
      · rw [List.mem_singleton.mp hb]
        exact ⟨by rw [Heap.get?_push_of_some _ ha]; simp, .inr (by rw [hP]; simp)⟩
noncomputable def signs (x : PySem.Str) : List AV := x.cps.toList.map fun c => AV.str ⟨#[c]⟩
theorem ItO.str {x : PySem.Str} : ItO C (.str x) st (signs x) := fun P A s v Q E hh R hv k => by
  cases hv with
  | @str _ t =>
    have new : s.heap.get? s.heap.objs.size = none := by
      cases e : s.heap.get? s.heap.objs.size with
      | none => rfl
      | some o => exact absurd (Heap.lt_size e) (Nat.lt_irrefl _)
    have hlen : (signs x).length = x.cps.size := by simp [signs]
    have hP : ∀ j u, SignAt x j u → ∃ y, (signs x)[j]? = some y ∧ VRep C P y u := fun j u ⟨c, w, e1, e2⟩ => by
      subst e2
      refine ⟨.str ⟨#[c]⟩, ?_, .str⟩
      unfold signs
      rw [List.getElem?_map, Array.getElem?_toList, e1]; rfl
    have hfp : ∀ o : Obj, o.isFreed = false → ∀ b ∈ [s.heap.objs.size], (s.heap.push o).get? b ≠ none ∧ (s.heap.get? b = none ∨ P b ≠ none) := fun o hf b hb => by
      rw [List.mem_singleton.mp hb]; exact ⟨by rw [Heap.get?_push_size _ hf]; simp, .inl new⟩
    cases ha : x.cps.all (· < 128)
    · refine wpAny_pyIter_wide ha ?_
      refine k s.heap.objs.size [s.heap.objs.size] _ _ _ s.toks (fun A' hA => hlen ▸ Walks.strWide hA _ x t) hP (fun j h e => ?_) ⟨_, Heap.get?_push_size _ rfl, rfl, rfl⟩ new (hfp _ rfl) (fun b o e => Heap.get?_push_of_some _ e) (fun b hb hne => absurd (List.mem_singleton.mp hb) hne)
      refine xe13 e fun o ho hc _ => ?_; clear e
      exact ⟨o, _, ho, hc, by decide +kernel⟩
    · refine wpAny_pyIter_ascii ha ?_
      refine k s.heap.objs.size [s.heap.objs.size] _ _ _ s.toks (fun A' hA => hlen ▸ Walks.strAscii hA _ x t) hP (fun j h e => ?_) ⟨_, Heap.get?_push_size _ rfl, rfl, rfl⟩ new (hfp _ rfl) (fun b o e => Heap.get?_push_of_some _ e) (fun b hb hne => absurd (List.mem_singleton.mp hb) hne)
      refine xe13 e fun o ho hc _ => ?_; clear e
      exact ⟨o, _, ho, hc, by decide +kernel⟩

theorem ItOf.lst {xs : List AV} : ItOf C (.lst xs) st xs := ItO.lst.to
theorem ItOf.str {x : PySem.Str} : ItOf C (.str x) st (signs x) := ItO.str.to
noncomputable def As (C : Cx) (sc : Scope) (cel : List (PySem.Str × Addr)) (loc : Locs) (t : Expr) (y : AV) (st : St) (Post : Locs → St → Prop) : Prop :=
  ∀ (P : PM) (A : Around) (env : Env) (s : Shared) (v : Value) (Q : Unit → Shared → Prop) (E : Value → Shared → Prop), A.handled = none → EOk sc cel env → Rp C P st s.heap → FRp C P loc env st s.heap → VRep C P y v →
    (∀ loc' st' h' k, Post loc' st' → StepX env.locals P P st st' s.heap h' → Rp C P st' h' → FRp C P loc' env st' h' → Q () { s with heap := h', toks := k }) → wpAny (model C.prog C.w) A (assign t env v) Q E s
theorem As.name {x : PySem.Str} {p : Pos} {y : AV} {Post : Locs → St → Prop} (h : Bd C sc cel loc x y st Post) : As C sc cel loc (.Name x p) y st Post := fun P A env s v Q E hh en R F hv k =>
  wpAny_assign_Name (h P A env s v Q E en R F hv k)

theorem Rp.ext {P : PM} {h h' : Heap} (R : Rp C P st h) (hk : ∀ b o, h.get? b = some o → h'.get? b = some o) : Rp C P st h' ∧ Step P P st st h h' :=
  ⟨⟨R.base, fun b o e => hk b o (R.keep b o e), R.nd, fun x hx => let ⟨h1, o, h2, h3⟩ := R.own x hx; ⟨h1, o, hk _ _ h2, h3⟩, R.one⟩, ⟨fun _ _ e => e, fun _ e => .inl e, fun _ e => .inl e, fun b o e _ => hk b o e⟩⟩
theorem As.tup2 {x1 : Nat} {t1 t2 : Expr} {p : Pos} {y z : AV} {Post : Locs → St → Prop} (hs : assignEach [t1, t2] = fun env => [(false, assign t1 env), (false, assign t2 env)])
    (h : As C sc cel loc t1 y st fun loc₁ st₁ => As C sc cel loc₁ t2 z st₁ Post) : As C sc cel loc (.Tuple [t1, t2] x1 p) (.tup [y, z]) st Post := fun P A env s v Q E hh en R F hv k => by
  cases hv with
  | @tup a o _ vs hP hl hvs =>
    refine xe11 hl fun n qe0 => ?_; clear hl; subst qe0
    cases hvs with
    | @cons _ u1 _ _ hu1 hr =>
      cases hr with
      | @cons _ u2 _ _ hu2 hr2 =>
        cases hr2
        have ht : s.heap.IsTuple a #[u1, u2] := ⟨_, R.keep a _ hP, rfl, n, rfl⟩
        have he : assignEach [t1, t2] env = [(false, assign t1 env), (false, assign t2 env)] := congrFun hs env
        refine wpAny_assign_Tuple hh ht (by rw [he]; rfl) (by rw [he]; rfl) fun h₁ hx₁ => ?_
        have up : ∀ b o, s.heap.get? b = some o → h₁.get? b = some o := fun b o x => hx₁ b o (Nat.ne_of_lt (Heap.lt_size x)) x
        refine xe02 (R.ext up) fun R₁ S₁ => ?_
        rw [he]
        refine (?_ : wpAny _ A (do holding [u2] (assign t1 env u1); holding [] (assign t2 env u2); pure ()) _ _ _)
        refine wpAny_bind (wpAny_holding (h P A env _ u1 _ E hh en R₁ (F.step S₁) hu1 fun loc₁ st₁ h₂ k₂ hp S₂ R₂ F₂ => ?_))
        refine wpAny_bind (wpAny_holding (hp P A env _ u2 _ E hh en R₂ F₂ hu2 fun loc₂ st₂ h₃ k₃ hq S₃ R₃ F₃ => wpAny_pure ?_))
        exact k loc₂ st₂ h₃ k₃ hq (((S₁.toX _).trans (F.step S₁).lives S₂).trans F₂.lives S₃) R₃ F₃

structure Lent (L : Addr) (P : PM) (st : St) (h : Heap) (fp : List Addr) (I : Addr) : Prop where
  pl : ∀ b ∈ fp, h.get? b ≠ none ∧ b ∉ adr st ∧ b ≠ L
  wr : P I = none
  sub : I ∈ fp
theorem Lent.step {L : Addr} {P P' : PM} {st st' : St} {h h' : Heap} {fp : List Addr} {I : Addr} (D : Lent L P st h fp I) (S : StepX L P P' st st' h h') : Lent L P' st' h' fp I ∧ ∀ b ∈ fp, ∀ o, h.get? b = some o → h'.get? b = some o := by
  refine ⟨⟨fun b hb => ?_, ?_, D.sub⟩, fun b hb o e => ?_⟩
  · refine xe03 (D.pl b hb) fun h1 h2 h3 => ?_
    refine xe11 (Option.ne_none_iff_exists'.mp h1) fun o e => ?_
    refine ⟨by rw [S.keep b o e h2 h3]; simp, fun hm => ?_, h3⟩
    rcases S.sb b hm with q | q
    · exact h2 q
    · exact h1 q
  · refine xe03 (D.pl I D.sub) fun h1 h2 h3 => ?_
    cases e : P' I with
    | none => rfl
    | some o =>
      rcases S.p' I (by rw [e]; simp) with q | q | q
      · exact absurd D.wr q
      · exact absurd q h1
      · exact absurd q h2
  · refine xe03 (D.pl b hb) fun h1 h2 h3 => ?_
    exact S.keep b o e h2 h3
theorem Lent.move {P P₀ : PM} {st₀ : St} {env : Env} {h₀ h h' : Heap} {fp : List Addr} {I : Addr} (D : Lent env.locals P st h fp I) (hw : h₀.get? I = none) (R : Rp C P st h) (F : FRp C P loc env st h)
    (hk : ∀ b o, b ∉ [I] → h.get? b = some o → h'.get? b = some o) (S : StepX env.locals P₀ P st₀ st h₀ h) :
    Rp C P st h' ∧ FRp C P loc env st h' ∧ StepX env.locals P₀ P st₀ st h₀ h' ∧ (h'.get? I ≠ none → Lent env.locals P st h' fp I) := by
  have hk' : ∀ b o, b ≠ I → h.get? b = some o → h'.get? b = some o := fun b o hb e => hk b o (fun hm => hb (List.mem_singleton.mp hm)) e
  have hLw : env.locals ≠ I := fun e => (D.pl _ D.sub).2.2 e.symm
  refine ⟨⟨R.base, fun b o e => hk' b o (fun hm => by rw [hm, D.wr] at e; cases e) (R.keep b o e), R.nd, fun x hx => ?_, R.one⟩, ⟨?_, F.off⟩, ⟨S.p, S.p', S.sb, fun b o e h1 h2 => hk' b o (fun hm => ?_) (S.keep b o e h1 h2)⟩, fun hI => ⟨fun b hb => ⟨?_, (D.pl b hb).2⟩, D.wr, D.sub⟩⟩
  · obtain ⟨h1, o, h2, h3⟩ := R.own x hx
    exact ⟨h1, o, hk' _ _ (fun hm => (D.pl _ D.sub).2.1 (hm ▸ List.mem_map_of_mem hx)) h2, h3⟩
  · refine xe12 F.ns fun m hn hm => ?_
    exact ⟨m, hn.at' fun o e => hk' _ o hLw e, hm⟩
  · rw [hm, hw] at e; cases e
  · by_cases hm : b = I
    · rw [hm]; exact hI
    · refine xe11 (Option.ne_none_iff_exists'.mp (D.pl b hb).1) fun o e => ?_
      rw [hk' b o hm e]; simp
theorem Lent.start {P : PM} {env : Env} {h h' : Heap} {fp : List Addr} {I : Addr} (R : Rp C P st h) (F : FRp C P loc env st h) (hI : I ∈ fp) (hw : h.get? I = none) (hfp : ∀ b ∈ fp, h'.get? b ≠ none ∧ (h.get? b = none ∨ P b ≠ none)) : Lent env.locals P st h' fp I := by
  refine ⟨fun b hb => ⟨(hfp b hb).1, fun hm => ?_, fun e => ?_⟩, ?_, hI⟩
  · refine xe12 (List.mem_map.mp hm) fun y hy e => ?_
    obtain ⟨q1, o, q2, _⟩ := R.own y hy
    rcases (hfp b hb).2 with z | z
    · rw [e] at q2; rw [z] at q2; cases q2
    · rw [e] at q1; exact z q1
  · subst e
    rcases (hfp _ hb).2 with z | z
    · exact F.lives z
    · exact z F.off.1
  · cases e : P I with
    | none => rfl
    | some o => have := R.keep I o e; rw [hw] at this; cases this

inductive LpI (C : Cx) (env : Env) (I : Addr) (Si : Nat → Heap → Prop) (Pw P₀ : PM) (st₀ : St) (h₀ : Heap) (Inv : Nat → Locs → St → Prop) (N : Nat) (s : Shared) : Nat → Shared → Prop
  | mk (i : Nat) (P' : PM) (loc' : Locs) (st' : St) (h' : Heap) (tk : Nat) (hi : i ≤ N) (hI : Inv i loc' st') (R : Rp C P' st' h') (F : FRp C P' loc' env st' h') (D : Lent env.locals P' st' h' [I] I) (hS : Si i h') (S : StepX env.locals P₀ P' st₀ st' h₀ h')
      (hp : ∀ b o, Pw b = some o → P' b = some o) : LpI C env I Si Pw P₀ st₀ h₀ Inv N s (N - i) { s with heap := h', toks := tk }
theorem loop_core {target : Expr} {body : List Stmt} {ys : List AV} {ok : St → Prop} {Si : Nat → Heap → Prop} {I : Addr} {Inv : Nat → Locs → St → Prop} {Post : Fl → Locs → St → Prop} {Pw P₀ : PM} {st₀ : St} {h₀ : Heap} {env : Env} {A : Around} {s s₁ : Shared} {R : Result → Shared → Prop}
    (W : Wk C Pw I ys ok Si) (hok : ∀ i loc' st', Inv i loc' st' → ok st')
    (hturn : ∀ i y loc' st', ys[i]? = some y → Inv i loc' st' → As C sc cel loc' target y st' fun loc₂ st₂ => Ex C lv sc cel loc₂ body st₂ (loopP Inv Post (i + 1)))
    (hend : ∀ loc' st', Inv ys.length loc' st' → Post .next loc' st') (a : AOk lv A) (en : EOk sc cel env) (hwr : h₀.get? I = none) (h0 : LpI C env I Si Pw P₀ st₀ h₀ Inv ys.length s ys.length s₁)
    (k : ∀ P' f fl loc' st' h' tk, Post f loc' st' → StepX env.locals P₀ P' st₀ st' h₀ h' → Rp C P' st' h' → FRp C P' loc' env st' h' → FlRep C P' f fl → R (.ok fl) { s with heap := h', toks := tk }) :
    codeAny (model C.prog C.w) A (.forLoop target (.ref I) body [] env) R s₁ := by
  refine codeAny_forLoop_any (LpI C env I Si Pw P₀ st₀ h₀ Inv ys.length s) ?_ ys.length h0
  rintro n s' ⟨i, P', loc', st', h', tk, hi, hI, R', F', D', hSi, S', hPP⟩
  by_cases hlt : i < ys.length
  · refine W.item i P' st' A _ _ _ a.handled hlt hPP (hok _ _ _ hI) R' hSi fun v₁ h₃ k₃ y hy hvy hS₃ hk₃ => ?_
    refine xe04 (D'.move hwr R' F' hk₃ S') fun R₃ F₃ S₃ hD => ?_
    have hcls := W.cls _ _ hS₃
    have D₃ := hD (by refine xe22 hcls fun o T ho _ => ?_; clear hcls; rw [ho]; simp)
    refine letGo_of hcls ?_
    refine hturn i y loc' st' hy hI P' A env _ v₁ _ _ a.handled en R₃ F₃ hvy fun loc₄ st₄ h₄ k₄ hb S₄ R₄ F₄ => ?_
    refine xe02 (D₃.step S₄) fun D₄ hf₄ => ?_
    refine hb P' A env _ _ _ a en R₄ F₄ fun P₅ f fl loc₅ st₅ h₅ k₅ hf S₅ R₅ F₅ hfl => ?_
    refine xe02 (D₄.step S₅) fun D₅ hf₅ => ?_
    have S₀₅ : StepX env.locals P₀ P₅ st₀ st₅ h₀ h₅ := (S₃.trans F₃.lives S₄).trans F₄.lives S₅
    have hS₅ : Si (i + 1) h₅ := W.frame _ _ _ hS₃ fun o e => hf₅ I List.mem_cons_self o (hf₄ I List.mem_cons_self o e)
    cases hfl with
    | next => exact ⟨_, by omega, .mk (i + 1) P₅ loc₅ st₅ h₅ k₅ hlt hf R₅ F₅ D₅ hS₅ S₀₅ fun b o e => S₅.p b o (hPP b o e)⟩
    | cont => exact ⟨_, by omega, .mk (i + 1) P₅ loc₅ st₅ h₅ k₅ hlt hf R₅ F₅ D₅ hS₅ S₀₅ fun b o e => S₅.p b o (hPP b o e)⟩
    | brk => exact k P₅ .next .next loc₅ st₅ h₅ k₅ hf S₀₅ R₅ F₅ .next
    | ret hv => exact k P₅ _ _ loc₅ st₅ h₅ k₅ hf S₀₅ R₅ F₅ (.ret hv)
  · have he : i = ys.length := by omega
    subst he
    refine W.done P' st' A _ _ _ a.handled hPP (hok _ _ _ hI) R' hSi fun h₃ k₃ hk₃ => ?_
    refine xe04 (D'.move hwr R' F' hk₃ S') fun R₃ F₃ S₃ _ => ?_
    exact wpAny_execs_nil (k P' .next .next loc' st' h₃ k₃ (hend loc' st' hI) S₃ R₃ F₃ .next)
theorem Ex1.loopW {target iter : Expr} {body : List Stmt} {p : Pos} {Post : Fl → Locs → St → Prop} (hfs : ∀ env x, foldedSetIterable iter env x = pure x)
    (h : Ev C lv sc cel loc iter st fun x st₁ => ∃ ys ok, ItW C x st₁ ys ok ∧ ∃ Inv : Nat → Locs → St → Prop, Inv 0 loc st₁ ∧ (∀ i loc' st', Inv i loc' st' → ok st') ∧
      (∀ i y loc' st', ys[i]? = some y → Inv i loc' st' → As C sc cel loc' target y st' fun loc₂ st₂ => Ex C lv sc cel loc₂ body st₂ (loopP Inv Post (i + 1))) ∧
      (∀ loc' st', Inv ys.length loc' st' → Post .next loc' st')) : Ex1 C lv sc cel loc (.For target iter body [] p) st Post := fun P A env s Q E a en R F k => by
  refine wpAny_For (h P A env s _ E a en R F fun P₁ x v st₁ h₁ k₁ hx S₁ R₁ hv => ?_) (hfs env)
  obtain ⟨ys, ok, hit, Inv, hi0, hok, hturn, hend⟩ := hx
  have F₁ := F.step S₁
  refine hit P₁ A _ v _ E a.handled R₁ hv fun I Si h₂ k₂ W hS0 hwr hk₂ => ?_
  refine xe02 (R₁.ext hk₂) fun R₂ S₂ => ?_
  have D₂ : Lent env.locals P₁ st₁ h₂ [I] I := Lent.start R₁ F₁ List.mem_cons_self hwr fun b hb => by
    rw [List.mem_singleton.mp hb]
    refine xe22 (W.cls 0 _ hS0) fun o T ho _ => ?_
    exact ⟨by rw [ho]; simp, .inl hwr⟩
  exact loop_core W hok hturn hend a en hwr (LpI.mk 0 P₁ loc st₁ h₂ k₂ (Nat.zero_le _) hi0 R₂ (F₁.step S₂) D₂ hS0 (S₂.toX _) fun _ _ e => e) fun P₅ f fl loc₅ st₅ h₅ k₅ hf S₀₅ R₅ F₅ hfl => k P₅ f fl loc₅ st₅ h₅ k₅ hf ((S₁.toX env.locals).trans F₁.lives S₀₅) R₅ F₅ hfl

theorem Ex1.loop {target iter : Expr} {body : List Stmt} {p : Pos} {Post : Fl → Locs → St → Prop} (hfs : ∀ env x, foldedSetIterable iter env x = pure x)
    (h : Ev C lv sc cel loc iter st fun x st₁ => ∃ ys, ItOf C x st₁ ys ∧ ∃ Inv : Nat → Locs → St → Prop, Inv 0 loc st₁ ∧
      (∀ i y loc' st', ys[i]? = some y → Inv i loc' st' → As C sc cel loc' target y st' fun loc₂ st₂ => Ex C lv sc cel loc₂ body st₂ (loopP Inv Post (i + 1))) ∧
      (∀ loc' st', Inv ys.length loc' st' → Post .next loc' st')) : Ex1 C lv sc cel loc (.For target iter body [] p) st Post :=
  Ex1.loopW hfs (Ev.mono h fun x s hq => xe12 hq fun ys h1 hr => xe13 hr fun Inv h2 h3 h4 => ⟨ys, _, h1, Inv, h2, fun _ _ _ _ => True.intro, h3, h4⟩)

theorem Ex1.while {test : Expr} {body : List Stmt} {p : Pos} {Post : Fl → Locs → St → Prop} (Inv : Nat → Locs → St → Prop) (n₀ : Nat) (h0 : Inv n₀ loc st)
    (turn : ∀ n loc' st', Inv n loc' st' → Tr C lv sc cel loc' test st' fun b st₁ => if b then Ex C lv sc cel loc' body st₁ (lessP Inv Post n)
      else Post .next loc' st₁) : Ex1 C lv sc cel loc (.While test body [] p) st Post := fun P A env s Q E a en R F k => by
  refine wpAny_While (codeAny_whileLoop (fun n s' => ∃ P' loc' st' h' tk, s' = { s with heap := h', toks := tk } ∧ Inv n loc' st' ∧ Rp C P' st' h' ∧ FRp C P' loc' env st' h' ∧ StepX env.locals P P' st st' s.heap h') ?_ n₀ ⟨P, loc, st, s.heap, s.toks, rfl, h0, R, F, (Step.refl ..).toX _⟩)
  rintro n s' ⟨P', loc', st', h', tk, rfl, hI, R', F', S'⟩
  refine turn n loc' st' hI P' A env _ _ _ a en R' F' fun P₁ b st₁ h₁ k₁ hb S₁ R₁ => ?_
  have F₁ := F'.step S₁
  have S₀₁ := S'.trans F'.lives (S₁.toX env.locals)
  cases b with
  | false =>
    simp only [Bool.false_eq_true, if_false] at hb ⊢
    exact wpAny_execs_nil (k P₁ .next .next loc' st₁ h₁ k₁ hb S₀₁ R₁ F₁ .next)
  | true =>
    simp only [if_true] at hb ⊢
    refine hb P₁ A env _ _ _ a en R₁ F₁ fun P₅ f fl loc₅ st₅ h₅ k₅ hf S₅ R₅ F₅ hfl => ?_
    have S₀₅ := S₀₁.trans F₁.lives S₅
    cases hfl with
    | next => refine xe12 hf fun m hm hq => ?_; clear hf; exact ⟨m, hm, P₅, loc₅, st₅, h₅, k₅, rfl, hq, R₅, F₅, S₀₅⟩
    | cont => refine xe12 hf fun m hm hq => ?_; clear hf; exact ⟨m, hm, P₅, loc₅, st₅, h₅, k₅, rfl, hq, R₅, F₅, S₀₅⟩
    | brk => exact k P₅ .next .next loc₅ st₅ h₅ k₅ hf S₀₅ R₅ F₅ .next
    | ret hv => exact k P₅ _ _ loc₅ st₅ h₅ k₅ hf S₀₅ R₅ F₅ (.ret hv)
end
section
variable {C : Cx} {lv : Nat} {sc : Scope} {cel : List (PySem.Str × Addr)} {loc : Locs} {st : St}

noncomputable def compTurnG (gens : List Comprehension) (emit : Sem Unit) (e : Expr) (depth : Nat) (it acc : Value) (env : Env) : Sem Fin := do
  let some g := gens[depth]? | unsupported "internal:comprehension-depth"
  standAt (if g.is_async != 0 then e.pos else g.iter.pos)
  match ← if g.is_async != 0 then asyncNext it else pyNext it with
  | none => pure (.done .next)
  | some v =>
    letOwnedTupleGo g.target it v
    assign g.target env v
    let mut ok := true
    for c in g.ifs do
      if ok then ok ← isTrue c env (eval c env)
    if ok then
      match gens[depth + 1]? with
      | some g' =>
        let x ← eval g'.iter env
        standAt g'.iter.pos
        let x ← if g'.is_async != 0 then foldedIterable g'.iter x else foldedSetIterable g'.iter env x
        let _ ← runOwn (.compStart e (depth + 1) (← holding [x] (if g'.is_async != 0 then asyncIter x else pyIter x)) acc env) env
      | none => emit
    again (.compLoop e depth it acc env)
noncomputable def emitL (elt : Expr) (acc : Value) (env : Env) : Sem Unit := do let _ ← call (.builtin "list.append") [acc, ← eval elt env]
noncomputable def emitD (k v : Expr) (acc : Value) (env : Env) : Sem Unit := do
  let kv ← eval k env
  let vv ← holding [kv] (eval v env)
  match acc with
  | .ref d => do
    standAt { k.pos with endLine := v.pos.endLine, endCol := v.pos.endCol }
    holding [kv, vv] (dictSet d kv vv)
  | _ => unsupported "internal:dictcomp"
inductive IsComp : Expr → List Comprehension → (Value → Env → Sem Unit) → Prop
  | list {elt : Expr} {gens : List Comprehension} {scope : Scope} {pos : Pos} : IsComp (.ListComp elt gens scope pos) gens (emitL elt)
  | dict {k v : Expr} {gens : List Comprehension} {scope : Scope} {pos : Pos} : IsComp (.DictComp k v gens scope pos) gens (emitD k v)
theorem IsComp.turn {e : Expr} {gens : List Comprehension} {em : Value → Env → Sem Unit} (h : IsComp e gens em) (depth : Nat) (it acc : Value) (env : Env) : compTurn e depth it acc env = compTurnG gens (em acc env) e depth it acc env := by
  cases h <;> rfl
theorem IsComp.loop {e : Expr} {gens : List Comprehension} {em : Value → Env → Sem Unit} (h : IsComp e gens em) (tbl : String → Option Builtin) (depth : Nat) (it acc : Value) (env : Env) :
    denote tbl (.compLoop e depth it acc env) = (compTurn e depth it acc env).onRaise (fun x => do noteFrame x env; theTreesLotGoes x) := by
  cases h <;> rfl
theorem IsComp.start {e : Expr} {gens : List Comprehension} {em : Value → Env → Sem Unit} (h : IsComp e gens em) (tbl : String → Option Builtin) (depth : Nat) (it acc : Value) (env : Env) :
    denote tbl (.compStart e depth it acc env) = (compStart e depth it acc env).onRaise (fun x => do noteFrame x env; standAt theWindowsPlace) := by
  cases h <;> rfl
theorem IsComp.quiet {e : Expr} {gens : List Comprehension} {em : Value → Env → Sem Unit} (h : IsComp e gens em) (depth : Nat) (it acc : Value) (env : Env) : (Code.compLoop e depth it acc env).quiet = true := by
  cases h <;> rfl
theorem IsComp.underL {e : Expr} {gens : List Comprehension} {em : Value → Env → Sem Unit} (h : IsComp e gens em) (A : Around) (depth : Nat) (it acc : Value) (env : Env) : A.under (.compLoop e depth it acc env) = A := by
  cases h <;> exact Around.under_of_weight rfl rfl
theorem IsComp.underS {e : Expr} {gens : List Comprehension} {em : Value → Env → Sem Unit} (h : IsComp e gens em) (A : Around) (depth : Nat) (it acc : Value) (env : Env) : A.under (.compStart e depth it acc env) = A := by
  cases h <;> exact Around.under_of_weight rfl rfl
theorem IsComp.clauses {e : Expr} {gens : List Comprehension} {em : Value → Env → Sem Unit} (h : IsComp e gens em) : clausesOf e = gens := by cases h <;> rfl

noncomputable def Ts (C : Cx) (lv : Nat) (sc : Scope) (cel : List (PySem.Str × Addr)) (loc : Locs) (ifs : List Expr) (st : St) (Post : Bool → St → Prop) : Prop :=
  match ifs with
  | [] => Post true st
  | c :: r => Tr C lv sc cel loc c st fun b st' => if b then Ts C lv sc cel loc r st' Post else Post false st'
theorem tests_no {M : Model} {A : Around} {E : Value → Shared → Prop} {s : Shared} {env : Env} {Q : Bool → Shared → Prop} (h : Q false s) : ∀ ifs : List Expr,
    wpAny M A (forIn ifs false fun c r => if r = true then do let ok ← isTrue c env (eval c env); pure (ForInStep.yield ok) else pure (ForInStep.yield r)) Q E s
  | [] => by rw [List.forIn_nil]; exact wpAny_pure h
  | c :: r => by rw [List.forIn_cons]; exact wpAny_bind (wpAny_pure (tests_no h r))
theorem tests_of {env : Env} : ∀ (ifs : List Expr) (st : St) (Post : Bool → St → Prop), Ts C lv sc cel loc ifs st Post →
    ∀ (P : PM) (A : Around) (s : Shared) (Q : Bool → Shared → Prop) (E : Value → Shared → Prop), AOk lv A → EOk sc cel env → Rp C P st s.heap → FRp C P loc env st s.heap →
    (∀ P' b st' h' k, Post b st' → Step P P' st st' s.heap h' → Rp C P' st' h' → Q b { s with heap := h', toks := k }) →
    wpAny (model C.prog C.w) A (forIn ifs true fun c r => if r = true then do let ok ← isTrue c env (eval c env); pure (ForInStep.yield ok) else pure (ForInStep.yield r)) Q E s
  | [], st, Post, h, P, A, s, Q, E, a, en, R, F, k => by rw [List.forIn_nil]; exact wpAny_pure (k P true st s.heap s.toks h (Step.refl ..) R)
  | c :: r, st, Post, h, P, A, s, Q, E, a, en, R, F, k => by
    rw [List.forIn_cons]
    refine wpAny_bind (wpAny_bind (h P A env s _ E a en R F fun P₁ b st₁ h₁ k₁ hb S₁ R₁ => wpAny_pure ?_))
    cases b with
    | true =>
      simp only [if_true] at hb
      exact tests_of r st₁ Post hb P₁ A _ Q E a en R₁ (F.step S₁) fun P₂ b st₂ h₂ k₂ hb₂ S₂ R₂ => k P₂ b st₂ h₂ k₂ hb₂ (S₁.trans S₂) R₂
    | false =>
      simp only [Bool.false_eq_true, if_false] at hb
      exact tests_no (k P₁ false st₁ h₁ k₁ hb S₁ R₁) r

noncomputable def Em (C : Cx) (lv : Nat) (sc : Scope) (cel : List (PySem.Str × Addr)) (loc : Locs) (em : Value → Env → Sem Unit) (D : Addr) (st : St) (Post : St → Prop) : Prop :=
  ∀ (P : PM) (A : Around) (env : Env) (s : Shared) (Q : Unit → Shared → Prop) (E : Value → Shared → Prop), AOk lv A → EOk sc cel env → Rp C P st s.heap → FRp C P loc env st s.heap →
    (∀ P' st' h' k, Post st' → Step P P' st st' s.heap h' → Rp C P' st' h' → Q () { s with heap := h', toks := k }) → wpAny (model C.prog C.w) A (em (.ref D) env) Q E s

noncomputable def CLp (C : Cx) (lv : Nat) (sc : Scope) (cel : List (PySem.Str × Addr)) (loc : Locs) (e : Expr) (depth : Nat) (D : Addr) (ys : List AV) (st : St) (Post : Locs → St → Prop) (ok : St → Prop := fun _ => True) : Prop :=
  ∀ (P : PM) (A : Around) (env : Env) (s : Shared) (I : Addr) (Pw : PM) (Si : Nat → Heap → Prop) (P₀ : PM) (st₀ : St) (h₀ : Heap) (R : Result → Shared → Prop), AOk lv A → EOk sc cel env → Rp C P st s.heap → FRp C P loc env st s.heap →
    Wk C Pw I ys ok Si → (∀ b o, Pw b = some o → P b = some o) → Lent env.locals P st s.heap [I] I → h₀.get? I = none → Si 0 s.heap → StepX env.locals P₀ P st₀ st h₀ s.heap →
    (∀ P' loc' st' h' k, Post loc' st' → StepX env.locals P₀ P' st₀ st' h₀ h' → Rp C P' st' h' → FRp C P' loc' env st' h' → R (.ok .next) { s with heap := h', toks := k }) →
    codeAny (model C.prog C.w) A (.compLoop e depth (.ref I) (.ref D) env) R s

theorem compStart_of {e : Expr} {gens : List Comprehension} {em : Value → Env → Sem Unit} (hc : IsComp e gens em) {target iter : Expr} {ifs : List Expr} {depth : Nat} (hg : gens[depth]? = some ⟨target, iter, ifs, 0⟩)
    {prog : Program} {w : World} {A : Around} {env : Env} {s : Shared} {I D : Addr} {R : Result → Shared → Prop}
    (self : ∀ (Q : Value → Shared → Prop) (E : Value → Shared → Prop), Q (.ref I) s → wpAny (model prog w) A (pyIter (.ref I)) Q E s)
    (h : codeAny (model prog w) A (.compLoop e depth (.ref I) (.ref D) env) R s) : codeAny (model prog w) A (.compStart e depth (.ref I) (.ref D) env) R s := by
  refine codeAny_of_tree ?_
  rw [hc.underS]
  refine (?_ : wpAny _ _ (denote table (.compStart e depth (.ref I) (.ref D) env)) _ _ s)
  rw [hc.start]
  refine wpAny_notedAt ?_
  unfold compStart
  rw [hc.clauses, hg]
  have hq := hc.quiet depth (.ref I) (.ref D) env
  refine (?_ : wpAny _ _ (ask >>= _) _ _ s)
  refine wpAny_bind (wpAny_askSetting (wpAny_ite ?_))
  split
  · first
      | exact wpAny_bind (wpAny_pure (wpAny_pure (And.intro hq h)))
      | exact wpAny_pure (And.intro hq h)
  · refine wpAny_bind (wpAny_rule ?_)
    refine (?_ : wpAny _ _ (standAt iter.pos >>= _) _ _ s)
    refine wpAny_bind (wpAny_standAt ?_)
    first
      | exact wpAny_bind (self _ _ (wpAny_pure (And.intro hq h)))
      | exact wpAny_bind (wpAny_pure (wpAny_bind (self _ _ (wpAny_pure (And.intro hq h)))))

noncomputable def CIn (C : Cx) (lv : Nat) (sc : Scope) (cel : List (PySem.Str × Addr)) (loc : Locs) (e : Expr) (gens : List Comprehension) (em : Value → Env → Sem Unit) (depth : Nat) (D : Addr) (st : St) (Post : Locs → St → Prop) : Prop :=
  match gens[depth + 1]? with
  | none => Em C lv sc cel loc em D st fun st' => Post loc st'
  | some g => g.is_async = 0 ∧ (∀ env x, foldedSetIterable g.iter env x = pure x) ∧ Ev C lv sc cel loc g.iter st fun x st₁ => ∃ ys, ItOf C x st₁ ys ∧ CLp C lv sc cel loc e (depth + 1) D ys st₁ Post

theorem CLp.intro {e : Expr} {gens : List Comprehension} {em : Value → Env → Sem Unit} (hc : IsComp e gens em) {target iter : Expr} {ifs : List Expr} {depth : Nat} (hg : gens[depth]? = some ⟨target, iter, ifs, 0⟩) {D : Addr} {ys : List AV} {Post : Locs → St → Prop} {ok : St → Prop}
    (Inv : Nat → Locs → St → Prop) (hi0 : Inv 0 loc st)
    (hturn : ∀ i y loc' st', ys[i]? = some y → Inv i loc' st' → As C sc cel loc' target y st' fun loc₂ st₂ => Ts C lv sc cel loc₂ ifs st₂ fun b st₃ =>
      if b then CIn C lv sc cel loc₂ e gens em depth D st₃ (Inv (i + 1)) else Inv (i + 1) loc₂ st₃)
    (hend : ∀ loc' st', Inv ys.length loc' st' → Post loc' st') (hok : ∀ i loc' st', Inv i loc' st' → ok st' := by intros; exact True.intro) : CLp C lv sc cel loc e depth D ys st Post ok := fun P A env s I Pw Si P₀ st₀ h₀ R a en Rr F W hPw D₀ hw hS0 S₀ k => by
  refine codeAny_loop (hc.quiet depth (.ref I) (.ref D) env) (LpI C env I Si P P₀ st₀ h₀ Inv ys.length s) ?_ ys.length (LpI.mk 0 P loc st s.heap s.toks (Nat.zero_le _) hi0 Rr F D₀ hS0 S₀ fun _ _ e => e)
  rintro n s' ⟨i, P', loc', st', h', tk, hi, hI, R', F', D', hSi, S', hPP⟩
  rw [hc.underL]
  refine (?_ : wpAny _ _ (denote table (.compLoop e depth (.ref I) (.ref D) env)) _ _ _)
  rw [hc.loop]
  refine wpAny_noted ?_
  rw [hc.turn]
  unfold compTurnG
  rw [hg]
  refine wpAny_bind (wpAny_standAt ?_)
  refine (?_ : wpAny _ _ (pyNext (.ref I) >>= _) _ _ _)
  refine wpAny_bind ?_
  by_cases hlt : i < ys.length
  · refine W.item i P' st' A _ _ _ a.handled hlt (fun b o e => hPP b o (hPw b o e)) (hok _ _ _ hI) R' hSi fun v₁ h₃ k₃ y hy hvy hS₃ hk₃ => ?_
    refine xe04 (D'.move hw R' F' hk₃ S') fun R₃ F₃ S₃ hD => ?_
    have hcls := W.cls _ _ hS₃
    have D₃ := hD (by refine xe22 hcls fun o T ho _ => ?_; clear hcls; rw [ho]; simp)
    refine wpAny_bind (letGo_of hcls (wpAny_bind ?_))
    refine hturn i y loc' st' hy hI P' A env _ v₁ _ _ a.handled en R₃ F₃ hvy fun loc₄ st₄ h₄ k₄ hb S₄ R₄ F₄ => ?_
    refine xe02 (D₃.step S₄) fun D₄ hf₄ => ?_
    have S₀₄ := S₃.trans F₃.lives S₄
    dsimp only
    refine wpAny_bind (tests_of ifs st₄ _ hb P' A _ _ _ a en R₄ F₄ fun P₅ b st₅ h₅ k₅ hb₅ S₅ R₅ => ?_)
    have F₅ := F₄.step S₅
    refine xe02 (D₄.step (S₅.toX env.locals)) fun D₅ hf₅ => ?_
    have S₀₅ := S₀₄.trans F₄.lives (S₅.toX env.locals)
    have hS₅ : Si (i + 1) h₅ := W.frame _ _ _ hS₃ fun o e => hf₅ I List.mem_cons_self o (hf₄ I List.mem_cons_self o e)
    have fin : ∀ (P₆ : PM) (loc₆ : Locs) (st₆ : St) (h₆ : Heap) (k₆ : Nat), Inv (i + 1) loc₆ st₆ → Rp C P₆ st₆ h₆ → FRp C P₆ loc₆ env st₆ h₆ → Lent env.locals P₆ st₆ h₆ [I] I → Si (i + 1) h₆ → StepX env.locals P₀ P₆ st₀ st₆ h₀ h₆ → (∀ b o, P b = some o → P₆ b = some o) →
        Code.compLoop e depth (.ref I) (.ref D) env = Code.compLoop e depth (.ref I) (.ref D) env ∧ ∃ m, m < ys.length - i ∧ LpI C env I Si P P₀ st₀ h₀ Inv ys.length s m { s with heap := h₆, toks := k₆ } := fun P₆ loc₆ st₆ h₆ k₆ hq R₆ F₆ D₆ hS₆ S₆ hP₆ => ⟨rfl, ys.length - (i + 1), by omega, .mk (i + 1) P₆ loc₆ st₆ h₆ k₆ hlt hq R₆ F₆ D₆ hS₆ S₆ hP₆⟩
    cases b with
    | false =>
      simp only [Bool.false_eq_true, if_false] at hb₅ ⊢
      exact wpAny_pure (fin P₅ loc₄ st₅ h₅ k₅ hb₅ R₅ F₅ D₅ hS₅ S₀₅ fun b o e => S₅.p b o (hPP b o e))
    | true =>
      simp only [if_true] at hb₅ ⊢
      unfold CIn at hb₅
      cases hg' : gens[depth + 1]? with
      | none =>
        rw [hg'] at hb₅
        dsimp only at hb₅ ⊢
        refine wpAny_bind (hb₅ P₅ A env _ _ _ a en R₅ F₅ fun P₆ st₆ h₆ k₆ hq S₆ R₆ => wpAny_pure ?_)
        refine xe02 (D₅.step (S₆.toX env.locals)) fun D₆ hf₆ => ?_
        exact fin P₆ loc₄ st₆ h₆ k₆ hq R₆ (F₅.step S₆) D₆ (W.frame _ _ _ hS₅ fun o e => hf₆ I List.mem_cons_self o e) (S₀₅.trans F₅.lives (S₆.toX _)) fun b o e => S₆.p b o (S₅.p b o (hPP b o e))
      | some g =>
        rw [hg'] at hb₅
        dsimp only at hb₅ ⊢
        refine xe03 hb₅ fun has hfs hev => ?_; clear hb₅
        rw [has]
        refine wpAny_bind (hev P₅ A env _ _ _ a en R₅ F₅ fun P₆ x u st₆ h₆ k₆ hx S₆ R₆ hu => wpAny_bind (wpAny_standAt ?_))
        refine xe12 hx fun zs hit hcl => ?_; clear hx
        have F₆ := F₅.step S₆
        refine xe02 (D₅.step (S₆.toX env.locals)) fun D₆ hf₆ => ?_
        refine (?_ : wpAny _ _ (foldedSetIterable g.iter env u >>= _) _ _ _)
        rw [hfs env u]
        refine wpAny_bind (wpAny_pure ?_)
        refine (?_ : wpAny _ _ (holding [u] (pyIter u) >>= _) _ _ _)
        refine wpAny_bind (wpAny_holding (hit P₆ A _ u _ _ a.handled R₆ hu fun I₂ Si₂ h₇ k₇ W₂ hS0₂ hwr₂ hk₇ => ?_))
        refine xe02 (R₆.ext hk₇) fun R₇ S₇ => ?_
        have F₇ := F₆.step S₇
        refine xe02 (D₆.step (S₇.toX env.locals)) fun D₇ hf₇ => ?_
        have L₂ : Lent env.locals P₆ st₆ h₇ [I₂] I₂ := Lent.start R₆ F₆ List.mem_cons_self hwr₂ fun b hb => by
          rw [List.mem_singleton.mp hb]
          refine xe22 (W₂.cls 0 _ hS0₂) fun o T ho _ => ?_
          exact ⟨by rw [ho]; simp, .inl hwr₂⟩
        refine wpAny_bind (wpAny_runOwn ?_)
        obtain ⟨tg, itr, ifs', as'⟩ := g
        simp only at has
        subst has
        have am : A.mark none = A := by unfold Around.mark; cases A; rfl
        rw [am]
        refine compStart_of hc hg' (fun Q' E' hq => W₂.self 0 P₆ st₆ A _ Q' E' a.handled (fun _ _ e => e) trivial R₇ hS0₂ hq) ?_
        have SS : StepX env.locals P₀ P₆ st₀ st₆ h₀ h₆ := S₀₅.trans F₅.lives (S₆.toX _)
        refine hcl P₆ A env _ I₂ P₆ Si₂ P₆ st₆ h₆ _ a en R₇ F₇ W₂ (fun _ _ e => e) L₂ hwr₂ hS0₂ (S₇.toX _) fun P₈ loc₈ st₈ h₈ k₈ hq S₈ R₈ F₈ => wpAny_pure ?_
        refine xe02 (D₆.step S₈) fun D₈ hf₈ => ?_
        exact fin P₈ loc₈ st₈ h₈ k₈ hq R₈ F₈ D₈ (W.frame _ _ _ hS₅ fun o e => hf₈ I List.mem_cons_self o (hf₆ I List.mem_cons_self o e)) (SS.trans F₆.lives S₈) fun b o e => S₈.p b o (S₆.p b o (S₅.p b o (hPP b o e)))
  · have he : i = ys.length := by omega
    subst he
    refine W.done P' st' A _ _ _ a.handled (fun b o e => hPP b o (hPw b o e)) (hok _ _ _ hI) R' hSi fun h₃ k₃ hk₃ => wpAny_pure ?_
    refine xe04 (D'.move hw R' F' hk₃ S') fun R₃ F₃ S₃ _ => ?_
    exact k P' loc' st' h₃ k₃ (hend loc' st' hI) S₃ R₃ F₃
end
section
variable {C : Cx} {lv : Nat} {sc : Scope} {cel : List (PySem.Str × Addr)} {loc : Locs} {st : St}

theorem cellsFrom_app : ∀ (names : List (PySem.Str × NameKind)) (n : Nat) (acc : List (PySem.Str × Addr)), cellsFrom n names acc = cellsFrom n names [] ++ acc
  | [], n, acc => rfl
  | (x, k) :: r, n, acc => by
    unfold cellsFrom
    split
    · rw [cellsFrom_app r (n + 1) ((x, n) :: acc), cellsFrom_app r (n + 1) [(x, n)], List.append_assoc]; rfl
    · exact cellsFrom_app r n acc

noncomputable def closeFrom (cel : List (PySem.Str × Addr)) : List (PySem.Str × NameKind) → List (PySem.Str × Addr) → Option (List (PySem.Str × Addr))
  | [], acc => some acc
  | (n, k) :: r, acc => if k == .free then (match cel.lookup n with | some a => closeFrom cel r ((n, a) :: acc) | none => none) else closeFrom cel r acc
theorem closure_of {env : Env} : ∀ (names : List (PySem.Str × NameKind)) (acc cl : List (PySem.Str × Addr)), closeFrom env.cells names acc = some cl →
    forIn names acc (fun (x : PySem.Str × NameKind) (cs : List (PySem.Str × Addr)) => (if x.2 == .free then (do let a ← cellOf env x.1; pure (ForInStep.yield ((x.1, a) :: cs))) else pure (ForInStep.yield cs) : Sem (ForInStep (List (PySem.Str × Addr))))) = pure cl
  | [], acc, cl, h => by cases h; rw [List.forIn_nil]
  | (n, k) :: r, acc, cl, h => by
    rw [List.forIn_cons]
    unfold closeFrom at h
    dsimp only
    split at h
    · rename_i hk
      rw [if_pos hk]
      split at h
      · rename_i a ha
        unfold cellOf
        rw [ha]
        show (pure (ForInStep.yield ((n, a) :: acc)) >>= _) = _
        rw [pure_bind]
        exact closure_of r _ cl h
      · cases h
    · rename_i hk
      rw [if_neg hk]
      rw [pure_bind]
      exact closure_of r _ cl h
theorem closureFor_of {scope : Scope} {env : Env} {cl : List (PySem.Str × Addr)} (h : closeFrom env.cells scope.names [] = some cl) : closureFor scope env = pure cl := by
  have := closure_of scope.names [] cl h
  unfold closureFor
  have e : (forIn scope.names ([] : List (PySem.Str × Addr)) fun (x : PySem.Str × NameKind) (cs : List (PySem.Str × Addr)) => (match x with
      | (name, kind) => if (kind == NameKind.free) = true then do let a ← cellOf env name; pure (ForInStep.yield ((name, a) :: cs)) else pure (ForInStep.yield cs) : Sem (ForInStep (List (PySem.Str × Addr))))) = pure cl := this
  first
    | (show (forIn scope.names ([] : List (PySem.Str × Addr)) _ >>= _) = _; rw [e]; rfl)
    | (rw [e]; rfl)

noncomputable def relab (scope sc : Scope) : Scope := { scope with names := scope.names.map fun (n, k) => if (k == .free && sc.kind == .function && sc.names.lookup n == some .cell) then (n, .cell) else (n, k) }

theorem newCompEnv {M : Model} {A : Around} {E : Value → Shared → Prop} {s : Shared} {scope : Scope} {env : Env} {cl : List (PySem.Str × Addr)} {Q : Env → Shared → Prop}
    (hQ : ∀ cenv, cenv = newEnv scope s.heap.objs.size env.globals (cellsFrom (s.heap.objs.size + 1) scope.names [] ++ cl) env.qual none .none (some env) builtinsNs →
      Q cenv { s with heap := pushCells (s.heap.push { cls := .type "dict", data := .dict #[] }) scope.names }) :
    wpAny M A (newFunctionEnv scope env.globals cl [] env.qual none .none (some env)) Q E s := by
  simp only [newFunctionEnv, Option.isSome_some, if_true]
  refine wpAny_bind (wpAny_alloc ?_)
  refine wpAny_bind (wpAny_layCells _ (fun name kind cells => by cases hkc : kind == NameKind.cell <;> simp [hkc]) _ _ _ _ ?_)
  rw [show ({ s with heap := s.heap.push { cls := .type "dict", data := .dict #[] } } : Shared).heap.objs.size = s.heap.objs.size + 1 from Heap.size_push .., cellsFrom_app]
  rw [List.forIn_nil]
  exact wpAny_bind (wpAny_pure (wpAny_pure (hQ _ rfl)))

inductive Res : St → Addr → AV → St → Prop
  | lst {st₂ s' st₃ : St} {D : Addr} {xs : List AV} : Del st₂ D (.list xs) s' → st₃.Sublist s' → Res st₂ D (.lst xs) st₃
  | dct {st₂ s' st₃ : St} {D : Addr} {es : List (PySem.Str × AV)} : Del st₂ D (.dict es) s' → st₃.Sublist s' → Res st₂ D (.dct es) st₃
  | ref {st₂ st₃ : St} {D : Addr} : st₃.Sublist st₂ → Res st₂ D (.ref D) st₃
theorem Res.run {st₂ st₃ : St} {D : Addr} {y : AV} {P : PM} {h : Heap} (r : Res st₂ D y st₃) (R : Rp C P st₂ h) : ∃ P', Rp C P' st₃ h ∧ Step P P' st₂ st₃ h h ∧ VRep C P' y (.ref D) := by
  cases r with
  | lst d hs =>
    obtain ⟨_, o, ho, hr⟩ := R.own _ d.mem
    cases hr with
    | list hl hvs =>
      refine xe02 (R.frz d ho) fun R₂ S₂ => ?_
      exact ⟨_, R₂.sub hs, S₂.sub hs, .lst (by unfold addP; rw [if_pos rfl]) hl (hvs.mono S₂.p)⟩
  | dct d hs =>
    obtain ⟨_, o, ho, hr⟩ := R.own _ d.mem
    cases hr with
    | dict hl hvs =>
      refine xe02 (R.frz d ho) fun R₂ S₂ => ?_
      exact ⟨_, R₂.sub hs, S₂.sub hs, .dct (fun z => R.one.1 (z ▸ List.mem_map_of_mem d.mem)) (by unfold addP; rw [if_pos rfl]) hl (hvs.mono S₂.p)⟩
  | ref hs => exact ⟨P, R.sub hs, (Step.refl ..).sub hs, .ref⟩

inductive Acc0 : Sem Value → Obj → AO → Prop
  | list : Acc0 (newList []) { cls := .type "list", data := .seq #[] } (.list [])
  | dict : Acc0 newDict { cls := .type "dict", data := .dict #[] } (.dict [])
theorem Acc0.rep {t : Sem Value} {o : Obj} {x : AO} (h : Acc0 t o x) {P : PM} : ORep C P x o ∧ o.isFreed = false := by
  cases h with
  | list => exact ⟨.list ⟨0, rfl⟩ .nil, rfl⟩
  | dict => exact ⟨.dict (kvs := []) ⟨⟨rfl, rfl, rfl⟩, #[], 0, rfl, fun _ he => by simp at he, .nil, by simp⟩ .nil, rfl⟩
theorem Acc0.run {t : Sem Value} {o : Obj} {x : AO} (h : Acc0 t o x) {M : Model} {A : Around} {E : Value → Shared → Prop} {s : Shared} {Q : Value → Shared → Prop} (hq : Q (.ref s.heap.objs.size) { s with heap := s.heap.push o }) : wpAny M A t Q E s := by
  cases h with
  | list => exact wpAny_newObj_type hq (by refine (?_ : 0 ≤ sizeLine); exact Nat.zero_le _)
  | dict => exact wpAny_newObj_type hq (by refine (?_ : (#[] : Array DictEntry).size ≤ _); exact Nat.zero_le _)

noncomputable def cellNames (scope : Scope) : List PySem.Str := (scope.names.filter isCell).map (·.1)
noncomputable def CompIn (C : Cx) (lv : Nat) (sc : Scope) (cel : List (PySem.Str × Addr)) (loc : Locs) (e iter : Expr) (scope : Scope) (cl : List (PySem.Str × Addr)) (acc0 : AO) (st : St) (Post : AV → St → Prop) : Prop :=
  Ev C lv sc cel loc iter st fun x st₁ => ∃ ys ok, ItW C x st₁ ys ok ∧ (∀ (D : Addr) (nc : List (PySem.Str × Addr)), nc.map (·.1) = (cellNames scope).reverse → ok (cellSt [] nc ++ (D, acc0) :: st₁)) ∧
    ∀ (D : Addr) (nc : List (PySem.Str × Addr)), nc.map (·.1) = (cellNames scope).reverse →
      CLp C lv (relab scope sc) (nc ++ cl) [] e 0 D ys (cellSt [] nc ++ (D, acc0) :: st₁) (fun _ st₂ => ∃ y st₃, Res st₂ D y st₃ ∧ Post y st₃) ok

theorem comp_run {e iter target : Expr} {ifs : List Expr} {rest : List Comprehension} {em : Value → Env → Sem Unit} (hc : IsComp e (⟨target, iter, ifs, 0⟩ :: rest) em) {scope : Scope} {pos : Pos} {newAcc : Sem Value} {o0 : Obj} {acc0 : AO} (ha : Acc0 newAcc o0 acc0)
    (hk : scope.kind = .function) (hnames : ∀ x ∈ scope.names, x.2 = .local → scope.names.lookup x.1 = some .local) (hfs : ∀ env x, foldedSetIterable iter env x = pure x)
    {cl : List (PySem.Str × Addr)} (hcl : closeFrom cel scope.names [] = some cl) {Post : AV → St → Prop} (h : CompIn C lv sc cel loc e iter scope cl acc0 st Post)
    {P : PM} {A : Around} {env : Env} {s : Shared} {use : Option (Value → Sem Unit)} {Q : Value → Shared → Prop} {E : Value → Shared → Prop} (a : AOk lv A) (en : EOk sc cel env) (R : Rp C P st s.heap) (F : FRp C P loc env st s.heap)
    (k : ∀ P' x st' h' k L D, Post x st' → Step P P' st st' s.heap h' → Rp C P' st' h' → VRep C P' x (.ref D) → (∃ m, h'.Ns L m) → P' L = none → L ∉ adr st' → (∀ b o, s.heap.get? b = some o → b ∉ adr st → b ≠ L) →
      compPost (model C.prog C.w) A E use Q (.ref D) L (.ok .next) { s with heap := h', toks := k }) :
    wpAny (model C.prog C.w) A (comprehension e scope env pos newAcc false (eval iter env) use) Q E s := by
  have hclo : closureFor scope env = pure cl := closureFor_of (by rw [en.cells]; exact hcl)
  refine wpAny_comprehension_free hc.clauses (hfs env) hclo hk hnames ?_
  refine h P A env s _ E a en R F fun P₁ x v st₁ h₁ k₁ hx S₁ R₁ hv => ?_
  refine xe23 hx fun ys okS hit hok0 hloop => ?_; clear hx
  have F₁ := F.step S₁
  refine hit P₁ A _ v _ E a.handled R₁ hv fun I Si h₂ k₂ W hS0 hwr hk₂ => ?_
  refine xe02 (R₁.ext hk₂) fun R₂ S₂ => ?_
  refine ha.run ?_
  refine xe02 (ha.rep (C := C) (P := P₁)) fun hro hfr => ?_
  refine xe02 (R₂.push hro hfr) fun R₃ S₃ => ?_
  refine newCompEnv fun cenv hce => ?_
  have hsz : ({ s with heap := h₂.push o0, toks := k₂ } : Shared).heap.objs.size = h₂.objs.size + 1 := Heap.size_push ..
  -- the new block and its cells
  have hL : cenv.locals = (h₂.push o0).objs.size := by rw [hce]; rfl
  have hkeep : ∀ b o, (h₂.push o0).get? b = some o → (pushCells ((h₂.push o0).push { cls := .type "dict", data := .dict #[] }) scope.names).get? b = some o := fun b o e => pushCells_keeps _ _ b o (Heap.get?_push_of_some _ e)
  have ok := cellsFrom_ok scope.names ((h₂.push o0).push { cls := .type "dict", data := .dict #[] }) ((h₂.push o0).objs.size + 1) [] ⟨fun _ _ hm => (nomatch hm), List.Pairwise.nil⟩ (Nat.le_of_eq (Heap.size_push ..).symm)
  rw [show ((h₂.push o0).push ({ cls := .type "dict", data := .dict #[] } : Obj)).objs.size = (h₂.push o0).objs.size + 1 from Heap.size_push ..] at ok
  have new : ∀ b, (h₂.push o0).objs.size ≤ b → (h₂.push o0).get? b = none := fun b hb => by
    cases e : (h₂.push o0).get? b with
    | none => rfl
    | some o => exact absurd (Heap.lt_size e) (Nat.not_lt.mpr hb)
  have hns : (pushCells ((h₂.push o0).push { cls := .type "dict", data := .dict #[] }) scope.names).Ns cenv.locals fun _ => none := by
    rw [hL]; exact (Heap.Ns.new (h₂.push o0) (.type "dict")).keeps (pushCells_keeps _ _)
  generalize hnc : cellsFrom ((h₂.push o0).objs.size + 1) scope.names [] = nc at ok
  have hcells : cenv.cells = nc ++ cl := by rw [hce, ← hnc]; rfl
  have hncn : nc.map (·.1) = (cellNames scope).reverse := by rw [← hnc, cellsFrom_names]; simp [cellNames]
  generalize hH : pushCells ((h₂.push o0).push { cls := .type "dict", data := .dict #[] }) scope.names = H at hkeep ok hns
  have hPn : ∀ b, (h₂.push o0).objs.size ≤ b → P₁ b = none := fun b hb => by
    cases e : P₁ b with
    | none => rfl
    | some o => have := R₃.keep b o e; rw [new b hb] at this; cases this
  have hSn : ∀ b, (h₂.push o0).objs.size ≤ b → b ∉ adr ((h₂.objs.size, acc0) :: st₁) := fun b hb hm => by
    refine xe12 (List.mem_map.mp hm) fun y hy e => ?_
    obtain ⟨_, o, ho, _⟩ := R₃.own y hy
    rw [e, new b hb] at ho; cases ho
  have hadr : adr (cellSt [] nc) = nc.map (·.2) := by unfold adr cellSt; rw [List.map_map]; rfl
  have habove : ∀ p ∈ nc, (h₂.push o0).objs.size < p.2 := fun p hp => (ok.empty p.1 p.2 hp).2
  have R₄ : Rp C P₁ (cellSt [] nc ++ (h₂.objs.size, acc0) :: st₁) H := by
    refine ⟨R₃.base, fun b o e => hkeep b o (R₃.keep b o e), ?_, fun x hx => ?_, ⟨fun hm => ?_, R₃.one.2⟩⟩
    · refine (?_ : ((cellSt [] nc ++ (h₂.objs.size, acc0) :: st₁).map (·.1)).Nodup)
      rw [List.map_append]
      refine List.nodup_append.mpr ⟨?_, R₃.nd, fun x hx y hy e => ?_⟩
      · refine (?_ : (adr (cellSt [] nc)).Nodup)
        rw [hadr]
        exact List.pairwise_map.mpr ok.apart
      · subst e
        have hx' : x ∈ adr (cellSt [] nc) := hx
        rw [hadr] at hx'
        refine xe12 (List.mem_map.mp hx') fun p hp qe0 => ?_; subst qe0
        exact hSn _ (Nat.le_of_lt (habove p hp)) hy
    · rcases List.mem_append.mp hx with hx | hx
      · unfold cellSt at hx
        refine xe12 (List.mem_map.mp hx) fun p hp qe0 => ?_; subst qe0
        refine xe12 ((ok.empty p.1 p.2 hp).1) fun o ho hd => ?_
        exact ⟨hPn _ (Nat.le_of_lt (habove p hp)), o, ho, .cell0 hd⟩
      · obtain ⟨q1, o, q2, q3⟩ := R₃.own x hx
        exact ⟨q1, o, hkeep _ _ q2, q3⟩
    · have hm' : 1 ∈ adr (cellSt [] nc) ++ adr ((h₂.objs.size, acc0) :: st₁) := by unfold adr at hm ⊢; rw [List.map_append] at hm; exact hm
      rcases List.mem_append.mp hm' with q | q
      · rw [hadr] at q
        refine xe12 (List.mem_map.mp q) fun p hp e => ?_
        have h1 := habove p hp
        have h2 := R₃.big
        rw [e] at h1; exact absurd (Nat.lt_trans h2 h1) (Nat.lt_irrefl _)
      · exact R₃.one.1 q
  have F₄ : FRp C P₁ [] cenv (cellSt [] nc ++ (h₂.objs.size, acc0) :: st₁) H := by
    refine ⟨⟨_, hns, fun x y e => by cases e⟩, by rw [hL]; exact hPn _ (Nat.le_refl _), fun hm => ?_⟩
    rw [hL] at hm
    have hm' : (h₂.push o0).objs.size ∈ adr (cellSt [] nc) ++ adr ((h₂.objs.size, acc0) :: st₁) := by unfold adr at hm ⊢; rw [List.map_append] at hm; exact hm
    rcases List.mem_append.mp hm' with q | q
    · rw [hadr] at q
      refine xe12 (List.mem_map.mp q) fun p hp e => ?_
      exact absurd (habove p hp) (by rw [e]; exact Nat.lt_irrefl _)
    · exact hSn _ (Nat.le_refl _) q
  have h₁none : ∀ b, h₂.objs.size ≤ b → h₁.get? b = none := fun b hb => by
    cases e : h₁.get? b with
    | none => rfl
    | some o => exact absurd (Heap.lt_size (hk₂ b o e)) (Nat.not_lt.mpr hb)
  have S₄ : Step P₁ P₁ st₁ (cellSt [] nc ++ (h₂.objs.size, acc0) :: st₁) h₁ H := by
    refine ⟨fun _ _ e => e, fun _ e => .inl e, fun b hb => ?_, fun b o e _ => hkeep b o (Heap.get?_push_of_some _ (hk₂ b o e))⟩
    have hm' : b ∈ adr (cellSt [] nc) ++ adr ((h₂.objs.size, acc0) :: st₁) := by unfold adr at hb ⊢; rw [List.map_append] at hb; exact hb
    rcases List.mem_append.mp hm' with q | q
    · rw [hadr] at q
      refine xe12 (List.mem_map.mp q) fun p hp qe0 => ?_; subst qe0
      have h3 := habove p hp
      have h4 : (h₂.push o0).objs.size = h₂.objs.size + 1 := Heap.size_push ..
      refine .inr (h₁none p.2 ?_)
      rw [h4] at h3
      exact Nat.le_of_lt (Nat.lt_of_succ_lt h3)
    · rcases List.mem_cons.mp q with e | q
      · exact .inr (h₁none b (by rw [e]; exact Nat.le_refl _))
      · exact .inl q
  have hLnew : h₁.get? cenv.locals = none := h₁none _ (by rw [hL, Heap.size_push]; exact Nat.le_succ _)
  have en' : EOk (relab scope sc) (nc ++ cl) { cenv with scope := relabel scope env } := by
    refine ⟨?_, hcells, by rw [hce]; exact en.globals, by rw [hce]; exact en.builtins, hk⟩
    refine (?_ : relabel scope env = relab scope sc)
    unfold relabel relab Env.kindOf
    rw [en.scope]
  have D₄ : Lent cenv.locals P₁ (cellSt [] nc ++ (h₂.objs.size, acc0) :: st₁) H [I] I := by
    have pre : Lent env.locals P₁ st₁ h₂ [I] I := Lent.start R₁ F₁ List.mem_cons_self hwr fun b hb => by
      rw [List.mem_singleton.mp hb]
      refine xe22 (W.cls 0 _ hS0) fun o T ho _ => ?_
      exact ⟨by rw [ho]; simp, .inl hwr⟩
    refine ⟨fun b hb => ?_, pre.wr, pre.sub⟩
    refine xe03 (pre.pl b hb) fun q1 q2 q3 => ?_
    refine xe11 (Option.ne_none_iff_exists'.mp q1) fun o e => ?_
    have hlt : b < h₂.objs.size := Heap.lt_size e
    refine ⟨by rw [hkeep b o (Heap.get?_push_of_some _ e)]; simp, fun hm => ?_, fun e' => ?_⟩
    · rcases S₄.sb b hm with z | z
      · exact q2 z
      · have hm' : b ∈ adr (cellSt [] nc) ++ adr ((h₂.objs.size, acc0) :: st₁) := by unfold adr at hm ⊢; rw [List.map_append] at hm; exact hm
        rcases List.mem_append.mp hm' with q | q
        · rw [hadr] at q
          refine xe12 (List.mem_map.mp q) fun p hp qe0 => ?_; subst qe0
          have h3 := habove p hp
          have h4 : (h₂.push o0).objs.size = h₂.objs.size + 1 := Heap.size_push ..
          rw [h4] at h3
          exact absurd hlt (Nat.not_lt.mpr (Nat.le_of_lt (Nat.lt_of_succ_lt h3)))
        · rcases List.mem_cons.mp q with e' | q
          · rw [e'] at hlt; exact absurd hlt (Nat.lt_irrefl _)
          · exact q2 q
    · rw [e', hL, Heap.size_push] at hlt
      exact absurd hlt (Nat.not_lt.mpr (Nat.le_succ _))
  have hS0' : Si 0 H := W.frame _ _ _ hS0 fun o e => hkeep I o (Heap.get?_push_of_some _ e)
  refine compStart_of hc (by rfl) (fun Q' E' hq => W.self 0 P₁ _ A _ Q' E' a.handled (fun _ _ e => e) (hok0 _ nc hncn) R₄ hS0' hq) ?_
  refine hloop h₂.objs.size nc hncn P₁ A { cenv with scope := relabel scope env } _ I P₁ Si P₁ st₁ h₁ _ a en' R₄ ⟨F₄.ns, F₄.off⟩ W (fun _ _ e => e) D₄ hwr hS0' (S₄.toX _) fun P₅ loc₅ st₅ h₅ k₅ hq S₅ R₅ F₅ => ?_
  refine xe22 hq fun y st₆ hres hpost => ?_; clear hq
  refine xe13 (hres.run R₅) fun P₆ R₆ S₆ hvy => ?_
  have F₆ := F₅.step S₆
  have T₅ : Step P₁ P₅ st₁ st₅ h₁ h₅ := ⟨S₅.p, S₅.p', S₅.sb, fun b o e hb => S₅.keep b o e hb (fun z => by
    have z' : b = cenv.locals := z
    rw [z', hLnew] at e; cases e)⟩
  refine k P₆ y st₆ h₅ k₅ cenv.locals h₂.objs.size hpost ((S₁.trans T₅).trans S₆) R₆ hvy ?_ F₆.off.1 F₆.off.2 fun b o e hb z => ?_
  · refine xe12 F₆.ns fun m hm _ => ?_
    exact ⟨m, hm⟩
  · have := S₁.keep b o e hb
    rw [z, hLnew] at this; cases this
end
section
variable {C : Cx} {lv : Nat} {sc : Scope} {cel : List (PySem.Str × Addr)} {loc : Locs} {st : St}

theorem block_gone {P : PM} {st' : St} {L : Addr} {h h' : Heap} {P₀ : PM} {s : Heap} (S : Step P₀ P st st' s h) (R : Rp C P st' h) (hL : P L = none ∧ L ∉ adr st') (hn : ∀ b o, s.get? b = some o → b ∉ adr st → b ≠ L) (hs : Heap.SameBut L h h') :
    Rp C P st' h' ∧ Step P₀ P st st' s h' := by
  refine xe02 (sameBut_step R hL hs) fun S' R' => ?_
  exact ⟨R', ⟨S.p, S.p', S.sb, fun b o e hb => (hs.2 b (hn b o e hb)).trans (S.keep b o e hb)⟩⟩

theorem Ev.lcomp {elt iter target : Expr} {ifs : List Expr} {rest : List Comprehension} {scope : Scope} {pos : Pos} (hk : scope.kind = .function) (hnames : ∀ x ∈ scope.names, x.2 = .local → scope.names.lookup x.1 = some .local) (hfs : ∀ env x, foldedSetIterable iter env x = pure x)
    (cl : List (PySem.Str × Addr)) (hcl : closeFrom cel scope.names [] = some cl) {Post : AV → St → Prop} (h : CompIn C lv sc cel loc (.ListComp elt (⟨target, iter, ifs, 0⟩ :: rest) scope pos) iter scope cl (.list []) st Post) :
    Ev C lv sc cel loc (.ListComp elt (⟨target, iter, ifs, 0⟩ :: rest) scope pos) st Post := fun P A env s Q E a en R F k => by
  refine (?_ : wpAny _ A (comprehension (.ListComp elt (⟨target, iter, ifs, 0⟩ :: rest) scope pos) scope env _ (newList []) false (eval iter env) Option.none) Q E s)
  refine comp_run .list .list hk hnames hfs hcl h a en R F fun P' x st' h' tk L D hx S R' hv hns hP hL hn => ?_
  refine xe11 hns fun m hm => ?_; clear hns
  refine ⟨m, hm, fun h'' hs => ?_⟩
  refine xe02 (block_gone S R' ⟨hP, hL⟩ hn hs) fun R'' S'' => ?_
  exact k P' x (.ref D) st' h'' tk hx S'' R'' hv
theorem use_name {x : PySem.Str} {px : Pos} {Post : Fl → Locs → St → Prop} (hs : sc.names.lookup x = some .local)
    {P P' : PM} {A : Around} {env : Env} {s : Shared} {st' : St} {h' : Heap} {y : AV} {D L : Addr} {tk : Nat} {Q : Flow → Shared → Prop} {E : Value → Shared → Prop} (en : EOk sc cel env) (F : FRp C P loc env st s.heap)
    (hp : Post .next (setL loc x y) st') (S : Step P P' st st' s.heap h') (R' : Rp C P' st' h') (hv : VRep C P' y (.ref D)) (hns : ∃ m, h'.Ns L m) (hP : P' L = none) (hL : L ∉ adr st') (hn : ∀ b o, s.heap.get? b = some o → b ∉ adr st → b ≠ L)
    (k : ∀ P' f fl loc' st' h' k, Post f loc' st' → StepX env.locals P P' st st' s.heap h' → Rp C P' st' h' → FRp C P' loc' env st' h' → FlRep C P' f fl → Q fl { s with heap := h', toks := k }) :
    compPost (model C.prog C.w) A E (some (PySem.assign (.Name x px) env)) (fun _ s' => Q .next s') (.ref D) L (.ok .next) { s with heap := h', toks := tk } := by
  have F' := F.step S
  obtain ⟨⟨m, hn', hm⟩, hoff⟩ := F'
  refine xe32 (id F.ns.choose_spec.1) fun o0 _ _ e0 _ => ?_
  have hLL : env.locals ≠ L := hn _ o0 e0 F.off.2
  refine (?_ : wpAny _ A (PySem.assign (.Name x px) env (.ref D)) _ E _)
  refine wpAny_assign_Name (wpAny_storeName_local (by rw [Env.kindOf, en.scope]; exact hs) hn' (fun h₂ hn₂ hs₂ => ?_) (by rw [en.scope, en.kind]; rfl))
  refine xe11 hns fun mL hmL => ?_; clear hns
  refine ⟨mL, hmL.sameBut hs₂ (Ne.symm hLL), fun h₃ hs₃ => ?_⟩
  refine xe02 (sameBut_step R' hoff hs₂) fun S₂ R₂ => ?_
  refine xe02 (sameBut_step R₂ ⟨hP, hL⟩ hs₃) fun S₃ R₃ => ?_
  have F₃ : FRp C P' (setL loc x y) env st' h₃ := FRp.set hm hoff (hn₂.sameBut hs₃ hLL) hv
  refine k P' .next .next _ st' h₃ _ hp ⟨S.p, S.p', S.sb, fun b o e hb hbl => ?_⟩ R₃ F₃ .next
  exact (hs₃.2 b (hn b o e hb)).trans ((hs₂.2 b hbl).trans (S.keep b o e hb))

theorem Ex1.lcomp {elt iter target : Expr} {ifs : List Expr} {rest : List Comprehension} {scope : Scope} {pos spos px : Pos} {x : PySem.Str} (hsw : ∀ env, env.scope = sc → swapsWith (.ListComp elt (⟨target, iter, ifs, 0⟩ :: rest) scope pos) (some (.Name x px)) spos.line env = pure true) (hs : sc.names.lookup x = some .local)
    (hk : scope.kind = .function) (hnames : ∀ x ∈ scope.names, x.2 = .local → scope.names.lookup x.1 = some .local) (hfs : ∀ env x, foldedSetIterable iter env x = pure x)
    (cl : List (PySem.Str × Addr)) (hcl : closeFrom cel scope.names [] = some cl) {Post : Fl → Locs → St → Prop}
    (h : CompIn C lv sc cel loc (.ListComp elt (⟨target, iter, ifs, 0⟩ :: rest) scope pos) iter scope cl (.list []) st fun y st' => Post .next (setL loc x y) st') :
    Ex1 C lv sc cel loc (.Assign [.Name x px] (.ListComp elt (⟨target, iter, ifs, 0⟩ :: rest) scope pos) spos) st Post := fun P A env s Q E a en R F k => by
  rw [exec_Assign_Name_used _ _ _ _ (hsw env en.scope)]
  refine wpAny_bind (wpAny_standAt (wpAny_bind ?_))
  refine (?_ : wpAny _ A (do let _ ← comprehension (.ListComp elt (⟨target, iter, ifs, 0⟩ :: rest) scope pos) scope env _ (newList []) false (eval iter env) (some (PySem.assign (.Name x px) env))) _ _ s)
  refine wpAny_bind (wpAny_mono (comp_run (Q := fun _ s' => Q .next s') .list .list hk hnames hfs hcl h a en R F fun P' y st' h' tk L D hx S R' hv hns hP hL hn => ?_) (fun _ s' hq => wpAny_pure (wpAny_pure hq)) fun _ _ e => e)
  exact use_name hs en F hx S R' hv hns hP hL hn k
theorem Ex1.dcomp {ke ve iter target : Expr} {ifs : List Expr} {rest : List Comprehension} {scope : Scope} {pos spos px : Pos} {x : PySem.Str} (hsw : ∀ env, env.scope = sc → swapsWith (.DictComp ke ve (⟨target, iter, ifs, 0⟩ :: rest) scope pos) (some (.Name x px)) spos.line env = pure true) (hs : sc.names.lookup x = some .local)
    (hk : scope.kind = .function) (hnames : ∀ x ∈ scope.names, x.2 = .local → scope.names.lookup x.1 = some .local) (hfs : ∀ env x, foldedSetIterable iter env x = pure x)
    (cl : List (PySem.Str × Addr)) (hcl : closeFrom cel scope.names [] = some cl) {Post : Fl → Locs → St → Prop}
    (h : CompIn C lv sc cel loc (.DictComp ke ve (⟨target, iter, ifs, 0⟩ :: rest) scope pos) iter scope cl (.dict []) st fun y st' => Post .next (setL loc x y) st') :
    Ex1 C lv sc cel loc (.Assign [.Name x px] (.DictComp ke ve (⟨target, iter, ifs, 0⟩ :: rest) scope pos) spos) st Post := fun P A env s Q E a en R F k => by
  rw [exec_Assign_Name_used _ _ _ _ (hsw env en.scope)]
  refine wpAny_bind (wpAny_standAt (wpAny_bind ?_))
  refine (?_ : wpAny _ A (do let _ ← comprehension (.DictComp ke ve (⟨target, iter, ifs, 0⟩ :: rest) scope pos) scope env _ newDict false (eval iter env) (some (PySem.assign (.Name x px) env))) _ _ s)
  refine wpAny_bind (wpAny_mono (comp_run (Q := fun _ s' => Q .next s') .dict .dict hk hnames hfs hcl h a en R F fun P' y st' h' tk L D hx S R' hv hns hP hL hn => ?_) (fun _ s' hq => wpAny_pure (wpAny_pure hq)) fun _ _ e => e)
  exact use_name hs en F hx S R' hv hns hP hL hn k

theorem Cl.append {D : Addr} {xs : List AV} {y : AV} {st' : St} {Post : AV → St → Prop} (u : Upd st D (.list xs) (.list (xs ++ [y])) st') (hsz : xs.length ≤ sizeLine) (hp : Post .none st') : Cl C lv (.builtin "list.append") [.ref D, y] [] st Post :=
  fun P A s vs kvs Q E a Rr hv hk k => by
    obtain rfl := hk.nil_inv
    cases hv with
    | cons h1 h2 =>
      cases h1
      cases h2 with
      | @cons _ v _ _ h1 h2 =>
        cases h2
        refine xe12 ((Rr.own _ u.mem).2) fun o ho hr => ?_
        cases hr with
        | @list _ us _ hl hvs =>
          refine xe11 hl fun n qe0 => ?_; clear hl; subst qe0
          have hpl : s.heap.PlainList D us.toArray := ⟨n, ho⟩
          refine wpAny_list_append_plain hpl (fun h' hl' hs' => ?_) (by rw [List.size_toArray, ← hvs.length]; exact hsz)
          refine xe11 hl' fun n' ho' => ?_; clear hl'
          refine xe02 (Rr.upd u hs' ho' (.list ⟨n', by simp⟩ (hvs.append (.cons h1 .nil)))) fun R' S' => ?_
          exact k P .none .none st' h' s.toks hp S' R' .none
theorem Em.list {elt : Expr} {D : Addr} {Post : St → Prop} (h : Ev C lv sc cel loc elt st fun y st₁ => ∃ xs st', Upd st₁ D (.list xs) (.list (xs ++ [y])) st' ∧ xs.length ≤ sizeLine ∧ Post st') : Em C lv sc cel loc (emitL elt) D st Post :=
  fun P A env s Q E a en R F k => by
    unfold emitL
    refine wpAny_bind (h P A env s _ E a en R F fun P₁ y v st₁ h₁ k₁ hy S₁ R₁ hv => ?_)
    refine xe23 hy fun xs st' u hsz hp => ?_; clear hy
    refine xe12 ((R₁.own _ u.mem).2) fun o ho hr => ?_
    cases hr with
    | @list _ us _ hl hvs =>
      refine xe11 hl fun n qe0 => ?_; clear hl; subst qe0
      have hpl : h₁.PlainList D us.toArray := ⟨n, ho⟩
      refine wpAny_bind (wpAny_list_append_plain hpl (fun h' hl' hs' => wpAny_pure ?_) (by rw [List.size_toArray, ← hvs.length]; exact hsz))
      refine xe11 hl' fun n' ho' => ?_; clear hl'
      refine xe02 (R₁.upd u hs' ho' (.list ⟨n', by simp⟩ (hvs.append (.cons hv .nil)))) fun R' S' => ?_
      exact k P₁ st' h' k₁ hp (S₁.trans S') R'
end
section
variable {C : Cx} {lv : Nat} {sc : Scope} {cel : List (PySem.Str × Addr)} {loc : Locs} {st : St}

noncomputable def sL (ys : List PySem.Str) : List AV := ys.map AV.str
noncomputable def iL (ys : List Int) : List AV := ys.map AV.int
theorem strsAre {P : PM} : ∀ {ys : List PySem.Str} {vs : List Value}, VReps C P (sL ys) vs → StrsAre vs ys := by
  intro ys
  induction ys with
  | nil => intro vs h; rw [h.nil_inv]; exact .nil
  | cons y ys ih =>
    intro vs h
    refine xe23 (VReps.cons_inv (xs := sL ys) h) fun v us qe0 h1 h2 => ?_; subst qe0
    refine xe11 h1.str_inv fun t qe0 => ?_; subst qe0
    exact .cons _ _ (ih h2)
theorem intsAre {P : PM} : ∀ {ys : List Int} {vs : List Value}, VReps C P (iL ys) vs → IntsAre vs ys := by
  intro ys
  induction ys with
  | nil => intro vs h; rw [h.nil_inv]; exact .nil
  | cons y ys ih =>
    intro vs h
    refine xe23 (VReps.cons_inv (xs := iL ys) h) fun v us qe0 h1 h2 => ?_; subst qe0
    refine xe11 h1.int_inv fun t qe0 => ?_; subst qe0
    exact .cons _ _ (ih h2)

inductive LV (st : St) : AV → List AV → Prop
  | lst {xs : List AV} : LV st (.lst xs) xs
  | ref {a : Addr} {xs : List AV} : (a, AO.list xs) ∈ st → LV st (.ref a) xs
theorem LV.at {x : AV} {xs : List AV} (l : LV st x xs) {P : PM} {h : Heap} {v : Value} (R : Rp C P st h) (hv : VRep C P x v) : ∃ a vs n, v = .ref a ∧ h.get? a = some { cls := .type "list", data := .seq vs.toArray n } ∧ VReps C P xs vs := by
  cases l with
  | lst =>
    obtain ⟨a, o, vs, rfl, hP, ⟨n, rfl⟩, hvs⟩ := hv.lst_inv
    exact ⟨_, _, n, rfl, R.keep _ _ hP, hvs⟩
  | ref hm =>
    obtain rfl := hv.ref_inv
    refine xe12 (R.at hm) fun o ho hr => ?_
    obtain ⟨vs, ⟨n, rfl⟩, hvs⟩ := hr.list_inv
    exact ⟨_, _, n, rfl, ho, hvs⟩
theorem isL {h : Heap} {a : Addr} {vs : List Value} {n : Nat} (e : h.get? a = some { cls := .type "list", data := .seq vs.toArray n }) : h.IsList a vs.toArray := ⟨_, e, rfl, n, rfl⟩

theorem Op2.inStrs {k : PySem.Str} {y : AV} {ys : List PySem.Str} {Post : AV → St → Prop} (l : LV st y (sL ys)) (hp : Post (.bool (ys.any (· == k))) st) : Op2 C lv (compareOp .In) (.str k) y st Post :=
  Op2.pureV hp fun P A s u v Q E _ R hu hv kk => by
    refine xe33 (l.at R hv) fun a vs n qe0 e hvs => ?_; subst qe0
    refine xe11 hu.str_inv fun _ qe0 => ?_; subst qe0
    exact in_list_strs (isL e) (strsAre hvs) (kk _ s.toks .bool)
theorem Op2.notInStrs {k : PySem.Str} {y : AV} {ys : List PySem.Str} {Post : AV → St → Prop} (l : LV st y (sL ys)) (hp : Post (.bool (!ys.any (· == k))) st) : Op2 C lv (compareOp .NotIn) (.str k) y st Post :=
  Op2.pureV hp fun P A s u v Q E _ R hu hv kk => by
    refine xe33 (l.at R hv) fun a vs n qe0 e hvs => ?_; subst qe0
    refine xe11 hu.str_inv fun _ qe0 => ?_; subst qe0
    exact notin_list_strs (isL e) (strsAre hvs) (kk _ s.toks .bool)
theorem Op2.inInts {k : Int} {y : AV} {ys : List Int} {Post : AV → St → Prop} (l : LV st y (iL ys)) (hp : Post (.bool (ys.any (· == k))) st) : Op2 C lv (compareOp .In) (.int k) y st Post :=
  Op2.pureV hp fun P A s u v Q E _ R hu hv kk => by
    refine xe33 (l.at R hv) fun a vs n qe0 e hvs => ?_; subst qe0
    refine xe11 hu.int_inv fun _ qe0 => ?_; subst qe0
    exact in_list_ints (isL e) (intsAre hvs) (kk _ s.toks .bool)

theorem Op2.neI {a b : Int} {Post : AV → St → Prop} (hp : Post (.bool (!(a == b))) st) : Op2 C lv (compareOp .NotEq) (.int a) (.int b) st Post :=
  Op2.pureII hp fun P A s _ _ Q E _ k => SeqAt.RcNeAt.int_int (A := A) a _ b _ _ _ E Q (k _ s.toks .bool)
theorem Op2.ltI {a b : Int} {Post : AV → St → Prop} (hp : Post (.bool (decide (a < b))) st) : Op2 C lv (compareOp .Lt) (.int a) (.int b) st Post :=
  Op2.pureII hp fun P A s _ _ Q E _ k => PyProof.Rows.lt_int (k _ s.toks .bool)
theorem Op2.gtI {a b : Int} {Post : AV → St → Prop} (hp : Post (.bool (decide (a > b))) st) : Op2 C lv (compareOp .Gt) (.int a) (.int b) st Post :=
  Op2.pureII hp fun P A s _ _ Q E _ k => PySem.P.gt_int (k _ s.toks .bool)
theorem Op2.eqS {a b : PySem.Str} {Post : AV → St → Prop} (hp : Post (.bool (a == b)) st) : Op2 C lv (compareOp .Eq) (.str a) (.str b) st Post :=
  Op2.pureSS hp fun P A s _ _ Q E _ k => PyProof.Rows.eq_str (k _ s.toks .bool)
theorem Op2.neS {a b : PySem.Str} {Post : AV → St → Prop} (hp : Post (.bool (a != b)) st) : Op2 C lv (compareOp .NotEq) (.str a) (.str b) st Post :=
  Op2.pureSS hp fun P A s _ _ Q E _ k => PyProof.Rows.ne_str (k _ s.toks .bool)
theorem Op2.ltS {a b : PySem.Str} {Post : AV → St → Prop} (hp : Post (.bool (decide (a.cps.toList < b.cps.toList))) st) : Op2 C lv (compareOp .Lt) (.str a) (.str b) st Post :=
  Op2.pureSS hp fun P A s _ _ Q E _ k => PyProof.Rows.lt_str (k _ s.toks .bool)
theorem Op2.neB {a b : Bool} {Post : AV → St → Prop} (hp : Post (.bool (!(a == b))) st) : Op2 C lv (compareOp .NotEq) (.bool a) (.bool b) st Post :=
  Op2.pureV hp fun P A s u v Q E _ R hu hv k => by obtain rfl := hu.bool_inv; obtain rfl := hv.bool_inv; exact SeqAt.RcNeAt.bool_bool (A := A) a b _ _ E Q (k _ s.toks .bool)

theorem Op2.neStrs {x y : AV} {xs ys : List PySem.Str} {Post : AV → St → Prop} (l : LV st x (sL xs)) (m : LV st y (sL ys)) (hp : Post (.bool (decide (xs ≠ ys))) st) : Op2 C lv (compareOp .NotEq) x y st Post :=
  Op2.pureV hp fun P A s u v Q E ao R hu hv k => by
    refine xe33 (l.at R hu) fun a vs n qe0 e hvs => ?_; subst qe0
    refine xe33 (m.at R hv) fun b us n' qe0 e' hus => ?_; subst qe0
    have l1 : vs.length = xs.length := by rw [← hvs.length]; simp [sL]
    have l2 : us.length = ys.length := by rw [← hus.length]; simp [sL]
    have k' : ∀ r : Bool, r = decide (xs ≠ ys) → Q (.bool r) s := fun r hr => hr ▸ k _ s.toks .bool
    by_cases hl : xs.length = ys.length
    · have gx : ∀ j (h : j < vs.toArray.size), ∃ t, vs.toArray[j] = .str (xs[j]'(by simpa [l1] using h)) t := fun j h => by
        have hj : j < xs.length := by simpa [l1] using h
        refine xe12 (hvs.get (i := j) (x := .str xs[j]) (by simp [sL, hj])) fun v e1 e2 => ?_
        have : vs.toArray[j] = v := by
          have h' : j < vs.length := by simpa using h
          rw [List.getElem?_eq_getElem h'] at e1
          simpa using Option.some.inj e1
        cases e2; exact ⟨_, this⟩
      have gy : ∀ j (h : j < us.toArray.size), ∃ t, us.toArray[j] = .str (ys[j]'(by simpa [l2] using h)) t := fun j h => by
        have hj : j < ys.length := by simpa [l2] using h
        refine xe12 (hus.get (i := j) (x := .str ys[j]) (by simp [sL, hj])) fun v e1 e2 => ?_
        have : us.toArray[j] = v := by
          have h' : j < us.length := by simpa using h
          rw [List.getElem?_eq_getElem h'] at e1
          simpa using Option.some.inj e1
        cases e2; exact ⟨_, this⟩
      refine SeqAt.RcNeAt.lists (e := fun j => match xs[j]?, ys[j]? with | some p, some q => p.cps.toList == q.cps.toList | _, _ => false) (isL e) (isL e') (by simp [l1, l2, hl]) ao.cl (fun j h1 h2 => ?_) _ _ E Q (k' _ ?_)
      · refine xe11 (gx j h1) fun t e1 => ?_
        refine xe11 (gy j h2) fun u e2 => ?_
        have hj1 : j < xs.length := by simpa [l1] using h1
        have hj2 : j < ys.length := by simpa [l2] using h2
        rw [e1, e2]
        simp only [List.getElem?_eq_getElem hj1, List.getElem?_eq_getElem hj2]
        exact (SeqRoads2.EqGives.str _ _ t u).at _ _
      · have hiff : (List.range vs.toArray.size).all (fun j => match xs[j]?, ys[j]? with | some p, some q => p.cps.toList == q.cps.toList | _, _ => false) = true ↔ xs = ys := by
          rw [List.all_eq_true]
          constructor
          · intro hall
            refine List.ext_getElem hl fun j h1 h2 => ?_
            have := hall j (by simp [l1, h1])
            simp only [List.getElem?_eq_getElem h1, List.getElem?_eq_getElem h2] at this
            have q : xs[j].cps.toList = ys[j].cps.toList := by simpa using this
            generalize xs[j] = p at q
            generalize ys[j] = r at q
            cases p; cases r
            simp only [PySem.Str.mk.injEq]
            exact Array.toList_inj.mp q
          · rintro rfl j hj
            have hj : j < xs.length := by simpa [l1] using hj
            simp [List.getElem?_eq_getElem hj]
        cases hb : (List.range vs.toArray.size).all (fun j => match xs[j]?, ys[j]? with | some p, some q => p.cps.toList == q.cps.toList | _, _ => false) with
        | true => simp [hiff.mp hb]
        | false =>
          have : xs ≠ ys := fun z => by rw [hiff.mpr z] at hb; cases hb
          simp [this]
    · have hne : xs ≠ ys := fun z => hl (z ▸ rfl)
      refine SeqAt.RcNeAt.lists_lengths (isL e) (isL e') (by simp [l1, l2, hl]) ao.cl _ _ E Q (k' _ (by simp [hne]))
theorem Op2.neNil {x y : AV} {xs : List AV} {Post : AV → St → Prop} (l : LV st x xs) (m : LV st y []) (hp : Post (.bool (!xs.isEmpty)) st) : Op2 C lv (compareOp .NotEq) x y st Post :=
  Op2.pureV hp fun P A s u v Q E ao R hu hv k => by
    refine xe33 (l.at R hu) fun a vs n qe0 e hvs => ?_; subst qe0
    refine xe33 (m.at R hv) fun b us n' qe0 e' hus => ?_; subst qe0
    cases hus
    have l1 : vs.length = xs.length := hvs.length.symm
    cases xs with
    | nil =>
      cases hvs
      exact SeqAt.RcNeAt.lists (e := fun _ => true) (isL e) (isL e') rfl ao.cl (fun j h1 h2 => absurd h1 (by simp)) _ _ E Q (by simpa using k _ s.toks .bool)
    | cons x xs =>
      exact SeqAt.RcNeAt.lists_lengths (isL e) (isL e') (by simp [l1]) ao.cl _ _ E Q (by simpa using k _ s.toks .bool)
end
section
variable {C : Cx} {lv : Nat} {sc : Scope} {cel : List (PySem.Str × Addr)} {loc : Locs} {st : St}

theorem Ev.ix {l r : Expr} {p : Pos} {Post : AV → St → Prop} (h : Ev C lv sc cel loc l st (op2K C lv sc cel loc r (subscriptTail l r) Post)) :
    Ev C lv sc cel loc (.Subscript l r p) st Post := fun P A env s Q E a en R F k => by
  refine Subscript_ (h P A env s _ E a en R F fun P₁ x u st₁ h₁ k₁ hx S₁ R₁ hu => ?_)
  refine hx P₁ A env _ _ E a en R₁ (F.step S₁) fun P₂ y v st₂ h₂ k₂ hy S₂ R₂ hv => ?_
  exact hy P₂ A _ u v Q E a R₂ (hu.mono S₂.p) hv fun P₃ z r st₃ h₃ k₃ hz S₃ R₃ hr => k P₃ z r st₃ h₃ k₃ hz ((S₁.trans S₂).trans S₃) R₃ hr

theorem Op2.ixL {l r : Expr} {x : AV} {xs : List AV} {i : Int} {y : AV} {Post : AV → St → Prop} (hs : ∀ o i, subscripted r false o i = operate [o, i] (getItem o i)) (h0 : 0 ≤ i) (hi : i < 2 ^ 63) (lx : LV st x xs) (hy : xs[i.toNat]? = some y) (hp : Post y st) :
    Op2 C lv (subscriptTail l r) x (.int i) st Post :=
  Op2.pureV hp fun P A s u v Q E _ R hu hv k => by
    refine xe33 (lx.at R hu) fun a vs n qe0 e hvs => ?_; subst qe0
    refine xe12 (hvs.get hy) fun w e1 e2 => ?_
    refine xe11 hv.int_inv fun _ qe0 => ?_; subst qe0
    exact tail_any (isL e).typeIs F.slot_list_getitem.lookup (wpAny_getItem_list (isL e) h0 hi (by simpa using e1) (k w s.toks e2)) (hs _ _)
theorem Op2.ixT {l r : Expr} {xs : List AV} {i : Int} {y : AV} {Post : AV → St → Prop} (hs : ∀ o i, subscripted r false o i = operate [o, i] (getItem o i)) (h0 : 0 ≤ i) (hi : i < 2 ^ 63) (hy : xs[i.toNat]? = some y) (hp : Post y st) :
    Op2 C lv (subscriptTail l r) (.tup xs) (.int i) st Post :=
  Op2.pureV hp fun P A s u v Q E _ R hu hv k => by
    refine xe11 hv.int_inv fun _ qe0 => ?_; subst qe0
    obtain ⟨a, o, vs, rfl, hP, ⟨n, rfl⟩, hvs⟩ := hu.tup_inv
    · refine xe12 (hvs.get hy) fun w e1 e2 => ?_
      have ht : IsTup s.heap a vs.toArray := ⟨_, R.keep _ _ hP, rfl, n, rfl⟩
      have hlt : i.toNat < vs.length := (List.getElem?_eq_some_iff.mp e1).1
      refine tail_any ht.typeIs slot_tuple_getitem.lookup (PyProof.Rows.getItem_tuple (j := i.toNat) ht (by lia) hi ?_ (by simpa using e1) (k w s.toks e2)) (hs _ _)
      unfold seqIndex?
      simp only [List.size_toArray]
      first | (simp; lia) | (split <;> (try split) <;> (try simp) <;> lia)
theorem Op2.ixS {l r : Expr} {x : PySem.Str} {i : Int} {c : Nat} {Post : AV → St → Prop} (hs : ∀ o i, subscripted r false o i = operate [o, i] (getItem o i)) (h0 : 0 ≤ i) (hi : i < 2 ^ 63) (hc : x.cps[i.toNat]? = some c) (hp : Post (.str ⟨#[c]⟩) st) :
    Op2 C lv (subscriptTail l r) (.str x) (.int i) st Post :=
  Op2.pureV hp fun P A s u v Q E _ R hu hv k => by
    refine xe11 hv.int_inv fun _ qe0 => ?_; subst qe0
    refine xe11 hu.str_inv fun _ qe0 => ?_; subst qe0
    have hlt : i.toNat < x.cps.size := (Array.getElem?_eq_some_iff.mp hc).1
    refine tail_any (typeIs_str _ _ _) F.slot_str_getitem.lookup (PyProof.Rows.getItem_str (c := c) ?_ ?_ (k _ _ .str)) (hs _ _)
    · rw [Bool.or_eq_false_iff, decide_eq_false_iff_not, decide_eq_false_iff_not]
      constructor <;> lia
    · have : seqIndex? i x.length = some i.toNat := by
        unfold seqIndex?
        have : x.length = x.cps.size := rfl
        rw [this]
        first | (simp; lia) | (split <;> (try split) <;> (try simp) <;> lia)
      rw [this]
      exact hc

inductive DV (st : St) : AV → List (PySem.Str × AV) → Prop
  | dct {es : List (PySem.Str × AV)} : DV st (.dct es) es
  | ref {a : Addr} {es : List (PySem.Str × AV)} : (a, AO.dict es) ∈ st → DV st (.ref a) es
theorem DV.at {x : AV} {es : List (PySem.Str × AV)} (l : DV st x es) {P : PM} {h : Heap} {v : Value} (R : Rp C P st h) (hv : VRep C P x v) : ∃ a kvs o, v = .ref a ∧ h.get? a = some o ∧ DObj C.prog C.w kvs o ∧ VEnts C P es kvs := by
  cases l with
  | dct =>
    cases hv with
    | dct _ hP hl hvs => exact ⟨_, _, _, rfl, R.keep _ _ hP, hl, hvs⟩
  | ref hm =>
    cases hv
    refine xe12 (R.at hm) fun o ho hr => ?_
    cases hr with
    | dict hl hvs => exact ⟨_, _, _, rfl, ho, hl, hvs⟩
theorem dictOf {h : Heap} {a : Addr} {kvs : List (PySem.Str × Value)} {o : Obj} (ho : h.get? a = some o) (hd : DObj C.prog C.w kvs o) : h.DictOf (PySem.strKind C.prog C.w) a kvs := by
  obtain ⟨hc, es, ep, q⟩ := hd
  exact ⟨o, es, ep, ho, hc, q⟩
theorem Op2.ixD {l r : Expr} {x : AV} {es : List (PySem.Str × AV)} {i : PySem.Str} {y : AV} {Post : AV → St → Prop} (hs : ∀ o i, subscripted r false o i = operate [o, i] (getItem o i)) (lx : DV st x es) (hy : es.lookup i = some y) (hp : Post y st) :
    Op2 C lv (subscriptTail l r) x (.str i) st Post :=
  Op2.pureV hp fun P A s u v Q E _ R hu hv k => by
    refine xe34 (lx.at R hu) fun a kvs o qe0 e hd hvs => ?_; subst qe0
    refine xe12 (hvs.find hy) fun w e1 e2 => ?_
    refine xe11 hv.str_inv fun _ qe0 => ?_; subst qe0
    have hD := dictOf e hd
    exact tail_any ⟨o, e, hd.1.1⟩ F.slot_dict_getitem.lookup (wpAny_getItem_of (strKind_is _ _ _ _) hD.mapOf e1 (k w _ e2)) (hs _ _)

noncomputable def Evp (C : Cx) (lv : Nat) (sc : Scope) (cel : List (PySem.Str × Addr)) (loc : Locs) (x : Option Expr) (st : St) (Post : AV → St → Prop) : Prop :=
  match x with
  | none => Post .none st
  | some e => Ev C lv sc cel loc e st Post
theorem Evp.run {x : Option Expr} {Post : AV → St → Prop} (h : Evp C lv sc cel loc x st Post) {P : PM} {A : Around} {env : Env} {s : Shared} {Q : Value → Shared → Prop} {E : Value → Shared → Prop} (a : AOk lv A) (en : EOk sc cel env) (R : Rp C P st s.heap) (F : FRp C P loc env st s.heap)
    (k : ∀ P' x v st' h' k, Post x st' → Step P P' st st' s.heap h' → Rp C P' st' h' → VRep C P' x v → Q v { s with heap := h', toks := k }) : wpAny (model C.prog C.w) A (evalPart x env) Q E s := by
  cases x with
  | none => exact evalPart_none_step (k P .none .none st s.heap s.toks h (Step.refl ..) R .none)
  | some e => exact evalPart_some_step (h P A env s Q E a en R F k)
inductive Part : AV → Option Int → Prop
  | none : Part .none none
  | int {i : Int} : Part (.int i) (some i)
noncomputable def subS (x : PySem.Str) (l u : Option Int) : PySem.Str := Txt.slice x l u
inductive Sl (st : St) (l u : AV) (Post : AV → St → Prop) : AV → Prop
  | str {x : PySem.Str} {lo hi : Option Int} : Part l lo → Part u hi → x.length ≤ sizeLine → Post (.str (subS x lo hi)) st → Sl st l u Post (.str x)
  | list {v : AV} {xs : List AV} {lo hi : Option Int} : LV st v xs → Part l lo → Part u hi → xs.length ≤ sizeLine → Post (.lst ((xs.drop (kms_lo lo xs.length)).take (kms_hi hi xs.length - kms_lo lo xs.length))) st → Sl st l u Post v
theorem Part.rep {l : AV} {lo : Option Int} {P : PM} {v : Value} (p : Part l lo) (h : VRep C P l v) : ∃ o : Option (Int × Tok), v = partValue o ∧ o.map (·.1) = lo ∧ IsPart v lo := by
  cases p with
  | none => obtain rfl := h.none_inv; exact ⟨Option.none, rfl, rfl, by constructor⟩
  | int => refine xe11 h.int_inv fun t qe0 => ?_; subst qe0; exact ⟨some (_, t), rfl, rfl, by constructor⟩
theorem Ev.slc {value : Expr} {lower upper : Option Expr} {p pos : Pos} {Post : AV → St → Prop}
    (h : Ev C lv sc cel loc value st fun o st₁ => Evp C lv sc cel loc lower st₁ fun l st₂ => Evp C lv sc cel loc upper st₂ fun u st₃ => Sl st₃ l u Post o) :
    Ev C lv sc cel loc (.Subscript value (.Slice lower upper Option.none p) pos) st Post := fun P A env s Q E a en R F k => by
  refine Subscript_ (h P A env s _ E a en R F fun P₁ x u st₁ h₁ k₁ hx S₁ R₁ hu => wpAny_Slice ?_)
  refine hx.run a en R₁ (F.step S₁) fun P₂ y v st₂ h₂ k₂ hy S₂ R₂ hv => ?_
  refine hy.run a en R₂ ((F.step S₁).step S₂) fun P₃ z w st₃ h₃ k₃ hz S₃ R₃ hw => evalPart_none_step ?_
  have hv₃ := hv.mono S₃.p
  have hu₃ := (hu.mono S₂.p).mono S₃.p
  have S₀ := (S₁.trans S₂).trans S₃
  refine xe02 (R₃.pushF (o := { cls := .type "slice", data := .fields #[v, w, .none] }) rfl) fun R₄ S₄ => ?_
  cases hz with
  | @str x lo hi pl pu hsz hp =>
    refine xe11 hu₃.str_inv fun t₀ qe0 => ?_; subst qe0
    refine xe13 (pl.rep hv₃) fun ol qe0 qe1 _ => ?_; subst qe0; subst qe1
    refine xe13 (pu.rep hw) fun ou qe0 qe1 _ => ?_; subst qe0; subst qe1
    refine tail_any (typeIs_str _ _ _) PySem.F.slot_str_getitem.lookup ?_ rfl
    exact wpAny_getItem_str_slice (l := ol) (u := ou) (st := Option.none) ⟨_, Heap.get?_push_size _ rfl, rfl, rfl⟩ rfl
      (post_val_or_str ⟨Nat.le_trans (Txt.slice_le x _ _) hsz, fun t' tk => k _ _ _ _ _ tk hp (S₀.trans S₄) R₄ .str⟩)
  | @list x xs lo hi lx pl pu hsz hp =>
    refine xe33 (lx.at R₃ hu₃) fun b vs n qe0 e hvs => ?_; subst qe0
    refine xe13 (pl.rep hv₃) fun _ _ _ pl' => ?_
    refine xe13 (pu.rep hw) fun _ _ _ pu' => ?_
    have hl : ({ s with heap := h₃.push { cls := .type "slice", data := .fields #[v, w, .none] }, toks := k₃ } : Shared).heap.IsList b vs.toArray := isL (Heap.get?_push_of_some _ e)
    refine tail_any hl.typeIs PySem.F.slot_list_getitem.lookup (wpAny_getItem_list_slice hl ⟨_, Heap.get?_push_size _ rfl, rfl, rfl⟩ pl' pu' .none (by simp) ?_ ?_) rfl
    · refine xe02 (R₄.pushF (o := { cls := .type "list", data := .seq (slicePick vs.toArray lo hi Option.none) }) rfl) fun R₅ S₅ => ?_
      refine k _ _ _ _ _ _ hp ((S₀.trans S₄).trans S₅) R₅ (.lst (by unfold addP; rw [if_pos rfl]) ⟨0, ?_⟩ (((hvs.drop _).take _).mono fun b o e => S₅.p b o (S₄.p b o e)))
      rw [kms_pick_eq, hvs.length]
      rfl
    · simpa [← hvs.length] using hsz

noncomputable abbrev exK (loc : Locs) (Post : Fl → Locs → St → Prop) : AV → St → Prop := fun _ s => Post .next loc s
theorem Ex1.expr {e : Expr} {p : Pos} {Post : Fl → Locs → St → Prop} (hi : ∀ env, env.scope = sc → interactive env = false) (hsw : ∀ env, env.scope = sc → swapsWith e Option.none p.line env = pure false)
    (h : Ev C lv sc cel loc e st (exK loc Post)) : Ex1 C lv sc cel loc (.Expr e p) st Post := fun P A env s Q E a en R F k =>
  wpAny_Expr_any (h P A env s _ E a en R F fun P' x v st' h' tk hx S R' hv => k P' .next .next loc st' h' tk hx (S.toX _) R' (F.step S) .next) (hi env en.scope) (hsw env en.scope)

noncomputable def Op3 (C : Cx) (lv : Nat) (m : Value → Value → Value → Sem Unit) (x y z : AV) (st : St) (Post : St → Prop) : Prop :=
  ∀ (P : PM) (A : Around) (s : Shared) (u v w : Value) (Q : Unit → Shared → Prop) (E : Value → Shared → Prop), AOk lv A → Rp C P st s.heap → VRep C P x u → VRep C P y v → VRep C P z w →
    (∀ P' st' h' k, Post st' → Step P P' st st' s.heap h' → Rp C P' st' h' → Q () { s with heap := h', toks := k }) → wpAny (model C.prog C.w) A (m u v w) Q E s
noncomputable abbrev nxsK (loc : Locs) (Post : Fl → Locs → St → Prop) : St → Prop := fun s => Post .next loc s
noncomputable abbrev stoM (C : Cx) (lv : Nat) (loc : Locs) (Post : Fl → Locs → St → Prop) (z x : AV) : AV → St → Prop := fun y s => Op3 C lv setItem x y z s (nxsK loc Post)
noncomputable abbrev stoL (C : Cx) (lv : Nat) (sc : Scope) (cel : List (PySem.Str × Addr)) (loc : Locs) (i : Expr) (Post : Fl → Locs → St → Prop) (z : AV) : AV → St → Prop := fun x s => Ev C lv sc cel loc i s (stoM C lv loc Post z x)
noncomputable abbrev stoK (C : Cx) (lv : Nat) (sc : Scope) (cel : List (PySem.Str × Addr)) (loc : Locs) (o i : Expr) (Post : Fl → Locs → St → Prop) : AV → St → Prop := fun z s => Ev C lv sc cel loc o s (stoL C lv sc cel loc i Post z)
theorem Ex1.store {o i value : Expr} {p p' : Pos} {Post : Fl → Locs → St → Prop} (hsw : ∀ env, env.scope = sc → swapsWith value (some (.Subscript o i p')) p.line env = pure false)
    (h : Ev C lv sc cel loc value st (stoK C lv sc cel loc o i Post)) :
    Ex1 C lv sc cel loc (.Assign [.Subscript o i p'] value p) st Post := fun P A env s Q E a en R F k => by
  refine wpAny_Assign_Subscript (h P A env s _ E a en R F fun P₁ z w st₁ h₁ k₁ hz S₁ R₁ hw => ?_) (hsw env en.scope)
  refine hz P₁ A env _ _ E a en R₁ (F.step S₁) fun P₂ x u st₂ h₂ k₂ hx S₂ R₂ hu => ?_
  refine hx P₂ A env _ _ E a en R₂ ((F.step S₁).step S₂) fun P₃ y v st₃ h₃ k₃ hy S₃ R₃ hv => ?_
  have S₀ := (S₁.trans S₂).trans S₃
  exact hy P₃ A _ u v w _ E a R₃ (hu.mono S₃.p) hv ((hw.mono S₂.p).mono S₃.p) fun P₄ st₄ h₄ k₄ hq S₄ R₄ => k P₄ .next .next loc st₄ h₄ k₄ hq ((S₀.trans S₄).toX _) R₄ ((F.step S₀).step S₄) .next
theorem Op3.setL {D : Addr} {xs : List AV} {i : Int} {y : AV} {st' : St} {Post : St → Prop} (h0 : 0 ≤ i) (hi : i < 2 ^ 63) (hn : i < xs.length) (u : Upd st D (.list xs) (.list (xs.set i.toNat y)) st') (hp : Post st') : Op3 C lv setItem (.ref D) (.int i) y st Post :=
  fun P A s uu v w Q E a R hu hv hw k => by
    cases hu; cases hv
    refine xe12 (R.at u.mem) fun o ho hr => ?_
    cases hr with
    | @list _ vs _ hl hvs =>
      refine xe11 hl fun n qe0 => ?_; clear hl; subst qe0
      refine ki_setAt (n := n) ho h0 hi (by simpa [← hvs.length] using hn) ?_
      have hup : (s.heap.update D (Obj.mapSeq (·.setIfInBounds i.toNat w))).get? D = some (Obj.mapSeq (·.setIfInBounds i.toNat w) { cls := .type "list", data := .seq vs.toArray n }) := Heap.get?_update_self _ ho rfl
      refine xe02 (R.upd u (Heap.SameBut.update ..) hup (.list (vs := vs.set i.toNat w) ⟨_, by simp [Obj.mapSeq]; rfl⟩ (hvs.set _ hw))) fun R' S' => ?_
      exact k P st' _ s.toks hp S' R'
theorem VEnts.app {P : PM} {es fs : List (PySem.Str × AV)} {kvs us : List (PySem.Str × Value)} (h : VEnts C P es kvs) (h' : VEnts C P fs us) : VEnts C P (es ++ fs) (kvs ++ us) :=
  h.ind (motive := fun es kvs => VEnts C P (es ++ fs) (kvs ++ us)) h' fun h1 _ ih => .cons h1 ih
theorem Op3.setD {D : Addr} {es : List (PySem.Str × AV)} {i : PySem.Str} {y : AV} {st' : St} {Post : St → Prop} (hi : es.lookup i = none) (hsz : es.length ≤ sizeLine) (u : Upd st D (.dict es) (.dict (es ++ [(i, y)])) st') (hp : Post st') : Op3 C lv setItem (.ref D) (.str i) y st Post :=
  fun P A s uu v w Q E a R hu hv hw k => by
    cases hu; cases hv
    refine xe12 (R.at u.mem) fun o ho hr => ?_
    cases hr with
    | @dict _ kvs _ hl hvs =>
      have hD := dictOf ho hl
      refine wpAny_setItem_pairs (strKind_is _ _ _ _) hD (fun h' hD' hs' => ?_) (by rw [← List.length_map (f := (·.1)), hvs.keys, List.length_map]; exact hsz)
      refine xe33 hD' fun o' es' ep' ho' hc' q => ?_; clear hD'
      have hmiss : stored kvs i w = kvs ++ [(i, w)] := by
        unfold stored
        rw [if_neg]
        rw [List.any_eq_true]
        rintro ⟨kv, hm, e⟩
        have e : kv.1 = i := by simpa using e
        have : i ∈ es.map (·.1) := by rw [← hvs.keys]; exact e ▸ List.mem_map_of_mem hm
        refine xe12 (List.mem_map.mp this) fun q hq eq => ?_
        have := List.lookup_eq_none_iff.mp hi q hq
        simp [eq] at this
      rw [hmiss] at q
      refine xe02 (R.upd u hs' ho' (.dict (kvs := kvs ++ [(i, w)]) ⟨hc', es', ep', q⟩ (hvs.app (.cons hw .nil)))) fun R' S' => ?_
      exact k P st' h' _ hp S' R'
end
section
variable {C : Cx} {lv : Nat} {sc : Scope} {cel : List (PySem.Str × Addr)} {loc : Locs} {st : St}

theorem Mt.list {x : AV} {xs : List AV} {name : PySem.Str} {id : String} (slot : Slot "list" name id) (hty : typeOf (.builtin id) = pure (.type "method_descriptor")) (l : LV st x xs) : Mt C x name st (.builtin id) [x] :=
  fun P A s v pl Q E R hv k => by
    refine xe33 (l.at R hv) fun a vs n qe0 e hvs => ?_; subst qe0
    exact getMethod_builtin (isL e).typeIs PySem.F.plainAttrs_list slot hty (fun b eb => by cases eb; exact ⟨_, e, rfl⟩) (k [.ref a] s.toks (.cons hv .nil))
theorem Mt.str {x : PySem.Str} {name : PySem.Str} {id : String} (slot : Slot "str" name id) (hty : typeOf (.builtin id) = pure (.type "method_descriptor")) : Mt C (.str x) name st (.builtin id) [.str x] :=
  fun P A s v pl Q E R hv k => by
    cases hv with
    | @str _ t => exact getMethod_builtin (typeIs_str _ _ _) PySem.F.plainAttrs_str slot hty (fun b eb => by cases eb) (k [.str x t] s.toks (.cons .str .nil))
noncomputable def Cl1 (C : Cx) (lv : Nat) (f : Value) (x : AV) (st : St) (y : AV) : Prop :=
  ∀ (P : PM) (A : Around) (s : Shared) (v : Value) (Q : Value → Shared → Prop) (E : Value → Shared → Prop), AOk lv A → Rp C P st s.heap → VRep C P x v → (∀ r k, VRep C P y r → Q r { s with toks := k }) → wpAny (model C.prog C.w) A (call f [v]) Q E s
theorem Cl1.cl {f : Value} {x y : AV} {Post : AV → St → Prop} (h : Cl1 C lv f x st y) (hp : Post y st) : Cl C lv f [x] [] st Post := fun P A s vs kvs Q E a R hv hk k => by
  obtain rfl := hk.nil_inv
  cases hv with
  | cons h1 h2 => cases h2; exact h P A s _ Q E a R h1 fun r tk hr => k P y r st s.heap tk hp (Step.refl ..) R hr
theorem Cl.lenL {x : AV} {xs : List AV} {Post : AV → St → Prop} (l : LV st x xs) (hz : (xs.length : Int) < 2 ^ 63) (hp : Post (.int xs.length) st) : Cl C lv (.builtin "len") [x] [] st Post :=
  Cl1.cl (fun P A s v Q E a R hv k => by
    refine xe33 (l.at R hv) fun b vs n qe0 e hvs => ?_; subst qe0
    exact Calls.call_len_list (isL e) (by simpa [← hvs.length] using hz) (k _ _ (by rw [show (vs.toArray.size : Int) = (xs.length : Int) by simp [hvs.length]]; exact .int))) hp
theorem Cl.lenS {x : PySem.Str} {Post : AV → St → Prop} (hz : (x.length : Int) < 2 ^ 63) (hp : Post (.int x.length) st) : Cl C lv (.builtin "len") [.str x] [] st Post :=
  Cl1.cl (fun P A s v Q E a R hv k => by refine xe11 hv.str_inv fun _ qe0 => ?_; subst qe0; exact PyProof.Rows.len_str (by lia) (k _ _ .int)) hp
theorem Cl.upper {x : PySem.Str} {Post : AV → St → Prop} (hz : PySem.Builtin.Str.tooLong (Txt.upper x).length = false) (hp : Post (.str (Txt.upper x)) st) : Cl C lv (.builtin "str.upper") [.str x] [] st Post :=
  Cl1.cl (fun P A s v Q E a R hv k => by refine xe11 hv.str_inv fun _ qe0 => ?_; subst qe0; exact SC.upper hz (k _ _ .str)) hp
theorem Cl.lower {x : PySem.Str} {Post : AV → St → Prop} (hz : PySem.Builtin.Str.tooLong (Txt.lower x).length = false) (hp : Post (.str (Txt.lower x)) st) : Cl C lv (.builtin "str.lower") [.str x] [] st Post :=
  Cl1.cl (fun P A s v Q E a R hv k => by refine xe11 hv.str_inv fun _ qe0 => ?_; subst qe0; exact SC.lower hz (k _ _ .str)) hp
theorem Cl.join {x : PySem.Str} {y : AV} {ys : List PySem.Str} {Post : AV → St → Prop} (l : LV st y (sL ys)) (hz : (ys.map (·.length)).sum + ys.length * x.length ≤ 16777216) (hp : Post (.str (Txt.join x ys)) st) : Cl C lv (.builtin "str.join") [.str x, y] [] st Post := fun P A s vs kvs Q E a R hv hk k => by
  obtain rfl := hk.nil_inv
  refine xe23 hv.two_inv fun _ _ qe0 h1 h2 => ?_; subst qe0
  · · refine xe11 h1.str_inv fun _ qe0 => ?_; subst qe0
      refine xe33 (l.at R h2) fun b vs n qe0 e hvs => ?_; subst qe0
      exact join_list (isL e) (strsAre hvs) hz fun t' tk => k P _ _ st s.heap tk hp (Step.refl ..) R .str

theorem Cl.range1 {n : Int} {Post : AV → St → Prop} (hp : Post (.rng 0 n 1) st) : Cl C lv (.type "range") [.int n] [] st Post := fun P A s vs kvs Q E a R hv hk k => by
  obtain rfl := hk.nil_inv
  refine xe12 hv.one_inv fun _ qe0 h1 => ?_; subst qe0
  · refine xe11 h1.int_inv fun _ qe0 => ?_; subst qe0
    obtain ⟨R₂, S₂⟩ := R.pushF (o := { cls := .type "range", data := .fields #[.int 0 s.toks, .int n _, .int 1 (s.toks + 1)] }) rfl
    exact call_range_1 (k _ (.rng 0 n 1) _ st _ _ hp S₂ R₂ (.rng (by unfold addP; rw [if_pos rfl]) ⟨_, _, _, rfl⟩))
theorem Cl.range2 {a b : Int} {Post : AV → St → Prop} (hp : Post (.rng a b 1) st) : Cl C lv (.type "range") [.int a, .int b] [] st Post := fun P A s vs kvs Q E ao R hv hk k => by
  obtain rfl := hk.nil_inv
  refine xe23 hv.two_inv fun _ _ qe0 h1 h2 => ?_; subst qe0
  · · refine xe11 h1.int_inv fun _ qe0 => ?_; subst qe0
      refine xe11 h2.int_inv fun _ qe0 => ?_; subst qe0
      obtain ⟨R₂, S₂⟩ := R.pushF (o := { cls := .type "range", data := .fields #[.int a _, .int b _, .int 1 s.toks] }) rfl
      exact call_range_2 (k _ (.rng a b 1) _ st _ _ hp S₂ R₂ (.rng (by unfold addP; rw [if_pos rfl]) ⟨_, _, _, rfl⟩))
theorem walks_lt {prog : Program} {w : World} {A : Around} {I : Addr} {fp wr : List Addr} {n : Nat} {P : Nat → Value → Prop} {St : Nat → Heap → Prop} (W : Walks prog w A I fp wr n P St) : Walks prog w A I fp wr n (fun i v => P i v ∧ i < n) St where
  sub := W.sub
  frame := W.frame
  item := fun i s Q E hi st hQ => W.item i s Q E hi st fun v h' k hp hs hk => hQ v h' k ⟨hp, hi⟩ hs hk
  done := W.done
  self := W.self
noncomputable def rangeL (a b : Int) : List AV := (List.range (b - a).toNat).map fun k => AV.int (a + (k : Nat))
theorem ItO.rng {a b : Int} (ha : -(2 ^ 62) ≤ a) (ha' : a < 2 ^ 62) (hb : -(2 ^ 62) ≤ b) (hb' : b < 2 ^ 62) : ItO C (.rng a b 1) st (rangeL a b) := fun P A s v Q E hh R hv k => by
  cases hv with
  | @rng n o _ _ _ hP hg =>
    refine xe31 hg fun t u w qe0 => ?_; clear hg; subst qe0
    have hr : IsRange s.heap n a b 1 t u w := R.keep _ _ hP
    have new : s.heap.get? s.heap.objs.size = none := by
      cases e : s.heap.get? s.heap.objs.size with
      | none => rfl
      | some o => exact absurd (Heap.lt_size e) (Nat.lt_irrefl _)
    refine wpAny_pyIter_range hr (small_one ha ha' hb hb') ?_
    have hlen : (rangeL a b).length = (b - a).toNat := by simp [rangeL]
    have hsz : Builtin.Range.rangeSize a b 1 = (((b - a).toNat : Nat) : Int) := by rw [rangeSize_one]; split <;> lia
    have W : ∀ A' : Around, A'.handled = none → Walks C.prog C.w A' s.heap.objs.size [s.heap.objs.size] [s.heap.objs.size] (rangeL a b).length (fun i v => (∃ t, v = .int (a + (i : Nat) * 1) t) ∧ i < (b - a).toNat) (fun i h => IsRangeIter h s.heap.objs.size (a + (i : Nat) * 1) (((b - a).toNat : Int) - (i : Nat)) 1) := fun A' hA => by
      have := walks_lt <| Walks.range (prog := C.prog) (w := C.w) hA s.heap.objs.size a 1 (b - a).toNat
      rw [hlen]; exact this
    refine k s.heap.objs.size [s.heap.objs.size] _ _ _ s.toks W (fun j u ht => ?_) (fun j h e => ⟨_, _, e, rfl, by decide +kernel⟩) ?_ new (fun b hb => ?_) (fun b o e => Heap.get?_push_of_some _ e) (fun b hb hne => absurd (List.mem_singleton.mp hb) hne)
    · obtain ⟨⟨t, rfl⟩, hj⟩ := ht
      refine ⟨.int (a + (j : Nat)), ?_, ?_⟩
      · unfold rangeL
        rw [List.getElem?_map, List.getElem?_range hj]; rfl
      · rw [Int.mul_one]; exact .int
    · have q : (s.heap.push { cls := .type "range_iterator", data := .fields #[rawInt a, rawInt (Builtin.Range.rangeSize a b 1), rawInt 1] }).get? s.heap.objs.size = some _ := Heap.get?_push_size _ rfl
      rw [hsz] at q ⊢
      simp only [Int.natCast_zero, Int.zero_mul, Int.add_zero, Int.sub_zero]
      exact q
    · rw [List.mem_singleton.mp hb]; exact ⟨by rw [Heap.get?_push_size _ rfl]; simp, .inl new⟩

theorem ItOf.rng {a b : Int} (ha : -(2 ^ 62) ≤ a) (ha' : a < 2 ^ 62) (hb : -(2 ^ 62) ≤ b) (hb' : b < 2 ^ 62) : ItOf C (.rng a b 1) st (rangeL a b) := (ItO.rng ha ha' hb hb').to
theorem Op2.addL {x y : AV} {xs ys : List AV} {Post : AV → St → Prop} (l : LV st x xs) (m : LV st y ys) (hz : xs.length + ys.length ≤ sizeLine) (hp : Post (.lst (xs ++ ys)) st) : Op2 C lv (binaryOp .Add) x y st Post := fun P A s u v Q E ao R hu hv k => by
  refine xe33 (l.at R hu) fun a vs n qe0 e hvs => ?_; subst qe0
  refine xe33 (m.at R hv) fun b us n' qe0 e' hus => ?_; subst qe0
  refine xe02 (R.pushF (o := { cls := .type "list", data := .seq (vs.toArray ++ us.toArray) }) rfl) fun R₂ S₂ => ?_
  exact PySem.P.add_list e e' (k _ _ _ st _ s.toks hp S₂ R₂ (.lst (vs := vs ++ us) (by unfold addP; rw [if_pos rfl]) ⟨0, by simp⟩ ((hvs.append hus).mono S₂.p))) (by simpa [← hvs.length, ← hus.length] using hz)
theorem Cl.pop {D : Addr} {xs : List AV} {y : AV} {st' : St} {Post : AV → St → Prop} (u : Upd st D (.list (xs ++ [y])) (.list xs) st') (hsz : xs.length < sizeLine) (hp : Post y st') : Cl C lv (.builtin "list.pop") [.ref D] [] st Post := fun P A s vs kvs Q E a R hv hk k => by
  obtain rfl := hk.nil_inv
  refine xe12 hv.one_inv fun _ qe0 h1 => ?_; subst qe0
  · obtain rfl := h1.ref_inv
    refine xe12 (R.at u.mem) fun o ho hr => ?_
    cases hr with
    | @list _ us _ hl hvs =>
      refine xe11 hl fun n qe0 => ?_; clear hl; subst qe0
      have hlen : us.length = xs.length + 1 := by rw [← hvs.length]; simp
      refine xe12 (hvs.get (i := xs.length) (x := y) (by simp)) fun w e1 e2 => ?_
      refine PyProof.Rows.Copied.pop_at (y := w) ho (by simpa [hlen] using e1) (fun h' hs' ho' => ?_) (by simp [hlen]; lia)
      have hv' : VReps C P xs us.dropLast := by
        have := hvs.take xs.length
        rw [List.take_left, show xs.length = us.length - 1 by lia, ← List.dropLast_eq_take] at this
        exact this
      refine xe02 (R.upd u hs' ho' (.list (vs := us.dropLast) ⟨n + 1, by simp⟩ hv')) fun R' S' => ?_
      exact k P y w st' h' s.toks hp S' R' e2
end
section
variable {C : Cx} {lv : Nat} {sc : Scope} {cel : List (PySem.Str × Addr)} {loc : Locs} {st : St}

theorem Bd.ce {x : PySem.Str} {y : AV} {a : Addr} {x0 : Option AV} {st' : St} {Post : Locs → St → Prop} (hs : sc.names.lookup x = some .cell) (hc : cel.lookup x = some a) (u : Upd st a (.cell x0) (.cell (some y)) st') (hp : Post loc st') : Bd C sc cel loc x y st Post := fun P A env s v Q E en R F hv k => by
  refine xe12 (R.at u.mem) fun o ho hr => ?_
  have hcell : ∃ v₀, s.heap.IsCell a v₀ := by cases hr with
    | cell0 h => exact ⟨none, o, ho, h⟩
    | cell h _ => exact ⟨_, o, ho, h⟩
  obtain ⟨v₀, hcell⟩ := hcell
  refine wpAny_storeName_cell (by rw [en.scope]; exact en.kind) (by rw [Env.kindOf, en.scope]; exact hs) (by rw [en.cells]; exact hc) hcell fun h' hc' hs' => ?_
  refine xe12 hc' fun o' ho' hd' => ?_; clear hc'
  refine xe02 (R.upd u hs' ho' (.cell hd' hv)) fun R' S' => ?_
  exact k loc st' h' s.toks hp (S'.toX _) R' (F.step S')

theorem Ex1.aug {x : PySem.Str} {op : Operator} {e : Expr} {p p' : Pos} {y : AV} {Post : Fl → Locs → St → Prop} (hs : sc.names.lookup x = some .local) (hl : loc.lookup x = some y)
    (h : Ev C lv sc cel loc e st (op2L C lv (inplaceOp op) (bdK C sc cel loc x Post) y)) : Ex1 C lv sc cel loc (.AugAssign (.Name x p') op e p) st Post := fun P A env s Q E a en R F k => by
  obtain ⟨⟨m, hn, hm⟩, hoff⟩ := id F
  refine xe12 (hm x y hl) fun u e1 e2 => ?_
  refine wpAny_AugAssign_Name (wpAny_loadName_local (by rw [en.scope]; exact en.kind) (by rw [Env.kindOf, en.scope]; exact hs) hn e1 ?_)
  refine h P A env s _ E a en R F fun P₁ z v st₁ h₁ k₁ hz S₁ R₁ hv => ?_
  refine hz P₁ A _ u v _ E a R₁ (e2.mono S₁.p) hv fun P₂ r w st₂ h₂ k₂ hr S₂ R₂ hw => ?_
  have F₂ := (F.step S₁).step S₂
  exact hr P₂ A env _ w _ E en R₂ F₂ hw fun loc' st' h' tk hp S R' F' => k P₂ .next .next loc' st' h' tk hp (((S₁.trans S₂).toX _).trans F₂.lives S) R' F' .next
theorem Op2.iaddS {x y : PySem.Str} {Post : AV → St → Prop} (hz : x.length + y.length ≤ sizeLine) (hp : Post (.str (x ++ y)) st) : Op2 C lv (inplaceOp .Add) (.str x) (.str y) st Post :=
  Op2.pureSS hp fun P A s _ _ Q E _ k => PyProof.Rows.iadd_str (fun t' tk => k _ _ .str) hz
theorem Op2.iaddI {x y : Int} {Post : AV → St → Prop} (hp : Post (.int (x + y)) st) : Op2 C lv (inplaceOp .Add) (.int x) (.int y) st Post :=
  Op2.pureII hp fun P A s _ _ Q E _ k => PyProof.Rows.iadd_int (k _ _ .int)

noncomputable def Tru (C : Cx) (x : AV) (st₁ : St) (b : Bool) : Prop := ∀ (P : PM) (A : Around) (s : Shared) (v : Value) (Q : Bool → Shared → Prop) (E : Value → Shared → Prop), Rp C P st₁ s.heap → VRep C P x v → (∀ k, Q b { s with toks := k }) → wpAny (model C.prog C.w) A (truthy v) Q E s
noncomputable abbrev truK (C : Cx) (Post : Bool → St → Prop) : AV → St → Prop := fun x s => ∃ b, Tru C x s b ∧ Post b s
theorem truI {x : AV} {b : Bool} {Post : Bool → St → Prop} (h : Tru C x st b) (k : Post b st) : truK C Post x st := ⟨b, h, k⟩
theorem Tr.val {e : Expr} {Post : Bool → St → Prop} (he : ∀ env whole, isTrue e env whole = (do let v ← whole; standAt e.pos; holding [v] (truthy v)))
    (h : Ev C lv sc cel loc e st (truK C Post)) :
    Tr C lv sc cel loc e st Post := fun P A env s Q E a en R F k => by
  refine wpAny_isTrue_value (h P A env s _ E a en R F fun P₁ x v st₁ h₁ k₁ hx S₁ R₁ hv => ?_) (he _ _)
  refine xe12 hx fun b ht hb => ?_; clear hx
  exact ht P₁ A _ v Q E R₁ hv fun tk => k P₁ b st₁ h₁ tk hb S₁ R₁
theorem truB {C : Cx} {st₁ : St} {b : Bool} : Tru C (.bool b) st₁ b :=
  fun P A s v Q E R hv k => by cases hv; exact wpAny_truthy_bool (k s.toks)
theorem truL {C : Cx} {st₁ : St} {x : AV} {xs : List AV} (l : LV st₁ x xs) (hz : (xs.length : Int) < 2 ^ 63) : Tru C x st₁ (!xs.isEmpty) :=
  fun P A s v Q E R hv k => by
    refine xe33 (l.at R hv) fun b vs n qe0 e hvs => ?_; subst qe0
    refine wpAny_truthy_list (isL e) (by simpa [← hvs.length] using hz) ?_
    have : vs.toArray.isEmpty = xs.isEmpty := by
      cases hvs <;> rfl
    rw [this]
    exact k _
theorem Tr.and2 {l r : Expr} {p : Pos} {Post : Bool → St → Prop} (h : Tr C lv sc cel loc l st fun b st₁ => if b then Tr C lv sc cel loc r st₁ Post else Post false st₁) : Tr C lv sc cel loc (.BoolOp .And [l, r] p) st Post := fun P A env s Q E a en R F k => by
  refine wpAny_isTrue_BoolOp (wpAny_allTrue_And_cons (h P A env s _ E a en R F fun P₁ b st₁ h₁ k₁ hb S₁ R₁ => ?_))
  cases b with
  | false => simp only [Bool.false_eq_true, if_false] at hb ⊢; exact k P₁ false st₁ h₁ k₁ hb S₁ R₁
  | true =>
    simp only [if_true] at hb ⊢
    refine wpAny_allTrue_And_cons (hb P₁ A env _ _ E a en R₁ (F.step S₁) fun P₂ b st₂ h₂ k₂ hb₂ S₂ R₂ => ?_)
    cases b with
    | false => simp only [Bool.false_eq_true, if_false]; exact k P₂ false st₂ h₂ k₂ hb₂ (S₁.trans S₂) R₂
    | true => simp only [if_true]; exact wpAny_allTrue_And_nil (k P₂ true st₂ h₂ k₂ hb₂ (S₁.trans S₂) R₂)
theorem Tr.or2 {l r : Expr} {p : Pos} {Post : Bool → St → Prop} (h : Tr C lv sc cel loc l st fun b st₁ => if b then Post true st₁ else Tr C lv sc cel loc r st₁ Post) : Tr C lv sc cel loc (.BoolOp .Or [l, r] p) st Post := fun P A env s Q E a en R F k => by
  refine wpAny_isTrue_BoolOp (wpAny_allTrue_Or_cons (h P A env s _ E a en R F fun P₁ b st₁ h₁ k₁ hb S₁ R₁ => ?_))
  cases b with
  | true => simp only [if_true] at hb ⊢; exact k P₁ true st₁ h₁ k₁ hb S₁ R₁
  | false =>
    simp only [Bool.false_eq_true, if_false] at hb ⊢
    refine wpAny_allTrue_Or_cons (hb P₁ A env _ _ E a en R₁ (F.step S₁) fun P₂ b st₂ h₂ k₂ hb₂ S₂ R₂ => ?_)
    cases b with
    | true => simp only [if_true]; exact k P₂ true st₂ h₂ k₂ hb₂ (S₁.trans S₂) R₂
    | false => simp only [Bool.false_eq_true, if_false]; exact wpAny_allTrue_Or_nil (k P₂ false st₂ h₂ k₂ hb₂ (S₁.trans S₂) R₂)
theorem Ev.and2 {l r : Expr} {p : Pos} {Post : AV → St → Prop} (h : Ev C lv sc cel loc l st fun x st₁ => ∃ b, x = .bool b ∧ if b then Ev C lv sc cel loc r st₁ Post else Post (.bool false) st₁) : Ev C lv sc cel loc (.BoolOp .And [l, r] p) st Post := fun P A env s Q E a en R F k => by
  rw [arm_eval_BoolOp]
  refine (?_ : wpAny _ A (boolOp p .And [eval l env, eval r env]) Q E s)
  unfold boolOp
  refine wpAny_bind (h P A env s _ E a en R F fun P₁ x v st₁ h₁ k₁ hx S₁ R₁ hv => ?_)
  refine xe12 hx fun b qe0 hb => ?_; clear hx; subst qe0
  cases hv
  refine wpAny_bind (wpAny_standAt (wpAny_bind (wpAny_holding (wpAny_truthy_bool ?_))))
  cases b with
  | false =>
    simp only [Bool.false_eq_true, if_false] at hb
    exact wpAny_pure (k P₁ _ _ st₁ h₁ k₁ hb S₁ R₁ .bool)
  | true =>
    simp only [if_true] at hb
    unfold boolOp
    exact hb P₁ A env _ _ E a en R₁ (F.step S₁) fun P₂ x v st₂ h₂ k₂ hx S₂ R₂ hv => k P₂ x v st₂ h₂ k₂ hx (S₁.trans S₂) R₂ hv
theorem Ev.ifx {t l r : Expr} {p : Pos} {Post : AV → St → Prop} (h : Tr C lv sc cel loc t st fun b st₁ => if b then Ev C lv sc cel loc l st₁ Post else Ev C lv sc cel loc r st₁ Post) : Ev C lv sc cel loc (.IfExp t l r p) st Post := fun P A env s Q E a en R F k => by
  refine wpAny_IfExp (h P A env s _ E a en R F fun P₁ b st₁ h₁ k₁ hb S₁ R₁ => ?_)
  cases b with
  | false =>
    simp only [Bool.false_eq_true, if_false] at hb ⊢
    exact hb P₁ A env _ _ E a en R₁ (F.step S₁) fun P₂ x v st₂ h₂ k₂ hx S₂ R₂ hv => k P₂ x v st₂ h₂ k₂ hx (S₁.trans S₂) R₂ hv
  | true =>
    simp only [if_true] at hb ⊢
    exact hb P₁ A env _ _ E a en R₁ (F.step S₁) fun P₂ x v st₂ h₂ k₂ hx S₂ R₂ hv => k P₂ x v st₂ h₂ k₂ hx (S₁.trans S₂) R₂ hv

theorem Ev.dictM {p : Pos} {Post : AV → St → Prop} (h : ∀ a, Post (.ref a) ((a, .dict []) :: st)) : Ev C lv sc cel loc (.Dict [] [] p) st Post := fun P A env s Q E a en R F k => by
  refine wpAny_Dict_empty ?_
  refine xe02 (R.push (x := .dict []) (o := { cls := .type "dict", data := .dict #[] }) (Acc0.dict.rep).1 rfl) fun R₂ S₂ => ?_
  exact k _ (.ref _) _ _ _ _ (h _) S₂ R₂ .ref
theorem Ev.frzD {e : Expr} {Post : AV → St → Prop} (h : Ev C lv sc cel loc e st fun x s => ∃ a xs s', x = .ref a ∧ Del s a (.dict xs) s' ∧ Post (.dct xs) s') : Ev C lv sc cel loc e st Post := fun P A env s Q E a en R F k =>
  h P A env s Q E a en R F fun P' x v st' h' tk hx S R' hv => by
    refine xe33 hx fun b xs s' qe0 d hp => ?_; clear hx; subst qe0
    cases hv
    obtain ⟨_, o, ho, hr⟩ := R'.own _ d.mem
    cases hr with
    | dict hl hvs =>
      refine xe02 (R'.frz d ho) fun R₂ S₂ => ?_
      exact k _ (.dct xs) _ s' h' tk hp (S.trans S₂) R₂ (.dct (fun z => R'.one.1 (z ▸ List.mem_map_of_mem d.mem)) (by unfold addP; rw [if_pos rfl]) hl (hvs.mono S₂.p))
theorem stored_miss {K : Type} [DecidableEq K] {kvs : List (K × Value)} {i : K} {w : Value} (h : i ∉ kvs.map (·.1)) : stored kvs i w = kvs ++ [(i, w)] := by
  unfold stored
  rw [if_neg]
  rw [List.any_eq_true]
  rintro ⟨kv, hm, e⟩
  have e : kv.1 = i := by simpa using e
  exact h (e ▸ List.mem_map_of_mem hm)
theorem Em.dict {k v : Expr} {D : Addr} {Post : St → Prop} (h : Ev C lv sc cel loc k st fun x st₁ => ∃ i, x = .str i ∧ Ev C lv sc cel loc v st₁ fun y st₂ => ∃ es st', Upd st₂ D (.dict es) (.dict (es ++ [(i, y)])) st' ∧ i ∉ es.map (·.1) ∧ es.length ≤ sizeLine ∧ Post st') : Em C lv sc cel loc (emitD k v) D st Post :=
  fun P A env s Q E a en R F kk => by
    unfold emitD
    refine wpAny_bind (h P A env s _ E a en R F fun P₁ x u st₁ h₁ k₁ hx S₁ R₁ hu => ?_)
    obtain ⟨i, rfl, hx⟩ := hx
    refine wpAny_bind (wpAny_holding (hx P₁ A env _ _ E a en R₁ (F.step S₁) fun P₂ y w st₂ h₂ k₂ hy S₂ R₂ hw => ?_))
    refine xe24 hy fun es st' u hi hsz hp => ?_; clear hy
    cases hu
    refine xe12 (R₂.at u.mem) fun o ho hr => ?_
    cases hr with
    | @dict _ kvs _ hl hvs =>
      have hD := dictOf ho hl
      refine wpAny_bind (wpAny_standAt (wpAny_holding (wpAny_dictSet_pairs (strKind_is _ _ _ _) hD (fun h' hD' hs' => ?_) (by rw [← List.length_map (f := (·.1)), hvs.keys, List.length_map]; exact hsz))))
      refine xe33 hD' fun o' es' ep' ho' hc' q => ?_; clear hD'
      rw [stored_miss (by rw [hvs.keys]; exact hi)] at q
      refine xe02 (R₂.upd u hs' ho' (.dict (kvs := kvs ++ [(i, w)]) ⟨hc', es', ep', q⟩ (hvs.app (.cons hw .nil)))) fun R' S' => ?_
      exact kk P₂ st' h' _ hp ((S₁.trans S₂).trans S') R'

noncomputable def pltB (a b : Int × Int) : Bool := decide (a.1 < b.1 ∨ (a.1 = b.1 ∧ a.2 < b.2))
end
section
set_option maxHeartbeats 1000000
variable {C : Cx} {lv : Nat} {sc : Scope} {cel : List (PySem.Str × Addr)} {loc : Locs} {st : St}
open AutoSeq1 (wpAny_loadPart') in
theorem tup_lt (l b : Addr) (n n2 : Nat) (a1 a2 b1 b2 : Int) (t1 t2 u1 u2 : Tok) :
    Meets (Builtin.«tuple.__lt__» ⟨[.ref l, .ref b], []⟩)
      (fun A R s => s.heap.get? l = some { cls := .type "tuple", dict := none, data := .seq #[.int a1 t1, .int a2 t2] n, slots := #[] } ∧ s.heap.get? b = some { cls := .type "tuple", dict := none, data := .seq #[.int b1 u1, .int b2 u2] n2, slots := #[] } ∧
        R (.ok (.ret (.bool (pltB (a1, a2) (b1, b2))))) s) := by
  refine .of_wp fun prog w A R s h => ?_
  obtain ⟨hp, g, d, tk, os⟩ := s; obtain ⟨hl, hb, h⟩ := h
  have f2 := AutoSeq1.sub_tuple_tuple
  wp_walk using wpAny_loadPart' hl, wpAny_loadPart' hb
  refine (?_ : wpAny _ _ (eqBool (.int a1 t1) (.int b1 u1)) _ _ _)
  refine (MeetsSeq.EqGives.int a1 b1 t1 u1) prog w _ _ _ _ ?_
  by_cases e1 : a1 = b1
  · subst e1
    simp only [beq_self_eq_true, Bool.not_true, Bool.false_eq_true, if_false]
    wp_walk
    refine (?_ : wpAny _ _ (eqBool (.int a2 t2) (.int b2 u2)) _ _ _)
    refine (MeetsSeq.EqGives.int a2 b2 t2 u2) prog w _ _ _ _ ?_
    by_cases e2 : a2 = b2
    · subst e2
      simp only [beq_self_eq_true, Bool.not_true, Bool.false_eq_true, if_false]
      wp_walk
      refine ⟨_, rfl, ?_⟩
      have : pltB (a1, a2) (a1, a2) = false := by simp [pltB]
      rw [this] at h
      exact h
    · have : (a2 == b2) = false := beq_eq_false_iff_ne.mpr e2
      rw [this]
      simp only [Bool.not_false, if_true]
      refine wpAny_bind (wpAny_rule (wpAny_bind ?_))
      refine PyProof.Rows.lt_int ?_
      have : pltB (a1, a2) (a1, b2) = decide (a2 < b2) := by simp [pltB]
      rw [this] at h
      wp_walk
      exact ⟨_, rfl, h⟩
  · have : (a1 == b1) = false := beq_eq_false_iff_ne.mpr e1
    rw [this]
    simp only [Bool.not_false, if_true]
    refine wpAny_bind (wpAny_rule (wpAny_bind ?_))
    refine PyProof.Rows.lt_int ?_
    have : pltB (a1, a2) (b1, b2) = decide (a1 < b1) := by simp [pltB, e1]
    rw [this] at h
    wp_walk
    exact ⟨_, rfl, h⟩
theorem Op2.ltP {a1 a2 b1 b2 : Int} {Post : AV → St → Prop} (hp : Post (.bool (pltB (a1, a2) (b1, b2))) st) : Op2 C lv (compareOp .Lt) (.tup [.int a1, .int a2]) (.tup [.int b1, .int b2]) st Post :=
  Op2.pureV hp fun P A s u v Q E ao R hu hv k => by
    obtain ⟨a, o, vs, rfl, hP, ⟨n, rfl⟩, hvs⟩ := hu.tup_inv
    obtain ⟨b, o', us, rfl, hP', ⟨n', rfl⟩, hus⟩ := hv.tup_inv
    refine xe23 hvs.two_inv fun v1 v2 qe0 q1 q2 => ?_; subst qe0
    refine xe23 hus.two_inv fun u1 u2 qe0 r1 r2 => ?_; subst qe0
    refine xe11 q1.int_inv fun _ qe0 => ?_; subst qe0
    refine xe11 q2.int_inv fun _ qe0 => ?_; subst qe0
    refine xe11 r1.int_inv fun _ qe0 => ?_; subst qe0
    refine xe11 r2.int_inv fun _ qe0 => ?_; subst qe0
    have e := R.keep _ _ hP
    have e' := R.keep _ _ hP'
    exact richCompare_meets_room (op := .Lt) ⟨_, e, rfl⟩ ⟨_, e', rfl⟩ PySem.F.slot_tuple_lt PySem.F.entry_tuple_lt (PySem.F.args_tuple_lt_2 _ _) (tup_lt a b n n' a1 a2 b1 b2 _ _ _ _)
      ⟨e, e', (fun x => nomatch x), k _ s.toks .bool⟩ ao.cl
theorem ints_at {vs : List Value} {ns : List Int} (h : IntsAre vs ns) : ∀ {i : Nat} (h : i < ns.length), ∃ t, vs[i]? = some (.int ns[i] t) := by
  induction h with
  | nil => intro i h; exact absurd h (Nat.not_lt_zero _)
  | cons m t h ih =>
    intro i hi
    cases i with
    | zero => exact ⟨t, rfl⟩
    | succ i => exact ih (Nat.lt_of_succ_lt_succ hi)
noncomputable def lgtB : List Int → List Int → Bool
  | a :: x, b :: y => if a = b then lgtB x y else decide (a > b)
  | [], _ => false
  | _ :: _, [] => true
open AutoSeq1 (wpAny_loadPart') in
open MeetsSeq MeetsSeq2 MeetsSeq3 SeqAt in
theorem gt_loop (l b : Addr) (xs ys : List Int) (vs us : List Value) (n n2 : Nat) (hv : IntsAre vs xs) (hu : IntsAre us ys) (hl : xs.length = ys.length) (k : Nat) :
    ∀ i : Nat, xs.length - i = k → Meets (Builtin.«list.__eq__.loop» ⟨[.ref l, .ref b, rawInt i, rawInt 4], []⟩)
      (fun A R s => s.heap.get? l = some { cls := .type "list", dict := none, data := .seq vs.toArray n, slots := #[] } ∧ s.heap.get? b = some { cls := .type "list", dict := none, data := .seq us.toArray n2, slots := #[] } ∧
        R (.ok (.ret (.bool (lgtB (xs.drop i) (ys.drop i))))) s) := by
  have lv := hv.length
  have lu := hu.length
  induction k with
  | zero =>
    intro i hk prog w A R s h
    obtain ⟨hp, g, d, tk, os⟩ := s; obtain ⟨hl', hb, h⟩ := h
    wp_walk using wpAny_loadPart' hl', wpAny_loadPart' hb
    have hi1 : vs.toArray[((i : Nat) : Int).toNat]? = none := by simp; lia
    have hi2 : us.toArray[((i : Nat) : Int).toNat]? = none := by simp; lia
    have hd : xs.drop i = [] := by simp; lia
    rw [hd] at h
    rw [hi1, hi2]
    wp_walk using wpAny_loadPart' hl', wpAny_loadPart' hb
    refine (?_ : R (.ok (.ret (.bool (decide (vs.toArray.size > us.toArray.size))))) _)
    simpa [lv, lu, hl, lgtB] using h
  | succ k ih =>
    intro i hk prog w A R s h
    obtain ⟨hp, g, d, tk, os⟩ := s; obtain ⟨hl', hb, h⟩ := h
    wp_walk using wpAny_loadPart' hl', wpAny_loadPart' hb
    have hlt : i < xs.length := by lia
    have hlt2 : i < ys.length := by lia
    refine xe11 (ints_at hv hlt) fun t e1 => ?_
    refine xe11 (ints_at hu hlt2) fun u e2 => ?_
    have hi1 : vs.toArray[((i : Nat) : Int).toNat]? = some (.int xs[i] t) := by simpa using e1
    have hi2 : us.toArray[((i : Nat) : Int).toNat]? = some (.int ys[i] u) := by simpa using e2
    have hc : ((i : Int) + 1) = ((i + 1 : Nat) : Int) := by push_cast; rfl
    rw [List.drop_eq_getElem_cons hlt, List.drop_eq_getElem_cons hlt2] at h
    rw [hi1, hi2]
    refine wpAny_bind ((MeetsSeq.EqGives.int xs[i] ys[i] t u) prog w _ _ _ _ ?_)
    by_cases e : xs[i] = ys[i]
    · rw [e]
      have hb' : lgtB (xs[i] :: xs.drop (i + 1)) (ys[i] :: ys.drop (i + 1)) = lgtB (xs.drop (i + 1)) (ys.drop (i + 1)) := by simp [lgtB, e]
      rw [hb'] at h
      simp only [beq_self_eq_true]
      wp_walk
      rw [hc]
      exact ⟨plainId_quiet plain_eq_loop _, codeAny_builtin entry_eq_loop (by
        rw [Around.under_plainId plain_eq_loop _]
        exact ih (i + 1) (by lia) prog w A R _ ⟨hl', hb, h⟩)⟩
    · have hb' : lgtB (xs[i] :: xs.drop (i + 1)) (ys[i] :: ys.drop (i + 1)) = decide (xs[i] > ys[i]) := by simp [lgtB, e]
      rw [hb'] at h
      have : (xs[i] == ys[i]) = false := beq_eq_false_iff_ne.mpr e
      rw [this]
      wp_walk using wpAny_loadPart' hl', wpAny_loadPart' hb
      rw [hi1, hi2]
      refine (?_ : wpAny _ _ (richCompare CmpOp.Gt (.int xs[i] t) (.int ys[i] u) >>= fun r => ret r) _ _ _)
      exact wpAny_bind (PySem.P.gt_int (wpAny_pure h))
open AutoSeq1 (wpAny_loadPart') in
open MeetsSeq MeetsSeq2 MeetsSeq3 SeqAt in
theorem list_gt (l b : Addr) (xs ys : List Int) (vs us : List Value) (n n2 : Nat) (hv : IntsAre vs xs) (hu : IntsAre us ys) (hl : xs.length = ys.length) :
    Meets (Builtin.«list.__gt__» ⟨[.ref l, .ref b], []⟩)
      (fun A R s => s.heap.get? l = some { cls := .type "list", dict := none, data := .seq vs.toArray n, slots := #[] } ∧ s.heap.get? b = some { cls := .type "list", dict := none, data := .seq us.toArray n2, slots := #[] } ∧
        R (.ok (.ret (.bool (lgtB xs ys)))) s) := by
  intro prog w A R s h
  obtain ⟨hp, g, d, tk, os⟩ := s; obtain ⟨hl', hb, h⟩ := h
  have f3 := AutoSeq1.sub_list_list
  wp_walk using wpAny_loadPart' hl', wpAny_loadPart' hb
  exact ⟨plainId_quiet plain_eq_loop _, codeAny_builtin entry_eq_loop (by
    rw [Around.under_plainId plain_eq_loop _]
    exact gt_loop l b xs ys vs us n n2 hv hu hl _ 0 rfl prog w A R _ ⟨hl', hb, by simpa using h⟩)⟩
theorem rc_gt {A : Around} {prog : Program} {w : World} {s : Shared} {l b : Addr} {xs ys : List Int} {vs us : List Value} {n n2 : Nat} {Q : Value → Shared → Prop} {E : Value → Shared → Prop} (hv : IntsAre vs xs) (hu : IntsAre us ys) (hl : xs.length = ys.length) (hA : A.units < cLine)
    (e : s.heap.get? l = some { cls := .type "list", dict := none, data := .seq vs.toArray n, slots := #[] }) (e' : s.heap.get? b = some { cls := .type "list", dict := none, data := .seq us.toArray n2, slots := #[] })
    (k : Q (.bool (lgtB xs ys)) s) : wpAny (model prog w) A (richCompare .Gt (.ref l) (.ref b)) Q E s :=
  richCompare_meets_room (op := .Gt) ⟨_, e, rfl⟩ ⟨_, e', rfl⟩ PySem.F.slot_list_gt PySem.F.entry_list_gt (PySem.F.args_list_gt_2 _ _) (list_gt l b xs ys vs us n n2 hv hu hl) ⟨e, e', (fun x => nomatch x), k⟩ hA
end
section
set_option maxHeartbeats 1000000
variable {C : Cx} {lv : Nat} {sc : Scope} {cel : List (PySem.Str × Addr)} {loc : Locs} {st : St}

noncomputable def bst (g : AV → AV → Bool) (b y : AV) : AV := if g y b then y else b
noncomputable def Gt (C : Cx) (st : St) (ys : List AV) (g : AV → AV → Bool) : Prop :=
  ∀ y ∈ ys, ∀ z ∈ ys, ∀ (P : PM) (A : Around) (s : Shared) (u v : Value) (Q : Value → Shared → Prop) (E : Value → Shared → Prop), A.units < cLine → Rp C P st s.heap → VRep C P y u → VRep C P z v → Q (.bool (g y z)) s → wpAny (model C.prog C.w) A (richCompare .Gt u v) Q E s
theorem bst_mem {g : AV → AV → Bool} {ys : List AV} : ∀ (rest : List AV) (y : AV), y ∈ ys → (∀ z ∈ rest, z ∈ ys) → rest.foldl (bst g) y ∈ ys
  | [], y, h, _ => h
  | z :: r, y, h, hr => bst_mem r _ (by unfold bst; split; exact hr z (.head _); exact h) fun q hq => hr q (.tail _ hq)

section
variable {P : PM} {A : Around} {I : Addr} {fp wr : List Addr} {n : Nat} {Pi : Nat → Value → Prop} {Si : Nat → Heap → Prop} {R : Result → Shared → Prop}
theorem max_loop {h0 : Heap} {y0 : AV} {rest : List AV} {g : AV → AV → Bool} (R0 : Rp C P st h0) (W : Walks C.prog C.w A.in1 I fp wr (rest.length + 1) Pi Si) (hval : ∀ i v, Pi i v → ∃ y, (y0 :: rest)[i]? = some y ∧ VRep C P y v)
    (hcmp : Gt C st (y0 :: rest) g) (hA : A.in1.units < cLine) (S : Addr) (hSf : S ∉ fp) (hw : ∀ b ∈ wr, h0.get? b = none) (hS0 : h0.get? S = none) :
    ∀ (k j : Nat) (s : Shared) (vb : Value) (c : Nat), rest.length - j = k → j ≤ rest.length → Si (j + 1) s.heap → VRep C P ((rest.take j).foldl (bst g) y0) vb →
    s.heap.get? S = some { cls := .type "list", dict := none, data := .seq #[vb, vb] c, slots := #[] } → (∀ b o, h0.get? b = some o → s.heap.get? b = some o) →
    (∀ v h' tk, VRep C P (rest.foldl (bst g) y0) v → (∀ b o, h0.get? b = some o → h'.get? b = some o) → R (.ok (.ret v)) { s with heap := h', toks := tk }) →
    codeAny (model C.prog C.w) A (.builtin "max.loop" ⟨[.ref I, .none, .ref S], []⟩) R s := by
  have hSw : S ∉ wr := fun h => hSf (W.sub _ h)
  have hname : (toString "max" ++ toString ".loop" : String) = "max.loop" := by decide
  have hb0 : ∀ b o, h0.get? b = some o → b ∉ wr ∧ b ≠ S := fun b o e => ⟨fun hm => (by rw [hw b hm] at e; cases e), fun z => (by rw [z, hS0] at e; cases e)⟩
  intro k
  induction k with
  | zero =>
    intro j s vb c hk hj hst hPb hS hk0 hR
    have hin : j = rest.length := by lia
    subst hin
    refine codeAny_builtin PySem.F.entry_max_loop ?_
    rw [Around.under_plainId PySem.F.plain_max_loop _]
    refine (?_ : wpAny _ A.in1 (seqItems? (.ref S) >>= _) _ _ s)
    refine wpAny_bind (wpAny_seqItems hS rfl ?_)
    refine (?_ : wpAny _ A.in1 (tryCatch (pyNext (.ref I)) _ >>= _) _ _ s)
    refine wpAny_bind (wpAny_tryCatch (W.done s _ _ hst fun h' tk hk' => ?_))
    have hS' := hk' S _ hSw hS
    refine (?_ : wpAny _ A.in1 (updateSeq S (fun _ => #[]) >>= _) _ _ _)
    refine wpAny_bind ?_
    refine wpAny_updateSeq hS' rfl (wpAny_bind (wpAny_letGo (wpAny_pure ?_)))
    refine hR vb _ tk (by simpa using hPb) fun b o e => ?_
    refine xe02 (hb0 b o e) fun q1 q2 => ?_
    exact (Heap.get?_update_other _ _ (Ne.symm q2)).trans (hk' b o q1 (hk0 b o e))
  | succ k ih =>
    intro j s vb c hk hj hst hPb hS hk0 hR
    have hlt : j < rest.length := by lia
    refine codeAny_builtin PySem.F.entry_max_loop ?_
    rw [Around.under_plainId PySem.F.plain_max_loop _]
    refine (?_ : wpAny _ A.in1 (seqItems? (.ref S) >>= _) _ _ s)
    refine wpAny_bind (wpAny_seqItems hS rfl ?_)
    refine (?_ : wpAny _ A.in1 (tryCatch (pyNext (.ref I)) _ >>= _) _ _ s)
    refine wpAny_bind (wpAny_tryCatch (W.item (j + 1) s _ _ (by lia) hst fun v h' tk hP hst' hk' => ?_))
    have hS' := hk' S _ hSw hS
    refine xe12 (hval _ _ hP) fun y hy hvy => ?_
    have hy' : rest[j] = y := by simpa [hlt] using hy
    have hk1 : ∀ b o, h0.get? b = some o → h'.get? b = some o := fun b o e => hk' b o (hb0 b o e).1 (hk0 b o e)
    have ht : (rest.take (j + 1)).foldl (bst g) y0 = bst g ((rest.take j).foldl (bst g) y0) y := by
      rw [List.take_succ_eq_append_getElem hlt, List.foldl_append, hy']; rfl
    have hm1 : y ∈ y0 :: rest := List.mem_cons_of_mem _ (hy' ▸ List.getElem_mem _)
    have hm2 : (rest.take j).foldl (bst g) y0 ∈ y0 :: rest := bst_mem _ _ List.mem_cons_self fun z hz => List.mem_cons_of_mem _ (List.mem_of_mem_take hz)
    refine (?_ : wpAny _ A.in1 (tryCatch (holding [v, v] (richCompare .Gt v vb >>= _)) _ >>= _) _ _ _)
    refine wpAny_bind (wpAny_tryCatch (wpAny_holding (wpAny_bind (hcmp y hm1 _ hm2 P A.in1 _ v vb _ _ hA (R0.ext hk1).1 hvy hPb ?_))))
    refine wpAny_bind (wpAny_holding (wpAny_truthy_bool ?_))
    refine wpAny_bind (wpAny_letGo (wpAny_pure ?_))
    cases hb : g y ((rest.take j).foldl (bst g) y0) with
    | true =>
      simp only [if_true]
      refine wpAny_bind ?_
      refine wpAny_updateSeq hS' rfl (wpAny_bind (wpAny_letGo ?_))
      rw [hname]
      refine wpAny_pure ⟨plainId_quiet PySem.F.plain_max_loop _, ih (j + 1) _ v _ (by lia) hlt (W.frame _ _ _ hst' fun b hbf o e => ?_) (by rw [ht, show bst g _ y = y from if_pos hb]; exact hvy) (Heap.get?_update_self _ hS' rfl) (fun b o e => ?_)
        fun v' h'' tk'' hP' hk'' => ?_⟩
      · exact (Heap.get?_update_other _ _ (fun h : S = b => hSf (by rw [h]; exact hbf))).trans e
      · exact (Heap.get?_update_other _ _ (Ne.symm (hb0 b o e).2)).trans (hk1 b o e)
      · exact hR v' h'' tk'' hP' hk''
    | false =>
      simp only [Bool.false_eq_true, if_false]
      refine wpAny_bind (wpAny_letGo ?_)
      rw [hname]
      refine wpAny_pure ⟨plainId_quiet PySem.F.plain_max_loop _, ih (j + 1) _ vb c (by lia) hlt hst' (by rw [ht, show bst g ((rest.take j).foldl (bst g) y0) y = (rest.take j).foldl (bst g) y0 from if_neg (by rw [hb]; simp)]; exact hPb) hS' hk1 fun v' h'' tk'' hP' hk'' => ?_⟩
      exact hR v' h'' tk'' hP' hk''
end

theorem Cl.max {x : AV} {y0 : AV} {rest : List AV} {g : AV → AV → Bool} {Post : AV → St → Prop} (l : ItO C x st (y0 :: rest)) (hcmp : Gt C st (y0 :: rest) g) (hp : Post (rest.foldl (bst g) y0) st) : Cl C lv (.builtin "max") [x] [] st Post := fun P A s vs kvs Q E a Rr hv hk k => by
  obtain rfl := hk.nil_inv
  cases hv with
  | @cons _ v _ _ h1 h2 =>
    cases h2
    have hname : (toString "max" ++ toString ".loop" : String) = "max.loop" := by decide
    have hA : A.in1.units < cLine := by have := a.units; refine (?_ : _ < 9900); simp only [Around.in1]; lia
    refine call_function_tree PySem.F.kind_max PySem.F.plain_max PySem.F.entry_max (PySem.F.args_max1 _) ?_
    refine (?_ : wpAny _ A.in1 (Builtin.Builtins.bindParams "max" ["key", "default"] 0 ⟨[], []⟩ >>= _) _ _ s)
    refine wpAny_bind (wpAny_of_eq (show Builtin.Builtins.bindParams "max" ["key", "default"] 0 ⟨[], []⟩ = pure [none, none] from rfl) ?_)
    refine wpAny_bind (wpAny_pure ?_)
    refine wpAny_bind (l P A.in1 s v _ _ (by simpa using a.handled) Rr h1 fun I fp Pi Si h₂ k₂ hW hPi hIc hS0 hwr hfp hk₂ _ => ?_)
    have W := hW A.in1 (by simpa using a.handled)
    refine wpAny_bind (wpAny_newObj_type ?_)
    have hlt : ∀ b, h₂.get? b ≠ none → b < h₂.objs.size := fun b e => by
      refine xe11 (Option.ne_none_iff_exists'.mp e) fun o e => ?_
      exact Heap.lt_size e
    have hSf : h₂.objs.size ∉ fp := fun hm => Nat.lt_irrefl _ (hlt _ (hfp _ hm).1)
    have hS0' : s.heap.get? h₂.objs.size = none := by
      cases e : s.heap.get? h₂.objs.size with
      | none => rfl
      | some o => exact absurd (hlt _ (by rw [hk₂ _ _ e]; simp)) (Nat.lt_irrefl _)
    have hw : ∀ b ∈ [I], s.heap.get? b = none := fun b hb => by rw [List.mem_singleton.mp hb]; exact hwr
    have hSw : h₂.objs.size ∉ [I] := fun h => hSf (W.sub _ h)
    rw [hname]
    refine wpAny_pure ⟨plainId_quiet PySem.F.plain_max_loop _, ?_⟩
    -- the first item
    refine codeAny_builtin PySem.F.entry_max_loop ?_
    rw [Around.under_plainId PySem.F.plain_max_loop _]
    refine (?_ : wpAny _ A.in1 (seqItems? (.ref h₂.objs.size) >>= _) _ _ _)
    have hS : ({ s with heap := h₂.push { cls := .type "list", data := .seq #[] }, toks := k₂ } : Shared).heap.get? h₂.objs.size = some _ := Heap.get?_push_size _ rfl
    refine wpAny_bind (wpAny_seqItems hS rfl ?_)
    refine (?_ : wpAny _ A.in1 (tryCatch (pyNext (.ref I)) _ >>= _) _ _ _)
    refine wpAny_bind (wpAny_tryCatch (W.item 0 _ _ _ (Nat.succ_pos _) (W.frame _ _ _ hS0 fun b hb o e => Heap.get?_push_of_some _ e) fun v h' tk hP hst' hk' => ?_))
    have hS' := hk' _ _ hSw hS
    refine xe12 (hPi _ _ hP) fun y hy hvy => ?_
    have hy' : y0 = y := by simpa using hy
    subst hy'
    refine (?_ : wpAny _ A.in1 (updateSeq h₂.objs.size (fun _ => #[v, v]) >>= _) _ _ _)
    refine wpAny_bind ?_
    refine wpAny_updateSeq hS' rfl ?_
    rw [hname]
    refine wpAny_pure ⟨plainId_quiet PySem.F.plain_max_loop _, max_loop (g := g) Rr W hPi hcmp hA h₂.objs.size hSf hw hS0' _ 0 _ v _ rfl (Nat.zero_le _) (W.frame _ _ _ hst' fun b hbf o e => ?_) (by simpa using hvy) (Heap.get?_update_self _ hS' rfl) (fun b o e => ?_) fun v' h'' tk'' hP' hk'' => ?_⟩
    · exact (Heap.get?_update_other _ _ (fun h => hSf (by rw [h]; exact hbf))).trans e
    · have hbS : h₂.objs.size ≠ b := fun z => by rw [← z, hS0'] at e; cases e
      have hbw : b ∉ [I] := fun hm => by rw [hw b hm] at e; cases e
      exact (Heap.get?_update_other _ _ hbS).trans (hk' b o hbw (Heap.get?_push_of_some _ (hk₂ b o e)))
    · refine xe02 (Rr.ext hk'') fun R' S' => ?_
      exact k P _ v' st h'' tk'' hp S' R' hP'

noncomputable def gI : AV → AV → Bool
  | .int a, .int b => decide (a > b)
  | _, _ => false
theorem Gt.ints {ns : List Int} : Gt C st (iL ns) gI := fun y hy z hz P A s u v Q E hA R hu hv hq => by
  refine xe12 (List.mem_map.mp hy) fun a _ qe0 => ?_; subst qe0
  refine xe12 (List.mem_map.mp hz) fun b _ qe0 => ?_; subst qe0
  cases hu; cases hv
  exact PySem.P.gt_int hq
noncomputable def unI : List AV → List Int
  | [] => []
  | .int a :: r => a :: unI r
  | _ :: r => unI r
theorem unI_iL : ∀ ns : List Int, unI (iL ns) = ns
  | [] => rfl
  | n :: r => congrArg (n :: ·) (unI_iL r)
noncomputable def gR : AV → AV → Bool
  | .lst a, .lst b => lgtB (unI a) (unI b)
  | _, _ => false
noncomputable def rL (rows : List (List Int)) : List AV := rows.map fun r => AV.lst (iL r)
theorem Gt.rows {rows : List (List Int)} {m : Nat} (hm : ∀ r ∈ rows, r.length = m) : Gt C st (rL rows) gR := fun y hy z hz P A s u v Q E hA R hu hv hq => by
  refine xe12 (List.mem_map.mp hy) fun a ha qe0 => ?_; subst qe0
  refine xe12 (List.mem_map.mp hz) fun b hb qe0 => ?_; subst qe0
  cases hu with
  | @lst l o _ vs hP hl hvs =>
    cases hv with
    | @lst l' o' _ us hP' hl' hus =>
      refine xe11 hl fun n qe0 => ?_; clear hl; subst qe0
      refine xe11 hl' fun n' qe0 => ?_; clear hl'; subst qe0
      have e : gR (.lst (iL a)) (.lst (iL b)) = lgtB a b := by simp [gR, unI_iL]
      rw [e] at hq
      exact rc_gt (intsAre hvs) (intsAre hus) (by rw [hm a ha, hm b hb]) hA (R.keep _ _ hP) (R.keep _ _ hP') hq
end
section
set_option maxHeartbeats 1000000
variable {C : Cx} {lv : Nat} {sc : Scope} {cel : List (PySem.Str × Addr)} {loc : Locs} {st : St}

theorem preSum_take (ns : List Int) : ∀ j, j ≤ ns.length → preSum (fun i => (ns[i]?).getD 0) j = (ns.take j).sum
  | 0, _ => by simp [preSum]
  | j + 1, h => by
    have hlt : j < ns.length := h
    rw [preSum, preSum_take ns j (by lia), List.take_succ_eq_append_getElem hlt, List.sum_append]
    simp [hlt]
theorem Cl.sum {x : AV} {ns : List Int} {Post : AV → St → Prop} (l : ItO C x st (iL ns)) (hp : Post (.int ns.sum) st) : Cl C lv (.builtin "sum") [x] [] st Post := fun P A s vs kvs Q E a Rr hv hk k => by
  obtain rfl := hk.nil_inv
  cases hv with
  | @cons _ v _ _ h1 h2 =>
    cases h2
    refine call_sum_walkG (l P A.in1 s v _ _ (by simpa using a.handled) Rr h1 fun I fp Pi Si h₂ k₂ hW hPi hIc hS0 hwr hfp hk₂ _ => ?_)
    refine ⟨I, fp, [I], ns.length, Pi, Si, fun i => (ns[i]?).getD 0, rfl, ?_, hS0, fun b hb => ?_, fun i v hi => ?_, fun h' tk t' hk' => ?_⟩
    · have := hW A.in1 (by simpa using a.handled)
      simpa [iL] using this
    · refine xe11 (Option.ne_none_iff_exists'.mp (hfp b hb).1) fun o e => ?_
      exact Heap.lt_size e
    · refine xe12 (hPi i v hi) fun y hy hv => ?_
      unfold iL at hy
      rw [List.getElem?_map] at hy
      cases q : ns[i]? with
      | none => rw [q] at hy; cases hy
      | some m => rw [q] at hy; cases hy; cases hv; exact ⟨_, congrArg (Value.int · _) (by refine (?_ : m = (ns[i]?).getD 0); rw [q]; rfl)⟩
    · have hkk : ∀ b o, s.heap.get? b = some o → h'.get? b = some o := fun b o e => hk' b o (fun hm => by rw [List.mem_singleton.mp hm, hwr] at e; cases e) (hk₂ b o e)
      refine xe02 (Rr.ext hkk) fun R' S' => ?_
      rw [preSum_take ns _ (Nat.le_refl _), List.take_length]
      exact k P _ _ st h' tk hp S' R' .int

theorem rep_row {P : PM} {v : Value} {r q : List Int} (h : VRep C P (.lst (iL r)) v) (h' : VRep C P (.lst (iL q)) v) : r = q := by
  cases h with
  | lst hP hl hvs =>
    cases h' with
    | lst hP' hl' hvs' =>
      rw [hP] at hP'
      cases hP'
      refine xe11 hl fun n qe0 => ?_; clear hl; subst qe0
      refine xe11 hl' fun n' e => ?_; clear hl'
      have e : _ = _ := congrArg Obj.data e
      injection e with e _
      have e := congrArg Array.toList e
      simp at e
      subst e
      have h1 := intsAre hvs
      have h2 := intsAre hvs'
      have gen : ∀ {vs : List Value} {r q : List Int}, IntsAre vs r → IntsAre vs q → r = q := by
        intro vs r q h1
        induction h1 generalizing q with
        | nil => intro h2; cases h2; rfl
        | cons m t h ih => intro h2; cases h2 with | cons m' t' h' => rw [ih h']
      exact gen h1 h2
theorem eq_rows {P : PM} {A : Around} {s : Shared} {u v : Value} {r q : List Int} (hk : ∀ b o, P b = some o → s.heap.get? b = some o) (hA : A.units < cLine) (hu : VRep C P (.lst (iL r)) u) (hv : VRep C P (.lst (iL q)) v) : SeqAt.EqAt A s u v (decide (r = q)) := by
  by_cases e : u = v
  · subst e
    rw [decide_eq_true (rep_row hu hv)]
    exact SeqAt.EqAt.same u
  · cases hu with
    | @lst a o _ vs hP hl hvs =>
      cases hv with
      | @lst b o' _ us hP' hl' hus =>
        refine xe11 hl fun n qe0 => ?_; clear hl; subst qe0
        refine xe11 hl' fun n' qe0 => ?_; clear hl'; subst qe0
        have h1 := intsAre hvs
        have h2 := intsAre hus
        have i1 := isL (hk _ _ hP)
        have i2 := isL (hk _ _ hP')
        have l1 := h1.length
        have l2 := h2.length
        refine SeqAt.EqAt.of_refs (fun z => e (by rw [z])) ?_
        by_cases hl : r.length = q.length
        · have := SeqAt.RcAt.lists (A := A) (s := s) (e := fun j => (r[j]?).getD 0 == (q[j]?).getD 0) i1 i2 (by simp [l1, l2, hl]) hA (fun j q1 q2 => by
            refine xe11 (ints_at h1 (i := j) (by simpa [l1] using q1)) fun t e1 => ?_
            refine xe11 (ints_at h2 (i := j) (by simpa [l2] using q2)) fun t' e2 => ?_
            have hj1 : j < r.length := by simpa [l1] using q1
            have hj2 : j < q.length := by simpa [l2] using q2
            have e1' : vs.toArray[j] = .int r[j] t := by
              have : j < vs.length := by simpa using q1
              rw [List.getElem?_eq_getElem this] at e1; simpa using Option.some.inj e1
            have e2' : us.toArray[j] = .int q[j] t' := by
              have : j < us.length := by simpa using q2
              rw [List.getElem?_eq_getElem this] at e2; simpa using Option.some.inj e2
            rw [e1', e2', List.getElem?_eq_getElem hj1, List.getElem?_eq_getElem hj2]
            exact SeqAt.EqAt.int_int _ _ _ _)
          have hb : (List.range vs.toArray.size).all (fun j => (r[j]?).getD 0 == (q[j]?).getD 0) = decide (r = q) := by
            rw [Bool.eq_iff_iff, List.all_eq_true, decide_eq_true_eq]
            constructor
            · intro hall
              refine List.ext_getElem hl fun j h1 h2 => ?_
              have := hall j (by simp [l1, h1])
              simpa [List.getElem?_eq_getElem h1, List.getElem?_eq_getElem h2] using this
            · rintro rfl j hj; simp
          rw [hb] at this
          exact this
        · have : decide (r = q) = false := decide_eq_false fun z => hl (z ▸ rfl)
          rw [this]
          exact SeqAt.RcAt.lists_lengths i1 i2 (by simp [l1, l2, hl]) hA

theorem Cl.indexI {x : AV} {ns : List Int} {m : Int} {Post : AV → St → Prop} (l : LV st x (iL ns)) (hm : m ∈ ns) (hz : ns.length ≤ 1000) (hp : Post (.int (ns.idxOf m : Nat)) st) : Cl C lv (.builtin "list.index") [x, .int m] [] st Post := fun P A s vs kvs Q E a R hv hk k => by
  obtain rfl := hk.nil_inv
  refine xe23 hv.two_inv fun _ _ qe0 h1 h2 => ?_; subst qe0
  · · cases h2
      refine xe33 (l.at R h1) fun b vs n qe0 e hvs => ?_; subst qe0
      have hi := intsAre hvs
      have hlen := hi.length
      have hj : ns.idxOf m < ns.length := List.idxOf_lt_length_iff.mpr hm
      refine call_meets PySem.F.slot_list_index ⟨_, e, rfl⟩ PySem.F.entry_list_index (PySem.F.args_list_index_2 _ _)
        (SeqAt.list_indexAt b vs.toArray n none #[] (.int m _) (isInt m) (ns.idxOf m) (by simpa [hlen] using hj) (by lia) ?_ ?_) ⟨e, fun y hy => (eq_isInt m _ hi y (by simpa using hy)).at _ _, k P _ _ st s.heap _ hp (Step.refl ..) R .int⟩
      · refine xe11 (ints_at hi hj) fun t e1 => ?_
        have : vs.toArray[ns.idxOf m]'(by simpa [hlen] using hj) = .int (ns[ns.idxOf m]) t := by
          have h' : ns.idxOf m < vs.length := by lia
          rw [List.getElem?_eq_getElem h'] at e1; simpa using Option.some.inj e1
        rw [this, List.getElem_idxOf]; simp [isInt]
      · intro j hj' hlt
        have hj2 : j < ns.length := by lia
        refine xe11 (ints_at hi hj2) fun t e1 => ?_
        have : vs.toArray[j] = .int ns[j] t := by
          have h' : j < vs.length := by lia
          rw [List.getElem?_eq_getElem h'] at e1; simpa using Option.some.inj e1
        rw [this]
        have := List.not_of_lt_findIdx (xs := ns) (p := (· == m)) (i := j) hlt
        simpa [isInt] using this
open Classical in
theorem Cl.indexR {x : AV} {rows : List (List Int)} {m : List Int} {Post : AV → St → Prop} (l : LV st x (rL rows)) (hm : m ∈ rows) (hz : rows.length ≤ 1000) (hp : Post (.int (rows.idxOf m : Nat)) st) : Cl C lv (.builtin "list.index") [x, .lst (iL m)] [] st Post := fun P A s vs kvs Q E a R hv hk k => by
  obtain rfl := hk.nil_inv
  cases hv with
  | cons h1 h2 =>
    cases h2 with
    | @cons _ v _ _ h2 h3 =>
      cases h3
      refine xe33 (l.at R h1) fun b vs n qe0 e hvs => ?_; subst qe0
      have hlen : vs.length = rows.length := by rw [← hvs.length]; simp [rL]
      have hj : rows.idxOf m < rows.length := List.idxOf_lt_length_iff.mpr hm
      have hat : ∀ j (hj : j < rows.length), ∃ u, vs[j]? = some u ∧ VRep C P (.lst (iL rows[j])) u := fun j hj => hvs.get (by simp [rL, hj])
      have hA : A.in1.units < cLine := by have := a.units; refine (?_ : _ < 9900); simp only [Around.in1]; lia
      refine call_meets PySem.F.slot_list_index ⟨_, e, rfl⟩ PySem.F.entry_list_index (PySem.F.args_list_index_2 _ _)
        (SeqAt.list_indexAt b vs.toArray n none #[] v (fun u => decide (VRep C P (.lst (iL m)) u)) (rows.idxOf m) (by simpa [hlen] using hj) (by lia) ?_ ?_) ⟨e, fun y hy => ?_, k P _ _ st s.heap _ hp (Step.refl ..) R .int⟩
      · refine xe12 (hat _ hj) fun u e1 e2 => ?_
        have : vs.toArray[rows.idxOf m]'(by simpa [hlen] using hj) = u := by
          have h' : rows.idxOf m < vs.length := by lia
          rw [List.getElem?_eq_getElem h'] at e1; simpa using Option.some.inj e1
        rw [this]
        rw [List.getElem_idxOf] at e2
        exact decide_eq_true e2
      · intro j hj' hlt
        have hj2 : j < rows.length := by lia
        refine xe12 (hat j hj2) fun u e1 e2 => ?_
        have : vs.toArray[j] = u := by
          have h' : j < vs.length := by lia
          rw [List.getElem?_eq_getElem h'] at e1; simpa using Option.some.inj e1
        rw [this]
        refine decide_eq_false fun z => ?_
        have := List.not_of_lt_findIdx (xs := rows) (p := (· == m)) (i := j) hlt
        rw [rep_row e2 z] at this; simp at this
      · obtain ⟨j, hj, rfl⟩ := List.mem_iff_getElem.mp (by simpa using hy : y ∈ vs)
        refine xe12 (hat j (by lia)) fun u e1 e2 => ?_
        rw [List.getElem?_eq_getElem hj] at e1
        cases e1
        have := eq_rows (A := A.in1) (s := s) R.keep hA e2 h2
        have hd : decide (VRep C P (.lst (iL m)) vs[j]) = decide (rows[j]'(by lia) = m) := by
          rw [Bool.eq_iff_iff, decide_eq_true_eq, decide_eq_true_eq]
          exact ⟨fun z => rep_row e2 z, fun z => z ▸ e2⟩
        simp only [hd]
        exact this
end
section
set_option maxHeartbeats 1000000
variable {C : Cx} {lv : Nat} {sc : Scope} {cel : List (PySem.Str × Addr)} {loc : Locs} {st : St}

structure Pg (C : Cx) : Prop where
  gd : Gd C
  k : C.K = KF C.w.params
noncomputable def nodupB : List PySem.Str → Bool
  | [] => true
  | x :: r => !(r.any (· == x)) && nodupB r
theorem nodupB_of : ∀ {l : List PySem.Str}, nodupB l = true → l.Nodup
  | [], _ => List.nodup_nil
  | x :: r, h => by
    unfold nodupB at h
    rw [Bool.and_eq_true] at h
    refine List.nodup_cons.mpr ⟨fun hm => ?_, nodupB_of h.2⟩
    have : r.any (· == x) = true := List.any_eq_true.mpr ⟨x, hm, by simp⟩
    rw [this] at h; simp at h
noncomputable def kindL (names : List (PySem.Str × NameKind)) (x : PySem.Str) : Bool := match names.lookup x with | some .local => true | _ => false
noncomputable def kindC (names : List (PySem.Str × NameKind)) (x : PySem.Str) : Bool := match names.lookup x with | some .cell => true | _ => false
theorem kindL_of {names : List (PySem.Str × NameKind)} {x : PySem.Str} : kindL names x = true ↔ names.lookup x = some .local := by
  unfold kindL
  cases h : names.lookup x with
  | none => simp
  | some k => cases k <;> simp
theorem kindC_of {names : List (PySem.Str × NameKind)} {x : PySem.Str} : kindC names x = true ↔ names.lookup x = some .cell := by
  unfold kindC
  cases h : names.lookup x with
  | none => simp
  | some k => cases k <;> simp
noncomputable def okFn (sc : Scope) (ns : List PySem.Str) : Bool :=
  nodupB ns && (ns.all fun x => kindL sc.names x || (kindC sc.names x && (cellNames sc).any (· == x))) && ((cellNames sc).all fun x => !kindL sc.names x) && nodupB (cellNames sc)
theorem zip_keys : ∀ (ns : List PySem.Str) (args : List AV), ∀ x ∈ ns.zip args, x.1 ∈ ns := fun ns args x hx => (List.of_mem_zip hx).1
theorem zip_nodup : ∀ (ns : List PySem.Str) (args : List AV), ns.Nodup → ((ns.zip args).map (·.1)).Nodup
  | [], _, _ => by simp
  | _ :: _, [], _ => by simp
  | n :: ns, a :: args, h => by
    have ⟨h1, h2⟩ := List.nodup_cons.mp h
    simp only [List.zip_cons_cons, List.map_cons]
    refine List.nodup_cons.mpr ⟨fun hm => ?_, zip_nodup ns args h2⟩
    obtain ⟨x, hx, e⟩ := List.mem_map.mp hm
    exact h1 (e ▸ zip_keys ns args x hx)

theorem Pg.fn (G : Pg C) {a : Addr} {oc : Value} {od : Option Addr} {fd : FuncData} {osl : Array (Option Value)} {body : List Stmt} {args : List AV} {Post : AV → St → Prop} (ns : List PySem.Str) (loc : Locs)
    (ho : (KF C.w.params).lookup a = some ⟨oc, od, .func fd, osl⟩) (hcd : codeIn (KF C.w.params) fd.code fd.qualname = true) (hb : fd.body = .stmts body) (hclo : fd.closure = []) (hgl : fd.globals = mainGlobals) (hbu : fd.builtins = builtinsNs)
    (hco : fd.scope.isCoroutine = false) (hgen : fd.scope.isGenerator = false) (hk : fd.scope.kind = .function) (hok : okFn fd.scope ns = true)
    (hbind : ∀ vs : List Value, vs.length = args.length → bindArgs fd ⟨vs, []⟩ = pure (ns.zip vs)) (hloc : ((ns.zip args).filter fun x => kindL fd.scope.names x.1) = loc)
    (h : ∀ cel : List (PySem.Str × Addr), cel.map (·.1) = (cellNames fd.scope).reverse → Ex C lv fd.scope cel loc body (cellSt (ns.zip args) cel ++ st) (retP Post)) :
    Fn C (lv + 1) (.ref a) args [] st Post := by
  unfold okFn at hok
  simp only [Bool.and_eq_true] at hok
  obtain ⟨⟨⟨h1, h2⟩, h3⟩, h4⟩ := hok
  refine Fn.def G.gd (by rw [G.k]; exact ho) (by rw [G.k]; exact hcd) hb hclo hgl hbu hco hgen hk (Bn.pos ns hbind ⟨zip_nodup _ _ (nodupB_of h1), fun x hx => ?_, fun x hx => ?_, nodupB_of h4, fun cel hcel => ?_⟩)
  · have := List.all_eq_true.mp h2 _ (zip_keys _ _ x hx)
    rw [Bool.or_eq_true, Bool.and_eq_true] at this
    rcases this with q | ⟨q, z⟩
    · exact .inl (kindL_of.mp q)
    · refine .inr ⟨kindC_of.mp q, ?_⟩
      obtain ⟨y, hy, e⟩ := List.any_eq_true.mp z
      have e : y = x.1 := by simpa using e
      exact e ▸ hy
  · have := List.all_eq_true.mp h3 x hx
    intro z
    rw [kindL_of.mpr z] at this
    simp at this
  · have e : ((ns.zip args).filter fun x => decide (fd.scope.names.lookup x.1 = some .local)) = loc := by
      rw [← hloc]
      refine List.filter_congr fun x _ => ?_
      rw [Bool.eq_iff_iff, decide_eq_true_eq, kindL_of]
    rw [e]
    exact h cel hcel

theorem Pg.fn0 (G : Pg C) {a : Addr} {oc : Value} {od : Option Addr} {fd : FuncData} {osl : Array (Option Value)} {body : List Stmt} {args : List AV} {Post : AV → St → Prop} (ns : List PySem.Str) (loc : Locs) 
    (ho : (KF C.w.params).lookup a = some ⟨oc, od, .func fd, osl⟩) (hcd : codeIn (KF C.w.params) fd.code fd.qualname = true) (hb : fd.body = .stmts body) (hclo : fd.closure = []) (hgl : fd.globals = mainGlobals) (hbu : fd.builtins = builtinsNs)
    (hco : fd.scope.isCoroutine = false) (hgen : fd.scope.isGenerator = false) (hk : fd.scope.kind = .function) (hok : okFn fd.scope ns = true)
    (hbind : ∀ vs : List Value, vs.length = args.length → bindArgs fd ⟨vs, []⟩ = pure (ns.zip vs)) (hloc : ((ns.zip args).filter fun x => kindL fd.scope.names x.1) = loc)
    (hcn : (cellNames fd.scope).reverse = []) (hcx : [].map (fun n => (ns.zip args).lookup n) = []) (sc : Scope) (hsc : fd.scope = sc)
    (h : Ex C lv sc [] loc body (st) (retP Post)) :
    Fn C (lv + 1) (.ref a) args [] st Post := by
  subst hsc
  exact Pg.fn G ns loc ho hcd hb hclo hgl hbu hco hgen hk hok hbind hloc (hcn ▸ keysN h)
theorem Pg.fn1 (G : Pg C) {a : Addr} {oc : Value} {od : Option Addr} {fd : FuncData} {osl : Array (Option Value)} {body : List Stmt} {args : List AV} {Post : AV → St → Prop} (ns : List PySem.Str) (loc : Locs) (c1 : PySem.Str) (x1 : Option AV)
    (ho : (KF C.w.params).lookup a = some ⟨oc, od, .func fd, osl⟩) (hcd : codeIn (KF C.w.params) fd.code fd.qualname = true) (hb : fd.body = .stmts body) (hclo : fd.closure = []) (hgl : fd.globals = mainGlobals) (hbu : fd.builtins = builtinsNs)
    (hco : fd.scope.isCoroutine = false) (hgen : fd.scope.isGenerator = false) (hk : fd.scope.kind = .function) (hok : okFn fd.scope ns = true)
    (hbind : ∀ vs : List Value, vs.length = args.length → bindArgs fd ⟨vs, []⟩ = pure (ns.zip vs)) (hloc : ((ns.zip args).filter fun x => kindL fd.scope.names x.1) = loc)
    (hcn : (cellNames fd.scope).reverse = [c1]) (hcx : [c1].map (fun n => (ns.zip args).lookup n) = [x1]) (sc : Scope) (hsc : fd.scope = sc)
    (h : ∀ a1 : Addr, Ex C lv sc [(c1, a1)] loc body ((a1, AO.cell x1) :: st) (retP Post)) :
    Fn C (lv + 1) (.ref a) args [] st Post := by
  subst hsc
  have q1 : (ns.zip args).lookup c1 = x1 := congrArg (fun l => l.getD 0 none) hcx
  subst q1
  refine Pg.fn G ns loc ho hcd hb hclo hgl hbu hco hgen hk hok hbind hloc ?_
  rw [hcn]
  exact keysC fun a1 => keysN (h a1)
theorem Pg.fn2 (G : Pg C) {a : Addr} {oc : Value} {od : Option Addr} {fd : FuncData} {osl : Array (Option Value)} {body : List Stmt} {args : List AV} {Post : AV → St → Prop} (ns : List PySem.Str) (loc : Locs) (c1 : PySem.Str) (c2 : PySem.Str) (x1 : Option AV) (x2 : Option AV)
    (ho : (KF C.w.params).lookup a = some ⟨oc, od, .func fd, osl⟩) (hcd : codeIn (KF C.w.params) fd.code fd.qualname = true) (hb : fd.body = .stmts body) (hclo : fd.closure = []) (hgl : fd.globals = mainGlobals) (hbu : fd.builtins = builtinsNs)
    (hco : fd.scope.isCoroutine = false) (hgen : fd.scope.isGenerator = false) (hk : fd.scope.kind = .function) (hok : okFn fd.scope ns = true)
    (hbind : ∀ vs : List Value, vs.length = args.length → bindArgs fd ⟨vs, []⟩ = pure (ns.zip vs)) (hloc : ((ns.zip args).filter fun x => kindL fd.scope.names x.1) = loc)
    (hcn : (cellNames fd.scope).reverse = [c1, c2]) (hcx : [c1, c2].map (fun n => (ns.zip args).lookup n) = [x1, x2]) (sc : Scope) (hsc : fd.scope = sc)
    (h : ∀ a1 a2 : Addr, Ex C lv sc [(c1, a1), (c2, a2)] loc body ((a1, AO.cell x1) :: (a2, AO.cell x2) :: st) (retP Post)) :
    Fn C (lv + 1) (.ref a) args [] st Post := by
  subst hsc
  have q1 : (ns.zip args).lookup c1 = x1 := congrArg (fun l => l.getD 0 none) hcx
  have q2 : (ns.zip args).lookup c2 = x2 := congrArg (fun l => l.getD 1 none) hcx
  subst q1 q2
  refine Pg.fn G ns loc ho hcd hb hclo hgl hbu hco hgen hk hok hbind hloc ?_
  rw [hcn]
  exact keysC fun a1 => keysC fun a2 => keysN (h a1 a2)
theorem Pg.fn3 (G : Pg C) {a : Addr} {oc : Value} {od : Option Addr} {fd : FuncData} {osl : Array (Option Value)} {body : List Stmt} {args : List AV} {Post : AV → St → Prop} (ns : List PySem.Str) (loc : Locs) (c1 : PySem.Str) (c2 : PySem.Str) (c3 : PySem.Str) (x1 : Option AV) (x2 : Option AV) (x3 : Option AV)
    (ho : (KF C.w.params).lookup a = some ⟨oc, od, .func fd, osl⟩) (hcd : codeIn (KF C.w.params) fd.code fd.qualname = true) (hb : fd.body = .stmts body) (hclo : fd.closure = []) (hgl : fd.globals = mainGlobals) (hbu : fd.builtins = builtinsNs)
    (hco : fd.scope.isCoroutine = false) (hgen : fd.scope.isGenerator = false) (hk : fd.scope.kind = .function) (hok : okFn fd.scope ns = true)
    (hbind : ∀ vs : List Value, vs.length = args.length → bindArgs fd ⟨vs, []⟩ = pure (ns.zip vs)) (hloc : ((ns.zip args).filter fun x => kindL fd.scope.names x.1) = loc)
    (hcn : (cellNames fd.scope).reverse = [c1, c2, c3]) (hcx : [c1, c2, c3].map (fun n => (ns.zip args).lookup n) = [x1, x2, x3]) (sc : Scope) (hsc : fd.scope = sc)
    (h : ∀ a1 a2 a3 : Addr, Ex C lv sc [(c1, a1), (c2, a2), (c3, a3)] loc body ((a1, AO.cell x1) :: (a2, AO.cell x2) :: (a3, AO.cell x3) :: st) (retP Post)) :
    Fn C (lv + 1) (.ref a) args [] st Post := by
  subst hsc
  have q1 : (ns.zip args).lookup c1 = x1 := congrArg (fun l => l.getD 0 none) hcx
  have q2 : (ns.zip args).lookup c2 = x2 := congrArg (fun l => l.getD 1 none) hcx
  have q3 : (ns.zip args).lookup c3 = x3 := congrArg (fun l => l.getD 2 none) hcx
  subst q1 q2 q3
  refine Pg.fn G ns loc ho hcd hb hclo hgl hbu hco hgen hk hok hbind hloc ?_
  rw [hcn]
  exact keysC fun a1 => keysC fun a2 => keysC fun a3 => keysN (h a1 a2 a3)
theorem Pg.glob (G : Pg C) {x : PySem.Str} {v : Value} {p : Pos} {Post : AV → St → Prop} (hs : sc.names.lookup x = some .globalImplicit) (hk : nsIn (KF C.w.params) mainGlobals x = some (some v)) (hp : Post (.val v) st) (hd : (x == ("__debug__" : PySem.Str)) = false) :
    Ev C lv sc cel loc (.Name x p) st Post := Ev.glob G.gd hs (by rw [G.k]; exact hk) hp hd
theorem Pg.built (G : Pg C) {x : PySem.Str} {v : Value} {p : Pos} {Post : AV → St → Prop} (hs : sc.names.lookup x = some .globalImplicit) (hk : nsIn (KF C.w.params) mainGlobals x = some .none) (hb : bootBuiltins x = some v) (hp : Post (.val v) st) (hn : x ≠ "__name__") (hd : (x == ("__debug__" : PySem.Str)) = false) :
    Ev C lv sc cel loc (.Name x p) st Post := Ev.built G.gd hs (by rw [G.k]; exact hk) hb hp hn hd
theorem Pg.keep (G : Pg C) {f : Value} (hk : keepIn (KF C.w.params) f = true) : KeepF C st f := KeepF.k G.gd (by rw [G.k]; exact hk)
theorem Evs.nil {Post : List AV → St → Prop} (h : Post [] st) : Evs C lv sc cel loc [] st Post := h
noncomputable abbrev evsL (Post : List AV → St → Prop) (x : AV) : List AV → St → Prop := fun xs s => Post (x :: xs) s
noncomputable abbrev evsK (C : Cx) (lv : Nat) (sc : Scope) (cel : List (PySem.Str × Addr)) (loc : Locs) (r : List Expr) (Post : List AV → St → Prop) : AV → St → Prop := fun x s => Evs C lv sc cel loc r s (evsL Post x)
theorem Evs.cons {e : Expr} {r : List Expr} {Post : List AV → St → Prop} (h : Ev C lv sc cel loc e st (evsK C lv sc cel loc r Post)) : Evs C lv sc cel loc (e :: r) st Post := h
theorem Evp.none {Post : AV → St → Prop} (h : Post .none st) : Evp C lv sc cel loc Option.none st Post := h
theorem Evp.some {e : Expr} {Post : AV → St → Prop} (h : Ev C lv sc cel loc e st Post) : Evp C lv sc cel loc (Option.some e) st Post := h
theorem Ts.nil {Post : Bool → St → Prop} (h : Post true st) : Ts C lv sc cel loc [] st Post := h
theorem Ts.cons {c : Expr} {r : List Expr} {Post : Bool → St → Prop} (h : Tr C lv sc cel loc c st fun b st' => if b then Ts C lv sc cel loc r st' Post else Post false st') : Ts C lv sc cel loc (c :: r) st Post := h
end
section
set_option maxHeartbeats 1000000
variable {C : Cx} {lv : Nat} {sc : Scope} {cel : List (PySem.Str × Addr)} {loc : Locs} {st : St}

noncomputable abbrev callL (C : Cx) (lv : Nat) (f : Value) (Post : AV → St → Prop) : List AV → St → Prop := fun xs s => KeepF C s f ∧ Cl C lv f xs [] s Post
noncomputable abbrev callK (C : Cx) (lv : Nat) (sc : Scope) (cel : List (PySem.Str × Addr)) (loc : Locs) (es : List Expr) (Post : AV → St → Prop) : AV → St → Prop := fun v s => ∃ f, v = .val f ∧ Evs C lv sc cel loc es s (callL C lv f Post)
theorem callI {f : Value} {es : List Expr} {Post : AV → St → Prop} (h : Evs C lv sc cel loc es st (callL C lv f Post)) : callK C lv sc cel loc es Post (.val f) st := ⟨f, rfl, h⟩
theorem callJ {f : Value} {xs : List AV} {Post : AV → St → Prop} (hk : KeepF C st f) (h : Cl C lv f xs [] st Post) : callL C lv f Post xs st := ⟨hk, h⟩
noncomputable abbrev methK (C : Cx) (lv : Nat) (sc : Scope) (cel : List (PySem.Str × Addr)) (loc : Locs) (name : PySem.Str) (es : List Expr) (Post : AV → St → Prop) : AV → St → Prop := fun ov s => ∃ f y, Mt C ov name s f [y] ∧ Evs C lv sc cel loc es s (evsL (callL C lv f Post) y)
theorem methI {ov : AV} {name : PySem.Str} {f : Value} {y : AV} {es : List Expr} {Post : AV → St → Prop} (hm : Mt C ov name st f [y]) (h : Evs C lv sc cel loc es st (evsL (callL C lv f Post) y)) : methK C lv sc cel loc name es Post ov st := ⟨f, y, hm, h⟩
theorem Ev.call0 {x : PySem.Str} {np : Pos} {es : List Expr} {p : Pos} {Post : AV → St → Prop} (hpl : es.all plainE = true)
    (h : Ev C lv sc cel loc (.Name x np) st (callK C lv sc cel loc es Post)) :
    Ev C lv sc cel loc (.Call (.Name x np) es [] p) st Post := Ev.call hpl rfl h
theorem Ev.meth0 {o : Expr} {name : PySem.Str} {apos p : Pos} {es : List Expr} {Post : AV → St → Prop} (hsup : noSuper o) (hpl : es.all plainE = true) (hn : decide (es.length < 29) = true) (hline : (apos.endLine == p.line) = true)
    (h : Ev C lv sc cel loc o st (methK C lv sc cel loc name es Post)) :
    Ev C lv sc cel loc (.Call (.Attribute o name apos) es [] p) st Post :=
  Ev.meth hsup hpl rfl (by simpa using of_decide_eq_true hn) hline (Ev.mono h fun ov s hq => xe22 hq fun f y h1 h2 => ⟨f, [y], h1, h2⟩)
noncomputable def compOk (scope : Scope) : Bool := (match scope.kind with | .function => true | _ => false) && scope.names.all fun x => match x.2 with | .local => kindL scope.names x.1 | _ => true
theorem compOk_of {scope : Scope} (h : compOk scope = true) : scope.kind = .function ∧ ∀ x ∈ scope.names, x.2 = .local → scope.names.lookup x.1 = some .local := by
  unfold compOk at h
  rw [Bool.and_eq_true] at h
  refine ⟨?_, fun x hx e => ?_⟩
  · have := h.1
    cases q : scope.kind <;> rw [q] at this <;> first | rfl | cases this
  · have := List.all_eq_true.mp h.2 x hx
    rw [e] at this
    exact kindL_of.mp this
theorem Ev.lcomp' {elt iter target : Expr} {ifs : List Expr} {rest : List Comprehension} {scope : Scope} {pos : Pos} (hok : compOk scope = true) (hfs : ∀ env x, foldedSetIterable iter env x = pure x)
    (cl : List (PySem.Str × Addr)) (hcl : closeFrom cel scope.names [] = some cl) {Post : AV → St → Prop} (h : CompIn C lv sc cel loc (.ListComp elt (⟨target, iter, ifs, 0⟩ :: rest) scope pos) iter scope cl (.list []) st Post) :
    Ev C lv sc cel loc (.ListComp elt (⟨target, iter, ifs, 0⟩ :: rest) scope pos) st Post := Ev.lcomp (compOk_of hok).1 (compOk_of hok).2 hfs cl hcl h
theorem Ex1.lcomp' {elt iter target : Expr} {ifs : List Expr} {rest : List Comprehension} {scope : Scope} {pos spos px : Pos} {x : PySem.Str} (hsw : ∀ env, env.scope = sc → swapsWith (.ListComp elt (⟨target, iter, ifs, 0⟩ :: rest) scope pos) (some (.Name x px)) spos.line env = pure true) (hs : sc.names.lookup x = some .local)
    (hok : compOk scope = true) (hfs : ∀ env x, foldedSetIterable iter env x = pure x)
    (cl : List (PySem.Str × Addr)) (hcl : closeFrom cel scope.names [] = some cl) {Post : Fl → Locs → St → Prop}
    (h : CompIn C lv sc cel loc (.ListComp elt (⟨target, iter, ifs, 0⟩ :: rest) scope pos) iter scope cl (.list []) st fun y st' => Post .next (setL loc x y) st') :
    Ex1 C lv sc cel loc (.Assign [.Name x px] (.ListComp elt (⟨target, iter, ifs, 0⟩ :: rest) scope pos) spos) st Post := Ex1.lcomp hsw hs (compOk_of hok).1 (compOk_of hok).2 hfs cl hcl h
theorem Ex1.dcomp' {ke ve iter target : Expr} {ifs : List Expr} {rest : List Comprehension} {scope : Scope} {pos spos px : Pos} {x : PySem.Str} (hsw : ∀ env, env.scope = sc → swapsWith (.DictComp ke ve (⟨target, iter, ifs, 0⟩ :: rest) scope pos) (some (.Name x px)) spos.line env = pure true) (hs : sc.names.lookup x = some .local)
    (hok : compOk scope = true) (hfs : ∀ env x, foldedSetIterable iter env x = pure x)
    (cl : List (PySem.Str × Addr)) (hcl : closeFrom cel scope.names [] = some cl) {Post : Fl → Locs → St → Prop}
    (h : CompIn C lv sc cel loc (.DictComp ke ve (⟨target, iter, ifs, 0⟩ :: rest) scope pos) iter scope cl (.dict []) st fun y st' => Post .next (setL loc x y) st') :
    Ex1 C lv sc cel loc (.Assign [.Name x px] (.DictComp ke ve (⟨target, iter, ifs, 0⟩ :: rest) scope pos) spos) st Post := Ex1.dcomp hsw hs (compOk_of hok).1 (compOk_of hok).2 hfs cl hcl h

theorem CompIn.of0 {e iter : Expr} {scope : Scope} {cl : List (PySem.Str × Addr)} {acc0 : AO} {Post : AV → St → Prop} (hcn : cellNames scope = [])
    (h : Ev C lv sc cel loc iter st fun x st₁ => ∃ ys, ItOf C x st₁ ys ∧ ∀ D : Addr, CLp C lv (relab scope sc) cl [] e 0 D ys ((D, acc0) :: st₁) fun _ st₂ => ∃ y st₃, Res st₂ D y st₃ ∧ Post y st₃) :
    CompIn C lv sc cel loc e iter scope cl acc0 st Post := by
  unfold CompIn
  refine Ev.mono h fun x s hh => xe12 hh fun ys h1 h2 => ⟨ys, _, h1, fun _ _ _ => True.intro, fun D => ?_⟩
  rw [hcn]
  exact keysN (h2 D)
theorem CompIn.of1 {e iter : Expr} {scope : Scope} {cl : List (PySem.Str × Addr)} {acc0 : AO} {Post : AV → St → Prop} (c : PySem.Str) (hcn : cellNames scope = [c])
    (h : Ev C lv sc cel loc iter st fun x st₁ => ∃ ys, ItOf C x st₁ ys ∧ ∀ D a : Addr, CLp C lv (relab scope sc) ((c, a) :: cl) [] e 0 D ys ((a, .cell none) :: (D, acc0) :: st₁) fun _ st₂ => ∃ y st₃, Res st₂ D y st₃ ∧ Post y st₃) :
    CompIn C lv sc cel loc e iter scope cl acc0 st Post := by
  unfold CompIn
  refine Ev.mono h fun x s hh => xe12 hh fun ys h1 h2 => ⟨ys, _, h1, fun _ _ _ => True.intro, fun D => ?_⟩
  rw [hcn]
  exact keysC fun a => keysN (h2 D a)

theorem As.mono {t : Expr} {y : AV} {Post Post' : Locs → St → Prop} (h : As C sc cel loc t y st Post) (hp : ∀ l s, Post l s → Post' l s) : As C sc cel loc t y st Post' :=
  fun P A env s v Q E a en R F hv k => h P A env s v Q E a en R F hv fun loc' st' h' tk hq => k loc' st' h' tk (hp _ _ hq)
theorem Ts.mono : ∀ {ifs : List Expr} {st : St} {Post Post' : Bool → St → Prop}, Ts C lv sc cel loc ifs st Post → (∀ b s, Post b s → Post' b s) → Ts C lv sc cel loc ifs st Post'
  | [], _, _, _, h, hp => hp _ _ h
  | c :: r, _, _, _, h, hp => Tr.mono h fun b s hb => by
    cases b with
    | true => exact Ts.mono (ifs := r) hb hp
    | false => exact hp _ _ hb
theorem CLp.one {e target iter : Expr} {ifs : List Expr} {gens : List Comprehension} {em : Value → Env → Sem Unit} (hc : IsComp e gens em) (hg : gens = [⟨target, iter, ifs, 0⟩]) {D : Addr} {ys : List AV} {Post : Locs → St → Prop} {ok : St → Prop}
    (Inv : Nat → Locs → St → Prop) (hi0 : Inv 0 loc st)
    (hturn : ∀ i y loc' st', ys[i]? = some y → Inv i loc' st' → As C sc cel loc' target y st' fun loc₂ st₂ => Ts C lv sc cel loc₂ ifs st₂ fun b st₃ =>
      if b then Em C lv sc cel loc₂ em D st₃ (Inv (i + 1) loc₂) else Inv (i + 1) loc₂ st₃)
    (hend : ∀ loc' st', Inv ys.length loc' st' → Post loc' st') (hok : ∀ i loc' st', Inv i loc' st' → ok st' := by intros; exact True.intro) : CLp C lv sc cel loc e 0 D ys st Post ok := by
  subst hg
  refine CLp.intro hc rfl Inv hi0 (fun i y loc' st' h1 h2 => ?_) hend hok
  exact hturn i y loc' st' h1 h2

noncomputable def Turn (C : Cx) (lv : Nat) (sc : Scope) (cel : List (PySem.Str × Addr)) (target elt : Expr) (ifs : List Expr) (f : AV → Option AV) (y : AV) (S S' : St) : Prop :=
  ∀ loc', As C sc cel loc' target y S fun loc₂ st₂ => Ts C lv sc cel loc₂ ifs st₂ fun b st₃ => if b then Ev C lv sc cel loc₂ elt st₃ fun z st₄ => f y = some z ∧ st₄ = S' else f y = none ∧ st₃ = S'
theorem CompIn.l0 {elt target iter : Expr} {ifs : List Expr} {scope : Scope} {pos : Pos} {cl : List (PySem.Str × Addr)} {Post : AV → St → Prop} (hcn : cellNames scope = []) (f : AV → Option AV)
    (h : Ev C lv sc cel loc iter st fun x st₁ => ∃ ys, ItOf C x st₁ ys ∧ ys.length ≤ sizeLine ∧ (∀ y ∈ ys, ∀ D xs, Turn C lv (relab scope sc) cl target elt ifs f y ((D, .list xs) :: st₁) ((D, .list xs) :: st₁)) ∧ Post (.lst (ys.filterMap f)) st₁) :
    CompIn C lv sc cel loc (.ListComp elt [⟨target, iter, ifs, 0⟩] scope pos) iter scope cl (.list []) st Post := by
  refine CompIn.of0 hcn (Ev.mono h fun x st₁ hq => xe14 hq fun ys h1 hz h2 h3 => ⟨ys, h1, fun D => ?_⟩)
  refine CLp.one (em := emitL elt) .list rfl (fun i _ s => s = (D, .list ((ys.take i).filterMap f)) :: st₁) rfl (fun i y loc' st' hy hi => ?_) (fun loc' st' hi => ⟨_, st₁, ?_, h3⟩)
  · subst hi
    have hym : y ∈ ys := List.mem_of_getElem? hy
    have hlt : i < ys.length := (List.getElem?_eq_some_iff.mp hy).1
    have hey : ys[i] = y := (List.getElem?_eq_some_iff.mp hy).2
    have hlen : ((ys.take i).filterMap f).length ≤ sizeLine := Nat.le_trans (List.length_filterMap_le _ _) (by rw [List.length_take]; omega)
    have hs : (ys.take (i + 1)).filterMap f = (ys.take i).filterMap f ++ ([y].filterMap f) := by rw [List.take_succ_eq_append_getElem hlt, List.filterMap_append, hey]
    refine As.mono (h2 y hym D _ loc') fun loc₂ st₂ hq => Ts.mono hq fun b st₃ hb => ?_
    cases b with
    | true =>
      simp only [if_true] at hb ⊢
      refine Em.list (Ev.mono hb fun z st₄ hq => xe02 hq fun e1 e2 => ?_)
      subst e2
      refine ⟨_, _, Upd.head, hlen, ?_⟩
      rw [hs]
      simp [e1]
    | false =>
      simp only [Bool.false_eq_true, if_false] at hb ⊢
      rw [hb.2, hs]
      simp [hb.1]
  · subst hi
    rw [List.take_length]
    exact .lst .head (List.Sublist.refl _)
theorem CompIn.l1 {elt target iter : Expr} {ifs : List Expr} {scope : Scope} {pos : Pos} {cl : List (PySem.Str × Addr)} {Post : AV → St → Prop} (c : PySem.Str) (hcn : cellNames scope = [c]) (f : AV → Option AV)
    (h : Ev C lv sc cel loc iter st fun x st₁ => ∃ ys, ItOf C x st₁ ys ∧ ys.length ≤ sizeLine ∧ (∀ y ∈ ys, ∀ D a o xs, Turn C lv (relab scope sc) ((c, a) :: cl) target elt ifs f y ((a, .cell o) :: (D, .list xs) :: st₁) ((a, .cell (some y)) :: (D, .list xs) :: st₁)) ∧ Post (.lst (ys.filterMap f)) st₁) :
    CompIn C lv sc cel loc (.ListComp elt [⟨target, iter, ifs, 0⟩] scope pos) iter scope cl (.list []) st Post := by
  refine CompIn.of1 c hcn (Ev.mono h fun x st₁ hq => xe14 hq fun ys h1 hz h2 h3 => ⟨ys, h1, fun D a => ?_⟩)
  refine CLp.one (em := emitL elt) .list rfl (fun i _ s => ∃ o, s = (a, .cell o) :: (D, .list ((ys.take i).filterMap f)) :: st₁) ⟨_, rfl⟩ (fun i y loc' st' hy hi => ?_) (fun loc' st' hi => ⟨_, st₁, ?_, h3⟩)
  · obtain ⟨o, hi⟩ := hi
    subst hi
    have hym : y ∈ ys := List.mem_of_getElem? hy
    have hlt : i < ys.length := (List.getElem?_eq_some_iff.mp hy).1
    have hey : ys[i] = y := (List.getElem?_eq_some_iff.mp hy).2
    have hlen : ((ys.take i).filterMap f).length ≤ sizeLine := Nat.le_trans (List.length_filterMap_le _ _) (by rw [List.length_take]; omega)
    have hs : (ys.take (i + 1)).filterMap f = (ys.take i).filterMap f ++ ([y].filterMap f) := by rw [List.take_succ_eq_append_getElem hlt, List.filterMap_append, hey]
    refine As.mono (h2 y hym D a o _ loc') fun loc₂ st₂ hq => Ts.mono hq fun b st₃ hb => ?_
    cases b with
    | true =>
      simp only [if_true] at hb ⊢
      refine Em.list (Ev.mono hb fun z st₄ hq => xe02 hq fun e1 e2 => ?_)
      subst e2
      refine ⟨_, _, Upd.tail Upd.head, hlen, some y, ?_⟩
      rw [hs]
      simp [e1]
    | false =>
      simp only [Bool.false_eq_true, if_false] at hb ⊢
      rw [hb.2, hs]
      exact ⟨some y, by simp [hb.1]⟩
  · obtain ⟨o, hi⟩ := hi
    subst hi
    rw [List.take_length]
    exact .lst (.tail .head) (List.sublist_cons_self _ _)
theorem ItW.ref {a : Addr} {xs : List AV} (hm : (a, AO.list xs) ∈ st) : ItW C (.ref a) st xs fun s => (a, AO.list xs) ∈ s := fun P A s v Q E hh R hv k => by
  cases hv
  refine xe12 (R.at hm) fun o ho hr => ?_
  cases hr with
  | @list _ vs _ hl hvs =>
    refine xe11 hl fun n qe0 => ?_; clear hl; subst qe0
    have hlt := Heap.lt_size ho
    refine wpAny_pyIter_list (isL ho) ?_
    have new : s.heap.get? s.heap.objs.size = none := by
      cases e : s.heap.get? s.heap.objs.size with
      | none => rfl
      | some o => exact absurd (Heap.lt_size e) (Nat.lt_irrefl _)
    refine k s.heap.objs.size (fun i h => h.IsListIter s.heap.objs.size a i) _ s.toks ⟨?_, ?_, ?_, ?_, ?_⟩ ⟨_, Heap.get?_push_size _ rfl, rfl, rfl⟩ new (fun b o e => Heap.get?_push_of_some _ e)
    · intro i P' st' A' s' Q' E' hA hi hp hok R' hS hQ
      refine xe12 (R'.at hok) fun o' ho' hr' => ?_
      cases hr' with
      | @list _ us _ hl' hus =>
        refine xe11 hl' fun n' qe0 => ?_; clear hl'; subst qe0
        refine xe12 (hus.get (List.getElem?_eq_getElem hi)) fun u e1 e2 => ?_
        exact wpAny_pyNext_list_item hS (isL ho') (by simpa using e1) fun h' hit' hs' => hQ u h' s'.toks _ (List.getElem?_eq_getElem hi) e2 hit' fun b o hb e => hs'.extBut b o (fun z => hb (by simp [z])) e
    · intro P' st' A' s' Q' E' hA hp hok R' hS hQ
      refine xe12 (R'.at hok) fun o' ho' hr' => ?_
      cases hr' with
      | @list _ us _ hl' hus =>
        refine xe11 hl' fun n' qe0 => ?_; clear hl'; subst qe0
        exact wpAny_pyNext_list_end hA hS (isL ho') (by simp [hus.length]) fun h' he' => hQ h' s'.toks fun b o hb e => he' b o (fun z => hb (by simp [z])) e
    · intro i P' st' A' s' Q' E' hA hp hok R' hS hq
      exact wpAny_pyIter_listiter hS hq
    · intro i h h' hS hk
      refine xe12 hS fun o e q => ?_; clear hS
      exact ⟨o, hk o e, q⟩
    · intro j h hS
      refine xe13 hS fun o e hc _ => ?_; clear hS
      exact ⟨o, _, e, hc, by decide +kernel⟩
theorem CompIn.l0M {elt target iter : Expr} {ifs : List Expr} {scope : Scope} {pos : Pos} {cl : List (PySem.Str × Addr)} {Post : AV → St → Prop} (hcn : cellNames scope = []) (f : AV → Option AV)
    (h : Ev C lv sc cel loc iter st fun x st₁ => ∃ a ys, x = .ref a ∧ (a, AO.list ys) ∈ st₁ ∧ ys.length ≤ sizeLine ∧ (∀ y ∈ ys, ∀ D xs, Turn C lv (relab scope sc) cl target elt ifs f y ((D, .list xs) :: st₁) ((D, .list xs) :: st₁)) ∧ Post (.lst (ys.filterMap f)) st₁) :
    CompIn C lv sc cel loc (.ListComp elt [⟨target, iter, ifs, 0⟩] scope pos) iter scope cl (.list []) st Post := by
  unfold CompIn
  refine Ev.mono h fun x st₁ hq => xe25 hq fun a ys e hm hz h2 h3 => ?_
  subst e
  refine ⟨ys, _, ItW.ref hm, fun D nc _ => List.mem_append_right _ (List.mem_cons_of_mem _ hm), fun D nc hnc => ?_⟩
  rw [hcn] at hnc
  obtain rfl := List.map_eq_nil_iff.mp hnc
  refine CLp.one (em := emitL elt) .list rfl (fun i _ s => s = (D, .list ((ys.take i).filterMap f)) :: st₁) rfl (fun i y loc' st' hy hi => ?_) (fun loc' st' hi => ⟨_, st₁, ?_, h3⟩) (fun i _ s e => by rw [e]; exact List.mem_cons_of_mem _ hm)
  · subst hi
    have hym : y ∈ ys := List.mem_of_getElem? hy
    have hlt : i < ys.length := (List.getElem?_eq_some_iff.mp hy).1
    have hey : ys[i] = y := (List.getElem?_eq_some_iff.mp hy).2
    have hlen : ((ys.take i).filterMap f).length ≤ sizeLine := Nat.le_trans (List.length_filterMap_le _ _) (by rw [List.length_take]; omega)
    have hs : (ys.take (i + 1)).filterMap f = (ys.take i).filterMap f ++ ([y].filterMap f) := by rw [List.take_succ_eq_append_getElem hlt, List.filterMap_append, hey]
    refine As.mono (h2 y hym D _ loc') fun loc₂ st₂ hq => Ts.mono hq fun b st₃ hb => ?_
    cases b with
    | true =>
      simp only [if_true] at hb ⊢
      refine Em.list (Ev.mono hb fun z st₄ hq => xe02 hq fun e1 e2 => ?_)
      subst e2
      refine ⟨_, _, Upd.head, hlen, ?_⟩
      rw [hs]
      simp [e1]
    | false =>
      simp only [Bool.false_eq_true, if_false] at hb ⊢
      rw [hb.2, hs]
      simp [hb.1]
  · subst hi
    rw [List.take_length]
    exact .lst .head (List.Sublist.refl _)
theorem CompIn.d0 {ke ve target iter : Expr} {scope : Scope} {pos : Pos} {cl : List (PySem.Str × Addr)} {Post : AV → St → Prop} (hcn : cellNames scope = []) (f : AV → PySem.Str × AV)
    (h : Ev C lv sc cel loc iter st fun x st₁ => ∃ ys, ItOf C x st₁ ys ∧ ys.length ≤ sizeLine ∧ (ys.map fun y => (f y).1).Nodup ∧ (∀ y ∈ ys, ∀ D xs loc', As C (relab scope sc) cl loc' target y ((D, .dict xs) :: st₁) fun loc₂ st₂ => st₂ = (D, .dict xs) :: st₁ ∧ Ev C lv (relab scope sc) cl loc₂ ke st₂ fun k st₃ => k = .str (f y).1 ∧ Ev C lv (relab scope sc) cl loc₂ ve st₃ fun v st₄ => v = (f y).2 ∧ st₄ = (D, .dict xs) :: st₁) ∧ Post (.dct (ys.map f)) st₁) :
    CompIn C lv sc cel loc (.DictComp ke ve [⟨target, iter, [], 0⟩] scope pos) iter scope cl (.dict []) st Post := by
  refine CompIn.of0 hcn (Ev.mono h fun x st₁ hq => xe15 hq fun ys h1 hz hnd h2 h3 => ⟨ys, h1, fun D => ?_⟩)
  refine CLp.one (em := emitD ke ve) .dict rfl (fun i _ s => s = (D, .dict ((ys.take i).map f)) :: st₁) rfl (fun i y loc' st' hy hi => ?_) (fun loc' st' hi => ⟨_, st₁, ?_, h3⟩)
  · subst hi
    have hym : y ∈ ys := List.mem_of_getElem? hy
    have hlt : i < ys.length := (List.getElem?_eq_some_iff.mp hy).1
    have hey : ys[i] = y := (List.getElem?_eq_some_iff.mp hy).2
    have hlen : ((ys.take i).map f).length ≤ sizeLine := by rw [List.length_map, List.length_take]; omega
    have hs : (ys.take (i + 1)).map f = (ys.take i).map f ++ [f y] := by rw [List.take_succ_eq_append_getElem hlt, List.map_append, hey]; rfl
    refine As.mono (h2 y hym D _ loc') fun loc₂ st₂ hq => ?_
    refine (?_ : Em C lv (relab scope sc) cl loc₂ (emitD ke ve) D st₂ _)
    refine Em.dict (Ev.mono hq.2 fun k st₃ hk => ⟨(f y).1, hk.1, Ev.mono hk.2 fun v st₄ hv => ?_⟩)
    refine xe02 hv fun e1 e2 => ?_; clear hv
    subst e1 e2
    refine ⟨_, _, Upd.head, fun hm => ?_, hlen, by rw [hs]⟩
    rw [List.map_map] at hm
    refine xe12 (List.mem_map.mp hm) fun z hz1 hz2 => ?_
    obtain ⟨j, hj, rfl⟩ := List.mem_iff_getElem.mp hz1
    rw [List.length_take] at hj
    rw [List.getElem_take] at hz2
    have := List.pairwise_iff_getElem.mp hnd j i (by simpa using by omega) (by simpa using hlt) (by omega)
    simp only [List.getElem_map, hey] at this
    exact this hz2
  · subst hi
    rw [List.take_length]
    exact .dct .head (List.Sublist.refl _)

theorem CompIn.l0R {elt target iter : Expr} {ifs : List Expr} {scope : Scope} {pos : Pos} {cl : List (PySem.Str × Addr)} {Post : AV → St → Prop} (hcn : cellNames scope = []) (f : AV → Option AV)
    (h : Ev C lv sc cel loc iter st fun x st₁ => ∃ ys, ItOf C x st₁ ys ∧ ys.length ≤ sizeLine ∧ (∀ y ∈ ys, ∀ D xs, Turn C lv (relab scope sc) cl target elt ifs f y ((D, .list xs) :: st₁) ((D, .list xs) :: st₁)) ∧ ∀ D, Post (.ref D) ((D, .list (ys.filterMap f)) :: st₁)) :
    CompIn C lv sc cel loc (.ListComp elt [⟨target, iter, ifs, 0⟩] scope pos) iter scope cl (.list []) st Post := by
  refine CompIn.of0 hcn (Ev.mono h fun x st₁ hq => xe14 hq fun ys h1 hz h2 h3 => ⟨ys, h1, fun D => ?_⟩)
  refine CLp.one (em := emitL elt) .list rfl (fun i _ s => s = (D, .list ((ys.take i).filterMap f)) :: st₁) rfl (fun i y loc' st' hy hi => ?_) (fun loc' st' hi => ⟨_, _, ?_, h3 D⟩)
  · subst hi
    have hym : y ∈ ys := List.mem_of_getElem? hy
    have hlt : i < ys.length := (List.getElem?_eq_some_iff.mp hy).1
    have hey : ys[i] = y := (List.getElem?_eq_some_iff.mp hy).2
    have hlen : ((ys.take i).filterMap f).length ≤ sizeLine := Nat.le_trans (List.length_filterMap_le _ _) (by rw [List.length_take]; omega)
    have hs : (ys.take (i + 1)).filterMap f = (ys.take i).filterMap f ++ ([y].filterMap f) := by rw [List.take_succ_eq_append_getElem hlt, List.filterMap_append, hey]
    refine As.mono (h2 y hym D _ loc') fun loc₂ st₂ hq => Ts.mono hq fun b st₃ hb => ?_
    cases b with
    | true =>
      simp only [if_true] at hb ⊢
      refine Em.list (Ev.mono hb fun z st₄ hq => xe02 hq fun e1 e2 => ?_)
      subst e2
      refine ⟨_, _, Upd.head, hlen, ?_⟩
      rw [hs]
      simp [e1]
    | false =>
      simp only [Bool.false_eq_true, if_false] at hb ⊢
      rw [hb.2, hs]
      simp [hb.1]
  · subst hi
    rw [List.take_length]
    exact .ref (List.Sublist.refl _)
noncomputable def Sub (base loc : Locs) : Prop := ∀ x y, base.lookup x = some y → loc.lookup x = some y
theorem Sub.nil : Sub [] loc := fun _ _ e => by cases e
theorem Sub.cons {k : PySem.Str} {v : AV} {r : Locs} (h : loc.lookup k = some v) (hr : Sub r loc) : Sub ((k, v) :: r) loc := fun x y e => by
  rw [List.lookup_cons] at e
  by_cases hk : x = k
  · subst hk
    simp at e; subst e; exact h
  · have : (x == k) = false := beq_eq_false_iff_ne.mpr hk
    rw [this] at e
    exact hr x y e
theorem Sub.tr {a b c : Locs} (h : Sub a b) (h' : Sub b c) : Sub a c := fun x y e => h' x y (h x y e)
theorem FRp.rel {P : PM} {env : Env} {h : Heap} {base : Locs} (hs : Sub base loc) (F : FRp C P loc env st h) : FRp C P base env st h := by
  obtain ⟨⟨m, hn, hm⟩, o⟩ := F
  exact ⟨⟨m, hn, fun x y e => hm x y (hs x y e)⟩, o⟩
theorem Ex.rel {base : Locs} (hs : Sub base loc) {ss : List Stmt} {Post : Fl → Locs → St → Prop} (h : Ex C lv sc cel base ss st Post) : Ex C lv sc cel loc ss st Post := fun P A env s Q E a en R F k => h P A env s Q E a en R (F.rel hs) k
theorem As.rel {base : Locs} (hs : Sub base loc) {t : Expr} {y : AV} {Post : Locs → St → Prop} (h : As C sc cel base t y st Post) : As C sc cel loc t y st Post := fun P A env s v Q E a en R F hv k => h P A env s v Q E a en R (F.rel hs) hv k
theorem Tr.rel {base : Locs} (hs : Sub base loc) {e : Expr} {Post : Bool → St → Prop} (h : Tr C lv sc cel base e st Post) : Tr C lv sc cel loc e st Post := fun P A env s Q E a en R F k => h P A env s Q E a en R (F.rel hs) k
theorem iteT {p q : Prop} (h : p) : if true = true then p else q := by rw [if_pos rfl]; exact h
theorem iteF {p q : Prop} (h : q) : if false = true then p else q := by rw [if_neg (by simp)]; exact h
theorem iteY {c : Bool} {p q : Prop} (e : c = true) (h : p) : if c = true then p else q := by rw [if_pos e]; exact h
theorem iteN {c : Bool} {p q : Prop} (e : c = false) (h : q) : if c = true then p else q := by rw [if_neg (by rw [e]; exact Bool.false_ne_true)]; exact h
theorem iteB {c : Bool} {p q : Prop} (hp : c = true → p) (hq : c = false → q) : if c = true then p else q := by
  cases c with
  | true => rw [if_pos rfl]; exact hp rfl
  | false => rw [if_neg (by simp)]; exact hq rfl
theorem Upd.mem2 {st st' : St} {a : Addr} {x y : AO} (u : Upd st a x y st') : (a, y) ∈ st' := by
  induction u with
  | head => exact List.mem_cons_self
  | tail _ ih => exact List.mem_cons_of_mem _ ih
theorem Upd.again {st st' : St} {a : Addr} {x y : AO} (u : Upd st a x y st') (z : AO) : ∃ s, Upd st' a y z s ∧ Upd st a x z s := by
  induction u with
  | head => exact ⟨_, .head, .head⟩
  | tail _ ih => refine xe12 ih fun s h1 h2 => ?_; clear ih; exact ⟨_, .tail h1, .tail h2⟩
theorem Upd.of_mem {st : St} {a : Addr} {x : AO} (h : (a, x) ∈ st) (y : AO) : ∃ s, Upd st a x y s := by
  induction st with
  | nil => cases h
  | cons p r ih =>
    rcases List.mem_cons.mp h with rfl | h
    · exact ⟨_, .head⟩
    · refine xe11 (ih h) fun s hs => ?_; exact ⟨_, .tail hs⟩
theorem Upd.same {st : St} {a : Addr} {x : AO} (h : (a, x) ∈ st) : Upd st a x x st := by
  induction st with
  | nil => cases h
  | cons p r ih =>
    rcases List.mem_cons.mp h with rfl | h
    · exact .head
    · exact .tail (ih h)
theorem Upd.nm {st st' : St} {a : Addr} {x y z : AO} {s : St} (u : Upd st a x y st') (h : Upd st' a y z s) (nd : (Mine.adr st).Nodup) : Upd st a x z s := by
  induction u generalizing s with
  | head => cases h with
    | head => exact .head
    | tail h => exact absurd (List.mem_map_of_mem h.mem) (List.nodup_cons.mp nd).1
  | @tail a x y p st st' u ih => cases h with
    | head => exact absurd (List.mem_map_of_mem u.mem) (List.nodup_cons.mp nd).1
    | tail h => exact .tail (ih h (List.nodup_cons.mp nd).2)
theorem Fn.nd {f : Value} {args : List AV} {kw : List (PySem.Str × AV)} {Post : AV → St → Prop} (h : (adr st).Nodup → Fn C lv f args kw st Post) : Fn C lv f args kw st Post := fun P A s vs kvs R a Rr => h Rr.nd P A s vs kvs R a Rr
theorem Upd.det {st s s' : St} {a : Addr} {x y : AO} (u : Upd st a x y s) (u' : Upd st a x y s') (nd : (Mine.adr st).Nodup) : s = s' := by
  induction u generalizing s' with
  | head => cases u' with
    | head => rfl
    | tail h => exact absurd (List.mem_map_of_mem h.mem) (List.nodup_cons.mp nd).1
  | @tail a x y p st st' u ih => cases u' with
    | head => exact absurd (List.mem_map_of_mem u.mem) (List.nodup_cons.mp nd).1
    | tail h => rw [ih h (List.nodup_cons.mp nd).2]
theorem len1 {P : List Value → Prop} (h : ∀ a, P [a]) (vs : List Value) (e : vs.length = 1) : P vs := by
  refine xe11 (List.length_eq_one_iff.mp e) fun a qe0 => ?_; subst qe0
  exact h a
theorem len2 {P : List Value → Prop} (h : ∀ a b, P [a, b]) (vs : List Value) (e : vs.length = 2) : P vs := by
  refine xe21 (List.exists_cons_of_length_eq_add_one e) fun a us qe0 => ?_; subst qe0
  exact len1 (P := fun us => P (a :: us)) (h a) us (Nat.succ.inj e)
theorem len3 {P : List Value → Prop} (h : ∀ a b c, P [a, b, c]) (vs : List Value) (e : vs.length = 3) : P vs := by
  refine xe21 (List.exists_cons_of_length_eq_add_one e) fun a us qe0 => ?_; subst qe0
  exact len2 (P := fun us => P (a :: us)) (h a) us (Nat.succ.inj e)
theorem len10 {P : List Value → List (PySem.Str × Value) → Prop} (h : ∀ a, P [a] []) (vs : List Value) (kvs : List (PySem.Str × Value)) (e : vs.length = 1) (e' : kvs.map (·.1) = []) : P vs kvs := by
  rw [List.map_eq_nil_iff.mp e']
  exact len1 (P := fun vs => P vs []) h vs e
theorem len20 {P : List Value → List (PySem.Str × Value) → Prop} (h : ∀ a b, P [a, b] []) (vs : List Value) (kvs : List (PySem.Str × Value)) (e : vs.length = 2) (e' : kvs.map (·.1) = []) : P vs kvs := by
  rw [List.map_eq_nil_iff.mp e']
  exact len2 (P := fun vs => P vs []) h vs e
theorem len30 {P : List Value → List (PySem.Str × Value) → Prop} (h : ∀ a b c, P [a, b, c] []) (vs : List Value) (kvs : List (PySem.Str × Value)) (e : vs.length = 3) (e' : kvs.map (·.1) = []) : P vs kvs := by
  rw [List.map_eq_nil_iff.mp e']
  exact len3 (P := fun vs => P vs []) h vs e
theorem kv1 {n : PySem.Str} {kvs : List (PySem.Str × Value)} (e : kvs.map (·.1) = [n]) : ∃ u, kvs = [(n, u)] := by
  refine xe23 (List.map_eq_cons_iff.mp e) fun p r qe0 h1 h2 => ?_; subst qe0
  rw [List.map_eq_nil_iff.mp h2, ← h1]
  exact ⟨p.2, rfl⟩
theorem len21 {n : PySem.Str} {P : List Value → List (PySem.Str × Value) → Prop} (h : ∀ a b u, P [a, b] [(n, u)]) (vs : List Value) (kvs : List (PySem.Str × Value)) (e : vs.length = 2) (e' : kvs.map (·.1) = [n]) : P vs kvs := by
  refine xe11 (kv1 e') fun u qe0 => ?_; subst qe0
  exact len2 (P := fun vs => P vs [(n, u)]) (fun a b => h a b u) vs e
theorem len31 {n : PySem.Str} {P : List Value → List (PySem.Str × Value) → Prop} (h : ∀ a b c u, P [a, b, c] [(n, u)]) (vs : List Value) (kvs : List (PySem.Str × Value)) (e : vs.length = 3) (e' : kvs.map (·.1) = [n]) : P vs kvs := by
  refine xe11 (kv1 e') fun u qe0 => ?_; subst qe0
  exact len3 (P := fun vs => P vs [(n, u)]) (fun a b c => h a b c u) vs e
theorem Fn.k1 {f : Value} {args : List AV} {kw : List (PySem.Str × AV)} {y0 : AV} {s0 : St} {Post : AV → St → Prop} (h : Fn C lv f args kw st fun y s => y = y0 ∧ s = s0) (k : Post y0 s0) : Cl C lv f args kw st Post :=
  (Fn.mono h fun y s hz => by refine xe02 hz fun qe0 qe1 => ?_; clear hz; subst qe0; subst qe1; exact k).cl
theorem Fn.kU {f : Value} {args : List AV} {kw : List (PySem.Str × AV)} {y0 : AV} {a : Addr} {x z : AO} {s0 : St} {Post : AV → St → Prop} (h : Fn C lv f args kw st fun y s => y = y0 ∧ Upd st a x z s) (u : Upd st a x z s0) (k : Post y0 s0) : Cl C lv f args kw st Post :=
  (Fn.nd fun nd => Fn.mono h fun y s hz => by refine xe02 hz fun qe0 v => ?_; clear hz; subst qe0; obtain rfl := v.det u nd; exact k).cl
theorem Fn.kV {f : Value} {args : List AV} {kw : List (PySem.Str × AV)} {y0 : AV} {R : St → Prop} {Post : AV → St → Prop} (h : Fn C lv f args kw st fun y s => y = y0 ∧ R s) (k : ∀ s, R s → Post y0 s) : Cl C lv f args kw st Post :=
  (Fn.mono h fun y s hz => by refine xe02 hz fun qe0 v => ?_; clear hz; subst qe0; exact k s v).cl
theorem Ex1.mono {t : Stmt} {Post Post' : Fl → Locs → St → Prop} (h : Ex1 C lv sc cel loc t st Post) (hp : ∀ f l s, Post f l s → Post' f l s) : Ex1 C lv sc cel loc t st Post' := fun P A env s Q E a en R F k =>
  h P A env s Q E a en R F fun P' f fl loc' st' h' tk hx S R' F' hf => k P' f fl loc' st' h' tk (hp _ _ _ hx) S R' F' hf
theorem Ex.gen {ss : List Stmt} {Post : Fl → Locs → St → Prop} (h : ∀ Q : Fl → Locs → St → Prop, (∀ f l s, Post f l s → Q f l s) → Ex C lv sc cel loc ss st Q) : Ex C lv sc cel loc ss st Post := h Post fun _ _ _ x => x
theorem As.gen {t : Expr} {y : AV} {ss : List Stmt} {Post : Fl → Locs → St → Prop} (h : ∀ Q : Fl → Locs → St → Prop, (∀ f l s, Post f l s → Q f l s) → As C sc cel loc t y st fun l s => Ex C lv sc cel l ss s Q) : As C sc cel loc t y st fun l s => Ex C lv sc cel l ss s Post := h Post fun _ _ _ x => x
theorem loopS {α : Type} {x : AV} {target : Expr} {body : List Stmt} {Post : Fl → Locs → St → Prop} (xs : List α) (g : α → AV) (L : Nat → Locs) (S : Nat → St) (h1 : ItOf C x st (xs.map g)) (h2 : Sub (L 0) loc) (h3 : st = S 0)
    (turn : ∀ i (hi : i < xs.length) (Q : Fl → Locs → St → Prop), (∀ l, Sub (L (i + 1)) l → Q .next l (S (i + 1))) → As C sc cel (L i) target (g xs[i]) (S i) fun l s => Ex C lv sc cel l body s Q)
    (hend : ∀ l, Sub (L xs.length) l → Post .next l (S xs.length)) :
    ∃ ys, ItOf C x st ys ∧ ∃ Inv : Nat → Locs → St → Prop, Inv 0 loc st ∧
      (∀ i y loc' st', ys[i]? = some y → Inv i loc' st' → As C sc cel loc' target y st' fun loc₂ st₂ => Ex C lv sc cel loc₂ body st₂ (loopP Inv Post (i + 1))) ∧
      ∀ loc' st', Inv ys.length loc' st' → Post .next loc' st' := by
  refine ⟨_, h1, fun i l s => Sub (L i) l ∧ s = S i, ⟨h2, h3⟩, ?_, ?_⟩
  · rintro i y l s hy ⟨hs, rfl⟩
    rw [List.getElem?_map] at hy
    cases q : xs[i]? with
    | none => rw [q] at hy; cases hy
    | some z =>
      obtain ⟨hi, e⟩ := List.getElem?_eq_some_iff.mp q
      rw [q] at hy
      cases hy
      rw [← e]
      exact As.rel hs (turn i hi _ fun l hl => ⟨hl, rfl⟩)
  · rintro l s ⟨hs, rfl⟩
    rw [List.length_map] at hs ⊢
    exact hend l hs
theorem loopR {target : Expr} {body : List Stmt} {Post : Fl → Locs → St → Prop} (n : Nat) (hn : n ≤ 1000) {b : Int} (hb : b = (n : Nat)) (L : Nat → Locs) (S : Nat → St) (h2 : Sub (L 0) loc) (h3 : st = S 0)
    (turn : ∀ i, i < n → ∀ Q : Fl → Locs → St → Prop, (∀ l, Sub (L (i + 1)) l → Q .next l (S (i + 1))) → As C sc cel (L i) target (.int (i : Nat)) (S i) fun l s => Ex C lv sc cel l body s Q)
    (hend : ∀ l, Sub (L n) l → Post .next l (S n)) :
    ∃ ys, ItOf C (.rng 0 b 1) st ys ∧ ∃ Inv : Nat → Locs → St → Prop, Inv 0 loc st ∧
      (∀ i y loc' st', ys[i]? = some y → Inv i loc' st' → As C sc cel loc' target y st' fun loc₂ st₂ => Ex C lv sc cel loc₂ body st₂ (loopP Inv Post (i + 1))) ∧
      ∀ loc' st', Inv ys.length loc' st' → Post .next loc' st' := by
  subst hb
  have e : rangeL 0 (n : Nat) = (List.range n).map fun k => AV.int (k : Nat) := by unfold rangeL; simp
  refine loopS (List.range n) (fun k => .int (k : Nat)) L S (e ▸ ItOf.rng (by decide) (by decide) (by omega) (by omega)) h2 h3 (fun i hi Q hQ => ?_) (fun l hl => ?_)
  · rw [List.getElem_range]; exact turn i (by simpa using hi) Q hQ
  · rw [List.length_range] at hl ⊢; exact hend l hl
end
set_option compiler.extract_closed false
set_option hygiene false
local macro_rules | `(tactic| walk_at "fn") => `(tactic| (
  (case ho | hcd | hb | hclo | hgl | hbu | hco | hgen | hk | hok | hloc | hcn | hcx => exact rfl)
  (case hsc => dsimp only; exact rfl)))
local macro_rules | `(tactic| walk_at "sw") => `(tactic| (intro env h; cases env; cases h; with_unfolding_all rfl))
local macro_rules | `(tactic| walk_at "upd") => `(tactic| (repeat' (first | with_reducible exact Upd.head | with_reducible refine' Upd.tail ?_)))
local macro_rules | `(tactic| walk_at "mem") => `(tactic| (repeat' (first | with_reducible exact List.mem_cons_self | with_reducible refine' List.mem_cons_of_mem _ ?_)))
local macro_rules | `(tactic| walk_at "boot") => `(tactic| with_reducible first | exact Boot.«range» | exact Boot.«len» | exact Boot.«reversed» | exact Boot.«max» | exact Boot.«sum» | exact Boot.«iter» | exact Boot.«type» | exact Boot.«list» | exact Boot.«str»)
local macro_rules | `(tactic| walk_at "name") => `(tactic| first
  | ((with_reducible refine' Ev.lc ?h1 ?h2 ?_ ?h3); (case h1 | h2 | h3 => exact rfl))
  | ((with_reducible refine' Ev.ce ?h1 ?h2 ?h3 ?_ ?h4); (case h1 | h2 => exact rfl); (case h3 => walk_at "mem"); (case h4 => exact rfl))
  | ((with_reducible refine' Ev.free ?h1 ?h2 ?h3 ?_ ?h4 ?h5); (case h1 => exact rfl); (case h2 => exact rfl); (case h3 => walk_at "mem"); (case h4 => exact rfl); (case h5 => exact rfl))
  | ((with_reducible refine' Pg.glob (by assumption) ?h1 ?h2 ?_ ?h3); (case h1 | h2 | h3 => exact rfl))
  | ((with_reducible refine' Pg.built (by assumption) ?h1 ?h2 ?h3 ?_ ?h4 ?h5); (case h1 => exact rfl); (case h2 => exact rfl); (case h3 => walk_at "boot"); (case h4 => decide); (case h5 => exact rfl)))
local macro_rules | `(tactic| walk_at "bd") => `(tactic| first
  | ((with_reducible refine' Bd.lc ?h1 ?_); (case h1 => exact rfl))
  | ((with_reducible refine' Bd.ce ?h1 ?h2 ?h3 ?_); (case h1 => exact rfl); (case h2 => exact rfl); (case h3 => walk_at "upd")))
local macro_rules | `(tactic| walk_at "sub") => `(tactic| (repeat (first | exact Sub.nil | refine Sub.cons rfl ?_)))
local macro_rules | `(tactic| walk_at "rf") => `(tactic| first | exact rfl | exact fun _ _ _ => rfl | with_unfolding_all rfl)
local macro_rules | `(tactic| walk_at "keep") => `(tactic| first | exact KeepF.t | exact KeepF.b | exact Pg.keep (by assumption) rfl)
local macro_rules | `(tactic| walk_at "mul") => `(tactic| first | decide | assumption | exact IntMulOk.of_left (by decide) | exact IntMulOk.of_right (by decide))
local macro_rules | `(tactic| walk_at "lv") => `(tactic| first | exact LV.lst | exact LV.ref (by walk_at "mem"))
local macro_rules | `(tactic| walk_at "meth") => `(tactic| first
  | ((with_reducible refine' methI (Mt.list PySem.F.slot_list_append PySem.F.type_list_append ?h1) ?_); (case h1 => walk_at "lv"))
  | ((with_reducible refine' methI (Mt.list PySem.F.slot_list_pop PySem.F.type_list_pop ?h1) ?_); (case h1 => walk_at "lv"))
  | ((with_reducible refine' methI (Mt.list PySem.F.slot_list_index PySem.F.type_list_index ?h1) ?_); (case h1 => walk_at "lv"))
  | (with_reducible refine' methI (Mt.str PySem.F.slot_str_join PySem.F.type_str_join) ?_)
  | (with_reducible refine' methI (Mt.str PySem.F.slot_str_upper PySem.F.type_str_upper) ?_)
  | (with_reducible refine' methI (Mt.str PySem.F.slot_str_lower PySem.F.type_str_lower) ?_)
  | (with_reducible refine' methI (Mt.str PySem.F.slot_str_replace PySem.F.type_str_replace) ?_))
local macro_rules | `(tactic| walk_at "go") => `(tactic| first
  | walk_at "name"
  | walk_at "bd"
  | with_reducible first | refine' Ex.cons ?_ | refine' iteT ?_ | refine' iteF ?_ | refine' Ex.nil ?_ | refine' Ex1.ret ?_ | refine' Ex1.iff ?_ | refine' Ex1.cont ?_ | refine' Ex1.brk ?_ | refine' As.name ?_ | refine' Ev.int ?_ | refine' Ev.str ?_ | refine' Ev.bool ?_ | refine' Ev.none ?_ | refine' Ev.bin ?_ | refine' Tr.not ?_ | refine' Tr.and2 ?_ | refine' Tr.or2 ?_ | refine' Ev.and2 ?_ | refine' Ev.ifx ?_ | refine' Ev.slc ?_ | refine' Ev.ix ?_ | refine' Evp.none ?_ | refine' Evp.some ?_ | refine' Evs.nil ?_ | refine' Evs.cons ?_ | refine' Ts.nil ?_ | refine' Ts.cons ?_ | refine' Op2.addI ?_ | refine' Op2.subI ?_ | refine' Op2.neI ?_ | refine' Op2.ltI ?_ | refine' Op2.gtI ?_ | refine' Op2.eqS ?_ | refine' Op2.neS ?_ | refine' Op2.ltS ?_ | refine' Op2.neB ?_ | refine' Op2.ltP ?_
  | ((with_reducible first | refine' Ex1.assign ?h1 ?_ | refine' Ex1.store ?h1 ?_); (case h1 => walk_at "sw"))
  | ((with_reducible refine' Ex1.expr ?h1 ?h2 ?_); (case h1 | h2 => walk_at "sw"))
  | ((with_reducible refine' Ex1.aug ?h1 ?h2 ?_); (case h1 | h2 => walk_at "rf"))
  | ((with_reducible first | refine' As.tup2 ?h1 ?_ | refine' Ev.cmp ?h1 ?_ | refine' Tr.cmp ?h1 ?_ | refine' Ev.call0 ?h1 ?_ | refine' Ev.tup ?h1 ?_); (case h1 => walk_at "rf"))
  | ((with_reducible refine' Tr.val (e := Expr.Name _ _) ?h1 ?_); (case h1 => exact fun _ _ => rfl))
  | with_reducible refine' truI truB ?_
  | ((with_reducible refine' Ev.meth0 ?h1 ?h2 ?h3 ?h4 ?_); (case h1 | h2 | h3 | h4 => walk_at "rf"))
  | ((with_reducible refine' And.intro (a := List.length _ ≤ sizeLine) ?h1 ?_); (case h1 => exact Nat.le_of_ble_eq_true rfl))
  | ((with_reducible refine' callJ ?h1 ?_); (case h1 => walk_at "keep"))
  | ((with_reducible refine' Op2.mulI ?h1 ?_); (case h1 => walk_at "mul"))
  | ((with_reducible refine' Op2.modI ?h1 ?_); (case h1 => decide))
  | ((with_reducible refine' Ex1.loop ?h1 ?_); (case h1 => exact fun _ _ => rfl))
  | walk_at "meth"
  | with_reducible refine' Cl.range1 ?_
  | with_reducible refine' Cl.range2 ?_
  | with_reducible first | refine' callI ?_ | refine' boolI ?_ | refine' Exists.intro _ (And.intro rfl ?_))
section
variable {C : Cx} {lv : Nat} {sc : Scope} {cel : List (PySem.Str × Addr)} {loc : Locs} {st : St}
set_option pp.deepTerms false
set_option pp.maxSteps 2000
noncomputable def pL (ps : List (Int × Int)) : List AV := ps.map fun p => AV.tup [.int p.1, .int p.2]
noncomputable def rowTo (i : Nat) (j : Nat) : List (Int × Int) := (List.range j).map fun k => ((i : Int), (i : Int) + 1 + (k : Nat))
noncomputable def pairsTo : Nat → List (Int × Int)
  | 0 => []
  | i + 1 => pairsTo i ++ rowTo i (5 - i)
theorem rowTo_succ (i j : Nat) : rowTo i (j + 1) = rowTo i j ++ [((i : Int), (i : Int) + 1 + (j : Nat))] := by
  unfold rowTo; rw [List.range_succ, List.map_append]; rfl
theorem pairsTo_le : ∀ i ≤ 6, (pairsTo i).length ≤ 15 := by decide +kernel
theorem rangeL_get {a b : Int} {i : Nat} {y : AV} (h : (rangeL a b)[i]? = some y) : y = .int (a + (i : Nat)) ∧ i < (b - a).toNat := by
  unfold rangeL at h
  rw [List.getElem?_map] at h
  cases q : (List.range (b - a).toNat)[i]? with
  | none => rw [q] at h; cases h
  | some k =>
    have hlt : i < (b - a).toNat := by simpa using (List.getElem?_eq_some_iff.mp q).1
    rw [List.getElem?_range hlt] at q
    cases q
    rw [List.getElem?_range hlt] at h
    cases h
    exact ⟨rfl, hlt⟩
noncomputable def plStep (l : List Int) (x : Int) : List Int := if x.fmod 15 ∈ l then l.filter (fun k => !(k == x.fmod 15)) else l ++ [x.fmod 15]
noncomputable def pl0 : List Int := [0, 5, 9, 2, 12, 14, 13]
noncomputable def plOf (draws : List Int) : List Int := draws.foldl plStep pl0
noncomputable def sgn (i : Int) : PySem.Str := ⟨#[("ab\"\\ c".toList.map Char.toNat).getD i.toNat 0]⟩
noncomputable def tieOf (k : Int) : PySem.Str × PySem.Str := (sgn ((pairsTo 6).getD k.toNat (0, 0)).1, sgn ((pairsTo 6).getD k.toNat (0, 0)).2)
noncomputable def tiL (ts : List (PySem.Str × PySem.Str)) : List AV := ts.map fun t => AV.tup [.str t.1, .str t.2]
noncomputable def tiesOf (draws : List Int) : List (PySem.Str × PySem.Str) := (plOf draws).map tieOf
theorem plStep_ok {l : List Int} {x : Int} (h : ∀ k ∈ l, 0 ≤ k ∧ k < 15) : ∀ k ∈ plStep l x, 0 ≤ k ∧ k < 15 := by
  intro k hk
  unfold plStep at hk
  split at hk
  · exact h k (List.mem_filter.mp hk).1
  · rcases List.mem_append.mp hk with q | q
    · exact h k q
    · rw [List.mem_singleton.mp q]
      exact ⟨Int.fmod_nonneg_of_pos _ (by decide), Int.fmod_lt_of_pos _ (by decide)⟩
theorem plOf_ok (draws : List Int) : ∀ k ∈ plOf draws, 0 ≤ k ∧ k < 15 := by
  unfold plOf
  have : ∀ (ds : List Int) (l : List Int), (∀ k ∈ l, 0 ≤ k ∧ k < 15) → ∀ k ∈ ds.foldl plStep l, 0 ≤ k ∧ k < 15 := by
    intro ds
    induction ds with
    | nil => intro l h; exact h
    | cons d r ih => intro l h; exact ih _ (plStep_ok h)
  exact this draws pl0 (by decide)
theorem plStep_nd {l : List Int} {x : Int} (h : l.Nodup) : (plStep l x).Nodup := by
  unfold plStep
  split
  · exact h.filter _
  · rename_i q
    exact List.nodup_append.mpr ⟨h, by simp, fun a ha b hb e => q (by rw [← List.mem_singleton.mp hb, ← e]; exact ha)⟩
theorem plOf_nd (draws : List Int) : (plOf draws).Nodup := by
  unfold plOf
  have : ∀ (ds : List Int) (l : List Int), l.Nodup → (ds.foldl plStep l).Nodup := by
    intro ds
    induction ds with
    | nil => intro l h; exact h
    | cons d r ih => intro l h; exact ih _ (plStep_nd h)
  exact this draws pl0 (by decide)
theorem len15 {l : List Int} (hn : l.Nodup) (h : ∀ k ∈ l, 0 ≤ k ∧ k < 15) : l.length ≤ 15 := by
  have h1 : (l.map Int.toNat).Nodup := List.pairwise_map.mpr (hn.imp_of_mem fun {a b} ha hb hne e => hne (by have := h a ha; have := h b hb; lia))
  have h2 : l.map Int.toNat ⊆ List.range 15 := fun x hx => by
    refine xe12 (List.mem_map.mp hx) fun a ha qe0 => ?_; subst qe0
    have := h a ha
    rw [List.mem_range]; lia
  have := (List.Nodup.length_le_of_subset h1 h2)
  simpa using this
theorem ties_fn (G : Pg C) (draws : List Int) (hd : draws.length ≤ 9) : Fn C (lv + 1) (.ref 275) [.lst (iL draws)] [] st fun y st' => y = .lst (tiL (tiesOf draws)) ∧ st' = st := by
  refine Fn.sub ?_
  refine' Pg.fn3 G [Str.ofString "draws"] [(Str.ofString "draws", .lst (iL draws))] (Str.ofString "signs") (Str.ofString "x") (Str.ofString "pairs") none none none ?ho ?hcd ?hb ?hclo ?hgl ?hbu ?hco ?hgen ?hk ?hok ?hbind ?hloc ?hcn ?hcx _ ?hsc ?h
  walk_at "fn"
  case hbind => exact len1 fun _ => rfl
  intro as ax ap
  refine Ex.gen fun Q0 hQ0 => ?_
  repeat walk_at "go"
  refine Ev.lcomp' rfl (fun _ _ => rfl) _ rfl ?_
  refine CompIn.of0 rfl ?_
  repeat walk_at "go"
  refine ⟨_, ItOf.rng (by decide) (by decide) (by decide) (by decide), fun D => ?_⟩
  refine CLp.intro (em := emitL _) .list rfl (fun i _ s => s = (D, .list (pL (pairsTo i))) :: (as, AO.cell none) :: (ax, AO.cell none) :: (ap, AO.cell none) :: st) rfl (fun i y loc' st' hy hi => ?_) (fun loc' st' hi => ?_)
  · subst hi
    refine xe02 (rangeL_get hy) fun qe0 hlt => ?_; subst qe0
    have hlt : i < 6 := hlt
    have hle := pairsTo_le i (by lia)
    repeat walk_at "go"
    refine ⟨rfl, fun _ _ => rfl, ?_⟩
    repeat walk_at "go"
    refine ⟨_, ItOf.rng (by lia) (by lia) (by decide) (by decide), ?_⟩
    refine CLp.intro (em := emitL _) .list rfl (fun j l s => Sub [(Str.ofString "i", .int (0 + (i : Nat)))] l ∧ s = (D, .list (pL (pairsTo i ++ rowTo i j))) :: (as, AO.cell none) :: (ax, AO.cell none) :: (ap, AO.cell none) :: st) ⟨?_, ?_⟩ (fun j y loc' st' hy hi => ?_) (fun loc' st' hi => ?_)
    · walk_at "sub"
    · simp [rowTo]
    · refine xe02 hi fun hs qe0 => ?_; clear hi; subst qe0
      refine xe02 (rangeL_get hy) fun qe0 hj => ?_; subst qe0
      refine As.rel hs ?_
      repeat walk_at "go"
      refine Em.list ?_
      repeat walk_at "go"
      refine ⟨_, _, Upd.head, ?_, ?_, ?_⟩
      · have : (pL (pairsTo i ++ rowTo i j)).length ≤ 25 := by simp [pL, rowTo]; lia
        exact Nat.le_trans this (by decide)
      · walk_at "sub"
      · rw [rowTo_succ]
        simp [pL]
    · refine xe02 hi fun hs qe0 => ?_; clear hi; subst qe0
      have e : (rangeL (0 + (i : Nat) + 1 : Int) 6).length = 5 - i := by simp [rangeL]; lia
      rw [e]
      rfl
  · subst hi
    refine ⟨_, _, .lst .head (List.Sublist.refl _), ?_⟩
    repeat walk_at "go"
    refine Ev.lstF rfl ?_
    repeat walk_at "go"
    refine ⟨_, ItOf.lst, fun i l s => Sub [(Str.ofString "places", .lst (iL ((draws.take i).foldl plStep pl0)))] l ∧ ∃ o, s = (as, AO.cell none) :: (ax, AO.cell o) :: (ap, AO.cell (some (.lst (pL (pairsTo 6))))) :: st, ⟨?_, none, rfl⟩, ?_, ?_⟩
    · walk_at "sub"
    · rintro i y loc' st' hy ⟨hs, o, rfl⟩
      have hlt : i < draws.length := by have := (List.getElem?_eq_some_iff.mp hy).1; simpa [iL] using this
      have hyv : y = .int draws[i] := by simpa [iL, hlt] using hy.symm
      subst hyv
      have hsucc : (draws.take (i + 1)).foldl plStep pl0 = plStep ((draws.take i).foldl plStep pl0) draws[i] := by rw [List.take_succ_eq_append_getElem hlt, List.foldl_append]; rfl
      refine As.rel hs (As.gen fun Q1 hQ1 => ?_)
      repeat walk_at "go"
      refine Op2.inInts .lst ?_
      refine ⟨_, rfl, ?_⟩
      have hle : ((draws.take i).foldl plStep pl0).length ≤ 15 := len15 (plOf_nd (draws.take i)) (plOf_ok (draws.take i))
      by_cases hm : draws[i].fmod 15 ∈ (draws.take i).foldl plStep pl0
      · have hb : ((draws.take i).foldl plStep pl0).any (fun x => x == draws[i].fmod 15) = true := List.any_eq_true.mpr ⟨_, hm, by simp⟩
        rw [hb]
        simp only [if_true]
        walk_at "go"
        refine Ex1.lcomp' (by walk_at "sw") rfl rfl (fun _ _ => rfl) _ rfl ?_
        refine CompIn.l0 rfl (asI fun k => if k = draws[i].fmod 15 then none else some (.int k)) ?_
        repeat walk_at "go"
        refine ⟨_, ItOf.lst, ?_, fun y hy D xs loc' => ?_, ?_⟩
        · exact Nat.le_trans (by simpa [iL] using hle) (by decide : 15 ≤ sizeLine)
        · refine xe12 (List.mem_map.mp hy) fun k hk qe0 => ?_; subst qe0
          repeat walk_at "go"
          refine iteB (fun e => ?_) (fun e => ?_)
          · repeat walk_at "go"
            exact ⟨if_neg (by simpa using e), rfl⟩
          · exact ⟨if_pos (by simpa using e), rfl⟩
        · repeat walk_at "go"
          refine hQ1 _ _ _ ⟨Sub.cons ?_ Sub.nil, _, rfl⟩
          rw [hsucc, plStep, if_pos hm]
          refine (?_ : some _ = some _)
          congr 2
          unfold iL
          rw [List.filterMap_map]
          induction (draws.take i).foldl plStep pl0 with
          | nil => rfl
          | cons a r ih =>
            by_cases e : a = draws[i].fmod 15
            · simp [asI_e, e, ih]
            · simp [asI_e, e, ih]
      · have hb : ((draws.take i).foldl plStep pl0).any (fun x => x == draws[i].fmod 15) = false := by
          rw [List.any_eq_false]; intro x hx e; exact hm (by simpa using (eq_of_beq e) ▸ hx)
        rw [hb]
        simp only [Bool.false_eq_true, if_false]
        repeat walk_at "go"
        refine Ev.lstF rfl ?_
        repeat walk_at "go"
        refine Op2.addL .lst .lst ?_ ?_
        · exact Nat.le_trans (by simp [iL]; lia : _ ≤ 16) (by decide : 16 ≤ sizeLine)
        · repeat walk_at "go"
          refine hQ1 _ _ _ ⟨Sub.cons ?_ Sub.nil, _, rfl⟩
          rw [hsucc, plStep, if_neg hm]
          simp [iL]
          rfl
    · rintro loc' st' ⟨hs, o, rfl⟩
      have el : (iL draws).length = draws.length := by simp [iL]
      rw [el, List.take_length] at hs
      refine Ex.rel hs ?_
      repeat walk_at "go"
      refine Ev.lcomp' rfl (fun _ _ => rfl) _ rfl ?_
      refine CompIn.l0 rfl (asI fun k => some (.tup [.str (tieOf k).1, .str (tieOf k).2])) ?_
      repeat walk_at "go"
      refine ⟨_, ItOf.lst, ?_, fun y hy D xs loc' => ?_, ?_⟩
      · have h15 := len15 (plOf_nd draws) (plOf_ok draws)
        unfold plOf at h15
        exact Nat.le_trans (by simpa [iL] using h15) (by decide : 15 ≤ sizeLine)
      · refine xe12 (List.mem_map.mp hy) fun k hk qe0 => ?_; subst qe0
        have hk15 := plOf_ok draws k hk
        have hp : ∃ p, (pairsTo 6)[k.toNat]? = some p ∧ (pairsTo 6).getD k.toNat (0, 0) = p ∧ 0 ≤ p.1 ∧ p.1 < 6 ∧ 0 ≤ p.2 ∧ p.2 < 6 := by
          have : ∀ n < 15, ∃ p, (pairsTo 6)[n]? = some p ∧ (pairsTo 6).getD n (0, 0) = p ∧ 0 ≤ p.1 ∧ p.1 < 6 ∧ 0 ≤ p.2 ∧ p.2 < 6 := by
            intro n hn
            have hl : n < (pairsTo 6).length := by have : (pairsTo 6).length = 15 := by decide +kernel
                                                   lia
            refine ⟨(pairsTo 6)[n], List.getElem?_eq_getElem hl, by simp [List.getD, hl], ?_⟩
            have hall : (pairsTo 6).all (fun p => decide (0 ≤ p.1 ∧ p.1 < 6 ∧ 0 ≤ p.2 ∧ p.2 < 6)) = true := by decide +kernel
            have := List.all_eq_true.mp hall _ (List.getElem_mem hl)
            simpa using this
          exact this _ (by lia)
        refine xe16 hp fun p hp1 hp2 h1 h2 h3 h4 => ?_; clear hp
        have hsg : ∀ i : Int, 0 ≤ i → i < 6 → ∃ c, (Str.ofString "ab\"\\ c").cps[i.toNat]? = some c ∧ sgn i = ⟨#[c]⟩ := by
          intro i h0 h6
          refine xe11 (Int.eq_ofNat_of_zero_le h0) fun n qe0 => ?_; subst qe0
          have : ∀ n : Nat, n < 6 → ∃ c, (Str.ofString "ab\"\\ c").cps[n]? = some c ∧ sgn (n : Int) = ⟨#[c]⟩ := by
            intro n hn
            match n, hn with
            | 0, _ => exact ⟨_, rfl, rfl⟩
            | 1, _ => exact ⟨_, rfl, rfl⟩
            | 2, _ => exact ⟨_, rfl, rfl⟩
            | 3, _ => exact ⟨_, rfl, rfl⟩
            | 4, _ => exact ⟨_, rfl, rfl⟩
            | 5, _ => exact ⟨_, rfl, rfl⟩
          exact this n (by lia)
        refine xe12 (hsg p.1 h1 h2) fun c1 hc1 hs1 => ?_
        refine xe12 (hsg p.2 h3 h4) fun c2 hc2 hs2 => ?_
        have hpL : (pL (pairsTo 6))[k.toNat]? = some (.tup [.int p.1, .int p.2]) := by simp [pL, hp1]
        repeat walk_at "go"
        refine Op2.ixL (fun _ _ => rfl) hk15.1 (by lia) .lst hpL ?_
        repeat walk_at "go"
        refine Op2.ixT (fun _ _ => rfl) (by decide) (by decide) rfl ?_
        refine Op2.ixS (fun _ _ => rfl) h1 (by lia) hc1 ?_
        repeat walk_at "go"
        refine Op2.ixL (fun _ _ => rfl) hk15.1 (by lia) .lst hpL ?_
        repeat walk_at "go"
        refine Op2.ixT (fun _ _ => rfl) (by decide) (by decide) rfl ?_
        refine Op2.ixS (fun _ _ => rfl) h3 (by lia) hc2 ?_
        repeat walk_at "go"
        refine ⟨?_, rfl⟩
        simp only [asI_e, tieOf, hp2, hs1, hs2]
      · repeat walk_at "go"
        refine hQ0 _ _ _ ⟨st, ?_, ?_, rfl⟩
        · exact (List.sublist_cons_self _ _).trans ((List.sublist_cons_self _ _).trans (List.sublist_cons_self _ _)) |> fun h => h
        · congr 1
          unfold tiL tiesOf iL
          rw [List.filterMap_map]
          simp [plOf, asI_e, List.map_map, Function.comp_def]
end
section
variable {C : Cx} {lv : Nat} {sc : Scope} {cel : List (PySem.Str × Addr)} {loc : Locs} {st : St}
set_option pp.deepTerms false
set_option pp.maxSteps 2000
noncomputable def sgs (x : PySem.Str) : List PySem.Str := x.cps.toList.map fun c => ⟨#[c]⟩
theorem signs_sgs (x : PySem.Str) : signs x = sL (sgs x) := by unfold signs sL sgs; rw [List.map_map]; rfl
noncomputable def own1 (s : PySem.Str) (t : PySem.Str × PySem.Str) : Option PySem.Str := if t.1 = s then some t.2 else if t.2 = s then some t.1 else none
noncomputable def ownOf (ts : List (PySem.Str × PySem.Str)) (s : PySem.Str) : List PySem.Str := ts.filterMap (own1 s)
noncomputable def ownD (ts : List (PySem.Str × PySem.Str)) (ss : List PySem.Str) : List (PySem.Str × AV) := ss.map fun s => (s, AV.lst (sL (ownOf ts s)))
theorem ownD_keys (ts : List (PySem.Str × PySem.Str)) (ss : List PySem.Str) : (ownD ts ss).map (·.1) = ss := by unfold ownD; rw [List.map_map]; simp [Function.comp_def]
theorem ownD_miss {ts : List (PySem.Str × PySem.Str)} {ss : List PySem.Str} {s : PySem.Str} (h : s ∉ ss) : (ownD ts ss).lookup s = none := by
  rw [List.lookup_eq_none_iff]
  intro p hp
  have : p.1 ∈ (ownD ts ss).map (·.1) := List.mem_map_of_mem hp
  rw [ownD_keys] at this
  have : s ≠ p.1 := fun e => h (e ▸ this)
  simpa using this
theorem ownD_hit {ts : List (PySem.Str × PySem.Str)} {s : PySem.Str} : ∀ {ss : List PySem.Str}, s ∈ ss → (ownD ts ss).lookup s = some (.lst (sL (ownOf ts s)))
  | a :: r, h => by
    unfold ownD
    rw [List.map_cons, List.lookup_cons]
    by_cases e : s = a
    · subst e; simp
    · have : (s == a) = false := beq_eq_false_iff_ne.mpr e
      rw [this]
      exact ownD_hit ((List.mem_cons.mp h).resolve_left e)
noncomputable abbrev ownL (W : PySem.Str) (ts : List (PySem.Str × PySem.Str)) (D : Addr) : Locs := [(Str.ofString "word", .str W), (Str.ofString "ties", .lst (tiL ts)), (Str.ofString "own", .ref D)]
noncomputable abbrev ownM (W : PySem.Str) (ts : List (PySem.Str × PySem.Str)) (D R : Addr) (s : PySem.Str) : Locs := [(Str.ofString "word", .str W), (Str.ofString "ties", .lst (tiL ts)), (Str.ofString "own", .ref D), (Str.ofString "sign", .str s), (Str.ofString "row", .ref R)]
theorem own_sn {s x : PySem.Str} {t : PySem.Str × PySem.Str} {l : List PySem.Str} (h : own1 s t = some x) : sL (l ++ [t].filterMap (own1 s)) = sL l ++ [.str x] := by simp [h, sL]
theorem own_fn (G : Pg C) (W : PySem.Str) (ts : List (PySem.Str × PySem.Str)) (hW : (sgs W).Nodup) (hW6 : (sgs W).length ≤ 6) (ht : ts.length ≤ 15) : Fn C (lv + 1) (.ref 289) [.str W, .lst (tiL ts)] [] st fun y st' => y = .dct (ownD ts (sgs W)) ∧ st' = st := by
  refine' Pg.fn0 G [Str.ofString "word", Str.ofString "ties"] [(Str.ofString "word", .str W), (Str.ofString "ties", .lst (tiL ts))] ?ho ?hcd ?hb ?hclo ?hgl ?hbu ?hco ?hgen ?hk ?hok ?hbind ?hloc ?hcn ?hcx _ ?hsc ?h
  walk_at "fn"
  case hbind => exact len2 fun _ _ => rfl
  refine Ex.gen fun Q0 hQ0 => ?_
  walk_at "go"
  walk_at "go"
  refine Ev.dictM fun D => ?_
  repeat walk_at "go"
  refine loopS (sgs W) AV.str (fun _ => ownL W ts D) (fun i => (D, .dict (ownD ts ((sgs W).take i))) :: st) (by have := ItOf.str (C := C) (st := (D, AO.dict []) :: st) (x := W); rw [signs_sgs] at this; exact this) ?_ rfl ?_ ?_
  · walk_at "sub"
  · intro i hlt Q1 hQ1
    repeat walk_at "go"
    refine Ev.lstM rfl ?_
    walk_at "go"
    walk_at "go"
    intro R
    repeat walk_at "go"
    refine loopS ts (fun t => AV.tup [.str t.1, .str t.2]) (fun _ => ownM W ts D R (sgs W)[i]) (fun j => (R, .list (sL (ownOf (ts.take j) (sgs W)[i]))) :: (D, .dict (ownD ts ((sgs W).take i))) :: st) ItOf.lst ?_ rfl ?_ ?_
    · walk_at "sub"
    · intro j hj Q2 hQ2
      have hsz : (sL (ownOf (ts.take j) (sgs W)[i])).length ≤ sizeLine := by
        have h1 : (ownOf (ts.take j) (sgs W)[i]).length ≤ 15 := Nat.le_trans (List.length_filterMap_le _ _) (by rw [List.length_take]; lia)
        exact Nat.le_trans (by simpa [sL] using h1) (by decide : 15 ≤ sizeLine)
      have hstep : ownOf (ts.take (j + 1)) (sgs W)[i] = ownOf (ts.take j) (sgs W)[i] ++ [ts[j]].filterMap (own1 (sgs W)[i]) := by
        unfold ownOf; rw [List.take_succ_eq_append_getElem hj, List.filterMap_append]
      repeat walk_at "go"
      refine iteB (fun e => ?_) (fun e => ?_)
      · repeat walk_at "go"
        refine Cl.append .head hsz ?_
        repeat walk_at "go"
        have e : ts[j].1 = (sgs W)[i] := by simpa using e
        have : own1 (sgs W)[i] ts[j] = some ts[j].2 := if_pos e
        rw [hstep, own_sn this] at hQ2
        exact hQ2 _ (by walk_at "sub")
      · have e : ¬ ts[j].1 = (sgs W)[i] := by simpa using e
        repeat walk_at "go"
        refine iteB (fun e' => ?_) (fun e' => ?_)
        · repeat walk_at "go"
          refine Cl.append .head hsz ?_
          repeat walk_at "go"
          have e' : ts[j].2 = (sgs W)[i] := by simpa using e'
          have : own1 (sgs W)[i] ts[j] = some ts[j].1 := (if_neg e).trans (if_pos e')
          rw [hstep, own_sn this] at hQ2
          exact hQ2 _ (by walk_at "sub")
        · repeat walk_at "go"
          have e' : ¬ ts[j].2 = (sgs W)[i] := by simpa using e'
          have : own1 (sgs W)[i] ts[j] = none := (if_neg e).trans (if_neg e')
          rw [hstep, List.filterMap_cons, this, List.filterMap_nil, List.append_nil] at hQ2
          exact hQ2 _ (by walk_at "sub")
    · intro l hs
      rw [List.take_length]
      refine Ex.rel hs ?_
      walk_at "go"
      refine Ex1.store (by walk_at "sw") ?_
      refine Ev.frz ?_
      walk_at "go"
      refine ⟨_, _, _, rfl, .head, ?_⟩
      repeat walk_at "go"
      have hmi : (sgs W)[i] ∉ (sgs W).take i := fun hm => by
        obtain ⟨k, hk, e⟩ := List.mem_iff_getElem.mp hm
        rw [List.length_take] at hk
        rw [List.getElem_take] at e
        have := List.pairwise_iff_getElem.mp hW k i (by lia) hlt (by lia)
        exact this e
      refine Op3.setD (ownD_miss hmi) ?_ .head ?_
      · have : (ownD ts ((sgs W).take i)).length ≤ 6 := by simp [ownD]; lia
        exact Nat.le_trans this (by decide)
      · repeat walk_at "go"
        have : ownD ts ((sgs W).take (i + 1)) = ownD ts ((sgs W).take i) ++ [((sgs W)[i], .lst (sL (ownOf ts (sgs W)[i])))] := by
          unfold ownD; rw [List.take_succ_eq_append_getElem hlt, List.map_append]; rfl
        rw [this] at hQ1
        exact hQ1 _ (by walk_at "sub")
  · intro l hs
    rw [List.take_length]
    refine Ex.rel hs ?_
    walk_at "go"
    walk_at "go"
    refine Ev.frzD ?_
    walk_at "go"
    exact ⟨_, _, _, rfl, .head, hQ0 _ _ _ ⟨rfl, rfl⟩⟩
end
section
variable {C : Cx} {lv : Nat} {sc : Scope} {cel : List (PySem.Str × Addr)} {loc : Locs} {st : St}
set_option pp.deepTerms false
set_option pp.maxSteps 2000
theorem sL_get {r : List PySem.Str} {i : Nat} {y : AV} (h : (sL r)[i]? = some y) : ∃ h : i < r.length, y = .str r[i] := by
  unfold sL at h
  rw [List.getElem?_map] at h
  cases q : r[i]? with
  | none => rw [q] at h; cases h
  | some s =>
    obtain ⟨hi, e⟩ := List.getElem?_eq_some_iff.mp q
    rw [q] at h; cases h
    exact ⟨hi, by rw [e]⟩
theorem sL_at {r : List PySem.Str} {i : Nat} (h : i < r.length) : (sL r)[i]? = some (.str r[i]) := by unfold sL; simp [h]
theorem any_mem {l : List PySem.Str} {s : PySem.Str} : l.any (· == s) = decide (s ∈ l) := by
  rw [Bool.eq_iff_iff, List.any_eq_true, decide_eq_true_eq]
  constructor
  · rintro ⟨x, hx, e⟩; exact (eq_of_beq e) ▸ hx
  · exact fun h => ⟨s, h, by simp⟩
noncomputable def aheadOf (r : List PySem.Str) (N : PySem.Str → List PySem.Str) (k : Nat) : List PySem.Str := (r.take k).filter fun s => decide (s ∈ N (r.getD k ⟨#[]⟩))
noncomputable def pairOk (N : PySem.Str → List PySem.Str) (a b : PySem.Str) : Bool := !(decide (a ≠ b) && !decide (b ∈ N a))
noncomputable def gapOk (r : List PySem.Str) (N : PySem.Str → List PySem.Str) (k : Nat) : Bool := (aheadOf r N k).all fun a => (aheadOf r N k).all fun b => pairOk N a b
noncomputable def noGap (r : List PySem.Str) (N : PySem.Str → List PySem.Str) : Bool := (List.range 6).all (gapOk r N)
noncomputable def DictIs (es : List (PySem.Str × AV)) (N : PySem.Str → List PySem.Str) (V : List PySem.Str) : Prop := ∀ s ∈ V, es.lookup s = some (.lst (sL (N s)))
theorem noGap_false {r : List PySem.Str} {N : PySem.Str → List PySem.Str} {i : Nat} {a b : PySem.Str} (hi : i < 6) (ha : a ∈ aheadOf r N i) (hb : b ∈ aheadOf r N i) (h : pairOk N a b = false) : noGap r N = false := by
  cases q : noGap r N with
  | false => rfl
  | true =>
    have h1 := List.all_eq_true.mp q i (List.mem_range.mpr hi)
    have h2 := List.all_eq_true.mp (List.all_eq_true.mp h1 a ha) b hb
    rw [h] at h2; cases h2
theorem nogap_fn (G : Pg C) (r : List PySem.Str) (es : List (PySem.Str × AV)) (N : PySem.Str → List PySem.Str) (hr : r.length = 6) (hN : DictIs es N r) : Fn C (lv + 1) (.ref 309) [.lst (sL r), .dct es] [] st fun y st' => y = .bool (noGap r N) ∧ st' = st := by
  refine Fn.sub ?_
  refine' Pg.fn3 G [Str.ofString "row", Str.ofString "own"] [] (Str.ofString "k") (Str.ofString "own") (Str.ofString "row") none (some (.dct es)) (some (.lst (sL r))) ?ho ?hcd ?hb ?hclo ?hgl ?hbu ?hco ?hgen ?hk ?hok ?hbind ?hloc ?hcn ?hcx _ ?hsc ?h
  walk_at "fn"
  case hbind => exact len2 fun _ _ => rfl
  intro ak ao ar
  refine Ex.gen fun Q0 hQ0 => ?_
  have hdrop : ∀ q, st.Sublist ((ak, AO.cell q) :: (ao, .cell (some (.dct es))) :: (ar, .cell (some (.lst (sL r)))) :: st) := fun q => (List.sublist_cons_self _ _).trans ((List.sublist_cons_self _ _).trans (List.sublist_cons_self _ _))
  repeat walk_at "go"
  refine ⟨_, ItOf.rng (by decide) (by decide) (by decide) (by decide), fun i _ s => (∀ k < i, gapOk r N k = true) ∧ ∃ o, s = (ak, AO.cell o) :: (ao, .cell (some (.dct es))) :: (ar, .cell (some (.lst (sL r)))) :: st, ⟨fun k hk => absurd hk (Nat.not_lt_zero _), none, rfl⟩, ?_, ?_⟩
  · rintro i y loc' st' hy ⟨hok, o, rfl⟩
    refine xe02 (rangeL_get hy) fun qe0 hi => ?_; subst qe0
    have hi : i < 6 := hi
    have hir : i < r.length := by lia
    have e0 : (0 : Int) + (i : Nat) = (i : Nat) := Int.zero_add _
    rw [e0]
    have hget : r.getD i ⟨#[]⟩ = r[i] := by simp [List.getD, hir]
    refine As.rel Sub.nil (As.gen fun Q1 hQ1 => ?_)
    repeat walk_at "go"
    refine Ex1.lcomp' (by walk_at "sw") rfl rfl (fun _ _ => rfl) _ rfl ?_
    refine CompIn.l0 rfl (asS fun s => if s ∈ N r[i] then some (.str s) else none) ?_
    repeat walk_at "go"
    refine Sl.list (lo := none) (hi := some (i : Int)) .lst .none .int ?_ ?_
    · exact Nat.le_trans (by simp [sL]; lia : _ ≤ 6) (by decide)
    have eS : ((sL r).drop (kms_lo none (sL r).length)).take (kms_hi (some (i : Int)) (sL r).length - kms_lo none (sL r).length) = sL (r.take i) := by
      have : (sL r).length = 6 := by simp [sL, hr]
      rw [this]
      have h1 : kms_lo none 6 = 0 := rfl
      have h2 : kms_hi (some (i : Int)) 6 = i := by
        unfold kms_hi
        simp only
        rw [if_neg (by lia)]
        lia
      rw [h1, h2, List.drop_zero, Nat.sub_zero]
      unfold sL
      rw [List.map_take]
    rw [eS]
    refine ⟨_, ItOf.lst, ?_, fun y hy D xs loc' => ?_, ?_⟩
    · exact Nat.le_trans (by simp [sL]; lia : _ ≤ 6) (by decide)
    · refine xe12 (List.mem_map.mp hy) fun s hs qe0 => ?_; subst qe0
      have hsr : s ∈ r := List.mem_of_mem_take hs
      repeat walk_at "go"
      refine Op2.ixL (fun _ _ => rfl) (by lia) (by lia) .lst (sL_at (by simpa using hir)) ?_
      refine Op2.ixD (fun _ _ => rfl) .dct (hN _ (List.getElem_mem _)) ?_
      refine Op2.inStrs .lst ?_
      repeat walk_at "go"
      refine iteB (fun e => ?_) (fun e => ?_)
      · repeat walk_at "go"
        refine ⟨if_pos ?_, rfl⟩
        rw [any_mem] at e; simpa using e
      · refine ⟨if_neg ?_, rfl⟩
        rw [any_mem] at e; simpa using e
    · have eF : (sL (r.take i)).filterMap (asS fun s => if s ∈ N r[i] then some (.str s) else none) = sL (aheadOf r N i) := by
        unfold sL aheadOf
        rw [List.filterMap_map, hget]
        induction r.take i with
        | nil => rfl
        | cons a q ih =>
          by_cases e : a ∈ N r[i]
          · simp [asS_e, e, ih]
          · simp [asS_e, e, ih]
      rw [eF]
      have hin : ∀ s ∈ aheadOf r N i, s ∈ r := fun s hs => List.mem_of_mem_take (List.mem_filter.mp hs).1
      repeat walk_at "go"
      refine ⟨_, ItOf.lst, fun j l s => Sub [(Str.ofString "ahead", .lst (sL (aheadOf r N i)))] l ∧ (∀ m (hm : m < j) (hm' : m < (aheadOf r N i).length), ∀ b ∈ aheadOf r N i, pairOk N (aheadOf r N i)[m] b = true) ∧ s = (ak, AO.cell (some (.int i))) :: (ao, .cell (some (.dct es))) :: (ar, .cell (some (.lst (sL r)))) :: st, ⟨?_, fun m hm => absurd hm (Nat.not_lt_zero _), rfl⟩, ?_, ?_⟩
      · walk_at "sub"
      · rintro j y loc' st' hy ⟨hs, hj, rfl⟩
        obtain ⟨hjl, rfl⟩ := sL_get hy
        refine As.rel hs (As.gen fun Q2 hQ2 => ?_)
        repeat walk_at "go"
        refine ⟨_, ItOf.lst, fun m l s => Sub [(Str.ofString "ahead", .lst (sL (aheadOf r N i))), (Str.ofString "one", .str (aheadOf r N i)[j])] l ∧ (∀ q (hm : q < m) (hm' : q < (aheadOf r N i).length), pairOk N (aheadOf r N i)[j] (aheadOf r N i)[q] = true) ∧ s = (ak, AO.cell (some (.int i))) :: (ao, .cell (some (.dct es))) :: (ar, .cell (some (.lst (sL r)))) :: st, ⟨?_, fun m hm => absurd hm (Nat.not_lt_zero _), rfl⟩, ?_, ?_⟩
        · walk_at "sub"
        · rintro m y loc' st' hy ⟨hs, hm, rfl⟩
          obtain ⟨hml, rfl⟩ := sL_get hy
          refine As.rel hs (As.gen fun Q3 hQ3 => ?_)
          have key : pairOk N (aheadOf r N i)[j] (aheadOf r N i)[m] = true → ∀ q (hq : q < m + 1) (hm' : q < (aheadOf r N i).length), pairOk N (aheadOf r N i)[j] (aheadOf r N i)[q] = true := fun h q hq hql => by
            rcases Nat.lt_succ_iff_lt_or_eq.mp hq with z | z
            · exact hm q z hql
            · subst z; exact h
          repeat walk_at "go"
          refine iteB (fun e => ?_) (fun e => ?_)
          · repeat walk_at "go"
            refine Op2.ixD (fun _ _ => rfl) .dct (hN _ (hin _ (List.getElem_mem _))) ?_
            refine Op2.notInStrs .lst ?_
            repeat walk_at "go"
            refine iteB (fun e' => ?_) (fun e' => ?_)
            · repeat walk_at "go"
              refine hQ3 _ _ _ (hQ2 _ _ _ (hQ1 _ _ _ (hQ0 _ _ _ ⟨st, hdrop _, ?_, rfl⟩)))
              have hf : pairOk N (aheadOf r N i)[j] (aheadOf r N i)[m] = false := by
                rw [any_mem] at e'
                unfold pairOk
                rw [e']
                simpa using e
              rw [noGap_false hi (List.getElem_mem _) (List.getElem_mem _) hf]
            · repeat walk_at "go"
              refine hQ3 _ _ _ ⟨by walk_at "sub", key ?_, rfl⟩
              rw [any_mem] at e'
              unfold pairOk
              rw [e']; simp
          · repeat walk_at "go"
            refine hQ3 _ _ _ ⟨by walk_at "sub", key ?_, rfl⟩
            unfold pairOk
            have : (aheadOf r N i)[j] = (aheadOf r N i)[m] := by simpa using e
            simp [this]
        · rintro loc' st' ⟨hs, hm, rfl⟩
          have el : (sL (aheadOf r N i)).length = (aheadOf r N i).length := by simp [sL]
          rw [el] at hm
          repeat walk_at "go"
          refine hQ2 _ _ _ ⟨Sub.tr (by walk_at "sub") hs, fun q hq hq' b hb => ?_, rfl⟩
          rcases Nat.lt_succ_iff_lt_or_eq.mp hq with z | z
          · exact hj q z hq' b hb
          · subst z
            obtain ⟨w, hw, rfl⟩ := List.mem_iff_getElem.mp hb
            exact hm w hw hw
      · rintro loc' st' ⟨hs, hj, rfl⟩
        have el : (sL (aheadOf r N i)).length = (aheadOf r N i).length := by simp [sL]
        rw [el] at hj
        repeat walk_at "go"
        refine hQ1 _ _ _ ⟨fun k hk => ?_, some (.int i), rfl⟩
        rcases Nat.lt_succ_iff_lt_or_eq.mp hk with z | z
        · exact hok k z
        · subst z
          unfold gapOk
          rw [List.all_eq_true]
          intro a ha
          rw [List.all_eq_true]
          intro b hb
          obtain ⟨w, hw, rfl⟩ := List.mem_iff_getElem.mp ha
          exact hj w hw hw b hb
  · rintro loc' st' ⟨hok, o, rfl⟩
    repeat walk_at "go"
    refine hQ0 _ _ _ ⟨st, hdrop _, ?_, rfl⟩
    have : noGap r N = true := by
      unfold noGap
      rw [List.all_eq_true]
      exact fun k hk => hok k (List.mem_range.mp hk)
    rw [this]
end
section
variable {C : Cx} {lv : Nat} {sc : Scope} {cel : List (PySem.Str × Addr)} {loc : Locs} {st : St}
set_option pp.deepTerms false
set_option pp.maxSteps 2000
noncomputable def sLt (a b : PySem.Str) : Prop := a.cps.toList < b.cps.toList
inductive Rch (N : PySem.Str → List PySem.Str) (p o a : PySem.Str) : PySem.Str → Prop
  | base : Rch N p o a a
  | step {x s : PySem.Str} : Rch N p o a x → s ∈ N x → ((s ≠ p ∧ s ∉ N p) ∨ s = o) → Rch N p o a s
noncomputable def RingAt (N : PySem.Str → List PySem.Str) (p a b : PySem.Str) : Prop := sLt a b ∧ b ∉ N a ∧ Rch N p b a b
noncomputable def Ring (V : List PySem.Str) (N : PySem.Str → List PySem.Str) : Prop := ∃ p ∈ V, ∃ a ∈ N p, ∃ b ∈ N p, RingAt N p a b
structure WInv (N : PySem.Str → List PySem.Str) (V : List PySem.Str) (p o a : PySem.Str) (met : List PySem.Str) (k : Nat) : Prop where
  nd : met.Nodup
  sub : ∀ x ∈ met, x ∈ V
  top : a ∈ met
  le : k ≤ met.length
  rch : ∀ x ∈ met, Rch N p o a x
  cls : ∀ j (h : j < met.length), j < k → ∀ s ∈ N met[j], ((s ≠ p ∧ s ∉ N p) ∨ s = o) → s ∈ met
theorem WInv.len {N : PySem.Str → List PySem.Str} {V : List PySem.Str} {p o a : PySem.Str} {met : List PySem.Str} {k : Nat} (h : WInv N V p o a met k) : met.length ≤ V.length := List.Nodup.length_le_of_subset h.nd h.sub
theorem WInv.done {N : PySem.Str → List PySem.Str} {V : List PySem.Str} {p o a : PySem.Str} {met : List PySem.Str} (h : WInv N V p o a met met.length) : o ∈ met ↔ Rch N p o a o := by
  refine ⟨h.rch o, fun r => ?_⟩
  have : ∀ x, Rch N p o a x → x ∈ met := by
    intro x r
    induction r with
    | base => exact h.top
    | step r hs hf ih =>
      obtain ⟨j, hj, rfl⟩ := List.mem_iff_getElem.mp ih
      exact h.cls j hj hj _ hs hf
  exact this o r
open Classical in
theorem ring_fn (G : Pg C) (W : PySem.Str) (es : List (PySem.Str × AV)) (N : PySem.Str → List PySem.Str) (hV : (sgs W).length ≤ 6) (hN : DictIs es N (sgs W)) (hc : ∀ x ∈ sgs W, ∀ s ∈ N x, s ∈ sgs W) : Fn C (lv + 1) (.ref 316) [.str W, .dct es] [] st fun y st' => y = .bool (decide (Ring (sgs W) N)) ∧ st' = st := by
  refine' Pg.fn0 G [Str.ofString "word", Str.ofString "own"] [(Str.ofString "word", .str W), (Str.ofString "own", .dct es)] ?ho ?hcd ?hb ?hclo ?hgl ?hbu ?hco ?hgen ?hk ?hok ?hbind ?hloc ?hcn ?hcx _ ?hsc ?h
  walk_at "fn"
  case hbind => exact len2 fun _ _ => rfl
  refine Ex.gen fun Q0 hQ0 => ?_
  repeat walk_at "go"
  refine ⟨_, ItOf.str, fun i l s => Sub [(Str.ofString "word", .str W), (Str.ofString "own", .dct es)] l ∧ (∀ p ∈ (sgs W).take i, ¬ ∃ a ∈ N p, ∃ b ∈ N p, RingAt N p a b) ∧ s = st, ⟨?_, by simp, rfl⟩, ?_, ?_⟩
  · walk_at "sub"
  · rintro i y loc' st' hy ⟨hs, hi, rfl⟩
    rw [signs_sgs] at hy
    obtain ⟨hlt, rfl⟩ := sL_get hy
    generalize hp : (sgs W)[i] = p
    have hpV : p ∈ sgs W := hp ▸ List.getElem_mem _
    refine As.rel hs (As.gen fun Q1 hQ1 => ?_)
    repeat walk_at "go"
    refine Op2.ixD (fun _ _ => rfl) .dct (hN p hpV) ?_
    refine ⟨_, ItOf.lst, fun i l s => Sub [(Str.ofString "word", .str W), (Str.ofString "own", .dct es), (Str.ofString "point", .str p)] l ∧ (∀ a ∈ (N p).take i, ¬ ∃ b ∈ N p, RingAt N p a b) ∧ s = st', ⟨?_, by simp, rfl⟩, ?_, ?_⟩
    · walk_at "sub"
    · rintro j y loc' st' hy ⟨hs, hj, rfl⟩
      obtain ⟨hjl, rfl⟩ := sL_get hy
      generalize ha : (N p)[j] = a
      have haN : a ∈ N p := ha ▸ List.getElem_mem _
      have haV := hc p hpV a haN
      refine As.rel hs (As.gen fun Q2 hQ2 => ?_)
      repeat walk_at "go"
      refine Op2.ixD (fun _ _ => rfl) .dct (hN p hpV) ?_
      refine ⟨_, ItOf.lst, fun i l s => Sub [(Str.ofString "word", .str W), (Str.ofString "own", .dct es), (Str.ofString "point", .str p), (Str.ofString "one", .str a)] l ∧ (∀ b ∈ (N p).take i, ¬ RingAt N p a b) ∧ s = st', ⟨?_, by simp, rfl⟩, ?_, ?_⟩
      · walk_at "sub"
      · rintro m y loc' st' hy ⟨hs, hm, rfl⟩
        obtain ⟨hml, rfl⟩ := sL_get hy
        generalize hb : (N p)[m] = b
        have hbN : b ∈ N p := hb ▸ List.getElem_mem _
        have hbV := hc p hpV b hbN
        have next : ¬ RingAt N p a b → ∀ b ∈ (N p).take (m + 1), ¬ RingAt N p a b := fun hn q hq => by
          rw [List.take_succ_eq_append_getElem hml, hb] at hq
          rcases List.mem_append.mp hq with z | z
          · exact hm q z
          · rw [List.mem_singleton.mp z]; exact hn
        refine As.rel hs (As.gen fun Q3 hQ3 => ?_)
        walk_at "go"
        walk_at "go"
        refine Ex.sub ?_
        walk_at "go"
        walk_at "go"
        refine Tr.mono (Post := fun c s => c = decide (sLt a b ∧ b ∉ N a) ∧ s = st') ?_ ?_
        · repeat walk_at "go"
          refine iteB (fun e => ?_) (fun e => ?_)
          · repeat walk_at "go"
            refine Op2.ixD (fun _ _ => rfl) .dct (hN a haV) ?_
            refine Op2.notInStrs .lst ?_
            repeat walk_at "go"
            refine ⟨?_, rfl⟩
            have e : sLt a b := by simpa [sLt] using e
            rw [any_mem]
            simp [e]
          · refine ⟨?_, rfl⟩
            have e : ¬ sLt a b := by simpa [sLt] using e
            simp [e]
        · rintro c s₀ ⟨rfl, rfl⟩
          refine iteB (fun e => ?_) (fun e => ?_)
          · have e : sLt a b ∧ b ∉ N a := by simpa using e
            walk_at "go"
            walk_at "go"
            refine Ev.lstM rfl ?_
            repeat walk_at "go"
            intro M
            repeat walk_at "go"
            refine Ex1.while (fun n l s => ∃ met k, n = (sgs W).length - k ∧ Sub [(Str.ofString "word", .str W), (Str.ofString "own", .dct es), (Str.ofString "point", .str p), (Str.ofString "one", .str a), (Str.ofString "other", .str b), (Str.ofString "met", .ref M), (Str.ofString "k", .int (k : Nat))] l ∧ WInv N (sgs W) p b a met k ∧ s = (M, .list (sL met)) :: s₀) _ ⟨[a], 0, rfl, ?_, ⟨by simp, by simpa using haV, by simp, Nat.zero_le _, fun x hx => by rw [List.mem_singleton.mp hx]; exact .base, fun j _ h => absurd h (Nat.not_lt_zero _)⟩, rfl⟩ ?_
            · walk_at "sub"
            · rintro n loc' s ⟨met, k, rfl, hs, hw, rfl⟩
              have hlen := hw.len
              refine Tr.rel hs ?_
              repeat walk_at "go"
              refine Cl.lenL (.ref List.mem_cons_self) (by simp [sL]; lia) ?_
              repeat walk_at "go"
              refine iteB (fun e' => ?_) (fun e' => ?_)
              · have hk : k < met.length := by simpa [sL] using e'
                have hmkV := hw.sub _ (List.getElem_mem hk)
                generalize hx : met[k] = x at hmkV
                have hxr : Rch N p b a x := hx ▸ hw.rch _ (List.getElem_mem _)
                refine Ex.rel hs (Ex.gen fun Q4 hQ4 => ?_)
                repeat walk_at "go"
                refine Op2.ixL (fun _ _ => rfl) (by lia) (by lia) (.ref List.mem_cons_self) (y := .str x) ?_ ?_
                · rw [Int.toNat_natCast, sL_at hk, hx]
                refine Op2.ixD (fun _ _ => rfl) .dct (hN x hmkV) ?_
                refine ⟨_, ItOf.lst, fun q l s => ∃ ext, Sub [(Str.ofString "word", .str W), (Str.ofString "own", .dct es), (Str.ofString "point", .str p), (Str.ofString "one", .str a), (Str.ofString "other", .str b), (Str.ofString "met", .ref M), (Str.ofString "k", .int (k : Nat))] l ∧ (met ++ ext).Nodup ∧ (∀ z ∈ met ++ ext, z ∈ sgs W) ∧ (∀ z ∈ met ++ ext, Rch N p b a z) ∧ (∀ z ∈ (N x).take q, ((z ≠ p ∧ z ∉ N p) ∨ z = b) → z ∈ met ++ ext) ∧ s = (M, .list (sL (met ++ ext))) :: s₀, ⟨[], ?_, by simpa using hw.nd, by simpa using hw.sub, by simpa using hw.rch, by simp, by simp⟩, ?_, ?_⟩
                · walk_at "sub"
                · rintro q y loc' s hy ⟨ext, hs, g1, g2, g3, g4, rfl⟩
                  obtain ⟨hq, rfl⟩ := sL_get hy
                  generalize hz : (N x)[q] = z
                  have hzN : z ∈ N x := hz ▸ List.getElem_mem _
                  have hzV := hc x hmkV z hzN
                  have tk : ∀ {L : List PySem.Str}, (∀ w ∈ (N x).take q, ((w ≠ p ∧ w ∉ N p) ∨ w = b) → w ∈ L) → (((z ≠ p ∧ z ∉ N p) ∨ z = b) → z ∈ L) → ∀ w ∈ (N x).take (q + 1), ((w ≠ p ∧ w ∉ N p) ∨ w = b) → w ∈ L := fun h1 h2 w hw => by
                    rw [List.take_succ_eq_append_getElem hq, hz] at hw
                    rcases List.mem_append.mp hw with u | u
                    · exact h1 w u
                    · rw [List.mem_singleton.mp u]; exact h2
                  refine As.rel hs (As.gen fun Q5 hQ5 => ?_)
                  walk_at "go"
                  walk_at "go"
                  walk_at "go"
                  walk_at "go"
                  refine Ev.mono (Post := fun v s => v = .bool (decide (z ≠ p ∧ z ∉ N p)) ∧ s = (M, .list (sL (met ++ ext))) :: s₀) ?_ ?_
                  · repeat walk_at "go"
                    refine iteB (fun e => ?_) (fun e => ?_)
                    · repeat walk_at "go"
                      refine Op2.ixD (fun _ _ => rfl) .dct (hN p hpV) ?_
                      refine Op2.notInStrs .lst ?_
                      refine ⟨?_, rfl⟩
                      have e : z ≠ p := by simpa using e
                      rw [any_mem]
                      simp [e]
                    · refine ⟨?_, rfl⟩
                      have e : z = p := by simpa using e
                      simp [e]
                  · rintro v s ⟨rfl, rfl⟩
                    walk_at "go"
                    walk_at "go"
                    walk_at "go"
                    refine Tr.mono (Post := fun c s => c = decide (((z ≠ p ∧ z ∉ N p) ∨ z = b) ∧ z ∉ met ++ ext) ∧ s = (M, .list (sL (met ++ ext))) :: s₀) ?_ ?_
                    · repeat walk_at "go"
                      refine iteB (fun e => ?_) (fun e => ?_)
                      · have e : z ≠ p ∧ z ∉ N p := by simpa using e
                        repeat walk_at "go"
                        refine Op2.notInStrs (.ref List.mem_cons_self) ?_
                        refine ⟨_, rfl, ?_, rfl⟩
                        rw [any_mem]
                        simp [e]
                      · have e : ¬ (z ≠ p ∧ z ∉ N p) := by simpa using e
                        repeat walk_at "go"
                        refine iteB (fun e2 => ?_) (fun e2 => ?_)
                        · have e2 : z = b := by simpa using e2
                          repeat walk_at "go"
                          refine Op2.notInStrs (.ref List.mem_cons_self) ?_
                          refine ⟨_, rfl, ?_, rfl⟩
                          rw [any_mem]
                          simp [e2]
                        · have e2 : z ≠ b := by simpa using e2
                          refine ⟨?_, rfl⟩
                          have : ¬ (((z ≠ p ∧ z ∉ N p) ∨ z = b) ∧ z ∉ met ++ ext) := fun h => h.1.elim e e2
                          simp only [this, decide_false]
                    · rintro c s ⟨rfl, rfl⟩
                      refine iteB (fun e => ?_) (fun e => ?_)
                      · have e : ((z ≠ p ∧ z ∉ N p) ∨ z = b) ∧ z ∉ met ++ ext := by simpa using e
                        repeat walk_at "go"
                        have g1' : (met ++ (ext ++ [z])).Nodup := by
                          rw [← List.append_assoc]
                          exact List.nodup_append.mpr ⟨g1, by simp, fun u hu v hv e' => e.2 (by rw [← List.mem_singleton.mp hv, ← e']; exact hu)⟩
                        have g2' : ∀ w ∈ met ++ (ext ++ [z]), w ∈ sgs W := fun w hw => by
                          rw [← List.append_assoc] at hw
                          rcases List.mem_append.mp hw with u | u
                          · exact g2 w u
                          · rw [List.mem_singleton.mp u]; exact hzV
                        have hl := List.Nodup.length_le_of_subset g1 g2
                        refine Cl.append .head (Nat.le_trans (by simp only [sL, List.length_map]; lia : _ ≤ 6) (by decide)) ?_
                        repeat walk_at "go"
                        refine hQ5 _ _ _ ⟨ext ++ [z], by walk_at "sub", g1', g2', fun w hw => ?_, tk (fun w h1 h2 => ?_) fun _ => by simp, ?_⟩
                        · rw [← List.append_assoc] at hw
                          rcases List.mem_append.mp hw with u | u
                          · exact g3 w u
                          · rw [List.mem_singleton.mp u]; exact .step hxr hzN e.1
                        · have := g4 w h1 h2
                          rw [← List.append_assoc]
                          exact List.mem_append_left _ this
                        · simp [sL]
                      · have e : ¬ (((z ≠ p ∧ z ∉ N p) ∨ z = b) ∧ z ∉ met ++ ext) := by simpa using e
                        repeat walk_at "go"
                        exact hQ5 _ _ _ ⟨ext, by walk_at "sub", g1, g2, g3, tk g4 fun h => Classical.byContradiction fun n => e ⟨h, n⟩, rfl⟩
                · rintro loc' s ⟨ext, hs, g1, g2, g3, g4, rfl⟩
                  have el : (sL (N x)).length = (N x).length := by simp [sL]
                  rw [el, List.take_length] at g4
                  refine Ex.rel hs ?_
                  repeat walk_at "go"
                  refine hQ4 _ _ _ ⟨(sgs W).length - (k + 1), ?_, met ++ ext, k + 1, rfl, ?_, ⟨g1, g2, List.mem_append_left _ hw.top, ?_, g3, fun j hj hjk s hsN hf => ?_⟩, rfl⟩
                  · lia
                  · walk_at "sub"
                  · rw [List.length_append]; lia
                  · rcases Nat.lt_succ_iff_lt_or_eq.mp hjk with u | u
                    · have hj' : j < met.length := by lia
                      rw [List.getElem_append_left hj'] at hsN
                      exact List.mem_append_left _ (hw.cls j hj' u s hsN hf)
                    · subst u
                      rw [List.getElem_append_left hk, hx] at hsN
                      exact g4 s hsN hf
              · have hk : met.length ≤ k := by simpa [sL] using e'
                have hkl : k = met.length := by have := hw.le; lia
                subst hkl
                refine Ex.rel hs ?_
                repeat walk_at "go"
                refine Op2.inStrs (.ref List.mem_cons_self) ?_
                repeat walk_at "go"
                rw [any_mem]
                refine iteB (fun e2 => ?_) (fun e2 => ?_)
                · have e2 : b ∈ met := by simpa using e2
                  repeat walk_at "go"
                  refine ⟨_, List.sublist_cons_self _ _, hQ3 _ _ _ (hQ2 _ _ _ (hQ1 _ _ _ (hQ0 _ _ _ ⟨?_, rfl⟩)))⟩
                  have : Ring (sgs W) N := ⟨p, hpV, a, haN, b, hbN, e.1, e.2, hw.done.mp e2⟩
                  simp [this]
                · have e2 : b ∉ met := by simpa using e2
                  repeat walk_at "go"
                  refine ⟨_, List.sublist_cons_self _ _, hQ3 _ _ _ ⟨by walk_at "sub", next fun z => e2 (hw.done.mpr z.2.2), rfl⟩⟩
          · have e : ¬ (sLt a b ∧ b ∉ N a) := by simpa using e
            repeat walk_at "go"
            refine ⟨_, List.Sublist.refl _, hQ3 _ _ _ ⟨by walk_at "sub", next fun z => e ⟨z.1, z.2.1⟩, rfl⟩⟩
      · rintro loc' st' ⟨hs, hm, rfl⟩
        have el : (sL (N p)).length = (N p).length := by simp [sL]
        rw [el, List.take_length] at hm
        refine Ex.rel hs ?_
        repeat walk_at "go"
        refine hQ2 _ _ _ ⟨by walk_at "sub", fun q hq => ?_, rfl⟩
        rw [List.take_succ_eq_append_getElem hjl, ha] at hq
        rcases List.mem_append.mp hq with z | z
        · exact hj q z
        · rw [List.mem_singleton.mp z]; rintro ⟨b, hb, h⟩; exact hm b hb h
    · rintro loc' st' ⟨hs, hj, rfl⟩
      have el : (sL (N p)).length = (N p).length := by simp [sL]
      rw [el, List.take_length] at hj
      refine Ex.rel hs ?_
      repeat walk_at "go"
      refine hQ1 _ _ _ ⟨by walk_at "sub", fun q hq => ?_, rfl⟩
      rw [List.take_succ_eq_append_getElem hlt, hp] at hq
      rcases List.mem_append.mp hq with z | z
      · exact hi q z
      · rw [List.mem_singleton.mp z]; rintro ⟨a, ha, h⟩; exact hj a ha h
  · rintro loc' st' ⟨hs, hi, rfl⟩
    have el : (signs W).length = (sgs W).length := by rw [signs_sgs]; simp [sL]
    rw [el, List.take_length] at hi
    repeat walk_at "go"
    refine hQ0 _ _ _ ⟨?_, rfl⟩
    have : ¬ Ring (sgs W) N := by rintro ⟨p, hp, h⟩; exact hi p hp h
    simp [this]
end
section
variable {C : Cx} {lv : Nat} {sc : Scope} {cel : List (PySem.Str × Addr)} {loc : Locs} {st : St}
set_option pp.deepTerms false
set_option pp.maxSteps 2000
noncomputable def markOf (N : PySem.Str → List PySem.Str) (row : List PySem.Str) (s : PySem.Str) : List Int := row.map fun m => if m ∈ N s then 1 else 0
noncomputable def bR (b y : List Int) : List Int := if lgtB y b then y else b
noncomputable def bI (b y : Int) : Int := if y > b then y else b
noncomputable def maxR : List (List Int) → List Int
  | [] => []
  | y :: r => r.foldl bR y
noncomputable def maxN : List Int → Int
  | [] => 0
  | y :: r => r.foldl bI y
noncomputable def pick (lex : Bool) (N : PySem.Str → List PySem.Str) (row left : List PySem.Str) : PySem.Str :=
  if lex then left.getD ((left.map (markOf N row)).idxOf (maxR (left.map (markOf N row)))) ⟨#[]⟩
  else left.getD ((left.map fun s => (markOf N row s).sum).idxOf (maxN (left.map fun s => (markOf N row s).sum))) ⟨#[]⟩
noncomputable def leftOf (V row : List PySem.Str) : List PySem.Str := V.filter fun s => !decide (s ∈ row)
noncomputable def rowTo' (lex : Bool) (V : List PySem.Str) (N : PySem.Str → List PySem.Str) : Nat → List PySem.Str
  | 0 => []
  | n + 1 => rowTo' lex V N n ++ [pick lex N (rowTo' lex V N n) (leftOf V (rowTo' lex V N n))]
theorem fold_rows : ∀ (r : List (List Int)) (y : List Int), (rL r).foldl (bst gR) (.lst (iL y)) = .lst (iL (r.foldl bR y))
  | [], y => rfl
  | z :: r, y => by
    have : bst gR (.lst (iL y)) (.lst (iL z)) = .lst (iL (bR y z)) := by
      have e : gR (.lst (iL z)) (.lst (iL y)) = lgtB z y := by simp [gR, unI_iL]
      unfold bst bR
      rw [e]
      split <;> rfl
    refine (?_ : (rL r).foldl (bst gR) (bst gR (.lst (iL y)) (.lst (iL z))) = _)
    rw [this]
    exact fold_rows r (bR y z)
theorem fold_ints : ∀ (r : List Int) (y : Int), (iL r).foldl (bst gI) (.int y) = .int (r.foldl bI y)
  | [], y => rfl
  | z :: r, y => by
    have : bst gI (.int y) (.int z) = .int (bI y z) := by
      unfold bst bI gI
      by_cases h : z > y <;> simp [h]
    refine (?_ : (iL r).foldl (bst gI) (bst gI (.int y) (.int z)) = _)
    rw [this]
    exact fold_ints r (bI y z)
theorem maxR_mem : ∀ {ms : List (List Int)}, ms ≠ [] → maxR ms ∈ ms
  | y :: r, _ => by
    have : ∀ (r : List (List Int)) (y : List Int) (L : List (List Int)), y ∈ L → (∀ z ∈ r, z ∈ L) → r.foldl bR y ∈ L := by
      intro r
      induction r with
      | nil => intro y L h _; exact h
      | cons z r ih => intro y L h hr; exact ih _ L (by unfold bR; split; exact hr z (.head _); exact h) fun q hq => hr q (.tail _ hq)
    exact this r y (y :: r) (.head _) fun z hz => .tail _ hz
theorem maxN_mem : ∀ {ms : List Int}, ms ≠ [] → maxN ms ∈ ms
  | y :: r, _ => by
    have : ∀ (r : List Int) (y : Int) (L : List Int), y ∈ L → (∀ z ∈ r, z ∈ L) → r.foldl bI y ∈ L := by
      intro r
      induction r with
      | nil => intro y L h _; exact h
      | cons z r ih => intro y L h hr; exact ih _ L (by unfold bI; split; exact hr z (.head _); exact h) fun q hq => hr q (.tail _ hq)
    exact this r y (y :: r) (.head _) fun z hz => .tail _ hz
theorem pick_mem {lex : Bool} {N : PySem.Str → List PySem.Str} {row left : List PySem.Str} (h : left ≠ []) : pick lex N row left ∈ left := by
  unfold pick
  split
  · have hm := maxR_mem (ms := left.map (markOf N row)) (by simpa using h)
    have hi := List.idxOf_lt_length_iff.mpr hm
    rw [List.length_map] at hi
    rw [List.getD_eq_getElem?_getD, List.getElem?_eq_getElem hi]
    exact List.getElem_mem _
  · have hm := maxN_mem (ms := left.map fun s => (markOf N row s).sum) (by simpa using h)
    have hi := List.idxOf_lt_length_iff.mpr hm
    rw [List.length_map] at hi
    rw [List.getD_eq_getElem?_getD, List.getElem?_eq_getElem hi]
    exact List.getElem_mem _
theorem rowTo'_ok {lex : Bool} {V : List PySem.Str} {N : PySem.Str → List PySem.Str} (hV : V.Nodup) : ∀ n ≤ V.length, (rowTo' lex V N n).length = n ∧ (rowTo' lex V N n).Nodup ∧ ∀ x ∈ rowTo' lex V N n, x ∈ V
  | 0, _ => ⟨rfl, List.nodup_nil, fun x hx => by cases hx⟩
  | n + 1, h => by
    refine xe03 (rowTo'_ok (lex := lex) (N := N) hV n (by lia)) fun h1 h2 h3 => ?_
    have hne : leftOf V (rowTo' lex V N n) ≠ [] := fun e => by
      have : ∀ x ∈ V, x ∈ rowTo' lex V N n := fun x hx => Classical.byContradiction fun hn => by
        have : x ∈ leftOf V (rowTo' lex V N n) := List.mem_filter.mpr ⟨hx, by simpa using hn⟩
        rw [e] at this; cases this
      have := List.Nodup.length_le_of_subset hV this
      lia
    have hp := pick_mem (lex := lex) (N := N) (row := rowTo' lex V N n) hne
    have hp' := List.mem_filter.mp hp
    refine ⟨by simp [rowTo', h1], ?_, fun x hx => ?_⟩
    · refine (?_ : (rowTo' lex V N n ++ [_]).Nodup)
      exact List.nodup_append.mpr ⟨h2, by simp, fun a ha b hb e => by
        rw [List.mem_singleton.mp hb] at e
        have := hp'.2
        rw [← e] at this
        simp [ha] at this⟩
    · rcases List.mem_append.mp hx with q | q
      · exact h3 x q
      · rw [List.mem_singleton.mp q]; exact hp'.1
theorem left_ne {lex : Bool} {V : List PySem.Str} {N : PySem.Str → List PySem.Str} (hV : V.Nodup) {n : Nat} (hn : n < V.length) : leftOf V (rowTo' lex V N n) ≠ [] := fun e => by
  refine xe03 (rowTo'_ok (lex := lex) (N := N) hV n (by lia)) fun h1 h2 h3 => ?_
  have : ∀ x ∈ V, x ∈ rowTo' lex V N n := fun x hx => Classical.byContradiction fun hn => by
    have : x ∈ leftOf V (rowTo' lex V N n) := List.mem_filter.mpr ⟨hx, by simpa using hn⟩
    rw [e] at this; cases this
  have := List.Nodup.length_le_of_subset hV this
  lia
theorem marks_fn (G : Pg C) (W : PySem.Str) (es : List (PySem.Str × AV)) (N : PySem.Str → List PySem.Str) (lex : Bool) (hV : (sgs W).Nodup) (h6 : (sgs W).length = 6) (hN : DictIs es N (sgs W)) : Fn C (lv + 1) (.ref 304) [.str W, .dct es, .bool lex] [] st fun y st' => y = .lst (sL (rowTo' lex (sgs W) N 6)) ∧ st' = st := by
  refine Fn.sub ?_
  refine' Pg.fn2 G [Str.ofString "word", Str.ofString "own", Str.ofString "in_order"] [(Str.ofString "word", .str W), (Str.ofString "in_order", .bool lex)] (Str.ofString "row") (Str.ofString "own") none (some (.dct es)) ?ho ?hcd ?hb ?hclo ?hgl ?hbu ?hco ?hgen ?hk ?hok ?hbind ?hloc ?hcn ?hcx _ ?hsc ?h
  walk_at "fn"
  case hbind => exact len3 fun _ _ _ => rfl
  intro ar ao
  refine Ex.gen fun Q0 hQ0 => ?_
  walk_at "go"
  walk_at "go"
  refine Ev.lstM rfl ?_
  repeat walk_at "go"
  intro R
  repeat walk_at "go"
  refine Ex1.while (fun n l s => ∃ k, k ≤ 6 ∧ n = 6 - k ∧ Sub [(Str.ofString "word", .str W), (Str.ofString "in_order", .bool lex)] l ∧ s = (R, .list (sL (rowTo' lex (sgs W) N k))) :: (ar, .cell (some (.ref R))) :: (ao, .cell (some (.dct es))) :: st) 6 ⟨0, Nat.zero_le _, rfl, ?_, rfl⟩ ?_
  · walk_at "sub"
  · rintro n loc' s ⟨k, hk6, rfl, hs, rfl⟩
    refine xe03 (rowTo'_ok (lex := lex) (N := N) hV k (by lia)) fun r1 r2 r3 => ?_
    generalize hrow : rowTo' lex (sgs W) N k = row
    rw [hrow] at r1 r2 r3
    refine Tr.rel hs ?_
    repeat walk_at "go"
    refine Cl.lenL (.ref List.mem_cons_self) (by simp [sL]; lia) ?_
    repeat walk_at "go"
    refine iteB (fun e => ?_) (fun e => ?_)
    · have hk : k < 6 := by have := of_decide_eq_true e; simp [sL] at this; lia
      have hne := left_ne (lex := lex) (N := N) hV (n := k) (by lia)
      rw [hrow] at hne
      generalize hleft : leftOf (sgs W) row = left
      rw [hleft] at hne
      have hll : left.length ≤ 6 := by rw [← hleft, ← h6]; exact List.length_filter_le _ _
      have hlV : ∀ x ∈ left, x ∈ sgs W := fun x hx => by rw [← hleft] at hx; exact (List.mem_filter.mp hx).1
      refine Ex.rel hs (Ex.gen fun Q1 hQ1 => ?_)
      walk_at "go"
      refine Ex1.lcomp' (by walk_at "sw") rfl rfl (fun _ _ => rfl) _ rfl ?_
      refine CompIn.l0 rfl (asS fun s => if s ∈ row then none else some (.str s)) ?_
      repeat walk_at "go"
      refine ⟨_, ItOf.str, ?_, fun y hy D xs loc' => ?_, ?_⟩
      · rw [signs_sgs]; exact Nat.le_trans (by simp [sL]; lia : _ ≤ 6) (by decide)
      · rw [signs_sgs] at hy
        refine xe12 (List.mem_map.mp hy) fun s hs qe0 => ?_; subst qe0
        repeat walk_at "go"
        refine Op2.notInStrs (.ref (by walk_at "mem")) ?_
        repeat walk_at "go"
        rw [any_mem]
        refine iteB (fun e => ?_) (fun e => ?_)
        · repeat walk_at "go"
          exact ⟨if_neg (by simpa using e), rfl⟩
        · exact ⟨if_pos (by simpa using e), rfl⟩
      · have eF : (signs W).filterMap (asS fun s => if s ∈ row then none else some (.str s)) = sL left := by
          rw [signs_sgs, ← hleft]
          unfold sL leftOf
          rw [List.filterMap_map]
          induction sgs W with
          | nil => rfl
          | cons a q ih =>
            by_cases e : a ∈ row
            · simp [asS_e, e, ih]
            · simp [asS_e, e, ih]
        rw [eF]
        repeat walk_at "go"
        refine Ex1.lcomp' (by walk_at "sw") rfl rfl (fun _ _ => rfl) _ rfl ?_
        refine CompIn.l1 (Str.ofString "sign") rfl (asS fun s => some (.lst (iL (markOf N row s)))) ?_
        repeat walk_at "go"
        refine ⟨_, ItOf.lst, ?_, fun y hy D a o xs loc' => ?_, ?_⟩
        · exact Nat.le_trans (by simp [sL]; lia : _ ≤ 6) (by decide)
        · refine xe12 (List.mem_map.mp hy) fun s hs qe0 => ?_; subst qe0
          repeat walk_at "go"
          refine Ev.lcomp' rfl (fun _ _ => rfl) _ rfl ?_
          refine CompIn.l0M rfl (asS fun m => some (.int (if m ∈ N s then 1 else 0))) ?_
          repeat walk_at "go"
          refine ⟨_, _, rfl, by walk_at "mem", ?_, fun y hy D₂ xs₂ loc₂ => ?_, ?_⟩
          · exact Nat.le_trans (by simp [sL]; lia : _ ≤ 6) (by decide)
          · refine xe12 (List.mem_map.mp hy) fun m hm qe0 => ?_; subst qe0
            repeat walk_at "go"
            refine Op2.ixD (fun _ _ => rfl) .dct (hN s (hlV s hs)) ?_
            refine Op2.inStrs .lst ?_
            repeat walk_at "go"
            rw [any_mem]
            refine iteB (fun e => ?_) (fun e => ?_)
            · repeat walk_at "go"
              refine ⟨?_, rfl⟩
              have e : m ∈ N s := by simpa using e
              simp [asS_e, e]
            · repeat walk_at "go"
              refine ⟨?_, rfl⟩
              have e : m ∉ N s := by simpa using e
              simp [asS_e, e]
          · refine ⟨?_, rfl⟩
            refine (?_ : some _ = some _)
            congr 2
            unfold markOf iL sL
            rw [List.filterMap_map, List.map_map]
            induction row with
            | nil => rfl
            | cons a q ih => simp [Function.comp_def, asS_e]
        · have eM : (sL left).filterMap (asS fun s => some (.lst (iL (markOf N row s)))) = rL (left.map (markOf N row)) := by
            unfold sL rL
            rw [List.filterMap_map, List.map_map]
            induction left with
            | nil => rfl
            | cons a q ih => simp [Function.comp_def, asS_e]
          rw [eM]
          have hmlen : ∀ r ∈ left.map (markOf N row), r.length = row.length := fun r hr => by
            refine xe12 (List.mem_map.mp hr) fun s _ qe0 => ?_; subst qe0
            simp [markOf]
          have hmne : left.map (markOf N row) ≠ [] := by simpa using hne
          have hrow1 : row.length ≤ 6 := by lia
          repeat walk_at "go"
          cases lex with
          | false =>
            refine iteT ?_
            walk_at "go"
            refine Ex1.lcomp' (by walk_at "sw") rfl rfl (fun _ _ => rfl) _ rfl ?_
            refine CompIn.l0 rfl (asL fun xs => some (.int (unI xs).sum)) ?_
            repeat walk_at "go"
            refine ⟨_, ItOf.lst, ?_, fun y hy D xs loc' => ?_, ?_⟩
            · exact Nat.le_trans (by simp [rL]; lia : _ ≤ 6) (by decide)
            · refine xe12 (List.mem_map.mp hy) fun r hr qe0 => ?_; subst qe0
              repeat walk_at "go"
              refine Cl.sum ItO.lst ?_
              exact ⟨by rw [asL_e, unI_iL], rfl⟩
            · have eS : (rL (left.map (markOf N row))).filterMap (asL fun xs => some (.int (unI xs).sum)) = iL (left.map fun s => (markOf N row s).sum) := by
                unfold rL iL
                rw [List.filterMap_map, List.map_map, List.filterMap_map]
                have hu : ∀ l : List Int, unI (l.map AV.int) = l := unI_iL
                induction left with
                | nil => rfl
                | cons a q ih => simp [Function.comp_def, asL_e, hu, iL]
              rw [eS]
              repeat walk_at "go"
              have hnne : (left.map fun s => (markOf N row s).sum) ≠ [] := by simpa using hne
              refine xe21 (List.exists_cons_of_ne_nil hnne : ∃ y0 rest, (left.map fun s => (markOf N row s).sum) = y0 :: rest) fun y0 rest hy => ?_
              have hmx : (iL rest).foldl (bst gI) (.int y0) = .int (maxN (left.map fun s => (markOf N row s).sum)) := by rw [fold_ints, hy]; rfl
              have hiy : iL (left.map fun s => (markOf N row s).sum) = .int y0 :: iL rest := by rw [hy]; rfl
              refine Cl.max (y0 := .int y0) (rest := iL rest) (g := gI) (by rw [hiy]; exact ItO.lst) (by have := Gt.ints (C := C) (st := (R, AO.list (sL row)) :: (ar, AO.cell (some (AV.ref R))) :: (ao, AO.cell (some (AV.dct es))) :: st) (ns := y0 :: rest); exact this) ?_
              rw [hmx]
              repeat walk_at "go"
              refine Cl.indexI .lst (maxN_mem hnne) (by simp; lia) ?_
              have hm := maxN_mem hnne
              have hi := List.idxOf_lt_length_iff.mpr hm
              rw [List.length_map] at hi
              refine Op2.ixL (fun _ _ => rfl) (by lia) (by lia) .lst (y := .str (pick false N row left)) ?_ ?_
              · rw [Int.toNat_natCast, sL_at hi]
                simp [pick, List.getD, hi]
              · repeat walk_at "go"
                refine Cl.append .head (Nat.le_trans (by simp [sL]; lia : _ ≤ 6) (by decide)) ?_
                repeat walk_at "go"
                refine hQ1 _ _ _ ?_
                refine ⟨6 - (k + 1), by lia, k + 1, by lia, rfl, by walk_at "sub", ?_⟩
                have : rowTo' false (sgs W) N (k + 1) = row ++ [pick false N row left] := by
                  refine (?_ : rowTo' _ _ _ _ ++ [_] = _)
                  rw [hrow, hleft]
                rw [this]
                simp [sL]
          | true =>
            refine iteF ?_
            repeat walk_at "go"
            refine xe21 (List.exists_cons_of_ne_nil hmne : ∃ y0 rest, left.map (markOf N row) = y0 :: rest) fun y0 rest hy => ?_
            have hmx : (rL rest).foldl (bst gR) (.lst (iL y0)) = .lst (iL (maxR (left.map (markOf N row)))) := by rw [fold_rows, hy]; rfl
            have hiy : rL (left.map (markOf N row)) = .lst (iL y0) :: rL rest := by rw [hy]; rfl
            refine Cl.max (y0 := .lst (iL y0)) (rest := rL rest) (g := gR) (by rw [hiy]; exact ItO.lst) (by rw [hy] at hmlen; have := Gt.rows (C := C) (st := (R, AO.list (sL row)) :: (ar, AO.cell (some (AV.ref R))) :: (ao, AO.cell (some (AV.dct es))) :: st) (rows := y0 :: rest) hmlen; exact this) ?_
            rw [hmx]
            repeat walk_at "go"
            refine Cl.indexR .lst (maxR_mem hmne) (by simp; lia) ?_
            have hm := maxR_mem hmne
            have hi := List.idxOf_lt_length_iff.mpr hm
            rw [List.length_map] at hi
            refine Op2.ixL (fun _ _ => rfl) (by lia) (by lia) .lst (y := .str (pick true N row left)) ?_ ?_
            · rw [Int.toNat_natCast, sL_at hi]
              simp [pick, List.getD, hi]
            · repeat walk_at "go"
              refine Cl.append .head (Nat.le_trans (by simp [sL]; lia : _ ≤ 6) (by decide)) ?_
              repeat walk_at "go"
              refine hQ1 _ _ _ ?_
              refine ⟨6 - (k + 1), by lia, k + 1, by lia, rfl, by walk_at "sub", ?_⟩
              have : rowTo' true (sgs W) N (k + 1) = row ++ [pick true N row left] := by
                refine (?_ : rowTo' _ _ _ _ ++ [_] = _)
                rw [hrow, hleft]
              rw [this]
              simp [sL]
    · have hk : k = 6 := by have := of_decide_eq_false e; simp [sL] at this; lia
      subst hk
      refine Ex.rel hs ?_
      walk_at "go"
      walk_at "go"
      refine Ev.frz ?_
      walk_at "go"
      refine ⟨_, _, _, rfl, .head, hQ0 _ _ _ ?_⟩
      refine ⟨st, (List.sublist_cons_self _ _).trans (List.sublist_cons_self _ _), ?_, rfl⟩
      rw [hrow]
end
section
variable {C : Cx} {lv : Nat} {sc : Scope} {cel : List (PySem.Str × Addr)} {loc : Locs} {st : St}
set_option pp.deepTerms false
set_option pp.maxSteps 2000
noncomputable abbrev Pr := Int × Int
noncomputable def gt' (l : List Pr) (i : Nat) : Pr := l.getD i (0, 0)
noncomputable def sdn (x : Pr) (start : Nat) : Nat → List Pr → Nat → List Pr
  | 0, l, pos => l.set pos x
  | f + 1, l, pos => if pos > start then (if pltB x (gt' l ((pos - 1) / 2)) then sdn x start f (l.set pos (gt' l ((pos - 1) / 2))) ((pos - 1) / 2) else l.set pos x) else l.set pos x
theorem pL_get {l : List Pr} {i : Nat} (h : i < l.length) : (pL l)[i]? = some (.tup [.int (gt' l i).1, .int (gt' l i).2]) := by
  unfold pL gt'
  simp [h, List.getD]
theorem pL_set (l : List Pr) (i : Nat) (x : Pr) : (pL l).set i (.tup [.int x.1, .int x.2]) = pL (l.set i x) := by
  unfold pL
  rw [← List.map_set]
theorem pL_len (l : List Pr) : (pL l).length = l.length := by simp [pL]
theorem shr1 {p : Nat} (h : 0 < p) : ((p : Int) - 1).fdiv (2 ^ (1 : Int).toNat) = ((p - 1) / 2 : Nat) := by
  have : ((p : Int) - 1) = ((p - 1 : Nat) : Int) := by lia
  rw [this]
  refine (?_ : Int.fdiv _ 2 = _)
  rw [Int.fdiv_eq_ediv_of_nonneg _ (by decide)]
  lia
theorem siftdown_fn (G : Pg C) {H : Addr} {l : List Pr} {start pos : Nat} (hm : (H, AO.list (pL l)) ∈ st) (hp : pos < l.length) (hl : l.length ≤ 1000) :
    Fn C (lv + 1) (.ref 66) [.ref H, .int start, .int pos] [] st fun y st' => y = .none ∧ Upd st H (.list (pL l)) (.list (pL (sdn (gt' l pos) start pos l pos))) st' := by
  refine' Pg.fn0 G [Str.ofString "heap", Str.ofString "startpos", Str.ofString "pos"] [(Str.ofString "heap", .ref H), (Str.ofString "startpos", .int start), (Str.ofString "pos", .int pos)] ?ho ?hcd ?hb ?hclo ?hgl ?hbu ?hco ?hgen ?hk ?hok ?hbind ?hloc ?hcn ?hcx _ ?hsc ?h
  walk_at "fn"
  case hbind => exact len3 fun _ _ _ => rfl
  refine Ex.gen fun Q0 hQ0 => ?_
  repeat walk_at "go"
  refine Op2.ixL (fun _ _ => rfl) (by lia) (by lia) (.ref hm) (by rw [Int.toNat_natCast]; exact pL_get hp) ?_
  generalize hx : gt' l pos = x at hQ0 ⊢
  repeat walk_at "go"
  refine Ex1.while (fun n l₂ s => ∃ l' p f, n = p ∧ p < l.length ∧ l'.length = l.length ∧ p ≤ f ∧ sdn x start f l' p = sdn x start pos l pos ∧ Sub [(Str.ofString "heap", .ref H), (Str.ofString "startpos", .int start), (Str.ofString "pos", .int (p : Nat)), (Str.ofString "newitem", .tup [.int x.1, .int x.2])] l₂ ∧ Upd st H (.list (pL l)) (.list (pL l')) s) pos ⟨l, pos, pos, rfl, hp, rfl, Nat.le_refl _, rfl, ?_, .same hm⟩ ?_
  · walk_at "sub"
  · rintro n loc' s ⟨l', p, f, rfl, hpl, hll, hpf, heq, hsub, hu⟩
    refine Tr.rel hsub ?_
    repeat walk_at "go"
    refine iteB (fun e => ?_) (fun e => ?_)
    · have e : start < n := by have := of_decide_eq_true e; lia
      refine xe11 (⟨f - 1, by lia⟩ : ∃ g, f = g + 1) fun f qe0 => ?_; subst qe0
      have hpp : (n - 1) / 2 < l'.length := by lia
      rw [sdn, if_pos e] at heq
      refine Ex.rel hsub (Ex.gen fun Q1 hQ1 => ?_)
      repeat walk_at "go"
      refine Op2.shrI (by decide) ?_
      rw [shr1 (by lia)]
      repeat walk_at "go"
      refine Op2.ixL (fun _ _ => rfl) (by lia) (by lia) (.ref hu.mem2) (by rw [Int.toNat_natCast]; exact pL_get hpp) ?_
      repeat walk_at "go"
      refine iteB (fun e2 => ?_) (fun e2 => ?_)
      · have e2 : pltB x (gt' l' ((n - 1) / 2)) = true := e2
        rw [if_pos e2] at heq
        refine xe12 (hu.again (.list ((pL l').set n (.tup [.int (gt' l' ((n - 1) / 2)).1, .int (gt' l' ((n - 1) / 2)).2])))) fun s1 u1 u2 => ?_
        repeat walk_at "go"
        refine Op3.setL (by lia) (by lia) (by rw [pL_len]; lia) u1 ?_
        repeat walk_at "go"
        refine hQ1 _ _ _ ?_
        refine ⟨(n - 1) / 2, by lia, l'.set n (gt' l' ((n - 1) / 2)), (n - 1) / 2, f, rfl, by lia, by rw [List.length_set]; exact hll, by lia, heq, by walk_at "sub", ?_⟩
        rw [← pL_set]
        exact u2
      · have e2 : pltB x (gt' l' ((n - 1) / 2)) = false := e2
        rw [if_neg (by rw [e2]; simp)] at heq
        refine xe12 (hu.again (.list ((pL l').set n (.tup [.int x.1, .int x.2])))) fun s1 u1 u2 => ?_
        repeat walk_at "go"
        refine hQ1 _ _ _ ?_
        repeat walk_at "go"
        refine Op3.setL (by lia) (by lia) (by rw [pL_len]; lia) u1 ?_
        repeat walk_at "go"
        refine hQ0 _ _ _ ⟨rfl, ?_⟩
        rw [← heq, ← pL_set]
        exact u2
    · have e : ¬ start < n := by have := of_decide_eq_false e; lia
      have heq' : l'.set n x = sdn x start pos l pos := by
        rw [← heq]
        cases f with
        | zero => rfl
        | succ f => rw [sdn, if_neg e]
      refine xe12 (hu.again (.list ((pL l').set n (.tup [.int x.1, .int x.2])))) fun s1 u1 u2 => ?_
      refine Ex.rel hsub ?_
      repeat walk_at "go"
      refine Op3.setL (by lia) (by lia) (by rw [pL_len]; lia) u1 ?_
      repeat walk_at "go"
      refine hQ0 _ _ _ ⟨rfl, ?_⟩
      rw [← heq', ← pL_set]
      exact u2
noncomputable def supC (l : List Pr) (p : Nat) : Nat := if 2 * p + 2 < l.length ∧ pltB (gt' l (2 * p + 1)) (gt' l (2 * p + 2)) = false then 2 * p + 2 else 2 * p + 1
noncomputable def sup : Nat → List Pr → Nat → List Pr × Nat
  | 0, l, p => (l, p)
  | f + 1, l, p => if 2 * p + 1 < l.length then sup f (l.set p (gt' l (supC l p))) (supC l p) else (l, p)
noncomputable def siftup (l : List Pr) (p : Nat) : List Pr :=
  sdn (gt' l p) p (sup l.length l p).2 ((sup l.length l p).1.set (sup l.length l p).2 (gt' l p)) (sup l.length l p).2
theorem siftup_fn (G : Pg C) {H : Addr} {l : List Pr} {pos : Nat} (hm : (H, AO.list (pL l)) ∈ st) (hp : pos < l.length) (hl : l.length ≤ 1000) :
    Fn C (lv + 2) (.ref 73) [.ref H, .int pos] [] st fun y st' => y = .none ∧ Upd st H (.list (pL l)) (.list (pL (siftup l pos))) st' := by
  refine Fn.nd fun nd => ?_
  refine' Pg.fn0 G [Str.ofString "heap", Str.ofString "pos"] [(Str.ofString "heap", .ref H), (Str.ofString "pos", .int pos)] ?ho ?hcd ?hb ?hclo ?hgl ?hbu ?hco ?hgen ?hk ?hok ?hbind ?hloc ?hcn ?hcx _ ?hsc ?h
  walk_at "fn"
  case hbind => exact len2 fun _ _ => rfl
  refine Ex.gen fun Q0 hQ0 => ?_
  repeat walk_at "go"
  refine Cl.lenL (.ref hm) (by rw [pL_len]; lia) ?_
  rw [pL_len]
  repeat walk_at "go"
  refine Op2.ixL (fun _ _ => rfl) (by lia) (by lia) (.ref hm) (by rw [Int.toNat_natCast]; exact pL_get hp) ?_
  generalize hx : gt' l pos = x
  repeat walk_at "go"
  refine Ex1.while (fun n l₂ s => ∃ l' p f, n = l.length - p ∧ p < l.length ∧ l'.length = l.length ∧ l.length - p ≤ f ∧ sup f l' p = sup l.length l pos ∧ Sub [(Str.ofString "heap", .ref H), (Str.ofString "endpos", .int (l.length : Nat)), (Str.ofString "startpos", .int (pos : Nat)), (Str.ofString "newitem", .tup [.int x.1, .int x.2]), (Str.ofString "pos", .int (p : Nat)), (Str.ofString "childpos", .int (2 * (p : Nat) + 1))] l₂ ∧ Upd st H (.list (pL l)) (.list (pL l')) s) (l.length - pos) ⟨l, pos, l.length, rfl, hp, rfl, Nat.sub_le _ _, rfl, ?_, .same hm⟩ ?_
  · walk_at "sub"
  · rintro n loc' s ⟨l', p, f, rfl, hpl, hll, hpf, heq, hsub, hu⟩
    refine Tr.rel hsub ?_
    repeat walk_at "go"
    refine iteB (fun e => ?_) (fun e => ?_)
    · have e : 2 * p + 1 < l'.length := by have := of_decide_eq_true e; lia
      refine xe11 (⟨f - 1, by lia⟩ : ∃ g, f = g + 1) fun f qe0 => ?_; subst qe0
      rw [sup, if_pos e] at heq
      have hc : supC l' p = 2 * p + 1 ∨ (supC l' p = 2 * p + 2 ∧ 2 * p + 2 < l'.length) := by unfold supC; split <;> lia
      have hcl : supC l' p < l'.length := by lia
      have hcp : p < supC l' p := by lia
      refine Ex.rel hsub (Ex.gen fun Q1 hQ1 => ?_)
      iterate 8 walk_at "go"
      refine Ex1.mono (Post := fun fl l₂ s' => fl = .next ∧ Sub [(Str.ofString "heap", .ref H), (Str.ofString "endpos", .int (l.length : Nat)), (Str.ofString "startpos", .int (pos : Nat)), (Str.ofString "newitem", .tup [.int x.1, .int x.2]), (Str.ofString "pos", .int (p : Nat)), (Str.ofString "childpos", .int (supC l' p : Nat))] l₂ ∧ s' = s) ?_ ?_
      · walk_at "go"
        refine Tr.mono (Post := fun c s' => c = decide (2 * p + 2 < l'.length ∧ pltB (gt' l' (2 * p + 1)) (gt' l' (2 * p + 2)) = false) ∧ s' = s) ?_ ?_
        · repeat walk_at "go"
          refine iteB (fun e3 => ?_) (fun e3 => ?_)
          · have e3 : 2 * p + 2 < l'.length := by have := of_decide_eq_true e3; lia
            repeat walk_at "go"
            refine Op2.ixL (fun _ _ => rfl) (by lia) (by lia) (.ref hu.mem2) (by rw [show (2 * (p : Int) + 1).toNat = 2 * p + 1 by lia]; exact pL_get (by lia)) ?_
            repeat walk_at "go"
            refine Op2.ixL (fun _ _ => rfl) (by lia) (by lia) (.ref hu.mem2) (by rw [show (2 * (p : Int) + 1 + 1).toNat = 2 * p + 2 by lia]; exact pL_get e3) ?_
            repeat walk_at "go"
            refine ⟨?_, rfl⟩
            simp [e3]
          · have e3 : ¬ 2 * p + 2 < l'.length := by have := of_decide_eq_false e3; lia
            exact ⟨by simp [e3], rfl⟩
        · rintro c s' ⟨rfl, rfl⟩
          refine iteB (fun e3 => ?_) (fun e3 => ?_)
          · have hcc : supC l' p = 2 * p + 2 := if_pos (of_decide_eq_true e3)
            repeat walk_at "go"
            refine ⟨rfl, ?_, rfl⟩
            rw [hcc, show ((2 * p + 2 : Nat) : Int) = 2 * (p : Int) + 1 + 1 by lia]
            walk_at "sub"
          · have hcc : supC l' p = 2 * p + 1 := if_neg (of_decide_eq_false e3)
            repeat walk_at "go"
            refine ⟨rfl, ?_, rfl⟩
            rw [hcc, show ((2 * p + 1 : Nat) : Int) = 2 * (p : Int) + 1 by lia]
            walk_at "sub"
      · rintro fl l₂ s' ⟨rfl, hs2, rfl⟩
        generalize hq : supC l' p = q at *
        refine xe12 (hu.again (.list ((pL l').set p (.tup [.int (gt' l' q).1, .int (gt' l' q).2])))) fun s1 u1 u2 => ?_
        refine Ex.rel hs2 ?_
        repeat walk_at "go"
        refine Op2.ixL (fun _ _ => rfl) (by lia) (by lia) (.ref hu.mem2) (by rw [Int.toNat_natCast]; exact pL_get hcl) ?_
        repeat walk_at "go"
        refine Op3.setL (by lia) (by lia) (by rw [pL_len]; lia) u1 ?_
        repeat walk_at "go"
        refine hQ1 _ _ _ ?_
        refine ⟨l.length - q, by lia, _, q, f, rfl, by lia, by rw [List.length_set]; exact hll, by lia, heq, by walk_at "sub", ?_⟩
        rw [pL_set] at u2
        exact u2
    · have e : ¬ 2 * p + 1 < l'.length := by have := of_decide_eq_false e; lia
      have hs' : sup l.length l pos = (l', p) := by
        rw [← heq]
        cases f with
        | zero => rfl
        | succ f => rw [sup, if_neg e]
      refine xe12 (hu.again (.list ((pL l').set p (.tup [.int x.1, .int x.2])))) fun s1 u1 u2 => ?_
      refine Ex.rel hsub ?_
      repeat walk_at "go"
      refine Op3.setL (by lia) (by lia) (by rw [pL_len]; lia) u1 ?_
      rw [pL_set] at u2
      repeat walk_at "go"
      refine Fn.kV (siftdown_fn G (start := pos) (pos := p) u2.mem2 (by rw [List.length_set]; lia) (by rw [List.length_set]; lia)) fun s2 u3 => ?_
      repeat walk_at "go"
      refine hQ0 _ _ _ ⟨rfl, ?_⟩
      have hg : gt' (l'.set p x) p = x := by unfold gt'; simp [List.getD, hll ▸ hpl]
      rw [hg] at u3
      have : siftup l pos = sdn x pos p (l'.set p x) p := by unfold siftup; rw [hs', hx]
      rw [this]
      exact u2.nm u3 nd
end
section
variable {C : Cx} {lv : Nat} {sc : Scope} {cel : List (PySem.Str × Addr)} {loc : Locs} {st : St}
set_option pp.deepTerms false
set_option pp.maxSteps 2000
noncomputable def pushL (l : List Pr) (x : Pr) : List Pr := sdn x 0 l.length (l ++ [x]) l.length
theorem heappush_fn (G : Pg C) {H : Addr} {l : List Pr} {x : Pr} (hm : (H, AO.list (pL l)) ∈ st) (hl : l.length < 1000) :
    Fn C (lv + 2) (.ref 45) [.ref H, .tup [.int x.1, .int x.2]] [] st fun y st' => y = .none ∧ Upd st H (.list (pL l)) (.list (pL (pushL l x))) st' := by
  refine Fn.nd fun nd => ?_
  refine' Pg.fn0 G [Str.ofString "heap", Str.ofString "item"] [(Str.ofString "heap", .ref H), (Str.ofString "item", .tup [.int x.1, .int x.2])] ?ho ?hcd ?hb ?hclo ?hgl ?hbu ?hco ?hgen ?hk ?hok ?hbind ?hloc ?hcn ?hcx _ ?hsc ?h
  walk_at "fn"
  case hbind => exact len2 fun _ _ => rfl
  walk_at "go"
  walk_at "go"
  walk_at "go"
  walk_at "go"
  refine ⟨_, _, Mt.list PySem.F.slot_list_append PySem.F.type_list_append (.ref hm), ?_⟩
  repeat walk_at "go"
  refine xe11 (Upd.of_mem hm (.list (pL l ++ [.tup [.int x.1, .int x.2]]))) fun s1 u1 => ?_
  refine Cl.append u1 (Nat.le_trans (by rw [pL_len]; lia : _ ≤ 1000) (by decide)) ?_
  have e1 : pL l ++ [.tup [.int x.1, .int x.2]] = pL (l ++ [x]) := by simp [pL]
  rw [e1] at u1
  repeat walk_at "go"
  refine Cl.lenL (.ref u1.mem2) (by rw [pL_len]; simp; lia) ?_
  repeat walk_at "go"
  have e2 : ((pL (l ++ [x])).length : Int) - 1 = (l.length : Nat) := by rw [pL_len]; simp
  rw [e2]
  refine (Fn.mono (siftdown_fn G (start := 0) (pos := l.length) u1.mem2 (by simp) (by simp; lia)) fun y s2 hq => xe02 hq fun e1 u3 => ?_).cl
  subst e1
  repeat walk_at "go"
  refine ⟨rfl, ?_⟩
  have hg : gt' (l ++ [x]) l.length = x := by unfold gt'; simp [List.getD]
  rw [hg] at u3
  exact u1.nm u3 nd
noncomputable def popL (l : List Pr) : Pr × List Pr := if l.dropLast = [] then (gt' l (l.length - 1), []) else (gt' l.dropLast 0, siftup (l.dropLast.set 0 (gt' l (l.length - 1))) 0)
theorem heappop_fn (G : Pg C) {H : Addr} {l : List Pr} (hm : (H, AO.list (pL l)) ∈ st) (hne : l ≠ []) (hl : l.length < 1000) :
    Fn C (lv + 3) (.ref 52) [.ref H] [] st fun y st' => y = .tup [.int (popL l).1.1, .int (popL l).1.2] ∧ Upd st H (.list (pL l)) (.list (pL (popL l).2)) st' := by
  refine Fn.nd fun nd => ?_
  refine' Pg.fn0 G [Str.ofString "heap"] [(Str.ofString "heap", .ref H)] ?ho ?hcd ?hb ?hclo ?hgl ?hbu ?hco ?hgen ?hk ?hok ?hbind ?hloc ?hcn ?hcx _ ?hsc ?h
  walk_at "fn"
  case hbind => exact len1 fun _ => rfl
  refine xe21 (⟨l.dropLast, l.getLast hne, (List.dropLast_concat_getLast hne).symm⟩ : ∃ i z, l = i ++ [z]) fun i z qe0 => ?_; subst qe0
  have hgz : gt' (i ++ [z]) ((i ++ [z]).length - 1) = z := by unfold gt'; simp [List.getD]
  have hdl : (i ++ [z]).dropLast = i := by simp
  have e1 : pL (i ++ [z]) = pL i ++ [.tup [.int z.1, .int z.2]] := by simp [pL]
  walk_at "go"
  walk_at "go"
  walk_at "go"
  walk_at "go"
  refine ⟨_, _, Mt.list PySem.F.slot_list_pop PySem.F.type_list_pop (.ref hm), ?_⟩
  repeat walk_at "go"
  rw [e1] at hm ⊢
  refine xe11 (Upd.of_mem hm (.list (pL i))) fun s1 u1 => ?_
  have hil : i.length < 1000 := by simp at hl; lia
  refine Cl.pop u1 (Nat.lt_of_lt_of_le (by rw [pL_len]; exact hil : _ < 1000) (by decide)) ?_
  repeat walk_at "go"
  refine ⟨_, truL (.ref u1.mem2) (by rw [pL_len]; lia), ?_⟩
  refine iteB (fun e => ?_) (fun e => ?_)
  · have hi0 : i ≠ [] := by rintro rfl; simp [pL] at e
    have hi1 : 0 < i.length := List.length_pos_iff.mpr hi0
    refine xe12 (u1.again (.list ((pL i).set 0 (.tup [.int z.1, .int z.2])))) fun s2 u2 u3 => ?_
    repeat walk_at "go"
    refine Op2.ixL (fun _ _ => rfl) (by decide) (by decide) (.ref u1.mem2) (pL_get hi1) ?_
    repeat walk_at "go"
    refine Op3.setL (by decide) (by decide) (by rw [pL_len]; lia) u2 ?_
    rw [pL_set] at u3
    repeat walk_at "go"
    refine (Fn.mono (siftup_fn G (pos := 0) u3.mem2 (by rw [List.length_set]; exact hi1) (by rw [List.length_set]; lia)) fun y s3 hq => xe02 hq fun e1 u4 => ?_).cl
    subst e1
    repeat walk_at "go"
    have hp : popL (i ++ [z]) = (gt' i 0, siftup (i.set 0 z) 0) := by unfold popL; rw [hdl, if_neg hi0, hgz]
    rw [hp]
    exact ⟨rfl, u3.nm u4 nd⟩
  · have hi0 : i = [] := by
      cases i with
      | nil => rfl
      | cons a r => simp [pL] at e
    subst hi0
    repeat walk_at "go"
    have hp : popL ([] ++ [z]) = (z, []) := by unfold popL; rw [hdl, if_pos rfl, hgz]
    rw [hp]
    exact ⟨rfl, u1⟩
end
section
variable {C : Cx} {lv : Nat} {sc : Scope} {cel : List (PySem.Str × Addr)} {loc : Locs} {st : St}
set_option pp.deepTerms false
set_option pp.maxSteps 2000
theorem wk_walks {I : Addr} {ys : List AV} {Pi : Nat → Value → Prop} {Si : Nat → Heap → Prop} (hW : ∀ A' : Around, A'.handled = none → Walks C.prog C.w A' I [I] [I] ys.length Pi Si) (hPi : ∀ (P : PM) j u, Pi j u → j < ys.length → ∃ y, ys[j]? = some y ∧ VRep C P y u)
    (hcls : ∀ j h, Si j h → ∃ o T, h.get? I = some o ∧ o.cls = .type T ∧ lentIter T = false) (P : PM) : Wk C P I ys (fun _ => True) Si := by
  refine ⟨?_, ?_, ?_, ?_, hcls⟩
  · intro i P' st' A' s' Q' E' hA hi hp _ R' hS hQ
    refine (hW A' hA).item i s' Q' E' hi hS fun v h' tk hP hS' hk' => ?_
    refine xe12 (hPi P' i v hP hi) fun y hy hvy => ?_
    exact hQ v h' tk y hy hvy hS' hk'
  · intro P' st' A' s' Q' E' hA hp _ R' hS hQ
    exact (hW A' hA).done s' Q' E' hS hQ
  · intro i P' st' A' s' Q' E' hA hp _ R' hS hq
    exact (hW A' hA).self i s' Q' E' hS hq
  · intro i h h' hS hk
    refine (hW {} rfl).frame i h h' hS fun b hb o e => ?_
    rw [List.mem_singleton.mp hb] at e ⊢
    exact hk o e
theorem Ex1.loopI {target iter : Expr} {body : List Stmt} {p : Pos} {Post : Fl → Locs → St → Prop} (hfs : ∀ env x, foldedSetIterable iter env x = pure x)
    (h : Ev C lv sc cel loc iter st fun x st₁ => ∃ I o, x = .ref I ∧ st₁ = (I, .raw o) :: st ∧ ∃ ys Si, (∀ P, Wk C P I ys (fun _ => True) Si) ∧ (∀ h : Heap, h.get? I = some o → Si 0 h) ∧ ∃ Inv : Nat → Locs → St → Prop, Inv 0 loc st ∧
      (∀ i y loc' st', ys[i]? = some y → Inv i loc' st' → As C sc cel loc' target y st' fun loc₂ st₂ => Ex C lv sc cel loc₂ body st₂ (loopP Inv Post (i + 1))) ∧
      (∀ loc' st', Inv ys.length loc' st' → Post .next loc' st')) : Ex1 C lv sc cel loc (.For target iter body [] p) st Post := fun P A env s Q E a en R F k => by
  refine wpAny_For (h P A env s _ E a en R F fun P₁ x v st₁ h₁ k₁ hx S₁ R₁ hv => ?_) (hfs env)
  obtain ⟨I, oI, rfl, rfl, ys, Si, hW, hS0', Inv, hi0, hturn, hend⟩ := hx
  cases hv
  have W := hW P₁
  refine xe12 (R₁.at List.mem_cons_self) fun o' ho' hr' => ?_
  cases hr'
  have hS0 := hS0' h₁ ho'
  have F₁ := F.step S₁
  have hnew : I ∉ adr st := (List.nodup_cons.mp R₁.nd).1
  have hwr : s.heap.get? I = none := (S₁.sb I List.mem_cons_self).resolve_left hnew
  have hIL : I ≠ env.locals := fun e => F₁.off.2 (e ▸ List.mem_cons_self)
  have hPI : P₁ I = none := (R₁.own _ List.mem_cons_self).1
  have R₂ : Rp C P₁ st h₁ := R₁.sub (List.sublist_cons_self _ _)
  have S₂ : Step P P₁ st st s.heap h₁ := S₁.sub (List.sublist_cons_self _ _)
  have F₂ : FRp C P₁ loc env st h₁ := F.step S₂
  refine W.self 0 P₁ st A _ _ _ a.handled (fun _ _ e => e) trivial R₂ hS0 ?_
  have D₂ : Lent env.locals P₁ st h₁ [I] I := ⟨fun b hb => by rw [List.mem_singleton.mp hb]; exact ⟨by rw [ho']; simp, hnew, hIL⟩, hPI, List.mem_cons_self⟩
  exact loop_core W (fun _ _ _ _ => True.intro) hturn hend a en hwr (LpI.mk 0 P₁ loc st h₁ k₁ (Nat.zero_le _) hi0 R₂ F₂ D₂ hS0 (S₂.toX _) fun _ _ e => e) k
theorem typesub_rit : isSubtype (.type "range_iterator") (.type "reversed") = pure false := by rw [isSubtype_type]; kernel_rfl
noncomputable def ritObj : Obj := { cls := .type "range_iterator", data := .fields #[rawInt 2, rawInt 3, rawInt (-1)] }
theorem range_rev_meets (r : Addr) (t u v : Tok) : Meets (Builtin.«range.__reversed__» ⟨[.ref r], []⟩) (fun _ R s => s.heap.get? r = some { cls := .type "range", dict := none, data := .fields #[.int 0 t, .int 3 u, .int 1 v], slots := #[] } ∧ R (.ok (.ret (Value.ref s.heap.objs.size))) { s with heap := s.heap.push ritObj }) :=
  .of_wp fun prog w A R s h => by
    obtain ⟨hp, g, d, tk, os⟩ := s; obtain ⟨hl, h⟩ := h
    have hc0 : ¬ (!(Builtin.Range.rangeFitsLong 0 && Builtin.Range.rangeFitsLong 3 && Builtin.Range.rangeFitsLong 1 && Builtin.Range.rangeFitsLong (-1) && Builtin.Range.rangeFitsLong (0 - 1) && Builtin.Range.rangeFitsLong (Builtin.Range.rangeSize 0 3 1))) = true := by decide
    wp_walk
    exact ⟨_, rfl, h⟩
theorem call_range_reversed {prog : Program} {w : World} {A : Around} {E : Value → Shared → Prop} {s : Shared} {r : Addr} {t u v : Tok} {Q : Value → Shared → Prop} (hr : IsRange s.heap r 0 3 1 t u v)
    (h : Q (.ref s.heap.objs.size) { s with heap := s.heap.push ritObj }) : wpAny (model prog w) A (call (.builtin "range.__reversed__") [.ref r]) Q E s :=
  call_meets PySem.F.slot_range_reversed ⟨_, hr, rfl⟩ PySem.F.entry_range_reversed (PySem.F.args_range_reversed_1 _) (range_rev_meets r t u v) ⟨hr, h⟩
theorem code_reversed_rng {prog : Program} {w : World} {A : Around} {E : Value → Shared → Prop} {s : Shared} {r : Addr} {t u v : Tok} {Q₁ : Value → Shared → Prop} (hr : IsRange s.heap r 0 3 1 t u v)
    (h : Q₁ (.ref s.heap.objs.size) { s with heap := s.heap.push ritObj }) :
    codeAny (model prog w) A (.call (.builtin "reversed.__new__") ⟨[.type "reversed", .ref r], []⟩) (wants Q₁ E) s := by
  refine codeAny_of_tree ?_
  refine (?_ : wpAny _ A.in1 (do checkBuiltinCall "reversed.__new__" ⟨[.type "reversed", .ref r], []⟩; again (.builtin "reversed.__new__" ⟨[.type "reversed", .ref r], []⟩)) _ _ s)
  refine wpAny_bind (wpAny_of_eq (PySem.F.newCall_reversed_1 _) (wpAny_pure ⟨plainId_quiet PySem.F.plain_reversed_new _, codeAny_builtin PySem.F.entry_reversed_new ?_⟩))
  rw [Around.under_plainId PySem.F.plain_reversed_new _]
  unfold Builtin.«reversed.__new__»
  refine wpAny_bind (wpAny_of_eq (newClass_reversed _) ?_)
  try dsimp only
  refine wpAny_bind (wpAny_of_eq (a := ()) (by first | rfl | kernel_rfl) ?_)
  refine wpAny_bind (wpAny_of_eq (a := ()) (by first | rfl | kernel_rfl) ?_)
  try dsimp only
  refine wpAny_bind (wpAny_specialOf (T := "range") ⟨_, hr, rfl⟩ PySem.F.slot_range_reversed.lookup ?_)
  try dsimp only
  refine wpAny_bind (wpAny_of_eq (PySem.F.slot_range_reversed.bind _) ?_)
  try dsimp only
  rw [if_neg (show ¬ ((Value.builtin "range.__reversed__" == Value.none) = true) from Bool.false_ne_true)]
  refine wpAny_bind (wpAny_rule ?_)
  refine wpAny_bind (m := runValue (.call (.builtin "range.__reversed__") ⟨[.ref r], []⟩)) (show wpAny _ _ (call (.builtin "range.__reversed__") [.ref r]) _ _ _ from call_range_reversed hr ?_)
  first
  | exact wpAny_pure h
  | exact wpAny_bind (wpAny_pure (wpAny_pure h))
theorem call_reversed_rng {prog : Program} {w : World} {A : Around} {E : Value → Shared → Prop} {s : Shared} {r : Addr} {t u v : Tok} {Q : Value → Shared → Prop} (hr : IsRange s.heap r 0 3 1 t u v)
    (h : Q (.ref s.heap.objs.size) { s with heap := s.heap.push ritObj }) : wpAny (model prog w) A (call (.type "reversed") [.ref r]) Q E s := by
  refine callType_other (U := "range_iterator") (Q₁ := fun obj s₁ => obj = .ref s.heap.objs.size ∧ s₁ = { s with heap := s.heap.push ritObj }) (by decide +kernel) PySem.F.create_reversed ⟨_, _, PySem.F.mro_reversed⟩ PySem.F.made_reversed typesub_rit (PySem.F.typeCall_reversed_1 _) (code_reversed_rng hr ⟨rfl, rfl⟩) ?_
  rintro obj s₁ ⟨rfl, rfl⟩
  exact ⟨⟨_, Heap.get?_push_size _ rfl, rfl⟩, h⟩
theorem Cl.rev3 {Post : AV → St → Prop} (h : ∀ I, Post (.ref I) ((I, .raw ritObj) :: st)) : Cl C lv (.type "reversed") [.rng 0 3 1] [] st Post := fun P A s vs kvs Q E a R hv hk k => by
  obtain rfl := hk.nil_inv
  refine xe12 hv.one_inv fun _ qe0 h1 => ?_; subst qe0
  · cases h1 with
    | rng hP hg =>
      refine xe31 hg fun t u v qe0 => ?_; clear hg; subst qe0
      refine xe02 (R.push (x := .raw ritObj) (o := ritObj) .raw rfl) fun R₂ S₂ => ?_
      exact call_reversed_rng (R.keep _ _ hP) (k _ (.ref _) _ _ _ _ (h _) S₂ R₂ .ref)
noncomputable def rev3 : List AV := [.int 2, .int 1, .int 0]
theorem wk_rev3 {I : Addr} (P : PM) : Wk C P I rev3 (fun _ => True) (fun i h => IsRangeIter h I (2 + (i : Nat) * (-1)) ((3 : Int) - (i : Nat)) (-1)) := by
  refine wk_walks (Pi := fun i v => ∃ t, v = .int (2 + (i : Nat) * (-1)) t) (fun A' hA => Walks.range hA I 2 (-1) 3) (fun P j u ⟨t, e⟩ hj => ?_) (fun j h e => ⟨_, _, e, rfl, by decide +kernel⟩) P
  subst e
  match j, hj with
  | 0, _ => exact ⟨_, rfl, .int⟩
  | 1, _ => exact ⟨_, rfl, .int⟩
  | 2, _ => exact ⟨_, rfl, .int⟩
noncomputable def hp0 : List Pr := [(0, 0), (0, 1), (0, 2), (0, 3), (0, 4), (0, 5)]
theorem hp0_2 : siftup hp0 2 = hp0 := by decide +kernel
theorem hp0_1 : siftup hp0 1 = hp0 := by decide +kernel
theorem hp0_0 : siftup hp0 0 = hp0 := by decide +kernel
theorem heapify_fn (G : Pg C) {H : Addr} (hm : (H, AO.list (pL hp0)) ∈ st) :
    Fn C (lv + 3) (.ref 59) [.ref H] [] st fun y st' => y = .none ∧ Upd st H (.list (pL hp0)) (.list (pL hp0)) st' := by
  refine Fn.nd fun nd => ?_
  refine' Pg.fn0 G [Str.ofString "x"] [(Str.ofString "x", .ref H)] ?ho ?hcd ?hb ?hclo ?hgl ?hbu ?hco ?hgen ?hk ?hok ?hbind ?hloc ?hcn ?hcx _ ?hsc ?h
  walk_at "fn"
  case hbind => exact len1 fun _ => rfl
  repeat walk_at "go"
  refine Cl.lenL (.ref hm) (by decide) ?_
  walk_at "go"
  walk_at "go"
  refine Ex1.loopI (fun _ _ => rfl) ?_
  repeat walk_at "go"
  refine Op2.divI (a := 6) (by decide) (by decide) ?_
  repeat walk_at "go"
  refine Cl.rev3 fun I => ?_
  refine ⟨I, ritObj, rfl, rfl, rev3, _, wk_rev3, fun h e => ?_, fun i l s => i ≤ 3 ∧ Sub [(Str.ofString "x", .ref H)] l ∧ Upd st H (.list (pL hp0)) (.list (pL hp0)) s, ⟨by lia, ?_, .same hm⟩, ?_, ?_⟩
  · exact e
  · walk_at "sub"
  · rintro i y loc' s hy ⟨hi3, hs, hu⟩
    have hlt : i < 3 := by have := (List.getElem?_eq_some_iff.mp hy).1; simpa [rev3] using this
    obtain ⟨n, hn, he, rfl⟩ : ∃ n : Nat, n < 3 ∧ siftup hp0 n = hp0 ∧ y = .int (n : Nat) := by
      match i, hy with
      | 0, hy => cases hy; exact ⟨2, by lia, hp0_2, rfl⟩
      | 1, hy => cases hy; exact ⟨1, by lia, hp0_1, rfl⟩
      | 2, hy => cases hy; exact ⟨0, by lia, hp0_0, rfl⟩
    refine As.rel hs ?_
    repeat walk_at "go"
    refine (Fn.mono (siftup_fn G (pos := n) hu.mem2 (by refine (?_ : n < 6); lia) (by decide)) fun y s3 hq => xe02 hq fun e1 u4 => ?_).cl
    subst e1
    rw [he] at u4
    repeat walk_at "go"
    exact ⟨by lia, by walk_at "sub", hu.nm u4 nd⟩
  · rintro loc' s ⟨hi3, hs, hu⟩
    repeat walk_at "go"
    exact ⟨rfl, hu⟩
end
section
variable {C : Cx} {lv : Nat} {sc : Scope} {cel : List (PySem.Str × Addr)} {loc : Locs} {st : St}
set_option pp.deepTerms false
set_option pp.maxSteps 2000
theorem Ex1.assignT {elts : List Expr} {kd : Nat} {tpos p : Pos} {e : Expr} {Post : Fl → Locs → St → Prop} (hs : ∀ env, env.scope = sc → swapsWithSole [.Tuple elts kd tpos] e p.line env = pure false) (hw : ∀ env, env.scope = sc → swappedStores [.Tuple elts kd tpos] e env = pure Option.none)
    (h : Ev C lv sc cel loc e st fun y st₁ => As C sc cel loc (.Tuple elts kd tpos) y st₁ fun loc' st' => Post .next loc' st') : Ex1 C lv sc cel loc (.Assign [.Tuple elts kd tpos] e p) st Post := fun P A env s Q E a en R F k => by
  refine Assign_Tuple (h P A env s _ E a en R F fun P₁ y v st₁ h₁ k₁ hy S₁ R₁ hv => ?_) (hs env en.scope) (hw env en.scope)
  exact hy P₁ A env _ v _ E a.handled en R₁ (F.step S₁) hv fun loc' st' h' tk hp S R' F' => k P₁ .next .next loc' st' h' tk hp ((S₁.toX _).trans (F.step S₁).lives S) R' F' .next
structure HS where
  heap : List Pr
  won : List Int
  row : List PySem.Str
noncomputable def hpush1 (V : List PySem.Str) (N : PySem.Str → List PySem.Str) (s : PySem.Str) (a : HS) (k : Nat) : HS :=
  if V.getD k ⟨#[]⟩ ∈ N s ∧ V.getD k ⟨#[]⟩ ∉ a.row then ⟨pushL a.heap (a.won.getD k 0 - 1, (k : Nat)), a.won.set k (a.won.getD k 0 - 1), a.row⟩ else a
noncomputable def hstep (V : List PySem.Str) (N : PySem.Str → List PySem.Str) (a : HS) : HS :=
  if V.getD (popL a.heap).1.2.toNat ⟨#[]⟩ ∈ a.row then ⟨(popL a.heap).2, a.won, a.row⟩
  else (List.range 6).foldl (hpush1 V N (V.getD (popL a.heap).1.2.toNat ⟨#[]⟩)) ⟨(popL a.heap).2, a.won, a.row ++ [V.getD (popL a.heap).1.2.toNat ⟨#[]⟩]⟩
noncomputable def hrun (V : List PySem.Str) (N : PySem.Str → List PySem.Str) : Nat → HS → List PySem.Str
  | 0, a => a.row
  | f + 1, a => if a.heap = [] then a.row else hrun V N f (hstep V N a)
noncomputable def hs0 : HS := ⟨hp0, [0, 0, 0, 0, 0, 0], []⟩
theorem sdn_len (x : Pr) (start : Nat) : ∀ (f : Nat) (l : List Pr) (pos : Nat), (sdn x start f l pos).length = l.length
  | 0, l, pos => by simp [sdn]
  | f + 1, l, pos => by
    rw [sdn]
    split
    · split
      · rw [sdn_len x start f]; simp
      · simp
    · simp
theorem sup_len : ∀ (f : Nat) (l : List Pr) (p : Nat), (sup f l p).1.length = l.length
  | 0, l, p => rfl
  | f + 1, l, p => by
    rw [sup]
    split
    · rw [sup_len f]; simp
    · rfl
theorem siftup_len (l : List Pr) (p : Nat) : (siftup l p).length = l.length := by unfold siftup; rw [sdn_len]; simp [sup_len]
theorem pushL_len (l : List Pr) (x : Pr) : (pushL l x).length = l.length + 1 := by unfold pushL; rw [sdn_len]; simp
theorem popL_len (l : List Pr) : (popL l).2.length = l.length - 1 := by
  unfold popL
  split
  · rename_i h; have := congrArg List.length h; simp at this; simp; lia
  · rw [siftup_len]; simp
noncomputable def PlOk (l : List Pr) : Prop := ∀ p ∈ l, 0 ≤ p.2 ∧ p.2 < 6
theorem gt'_mem {l : List Pr} {i : Nat} (h : i < l.length) : gt' l i ∈ l := by unfold gt'; simp [List.getD, h]
theorem PlOk.set {l : List Pr} (h : PlOk l) {x : Pr} (hx : 0 ≤ x.2 ∧ x.2 < 6) (i : Nat) : PlOk (l.set i x) := fun p hp => by
  rcases List.mem_or_eq_of_mem_set hp with q | q
  · exact h p q
  · exact q ▸ hx
theorem gt'_ok {l : List Pr} (h : PlOk l) (i : Nat) : 0 ≤ (gt' l i).2 ∧ (gt' l i).2 < 6 := by
  by_cases hi : i < l.length
  · exact h _ (gt'_mem hi)
  · unfold gt'; simp [List.getD, hi]
theorem sdn_ok {x : Pr} (hx : 0 ≤ x.2 ∧ x.2 < 6) (start : Nat) : ∀ (f : Nat) (l : List Pr) (pos : Nat), PlOk l → PlOk (sdn x start f l pos)
  | 0, l, pos, h => h.set hx _
  | f + 1, l, pos, h => by
    rw [sdn]
    split
    · split
      · exact sdn_ok hx start f _ _ (h.set (gt'_ok h _) _)
      · exact h.set hx _
    · exact h.set hx _
theorem sup_ok : ∀ (f : Nat) (l : List Pr) (p : Nat), PlOk l → PlOk (sup f l p).1
  | 0, l, p, h => h
  | f + 1, l, p, h => by
    rw [sup]
    split
    · exact sup_ok f _ _ (h.set (gt'_ok h _) _)
    · exact h
theorem siftup_ok {l : List Pr} (h : PlOk l) (p : Nat) : PlOk (siftup l p) := by
  unfold siftup
  exact sdn_ok (gt'_ok h _) _ _ _ _ ((sup_ok _ _ _ h).set (gt'_ok h _) _)
theorem pushL_ok {l : List Pr} (h : PlOk l) {x : Pr} (hx : 0 ≤ x.2 ∧ x.2 < 6) : PlOk (pushL l x) := by
  unfold pushL
  refine sdn_ok hx _ _ _ _ fun p hp => ?_
  rcases List.mem_append.mp hp with q | q
  · exact h p q
  · rw [List.mem_singleton.mp q]; exact hx
theorem popL_ok {l : List Pr} (h : PlOk l) : (0 ≤ (popL l).1.2 ∧ (popL l).1.2 < 6) ∧ PlOk (popL l).2 := by
  have hd : PlOk l.dropLast := fun p hp => h p (List.dropLast_subset _ hp)
  unfold popL
  split
  · exact ⟨gt'_ok h _, fun p hp => by cases hp⟩
  · exact ⟨gt'_ok hd _, siftup_ok (hd.set (gt'_ok h _) _) _⟩
theorem sgs_at {W : PySem.Str} {i : Nat} (h : i < (sgs W).length) : ∃ c, W.cps[i]? = some c ∧ (sgs W)[i] = ⟨#[c]⟩ := by
  have h' : i < W.cps.size := by simpa [sgs] using h
  exact ⟨W.cps[i], Array.getElem?_eq_getElem h', by simp [sgs]⟩
theorem hpush1_inv {V : List PySem.Str} {N : PySem.Str → List PySem.Str} {s : PySem.Str} {a : HS} {k : Nat} (hk : k < 6) (h : PlOk a.heap ∧ a.won.length = 6) :
    PlOk (hpush1 V N s a k).heap ∧ (hpush1 V N s a k).won.length = 6 ∧ (hpush1 V N s a k).row = a.row ∧ (hpush1 V N s a k).heap.length ≤ a.heap.length + 1 := by
  unfold hpush1
  split
  · exact ⟨pushL_ok h.1 ⟨by refine (?_ : (0 : Int) ≤ (k : Nat)); lia, by refine (?_ : ((k : Nat) : Int) < 6); lia⟩, by simp [h.2], rfl, by rw [pushL_len]; exact Nat.le_refl _⟩
  · exact ⟨h.1, h.2, rfl, Nat.le_succ _⟩
theorem hfold_inv {V : List PySem.Str} {N : PySem.Str → List PySem.Str} {s : PySem.Str} {a : HS} (h : PlOk a.heap ∧ a.won.length = 6) : ∀ k ≤ 6,
    PlOk ((List.range k).foldl (hpush1 V N s) a).heap ∧ ((List.range k).foldl (hpush1 V N s) a).won.length = 6 ∧ ((List.range k).foldl (hpush1 V N s) a).row = a.row ∧ ((List.range k).foldl (hpush1 V N s) a).heap.length ≤ a.heap.length + k
  | 0, _ => ⟨h.1, h.2, rfl, Nat.le_refl _⟩
  | k + 1, hk => by
    obtain ⟨h1, h2, h3, h4⟩ := hfold_inv h k (by lia)
    rw [List.range_succ, List.foldl_append]
    refine xe04 (hpush1_inv (V := V) (N := N) (s := s) (k := k) (by lia) ⟨h1, h2⟩) fun g1 g2 g3 g4 => ?_
    exact ⟨g1, g2, g3.trans h3, by refine (?_ : (hpush1 V N s _ k).heap.length ≤ _); lia⟩
structure HInv (V : List PySem.Str) (N : PySem.Str → List PySem.Str) (n : Nat) (a : HS) (f : Nat) : Prop where
  n_eq : n = a.heap.length + 7 * (6 - a.row.length)
  n48 : n ≤ 48
  fuel : n ≤ f
  run : hrun V N f a = hrun V N 48 hs0
  pl : PlOk a.heap
  won : a.won.length = 6
  nd : a.row.Nodup
  sub : ∀ x ∈ a.row, x ∈ V
noncomputable abbrev hpS (st : St) (R M H : Addr) (a : HS) : St := (R, .list (sL a.row)) :: (M, .list (iL a.won)) :: (H, .list (pL a.heap)) :: st
noncomputable abbrev hpA (W : PySem.Str) (es : List (PySem.Str × AV)) (H M R : Addr) : Locs := [(Str.ofString "word", .str W), (Str.ofString "near", .dct es), (Str.ofString "heap", .ref H), (Str.ofString "won", .ref M), (Str.ofString "row", .ref R)]
noncomputable abbrev hpB (W : PySem.Str) (es : List (PySem.Str × AV)) (H M R : Addr) (p : Nat) : Locs := [(Str.ofString "word", .str W), (Str.ofString "near", .dct es), (Str.ofString "heap", .ref H), (Str.ofString "won", .ref M), (Str.ofString "row", .ref R), (Str.ofString "place", .int (p : Nat))]
theorem byheap_fn (G : Pg C) (W : PySem.Str) (es : List (PySem.Str × AV)) (N : PySem.Str → List PySem.Str) (hV : (sgs W).Nodup) (h6 : (sgs W).length = 6) (hN : DictIs es N (sgs W)) : Fn C (lv + 4) (.ref 299) [.str W, .dct es] [] st fun y st' => y = .lst (sL (hrun (sgs W) N 48 hs0)) ∧ st' = st := by
  refine Fn.sub ?_
  refine' Pg.fn0 G [Str.ofString "word", Str.ofString "near"] [(Str.ofString "word", .str W), (Str.ofString "near", .dct es)] ?ho ?hcd ?hb ?hclo ?hgl ?hbu ?hco ?hgen ?hk ?hok ?hbind ?hloc ?hcn ?hcx _ ?hsc ?h
  walk_at "fn"
  case hbind => exact len2 fun _ _ => rfl
  refine Ex.gen fun Q0 hQ0 => ?_
  walk_at "go"
  refine Ex1.lcomp' (by walk_at "sw") rfl rfl (fun _ _ => rfl) _ rfl ?_
  refine CompIn.l0R rfl (asI fun k => some (.tup [.int 0, .int k])) ?_
  repeat walk_at "go"
  refine ⟨_, ItOf.rng (by decide) (by decide) (by decide) (by decide), by decide, fun y hy D xs loc' => ?_, fun H => ?_⟩
  · refine xe12 (List.mem_map.mp hy) fun k hk qe0 => ?_; subst qe0
    repeat walk_at "go"
    exact ⟨rfl, rfl⟩
  have e0 : (rangeL 0 6).filterMap (asI fun k => some (.tup [.int 0, .int k])) = pL hp0 := rfl
  rw [e0]
  repeat walk_at "go"
  refine Fn.kU (heapify_fn G (H := H) List.mem_cons_self) .head ?_
  walk_at "go"
  walk_at "go"
  refine Ev.lstM rfl ?_
  repeat walk_at "go"
  intro M
  walk_at "go"
  walk_at "go"
  walk_at "go"
  refine Ev.lstM rfl ?_
  repeat walk_at "go"
  intro R
  repeat walk_at "go"
  refine Ex1.while (fun n l s => ∃ a f, HInv (sgs W) N n a f ∧ Sub (hpA W es H M R) l ∧ s = hpS st R M H a) 48 ⟨hs0, 48, ⟨rfl, Nat.le_refl _, Nat.le_refl _, rfl, by unfold PlOk; decide, rfl, List.nodup_nil, fun x hx => by cases hx⟩, ?_, rfl⟩ ?_
  · walk_at "sub"
  · rintro n loc' s ⟨a, f, hI, hs, rfl⟩
    have hrow : a.row.length ≤ 6 := by rw [← h6]; exact List.Nodup.length_le_of_subset hI.nd hI.sub
    have hhl : a.heap.length ≤ 48 := by have := hI.n_eq; have := hI.n48; lia
    refine Tr.rel hs ?_
    repeat walk_at "go"
    refine Ev.lstF rfl ?_
    repeat walk_at "go"
    refine Op2.neNil (.ref (by walk_at "mem")) .lst ?_
    repeat walk_at "go"
    refine iteB (fun e => ?_) (fun e => ?_)
    · have hne : a.heap ≠ [] := by intro z; rw [z] at e; simp [pL] at e
      refine xe11 (⟨f - 1, by have h1 := hI.fuel; have h2 := hI.n_eq; have h3 := List.length_pos_iff.mpr hne; lia⟩ : ∃ g, f = g + 1) fun f qe0 => ?_; subst qe0
      have hrun' := hI.run
      rw [hrun, if_neg hne] at hrun'
      refine xe02 (popL_ok hI.pl) fun hpl hpo => ?_
      have hpn := popL_len a.heap
      refine xe11 (Int.eq_ofNat_of_zero_le hpl.1) fun p hp => ?_
      have hp6 : p < 6 := by have := hpl.2; lia
      have hpV : p < (sgs W).length := by lia
      refine xe12 (sgs_at hpV) fun c hc1 hc2 => ?_
      have hgd : (sgs W).getD (popL a.heap).1.2.toNat ⟨#[]⟩ = (sgs W)[p] := by rw [hp]; simp [List.getD, hpV]
      refine Ex.rel hs (Ex.gen fun Q1 hQ1 => ?_)
      walk_at "go"
      refine Ex1.assignT (by walk_at "sw") (by walk_at "sw") ?_
      repeat walk_at "go"
      refine Fn.kU (heappop_fn G (H := H) (by walk_at "mem") hne (by lia)) (.tail (.tail .head)) ?_
      repeat walk_at "go"
      rw [hp]
      refine Op2.ixS (fun _ _ => rfl) (by lia) (by lia) hc1 ?_
      rw [← hc2]
      repeat walk_at "go"
      refine Op2.notInStrs (.ref (by walk_at "mem")) ?_
      rw [any_mem]
      repeat walk_at "go"
      refine iteB (fun e2 => ?_) (fun e2 => ?_)
      · have e2 : (sgs W)[p] ∉ a.row := by simpa using e2
        have hst : hstep (sgs W) N a = (List.range 6).foldl (hpush1 (sgs W) N (sgs W)[p]) ⟨(popL a.heap).2, a.won, a.row ++ [(sgs W)[p]]⟩ := by unfold hstep; rw [hgd, if_neg e2]
        rw [hst] at hrun'
        have hndr : (a.row ++ [(sgs W)[p]]).Nodup := List.nodup_append.mpr ⟨hI.nd, by simp, fun u hu v hv e' => e2 (by rw [← List.mem_singleton.mp hv, ← e']; exact hu)⟩
        have hsubr : ∀ x ∈ a.row ++ [(sgs W)[p]], x ∈ sgs W := fun x hx => by
          rcases List.mem_append.mp hx with q | q
          · exact hI.sub x q
          · rw [List.mem_singleton.mp q]; exact List.getElem_mem _
        have hrow2 : (a.row ++ [(sgs W)[p]]).length ≤ 6 := by rw [← h6]; exact List.Nodup.length_le_of_subset hndr hsubr
        have hrow3 : a.row.length < 6 := by simp at hrow2; lia
        generalize hV' : sgs W = V at *
        generalize hs' : V[p] = sp at *
        have hspV : sp ∈ V := hs' ▸ List.getElem_mem _
        generalize ha1 : (⟨(popL a.heap).2, a.won, a.row ++ [sp]⟩ : HS) = a1 at *
        have hb1 : PlOk a1.heap ∧ a1.won.length = 6 := by rw [← ha1]; exact ⟨hpo, hI.won⟩
        have hF := hfold_inv (V := V) (N := N) (s := sp) hb1
        have hr1 : a1.row = a.row ++ [sp] := by rw [← ha1]
        have hl1 : a1.heap.length = a.heap.length - 1 := by rw [← ha1]; exact hpn
        repeat walk_at "go"
        refine Op2.ixS (fun _ _ => rfl) (by lia) (by lia) hc1 ?_
        rw [← hc2]
        repeat walk_at "go"
        refine Cl.append .head (Nat.le_trans (by simp [sL]; lia : _ ≤ 6) (by decide)) ?_
        have e3 : sL a.row ++ [.str sp] = sL a1.row := by rw [hr1]; simp [sL]
        rw [e3]
        have e4 : (R, AO.list (sL a1.row)) :: (M, AO.list (iL a.won)) :: (H, AO.list (pL (popL a.heap).2)) :: st = (R, AO.list (sL a1.row)) :: (M, AO.list (iL a1.won)) :: (H, AO.list (pL a1.heap)) :: st := by rw [← ha1]
        rw [e4]
        repeat walk_at "go"
        refine loopR 6 (by decide) rfl (fun _ => hpB W es H M R p) (fun k => hpS st R M H ((List.range k).foldl (hpush1 V N sp) a1)) ?_ rfl ?_ ?_
        · walk_at "sub"
        · intro k hk Q2 hQ2
          refine xe04 (hF k (by lia)) fun g1 g2 g3 g4 => ?_
          have hsucc : (List.range (k + 1)).foldl (hpush1 V N sp) a1 = hpush1 V N sp ((List.range k).foldl (hpush1 V N sp) a1) k := by rw [List.range_succ, List.foldl_append]; rfl
          generalize hb : (List.range k).foldl (hpush1 V N sp) a1 = b at *
          have hkV : k < V.length := by lia
          refine xe12 (sgs_at (W := W) (i := k) (by rw [hV']; exact hkV)) fun d hd1 hd2 => ?_
          have hd2' : V[k] = ⟨#[d]⟩ := by rw [← hd2]; simp only [hV']
          have hgk : V.getD k ⟨#[]⟩ = V[k] := by simp [List.getD, hkV]
          have hbr : b.row.length ≤ 6 := by rw [g3, hr1]; exact hrow2
          walk_at "go"
          walk_at "go"
          walk_at "go"
          walk_at "go"
          refine Tr.mono (Post := fun c s => c = decide (V[k] ∈ N sp ∧ V[k] ∉ b.row) ∧ s = (R, .list (sL b.row)) :: (M, .list (iL b.won)) :: (H, .list (pL b.heap)) :: st) ?_ ?_
          · repeat walk_at "go"
            refine Op2.ixS (fun _ _ => rfl) (by lia) (by lia) hd1 ?_
            rw [← hd2']
            repeat walk_at "go"
            refine Op2.ixS (fun _ _ => rfl) (by lia) (by lia) hc1 ?_
            rw [← hc2]
            refine Op2.ixD (fun _ _ => rfl) .dct (hN sp hspV) ?_
            refine Op2.inStrs .lst ?_
            repeat walk_at "go"
            rw [any_mem]
            refine iteB (fun e5 => ?_) (fun e5 => ?_)
            · have e5 : V[k] ∈ N sp := by simpa using e5
              repeat walk_at "go"
              refine Op2.ixS (fun _ _ => rfl) (by lia) (by lia) hd1 ?_
              rw [← hd2']
              repeat walk_at "go"
              refine Op2.notInStrs (.ref (by walk_at "mem")) ?_
              refine ⟨_, rfl, ?_, rfl⟩
              rw [any_mem]
              simp [e5]
            · have e5 : V[k] ∉ N sp := by simpa using e5
              exact ⟨by simp [e5], rfl⟩
          · rintro c s ⟨rfl, rfl⟩
            refine iteB (fun e5 => ?_) (fun e5 => ?_)
            · have e5 := of_decide_eq_true e5
              have hp1 : hpush1 V N sp b k = ⟨pushL b.heap (b.won.getD k 0 - 1, (k : Nat)), b.won.set k (b.won.getD k 0 - 1), b.row⟩ := by unfold hpush1; rw [hgk, if_pos e5]
              have hkw : k < b.won.length := by lia
              have hgw : (iL b.won)[k]? = some (.int (b.won.getD k 0)) := by simp [iL, List.getD, hkw]
              have hgw' : (iL (b.won.set k (b.won.getD k 0 - 1)))[k]? = some (.int (b.won.getD k 0 - 1)) := by simp [iL, hkw]
              have hset : (iL b.won).set k (.int (b.won.getD k 0 - 1)) = iL (b.won.set k (b.won.getD k 0 - 1)) := by unfold iL; rw [← List.map_set]
              repeat walk_at "go"
              refine Op2.ixL (fun _ _ => rfl) (by lia) (by lia) (.ref (by walk_at "mem")) hgw ?_
              repeat walk_at "go"
              refine Op3.setL (by lia) (by lia) (by simp [iL]; lia) (.tail .head) ?_
              rw [Int.toNat_natCast, hset]
              repeat walk_at "go"
              refine Op2.ixL (fun _ _ => rfl) (by lia) (by lia) (.ref (by walk_at "mem")) hgw' ?_
              repeat walk_at "go"
              refine Fn.kU (heappush_fn G (H := H) (l := b.heap) (x := (b.won.getD k 0 - 1, (k : Nat))) (by walk_at "mem") (by lia)) (.tail (.tail .head)) ?_
              repeat walk_at "go"
              rw [hsucc, hp1] at hQ2
              exact hQ2 _ (by walk_at "sub")
            · have e5 := of_decide_eq_false e5
              have hp1 : hpush1 V N sp b k = b := by unfold hpush1; rw [hgk, if_neg e5]
              repeat walk_at "go"
              rw [hsucc, hp1] at hQ2
              exact hQ2 _ (by walk_at "sub")
        · intro loc' hs2
          refine xe04 (hF 6 (by lia)) fun g1 g2 g3 g4 => ?_
          repeat walk_at "go"
          have hlen : ((List.range 6).foldl (hpush1 V N sp) a1).row.length = a.row.length + 1 := by rw [g3, hr1]; simp
          have hm : ((List.range 6).foldl (hpush1 V N sp) a1).heap.length + 7 * (6 - ((List.range 6).foldl (hpush1 V N sp) a1).row.length) < n := by
            rw [hlen]
            have h2 := hI.n_eq; have h3 := List.length_pos_iff.mpr hne; lia
          refine hQ1 _ _ _ ⟨_, hm, _, f, ⟨rfl, ?_, ?_, hrun', g1, g2, by rw [g3, hr1]; exact hndr, by rw [g3, hr1]; exact hsubr⟩, Sub.tr (by walk_at "sub") hs2, rfl⟩
          · have := hI.n48; lia
          · have := hI.fuel; lia
      · have e2 : (sgs W)[p] ∈ a.row := by simpa using e2
        have hst : hstep (sgs W) N a = ⟨(popL a.heap).2, a.won, a.row⟩ := by unfold hstep; rw [hgd, if_pos e2]
        rw [hst] at hrun'
        repeat walk_at "go"
        refine hQ1 _ _ _ ⟨n - 1, ?_, ⟨(popL a.heap).2, a.won, a.row⟩, f, ⟨?_, ?_, ?_, hrun', hpo, hI.won, hI.nd, hI.sub⟩, by walk_at "sub", rfl⟩
        · have h2 := hI.n_eq; have h3 := List.length_pos_iff.mpr hne; lia
        · refine (?_ : n - 1 = (popL a.heap).2.length + 7 * (6 - a.row.length))
          have h2 := hI.n_eq; have h3 := List.length_pos_iff.mpr hne; lia
        · have := hI.n48; lia
        · have := hI.fuel; lia
    · have hne : a.heap = [] := by
        cases hh : a.heap with
        | nil => rfl
        | cons p q => rw [hh] at e; simp [pL] at e
      have hr : a.row = hrun (sgs W) N 48 hs0 := by
        rw [← hI.run]
        cases f with
        | zero => rfl
        | succ f => rw [hrun, if_pos hne]
      refine Ex.rel hs ?_
      walk_at "go"
      walk_at "go"
      refine Ev.frz ?_
      walk_at "go"
      refine ⟨_, _, _, rfl, .head, hQ0 _ _ _ ?_⟩
      rw [← hr]
      exact ⟨st, (List.sublist_cons_self _ _).trans (List.sublist_cons_self _ _), rfl, rfl⟩
end
section
set_option maxHeartbeats 1000000
variable {C : Cx} {lv : Nat} {sc : Scope} {cel : List (PySem.Str × Addr)} {loc : Locs} {st : St}

theorem lookIn_ns {o : Obj} {des : Array DictEntry} {ep : Nat} {name : PySem.Str} (hd : o.data = .dict des ep) (hs : StrKeys des) : lookIn name o = some (nsFind des name) := by
  unfold lookIn
  rw [hd]
  dsimp only
  have e1 : nsFind des name = (des.toList.find? (·.key.isStr name)).map (·.val) := by
    unfold nsFind findBy
    rw [← Array.find?_toList]
  rw [e1]
  cases h : des.toList.find? (·.key.isStr name) with
  | some e => rfl
  | none =>
    dsimp only
    have : des.toList.any (·.refKey) = false := by
      rw [List.any_eq_false]
      intro e he
      refine xe21 (hs e (by simpa using he)) fun n t q => ?_
      unfold DictEntry.refKey
      rw [q]; simp
    rw [this]; rfl

structure OI (st : St) (x dx Cc : Addr) (es : List (PySem.Str × AV)) : Prop where
  x : (x, AO.raw (instObj Cc dx)) ∈ st
  d : (dx, AO.idict es) ∈ st
theorem OI.at {x dx Cc : Addr} {es : List (PySem.Str × AV)} (I : OI st x dx Cc es) {P : PM} {h : Heap} (R : Rp C P st h) :
    ∃ od des ep, InstAt h x (instObj Cc dx) Cc (some od) ∧ h.get? dx = some od ∧ od.data = .dict des ep ∧ StrKeys des ∧ des.size ≤ es.length ∧ (∀ k y, es.lookup k = some y → ∃ v, nsFind des k = some v ∧ VRep C P y v) ∧ (∀ k, es.lookup k = none → nsFind des k = none) := by
  refine xe12 (R.at I.x) fun o ho hr => ?_
  cases hr
  refine xe12 (R.at I.d) fun od hod hr => ?_
  cases hr with
  | idict h2 h3 hz h4 h5 => exact ⟨od, _, _, ⟨ho, rfl, rfl, hod⟩, hod, h2, h3, hz, h4, h5⟩
noncomputable def handedA : AV → Bool
  | .val _ => false
  | _ => true
theorem handed_of {P : PM} {y : AV} {v : Value} (h : handedA y = true) (hv : VRep C P y v) : handedIn v = true := by
  cases hv <;> first | rfl | cases h
theorem Ev.attr {o : Expr} {name : PySem.Str} {p : Pos} {Post : AV → St → Prop} (hsup : noSuper o) (G : Gd C)
    (h : Ev C lv sc cel loc o st fun ov st₁ => ∃ x dx Cc es y cd, ov = .ref x ∧ OI st₁ x dx Cc es ∧ es.lookup name = some y ∧ handedA y = true ∧ clsIn C.K Cc = some cd ∧ cd.hasDict = true ∧ findIn C.K (.ref Cc) name = some Option.none ∧ findIn C.K (.ref Cc) "__getattribute__" = some (some (.builtin "object.__getattribute__")) ∧ Post y st₁) :
    Ev C lv sc cel loc (.Attribute o name p) st Post := fun P A env s Q E a en R F k => by
  rw [arm_eval_Attribute, attributeBase_of hsup]
  refine wpAny_bind (h P A env s _ E a en R F fun P₁ ov v st₁ h₁ k₁ hx S₁ R₁ hv => wpAny_bind (wpAny_standAt ?_))
  refine xe69 hx fun x dx Cc es y cd qe0 I hy hh hc hcd hf hga hp => ?_; clear hx; subst qe0
  cases hv
  refine xe37 (I.at R₁) fun od des ep I' hod hdat hsk hsz hget hmiss => ?_
  refine xe12 (hget _ _ hy) fun u hu hvu => ?_
  have hfo : findObj C.K Cc (some od) name = some (.value u) := by
    unfold findObj
    rw [hc, hf]
    simp only [Option.bind_some]
    unfold PySem.W.ownOf
    rw [hcd, if_pos rfl]
    dsimp only
    rw [lookIn_ns hdat hsk, hu]
    rfl
  refine wpAny_bind (wpAny_holding (get_value (K := C.K) (G.kin.keeps R₁.h0) I' hga hfo (handed_of hh hvu) ?_))
  exact wpAny_bind (wpAny_letTemporaryGo (wpAny_pure (k P₁ y u st₁ h₁ _ hp S₁ R₁ hvu)))
theorem Mt.inst {x dx Cc f : Addr} {es : List (PySem.Str × AV)} {name : PySem.Str} (G : Gd C) (I : OI st x dx Cc es) (hm : es.lookup name = none) (hga : findIn C.K (.ref Cc) "__getattribute__" = some (some (.builtin "object.__getattribute__"))) (hk : findIn C.K (.ref Cc) "__getattr__" = some Option.none)
    (hf : findIn C.K (.ref Cc) name = some (some (.ref f))) (ht : typeIn C.K (.ref f) = some (.type "function")) : Mt C (.ref x) name st (.ref f) [.ref x] := fun P A s v pl Q E R hv k => by
  cases hv
  refine xe37 (I.at R) fun od des ep I' hod hdat hsk hsz hget hmiss => ?_
  refine method_fn (K := C.K) (G.kin.keeps R.h0) I' hga hk hf ht ?_ (k [.ref x] s.toks (.cons .ref .nil))
  unfold shadowIn
  dsimp only
  rw [lookIn_ns hdat hsk, hmiss _ hm]
  rfl
theorem Cl.make {Cc f : Addr} {args : List AV} {Post : AV → St → Prop} (G : Gd C) (hm : makesIn C.K Cc = true) (hi : findIn C.K (.ref Cc) "__init__" = some (some (.ref f))) (hf : typeIn C.K (.ref f) = some (.type "function"))
    (h : ∀ x dx, Fn C lv (.ref f) (.ref x :: args) [] ((x, .raw (instObj Cc dx)) :: (dx, .idict []) :: st) fun y st' => y = .none ∧ Post (.ref x) st') : Fn C (lv + 1) (.ref Cc) args [] st Post := fun P A s vs kvs R a Rr hv hk k => by
  obtain rfl := hk.nil_inv
  obtain ⟨hh, g, d, t, os⟩ := s
  have X : C.K.In hh := G.kin.keeps Rr.h0
  refine make_core (makes_of X hm) (looks_findIn X hi) (fun self => bind_fn X self hf) (.inl rfl) ?_
  refine xe02 (Rr.push (x := .idict []) (o := emptyDict) (.idict rfl (fun e he => by simp at he) (Nat.le_refl _) (fun _ _ e => by cases e) (fun _ _ => rfl)) rfl) fun R₁ S₁ => ?_
  refine xe02 (R₁.push (x := .raw (instObj Cc hh.objs.size)) (o := instObj Cc hh.objs.size) .raw rfl) fun R₂ S₂ => ?_
  have e : (hh.push emptyDict).objs.size = hh.objs.size + 1 := Heap.size_push ..
  simp only at e R₂ S₂
  rw [e] at R₂ S₂
  have hA : AOk lv (A.under (.builtin "type.__call__" ⟨.ref Cc :: vs, []⟩)) := by
    refine ⟨a.handled, ?_, ?_⟩
    · rw [depth_under_make]; have := a.depth; lia
    · rw [units_under_make]; have := a.units; lia
  refine h (hh.objs.size + 1) hh.objs.size P _ _ (.ref (hh.objs.size + 1) :: vs) [] _ hA R₂ (.cons .ref hv) .nil fun P' x v st' h' tk hx S' R' hv' => ?_
  refine xe02 hx fun qe0 hp => ?_; clear hx; subst qe0
  cases hv'
  exact ⟨rfl, k P' (.ref _) _ st' h' tk hp ((S₁.trans S₂).trans S') R' .ref⟩
structure SetOk (K : Frag) (Cc : Addr) (name : PySem.Str) : Prop where
  s : findIn K (.ref Cc) "__setattr__" = some (some (.builtin "object.__setattr__"))
  p : plainOver K Cc = true
  t : takerIn K Cc name = some Option.none
  d : ∃ cd, clsIn K Cc = some cd ∧ cd.hasDict = true
theorem nsSet_sz {M : Model} {A : Around} {E : Value → Shared → Prop} {s : Shared} {a : Addr} {o : Obj} {es : Array DictEntry} {ep : Nat} {name : PySem.Str} {v : Value} {Q : Unit → Shared → Prop} (ho : s.heap.get? a = some o) (hd : o.data = .dict es ep) (hk : StrKeys es)
    (h : ∀ h' o' es' ep', h'.get? a = some o' → o'.data = .dict es' ep' → StrKeys es' → es'.size ≤ es.size + 1 → (∀ z, nsFind es' z = if z = name then some v else nsFind es z) → Heap.SameBut a s.heap h' → Q () { s with heap := h', toks := s.toks + 1 }) : wpAny M A (nsSet a name v) Q E s := fun Γ p hΓ => by
  simp only [nsSet, strHash, Sem.wp_bind', Sem.wp_cmd_ask, Sem.wp_pure', Sem.wp_cmd_mkText]
  rw [Sem.wp_loadPart_of M Γ (fun e _ s' => E e s') p { s with toks := s.toks + 1 } (o := o) _ ho]
  have hany : es.any (·.refKey) = false := by
    rw [Array.any_eq_false']; intro e he; refine xe21 (hk e he) fun n t h => ?_; simp [DictEntry.refKey, h]
  simp only [hd, aRefKeyMayBeTheName_eq, aRefKeyMayBeTheNameByArray, hany, Bool.and_false, Bool.false_eq_true, if_false, Sem.wp_cmd_updatePart]
  obtain ⟨c, d, dt, sl⟩ := o
  subst hd
  cases hi : es.findIdx? (·.key.isStr name) with
  | some i =>
    refine ⟨by rw [ho]; rfl, h _ _ _ ep (Heap.get?_update_self _ ho (by simp only [Obj.putName_eq, Obj.putNameByArray, hi]; rfl)) (by simp only [Obj.putName_eq, Obj.putNameByArray, hi]; rfl) (hk.modify _ _) (by simp) (fun x => ?_) (Heap.SameBut.update ..)⟩
    exact findBy_modify (fun n v => v.isStr n) Value.isStr_inj es name x v i hi
  | none =>
    refine ⟨by rw [ho]; rfl, h _ _ _ (ep + 1) (Heap.get?_update_self _ ho (by simp only [Obj.putName_eq, Obj.putNameByArray, hi]; rfl)) (by simp only [Obj.putName_eq, Obj.putNameByArray, hi]; rfl) (hk.push _ _ _ _) (by simp) (fun x => ?_) (Heap.SameBut.update ..)⟩
    exact findBy_push (fun n v => v.isStr n) es name x _ _ v (fun y => by
      refine (?_ : (name == y) = decide (y = name))
      by_cases h : y = name
      · subst h; simp
      · have : ¬ name = y := fun e => h e.symm
        simp [h, this]) hi
theorem osa_at {K : Frag} {prog : Program} {w : World} {A : Around} {s : Shared} {x dx Cc : Addr} {od : Obj} {des : Array DictEntry} {ep : Nat} {name : PySem.Str} {tk : Tok} {v : Value} {R : Result → Shared → Prop} (X : K.In s.heap) (I : InstAt s.heap x (instObj Cc dx) Cc (some od)) (O : SetOk K Cc name) (hod : s.heap.get? dx = some od) (hdat : od.data = .dict des ep) (hsk : StrKeys des) (hz : des.size ≤ 1000)
    (k : ∀ h' o' es' ep', h'.get? dx = some o' → o'.data = .dict es' ep' → StrKeys es' → es'.size ≤ des.size + 1 → (∀ z, nsFind es' z = if z = name then some v else nsFind des z) → Heap.SameBut dx s.heap h' → R (.ok (.ret .none)) { s with heap := h', toks := s.toks + 1 }) :
    codeAny (model prog w) A (.call (.builtin "object.__setattr__") ⟨[.ref x, .str name tk, v], []⟩) R s := by
  refine xe12 O.d fun cd hc hd' => ?_
  refine osa_open (K := K) X I O.p O.t fun b => ?_
  obtain ⟨hx, hcl, hno, -⟩ := I
  refine wpAny_bind (wpAny_pure (wpAny_bind (wpAny_bind (wpAny_loadPart hx (wpAny_bind ((looks_clsIn X hc).here ?_))))))
  rw [hd']
  refine wpAny_pure (a := some dx) (wpAny_bind (wpAny_pure (wpAny_bind ?_)))
  refine nsSet_sz hod hdat hsk fun h' o' es' ep' g1 g2 g3 g4 g5 g6 => ?_
  refine wpAny_bind (wpAny_lookBehind g1 (by rw [g2]; exact pastItsLine_dict (by rw [sizeLine_eq]; lia)) ?_)
  exact wpAny_pure (k h' o' es' ep' g1 g2 g3 g4 g5 g6)
theorem set_at {x dx Cc : Addr} {es : List (PySem.Str × AV)} {name : PySem.Str} {y : AV} {st' : St} (G : Gd C) (I : OI st x dx Cc es) (O : SetOk C.K Cc name) (u : Upd st dx (.idict es) (.idict ((name, y) :: es)) st') (hz : es.length ≤ 1000)
    {P : PM} {A : Around} {s : Shared} {v : Value} {Q : Unit → Shared → Prop} {E : Value → Shared → Prop} (R : Rp C P st s.heap) (hv : VRep C P y v)
    (k : ∀ h' tk, Step P P st st' s.heap h' → Rp C P st' h' → Q () { s with heap := h', toks := tk }) : wpAny (model C.prog C.w) A (setAttr (.ref x) name v) Q E s := by
  refine xe37 (I.at R) fun od des ep I' hod hdat hsk hsz hget hmiss => ?_
  have X : C.K.In s.heap := G.kin.keeps R.h0
  refine set_plain (K := C.K) X I' O.s (osa_at (K := C.K) (s := { s with toks := s.toks + 1 }) X I' O hod hdat hsk (by lia) fun h' o' es' ep' ho' hd2 hk2 hz2 hm2 hs' => ?_)
  have hrep : ORep C P (.idict ((name, y) :: es)) o' := by
    refine .idict hd2 hk2 (by rw [List.length_cons]; lia) (fun z w e => ?_) (fun z e => ?_)
    · rw [hm2]
      rw [List.lookup_cons] at e
      by_cases q : z = name
      · subst q
        simp at e; subst e
        exact ⟨v, by simp, hv⟩
      · have : (z == name) = false := beq_eq_false_iff_ne.mpr q
        rw [this] at e
        refine xe12 (hget z w e) fun w' e1 e2 => ?_
        exact ⟨w', by simp [q, e1], e2⟩
    · rw [hm2]
      rw [List.lookup_cons] at e
      by_cases q : z = name
      · subst q; simp at e
      · have : (z == name) = false := beq_eq_false_iff_ne.mpr q
        rw [this] at e
        simp [q, hmiss z e]
  refine xe02 (R.upd u hs' ho' hrep) fun R' S' => ?_
  exact k h' _ S' R'
theorem Ex1.setattr {o value : Expr} {name : PySem.Str} {p p' : Pos} {Post : Fl → Locs → St → Prop} (hsw : ∀ env, env.scope = sc → swapsWith value (some (.Attribute o name p')) p.line env = pure false) (G : Gd C)
    (h : Ev C lv sc cel loc value st fun y st₁ => Ev C lv sc cel loc o st₁ fun ov st₂ => ∃ x dx Cc es st₃, ov = .ref x ∧ OI st₂ x dx Cc es ∧ SetOk C.K Cc name ∧ Upd st₂ dx (.idict es) (.idict ((name, y) :: es)) st₃ ∧ es.length ≤ 1000 ∧ Post .next loc st₃) :
    Ex1 C lv sc cel loc (.Assign [.Attribute o name p'] value p) st Post := fun P A env s Q E a en R F k => by
  refine plainObj_wpAny_Assign_Attribute (h P A env s _ E a en R F fun P₁ y v st₁ h₁ k₁ hy S₁ R₁ hv => ?_) (hsw env en.scope)
  refine hy P₁ A env _ _ E a en R₁ (F.step S₁) fun P₂ ov w st₂ h₂ k₂ hx S₂ R₂ hw => ?_
  refine xe56 hx fun x dx Cc es st₃ qe0 I O u hz hp => ?_; clear hx; subst qe0
  cases hw
  refine set_at G I O u hz R₂ (hv.mono S₂.p) fun h' tk S' R' => ?_
  have S₀ := (S₁.trans S₂).trans S'
  exact k P₂ .next .next loc st₃ h' tk hp (S₀.toX _) R' (F.step S₀) .next
theorem attr_at {x dx Cc : Addr} {es : List (PySem.Str × AV)} {name : PySem.Str} {y : AV} {cd : ClassData} (G : Gd C) (I : OI st x dx Cc es) (hy : es.lookup name = some y) (hh : handedA y = true) (hc : clsIn C.K Cc = some cd) (hcd : cd.hasDict = true) (hf : findIn C.K (.ref Cc) name = some Option.none) (hga : findIn C.K (.ref Cc) "__getattribute__" = some (some (.builtin "object.__getattribute__")))
    {P : PM} {A : Around} {s : Shared} {Q : Value → Shared → Prop} {E : Value → Shared → Prop} {expr : Bool} (R : Rp C P st s.heap) (k : ∀ u tk, VRep C P y u → Q u { s with toks := tk }) : wpAny (model C.prog C.w) A (getAttr (.ref x) name expr) Q E s := by
  refine xe37 (I.at R) fun od des ep I' hod hdat hsk hsz hget hmiss => ?_
  refine xe12 (hget _ _ hy) fun u hu hvu => ?_
  have hfo : findObj C.K Cc (some od) name = some (.value u) := by
    unfold findObj
    rw [hc, hf]
    simp only [Option.bind_some]
    unfold PySem.W.ownOf
    rw [hcd, if_pos rfl]
    dsimp only
    rw [lookIn_ns hdat hsk, hu]
    rfl
  exact get_value (K := C.K) (G.kin.keeps R.h0) I' hga hfo (handed_of hh hvu) (k u _ hvu)
theorem Ex1.augattr {o value : Expr} {name : PySem.Str} {op : Operator} {p p' : Pos} {Post : Fl → Locs → St → Prop} (G : Gd C)
    (h : Ev C lv sc cel loc o st fun ov st₁ => ∃ x dx Cc es y cd, ov = .ref x ∧ OI st₁ x dx Cc es ∧ es.lookup name = some y ∧ handedA y = true ∧ clsIn C.K Cc = some cd ∧ cd.hasDict = true ∧ findIn C.K (.ref Cc) name = some Option.none ∧ findIn C.K (.ref Cc) "__getattribute__" = some (some (.builtin "object.__getattribute__")) ∧
      Ev C lv sc cel loc value st₁ fun z st₂ => Op2 C lv (inplaceOp op) y z st₂ fun r st₃ => ∃ es' st₄, OI st₃ x dx Cc es' ∧ SetOk C.K Cc name ∧ Upd st₃ dx (.idict es') (.idict ((name, r) :: es')) st₄ ∧ es'.length ≤ 1000 ∧ Post .next loc st₄) :
    Ex1 C lv sc cel loc (.AugAssign (.Attribute o name p') op value p) st Post := fun P A env s Q E a en R F k => by
  refine wpAny_AugAssign_AttributeAny (h P A env s _ E a en R F fun P₁ ov w st₁ h₁ k₁ hx S₁ R₁ hw => ?_)
  obtain ⟨x, dx, Cc, es, y, cd, rfl, I, hy, hh, hc, hcd, hf, hga, hx⟩ := hx
  cases hw
  refine attr_at G I hy hh hc hcd hf hga R₁ fun u tk hu => ?_
  refine hx P₁ A env _ _ E a en R₁ (F.step S₁) fun P₂ z v st₂ h₂ k₂ hz S₂ R₂ hv => ?_
  refine hz P₂ A _ u v _ E a R₂ (hu.mono S₂.p) hv fun P₃ r w st₃ h₃ k₃ hr S₃ R₃ hw => ?_
  refine xe25 hr fun es' st₄ I' O u' hz' hp => ?_; clear hr
  refine set_at G I' O u' hz' R₃ hw fun h' tk S' R' => ?_
  have S₀ := ((S₁.trans S₂).trans S₃).trans S'
  exact k P₃ .next .next loc st₄ h' tk hp (S₀.toX _) R' (F.step S₀) .next
end
section
set_option maxHeartbeats 1000000
variable {C : Cx} {lv : Nat} {sc : Scope} {cel : List (PySem.Str × Addr)} {loc : Locs} {st : St}

theorem Bn.peek (G : Gd C) {fd : FuncData} {args : List AV} {kw : List (PySem.Str × AV)} {out : Locs} {Post : Locs → St → Prop} (bo : List Value → List (PySem.Str × Value) → List (PySem.Str × Value))
    (hb : ∀ (S : Setting) (vs : List Value) (kvs : List (PySem.Str × Value)), vs.length = args.length → kvs.map (·.1) = kw.map (·.1) → PySem.W.peek C.K S (bindArgs fd ⟨vs, kvs⟩) = some (bo vs kvs))
    (hr : ∀ (P : PM) (vs : List Value) (kvs : List (PySem.Str × Value)), VReps C P args vs → VEnts C P kw kvs → VEnts C P out (bo vs kvs)) (hp : Post out st) : Bn C fd args kw st Post :=
  fun P A s vs kvs Q E R hv hk k => by
    have X : C.K.In s.heap := G.kin.keeps R.h0
    exact kp_binds X (fun S => hb S vs kvs hv.length.symm hk.keys) (model C.prog C.w) A E Q (k P out _ st s.heap s.toks hp (Step.refl ..) R (hr P vs kvs hv hk))
theorem Pg.fnB (G : Pg C) {a : Addr} {oc : Value} {od : Option Addr} {fd : FuncData} {osl : Array (Option Value)} {body : List Stmt} {args : List AV} {kw : List (PySem.Str × AV)} {Post : AV → St → Prop} (out : Addr → Locs) (st₁ : Addr → St) (ns : List PySem.Str)
    (ho : (KF C.w.params).lookup a = some ⟨oc, od, .func fd, osl⟩) (hcd : codeIn (KF C.w.params) fd.code fd.qualname = true) (hb : fd.body = .stmts body) (hclo : fd.closure = []) (hgl : fd.globals = mainGlobals) (hbu : fd.builtins = builtinsNs)
    (hco : fd.scope.isCoroutine = false) (hgen : fd.scope.isGenerator = false) (hk : fd.scope.kind = .function) (hok : okFn fd.scope ns = true) (hns : ∀ D, (out D).map (·.1) = ns) (hcn : cellNames fd.scope = [])
    (hbn : ∀ Post' : Locs → St → Prop, (∀ D, Post' (out D) (st₁ D)) → Bn C fd args kw st Post') (sc : Scope) (hsc : fd.scope = sc)
    (h : ∀ D, Ex C lv sc [] (out D) body (st₁ D) (retP Post)) :
    Fn C (lv + 1) (.ref a) args kw st Post := by
  subst hsc
  unfold okFn at hok
  simp only [Bool.and_eq_true] at hok
  obtain ⟨⟨⟨h1, h2⟩, h3⟩, h4⟩ := hok
  refine Fn.def G.gd (by rw [G.k]; exact ho) (by rw [G.k]; exact hcd) hb hclo hgl hbu hco hgen hk (hbn _ fun D => ⟨by rw [hns D]; exact nodupB_of h1, fun x hx => ?_, fun x hx => ?_, nodupB_of h4, fun cel hcel => ?_⟩)
  · have hm : x.1 ∈ ns := by rw [← hns D]; exact List.mem_map_of_mem hx
    have := List.all_eq_true.mp h2 _ hm
    rw [Bool.or_eq_true, Bool.and_eq_true] at this
    rcases this with q | ⟨q, z⟩
    · exact .inl (kindL_of.mp q)
    · rw [hcn] at z; simp at z
  · have := List.all_eq_true.mp h3 x hx
    intro z
    rw [kindL_of.mpr z] at this
    simp at this
  · have hcel' : cel.map (·.1) = (cellNames fd.scope).reverse := hcel
    rw [hcn] at hcel'
    obtain rfl := List.map_eq_nil_iff.mp hcel'
    clear hcel
    have e : ((out D).filter fun x => decide (fd.scope.names.lookup x.1 = some .local)) = out D := by
      refine List.filter_eq_self.mpr fun x hx => ?_
      have hm : x.1 ∈ ns := by rw [← hns D]; exact List.mem_map_of_mem hx
      have := List.all_eq_true.mp h2 _ hm
      rw [Bool.or_eq_true, Bool.and_eq_true] at this
      rcases this with q | ⟨q, z⟩
      · exact decide_eq_true (kindL_of.mp q)
      · rw [hcn] at z; simp at z
    rw [e]
    exact h D
end
section
set_option maxHeartbeats 1000000
variable {C : Cx} {lv : Nat} {sc : Scope} {cel : List (PySem.Str × Addr)} {loc : Locs} {st : St}

theorem Cl.typeL {x : AV} {xs : List AV} {Post : AV → St → Prop} (l : LV st x xs) (hp : Post (.val (.type "list")) st) : Cl C lv (.type "type") [x] [] st Post :=
  Cl1.cl (fun P A s v Q E a R hv k => by
    refine xe33 (l.at R hv) fun b vs n qe0 e hvs => ?_; subst qe0
    exact call_type_of (isL e).typeIs (by decide +kernel) (k _ s.toks .val)) hp
theorem Cl.typeS {x : PySem.Str} {Post : AV → St → Prop} (hp : Post (.val (.type "str")) st) : Cl C lv (.type "type") [.str x] [] st Post :=
  Cl1.cl (fun P A s v Q E a R hv k => by
    cases hv
    exact call_type_of (typeIs_str _ _ _) (by decide +kernel) (k _ s.toks .val)) hp
theorem Op2.isNotNoneN {Post : AV → St → Prop} (hp : Post (.bool false) st) : Op2 C lv (compareOp .IsNot) .none .none st Post :=
  Op2.pureV hp fun P A s u v Q E _ R hu hv k => by obtain rfl := hu.none_inv; obtain rfl := hv.none_inv; exact isNot_none (k _ s.toks .bool)
theorem Op2.isNotNoneS {x : PySem.Str} {Post : AV → St → Prop} (hp : Post (.bool true) st) : Op2 C lv (compareOp .IsNot) (.str x) .none st Post :=
  Op2.pureV hp fun P A s u v Q E _ R hu hv k => by refine xe11 hu.str_inv fun _ qe0 => ?_; subst qe0; obtain rfl := hv.none_inv; exact isNot_none (k _ s.toks .bool)
theorem Op2.isNoneS {x : PySem.Str} {Post : AV → St → Prop} (hp : Post (.bool false) st) : Op2 C lv (compareOp .Is) (.str x) .none st Post :=
  Op2.pureV hp fun P A s u v Q E _ R hu hv k => by refine xe11 hu.str_inv fun _ qe0 => ?_; subst qe0; obtain rfl := hv.none_inv; exact is_none (k _ s.toks .bool)
theorem Op2.isT {T : String} {Post : AV → St → Prop} (hp : Post (.bool true) st) : Op2 C lv (compareOp .Is) (.val (.type T)) (.val (.type T)) st Post :=
  Op2.pureV hp fun P A s u v Q E _ R hu hv k => by obtain rfl := hu.val_inv; obtain rfl := hv.val_inv; exact wpAny_is_self rfl (k _ s.toks .bool)
theorem Op2.isNotT {T : String} {Post : AV → St → Prop} (hp : Post (.bool false) st) : Op2 C lv (compareOp .IsNot) (.val (.type T)) (.val (.type T)) st Post :=
  Op2.pureV hp fun P A s u v Q E _ R hu hv k => by obtain rfl := hu.val_inv; obtain rfl := hv.val_inv; exact wpAny_isNot_self rfl (k _ s.toks .bool)
end
section
variable {C : Cx} {lv : Nat} {sc : Scope} {cel : List (PySem.Str × Addr)} {loc : Locs} {st : St}
set_option pp.deepTerms false
set_option pp.maxSteps 2000
theorem setok_headers (G : Pg C) : SetOk C.K 259 (Str.ofString "_headers") := by
  rw [G.k]
  exact ⟨rfl, rfl, rfl, _, rfl, rfl⟩
theorem hinit_fn (G : Pg C) {x dx : Addr} (I : OI st x dx 259 []) : Fn C (lv + 1) (.ref 153) [.ref x] [] st fun y st' => y = .none ∧ ∃ H st₂, st' = (H, .list []) :: st₂ ∧ Upd st dx (.idict []) (.idict [(Str.ofString "_headers", .ref H)]) st₂ := by
  refine' Pg.fnB G (fun _ => [(Str.ofString "self", .ref x), (Str.ofString "headers", .none)]) (fun _ => st) [Str.ofString "self", Str.ofString "headers"] ?ho ?hcd ?hb ?hclo ?hgl ?hbu ?hco ?hgen ?hk ?hok ?hns ?hcn ?hbn _ ?hsc ?h
  case ho => exact rfl
  case hcd => exact rfl
  case hb => exact rfl
  case hclo => exact rfl
  case hgl => exact rfl
  case hbu => exact rfl
  case hco => exact rfl
  case hgen => exact rfl
  case hk => exact rfl
  case hok => exact rfl
  case hns => exact fun _ => rfl
  case hcn => exact rfl
  case hbn =>
    intro Post' hp
    refine Bn.peek G.gd (fun vs _ => [(Str.ofString "self", vs.headD .none), (Str.ofString "headers", .none)]) (fun S => len10 fun v => by rw [G.k]; rfl) (fun P vs kvs h1 h2 => ?_) (hp 0)
    · cases h1 with
      | cons h1 h2 => exact .cons h1 (.cons .none .nil)
  case hsc => dsimp only; exact rfl
  intro _
  repeat walk_at "go"
  refine Op2.isNotNoneN ?_
  repeat walk_at "go"
  refine Ev.lstM rfl ?_
  repeat walk_at "go"
  intro H
  repeat walk_at "go"
  refine Cl.typeL (.ref List.mem_cons_self) ?_
  repeat walk_at "go"
  refine Op2.isNotT ?_
  repeat walk_at "go"
  have I' : OI ((H, AO.list []) :: st) x dx 259 [] := ⟨List.mem_cons_of_mem _ I.x, List.mem_cons_of_mem _ I.d⟩
  refine xe11 (Upd.of_mem I.d (.idict [(Str.ofString "_headers", .ref H)])) fun s2 u2 => ?_
  refine Ex1.setattr (by walk_at "sw") G.gd ?_
  repeat walk_at "go"
  refine ⟨x, dx, 259, [], _, rfl, I', setok_headers G, .tail u2, by decide, ?_⟩
  walk_at "go"
  walk_at "go"
  refine Tr.val (fun _ _ => rfl) ?_
  walk_at "go"
  refine ⟨_, truB, iteT ?_⟩
  walk_at "go"
  refine Ex1.loopW (fun _ _ => rfl) ?_
  repeat walk_at "go"
  refine ⟨[], _, ItW.ref List.mem_cons_self, fun _ _ s => s = (H, AO.list []) :: s2, rfl, fun _ _ s e => by rw [e]; exact List.mem_cons_self, fun i y l s hy => by simp at hy, fun l s e => ?_⟩
  subst e
  repeat walk_at "go"
  exact ⟨rfl, H, s2, rfl, u2⟩
end
section
variable {C : Cx} {lv : Nat} {sc : Scope} {cel : List (PySem.Str × Addr)} {loc : Locs} {st : St}
set_option pp.deepTerms false
set_option pp.maxSteps 2000
theorem plainAttrs_rx : PlainAttrs "re.Pattern" :=
  ⟨⟨"object.__getattribute__", by rw [typeLookup_type, builtinLookup_eq_fast]; kernel_rfl, by decide +kernel⟩, by rw [typeLookup_type, builtinLookup_eq_fast]; kernel_rfl⟩
theorem slot_rx_search : Slot "re.Pattern" "search" "re.Pattern.search" :=
  .of (owner := "re.Pattern") (n := "search") (by rw [typeLookup_type, builtinLookup_eq_fast]; kernel_rfl) (by decide +kernel) (by decide +kernel) (by decide +kernel)
    (by first | exact .inl (by decide +kernel) | exact .inr (by decide +kernel)) (by rw [isSubtype_type]; kernel_rfl)
theorem type_rx_search : typeOf (.builtin "re.Pattern.search") = pure (.type "method_descriptor") := by refine (?_ : builtinType _ = _); rw [builtinType_eq_fast]; kernel_rfl
theorem entry_rx_search : entryFor table "re.Pattern.search" = some Builtin.«re.Pattern.search» := entryFor_of_tree (by kernel_rfl)
theorem owner_rx : Manifest.owners.lookup (String.ofList ['n', 'r', 'e', 't', 't', 'a', 'P', '.', 'e', 'r'].reverse) = some Manifest.sig_re_Pattern := by kernel_rfl
theorem args_rx_search (a b : Value) : argsOk "re.Pattern.search" ⟨[a, b], []⟩ := by
  unfold argsOk; rw [signature?_of (id := "re.Pattern.search") (n := ['h', 'c', 'r', 'a', 'e', 's']) (o := ['n', 'r', 'e', 't', 't', 'a', 'P', '.', 'e', 'r']) (by kernel_rfl) owner_rx]; kernel_rfl
noncomputable def RxNo (C : Cx) (p : Addr) (x : PySem.Str) : Prop := ∀ (S : Setting) (t : Tok), PySem.W.peek (KF C.w.params) S (Builtin.«re.Pattern.search» ⟨[.ref p, .str x t], []⟩) = some (.done (.ret .none))
noncomputable def rxAt (K : Frag) (p : Addr) : Bool := match K.lookup p with
  | some o => (match o.cls with | .type T => T == "re.Pattern" | _ => false) && (match o.dict with | none => true | _ => false)
  | _ => false
theorem rxAt_of {K : Frag} {p : Addr} (h : rxAt K p = true) {hh : Heap} (X : K.In hh) : ∃ o, hh.get? p = some o ∧ o.cls = .type "re.Pattern" ∧ o.dict = none := by
  unfold rxAt at h
  cases e : K.lookup p with
  | none => rw [e] at h; cases h
  | some o =>
    rw [e] at h
    simp only [Bool.and_eq_true] at h
    refine ⟨o, X _ _ e, ?_, ?_⟩
    · have := h.1
      split at this
      · rename_i T q; rw [q]; rw [eq_of_beq this]
      · cases this
    · have := h.2
      split at this
      · rename_i q; exact q
      · cases this
theorem Mt.rx (G : Pg C) {p : Addr} (hp : rxAt (KF C.w.params) p = true) : Mt C (.val (.ref p)) "search" st (.builtin "re.Pattern.search") [.val (.ref p)] := fun P A s v pl Q E R hv k => by
  cases hv
  have X : C.K.In s.heap := G.gd.kin.keeps R.h0
  rw [G.k] at X
  refine xe13 (rxAt_of hp X) fun o ho hc hd => ?_
  exact getMethod_builtin ⟨o, ho, hc⟩ plainAttrs_rx slot_rx_search type_rx_search (fun b eb => by cases eb; exact ⟨o, ho, hd⟩) (k [.ref p] s.toks (.cons .val .nil))
theorem Cl.rx (G : Pg C) {p : Addr} {x : PySem.Str} {Post : AV → St → Prop} (hp : rxAt (KF C.w.params) p = true) (hr : RxNo C p x) (h : Post .none st) : Cl C lv (.builtin "re.Pattern.search") [.val (.ref p), .str x] [] st Post := fun P A s vs kvs Q E a R hv hk k => by
  obtain rfl := hk.nil_inv
  refine xe23 hv.two_inv fun _ _ qe0 h1 h2 => ?_; subst qe0
  · · cases h1
      cases h2 with
      | @str _ t =>
        have X : C.K.In s.heap := G.gd.kin.keeps R.h0
        rw [G.k] at X
        refine xe13 (rxAt_of hp X) fun o ho hc hd => ?_
        refine wpAny_call_entry slot_rx_search ⟨o, ho, hc⟩ entry_rx_search ?_ (args_rx_search _ _)
        exact (Looks.of_peek (M := model C.prog C.w) X (hr _ t)).here ⟨_, rfl, k P .none .none st s.heap s.toks h (Step.refl ..) R .none⟩
theorem truN {C : Cx} {st₁ : St} : ∀ (P : PM) (A : Around) (s : Shared) (v : Value) (Q : Bool → Shared → Prop) (E : Value → Shared → Prop), Rp C P st₁ s.heap → VRep C P .none v → (∀ k, Q false { s with toks := k }) → wpAny (model C.prog C.w) A (truthy v) Q E s :=
  fun P A s v Q E R hv k => by cases hv; exact truthy_none (k s.toks)
theorem conv_fn (G : Pg C) {x : Addr} {t : PySem.Str} {b : Bool} (hr : RxNo C (if b then 125 else 130) t) : Fn C (lv + 1) (.ref 160) [.ref x, .str t] [(Str.ofString "name", .bool b)] st fun y st' => y = .str t ∧ st' = st := by
  refine' Pg.fnB G (fun _ => [(Str.ofString "self", .ref x), (Str.ofString "value", .str t), (Str.ofString "name", .bool b)]) (fun _ => st) [Str.ofString "self", Str.ofString "value", Str.ofString "name"] ?ho ?hcd ?hb ?hclo ?hgl ?hbu ?hco ?hgen ?hk ?hok ?hns ?hcn ?hbn _ ?hsc ?h
  case ho => exact rfl
  case hcd => exact rfl
  case hb => exact rfl
  case hclo => exact rfl
  case hgl => exact rfl
  case hbu => exact rfl
  case hco => exact rfl
  case hgen => exact rfl
  case hk => exact rfl
  case hok => exact rfl
  case hns => exact fun _ => rfl
  case hcn => exact rfl
  case hbn =>
    intro Post' hp
    refine Bn.peek G.gd (fun vs kvs => [(Str.ofString "self", vs.headD .none), (Str.ofString "value", vs.tail.headD .none), (Str.ofString "name", (kvs.map (·.2)).headD .none)]) (fun S => len21 fun v u w => by rw [G.k]; rfl) (fun P vs kvs h1 h2 => ?_) (hp 0)
    · cases h1 with
      | cons h1 h3 => cases h3 with
        | cons h3 h4 => cases h2 with
          | cons h2 h5 => exact .cons h1 (.cons h3 (.cons h2 .nil))
  case hsc => dsimp only; exact rfl
  intro _
  repeat walk_at "go"
  refine Cl.typeS ?_
  repeat walk_at "go"
  refine Op2.isT ?_
  repeat walk_at "go"
  cases b with
  | true =>
    repeat walk_at "go"
    refine Tr.val (fun _ _ => rfl) ?_
    repeat walk_at "go"
    refine ⟨_, _, Mt.rx G rfl, ?_⟩
    repeat walk_at "go"
    refine Cl.rx G rfl hr ?_
    refine ⟨_, truN, iteF ?_⟩
    repeat walk_at "go"
    exact ⟨rfl, rfl⟩
  | false =>
    repeat walk_at "go"
    refine Tr.val (fun _ _ => rfl) ?_
    repeat walk_at "go"
    refine ⟨_, _, Mt.rx G rfl, ?_⟩
    repeat walk_at "go"
    refine Cl.rx G rfl hr ?_
    refine ⟨_, truN, iteF ?_⟩
    repeat walk_at "go"
    exact ⟨rfl, rfl⟩
end
section
set_option maxHeartbeats 4000000
variable {C : Cx}
theorem rxn_sign : ∀ c ∈ [97, 98, 34, 92, 32, 99, 65, 66, 67], RxNo C 125 ⟨#[c]⟩ := by
  intro c hc
  simp only [List.mem_cons, List.not_mem_nil, or_false] at hc
  rcases hc with e | e | e | e | e | e | e | e | e <;> (subst e; exact fun S t => by kernel_rfl)
theorem rxv_sign : ∀ c ∈ [97, 98, 34, 92, 32, 99], RxNo C 130 ⟨#[c]⟩ := by
  intro c hc
  simp only [List.mem_cons, List.not_mem_nil, or_false] at hc
  rcases hc with e | e | e | e | e | e <;> (subst e; exact fun S t => by kernel_rfl)
theorem rxn_x : RxNo C 125 (Str.ofString "x") := fun S t => by kernel_rfl
theorem rxn_line : RxNo C 125 (Str.ofString "line") := fun S t => by kernel_rfl
noncomputable def wordN (t : Nat) : List Nat := ([97, 98, 34, 92, 32, 99, 97, 98, 34, 92, 32, 99].drop t).take 6
noncomputable def wordT (t : Nat) : PySem.Str := ⟨(wordN t).toArray⟩
theorem rxv_word : ∀ t < 6, RxNo C 130 (wordT t) := by
  intro t ht
  match t, ht with
  | 0, _ => exact fun S t => by kernel_rfl
  | 1, _ => exact fun S t => by kernel_rfl
  | 2, _ => exact fun S t => by kernel_rfl
  | 3, _ => exact fun S t => by kernel_rfl
  | 4, _ => exact fun S t => by kernel_rfl
  | 5, _ => exact fun S t => by kernel_rfl
end
section
set_option maxHeartbeats 1000000
variable {C : Cx} {lv : Nat} {sc : Scope} {cel : List (PySem.Str × Addr)} {loc : Locs} {st : St}

theorem wp_peekA' {α : Type} {K : Frag} {M : Model} {A : Around} {E : Value → Shared → Prop} {Q : α → Shared → Prop} {s : Shared} {o : Obj} (X : K.In s.heap) :
    ∀ (t : Sem α) (g : Addr → Sem α), peekA K ⟨M.prog, M.w.params⟩ t = some (o, g) → wpAny M A (g s.heap.objs.size) Q E { s with heap := s.heap.push o } → wpAny M A t Q E s := by
  intro t
  induction t with
  | rule _ k ih => intro g e q Γ p hΓ; exact ih () g e q Γ p hΓ
  | point _ k ih => intro g e q Γ p hΓ; exact ih () g e q Γ p hΓ
  | ask k ih => intro g e q Γ p hΓ; exact ih _ g e q Γ p hΓ
  | load a _ k ih =>
    intro g e q Γ p hΓ
    simp only [peekA] at e
    split at e
    · rename_i ob ho; exact ⟨ob, X _ _ ho, ih ob g e q Γ p hΓ⟩
    · cases e
  | alloc ob k _ =>
    intro g e q
    have e : some (ob, k) = some (o, g) := e
    refine xe02 (Prod.mk.inj (Option.some.inj e)) fun e1 e2 => ?_
    subst e1
    subst e2
    refine (?_ : wpAny M A (alloc ob >>= k) Q E s)
    exact wpAny_bind (wpAny_alloc q)
  | _ => intro g e; cases e

section
variable {prog : Program} {w : World} {A : Around} {E : Value → Shared → Prop} {d : Addr}
theorem nsSet_at {s : Shared} {es : List DictEntry} {n : Nat} {k : PySem.Str} {v : Value} {Q : Unit → Shared → Prop} (D : s.heap.get? d = some (PySem.W.dictOf es n))
    (hs : ∀ e ∈ es, e.key.isStr k = false) (hr : ∀ e ∈ es, e.refKey = false)
    (h : ∀ h', h'.get? d = some (PySem.W.dictOf (es ++ [⟨PyData.keyHash w.params k, .str k s.toks, v⟩]) (n + 1)) → Heap.SameBut d s.heap h' → Q () { s with heap := h', toks := s.toks + 1 }) :
    wpAny (model prog w) A (nsSet d k v) Q E s := by
  have e1 : es.any (·.key.isStr k) = false := by
    cases q : es.any (·.key.isStr k) with
    | false => rfl
    | true => refine xe12 (List.any_eq_true.mp q) fun e he z => ?_; rw [hs e he] at z; cases z
  have e2 : es.any (·.refKey) = false := by
    cases q : es.any (·.refKey) with
    | false => rfl
    | true => refine xe12 (List.any_eq_true.mp q) fun e he z => ?_; rw [hr e he] at z; cases z
  have e : Obj.putName k (PyData.keyHash w.params k) (.str k s.toks) v (PySem.W.dictOf es n) = PySem.W.dictOf (es ++ [⟨PyData.keyHash w.params k, .str k s.toks, v⟩]) (n + 1) := by
    rw [putName_dict, putL_new hs]
    refine (?_ : PySem.W.dictOf _ (if es.any (·.key.isStr k) then n else n + 1) = _)
    rw [e1, if_neg Bool.false_ne_true]
  have c : aRefKeyMayBeTheName k es.toArray = false := by
    rw [aRefKeyMayBeTheName_at, ← Array.any_toList, ← Array.any_toList]
    refine (?_ : (!es.any (·.key.isStr k) && es.any (·.refKey)) = false)
    rw [e2, Bool.and_false]
  unfold nsSet
  refine wpAny_bind (wpAny_bind (wpAny_askSetting (wpAny_pure (wpAny_bind (wpAny_mkText (wpAny_bind (wpAny_loadPart D ?_)))))))
  dsimp only
  rw [c]
  refine wpAny_updatePart D (h _ ?_ (Heap.SameBut.update ..))
  rw [← e]
  exact Heap.get?_update_self _ D (by refine (?_ : (Obj.putName k (PyData.keyHash w.params k) (.str k s.toks) v (PySem.W.dictOf es n)).isFreed = false); rw [e]; rfl)
theorem fill_at {Q : PUnit → Shared → Prop} : ∀ (ex : List (PySem.Str × Value)) (s : Shared) (es : List DictEntry) (n : Nat), s.heap.get? d = some (PySem.W.dictOf es n) →
    (∀ e ∈ es, ∀ x ∈ ex, e.key.isStr x.1 = false) → (∀ e ∈ es, e.refKey = false) → (ex.map (·.1)).Nodup →
    (∀ h', h'.get? d = some (PySem.W.dictOf (es ++ kwEs w.params s.toks ex) (n + ex.length)) → Heap.SameBut d s.heap h' → Q ⟨⟩ { s with heap := h', toks := s.toks + ex.length }) →
    wpAny (model prog w) A (forIn ex PUnit.unit fun x _ => (nsSet d x.1 x.2 >>= fun _ => pure (ForInStep.yield PUnit.unit))) Q E s
  | [], s, es, n, D, _, _, _, h => by
    rw [List.forIn_nil]
    refine wpAny_pure (h s.heap ?_ ⟨rfl, fun _ _ => rfl⟩)
    refine (?_ : s.heap.get? d = some (PySem.W.dictOf (es ++ []) n))
    rw [List.append_nil]; exact D
  | x :: r, s, es, n, D, hs, hr, hn, h => by
    refine xe02 (List.nodup_cons.mp (show (x.1 :: r.map (·.1)).Nodup from hn)) fun hn1 hn2 => ?_
    rw [List.forIn_cons]
    refine wpAny_bind (wpAny_bind (nsSet_at D (fun e he => hs e he x (.head _)) hr fun h' D' S' => wpAny_pure ?_))
    refine (?_ : wpAny (model prog w) A (forIn r PUnit.unit fun x _ => (nsSet d x.1 x.2 >>= fun _ => pure (ForInStep.yield PUnit.unit))) Q E { s with heap := h', toks := s.toks + 1 })
    refine fill_at r { s with heap := h', toks := s.toks + 1 } _ _ D' (fun e he y hy => ?_) (fun e he => ?_) hn2 fun h'' D'' S'' => ?_
    · rcases List.mem_append.mp he with he | he
      · exact hs e he y (.tail _ hy)
      · obtain rfl := List.mem_singleton.mp he
        refine (?_ : (x.1 == y.1) = false)
        exact beq_eq_false_iff_ne.mpr fun q => hn1 (by rw [q]; exact List.mem_map_of_mem hy)
    · rcases List.mem_append.mp he with he | he
      · exact hr e he
      · obtain rfl := List.mem_singleton.mp he
        rfl
    · have t1 : s.toks + 1 + r.length = s.toks + (r.length + 1) := by lia
      have t2 : n + 1 + r.length = n + (r.length + 1) := by lia
      refine (?_ : Q ⟨⟩ { s with heap := h'', toks := s.toks + 1 + r.length })
      rw [t1]
      refine h h'' ?_ ⟨S''.1.trans S'.1, fun b hb => (S''.2 b hb).trans (S'.2 b hb)⟩
      rw [t2] at D''
      rw [List.append_assoc] at D''
      exact D''
end
noncomputable def PureE (es : List (PySem.Str × AV)) (kvs : List (PySem.Str × Value)) : Prop := ∀ (C : Cx) (P : PM), VEnts C P es kvs
inductive StrE : List (PySem.Str × AV) → Prop
  | nil : StrE []
  | cons {k x : PySem.Str} {es : List (PySem.Str × AV)} : StrE es → StrE ((k, .str x) :: es)
theorem StrE.pure : ∀ {es : List (PySem.Str × AV)}, StrE es → ∀ {P : PM} {kvs : List (PySem.Str × Value)}, VEnts C P es kvs → PureE es kvs
  | _, .nil, _, _, .nil => fun _ _ => .nil
  | _, .cons h, _, _, .cons h1 h2 => fun C' P' => .cons (by cases h1; exact .str) (h.pure h2 C' P')
theorem Bn.more (G : Gd C) {fd : FuncData} {args : List AV} {kw : List (PySem.Str × AV)} {Post : Locs → St → Prop} (ns : List PySem.Str) (nm : PySem.Str)
    (hb : ∀ (S : Setting) (vs : List Value) (kvs : List (PySem.Str × Value)), vs.length = args.length → kvs.map (·.1) = kw.map (·.1) → ∃ g, peekA C.K S (bindArgs fd ⟨vs, kvs⟩) = some (PySem.W.dictOf [] 0, g) ∧
      ∀ D, g D = (forIn kvs PUnit.unit (fun x _ => (nsSet D x.1 x.2 >>= fun _ => pure (ForInStep.yield PUnit.unit))) >>= fun _ => pure (ns.zip vs ++ [(nm, Value.ref D)])))
    (hs : StrE kw) (hn : (kw.map (·.1)).Nodup) (hp : ∀ D o kvs, o.IsDictOf (strKind C.prog C.w) kvs → PureE kw kvs → Post (ns.zip args ++ [(nm, .ref D)]) ((D, .raw o) :: st)) : Bn C fd args kw st Post :=
  fun P A s vs kvs Q E R hv hk k => by
    have X : C.K.In s.heap := G.kin.keeps R.h0
    refine xe12 (hb ⟨C.prog, C.w.params⟩ vs kvs hv.length.symm hk.keys) fun g hg hgD => ?_
    have hnd : (kvs.map (·.1)).Nodup := by rw [hk.keys]; exact hn
    refine wp_peekA' (M := model C.prog C.w) X _ g hg ?_
    rw [hgD]
    refine xe02 (R.push (x := .raw (PySem.W.dictOf [] 0)) (o := PySem.W.dictOf [] 0) .raw rfl) fun R₁ S₁ => ?_
    refine wpAny_bind (fill_at kvs { s with heap := s.heap.push (PySem.W.dictOf [] 0) } [] 0 (Heap.get?_push_size _ rfl) (fun _ he => nomatch he) (fun _ he => nomatch he) hnd fun h' D' S' => wpAny_pure ?_)
    refine xe02 (R₁.upd (.head (y := .raw (PySem.W.dictOf ([] ++ kwEs C.w.params s.toks kvs) (0 + kvs.length)))) S' D' .raw) fun R₂ S₂ => ?_
    refine k P _ _ _ h' _ (hp _ _ kvs (kp_isDict s.toks (0 + kvs.length) hnd) (hs.pure hk)) (S₁.trans S₂) R₂ ?_
    exact (VEnts.zip hv).app (.cons .ref .nil)
theorem VEnts.get {P : PM} {es : List (PySem.Str × AV)} {kvs : List (PySem.Str × Value)} (h : VEnts C P es kvs) : ∀ {i : Nat} {k : PySem.Str} {y : AV}, es[i]? = some (k, y) → ∃ u, kvs[i]? = some (k, u) ∧ VRep C P y u :=
  h.ind (motive := fun es kvs => ∀ {i : Nat} {k : PySem.Str} {y : AV}, es[i]? = some (k, y) → ∃ u, kvs[i]? = some (k, u) ∧ VRep C P y u) (fun e => nomatch e) fun {k' x v es kvs} h1 _ ih i k y e => by
    cases i with
    | zero => cases e; exact ⟨v, rfl, h1⟩
    | succ i => exact ih e
theorem VEnts.len {P : PM} {es : List (PySem.Str × AV)} {kvs : List (PySem.Str × Value)} (h : VEnts C P es kvs) : es.length = kvs.length := h.ind (motive := fun es kvs => es.length = kvs.length) rfl fun _ _ ih => congrArg Nat.succ ih
noncomputable def itemsObj (D : Addr) : Obj := { cls := .type "dict_items", data := .fields #[.ref D] }
theorem Mt.rawDict {D : Addr} {o : Obj} {kvs : List (PySem.Str × Value)} {name : PySem.Str} {id : String} (slot : Slot "dict" name id) (hty : typeOf (.builtin id) = pure (.type "method_descriptor")) (hm : (D, AO.raw o) ∈ st) (hd : o.IsDictOf (strKind C.prog C.w) kvs) : Mt C (.ref D) name st (.builtin id) [.ref D] :=
  fun P A s v pl Q E R hv k => by
    cases hv
    refine xe12 (R.at hm) fun o' ho hr => ?_
    cases hr
    refine xe23 hd fun es ep hex hdat hr => ?_; clear hd
    exact getMethod_builtin ⟨o, ho, hex.1⟩ PySem.F.plainAttrs_dict slot hty (fun b eb => by cases eb; exact ⟨_, ho, hex.2.1⟩) (k [.ref D] s.toks (.cons .ref .nil))
theorem Cl.rawItems {D : Addr} {o : Obj} {kvs : List (PySem.Str × Value)} {Post : AV → St → Prop} (hm : (D, AO.raw o) ∈ st) (hd : o.IsDictOf (strKind C.prog C.w) kvs) (hp : ∀ V, Post (.ref V) ((V, .raw (itemsObj D)) :: st)) : Cl C lv (.builtin "dict.items") [.ref D] [] st Post := fun P A s vs kvs' Q E a R hv hk k => by
  obtain rfl := hk.nil_inv
  refine xe12 hv.one_inv fun _ qe0 h1 => ?_; subst qe0
  · cases h1
    refine xe12 (R.at hm) fun o' ho hr => ?_
    cases hr
    refine xe23 (id hd) fun es ep hex hdat hr => ?_
    refine xe02 (R.push (x := .raw (itemsObj D)) (o := itemsObj D) .raw rfl) fun R₂ S₂ => ?_
    have hne : (D == sysModules) = false := beq_eq_false_iff_ne.mpr fun e => R.one.1 (by have e : D = 1 := e; subst e; exact List.mem_map_of_mem hm)
    exact call_meetsIn PySem.F.slot_dict_items ⟨o, ho, hex.1⟩ PySem.F.entry_dict_items (PySem.F.args_dict_items_1 _) (meets_dict_items (strKind C.prog C.w) D hne) ⟨⟨kvs, o, es, ep, ho, hex, hdat, hr⟩, k P (.ref _) _ _ _ s.toks (hp _) S₂ R₂ .ref⟩
theorem Ex1.items {xk xv : PySem.Str} {pk pv pt p : Pos} {x1 : Nat} {iter : Expr} {body : List Stmt} {Post : Fl → Locs → St → Prop} (hfs : ∀ env x, foldedSetIterable iter env x = pure x)
    (h : Ev C lv sc cel loc iter st fun x st₁ => ∃ V D o kvs es, x = .ref V ∧ (V, AO.raw (itemsObj D)) ∈ st₁ ∧ (D, AO.raw o) ∈ st₁ ∧ o.IsDictOf (strKind C.prog C.w) kvs ∧ PureE es kvs ∧ ∃ Inv : Nat → Locs → St → Prop, Inv 0 loc st₁ ∧ (∀ i l s, Inv i l s → (D, AO.raw o) ∈ s) ∧
      (∀ i k y loc' st', es[i]? = some (k, y) → Inv i loc' st' → Bd C sc cel loc' xk (.str k) st' fun loc₂ st₂ => Bd C sc cel loc₂ xv y st₂ fun loc₃ st₃ => Ex C lv sc cel loc₃ body st₃ (loopP Inv Post (i + 1))) ∧
      (∀ loc' st', Inv es.length loc' st' → Post .next loc' st')) : Ex1 C lv sc cel loc (.For (.Tuple [.Name xk pk, .Name xv pv] x1 pt) iter body [] p) st Post := fun P A env s Q E a en R F k => by
  refine wpAny_For (h P A env s _ E a en R F fun P₁ x v st₁ h₁ k₁ hx S₁ R₁ hv => ?_) (hfs env)
  obtain ⟨V, D, o, kvs, es, rfl, hV, hD, hd, hpe, Inv, hi0, hok, hturn, hend⟩ := hx
  cases hv
  have F₁ := F.step S₁
  refine xe12 (R₁.at hV) fun oV hoV hrV => ?_
  cases hrV
  refine xe12 (R₁.at hD) fun oD hoD hrD => ?_
  cases hrD
  refine xe25 hd fun des ep hex hdat hkeys hpairs hnd => ?_; clear hd
  have DA : ∀ h : Heap, h.get? D = some o → h.DictAt (strKind C.prog C.w) D kvs ep := fun h e => ⟨o, des, e, hex, hdat, hkeys, hpairs, hnd⟩
  have hlen : es.length = kvs.length := (hpe C P₁).len
  refine wpAny_pyIter_items (knd := strKind C.prog C.w) ⟨_, hoV, rfl, rfl⟩ (DA h₁ hoD) ?_
  have hwr : h₁.get? h₁.objs.size = none := by
    cases e : h₁.get? h₁.objs.size with
    | none => rfl
    | some o => exact absurd (Heap.lt_size e) (Nat.lt_irrefl _)
  dsimp only
  generalize hI : h₁.objs.size = I at hwr ⊢
  have hput : ∀ ob : Obj, ob.isFreed = false → (h₁.push ob).get? I = some ob := fun ob hf => by rw [← hI]; exact Heap.get?_push_size _ hf
  refine xe02 (R₁.ext (h' := h₁.push { cls := .type "dict_itemiterator", data := .fields #[.none, .bool false, .ref D, .int 0 0, .int kvs.length 0, .int ep 0, .none, .none] }) fun b o e => Heap.get?_push_of_some _ e) fun R₂ S₂ => ?_
  have F₂ := F₁.step S₂
  have it₀ := hput { cls := .type "dict_itemiterator", data := .fields #[.none, .bool false, .ref D, .int 0 0, .int kvs.length 0, .int ep 0, .none, .none] } rfl
  generalize h₁.push { cls := .type "dict_itemiterator", data := .fields #[.none, .bool false, .ref D, .int 0 0, .int kvs.length 0, .int ep 0, .none, .none] } = h₂ at R₂ S₂ F₂ it₀ ⊢
  have D₂ : Lent env.locals P₁ st₁ h₂ [I] I := Lent.start R₁ F₁ List.mem_cons_self hwr fun b hb => by
    rw [List.mem_singleton.mp hb]
    exact ⟨by rw [it₀]; simp, .inl hwr⟩
  refine codeAny_forLoop_any (LpI C env I (fun i h => ∃ ok ov, IsItemIter h I D i kvs.length ep ok ov) P₁ P₁ st₁ h₁ Inv es.length s) ?_ es.length (LpI.mk 0 P₁ loc st₁ h₂ k₁ (Nat.zero_le _) hi0 R₂ F₂ D₂ ⟨_, _, it₀⟩ (S₂.toX _) fun _ _ e => e)
  rintro n s' ⟨i, P', loc', st', h', tk, hi, hInv, R', F', D', ⟨ok, ov, hit⟩, S', hPP⟩
  refine xe12 (R'.at (hok _ _ _ hInv)) fun o' ho' hr' => ?_
  cases hr'
  by_cases hlt : i < es.length
  · obtain ⟨⟨ky, y⟩, hky⟩ : ∃ q, es[i]? = some q := ⟨_, List.getElem?_eq_getElem hlt⟩
    refine xe12 ((hpe C P').get hky) fun u hu hyu => ?_
    refine wpAny_pyNext_items_item hit (DA h' ho') hu fun key h₃ hkey hit₃ hT hsz hk₃ => ?_
    refine xe11 (Value.isStrOf_shape hkey) fun tkk qe0 => ?_; subst qe0
    refine wpAny_letOwnedTupleGo_items hit₃ fun h₄ hit₄ hs₄ => ?_
    have hIlt : I < h'.objs.size := Heap.lt_size hit
    have hT₄ : h₄.get? h'.objs.size = some { cls := .type "tuple", data := .seq #[.str ky tkk, u] } := (hs₄.2 _ (Nat.ne_of_gt hIlt)).trans hT
    refine xe04 (D'.move hwr R' F' (h' := h₄) (fun b ob hb e => (hs₄.2 b fun z => hb (by simp [z])).trans (hk₃ b ob (fun z => hb (by simp [z])) e)) S') fun R₄ F₄ S₄ hDm => ?_
    have D₄ := hDm (by rw [hit₄]; simp)
    refine wpAny_assign_Tuple a.handled ⟨_, hT₄, rfl, 0, rfl⟩ rfl rfl fun h₅ hx₅ => ?_
    have up : ∀ b ob, h₄.get? b = some ob → h₅.get? b = some ob := fun b ob x => hx₅ b ob (Nat.ne_of_lt (Heap.lt_size x)) x
    refine xe02 (R₄.ext up) fun R₅ S₅ => ?_
    have F₅ := F₄.step S₅
    refine xe02 (D₄.step (S₅.toX env.locals)) fun D₅ hf₅ => ?_
    have hit₅ := up _ _ hit₄
    refine (?_ : wpAny _ A (do holding [u] (PySem.assign (.Name xk pk) env (.str ky tkk)); holding [] (PySem.assign (.Name xv pv) env u); pure ()) _ _ _)
    refine wpAny_bind (wpAny_holding (wpAny_assign_Name (hturn i ky y loc' st' hky hInv P' A env _ _ _ _ en R₅ F₅ .str fun loc₆ st₆ h₆ k₆ hb S₆ R₆ F₆ => ?_)))
    refine xe02 (D₅.step S₆) fun D₆ hf₆ => ?_
    have hit₆ := hf₆ I List.mem_cons_self _ hit₅
    refine wpAny_bind (wpAny_holding (wpAny_assign_Name (hb P' A env _ _ _ _ en R₆ F₆ hyu fun loc₇ st₇ h₇ k₇ hc S₇ R₇ F₇ => wpAny_pure ?_)))
    refine xe02 (D₆.step S₇) fun D₇ hf₇ => ?_
    have hit₇ := hf₇ I List.mem_cons_self _ hit₆
    refine hc P' A env _ _ _ a en R₇ F₇ fun P₈ f fl loc₈ st₈ h₈ k₈ hf S₈ R₈ F₈ hfl => ?_
    refine xe02 (D₇.step S₈) fun D₈ hf₈ => ?_
    have hit₈ := hf₈ I List.mem_cons_self _ hit₇
    have S₀₈ : StepX env.locals P₁ P₈ st₁ st₈ h₁ h₈ := (((S₄.trans F₄.lives (S₅.toX _)).trans F₅.lives S₆).trans F₆.lives S₇).trans F₇.lives S₈
    have out := (S₁.toX env.locals).trans F₁.lives S₀₈
    cases hfl with
    | next => exact ⟨_, by lia, .mk (i + 1) P₈ loc₈ st₈ h₈ k₈ hlt hf R₈ F₈ D₈ ⟨_, _, hit₈⟩ S₀₈ fun b o e => S₈.p b o (hPP b o e)⟩
    | cont => exact ⟨_, by lia, .mk (i + 1) P₈ loc₈ st₈ h₈ k₈ hlt hf R₈ F₈ D₈ ⟨_, _, hit₈⟩ S₀₈ fun b o e => S₈.p b o (hPP b o e)⟩
    | brk => exact k P₈ .next .next loc₈ st₈ h₈ k₈ hf out R₈ F₈ .next
    | ret hv => exact k P₈ _ _ loc₈ st₈ h₈ k₈ hf out R₈ F₈ (.ret hv)
  · have he : i = es.length := by lia
    subst he
    refine wpAny_pyNext_items_end a.handled hit (DA h' ho') (by simp [hlen]) fun h₃ hx₃ => ?_
    refine xe04 (D'.move hwr R' F' (h' := h₃) (fun b ob hb e => hx₃ b ob (fun z => hb (by simp [z])) e) S') fun R₃ F₃ S₃ _ => ?_
    exact wpAny_execs_nil (k P' .next .next loc' st' h₃ tk (hend loc' st' hInv) ((S₁.toX env.locals).trans F₁.lives S₃) R₃ F₃ .next)
end
section
set_option maxHeartbeats 4000000
variable {C : Cx} {lv : Nat} {sc : Scope} {cel : List (PySem.Str × Addr)} {loc : Locs} {st : St}

theorem runs_toks {M : Model} {Γ : Ctx} {p : Pos} {t : Sem Fin} {pre : List Frame} {s s' : Shared} {e : End} (h : Runs M Γ p t pre s e s') : s.toks ≤ s'.toks := by
  induction h with
  | done => exact Nat.le_refl _
  | raise => exact Nat.le_refl _
  | again _ _ ih => exact ih
  | rule _ ih => exact ih
  | «at» _ ih => exact ih
  | load _ _ ih => exact ih
  | update _ _ ih => exact ih
  | loadIfAlive _ ih => exact ih
  | point _ ih => exact ih
  | alloc _ ih => exact ih
  | fresh _ ih => exact Nat.le_trans (Nat.le_succ _) ih
  | ask _ ih => exact ih
  | choose _ _ ih => exact ih
  | os _ ih => exact ih
  | handled _ ih => exact ih
  | genState _ _ ih => exact ih
  | stack _ ih => exact ih
  | thread _ ih => exact ih
  | newGen _ ih => exact ih
  | call _ _ ih1 ih2 => exact Nat.le_trans ih1 ih2
  | callSusp _ ih => exact ih
  | yield => exact Nat.le_refl _
  | resumeFresh _ _ _ _ ih1 ih2 => exact Nat.le_trans ih1 ih2
  | resumeSuspended _ _ _ _ ih1 ih2 => exact Nat.le_trans ih1 ih2
  | resumeJustStarted _ _ _ ih => exact ih
  | resumeThrowFresh _ _ ih => exact ih
  | resumeRunning _ _ ih => exact ih
  | resumeFinished _ _ ih => exact ih
  | segRet _ _ ih1 ih2 => exact Nat.le_trans ih1 ih2
  | segGen _ _ ih1 ih2 => exact Nat.le_trans ih1 ih2
  | segSuspOut _ _ ih => exact ih
  | segSuspGen _ _ _ _ ih1 ih2 => exact Nat.le_trans ih1 ih2
theorem wakes_toks {M : Model} {Γ : Ctx} {p : Pos} {g : Nat} {r : Resume} {s s' : Shared} {res : GenResult} (h : Wakes M Γ p g r s res s') : s.toks ≤ s'.toks := by
  unfold Wakes at h
  split at h
  · exact h.elim
  · split at h
    · refine xe24 h fun e₁ s₁ h1 _ _ qe0 => ?_; clear h; subst qe0; have := runs_toks h1; exact this
    · refine xe02 h fun _ qe0 => ?_; clear h; subst qe0; exact Nat.le_refl _
    · refine xe02 h fun _ qe0 => ?_; clear h; subst qe0; exact Nat.le_refl _
  · refine xe24 h fun e₁ s₁ h1 _ _ qe0 => ?_; clear h; subst qe0; have := runs_toks h1; exact this
  all_goals (try (first | (refine xe02 h fun _ qe0 => ?_; clear h; subst qe0; exact Nat.le_refl _) | (subst h; exact Nat.le_refl _)))
theorem wp_toks {α : Type} {M : Model} {Γ : Ctx} {n : Nat} (t : Sem α) : ∀ {Q : α → Pos → Shared → Prop} {E : Value → Pos → Shared → Prop} {p : Pos} {s : Shared}, n ≤ s.toks → Sem.wp M Γ t (fun a p s' => n ≤ s'.toks → Q a p s') E p s → Sem.wp M Γ t Q E p s := by
  induction t with
  | pure a => intro Q E p s hn h; exact h hn
  | raise x => intro Q E p s hn h; exact h
  | unsupported => intro Q E p s hn h; exact h
  | finish => intro Q E p s hn h; exact h
  | rule _ k ih => intro Q E p s hn h; exact ih _ hn h
  | «at» _ k ih => intro Q E p s hn h; exact ih _ hn h
  | load a _ k ih => intro Q E p s hn h; refine xe12 h fun o h1 h2 => ?_; clear h; exact ⟨o, h1, ih _ hn h2⟩
  | update a _ f k ih => intro Q E p s hn h; exact ⟨h.1, ih _ hn h.2⟩
  | loadIfAlive a k ih => intro Q E p s hn h; exact ih _ hn h
  | point _ k ih => intro Q E p s hn h; exact ih _ hn h
  | register => intro Q E p s hn h; exact h
  | alloc o k ih => intro Q E p s hn h; exact ih _ hn h
  | fresh k ih => intro Q E p s hn h; exact ih _ (Nat.le_succ_of_le hn) h
  | ask k ih => intro Q E p s hn h; exact ih _ hn h
  | choose src n k ih => intro Q E p s hn h; exact ⟨h.1, ih _ hn h.2⟩
  | os q l k ih => intro Q E p s hn h; exact ih _ hn h
  | call c h' g l k ih => intro Q E p s hn h; refine xe22 h fun r s' h1 h2 => ?_; clear h; exact ⟨r, s', h1, ih _ (Nat.le_trans hn (runs_toks h1)) h2⟩
  | handled own k ih => intro Q E p s hn h; exact ih _ hn h
  | genState g k ih => intro Q E p s hn h; refine xe12 h fun x h1 h2 => ?_; clear h; exact ⟨x, h1, ih _ hn h2⟩
  | newGen c k ih => intro Q E p s hn h; exact ih _ hn h
  | resume g r l k ih => intro Q E p s hn h; refine xe22 h fun r s' h1 h2 => ?_; clear h; exact ⟨r, s', h1, ih _ (Nat.le_trans hn (wakes_toks h1)) h2⟩
  | yield => intro Q E p s hn h; exact h
  | stack k ih => intro Q E p s hn h; exact ih _ hn h
  | fork => intro Q E p s hn h; exact h
  | thread k ih => intro Q E p s hn h; exact ih _ hn h
  | await => intro Q E p s hn h; exact h
theorem wpAny_toks {α : Type} {M : Model} {A : Around} {n : Nat} {t : Sem α} {Q : α → Shared → Prop} {E : Value → Shared → Prop} {s : Shared} (hn : n ≤ s.toks) (h : wpAny M A t (fun a s' => n ≤ s'.toks → Q a s') E s) : wpAny M A t Q E s :=
  fun Γ p hΓ => wp_toks t hn (h Γ p hΓ)

/-! the same judgements where something has been made already -/
noncomputable def EvT (C : Cx) (lv : Nat) (sc : Scope) (cel : List (PySem.Str × Addr)) (loc : Locs) (e : Expr) (st : St) (Post : AV → St → Prop) : Prop :=
  ∀ (P : PM) (A : Around) (env : Env) (s : Shared) (Q : Value → Shared → Prop) (E : Value → Shared → Prop), 0 < s.toks →
    AOk lv A → EOk sc cel env → Rp C P st s.heap → FRp C P loc env st s.heap →
    (∀ P' x v st' h' k, 0 < k → Post x st' → Step P P' st st' s.heap h' → Rp C P' st' h' → VRep C P' x v → Q v { s with heap := h', toks := k }) →
    wpAny (model C.prog C.w) A (eval e env) Q E s
theorem Ev.toT {e : Expr} {Post : AV → St → Prop} (h : Ev C lv sc cel loc e st Post) : EvT C lv sc cel loc e st Post := fun P A env s Q E hn a en R F k =>
  wpAny_toks (n := 1) hn (h P A env s _ E a en R F fun P' x v st' h' tk hx S R' hv hp => k P' x v st' h' tk hp hx S R' hv)
noncomputable def ExT (C : Cx) (lv : Nat) (sc : Scope) (cel : List (PySem.Str × Addr)) (loc : Locs) (ss : List Stmt) (st : St) (Post : Fl → Locs → St → Prop) : Prop :=
  ∀ (P : PM) (A : Around) (env : Env) (s : Shared) (Q : Flow → Shared → Prop) (E : Value → Shared → Prop), 0 < s.toks →
    AOk lv A → EOk sc cel env → Rp C P st s.heap → FRp C P loc env st s.heap →
    (∀ P' f fl loc' st' h' k, Post f loc' st' → StepX env.locals P P' st st' s.heap h' → Rp C P' st' h' → FRp C P' loc' env st' h' → FlRep C P' f fl → Q fl { s with heap := h', toks := k }) →
    wpAny (model C.prog C.w) A (execs ss env) Q E s
noncomputable def Ex1T (C : Cx) (lv : Nat) (sc : Scope) (cel : List (PySem.Str × Addr)) (loc : Locs) (t : Stmt) (st : St) (Post : Fl → Locs → St → Prop) : Prop :=
  ∀ (P : PM) (A : Around) (env : Env) (s : Shared) (Q : Flow → Shared → Prop) (E : Value → Shared → Prop), 0 < s.toks →
    AOk lv A → EOk sc cel env → Rp C P st s.heap → FRp C P loc env st s.heap →
    (∀ P' f fl loc' st' h' k, Post f loc' st' → StepX env.locals P P' st st' s.heap h' → Rp C P' st' h' → FRp C P' loc' env st' h' → FlRep C P' f fl → Q fl { s with heap := h', toks := k }) →
    wpAny (model C.prog C.w) A (exec t env) Q E s
theorem Ex.toT {ss : List Stmt} {Post : Fl → Locs → St → Prop} (h : Ex C lv sc cel loc ss st Post) : ExT C lv sc cel loc ss st Post := fun P A env s Q E _ => h P A env s Q E
noncomputable abbrev seqT (C : Cx) (lv : Nat) (sc : Scope) (cel : List (PySem.Str × Addr)) (ss : List Stmt) (Post : Fl → Locs → St → Prop) : Fl → Locs → St → Prop := fun f loc' st' => match f with
  | .next => ExT C lv sc cel loc' ss st' Post
  | f => Post f loc' st'
theorem ExT.cons {t : Stmt} {ss : List Stmt} {Post : Fl → Locs → St → Prop}
    (h : Ex1T C lv sc cel loc t st (seqT C lv sc cel ss Post)) : ExT C lv sc cel loc (t :: ss) st Post := fun P A env s Q E hn a en R F k => by
  refine wpAny_execs_cons (wpAny_toks (n := 1) hn (h P A env s _ E hn a en R F fun P₁ f fl loc₁ st₁ h₁ k₁ hf S₁ R₁ F₁ hfl hp => ?_))
  cases hfl with
  | next => exact hf P₁ A env _ Q E hp a en R₁ F₁ fun P₂ f fl loc₂ st₂ h₂ k₂ hf₂ S₂ R₂ F₂ hfl₂ => k P₂ f fl loc₂ st₂ h₂ k₂ hf₂ (S₁.trans F₁.lives S₂) R₂ F₂ hfl₂
  | brk => exact k P₁ _ _ loc₁ st₁ h₁ k₁ hf S₁ R₁ F₁ .brk
  | cont => exact k P₁ _ _ loc₁ st₁ h₁ k₁ hf S₁ R₁ F₁ .cont
  | ret hv => exact k P₁ _ _ loc₁ st₁ h₁ k₁ hf S₁ R₁ F₁ (.ret hv)
theorem Ex1T.iff {t : Expr} {b o : List Stmt} {p : Pos} {Post : Fl → Locs → St → Prop} (h : Tr C lv sc cel loc t st fun c st' => if c then ExT C lv sc cel loc b st' Post else ExT C lv sc cel loc o st' Post) :
    Ex1T C lv sc cel loc (.If t b o p) st Post := fun P A env s Q E hn a en R F k => by
  refine wpAny_If (wpAny_toks (n := 1) hn (h P A env s _ E a en R F fun P₁ c st₁ h₁ k₁ hc S₁ R₁ hp => ?_))
  cases c with
  | true => simp only [if_true] at hc ⊢; exact hc P₁ A env _ Q E hp a en R₁ (F.step S₁) fun P₂ f fl loc₂ st₂ h₂ k₂ hf₂ S₂ R₂ F₂ hfl₂ => k P₂ f fl loc₂ st₂ h₂ k₂ hf₂ ((S₁.toX _).trans (F.step S₁).lives S₂) R₂ F₂ hfl₂
  | false => simp only [Bool.false_eq_true, if_false] at hc ⊢; exact hc P₁ A env _ Q E hp a en R₁ (F.step S₁) fun P₂ f fl loc₂ st₂ h₂ k₂ hf₂ S₂ R₂ F₂ hfl₂ => k P₂ f fl loc₂ st₂ h₂ k₂ hf₂ ((S₁.toX _).trans (F.step S₁).lives S₂) R₂ F₂ hfl₂
theorem Ex1T.assign {x : PySem.Str} {e : Expr} {p p' : Pos} {Post : Fl → Locs → St → Prop} (hsw : ∀ env, env.scope = sc → swapsWith e (some (.Name x p')) p.line env = pure false)
    (h : EvT C lv sc cel loc e st fun y st₁ => Bd C sc cel loc x y st₁ fun loc' st' => Post .next loc' st') : Ex1T C lv sc cel loc (.Assign [.Name x p'] e p) st Post := fun P A env s Q E hn a en R F k => by
  refine wpAny_Assign_Name (h P A env s _ E hn a en R F fun P₁ y v st₁ h₁ k₁ _ hy S₁ R₁ hv => ?_) (hsw env en.scope)
  exact hy P₁ A env _ v _ E en R₁ (F.step S₁) hv fun loc' st' h' tk hp S R' F' => k P₁ .next .next loc' st' h' tk hp ((S₁.toX _).trans (F.step S₁).lives S) R' F' .next
noncomputable def TrP (C : Cx) (lv : Nat) (sc : Scope) (cel : List (PySem.Str × Addr)) (loc : Locs) (e : Expr) (st : St) (Post : Bool → St → Prop) : Prop :=
  ∀ (P : PM) (A : Around) (env : Env) (s : Shared) (Q : Bool → Shared → Prop) (E : Value → Shared → Prop),
    AOk lv A → EOk sc cel env → Rp C P st s.heap → FRp C P loc env st s.heap →
    (∀ P' b st' h' k, 0 < k → Post b st' → Step P P' st st' s.heap h' → Rp C P' st' h' → Q b { s with heap := h', toks := k }) →
    wpAny (model C.prog C.w) A (isTrue e env (eval e env)) Q E s
theorem TrP.cmpI {l : Expr} {i : Int} {kd : Nat} {pc : Pos} {op : CmpOp} {p : Pos} {Post : Bool → St → Prop} (hm : behindInMarks op (.Constant (.int i) kd pc) = false)
    (h : Ev C lv sc cel loc l st fun x st₁ => Op2 C lv (compareOp op) x (.int i) st₁ fun z st₃ => ∃ b, z = .bool b ∧ Post b st₃) :
    TrP C lv sc cel loc (.Compare l [op] [.Constant (.int i) kd pc] p) st Post := fun P A env s Q E a en R F k => by
  refine wpAny_isTrue_Compare1 (h P A env s _ E a en R F fun P₁ x u st₁ h₁ k₁ hx S₁ R₁ hu => ?_) hm
  refine wpAny_Constant_int ?_
  refine wpAny_toks (n := 1) (Nat.succ_pos _) ?_
  refine hx P₁ A _ u _ _ E a R₁ hu .int fun P₃ z r st₃ h₃ k₃ hz S₃ R₃ hr => ?_
  refine xe12 hz fun b qe0 hb => ?_; clear hz; subst qe0
  cases hr
  intro hp
  exact wpAny_truthy_bool (k P₃ b st₃ h₃ k₃ hp hb (S₁.trans S₃) R₃)
theorem TrP.and2 {l r : Expr} {p : Pos} {Post : Bool → St → Prop} (h : Tr C lv sc cel loc l st fun b st₁ => b = true ∧ TrP C lv sc cel loc r st₁ Post) : TrP C lv sc cel loc (.BoolOp .And [l, r] p) st Post := fun P A env s Q E a en R F k => by
  refine wpAny_isTrue_BoolOp (wpAny_allTrue_And_cons (h P A env s _ E a en R F fun P₁ b st₁ h₁ k₁ hb S₁ R₁ => ?_))
  obtain ⟨rfl, hb⟩ := hb
  simp only [if_true]
  refine wpAny_allTrue_And_cons (hb P₁ A env _ _ E a en R₁ (F.step S₁) fun P₂ c st₂ h₂ k₂ hp hc S₂ R₂ => ?_)
  have fin := k P₂ c st₂ h₂ k₂ hp hc (S₁.trans S₂) R₂
  cases c with
  | false => simp only [Bool.false_eq_true, if_false]; exact fin
  | true => simp only [if_true]; exact wpAny_allTrue_And_nil fin
theorem Ex1.iffP {t : Expr} {b o : List Stmt} {p : Pos} {Post : Fl → Locs → St → Prop} (h : TrP C lv sc cel loc t st fun c st' => if c then ExT C lv sc cel loc b st' Post else ExT C lv sc cel loc o st' Post) :
    Ex1 C lv sc cel loc (.If t b o p) st Post := fun P A env s Q E a en R F k => by
  refine wpAny_If (h P A env s _ E a en R F fun P₁ c st₁ h₁ k₁ hp hc S₁ R₁ => ?_)
  cases c with
  | true => simp only [if_true] at hc ⊢; exact hc P₁ A env _ Q E hp a en R₁ (F.step S₁) fun P₂ f fl loc₂ st₂ h₂ k₂ hf₂ S₂ R₂ F₂ hfl₂ => k P₂ f fl loc₂ st₂ h₂ k₂ hf₂ ((S₁.toX _).trans (F.step S₁).lives S₂) R₂ F₂ hfl₂
  | false => simp only [Bool.false_eq_true, if_false] at hc ⊢; exact hc P₁ A env _ Q E hp a en R₁ (F.step S₁) fun P₂ f fl loc₂ st₂ h₂ k₂ hf₂ S₂ R₂ F₂ hfl₂ => k P₂ f fl loc₂ st₂ h₂ k₂ hf₂ ((S₁.toX _).trans (F.step S₁).lives S₂) R₂ F₂ hfl₂
theorem EvT.replace {o : Expr} {apos p pa pb : Pos} {ka kb : Nat} {a b : PySem.Str} {Post : AV → St → Prop} (hsup : noSuper o) (hline : (apos.endLine == p.line) = true) (hab : (a == b) = false)
    (h : EvT C lv sc cel loc o st fun ov st₁ => ∃ x, ov = .str x ∧ x.length + (x.length + 1) * b.length ≤ 16777216 ∧ Post (.str (Txt.replace x a b)) st₁) :
    EvT C lv sc cel loc (.Call (.Attribute o (Str.ofString "replace") apos) [.Constant (.str a) ka pa, .Constant (.str b) kb pb] [] p) st Post := fun P A env s Q E hn ao en R F k => by
  rw [arm_eval_Call, attributeBase_of hsup]
  refine wpAny_bind (h P A env s _ E hn ao en R F fun P₁ ov v st₁ h₁ k₁ hpos hx S₁ R₁ hv => wpAny_bind (wpAny_standAt ?_))
  refine xe13 hx fun x qe0 hz hp => ?_; clear hx; subst qe0
  cases hv with
  | @str _ t =>
    have hpl : [Expr.Constant (.str a) ka pa, .Constant (.str b) kb pb].all plainE = true := rfl
    have hform := methodForm (env := env) (pos := p) (es := [.Constant (.str a) ka pa, .Constant (.str b) kb pb]) (ks := []) hpl rfl (by refine (?_ : 2 < 29); lia)
    have hps : methodCallPos true o env apos p = pure p := by unfold methodCallPos; simp [hline]
    unfold methodCall
    rw [hform]
    refine wpAny_bind (wpAny_holding (getMethod_builtin (typeIs_str _ _ _) PySem.F.plainAttrs_str PySem.F.slot_str_replace PySem.F.type_str_replace (fun b eb => by cases eb) ?_))
    refine wpAny_bind (wpAny_of_eq hps ?_)
    refine callWith_of (P := fun _ => True) ?_ (fun h hP => ⟨.machine, .inr (.inl rfl), Looks.of_pure rfl⟩) ?_
    · rw [backTo_plain hpl]; rfl
    · rw [backTo_plain hpl]
      refine evalArgs_of rfl ?_
      simp only [List.map_cons, List.map_nil]
      unfold spliced
      refine wpAny_bind (wpAny_Constant_str ?_)
      simp only [Bool.false_eq_true, if_false]
      refine wpAny_bind (wpAny_pure (wpAny_bind (wpAny_holding ?_)))
      unfold spliced
      refine wpAny_bind (wpAny_Constant_str ?_)
      simp only [Bool.false_eq_true, if_false]
      refine wpAny_bind (wpAny_pure (wpAny_bind (wpAny_holding ?_)))
      refine wpAny_pure (wpAny_pure (wpAny_pure (wpAny_pure ⟨trivial, ?_⟩)))
      refine wpAny_toks (n := 1) (Nat.succ_pos _) ?_
      exact SC.replace (by refine (?_ : k₁ ≠ 0); lia) (by refine (?_ : k₁ + 1 ≠ 0); lia) (by refine (?_ : k₁ ≠ k₁ + 1); lia) hab hz fun t' tk hpk => k P₁ _ _ st₁ h₁ tk hpk hp S₁ R₁ .str
theorem VReps.two {P : PM} {x y : AV} {vs : List Value} (h : VReps C P [x, y] vs) : ∃ v w, vs = [v, w] ∧ VRep C P x v ∧ VRep C P y w := by
  cases h with
  | cons h1 h => cases h with
    | cons h2 h => cases h; exact ⟨_, _, rfl, h1, h2⟩
theorem VReps.three {P : PM} {x y z : AV} {vs : List Value} (h : VReps C P [x, y, z] vs) : ∃ v w u, vs = [v, w, u] ∧ VRep C P x v ∧ VRep C P y w ∧ VRep C P z u := by
  cases h with
  | cons h1 h => refine xe23 h.two fun w u qe0 h2 h3 => ?_; subst qe0; exact ⟨_, _, _, rfl, h1, h2, h3⟩
theorem Cl.replaceNo {x a b : PySem.Str} {Post : AV → St → Prop} (hno : (PySem.Builtin.Str.occurrences x a 0 x.length (x.length + 1)).isEmpty = true) (hp : Post (.str x) st) : Cl C lv (.builtin "str.replace") [.str x, .str a, .str b] [] st Post := fun P A s vs kvs Q E ao R hv hk k => by
  obtain rfl := hk.nil_inv
  refine xe34 hv.three fun v1 v2 v3 qe0 h1 h2 h3 => ?_; subst qe0
  cases h1
  cases h2
  cases h3
  rename_i t u v
  refine call_gives PySem.F.slot_str_replace (typeIs_str _ _ _) PySem.F.entry_str_replace (PySem.F.args_str_replace_3 _ _ _) (gives_str_replace x a b t u v fun e => by rw [hno] at e; simp at e) ?_
  rw [hno]
  simp only [Bool.true_or, if_true]
  exact k P _ _ st s.heap s.toks hp (Step.refl ..) R .str
open Builtin in
theorem fmt_colon (b : Addr) (y z : PySem.Str) (t u v : Tok) (hy : y.length ≤ 1000000) (hz : z.length ≤ 1000000) : Meets («str.__mod__» ⟨[.str ⟨#[37, 115, 58, 32, 37, 115]⟩ t, .ref b], []⟩) (fun _ R s => IsTup s.heap b #[.str y u, .str z v] ∧ ∀ t' k, R (.ok (.ret (.str (y ++ Str.ofString ": " ++ z) t'))) { s with toks := k }) := by kpt_run
open Builtin in
theorem Op2.fmtT {X X' y z T : PySem.Str} {Post : AV → St → Prop} (hX : X = X') (hm : ∀ b t u v, Meets («str.__mod__» ⟨[.str X' t, .ref b], []⟩) (fun _ R s => IsTup s.heap b #[.str y u, .str z v] ∧ ∀ t' k, R (.ok (.ret (.str T t'))) { s with toks := k }))
    (hp : Post (.str T) st) : Op2 C lv (binaryOp .Mod) (.str X) (.tup [.str y, .str z]) st Post :=
  Op2.pureV hp fun P A s u v Q E ao R hu hv k => by
    subst hX
    refine xe11 hu.str_inv fun t qe0 => ?_; subst qe0
    obtain ⟨a, o, vs, rfl, hP, ⟨n, rfl⟩, hvs⟩ := hv.tup_inv
    refine xe23 hvs.two_inv fun v1 v2 qe0 h1 h2 => ?_; subst qe0
    refine xe11 h1.str_inv fun t1 qe0 => ?_; subst qe0
    refine xe11 h2.str_inv fun t2 qe0 => ?_; subst qe0
    have ht : IsTup s.heap a #[.str y t1, .str z t2] := ⟨_, R.keep _ _ hP, rfl, n, rfl⟩
    have hT : s.TypeIs (.ref a) "tuple" := by
      refine xe13 ht fun o ho hc _ => ?_; clear ht
      exact ⟨o, ho, hc⟩
    exact KPt.bin_left (T := "str") (U := "tuple") (op := .Mod) (by decide) (typeIs_str s X t) hT PySem.F.fills_str_mod KPt.fills_tuple PySem.F.slot_str_mod
      (call_meets PySem.F.slot_str_mod (typeIs_str s X t) PySem.F.entry_str_mod (PySem.F.args_str_mod_2 _ _) (hm a t t1 t2) ⟨ht, fun t' k' => ⟨(fun e => nomatch e), k _ k' .str⟩⟩)
end
section
variable {C : Cx} {lv : Nat} {sc : Scope} {cel : List (PySem.Str × Addr)} {loc : Locs} {st : St}
set_option pp.deepTerms false
set_option pp.maxSteps 2000
theorem Ev.fmtS {e : Expr} {p : Pos} {Post : AV → St → Prop} (h : Ev C lv sc cel loc e st fun x st₁ => ∃ y, x = .str y ∧ y.length ≤ sizeLine ∧ Post (.str y) st₁) : Ev C lv sc cel loc (.FormattedValue e 115 Option.none p) st Post := fun P A env s Q E a en R F k => by
  rw [arm_eval_FormattedValue]
  refine wpAny_bind (h P A env s _ E a en R F fun P₁ x v st₁ h₁ k₁ hx S₁ R₁ hv => wpAny_bind (wpAny_standAt ?_))
  refine xe13 hx fun y qe0 hz hp => ?_; clear hx; subst qe0
  cases hv with
  | @str _ t =>
    refine wpAny_bind (wpAny_holding ?_)
    refine (?_ : wpAny _ _ (habitSame "fstring-hands-on-the-str" (.str y t)) _ _ _)
    refine habitSame_str (fun t' tk => ?_) hz
    refine (?_ : wpAny _ _ (formatField (.str y t') Str.empty) _ _ _)
    exact formatField_str (fun t'' tk' => k P₁ _ _ st₁ h₁ tk' hp S₁ R₁ .str) hz
noncomputable def Jp (C : Cx) (lv : Nat) (sc : Scope) (cel : List (PySem.Str × Addr)) (loc : Locs) : List Expr → PySem.Str → St → (AV → St → Prop) → Prop
  | [], acc, st, Post => acc.length ≤ sizeLine ∧ Post (.str acc) st
  | e :: r, acc, st, Post => Ev C lv sc cel loc e st fun x st₁ => ∃ y, x = .str y ∧ (acc ++ y).length ≤ sizeLine ∧ Jp C lv sc cel loc r (acc ++ y) st₁ Post
theorem evalEach_map {env : Env} : ∀ es : List Expr, evalEach es env = es.map fun e => eval e env
  | [] => rfl
  | e :: r => by refine (?_ : eval e env :: evalEach r env = _); rw [evalEach_map r]; rfl
theorem joined_of {env : Env} : ∀ (es : List Expr) (acc : PySem.Str) (st : St) (Post : AV → St → Prop), Jp C lv sc cel loc es acc st Post →
    ∀ (P : PM) (A : Around) (s : Shared) (Q : Value → Shared → Prop) (E : Value → Shared → Prop), AOk lv A → EOk sc cel env → Rp C P st s.heap → FRp C P loc env st s.heap →
    (∀ P' x v st' h' k, Post x st' → Step P P' st st' s.heap h' → Rp C P' st' h' → VRep C P' x v → Q v { s with heap := h', toks := k }) →
    wpAny (model C.prog C.w) A (joinParts acc (es.map fun e => eval e env)) Q E s
  | [], acc, st, Post, h, P, A, s, Q, E, a, en, R, F, k => joinParts_nil (k P _ _ st s.heap _ h.2 (Step.refl ..) R .str) h.1
  | e :: r, acc, st, Post, h, P, A, s, Q, E, a, en, R, F, k => by
    refine joinParts_cons (h P A env s _ E a en R F fun P₁ x v st₁ h₁ k₁ hx S₁ R₁ hv => ?_)
    refine xe13 hx fun y qe0 hz hr => ?_; clear hx; subst qe0
    cases hv
    exact ⟨hz, joined_of r _ st₁ Post hr P₁ A _ Q E a en R₁ (F.step S₁) fun P₂ x v st₂ h₂ k₂ hx S₂ R₂ hv => k P₂ x v st₂ h₂ k₂ hx (S₁.trans S₂) R₂ hv⟩
theorem Ev.joined {e1 e2 : Expr} {r : List Expr} {p : Pos} {Post : AV → St → Prop} (h : Jp C lv sc cel loc (e1 :: e2 :: r) Str.empty st Post) : Ev C lv sc cel loc (.JoinedStr (e1 :: e2 :: r) p) st Post := fun P A env s Q E a en R F k => by
  refine JoinedStr_many ?_
  rw [evalEach_map]
  exact joined_of (e1 :: e2 :: r) Str.empty st Post h P A s Q E a en R F k
theorem Jp.cons {e : Expr} {r : List Expr} {acc : PySem.Str} {Post : AV → St → Prop} (h : Ev C lv sc cel loc e st fun x st₁ => ∃ y, x = .str y ∧ (acc ++ y).length ≤ sizeLine ∧ Jp C lv sc cel loc r (acc ++ y) st₁ Post) : Jp C lv sc cel loc (e :: r) acc st Post := h
noncomputable def fpV (v : PySem.Str) : PySem.Str := Txt.replace (Txt.replace v (Str.ofString "\\") (Str.ofString "\\\\")) (Str.ofString "\"") (Str.ofString "\\\"")
noncomputable def fpT (k v : PySem.Str) : PySem.Str := Str.empty ++ k ++ Str.ofString "=\"" ++ fpV v ++ Str.ofString "\""
theorem len_app (a b : PySem.Str) : (a ++ b).length = a.length + b.length := strLen_append a b
theorem fpar_fn (G : Pg C) {k v : PySem.Str} (hk : k.length ≤ 1000) (hv : 0 < v.length) (hv' : v.length ≤ 100) (h1 : (Txt.replace v (Str.ofString "\\") (Str.ofString "\\\\")).length ≤ 1000)
    (h2 : (fpV v).length ≤ 1000000) : Fn C (lv + 1) (.ref 138) [.str k, .str v] [] st fun y st' => y = .str (fpT k v) ∧ st' = st := by
  refine' Pg.fnB G (fun _ => [(Str.ofString "param", .str k), (Str.ofString "value", .str v), (Str.ofString "quote", .int 1)]) (fun _ => st) [Str.ofString "param", Str.ofString "value", Str.ofString "quote"] ?ho ?hcd ?hb ?hclo ?hgl ?hbu ?hco ?hgen ?hk ?hok ?hns ?hcn ?hbn _ ?hsc ?h
  case ho => exact rfl
  case hcd => exact rfl
  case hb => exact rfl
  case hclo => exact rfl
  case hgl => exact rfl
  case hbu => exact rfl
  case hco => exact rfl
  case hgen => exact rfl
  case hk => exact rfl
  case hok => exact rfl
  case hns => exact fun _ => rfl
  case hcn => exact rfl
  case hbn =>
    intro Post' hp
    refine Bn.peek G.gd (fun vs kvs => [(Str.ofString "param", vs.headD .none), (Str.ofString "value", vs.tail.headD .none), (Str.ofString "quote", .int 1 498)]) (fun S => len20 fun v u => by rw [G.k]; rfl) (fun P vs kvs h1 h2 => ?_) (hp 0)
    · cases h1 with
      | cons h1 h3 => cases h3 with
        | cons h3 h4 => exact .cons h1 (.cons h3 (.cons .int .nil))
  case hsc => dsimp only; exact rfl
  intro _
  walk_at "go"
  refine Ex1.iffP (TrP.and2 ?_)
  repeat walk_at "go"
  refine Op2.isNotNoneS ?_
  refine ⟨_, rfl, rfl, TrP.cmpI rfl ?_⟩
  repeat walk_at "go"
  refine Cl.lenS (by lia) ?_
  repeat walk_at "go"
  have e : decide ((v.length : Int) > 0) = true := by simp; lia
  refine iteY e ?_
  refine ExT.cons (Ex1T.iff (Tr.or2 (Tr.val (fun _ _ => rfl) ?_)))
  walk_at "go"
  refine ⟨true, fun P A s v Q E R hv k => ?_, ?_⟩
  · cases hv
    exact truthy_int (k s.toks)
  refine iteT (iteT ?_)
  refine ExT.cons (Ex1T.assign (by walk_at "sw") ?_)
  refine EvT.replace (fun _ _ _ => rfl) rfl (by decide +kernel) ?_
  refine EvT.replace (fun _ _ _ => rfl) rfl (by decide +kernel) ?_
  refine Ev.toT ?_
  walk_at "go"
  have hb1 : (Str.ofString "\\\\").length = 2 := by decide +kernel
  have hb2 : (Str.ofString "\\\"").length = 2 := by decide +kernel
  refine ⟨v, rfl, by rw [hb1]; lia, ?_⟩
  refine ⟨_, rfl, by rw [hb2]; lia, ?_⟩
  walk_at "go"
  refine Ex.toT ?_
  repeat walk_at "go"
  refine Ev.joined ?_
  have z0 : (Str.empty : PySem.Str).length = 0 := rfl
  have z1 : (Str.ofString "=\"").length = 2 := by decide +kernel
  have z2 : (Str.ofString "\"").length = 1 := by decide +kernel
  refine Jp.cons (Ev.fmtS ?_)
  walk_at "go"
  refine ⟨_, rfl, by rw [sizeLine_eq]; lia, _, rfl, by rw [sizeLine_eq, len_app]; lia, ?_⟩
  refine Jp.cons ?_
  walk_at "go"
  refine ⟨_, rfl, by rw [sizeLine_eq, len_app, len_app]; lia, ?_⟩
  refine Jp.cons (Ev.fmtS ?_)
  walk_at "go"
  refine ⟨_, rfl, by rw [sizeLine_eq]; exact Nat.le_trans h2 (by decide), _, rfl, by rw [sizeLine_eq, len_app, len_app, len_app]; have := h2; unfold fpV at this; lia, ?_⟩
  refine Jp.cons ?_
  walk_at "go"
  have z3 : (Str.empty ++ k ++ Str.ofString "=\"" ++ fpV v ++ Str.ofString "\"").length ≤ sizeLine := by rw [sizeLine_eq, len_app, len_app, len_app, len_app]; lia
  exact ⟨_, rfl, z3, z3, rfl, rfl⟩
end
section
variable {C : Cx} {lv : Nat} {sc : Scope} {cel : List (PySem.Str × Addr)} {loc : Locs} {st : St}
set_option pp.deepTerms false
set_option pp.maxSteps 2000
noncomputable def hdrK : PySem.Str := Str.ofString "_headers"
structure HO (st : St) (x dx H : Addr) (rows : List AV) : Prop where
  i : OI st x dx 259 [(hdrK, .ref H)]
  h : (H, AO.list rows) ∈ st
theorem mt_conv (G : Pg C) {x dx H : Addr} {rows : List AV} (I : HO st x dx H rows) : Mt C (.ref x) (Str.ofString "_convert_string_type") st (.ref 160) [.ref x] :=
  Mt.inst G.gd I.i rfl (by rw [G.k]; rfl) (by rw [G.k]; rfl) (by rw [G.k]; rfl) (by rw [G.k]; rfl)
theorem HO.cons {x dx H : Addr} {rows : List AV} (I : HO st x dx H rows) (p : Addr × AO) : HO (p :: st) x dx H rows := ⟨⟨.tail _ I.i.x, .tail _ I.i.d⟩, .tail _ I.h⟩
theorem headers_attr (G : Pg C) {x dx H : Addr} {rows : List AV} (I : HO st x dx H rows) {e : Expr} {p : Pos} {Post : AV → St → Prop} (hsup : noSuper e) (h : Ev C lv sc cel loc e st fun y s => y = .ref x ∧ s = st ∧ Post (.ref H) st) : Ev C lv sc cel loc (.Attribute e (Str.ofString "_headers") p) st Post := by
  refine Ev.attr hsup G.gd (Ev.mono h fun y s hq => xe03 hq fun e1 e2 hp => ?_)
  subst e1 e2
  exact ⟨x, dx, 259, _, .ref H, _, rfl, I.i, rfl, rfl, by rw [G.k]; rfl, rfl, by rw [G.k]; rfl, by rw [G.k]; rfl, hp⟩
theorem join1 (s v : PySem.Str) : Txt.join s [v] = v := by
  unfold Txt.join
  first | rfl | simp
theorem Pg.fnI {ι : Type} (ok : ι → Prop) (G : Pg C) {a : Addr} {oc : Value} {od : Option Addr} {fd : FuncData} {osl : Array (Option Value)} {body : List Stmt} {args : List AV} {kw : List (PySem.Str × AV)} {Post : AV → St → Prop} (out : ι → Locs) (st₁ : ι → St) (ns : List PySem.Str)
    (ho : (KF C.w.params).lookup a = some ⟨oc, od, .func fd, osl⟩) (hcd : codeIn (KF C.w.params) fd.code fd.qualname = true) (hb : fd.body = .stmts body) (hclo : fd.closure = []) (hgl : fd.globals = mainGlobals) (hbu : fd.builtins = builtinsNs)
    (hco : fd.scope.isCoroutine = false) (hgen : fd.scope.isGenerator = false) (hk : fd.scope.kind = .function) (hok : okFn fd.scope ns = true) (hns : ∀ D, (out D).map (·.1) = ns) (hcn : cellNames fd.scope = [])
    (hbn : ∀ Post' : Locs → St → Prop, (∀ D, ok D → Post' (out D) (st₁ D)) → Bn C fd args kw st Post') (sc : Scope) (hsc : fd.scope = sc)
    (h : ∀ D, ok D → Ex C lv sc [] (out D) body (st₁ D) (retP Post)) :
    Fn C (lv + 1) (.ref a) args kw st Post := by
  subst hsc
  unfold okFn at hok
  simp only [Bool.and_eq_true] at hok
  obtain ⟨⟨⟨h1, h2⟩, h3⟩, h4⟩ := hok
  refine Fn.def G.gd (by rw [G.k]; exact ho) (by rw [G.k]; exact hcd) hb hclo hgl hbu hco hgen hk (hbn _ fun D hD => ⟨by rw [hns D]; exact nodupB_of h1, fun x hx => ?_, fun x hx => ?_, nodupB_of h4, fun cel hcel => ?_⟩)
  · have hm : x.1 ∈ ns := by rw [← hns D]; exact List.mem_map_of_mem hx
    have := List.all_eq_true.mp h2 _ hm
    rw [Bool.or_eq_true, Bool.and_eq_true] at this
    rcases this with q | ⟨q, z⟩
    · exact .inl (kindL_of.mp q)
    · rw [hcn] at z; simp at z
  · have := List.all_eq_true.mp h3 x hx
    intro z
    rw [kindL_of.mpr z] at this
    simp at this
  · have hcel' : cel.map (·.1) = (cellNames fd.scope).reverse := hcel
    rw [hcn] at hcel'
    obtain rfl := List.map_eq_nil_iff.mp hcel'
    clear hcel
    have e : ((out D).filter fun x => decide (fd.scope.names.lookup x.1 = some .local)) = out D := by
      refine List.filter_eq_self.mpr fun x hx => ?_
      have hm : x.1 ∈ ns := by rw [← hns D]; exact List.mem_map_of_mem hx
      have := List.all_eq_true.mp h2 _ hm
      rw [Bool.or_eq_true, Bool.and_eq_true] at this
      rcases this with q | ⟨q, z⟩
      · exact decide_eq_true (kindL_of.mp q)
      · rw [hcn] at z; simp at z
    rw [e]
    exact h D hD
theorem Ev.conv (G : Pg C) {x dx H : Addr} {rows : List AV} (I : HO st x dx H rows) {o e : Expr} {ap pc pk p : Pos} {kd : Nat} {b : Bool} {Post : AV → St → Prop} (hsup : noSuper o) (hpl : plainE e = true) (hline : (ap.endLine == p.line) = true)
    (h : Ev C (lv + 1) sc cel loc o st fun y s => y = .ref x ∧ s = st ∧ Ev C (lv + 1) sc cel loc e st fun y s' => ∃ t, y = .str t ∧ RxNo C (if b then 125 else 130) t ∧ Post (.str t) s') :
    Ev C (lv + 1) sc cel loc (.Call (.Attribute o (Str.ofString "_convert_string_type") ap) [e] [⟨some (Str.ofString "name"), .Constant (.bool b) kd pc, pk⟩] p) st Post := by
  refine Ev.meth hsup (by simp [hpl]) rfl (by refine (?_ : 2 < 29); lia) hline (Ev.mono h fun y s hq => xe03 hq fun e1 e0 h2 => ?_)
  subst e1 e0
  refine ⟨_, _, mt_conv G I, Evs.cons (Ev.mono h2 fun y s' hq => xe13 hq fun t e2 hr hp => ?_)⟩
  subst e2
  refine Evs.nil (Evs.cons (Ev.bool (Evs.nil ⟨Pg.keep G rfl, ?_⟩)))
  exact (Fn.mono (conv_fn G hr) fun y s'' hq => xe02 hq fun e3 e4 => by subst e3 e4; exact hp).cl
theorem addh_fn (G : Pg C) {x dx H : Addr} {rows : List AV} {n v : PySem.Str} (I : HO st x dx H rows) (hn : RxNo C 125 n) (hv : RxNo C 130 v) (hz : rows.length ≤ 1000) (hvl : v.length ≤ 1000) :
    Fn C (lv + 2) (.ref 256) [.ref x, .str n, .str v] [] st fun y st' => y = .none ∧ Upd st H (.list rows) (.list (rows ++ [.tup [.str n, .str v]])) st' := by
  refine Fn.sub ?_
  refine' Pg.fnI (ι := Addr × Obj × List (PySem.Str × Value)) (fun D => D.2.1.IsDictOf (strKind C.prog C.w) D.2.2 ∧ PureE [] D.2.2) G (fun D => [(Str.ofString "self", .ref x), (Str.ofString "_name", .str n), (Str.ofString "_value", .str v), (Str.ofString "_params", .ref D.1)]) (fun D => (D.1, .raw D.2.1) :: st) [Str.ofString "self", Str.ofString "_name", Str.ofString "_value", Str.ofString "_params"] ?ho ?hcd ?hb ?hclo ?hgl ?hbu ?hco ?hgen ?hk ?hok ?hns ?hcn ?hbn _ ?hsc ?h
  case ho => exact rfl
  case hcd => exact rfl
  case hb => exact rfl
  case hclo => exact rfl
  case hgl => exact rfl
  case hbu => exact rfl
  case hco => exact rfl
  case hgen => exact rfl
  case hk => exact rfl
  case hok => exact rfl
  case hns => exact fun _ => rfl
  case hcn => exact rfl
  case hbn =>
    intro Post' hp
    refine Bn.more G.gd [Str.ofString "self", Str.ofString "_name", Str.ofString "_value"] (Str.ofString "_params") (fun S => len30 fun a b c => ⟨_, by rw [G.k]; rfl, fun D => rfl⟩) .nil List.nodup_nil (fun D o kvs hd hpe => hp (D, o, kvs) ⟨hd, hpe⟩)
  case hsc => dsimp only; exact rfl
  rintro ⟨D, o, kvs⟩ ⟨hd, hpe⟩
  dsimp only
  walk_at "go"
  walk_at "go"
  refine Ev.lstM rfl ?_
  repeat walk_at "go"
  intro L
  repeat walk_at "go"
  refine Op2.isNotNoneS ?_
  repeat walk_at "go"
  have I1 : HO ((L, AO.list []) :: (D, AO.raw o) :: st) x dx H rows := (I.cons _).cons _
  refine Ev.conv G I1 (fun _ _ _ => rfl) rfl rfl ?_
  walk_at "go"
  refine ⟨rfl, rfl, ?_⟩
  walk_at "go"
  refine ⟨_, rfl, hv, ?_⟩
  repeat walk_at "go"
  refine Cl.append .head (by decide) ?_
  walk_at "go"
  walk_at "go"
  refine' Ex1.items ?h1 ?_
  case h1 => exact fun _ _ => rfl
  repeat walk_at "go"
  refine ⟨_, _, Mt.rawDict PySem.F.slot_dict_items PySem.F.type_dict_items (by walk_at "mem") hd, ?_⟩
  repeat walk_at "go"
  refine Cl.rawItems (by walk_at "mem") hd fun V => ?_
  refine ⟨V, D, o, kvs, [], rfl, by walk_at "mem", by walk_at "mem", hd, hpe, fun _ l s => l = setL (setL [(Str.ofString "self", .ref x), (Str.ofString "_name", .str n), (Str.ofString "_value", .str v), (Str.ofString "_params", .ref D)] (Str.ofString "parts") (.ref L)) (Str.ofString "_value") (.str v) ∧ s = (V, AO.raw (itemsObj D)) :: (L, AO.list [.str v]) :: (D, AO.raw o) :: st, ⟨rfl, rfl⟩, fun i l s e => by rw [e.2]; walk_at "mem", fun i k y l s e => by simp at e, fun l s e => ?_⟩
  refine xe02 e fun e1 e2 => ?_; clear e
  subst e1 e2
  have I2 : HO ((V, AO.raw (itemsObj D)) :: (L, AO.list [.str v]) :: (D, AO.raw o) :: st) x dx H rows := ((I.cons _).cons _).cons _
  repeat walk_at "go"
  refine headers_attr G I2 (fun _ _ _ => rfl) ?_
  walk_at "go"
  refine ⟨rfl, rfl, ?_⟩
  refine ⟨_, _, Mt.list PySem.F.slot_list_append PySem.F.type_list_append (.ref I2.h), ?_⟩
  refine Evs.cons ?_
  walk_at "go"
  walk_at "go"
  refine Ev.conv G I2 (fun _ _ _ => rfl) rfl rfl ?_
  walk_at "go"
  refine ⟨rfl, rfl, ?_⟩
  walk_at "go"
  refine ⟨_, rfl, hn, ?_⟩
  repeat walk_at "go"
  have hs2 : (Str.ofString "; ").length = 2 := by decide +kernel
  refine Cl.join (ys := [v]) (.ref (show (L, AO.list [AV.str v]) ∈ _ from by walk_at "mem")) (by rw [hs2]; simp; lia) ?_
  rw [join1]
  repeat walk_at "go"
  refine xe11 (Upd.of_mem I.h (.list (rows ++ [.tup [.str n, .str v]]))) fun s2 u2 => ?_
  refine Cl.append (.tail (.tail (.tail u2))) (by rw [sizeLine_eq]; lia) ?_
  repeat walk_at "go"
  exact ⟨s2, ((List.sublist_cons_self _ _).trans (List.sublist_cons_self _ _)).trans (List.sublist_cons_self _ _), rfl, u2⟩
end
section
variable {C : Cx} {lv : Nat} {sc : Scope} {cel : List (PySem.Str × Addr)} {loc : Locs} {st : St}
set_option pp.deepTerms false
set_option pp.maxSteps 2000
theorem Bd.rel {base : Locs} (hs : Sub base loc) {x : PySem.Str} {y : AV} {Post : Locs → St → Prop} (h : Bd C sc cel base x y st Post) : Bd C sc cel loc x y st Post := fun P A env s v Q E en R F hv k => h P A env s v Q E en R (F.rel hs) hv k
theorem addp_fn (G : Pg C) {x dx H : Addr} {rows : List AV} {w : PySem.Str} (I : HO st x dx H rows) (hw : RxNo C 130 w) (hz : rows.length ≤ 1000) (h0 : 0 < w.length) (h1 : w.length ≤ 100)
    (h2 : (Txt.replace w (Str.ofString "\\") (Str.ofString "\\\\")).length ≤ 1000) (h3 : (fpV w).length ≤ 1000) :
    Fn C (lv + 2) (.ref 256) [.ref x, .str (Str.ofString "x"), .none] [(Str.ofString "line", .str w)] st fun y st' => y = .none ∧ Upd st H (.list rows) (.list (rows ++ [.tup [.str (Str.ofString "x"), .str (fpT (Str.ofString "line") w)]])) st' := by
  refine Fn.sub ?_
  refine' Pg.fnI (ι := Addr × Obj × List (PySem.Str × Value)) (fun D => D.2.1.IsDictOf (strKind C.prog C.w) D.2.2 ∧ PureE [(Str.ofString "line", .str w)] D.2.2) G (fun D => [(Str.ofString "self", .ref x), (Str.ofString "_name", .str (Str.ofString "x")), (Str.ofString "_value", .none), (Str.ofString "_params", .ref D.1)]) (fun D => (D.1, .raw D.2.1) :: st) [Str.ofString "self", Str.ofString "_name", Str.ofString "_value", Str.ofString "_params"] ?ho ?hcd ?hb ?hclo ?hgl ?hbu ?hco ?hgen ?hk ?hok ?hns ?hcn ?hbn _ ?hsc ?h
  case ho => exact rfl
  case hcd => exact rfl
  case hb => exact rfl
  case hclo => exact rfl
  case hgl => exact rfl
  case hbu => exact rfl
  case hco => exact rfl
  case hgen => exact rfl
  case hk => exact rfl
  case hok => exact rfl
  case hns => exact fun _ => rfl
  case hcn => exact rfl
  case hbn =>
    intro Post' hp
    refine Bn.more G.gd [Str.ofString "self", Str.ofString "_name", Str.ofString "_value"] (Str.ofString "_params") (fun S => len31 fun a b c u => ⟨_, by rw [G.k]; rfl, fun D => rfl⟩) (.cons .nil) (List.nodup_cons.mpr ⟨by simp, List.nodup_nil⟩) (fun D o kvs hd hpe => hp (D, o, kvs) ⟨hd, hpe⟩)
  case hsc => dsimp only; exact rfl
  rintro ⟨D, o, kvs⟩ ⟨hd, hpe⟩
  dsimp only
  walk_at "go"
  walk_at "go"
  refine Ev.lstM rfl ?_
  repeat walk_at "go"
  intro L
  repeat walk_at "go"
  refine Op2.isNotNoneN ?_
  walk_at "go"
  walk_at "go"
  walk_at "go"
  walk_at "go"
  refine' Ex1.items ?h1 ?_
  case h1 => exact fun _ _ => rfl
  walk_at "go"
  walk_at "go"
  refine ⟨_, _, Mt.rawDict PySem.F.slot_dict_items PySem.F.type_dict_items (by walk_at "mem") hd, ?_⟩
  walk_at "go"
  walk_at "go"
  refine Cl.rawItems (by walk_at "mem") hd fun V => ?_
  refine ⟨V, D, o, kvs, [(Str.ofString "line", .str w)], rfl, by walk_at "mem", by walk_at "mem", hd, hpe, fun i l s => Sub [(Str.ofString "self", .ref x), (Str.ofString "_name", .str (Str.ofString "x")), (Str.ofString "parts", .ref L)] l ∧ s = (V, AO.raw (itemsObj D)) :: (L, AO.list (if i = 0 then [] else [.str (fpT (Str.ofString "line") w)])) :: (D, AO.raw o) :: st, ⟨by walk_at "sub", rfl⟩, fun i l s e => by rw [e.2]; walk_at "mem", ?_, ?_⟩
  · rintro i k y l s hky ⟨hs, rfl⟩
    have hi : i = 0 := by
      have := (List.getElem?_eq_some_iff.mp hky).1
      simpa using this
    subst hi
    simp only [List.getElem?_cons_zero, Option.some.injEq, Prod.mk.injEq] at hky
    refine xe02 hky fun qe0 qe1 => ?_; clear hky; subst qe0; subst qe1
    rw [if_pos rfl]
    have I2 : HO ((V, AO.raw (itemsObj D)) :: (L, AO.list []) :: (D, AO.raw o) :: st) x dx H rows := ((I.cons _).cons _).cons _
    refine Bd.rel hs ?_
    walk_at "go"
    walk_at "go"
    walk_at "go"
    walk_at "go"
    refine Ev.conv G I2 (fun _ _ _ => rfl) rfl rfl ?_
    walk_at "go"
    refine ⟨rfl, rfl, ?_⟩
    walk_at "go"
    refine ⟨_, rfl, rxn_line, ?_⟩
    repeat walk_at "go"
    refine Op2.isNoneS ?_
    repeat walk_at "go"
    refine Ev.conv G I2 (fun _ _ _ => rfl) rfl rfl ?_
    walk_at "go"
    refine ⟨rfl, rfl, ?_⟩
    walk_at "go"
    refine ⟨_, rfl, hw, ?_⟩
    repeat walk_at "go"
    refine Cl.replaceNo (by decide +kernel) ?_
    repeat walk_at "go"
    refine (Fn.mono (fpar_fn G (by decide +kernel) h0 h1 h2 (by lia)) fun y s2 hq => xe02 hq fun e1 e2 => ?_).cl
    subst e1 e2
    repeat walk_at "go"
    refine Cl.append (.tail .head) (by decide) ?_
    repeat walk_at "go"
    exact ⟨by walk_at "sub", rfl⟩
  · rintro l s ⟨hs, rfl⟩
    refine Ex.rel hs ?_
    have I2 : HO ((V, AO.raw (itemsObj D)) :: (L, AO.list (if [(Str.ofString "line", AV.str w)].length = 0 then [] else [.str (fpT (Str.ofString "line") w)])) :: (D, AO.raw o) :: st) x dx H rows := ((I.cons _).cons _).cons _
    have hL : (L, AO.list [.str (fpT (Str.ofString "line") w)]) ∈ (V, AO.raw (itemsObj D)) :: (L, AO.list (if [(Str.ofString "line", AV.str w)].length = 0 then [] else [.str (fpT (Str.ofString "line") w)])) :: (D, AO.raw o) :: st := .tail _ (.head _)
    have hlen : (fpT (Str.ofString "line") w).length ≤ 1007 := by
      unfold fpT
      rw [len_app, len_app, len_app, len_app, show (Str.empty : PySem.Str).length = 0 from rfl, show (Str.ofString "line").length = 4 by decide +kernel, show (Str.ofString "=\"").length = 2 by decide +kernel, show (Str.ofString "\"").length = 1 by decide +kernel]
      lia
    repeat walk_at "go"
    refine headers_attr G I2 (fun _ _ _ => rfl) ?_
    walk_at "go"
    refine ⟨rfl, rfl, ?_⟩
    refine ⟨_, _, Mt.list PySem.F.slot_list_append PySem.F.type_list_append (.ref I2.h), ?_⟩
    refine Evs.cons ?_
    walk_at "go"
    walk_at "go"
    refine Ev.conv G I2 (fun _ _ _ => rfl) rfl rfl ?_
    walk_at "go"
    refine ⟨rfl, rfl, ?_⟩
    walk_at "go"
    refine ⟨_, rfl, rxn_x, ?_⟩
    repeat walk_at "go"
    have hs2 : (Str.ofString "; ").length = 2 := by decide +kernel
    refine Cl.join (ys := [fpT (Str.ofString "line") w]) (.ref hL) (by rw [hs2]; simp; lia) ?_
    rw [join1]
    repeat walk_at "go"
    refine xe11 (Upd.of_mem I.h (.list (rows ++ [.tup [.str (Str.ofString "x"), .str (fpT (Str.ofString "line") w)]]))) fun s2 u2 => ?_
    refine Cl.append (.tail (.tail (.tail u2))) (by rw [sizeLine_eq]; lia) ?_
    repeat walk_at "go"
    exact ⟨s2, ((List.sublist_cons_self _ _).trans (List.sublist_cons_self _ _)).trans (List.sublist_cons_self _ _), rfl, u2⟩
end
section
structure Gr (V : List PySem.Str) (N : PySem.Str → List PySem.Str) : Prop where
  nd : V.Nodup
  mem : ∀ {x y}, y ∈ N x → y ∈ V
  sym : ∀ {x y}, y ∈ N x → x ∈ N y
  irr : ∀ {x}, x ∉ N x

inductive Cn (N : PySem.Str → List PySem.Str) (I : PySem.Str → Prop) : PySem.Str → PySem.Str → Prop
  | one {x : PySem.Str} : I x → Cn N I x x
  | step {x y z : PySem.Str} : Cn N I x y → z ∈ N y → I z → Cn N I x z
section
variable {V : List PySem.Str} {N : PySem.Str → List PySem.Str} {I J : PySem.Str → Prop}
theorem Cn.left {x y : PySem.Str} (h : Cn N I x y) : I x := by
  induction h with
  | one h => exact h
  | step _ _ _ ih => exact ih
theorem Cn.right {x y : PySem.Str} (h : Cn N I x y) : I y := by cases h <;> assumption
theorem Cn.mono {x y : PySem.Str} (h : Cn N I x y) (hIJ : ∀ z, I z → J z) : Cn N J x y := by
  induction h with
  | one h => exact .one (hIJ _ h)
  | step _ hz hi ih => exact .step ih hz (hIJ _ hi)
theorem Cn.trans {x y z : PySem.Str} (h : Cn N I x y) (h' : Cn N I y z) : Cn N I x z := by
  induction h' with
  | one _ => exact h
  | step _ hz hi ih => exact .step ih hz hi
theorem Cn.cons {x y z : PySem.Str} (hx : I x) (hy : y ∈ N x) (h : Cn N I y z) : Cn N I x z := (Cn.step (.one hx) hy h.left).trans h
theorem Cn.symm (G : Gr V N) {x y : PySem.Str} (h : Cn N I x y) : Cn N I y x := by
  induction h with
  | one h => exact .one h
  | step h hz hi ih => exact .cons hi (G.sym hz) ih

noncomputable def Inner (N : PySem.Str → List PySem.Str) (p z : PySem.Str) : Prop := z ≠ p ∧ z ∉ N p
noncomputable def Rng' (N : PySem.Str → List PySem.Str) (U : PySem.Str → Prop) (p a b : PySem.Str) : Prop :=
  a ∈ N p ∧ b ∈ N p ∧ a ≠ b ∧ b ∉ N a ∧ ∃ x ∈ N a, ∃ y, Cn N (fun z => Inner N p z ∧ U z) x y ∧ b ∈ N y
theorem Rng'.symm (G : Gr V N) {U : PySem.Str → Prop} {p a b : PySem.Str} (h : Rng' N U p a b) : Rng' N U p b a := by
  obtain ⟨h1, h2, h3, h4, x, hx, y, hc, hb⟩ := h
  exact ⟨h2, h1, h3.symm, fun q => h4 (G.sym q), y, G.sym hb, x, hc.symm G, G.sym hx⟩
theorem rch_of {p a b x y : PySem.Str} (hx : x ∈ N a) (h : Cn N (fun z => Inner N p z ∧ True) x y) (hb : b ∈ N y) : Rch N p b a b := by
  refine .step (x := y) ?_ hb (.inr rfl)
  clear hb
  induction h with
  | one h => exact .step .base hx (.inl h.1)
  | step _ hz hi ih => exact .step ih hz (.inl hi.1)
theorem str_trich {a b : PySem.Str} (h : a ≠ b) : sLt a b ∨ sLt b a := by
  unfold sLt
  refine Classical.byContradiction fun hn => h ?_
  rw [not_or] at hn
  have q : a.cps.toList = b.cps.toList := List.le_antisymm (List.not_lt.mp hn.2) (List.not_lt.mp hn.1)
  cases a; cases b; simpa using q
theorem ring_of (G : Gr V N) {p a b : PySem.Str} (h : Rng' N (fun _ => True) p a b) : Ring V N := by
  have key : ∀ {a b : PySem.Str}, Rng' N (fun _ => True) p a b → sLt a b → Ring V N := fun {a b} h hl => by
    obtain ⟨h1, h2, h3, h4, x, hx, y, hc, hb⟩ := h
    exact ⟨p, G.mem (G.sym h1), a, h1, b, h2, hl, h4, rch_of hx hc hb⟩
  rcases str_trich h.2.2.1 with q | q
  · exact key h q
  · exact key (h.symm G) q
theorem ring_to (G : Gr V N) (h : Ring V N) : ∃ p a b, Rng' N (fun z => z ∈ V) p a b := by
  obtain ⟨p, hp, a, ha, b, hb, hl, hn, hr⟩ := h
  have hab : a ≠ b := fun e => by subst e; exact List.lt_irrefl _ hl
  refine ⟨p, a, b, ha, hb, hab, hn, ?_⟩
  have key : ∀ z, Rch N p b a z → z = a ∨ (∃ x ∈ N a, Cn N (fun z => Inner N p z ∧ z ∈ V) x z) ∨ (∃ x ∈ N a, ∃ y, Cn N (fun z => Inner N p z ∧ z ∈ V) x y ∧ b ∈ N y) := by
    intro z hz
    induction hz with
    | base => exact .inl rfl
    | step _ hs hc ih =>
      rcases ih with q | ⟨x, hx, q⟩ | q
      · subst q
        rcases hc with hc | hc
        · exact .inr (.inl ⟨_, hs, .one ⟨hc, G.mem hs⟩⟩)
        · exact absurd (hc ▸ hs) hn
      · rcases hc with hc | hc
        · exact .inr (.inl ⟨x, hx, .step q hs ⟨hc, G.mem hs⟩⟩)
        · exact .inr (.inr ⟨x, hx, _, q, hc ▸ hs⟩)
      · exact .inr (.inr q)
  rcases key b hr with q | ⟨x, hx, q⟩ | q
  · exact absurd q.symm hab
  · exact absurd hb q.right.1.2
  · exact q

noncomputable def NoGap (pos : PySem.Str → Nat) (V : List PySem.Str) (N : PySem.Str → List PySem.Str) : Prop :=
  ∀ c a b, a ∈ N c → b ∈ N c → pos a < pos c → pos b < pos c → a ≠ b → b ∈ N a
theorem noRing_of (G : Gr V N) {pos : PySem.Str → Nat} (hinj : ∀ x ∈ V, ∀ y ∈ V, pos x = pos y → x = y) (hg : NoGap pos V N) : ¬ Ring V N := fun h => by
  refine xe31 (ring_to G h) fun p a b hr => ?_
  have main : ∀ n p a b, Rng' N (fun z => z ∈ V ∧ pos z < n) p a b → pos p < n → pos a < n → pos b < n → False := by
    intro n
    induction n with
    | zero => intro p a b _ h; lia
    | succ n ih =>
      intro p a b h hp ha hb
      have hpV : p ∈ V := G.mem (G.sym h.1)
      have haV : a ∈ V := G.mem h.1
      have hbV : b ∈ V := G.mem h.2.1
      by_cases ep : pos p = n
      · refine xe05 h fun h1 h2 h3 h4 _ => ?_; clear h
        have na : pos a ≠ n := fun e => by have := hinj _ hpV _ haV (by lia); subst this; exact G.irr h1
        have nb : pos b ≠ n := fun e => by have := hinj _ hpV _ hbV (by lia); subst this; exact G.irr h2
        exact h4 (hg p a b h1 h2 (by lia) (by lia) h3)
      have endA : ∀ {a b : PySem.Str}, a ∈ V → Rng' N (fun z => z ∈ V ∧ pos z < n + 1) p a b → pos a = n → False := fun {a b} haV h ea => by
        obtain ⟨h1, h2, h3, h4, x, hx, y, hc, hby⟩ := h
        obtain ⟨⟨i1, i2⟩, xV, i3⟩ := hc.left
        have nx : pos x ≠ n := fun e => by have := hinj _ haV _ xV (by lia); subst this; exact G.irr hx
        exact i2 (hg a p x (G.sym h1) hx (by lia) (by lia) i1.symm)
      by_cases ea : pos a = n
      · exact endA haV h ea
      by_cases eb : pos b = n
      · exact endA hbV (h.symm G) eb
      obtain ⟨h1, h2, h3, h4, x, hx, y, hc, hby⟩ := h
      -- walk from a with the last point taken out
      let R : PySem.Str → Prop := fun z => z = a ∨ ∃ x ∈ N a, Cn N (fun z => Inner N p z ∧ z ∈ V ∧ pos z < n) x z
      have ext : ∀ w z, R w → z ∈ N w → Inner N p z → z ∈ V → pos z < n → R z := fun w z hw hz hi hV hl => by
        rcases hw with q | ⟨x, hx, q⟩
        · subst q; exact .inr ⟨z, hz, .one ⟨hi, hV, hl⟩⟩
        · exact .inr ⟨x, hx, .step q hz ⟨hi, hV, hl⟩⟩
      have key : ∀ z, Cn N (fun z => Inner N p z ∧ z ∈ V ∧ pos z < n + 1) x z → (pos z < n ∧ R z) ∨ (pos z = n ∧ ∃ w, R w ∧ z ∈ N w ∧ pos w < n) := by
        intro z hz
        induction hz with
        | one hi =>
          refine xe03 hi fun i1 i2 i3 => ?_; clear hi
          by_cases e : pos x = n
          · exact .inr ⟨e, a, .inl rfl, hx, by lia⟩
          · exact .inl ⟨by lia, ext a x (.inl rfl) hx i1 i2 (by lia)⟩
        | @step y z hyc hz hi ih =>
          refine xe03 hi fun i1 i2 i3 => ?_; clear hi
          rcases ih with ⟨q1, q2⟩ | ⟨q1, w, q2, q3, q4⟩
          · by_cases e : pos z = n
            · exact .inr ⟨e, y, q2, hz, q1⟩
            · exact .inl ⟨by lia, ext y z q2 hz i1 i2 (by lia)⟩
          · have hyV := hyc.right.2.1
            have nz : pos z ≠ n := fun e => by have := hinj _ hyV _ i2 (by lia); subst this; exact G.irr hz
            refine .inl ⟨by lia, ?_⟩
            by_cases e : w = z
            · exact e ▸ q2
            · exact ext w z q2 (hg y w z (G.sym q3) hz (by lia) (by lia) e) i1 i2 (by lia)
      have fin : ∀ w, R w → b ∈ N w → False := fun w hw hbw => by
        rcases hw with q | ⟨x', hx', q⟩
        · subst q; exact h4 hbw
        · exact ih p a b ⟨h1, h2, h3, h4, x', hx', w, q, hbw⟩ (by lia) (by lia) (by lia)
      rcases key y hc with ⟨q1, q2⟩ | ⟨q1, w, q2, q3, q4⟩
      · exact fin y q2 hby
      · by_cases e : w = b
        · subst e
          rcases q2 with q | ⟨x', hx', q⟩
          · exact h3 q.symm
          · exact q.right.1.2 h2
        · exact fin w q2 (hg y w b (G.sym q3) hby (by lia) (by lia) e)
  -- a bound over all places
  have hb : ∃ n, ∀ z ∈ V, pos z < n := by
    have : ∀ l : List PySem.Str, ∃ n, ∀ z ∈ l, pos z < n := by
      intro l
      induction l with
      | nil => exact ⟨0, fun z hz => by cases hz⟩
      | cons x l ih =>
        refine xe11 ih fun n hn => ?_; clear ih
        refine ⟨max n (pos x + 1), fun z hz => ?_⟩
        rcases List.mem_cons.mp hz with q | q
        · subst q; lia
        · have := hn z q; lia
    exact this V
  refine xe11 hb fun n hn => ?_; clear hb
  refine main n p a b ?_ (hn _ (G.mem (G.sym hr.1))) (hn _ (G.mem hr.1)) (hn _ (G.mem hr.2.1))
  obtain ⟨h1, h2, h3, h4, x, hx, y, hc, hby⟩ := hr
  exact ⟨h1, h2, h3, h4, x, hx, y, hc.mono fun z hz => ⟨hz.1, hz.2, hn z hz.2⟩, hby⟩

noncomputable def Mns (pos : PySem.Str → Nat) (V : List PySem.Str) (N : PySem.Str → List PySem.Str) : Prop :=
  ∀ a b c, a ∈ V → b ∈ V → c ∈ V → pos a < pos b → pos b < pos c → c ∈ N a → b ∉ N a → ∃ d ∈ V, pos d < pos b ∧ d ∈ N b ∧ d ∉ N c
theorem gap_ring (G : Gr V N) {pos : PySem.Str → Nat} (hinj : ∀ x ∈ V, ∀ y ∈ V, pos x = pos y → x = y) (hm : Mns pos V N) (hr : ¬ Ring V N) : NoGap pos V N := by
  have main : ∀ n x y v, pos y < n → x ∈ V → y ∈ V → pos x < pos y → y ∉ N x → v ∈ N x → pos y < pos v →
      (y ∈ N v ∨ ∃ u ∈ N v, ∃ w, Cn N (fun z => pos y < pos z ∧ z ∉ N x) u w ∧ y ∈ N w) → False := by
    intro n
    induction n with
    | zero => intro x y v h; lia
    | succ n ih =>
      intro x y v hn hx hy hxy hnot hv hvy hlk
      have hvV : v ∈ V := G.mem hv
      refine xe14 (hm x y v hx hy hvV hxy hvy hv hnot) fun d hd d1 d2 d3 => ?_
      have dne : d ≠ x := fun e => hnot (e ▸ G.sym d2)
      have vne : v ≠ d := fun e => by subst e; lia
      have ynx : y ≠ x := fun e => by subst e; lia
      -- from v to y
      have hvy' : ∀ K : PySem.Str → Prop, K y → (∀ z, pos y < pos z → z ∉ N x → K z) → ∃ u ∈ N v, Cn N K u y := fun K hy' hK => by
        rcases hlk with q | ⟨u, hu, w, hc, hw⟩
        · exact ⟨y, q, .one hy'⟩
        · exact ⟨u, hu, .step (hc.mono fun z hz => hK z hz.1 hz.2) hw hy'⟩
      by_cases hdx : d ∈ N x
      · refine xe12 (hvy' (fun z => Inner N x z ∧ True) ⟨⟨ynx, hnot⟩, trivial⟩ fun z h1 h2 => ⟨⟨fun e => by subst e; lia, h2⟩, trivial⟩) fun u hu hc => ?_
        exact hr (ring_of G ⟨hv, hdx, vne, fun q => d3 (by exact q), u, hu, y, hc, d2⟩)
      · rcases Nat.lt_trichotomy (pos x) (pos d) with q | q | q
        · refine xe12 (hvy' (fun z => pos d < pos z ∧ z ∉ N x) ⟨d1, hnot⟩ fun z h1 h2 => ⟨by lia, h2⟩) fun u hu hc => ?_
          exact ih x d v (by lia) hx hd q hdx hv (by lia) (.inr ⟨u, hu, y, hc, d2⟩)
        · exact dne (hinj _ hd _ hx q.symm)
        · refine xe12 (hvy' (fun z => pos x < pos z) hxy fun z h1 h2 => by lia) fun u hu hc => ?_
          have hc' : Cn N (fun z => pos x < pos z) y v := (hc.symm G).trans (.step (.one hc.left) (G.sym hu) (by lia))
          have key : ∀ z, Cn N (fun z => pos x < pos z) y z → ∃ v' ∈ N d, pos x < pos v' ∧ (v' = z ∨ ∃ u ∈ N v', Cn N (fun z => pos x < pos z ∧ z ∉ N d) u z) := by
            intro z hz
            induction hz with
            | one h => exact ⟨y, G.sym d2, h, .inl rfl⟩
            | @step w z hyc hz hi ih =>
              by_cases hzd : z ∈ N d
              · exact ⟨z, hzd, hi, .inl rfl⟩
              · refine xe13 ih fun v' g1 g2 g3 => ?_; clear ih
                refine ⟨v', g1, g2, .inr ?_⟩
                rcases g3 with e | ⟨u', hu', g3⟩
                · subst e; exact ⟨z, hz, .one ⟨hi, hzd⟩⟩
                · exact ⟨u', hu', .step g3 hz ⟨hi, hzd⟩⟩
          refine xe13 (key v hc') fun v' g1 g2 g3 => ?_
          refine ih d x v' (by lia) hd hx q (fun e => hdx (G.sym e)) g1 g2 ?_
          rcases g3 with e | ⟨u', hu', g3⟩
          · subst e; exact .inl (G.sym hv)
          · exact .inr ⟨u', hu', v, g3, G.sym hv⟩
  intro c a b ha hb pa pb hab
  refine Classical.byContradiction fun hn => ?_
  have haV := G.mem ha
  have hbV := G.mem hb
  rcases Nat.lt_trichotomy (pos a) (pos b) with q | q | q
  · exact main _ a b c (Nat.lt_succ_self _) haV hbV q hn (G.sym ha) pb (.inl hb)
  · exact hab (hinj _ haV _ hbV q)
  · exact main _ b a c (Nat.lt_succ_self _) hbV haV q (fun e => hn (G.sym e)) (G.sym hb) pa (.inl ha)
end
end
section
/-! the greater of two rows -/
theorem lgtB_irr : ∀ x : List Int, lgtB x x = false
  | [] => rfl
  | a :: x => by unfold lgtB; rw [if_pos rfl]; exact lgtB_irr x
theorem lgtB_tr : ∀ {x y z : List Int}, lgtB x y = true → lgtB y z = true → lgtB x z = true
  | [], _, _, h, _ => by cases h
  | _ :: _, [], _, _, h => by cases h
  | a :: x, b :: y, [], _, _ => rfl
  | a :: x, b :: y, c :: z, h, h' => by
    unfold lgtB at h h' ⊢
    split at h
    · rename_i e; subst e
      split at h'
      · rename_i e; subst e; rw [if_pos rfl]; exact lgtB_tr h h'
      · rename_i e; rw [if_neg e]; exact h'
    · rename_i e
      split at h'
      · rename_i e'; subst e'; rw [if_neg e]; exact h
      · simp only [decide_eq_true_eq] at h h'
        rw [if_neg (by lia), decide_eq_true_eq]; lia
theorem lgtB_tri : ∀ {x y : List Int}, lgtB x y = false → lgtB y x = false → x = y
  | [], [], _, _ => rfl
  | [], _ :: _, _, h => by cases h
  | _ :: _, [], h, _ => by cases h
  | a :: x, b :: y, h, h' => by
    unfold lgtB at h h'
    by_cases e : a = b
    · subst e
      rw [if_pos rfl] at h h'
      rw [lgtB_tri h h']
    · rw [if_neg e, decide_eq_false_iff_not] at h
      rw [if_neg (Ne.symm e), decide_eq_false_iff_not] at h'
      lia
theorem lgtB_neg {x y z : List Int} (h : lgtB y x = false) (h' : lgtB z y = false) : lgtB z x = false := by
  cases q : lgtB z x with
  | false => rfl
  | true =>
    cases q' : lgtB x y with
    | true => rw [lgtB_tr q q'] at h'; cases h'
    | false => rw [lgtB_tri h q'] at h'; rw [h'] at q; cases q
theorem maxR_top : ∀ {ms : List (List Int)} {z : List Int}, z ∈ ms → lgtB z (maxR ms) = false
  | y :: r, z, hz => by
    have key : ∀ (r : List (List Int)) (y : List Int), lgtB y (r.foldl bR y) = false ∧ ∀ z ∈ r, lgtB z (r.foldl bR y) = false := by
      intro r
      induction r with
      | nil => intro y; exact ⟨lgtB_irr y, fun z hz => by cases hz⟩
      | cons w r ih =>
        intro y
        refine xe02 (ih (bR y w)) fun h1 h2 => ?_
        have hb : lgtB y (bR y w) = false ∧ lgtB w (bR y w) = false := by
          unfold bR
          split
          · rename_i q
            refine ⟨?_, lgtB_irr w⟩
            cases q' : lgtB y w with
            | false => rfl
            | true => have := lgtB_tr q q'; rw [lgtB_irr] at this; cases this
          · rename_i q
            exact ⟨lgtB_irr y, by simpa using q⟩
        refine ⟨lgtB_neg h1 hb.1, fun z hz => ?_⟩
        rcases List.mem_cons.mp hz with q | q
        · subst q; exact lgtB_neg h1 hb.2
        · exact h2 z q
    rcases List.mem_cons.mp hz with q | q
    · subst q; exact (key r z).1
    · exact (key r y).2 z q
theorem maxN_top : ∀ {ms : List Int} {z : Int}, z ∈ ms → z ≤ maxN ms
  | y :: r, z, hz => by
    have key : ∀ (r : List Int) (y : Int), y ≤ r.foldl bI y ∧ ∀ z ∈ r, z ≤ r.foldl bI y := by
      intro r
      induction r with
      | nil => intro y; exact ⟨Int.le_refl y, fun z hz => by cases hz⟩
      | cons w r ih =>
        intro y
        refine xe02 (ih (bI y w)) fun h1 h2 => ?_
        have hb : y ≤ bI y w ∧ w ≤ bI y w := by unfold bI; split <;> lia
        refine ⟨by refine (?_ : y ≤ r.foldl bI (bI y w)); lia, fun z hz => ?_⟩
        refine (?_ : z ≤ r.foldl bI (bI y w))
        rcases List.mem_cons.mp hz with q | q
        · subst q; lia
        · exact h2 z q
    rcases List.mem_cons.mp hz with q | q
    · subst q; exact (key r z).1
    · exact (key r y).2 z q
theorem getD_idx {α β : Type} [BEq β] [LawfulBEq β] (f : α → β) {left : List α} {d : α} {m : β} (hm : m ∈ left.map f) : left.getD ((left.map f).idxOf m) d ∈ left ∧ f (left.getD ((left.map f).idxOf m) d) = m := by
  have hi := List.idxOf_lt_length_iff.mpr hm
  have hi' : (left.map f).idxOf m < left.length := by simpa using hi
  rw [List.getD_eq_getElem?_getD, List.getElem?_eq_getElem hi']
  refine ⟨List.getElem_mem _, ?_⟩
  have := List.getElem_idxOf hi
  rw [List.getElem_map] at this
  exact this
theorem pick_top {lex : Bool} {N : PySem.Str → List PySem.Str} {row left : List PySem.Str} (h : left ≠ []) : ∀ c ∈ left,
    if lex then lgtB (markOf N row c) (markOf N row (pick lex N row left)) = false else (markOf N row c).sum ≤ (markOf N row (pick lex N row left)).sum := by
  intro c hc
  unfold pick
  cases lex with
  | true =>
    simp only [if_true]
    rw [(getD_idx (markOf N row) (d := ⟨#[]⟩) (maxR_mem (ms := left.map (markOf N row)) (by simpa using h))).2]
    exact maxR_top (List.mem_map_of_mem hc)
  | false =>
    simp only [Bool.false_eq_true, if_false]
    rw [(getD_idx (fun s => (markOf N row s).sum) (d := ⟨#[]⟩) (maxN_mem (ms := left.map fun s => (markOf N row s).sum) (by simpa using h))).2]
    exact maxN_top (List.mem_map_of_mem (f := fun s => (markOf N row s).sum) hc)
theorem first_idx {α β : Type} [BEq β] [LawfulBEq β] (f : α → β) {l1 l2 : List α} {p d : α} (h : ∀ c ∈ l1, f c ≠ f p) : (l1 ++ p :: l2).getD (((l1 ++ p :: l2).map f).idxOf (f p)) d = p := by
  have : ((l1 ++ p :: l2).map f).idxOf (f p) = l1.length := by
    rw [List.map_append, List.idxOf_append, if_neg]
    · simp
    · intro hm
      refine xe12 (List.mem_map.mp hm) fun c hc e => ?_
      exact h c hc e
  rw [this]
  simp
theorem pick_lex {N : PySem.Str → List PySem.Str} {row l1 l2 : List PySem.Str} {p : PySem.Str} (h1 : ∀ c ∈ l1, lgtB (markOf N row p) (markOf N row c) = true) (h2 : ∀ c ∈ l2, lgtB (markOf N row c) (markOf N row p) = false) : pick true N row (l1 ++ p :: l2) = p := by
  unfold pick
  simp only [if_true]
  have hmax : maxR ((l1 ++ p :: l2).map (markOf N row)) = markOf N row p := by
    have hm := maxR_mem (ms := (l1 ++ p :: l2).map (markOf N row)) (by simp)
    refine xe12 (List.mem_map.mp hm) fun c hc e => ?_
    have ht := maxR_top (ms := (l1 ++ p :: l2).map (markOf N row)) (z := markOf N row p) (List.mem_map_of_mem (by simp))
    refine lgtB_tri ?_ ht
    rw [← e]
    rcases List.mem_append.mp hc with q | q
    · have := h1 c q
      cases z : lgtB (markOf N row c) (markOf N row p) with
      | false => rfl
      | true => have := lgtB_tr this z; rw [lgtB_irr] at this; cases this
    · rcases List.mem_cons.mp q with q | q
      · subst q; exact lgtB_irr _
      · exact h2 c q
  rw [hmax]
  exact first_idx _ fun c hc e => by have := h1 c hc; rw [e, lgtB_irr] at this; cases this
theorem pick_sum {N : PySem.Str → List PySem.Str} {row l1 l2 : List PySem.Str} {p : PySem.Str} (h1 : ∀ c ∈ l1, (markOf N row c).sum < (markOf N row p).sum) (h2 : ∀ c ∈ l2, (markOf N row c).sum ≤ (markOf N row p).sum) : pick false N row (l1 ++ p :: l2) = p := by
  unfold pick
  simp only [Bool.false_eq_true, if_false]
  have hmax : maxN ((l1 ++ p :: l2).map fun s => (markOf N row s).sum) = (markOf N row p).sum := by
    have hm := maxN_mem (ms := (l1 ++ p :: l2).map fun s => (markOf N row s).sum) (by simp)
    refine xe12 (List.mem_map.mp hm) fun c hc e => ?_
    have ht := maxN_top (ms := (l1 ++ p :: l2).map fun s => (markOf N row s).sum) (z := (markOf N row p).sum) (List.mem_map_of_mem (f := fun s => (markOf N row s).sum) (by simp))
    have : (markOf N row c).sum ≤ (markOf N row p).sum := by
      rcases List.mem_append.mp hc with q | q
      · have := h1 c q; lia
      · rcases List.mem_cons.mp q with q | q
        · subst q; lia
        · exact h2 c q
    lia
  rw [hmax]
  exact first_idx (fun s => (markOf N row s).sum) fun c hc e => by have := h1 c hc; lia
theorem mark_le {N : PySem.Str → List PySem.Str} {b c : PySem.Str} : ∀ {row : List PySem.Str}, (∀ d ∈ row, d ∈ N b → d ∈ N c) → (markOf N row b).sum ≤ (markOf N row c).sum
  | [], _ => by simp [markOf]
  | d :: row, h => by
    have ih := mark_le (row := row) fun d hd => h d (.tail _ hd)
    have hd := h d (.head _)
    refine (?_ : ((if d ∈ N b then (1 : Int) else 0) :: markOf N row b).sum ≤ ((if d ∈ N c then (1 : Int) else 0) :: markOf N row c).sum)
    simp only [List.sum_cons]
    by_cases q : d ∈ N b
    · rw [if_pos q, if_pos (hd q)]; lia
    · rw [if_neg q]; split <;> lia
theorem mark_lt {N : PySem.Str → List PySem.Str} {b c : PySem.Str} : ∀ {row : List PySem.Str}, (∀ d ∈ row, d ∈ N b → d ∈ N c) → (∃ a ∈ row, a ∈ N c ∧ a ∉ N b) → lgtB (markOf N row c) (markOf N row b) = true ∧ (markOf N row b).sum < (markOf N row c).sum
  | [], _, h => by refine xe12 h fun a ha _ => ?_; clear h; cases ha
  | d :: row, h, ha => by
    have hd := h d (.head _)
    have ht : ∀ d ∈ row, d ∈ N b → d ∈ N c := fun d hd => h d (.tail _ hd)
    refine (?_ : lgtB ((if d ∈ N c then (1 : Int) else 0) :: markOf N row c) ((if d ∈ N b then (1 : Int) else 0) :: markOf N row b) = true ∧ ((if d ∈ N b then (1 : Int) else 0) :: markOf N row b).sum < ((if d ∈ N c then (1 : Int) else 0) :: markOf N row c).sum)
    simp only [List.sum_cons]
    have hle := mark_le (N := N) ht
    by_cases q : d ∈ N b
    · have hc := hd q
      have : ∃ a ∈ row, a ∈ N c ∧ a ∉ N b := by
        obtain ⟨a, ha, h1, h2⟩ := ha
        rcases List.mem_cons.mp ha with e | e
        · subst e; exact absurd q h2
        · exact ⟨a, e, h1, h2⟩
      refine xe02 (mark_lt ht this) fun i1 i2 => ?_
      rw [if_pos q, if_pos hc]
      exact ⟨by unfold lgtB; rw [if_pos rfl]; exact i1, by lia⟩
    · by_cases hc : d ∈ N c
      · rw [if_neg q, if_pos hc]
        exact ⟨by unfold lgtB; rw [if_neg (by decide)]; decide, by lia⟩
      · have : ∃ a ∈ row, a ∈ N c ∧ a ∉ N b := by
          obtain ⟨a, ha, h1, h2⟩ := ha
          rcases List.mem_cons.mp ha with e | e
          · subst e; exact absurd h1 hc
          · exact ⟨a, e, h1, h2⟩
        refine xe02 (mark_lt ht this) fun i1 i2 => ?_
        rw [if_neg q, if_neg hc]
        exact ⟨by unfold lgtB; rw [if_pos rfl]; exact i1, by lia⟩

theorem rowTo'_take {lex : Bool} {V : List PySem.Str} {N : PySem.Str → List PySem.Str} (hV : V.Nodup) : ∀ {n m}, n ≤ m → m ≤ V.length → (rowTo' lex V N m).take n = rowTo' lex V N n := by
  intro n m hnm hm
  induction m with
  | zero => have : n = 0 := by lia
            subst this; rfl
  | succ m ih =>
    refine xe02 (rowTo'_ok (lex := lex) (N := N) hV m (by lia)) fun h1 _ => ?_
    by_cases e : n = m + 1
    · subst e
      rw [List.take_of_length_le]
      rw [(rowTo'_ok (lex := lex) (N := N) hV (m + 1) hm).1]; exact Nat.le_refl _
    · rw [rowTo', List.take_append_of_le_length (by lia)]
      exact ih (by lia) (by lia)
theorem rowTo'_get {lex : Bool} {V : List PySem.Str} {N : PySem.Str → List PySem.Str} (hV : V.Nodup) {n : Nat} (hn : n < V.length) : (rowTo' lex V N V.length)[n]? = some (pick lex N (rowTo' lex V N n) (leftOf V (rowTo' lex V N n))) := by
  have h1 := rowTo'_take (lex := lex) (N := N) hV (n := n + 1) (m := V.length) (by lia) (Nat.le_refl _)
  have h2 := (rowTo'_ok (lex := lex) (N := N) hV n (by lia)).1
  have : (rowTo' lex V N V.length)[n]? = ((rowTo' lex V N V.length).take (n + 1))[n]? := by rw [List.getElem?_take, if_pos (by lia)]
  rw [this, h1, rowTo', List.getElem?_append_right (by lia), h2]
  simp
theorem rowTo'_mem {lex : Bool} {V : List PySem.Str} {N : PySem.Str → List PySem.Str} (hV : V.Nodup) : ∀ x, x ∈ rowTo' lex V N V.length ↔ x ∈ V := by
  refine xe03 (rowTo'_ok (lex := lex) (N := N) hV V.length (Nat.le_refl _)) fun h1 h2 h3 => ?_
  refine fun x => ⟨h3 x, fun hx => Classical.byContradiction fun hn => ?_⟩
  have := List.Nodup.length_le_of_subset (l₁ := x :: rowTo' lex V N V.length) (l₂ := V) (List.nodup_cons.mpr ⟨hn, h2⟩) fun z hz => by
    rcases List.mem_cons.mp hz with q | q
    · exact q ▸ hx
    · exact h3 z q
  simp [h1] at this
  lia
theorem mem_take_idx {r : List PySem.Str} {x : PySem.Str} {n : Nat} : x ∈ r.take n ↔ (x ∈ r ∧ r.idxOf x < n) := by
  constructor
  · intro h
    have hx := List.mem_of_mem_take h
    refine ⟨hx, ?_⟩
    have h1 : (r.take n).idxOf x < (r.take n).length := List.idxOf_lt_length_iff.mpr h
    have h2 : r.idxOf x = (r.take n).idxOf x := by
      have e : r = r.take n ++ r.drop n := (List.take_append_drop n r).symm
      have : r.idxOf x = (r.take n ++ r.drop n).idxOf x := by rw [← e]
      rw [this, List.idxOf_append, if_pos h]
    rw [List.length_take] at h1
    lia
  · rintro ⟨hx, h⟩
    have hl := List.idxOf_lt_length_iff.mpr hx
    have : (r.take n)[r.idxOf x]? = some x := by
      rw [List.getElem?_take, if_pos h, List.getElem?_eq_getElem hl, List.getElem_idxOf]
    exact List.mem_of_getElem? this
theorem rowTo'_mns {lex : Bool} {V : List PySem.Str} {N : PySem.Str → List PySem.Str} (G : Gr V N) : Mns (rowTo' lex V N V.length).idxOf V N := by
  intro a b c ha hb hc hab hbc hca hba
  dsimp only at hab hbc ⊢
  have hm := rowTo'_mem (lex := lex) (N := N) G.nd
  have hbr := (hm b).mpr hb
  have hlb := List.idxOf_lt_length_iff.mpr hbr
  have hl : (rowTo' lex V N V.length).length = V.length := (rowTo'_ok (lex := lex) (N := N) G.nd V.length (Nat.le_refl _)).1
  generalize hi : (rowTo' lex V N V.length).idxOf b = i at *
  have hiV : i < V.length := by lia
  have hget := rowTo'_get (lex := lex) (N := N) G.nd hiV
  have hbi : (rowTo' lex V N V.length)[i]? = some b := by
    have e := List.getElem_idxOf (xs := rowTo' lex V N V.length) (x := b) (by lia)
    rw [List.getElem?_eq_getElem (by lia)]
    simp only [hi] at e
    rw [e]
  rw [hbi] at hget
  have hpk := Option.some.inj hget
  have htk := rowTo'_take (lex := lex) (N := N) G.nd (n := i) (m := V.length) (by lia) (Nat.le_refl _)
  have hcl : c ∈ leftOf V (rowTo' lex V N i) := by
    refine List.mem_filter.mpr ⟨hc, ?_⟩
    rw [← htk]
    simp only [mem_take_idx, Bool.not_eq_true', decide_eq_false_iff_not]
    intro q; lia
  have har : a ∈ rowTo' lex V N i := by rw [← htk]; exact mem_take_idx.mpr ⟨(hm a).mpr ha, hab⟩
  have htop := pick_top (lex := lex) (N := N) (row := rowTo' lex V N i) (left := leftOf V (rowTo' lex V N i)) (fun e => by rw [e] at hcl; cases hcl) c hcl
  rw [← hpk] at htop
  refine Classical.byContradiction fun hno => ?_
  have hall : ∀ d ∈ rowTo' lex V N i, d ∈ N b → d ∈ N c := fun d hd hdb => Classical.byContradiction fun hdc => by
    rw [← htk] at hd
    exact hno ⟨d, G.mem hdb, (mem_take_idx.mp hd).2, hdb, hdc⟩
  refine xe02 (mark_lt (N := N) hall ⟨a, har, G.sym hca, fun q => hba (G.sym q)⟩) fun i1 i2 => ?_
  cases lex with
  | true => simp only [if_true] at htop; rw [i1] at htop; cases htop
  | false => simp only [Bool.false_eq_true, if_false] at htop; lia

theorem noGap_iff {V r : List PySem.Str} {N : PySem.Str → List PySem.Str} (G : Gr V N) (hr6 : r.length = 6) (hnd : r.Nodup) (hm : ∀ x, x ∈ r ↔ x ∈ V) : noGap r N = true ↔ NoGap r.idxOf V N := by
  have ahead : ∀ k (hk : k < r.length) x, x ∈ aheadOf r N k ↔ (x ∈ r ∧ r.idxOf x < k ∧ x ∈ N r[k]) := by
    intro k hk x
    unfold aheadOf
    rw [List.mem_filter, mem_take_idx, List.getD_eq_getElem?_getD, List.getElem?_eq_getElem hk]
    simp [and_assoc]
  have idx : ∀ k (hk : k < r.length), r.idxOf r[k] = k := fun k hk => hnd.idxOf_getElem k hk
  unfold noGap
  rw [List.all_eq_true]
  constructor
  · intro h c a b ha hb pa pb hab
    have hc : c ∈ r := (hm c).mpr (G.mem (G.sym ha))
    have hl := List.idxOf_lt_length_iff.mpr hc
    have h1 := h (r.idxOf c) (List.mem_range.mpr (by lia))
    have hcg : r[r.idxOf c] = c := List.getElem_idxOf hl
    have h2 := List.all_eq_true.mp (List.all_eq_true.mp h1 a ((ahead _ hl a).mpr ⟨(hm a).mpr (G.mem ha), pa, by rw [hcg]; exact ha⟩)) b ((ahead _ hl b).mpr ⟨(hm b).mpr (G.mem hb), pb, by rw [hcg]; exact hb⟩)
    unfold pairOk at h2
    simpa [hab] using h2
  · intro h k hk
    have hk' : k < r.length := by rw [hr6]; exact List.mem_range.mp hk
    refine List.all_eq_true.mpr fun a ha => List.all_eq_true.mpr fun b hb => ?_
    refine xe03 ((ahead k hk' a).mp ha) fun a1 a2 a3 => ?_
    refine xe03 ((ahead k hk' b).mp hb) fun b1 b2 b3 => ?_
    unfold pairOk
    by_cases e : a = b
    · simp [e]
    · have := h r[k] a b a3 b3 (by dsimp only; rw [idx k hk']; exact a2) (by dsimp only; rw [idx k hk']; exact b2) e
      simp [this]
theorem gap_iff_ring {lex : Bool} {V : List PySem.Str} {N : PySem.Str → List PySem.Str} (G : Gr V N) (h6 : V.length = 6) : noGap (rowTo' lex V N 6) N = true ↔ ¬ Ring V N := by
  rw [← h6]
  have hm := rowTo'_mem (lex := lex) (N := N) G.nd
  refine xe03 (rowTo'_ok (lex := lex) (N := N) G.nd V.length (Nat.le_refl _)) fun h1 h2 _ => ?_
  have hinj : ∀ x ∈ V, ∀ y ∈ V, (rowTo' lex V N V.length).idxOf x = (rowTo' lex V N V.length).idxOf y → x = y := fun x hx y hy e => by
    have lx := List.idxOf_lt_length_iff.mpr ((hm x).mpr hx)
    have ly := List.idxOf_lt_length_iff.mpr ((hm y).mpr hy)
    have ex := List.getElem_idxOf lx
    have ey := List.getElem_idxOf ly
    rw [← ex, ← ey]
    simp only [e]
  rw [noGap_iff G (h1.trans h6) h2 hm]
  exact ⟨fun h => noRing_of G hinj h, fun h => gap_ring G hinj (rowTo'_mns G) h⟩
end
section
theorem pltB_iff {a b : Pr} : pltB a b = true ↔ (a.1 < b.1 ∨ (a.1 = b.1 ∧ a.2 < b.2)) := by unfold pltB; exact decide_eq_true_iff
noncomputable def PLe (a b : Pr) : Prop := pltB b a = false
theorem PLe_iff {a b : Pr} : PLe a b ↔ (a.1 < b.1 ∨ (a.1 = b.1 ∧ a.2 ≤ b.2)) := by
  unfold PLe
  rw [← Bool.not_eq_true, pltB_iff]
  lia
theorem PLe.tr {a b c : Pr} (h : PLe a b) (h' : PLe b c) : PLe a c := by rw [PLe_iff] at *; lia
theorem PLe.rf (a : Pr) : PLe a a := by rw [PLe_iff]; lia
theorem PLe.of_lt {a b : Pr} (h : pltB a b = true) : PLe a b := by rw [PLe_iff]; rw [pltB_iff] at h; lia
theorem gt'_set {l : List Pr} {i j : Nat} {x : Pr} (hi : i < l.length) : gt' (l.set i x) j = if j = i then x else gt' l j := by
  unfold gt'
  rw [List.getD_eq_getElem?_getD, List.getD_eq_getElem?_getD, List.getElem?_set]
  by_cases h : i = j
  · subst h; simp [hi]
  · rw [if_neg h, if_neg (Ne.symm h)]
theorem mem_gt {l : List Pr} {y : Pr} : y ∈ l ↔ ∃ i, i < l.length ∧ gt' l i = y := by
  rw [List.mem_iff_getElem]
  constructor
  · rintro ⟨i, hi, e⟩; exact ⟨i, hi, by unfold gt'; rw [List.getD_eq_getElem?_getD, List.getElem?_eq_getElem hi]; exact e⟩
  · rintro ⟨i, hi, e⟩; refine ⟨i, hi, ?_⟩; unfold gt' at e; rw [List.getD_eq_getElem?_getD, List.getElem?_eq_getElem hi] at e; exact e
theorem swap_mem {l : List Pr} {i j : Nat} {x y : Pr} (hi : i < l.length) (hj : j < l.length) (hij : i ≠ j) : y ∈ (l.set i (gt' l j)).set j x ↔ y ∈ l.set i x := by
  rw [mem_gt, mem_gt]
  have hg1 : ∀ k, gt' ((l.set i (gt' l j)).set j x) k = if k = j then x else if k = i then gt' l j else gt' l k := fun k => by
    rw [gt'_set (by simpa using hj), gt'_set hi]
  have hg2 : ∀ k, gt' (l.set i x) k = if k = i then x else gt' l k := fun k => gt'_set hi
  simp only [hg1, hg2, List.length_set]
  constructor
  · rintro ⟨k, hk, e⟩
    by_cases h1 : k = j
    · rw [if_pos h1] at e; exact ⟨i, hi, by rw [if_pos rfl]; exact e⟩
    · rw [if_neg h1] at e
      by_cases h2 : k = i
      · rw [if_pos h2] at e; exact ⟨j, hj, by rw [if_neg (Ne.symm hij)]; exact e⟩
      · rw [if_neg h2] at e; exact ⟨k, hk, by rw [if_neg h2]; exact e⟩
  · rintro ⟨k, hk, e⟩
    by_cases h2 : k = i
    · rw [if_pos h2] at e; exact ⟨j, hj, by rw [if_pos rfl]; exact e⟩
    · rw [if_neg h2] at e
      by_cases h1 : k = j
      · exact ⟨i, hi, by rw [if_neg hij, if_pos rfl, ← h1]; exact e⟩
      · exact ⟨k, hk, by rw [if_neg h1, if_neg h2]; exact e⟩
noncomputable def Hp (l : List Pr) : Prop := ∀ i, 0 < i → i < l.length → PLe (gt' l ((i - 1) / 2)) (gt' l i)
theorem Hp.root {l : List Pr} (h : Hp l) : ∀ i, i < l.length → PLe (gt' l 0) (gt' l i) := by
  intro i
  induction i using Nat.strongRecOn with
  | _ i ih =>
    intro hi
    by_cases h0 : i = 0
    · subst h0; exact .rf _
    · exact (ih ((i - 1) / 2) (by lia) (by lia)).tr (h i (by lia) hi)
structure Hole (l : List Pr) (p : Nat) : Prop where
  lt : p < l.length
  off : ∀ i, 0 < i → i < l.length → i ≠ p → (i - 1) / 2 ≠ p → PLe (gt' l ((i - 1) / 2)) (gt' l i)
  top : ∀ i, 0 < i → i < l.length → (i - 1) / 2 = p → 0 < p → PLe (gt' l ((p - 1) / 2)) (gt' l i)
theorem sdn_hp {x : Pr} : ∀ (f : Nat) (l : List Pr) (pos : Nat), pos ≤ f → Hole l pos → (∀ i, 0 < i → i < l.length → (i - 1) / 2 = pos → PLe x (gt' l i)) → Hp (sdn x 0 f l pos) ∧ ∀ y, y ∈ sdn x 0 f l pos ↔ y ∈ l.set pos x := by
  have stop : ∀ (l : List Pr) (pos : Nat), Hole l pos → (∀ i, 0 < i → i < l.length → (i - 1) / 2 = pos → PLe x (gt' l i)) → (0 < pos → PLe (gt' l ((pos - 1) / 2)) x) → Hp (l.set pos x) := by
    intro l pos hh hb hp i h0 hi
    rw [List.length_set] at hi
    rw [gt'_set hh.lt, gt'_set hh.lt]
    by_cases h1 : i = pos
    · subst h1
      rw [if_neg (by lia), if_pos rfl]; exact hp h0
    · rw [if_neg h1]
      by_cases h2 : (i - 1) / 2 = pos
      · rw [if_pos h2]; exact hb i h0 hi h2
      · rw [if_neg h2]; exact hh.off i h0 hi h1 h2
  intro f
  induction f with
  | zero =>
    intro l pos hf hh hb
    have : pos = 0 := by lia
    subst this
    exact ⟨stop l 0 hh hb fun h => absurd h (Nat.lt_irrefl _), fun y => Iff.rfl⟩
  | succ f ih =>
    intro l pos hf hh hb
    rw [sdn]
    by_cases hp : pos > 0
    · rw [if_pos hp]
      by_cases hx : pltB x (gt' l ((pos - 1) / 2)) = true
      · rw [if_pos hx]
        have hq : (pos - 1) / 2 < l.length := by have := hh.lt; lia
        have hne : pos ≠ (pos - 1) / 2 := by lia
        have hs := fun j => gt'_set (x := gt' l ((pos - 1) / 2)) (j := j) hh.lt
        refine And.imp id (fun g2 => fun y => (g2 y).trans (swap_mem hh.lt hq hne)) (ih (l.set pos (gt' l ((pos - 1) / 2))) ((pos - 1) / 2) (by lia) ⟨by simpa using hq, ?_, ?_⟩ ?_)
        · intro i h0 hi h1 h2
          rw [List.length_set] at hi
          rw [hs, hs]
          by_cases e1 : i = pos
          · exact absurd (e1 ▸ rfl) h2
          · rw [if_neg e1]
            by_cases e2 : (i - 1) / 2 = pos
            · rw [if_pos e2]; exact hh.top i h0 hi e2 hp
            · rw [if_neg e2]; exact hh.off i h0 hi e1 e2
        · intro i h0 hi h1 h2
          rw [List.length_set] at hi
          rw [hs, hs, if_neg (by lia)]
          have hqq : PLe (gt' l (((pos - 1) / 2 - 1) / 2)) (gt' l ((pos - 1) / 2)) := hh.off _ h2 hq (Ne.symm hne) (by lia)
          by_cases e1 : i = pos
          · rw [if_pos e1]; exact hqq
          · rw [if_neg e1]
            have := hh.off i h0 hi e1 (by lia)
            rw [h1] at this
            exact hqq.tr this
        · intro i h0 hi h1
          rw [List.length_set] at hi
          rw [hs]
          by_cases e1 : i = pos
          · rw [if_pos e1]; exact .of_lt hx
          · rw [if_neg e1]
            have := hh.off i h0 hi e1 (by lia)
            rw [h1] at this
            exact (PLe.of_lt hx).tr this
      · rw [if_neg hx]
        exact ⟨stop l pos hh hb fun _ => by unfold PLe; simpa using hx, fun y => Iff.rfl⟩
    · rw [if_neg hp]
      exact ⟨stop l pos hh hb fun h => absurd h hp, fun y => Iff.rfl⟩
theorem pushL_hp {l : List Pr} (h : Hp l) (x : Pr) : Hp (pushL l x) ∧ ∀ y, y ∈ pushL l x ↔ (y ∈ l ∨ y = x) := by
  unfold pushL
  have hg : ∀ i, i < l.length → gt' (l ++ [x]) i = gt' l i := fun i hi => by
    unfold gt'; rw [List.getD_eq_getElem?_getD, List.getD_eq_getElem?_getD, List.getElem?_append_left hi]
  have hset : (l ++ [x]).set l.length x = l ++ [x] := by simp
  refine And.imp id (fun g2 => fun y => (g2 y).trans (by rw [hset]; simp)) (sdn_hp (x := x) l.length (l ++ [x]) l.length (Nat.le_refl _) ⟨by simp, ?_, ?_⟩ ?_)
  · intro i h0 hi h1 h2
    have hi' : i < l.length := by simp at hi; lia
    rw [hg _ hi', hg _ (by lia)]
    exact h i h0 hi'
  · intro i h0 hi h1; simp at hi; lia
  · intro i h0 hi h1; simp at hi; lia
theorem supC_pick {l : List Pr} {p : Nat} (h : 2 * p + 1 < l.length) : supC l p < l.length ∧ (supC l p - 1) / 2 = p ∧ p < supC l p ∧ ∀ i, 0 < i → i < l.length → (i - 1) / 2 = p → PLe (gt' l (supC l p)) (gt' l i) := by
  unfold supC
  split
  · rename_i q
    refine ⟨by lia, by lia, by lia, fun i h0 hi hp => ?_⟩
    have : i = 2 * p + 1 ∨ i = 2 * p + 2 := by lia
    rcases this with e | e
    · subst e; exact q.2
    · subst e; exact .rf _
  · rename_i q
    refine ⟨by lia, by lia, by lia, fun i h0 hi hp => ?_⟩
    have : i = 2 * p + 1 ∨ i = 2 * p + 2 := by lia
    rcases this with e | e
    · subst e; exact .rf _
    · subst e
      refine .of_lt ?_
      cases z : pltB (gt' l (2 * p + 1)) (gt' l (2 * p + 2)) with
      | true => rfl
      | false => exact absurd ⟨hi, z⟩ q
theorem sup_hp {x : Pr} : ∀ (f : Nat) (l : List Pr) (p : Nat), l.length ≤ f + p → Hole l p → Hole (sup f l p).1 (sup f l p).2 ∧ (sup f l p).1.length = l.length ∧ l.length ≤ 2 * (sup f l p).2 + 1 ∧ ∀ y, y ∈ (sup f l p).1.set (sup f l p).2 x ↔ y ∈ l.set p x := by
  intro f
  induction f with
  | zero => intro l p hf hh; have := hh.lt; lia
  | succ f ih =>
    intro l p hf hh
    rw [sup]
    by_cases hc : 2 * p + 1 < l.length
    · rw [if_pos hc]
      refine xe04 (supC_pick hc) fun c1 c2 c3 c4 => ?_
      generalize supC l p = c at *
      have hs := fun j => gt'_set (x := gt' l c) (j := j) hh.lt
      have hH : Hole (l.set p (gt' l c)) c → Hole (sup f (l.set p (gt' l c)) c).1 (sup f (l.set p (gt' l c)) c).2 ∧ (sup f (l.set p (gt' l c)) c).1.length = l.length ∧ l.length ≤ 2 * (sup f (l.set p (gt' l c)) c).2 + 1 ∧ ∀ y, y ∈ (sup f (l.set p (gt' l c)) c).1.set (sup f (l.set p (gt' l c)) c).2 x ↔ y ∈ l.set p x := fun q => by
        refine xe04 (ih (l.set p (gt' l c)) c (by rw [List.length_set]; lia) q) fun g1 g2 g3 g4 => ?_
        rw [List.length_set] at g2 g3
        exact ⟨g1, g2, g3, fun y => (g4 y).trans (swap_mem hh.lt c1 (by lia))⟩
      refine hH ⟨by simpa using c1, ?_, ?_⟩
      · intro i h0 hi h1 h2
        rw [List.length_set] at hi
        rw [hs, hs]
        by_cases e1 : i = p
        · subst e1
          rw [if_neg (by lia), if_pos rfl]
          exact hh.top c (by lia) c1 c2 h0
        · rw [if_neg e1]
          by_cases e2 : (i - 1) / 2 = p
          · rw [if_pos e2]; exact c4 i h0 hi e2
          · rw [if_neg e2]; exact hh.off i h0 hi e1 e2
      · intro i h0 hi h1 h2
        rw [List.length_set] at hi
        rw [hs, hs, if_pos c2, if_neg (by lia)]
        have := hh.off i h0 hi (by lia) (by lia)
        rw [h1] at this
        exact this
    · rw [if_neg hc]
      exact ⟨hh, rfl, by lia, fun y => Iff.rfl⟩
theorem siftup_hp {l : List Pr} (h : Hole l 0) : Hp (siftup l 0) ∧ ∀ y, y ∈ siftup l 0 ↔ y ∈ l := by
  unfold siftup
  refine xe04 (sup_hp (x := gt' l 0) l.length l 0 (by lia) h) fun g1 g2 g3 g4 => ?_
  generalize sup l.length l 0 = r at *
  have hs := fun j => gt'_set (x := gt' l 0) (j := j) g1.lt
  have hl0 : l.set 0 (gt' l 0) = l := by
    have h0 := h.lt
    unfold gt'
    rw [List.getD_eq_getElem?_getD, List.getElem?_eq_getElem h0]
    simp
  refine And.imp id (fun k2 => fun y => (k2 y).trans (by rw [List.set_set]; exact (g4 y).trans (by rw [hl0]))) (sdn_hp (x := gt' l 0) r.2 (r.1.set r.2 (gt' l 0)) r.2 (Nat.le_refl _) ⟨by simpa using g1.lt, ?_, ?_⟩ ?_)
  · intro i h0 hi h1 h2
    rw [List.length_set] at hi
    rw [hs, hs, if_neg h1, if_neg h2]
    exact g1.off i h0 hi h1 h2
  · intro i h0 hi h1 h2; rw [List.length_set] at hi; lia
  · intro i h0 hi h1; rw [List.length_set] at hi; lia
theorem popL_hp {l : List Pr} (h : Hp l) (hne : l ≠ []) : Hp (popL l).2 ∧ (∀ y, y ∈ l ↔ (y = (popL l).1 ∨ y ∈ (popL l).2)) ∧ ∀ y ∈ l, PLe (popL l).1 y := by
  refine xe21 (⟨l.dropLast, l.getLast hne, (List.dropLast_concat_getLast hne).symm⟩ : ∃ d m, l = d ++ [m]) fun d m qe0 => ?_; subst qe0
  have hd : (d ++ [m]).dropLast = d := by simp
  have hg : ∀ i, i < d.length → gt' (d ++ [m]) i = gt' d i := fun i hi => by
    unfold gt'; rw [List.getD_eq_getElem?_getD, List.getD_eq_getElem?_getD, List.getElem?_append_left hi]
  have hl : gt' (d ++ [m]) ((d ++ [m]).length - 1) = m := by
    unfold gt'; simp [List.getD_eq_getElem?_getD]
  have hroot : ∀ y ∈ d ++ [m], PLe (gt' (d ++ [m]) 0) y := fun y hy => by
    refine xe12 (mem_gt.mp hy) fun i hi e => ?_
    rw [← e]; exact h.root i hi
  unfold popL
  rw [hd]
  by_cases he : d = []
  · subst he
    rw [if_pos rfl, hl]
    exact ⟨fun i h0 hi => by simp at hi, fun y => by simp, fun y hy => by simp at hy; subst hy; exact .rf _⟩
  · rw [if_neg he, hl]
    have hdl : 0 < d.length := List.length_pos_iff.mpr he
    have hs := fun j => gt'_set (x := m) (j := j) hdl
    have hH : Hole (d.set 0 m) 0 := by
      refine ⟨by simpa using hdl, fun i h0 hi h1 h2 => ?_, fun i h0 hi h1 h2 => absurd h2 (Nat.lt_irrefl _)⟩
      rw [List.length_set] at hi
      rw [hs, hs, if_neg h1, if_neg h2]
      have := h i h0 (by simp; lia)
      rw [hg _ hi, hg _ (by lia)] at this
      exact this
    refine xe02 (siftup_hp (l := d.set 0 m) hH) fun k1 k2 => ?_
    · refine ⟨k1, fun y => ?_, fun y hy => by rw [← hg 0 hdl]; exact hroot y hy⟩
      refine (?_ : _ ↔ y = gt' d 0 ∨ y ∈ siftup (d.set 0 m) 0)
      rw [k2 y]
      refine xe21 (by cases d with | nil => exact absurd rfl he | cons z t => exact ⟨z, t, rfl⟩ : ∃ z t, d = z :: t) fun z t qe0 => ?_; subst qe0
      refine (?_ : y ∈ (z :: t) ++ [m] ↔ y = z ∨ y ∈ m :: t)
      simp only [List.mem_append, List.mem_cons, List.not_mem_nil, or_false]
      constructor
      · rintro ((e | e) | e)
        · exact .inl e
        · exact .inr (.inr e)
        · exact .inr (.inl e)
      · rintro (e | e | e)
        · exact .inl (.inl e)
        · exact .inr e
        · exact .inl (.inr e)

structure HK (V : List PySem.Str) (N : PySem.Str → List PySem.Str) (row rowU : List PySem.Str) (i : Nat) (b : HS) : Prop where
  hp : Hp b.heap
  rw' : b.row = rowU
  len : b.won.length = 6
  ent : ∀ p ∈ b.heap, 0 ≤ p.2 ∧ p.2 < 6 ∧ b.won.getD p.2.toNat 0 ≤ p.1
  has : ∀ k < 6, V.getD k ⟨#[]⟩ ∉ rowU → (b.won.getD k 0, (k : Int)) ∈ b.heap
  won : ∀ k < 6, V.getD k ⟨#[]⟩ ∉ rowU → b.won.getD k 0 = - (markOf N (if k < i then rowU else row) (V.getD k ⟨#[]⟩)).sum
theorem mark_app {N : PySem.Str → List PySem.Str} {row : List PySem.Str} {s x : PySem.Str} : (markOf N (row ++ [s]) x).sum = (markOf N row x).sum + if s ∈ N x then 1 else 0 := by
  unfold markOf
  rw [List.map_append, List.sum_append]
  simp
theorem getD_set {l : List Int} {i j : Nat} {x : Int} (hi : i < l.length) : (l.set i x).getD j 0 = if j = i then x else l.getD j 0 := by
  rw [List.getD_eq_getElem?_getD, List.getD_eq_getElem?_getD, List.getElem?_set]
  by_cases h : i = j
  · subst h; simp [hi]
  · rw [if_neg h, if_neg (Ne.symm h)]
theorem hpush1_keep {V : List PySem.Str} {N : PySem.Str → List PySem.Str} (G : Gr V N) {row : List PySem.Str} {s : PySem.Str} {i : Nat} (hi : i < 6) {b : HS} (h : HK V N row (row ++ [s]) i b) : HK V N row (row ++ [s]) (i + 1) (hpush1 V N s b i) := by
  obtain ⟨h1, h2, h3, h4, h5, h6⟩ := h
  unfold hpush1
  rw [h2]
  split
  · rename_i q
    refine xe02 (pushL_hp h1 (b.won.getD i 0 - 1, (i : Int))) fun g1 g2 => ?_
    have hs := fun j => getD_set (x := b.won.getD i 0 - 1) (j := j) (l := b.won) (i := i) (by lia)
    refine ⟨g1, rfl, by simpa using h3, fun p hp => ?_, fun k hk hn => ?_, fun k hk hn => ?_⟩
    · rcases (g2 p).mp hp with z | z
      · refine xe03 (h4 p z) fun z1 z2 z3 => ?_
        refine ⟨z1, z2, ?_⟩
        refine (?_ : (b.won.set i _).getD _ 0 ≤ _)
        rw [hs]
        split
        · rename_i e; rw [e] at z3; lia
        · exact z3
      · subst z
        refine ⟨by refine (?_ : (0 : Int) ≤ (i : Nat)); lia, by refine (?_ : ((i : Nat) : Int) < 6); lia, ?_⟩
        refine (?_ : (b.won.set i _).getD (i : Int).toNat 0 ≤ _)
        rw [hs, if_pos (by lia)]
        exact Int.le_refl _
    · refine (?_ : ((b.won.set i _).getD k 0, _) ∈ pushL _ _)
      rw [hs, g2]
      by_cases e : k = i
      · subst e; rw [if_pos rfl]; exact .inr rfl
      · rw [if_neg e]; exact .inl (h5 k hk hn)
    · refine (?_ : (b.won.set i _).getD k 0 = _)
      rw [hs]
      by_cases e : k = i
      · subst e
        rw [if_pos rfl, if_pos (Nat.lt_succ_self _), h6 k hk hn, if_neg (Nat.lt_irrefl _), mark_app, if_pos (G.sym q.1)]
        lia
      · rw [if_neg e, h6 k hk hn]
        by_cases hk' : k < i
        · rw [if_pos hk', if_pos (by lia)]
        · rw [if_neg hk', if_neg (by lia)]
  · rename_i q
    refine ⟨h1, h2, h3, h4, h5, fun k hk hn => ?_⟩
    rw [h6 k hk hn]
    by_cases e : k = i
    · subst e
      rw [if_neg (Nat.lt_irrefl _), if_pos (Nat.lt_succ_self _), mark_app, if_neg fun z => q ⟨G.sym z, hn⟩]
      lia
    · by_cases hk' : k < i
      · rw [if_pos hk', if_pos (by lia)]
      · rw [if_neg hk', if_neg (by lia)]
theorem hfold_keep {V : List PySem.Str} {N : PySem.Str → List PySem.Str} (G : Gr V N) {row : List PySem.Str} {s : PySem.Str} {b : HS} (h : HK V N row (row ++ [s]) 0 b) : ∀ i ≤ 6, HK V N row (row ++ [s]) i ((List.range i).foldl (hpush1 V N s) b)
  | 0, _ => h
  | i + 1, hi => by
    rw [List.range_succ, List.foldl_append]
    exact hpush1_keep G (by lia) (hfold_keep G h i (by lia))
theorem filter_left {V row : List PySem.Str} {k : Nat} (hk : k < V.length) (hn : V.getD k ⟨#[]⟩ ∉ row) : leftOf V row = leftOf (V.take k) row ++ V.getD k ⟨#[]⟩ :: leftOf (V.drop (k + 1)) row := by
  have e : V = V.take k ++ V.getD k ⟨#[]⟩ :: V.drop (k + 1) := by
    rw [List.getD_eq_getElem?_getD, List.getElem?_eq_getElem hk]
    simp
  have : leftOf V row = leftOf (V.take k ++ V.getD k ⟨#[]⟩ :: V.drop (k + 1)) row := by rw [← e]
  rw [this]
  unfold leftOf
  rw [List.filter_append, List.filter_cons, if_pos (by simpa using hn)]
theorem hrun_is {V : List PySem.Str} {N : PySem.Str → List PySem.Str} (G : Gr V N) (hV6 : V.length = 6) : ∀ (f : Nat) (a : HS), a.heap.length + 7 * (6 - a.row.length) ≤ f → a.row.length ≤ 6 → a.row = rowTo' false V N a.row.length → HK V N a.row a.row 6 a → hrun V N f a = rowTo' false V N 6 := by
  have done : ∀ a : HS, a.row.length ≤ 6 → a.row = rowTo' false V N a.row.length → HK V N a.row a.row 6 a → a.heap = [] → a.row = rowTo' false V N 6 := by
    intro a h6 hr hk he
    have hall : ∀ x ∈ V, x ∈ a.row := fun x hx => Classical.byContradiction fun hn => by
      obtain ⟨k, hk', e⟩ := List.mem_iff_getElem.mp hx
      have : V.getD k ⟨#[]⟩ = x := by rw [List.getD_eq_getElem?_getD, List.getElem?_eq_getElem hk']; exact e
      have := hk.has k (by lia) (by rw [this]; exact hn)
      rw [he] at this; cases this
    have := List.Nodup.length_le_of_subset G.nd hall
    have e : a.row.length = 6 := by lia
    rw [e] at hr; exact hr
  intro f
  induction f with
  | zero =>
    intro a hf h6 hr hk
    exact done a h6 hr hk (List.eq_nil_of_length_eq_zero (by lia))
  | succ f ih =>
    intro a hf h6 hr hk
    rw [hrun]
    by_cases he : a.heap = []
    · rw [if_pos he]; exact done a h6 hr hk he
    · rw [if_neg he]
      refine xe03 (popL_hp hk.hp he) fun p1 p2 p3 => ?_
      have plen := popL_len a.heap
      have hlen : 0 < a.heap.length := List.length_pos_iff.mpr he
      have hm := (p2 _).mpr (.inl rfl)
      refine xe03 (hk.ent _ hm) fun m1 m2 m3 => ?_
      refine xe12 (⟨(popL a.heap).1.2.toNat, by lia, by lia⟩ : ∃ k : Nat, k < 6 ∧ (popL a.heap).1.2 = (k : Int)) fun k hk6 hkm => ?_
      unfold hstep
      rw [hkm] at m3 ⊢
      rw [Int.toNat_natCast] at m3 ⊢
      by_cases hin : V.getD k ⟨#[]⟩ ∈ a.row
      · rw [if_pos hin]
        refine ih _ (by simp only; lia) h6 hr ⟨p1, rfl, hk.len, fun p hp => hk.ent p ((p2 p).mpr (.inr hp)), fun j hj hn => ?_, hk.won⟩
        rcases (p2 _).mp (hk.has j hj hn) with z | z
        · exfalso; apply hn
          have : (j : Int) = (k : Int) := by rw [← hkm, ← z]
          have : j = k := by lia
          subst this; exact hin
        · exact z
      · rw [if_neg hin]
        have hwk : (popL a.heap).1.1 = a.won.getD k 0 := by
          have := p3 _ (hk.has k hk6 hin)
          rw [PLe_iff, hkm] at this
          simp only at this
          lia
        have hkV : k < V.length := by lia
        have hsV : V.getD k ⟨#[]⟩ ∈ V := by rw [List.getD_eq_getElem?_getD, List.getElem?_eq_getElem hkV]; exact List.getElem_mem _
        have won := fun j hj hn => by have := hk.won j hj hn; rw [if_pos hj] at this; exact this
        have hcmp : ∀ j < 6, V.getD j ⟨#[]⟩ ∉ a.row → ((markOf N a.row (V.getD j ⟨#[]⟩)).sum ≤ (markOf N a.row (V.getD k ⟨#[]⟩)).sum ∧ (j < k → (markOf N a.row (V.getD j ⟨#[]⟩)).sum < (markOf N a.row (V.getD k ⟨#[]⟩)).sum)) := fun j hj hn => by
          have h1 := p3 _ (hk.has j hj hn)
          rw [PLe_iff, hkm, hwk] at h1
          simp only at h1
          have h2 := won j hj hn
          have h3 := won k hk6 hin
          refine ⟨by lia, fun hjk => by lia⟩
        have hpick : pick false N a.row (leftOf V a.row) = V.getD k ⟨#[]⟩ := by
          rw [filter_left hkV hin]
          refine pick_sum (fun c hc => ?_) fun c hc => ?_
          · refine xe02 (List.mem_filter.mp hc) fun c1 c2 => ?_
            obtain ⟨j, hj, e⟩ := List.mem_iff_getElem.mp c1
            rw [List.length_take] at hj
            rw [List.getElem_take] at e
            have e' : V.getD j ⟨#[]⟩ = c := by rw [List.getD_eq_getElem?_getD, List.getElem?_eq_getElem (by lia)]; exact e
            have := hcmp j (by lia) (by rw [e']; simpa using c2)
            rw [e'] at this
            exact this.2 (by lia)
          · refine xe02 (List.mem_filter.mp hc) fun c1 c2 => ?_
            obtain ⟨j, hj, e⟩ := List.mem_iff_getElem.mp c1
            rw [List.length_drop] at hj
            rw [List.getElem_drop] at e
            have e' : V.getD (k + 1 + j) ⟨#[]⟩ = c := by rw [List.getD_eq_getElem?_getD, List.getElem?_eq_getElem (by lia)]; exact e
            have := hcmp (k + 1 + j) (by lia) (by rw [e']; simpa using c2)
            rw [e'] at this
            exact this.1
        have hlt : a.row.length < 6 := by
          rcases Nat.lt_or_ge a.row.length 6 with q | q
          · exact q
          · exfalso; apply hin
            have e : a.row.length = 6 := by lia
            have := rowTo'_mem (lex := false) (N := N) G.nd (V.getD k ⟨#[]⟩)
            rw [hV6] at this
            rw [hr, e]; exact this.mpr hsV
        have h0 : HK V N a.row (a.row ++ [V.getD k ⟨#[]⟩]) 0 ⟨(popL a.heap).2, a.won, a.row ++ [V.getD k ⟨#[]⟩]⟩ := by
          refine ⟨p1, rfl, hk.len, fun p hp => hk.ent p ((p2 p).mpr (.inr hp)), fun j hj hn => ?_, fun j hj hn => ?_⟩
          · have hn' : V.getD j ⟨#[]⟩ ∉ a.row := fun z => hn (List.mem_append_left _ z)
            rcases (p2 _).mp (hk.has j hj hn') with z | z
            · exfalso; apply hn
              have : (j : Int) = (k : Int) := by rw [← hkm, ← z]
              have : j = k := by lia
              subst this; simp
            · exact z
          · have hn' : V.getD j ⟨#[]⟩ ∉ a.row := fun z => hn (List.mem_append_left _ z)
            rw [if_neg (Nat.not_lt_zero _)]
            exact won j hj hn'
        have hf6 := hfold_keep G h0 6 (Nat.le_refl _)
        have hinv := hfold_inv (V := V) (N := N) (s := V.getD k ⟨#[]⟩) (a := ⟨(popL a.heap).2, a.won, a.row ++ [V.getD k ⟨#[]⟩]⟩) ⟨fun p hp => let ⟨z1, z2, _⟩ := hk.ent p ((p2 p).mpr (.inr hp)); ⟨z1, z2⟩, hk.len⟩ 6 (Nat.le_refl _)
        refine xe04 hinv fun _ _ _ i4 => ?_; clear hinv
        generalize (List.range 6).foldl (hpush1 V N (V.getD k ⟨#[]⟩)) ⟨(popL a.heap).2, a.won, a.row ++ [V.getD k ⟨#[]⟩]⟩ = b at *
        have hbr : b.row = a.row ++ [V.getD k ⟨#[]⟩] := hf6.rw'
        have hbl : b.row.length = a.row.length + 1 := by rw [hbr]; simp
        refine ih b (by simp only at i4; lia) (by lia) ?_ ?_
        · rw [hbl, rowTo', ← hr, hpick]; exact hbr
        · rw [hbr]
          refine ⟨hf6.hp, hf6.rw', hf6.len, hf6.ent, hf6.has, fun j hj hn => ?_⟩
          have := hf6.won j hj hn
          rw [if_pos hj] at this ⊢
          exact this
theorem hrun_rowTo {V : List PySem.Str} {N : PySem.Str → List PySem.Str} (G : Gr V N) (hV6 : V.length = 6) : hrun V N 48 hs0 = rowTo' false V N 6 := by
  refine hrun_is G hV6 48 hs0 (by decide) (by decide) rfl ⟨?_, rfl, rfl, ?_, ?_, ?_⟩
  · intro i h0 hi
    have hi' : i < 6 := hi
    have : ∀ i, i < 6 → 0 < i → pltB (gt' hp0 i) (gt' hp0 ((i - 1) / 2)) = false := by decide
    exact this i hi' h0
  · decide
  · intro k hk _
    have : ∀ k, k < 6 → (hs0.won.getD k 0, (k : Int)) ∈ hs0.heap := by decide
    exact this k hk
  · intro k hk _
    have : ∀ k, k < 6 → hs0.won.getD k 0 = 0 := by decide
    rw [this k hk, if_pos hk]
    rfl
end
section
noncomputable def tiedOf (N : PySem.Str → List PySem.Str) (p : PySem.Str) (w : List PySem.Str) : List PySem.Str := w.filter fun s => decide (s ∈ N p)
noncomputable def othersOf (N : PySem.Str → List PySem.Str) (p : PySem.Str) (w : List PySem.Str) : List PySem.Str := w.filter fun s => !decide (s ∈ N p)
noncomputable def piecesOf (N : PySem.Str → List PySem.Str) (p : PySem.Str) (w : List PySem.Str) : List (List PySem.Str) := [tiedOf N p w, othersOf N p w].filter fun u => !u.isEmpty
noncomputable def parted (N : PySem.Str → List PySem.Str) (p : PySem.Str) (ws : List (List PySem.Str)) : List (List PySem.Str) := ws.flatMap (piecesOf N p)
noncomputable def lrun (N : PySem.Str → List PySem.Str) : Nat → List (List PySem.Str) → List PySem.Str → List PySem.Str
  | f + 1, (p :: w) :: q, row => lrun N f (parted N p (w :: q)) (row ++ [p])
  | _, _, row => row
theorem pieces_mem {N : PySem.Str → List PySem.Str} {p : PySem.Str} {w u : List PySem.Str} : u ∈ piecesOf N p w ↔ ((u = tiedOf N p w ∨ u = othersOf N p w) ∧ u ≠ []) := by
  unfold piecesOf
  rw [List.mem_filter]
  simp
structure LK (V : List PySem.Str) (N : PySem.Str → List PySem.Str) (ws : List (List PySem.Str)) (row : List PySem.Str) : Prop where
  ne : ∀ w ∈ ws, w ≠ []
  sub : ∀ w ∈ ws, w.Sublist V
  same : ∀ w ∈ ws, ∀ x ∈ w, ∀ y ∈ w, markOf N row x = markOf N row y
  dec : ws.Pairwise fun w w' => ∀ x ∈ w, ∀ y ∈ w', lgtB (markOf N row x) (markOf N row y) = true
  all : ∀ x, (x ∈ V ∧ x ∉ row) ↔ ∃ w ∈ ws, x ∈ w
theorem lgtB_app : ∀ {a b : List Int} {i j : Int}, a.length = b.length → lgtB (a ++ [i]) (b ++ [j]) = if a = b then decide (i > j) else lgtB a b
  | [], [], i, j, _ => by
    simp only [List.nil_append, if_pos]
    unfold lgtB
    by_cases e : i = j
    · rw [if_pos e]; unfold lgtB; simp [e]
    · rw [if_neg e]
  | x :: a, y :: b, i, j, h => by
    have ih := lgtB_app (a := a) (b := b) (i := i) (j := j) (by simpa using h)
    refine (?_ : lgtB (x :: (a ++ [i])) (y :: (b ++ [j])) = _)
    rw [lgtB]
    by_cases e : x = y
    · subst e
      rw [if_pos rfl, ih]
      by_cases e' : a = b
      · subst e'; simp
      · rw [if_neg e', if_neg (by simpa using e')]
        rw [lgtB, if_pos rfl]
    · rw [if_neg e, if_neg (by simp [e]), lgtB, if_neg e]
theorem mark_snoc {N : PySem.Str → List PySem.Str} {row : List PySem.Str} {p x : PySem.Str} : markOf N (row ++ [p]) x = markOf N row x ++ [if p ∈ N x then 1 else 0] := by
  unfold markOf; rw [List.map_append]; rfl
theorem mark_len {N : PySem.Str → List PySem.Str} {row : List PySem.Str} {x : PySem.Str} : (markOf N row x).length = row.length := by unfold markOf; simp
theorem LK.step {V : List PySem.Str} {N : PySem.Str → List PySem.Str} (G : Gr V N) {p : PySem.Str} {w : List PySem.Str} {q : List (List PySem.Str)} {row : List PySem.Str} (h : LK V N ((p :: w) :: q) row) : LK V N (parted N p (w :: q)) (row ++ [p]) := by
  have hpw : (p :: w).Sublist V := h.sub _ (.head _)
  have hpn : p ∉ w := (List.nodup_cons.mp (G.nd.sublist hpw)).1
  -- the words with the point taken out
  have sub : ∀ u ∈ w :: q, u.Sublist V := fun u hu => by
    rcases List.mem_cons.mp hu with e | e
    · subst e; exact (List.sublist_cons_self _ _).trans hpw
    · exact h.sub u (.tail _ e)
  have same : ∀ u ∈ w :: q, ∀ x ∈ u, ∀ y ∈ u, markOf N row x = markOf N row y := fun u hu x hx y hy => by
    rcases List.mem_cons.mp hu with e | e
    · subst e; exact h.same _ (.head _) x (.tail _ hx) y (.tail _ hy)
    · exact h.same u (.tail _ e) x hx y hy
  have dec : (w :: q).Pairwise fun w w' => ∀ x ∈ w, ∀ y ∈ w', lgtB (markOf N row x) (markOf N row y) = true := by
    refine xe02 (List.pairwise_cons.mp h.dec) fun d1 d2 => ?_
    exact List.pairwise_cons.mpr ⟨fun u hu x hx y hy => d1 u hu x (.tail _ hx) y hy, d2⟩
  have pm : ∀ {u w0 : List PySem.Str}, u ∈ piecesOf N p w0 → ∀ x ∈ u, x ∈ w0 := fun hu x hx => by
    rcases (pieces_mem.mp hu).1 with e | e <;> (subst e; exact (List.mem_filter.mp hx).1)
  have psame : ∀ {u w0 : List PySem.Str}, u ∈ piecesOf N p w0 → ∀ x ∈ u, ∀ y ∈ u, (x ∈ N p ↔ y ∈ N p) := fun hu x hx y hy => by
    rcases (pieces_mem.mp hu).1 with e | e
    · subst e
      have h1 := (List.mem_filter.mp hx).2
      have h2 := (List.mem_filter.mp hy).2
      simp at h1 h2; exact ⟨fun _ => h2, fun _ => h1⟩
    · subst e
      have h1 := (List.mem_filter.mp hx).2
      have h2 := (List.mem_filter.mp hy).2
      simp at h1 h2; exact ⟨fun z => absurd z h1, fun z => absurd z h2⟩
  refine ⟨fun u hu => ?_, fun u hu => ?_, fun u hu x hx y hy => ?_, ?_, fun x => ?_⟩
  · refine xe12 (List.mem_flatMap.mp hu) fun w0 _ hu => ?_
    exact (pieces_mem.mp hu).2
  · refine xe12 (List.mem_flatMap.mp hu) fun w0 h0 hu => ?_
    rcases (pieces_mem.mp hu).1 with e | e <;> (subst e; exact List.filter_sublist.trans (sub w0 h0))
  · refine xe12 (List.mem_flatMap.mp hu) fun w0 h0 hu => ?_
    rw [mark_snoc, mark_snoc, same w0 h0 x (pm hu x hx) y (pm hu y hy)]
    have := psame hu x hx y hy
    have : (p ∈ N x) ↔ (p ∈ N y) := ⟨fun z => G.sym (this.mp (G.sym z)), fun z => G.sym (this.mpr (G.sym z))⟩
    by_cases z : p ∈ N x
    · rw [if_pos z, if_pos (this.mp z)]
    · rw [if_neg z, if_neg fun y => z (this.mpr y)]
  · unfold parted
    rw [List.pairwise_flatMap]
    refine ⟨fun w0 h0 => ?_, dec.imp_of_mem fun {a b} ha hb hab u hu u' hu' x hx y hy => ?_⟩
    · unfold piecesOf
      refine List.Pairwise.filter _ (List.pairwise_cons.mpr ⟨fun u hu x hx y hy => ?_, List.pairwise_singleton _ _⟩)
      rw [List.mem_singleton] at hu
      subst hu
      refine xe02 (List.mem_filter.mp hx) fun x1 x2 => ?_
      refine xe02 (List.mem_filter.mp hy) fun y1 y2 => ?_
      rw [mark_snoc, mark_snoc, lgtB_app (by rw [mark_len, mark_len]), if_pos (same w0 h0 x x1 y y1)]
      simp at x2 y2
      rw [if_pos (G.sym x2), if_neg fun z => y2 (G.sym z)]
      decide
    · have hl := hab x (pm hu x hx) y (pm hu' y hy)
      rw [mark_snoc, mark_snoc, lgtB_app (by rw [mark_len, mark_len]), if_neg fun e => by rw [e, lgtB_irr] at hl; cases hl]
      exact hl
  · have hall := h.all x
    have key : (∃ u ∈ parted N p (w :: q), x ∈ u) ↔ ∃ w0 ∈ w :: q, x ∈ w0 := by
      constructor
      · rintro ⟨u, hu, hx⟩
        refine xe12 (List.mem_flatMap.mp hu) fun w0 h0 hu => ?_
        exact ⟨w0, h0, pm hu x hx⟩
      · rintro ⟨w0, h0, hx⟩
        by_cases hxN : x ∈ N p
        · have : x ∈ tiedOf N p w0 := List.mem_filter.mpr ⟨hx, by simpa using hxN⟩
          exact ⟨_, List.mem_flatMap.mpr ⟨w0, h0, pieces_mem.mpr ⟨.inl rfl, fun e => by rw [e] at this; cases this⟩⟩, this⟩
        · have : x ∈ othersOf N p w0 := List.mem_filter.mpr ⟨hx, by simpa using hxN⟩
          exact ⟨_, List.mem_flatMap.mpr ⟨w0, h0, pieces_mem.mpr ⟨.inr rfl, fun e => by rw [e] at this; cases this⟩⟩, this⟩
    rw [key]
    have pq : ∀ u ∈ q, p ∉ u := fun u hu hpu => by
      have := (List.pairwise_cons.mp h.dec).1 u hu p (.head _) p hpu
      rw [lgtB_irr] at this; cases this
    constructor
    · rintro ⟨hV, hn⟩
      have hxp : x ≠ p := fun e => hn (by rw [e]; simp)
      refine xe12 (hall.mp ⟨hV, fun z => hn (List.mem_append_left _ z)⟩) fun u hu hx => ?_
      rcases List.mem_cons.mp hu with e | e
      · subst e
        rcases List.mem_cons.mp hx with e | e
        · exact absurd e hxp
        · exact ⟨w, .head _, e⟩
      · exact ⟨u, .tail _ e, hx⟩
    · rintro ⟨u, hu, hx⟩
      have hm : ∃ w0 ∈ (p :: w) :: q, x ∈ w0 := by
        rcases List.mem_cons.mp hu with e | e
        · subst e; exact ⟨_, .head _, .tail _ hx⟩
        · exact ⟨u, .tail _ e, hx⟩
      refine xe02 (hall.mpr hm) fun h1 h2 => ?_
      refine ⟨h1, fun z => ?_⟩
      rcases List.mem_append.mp z with z | z
      · exact h2 z
      · rw [List.mem_singleton] at z
        subst z
        rcases List.mem_cons.mp hu with e | e
        · subst e; exact hpn hx
        · exact pq u e hx
theorem split_at {V : List PySem.Str} {p : PySem.Str} (h : p ∈ V) : ∃ v1 v2, V = v1 ++ p :: v2 := List.append_of_mem h
theorem LK.pick {V : List PySem.Str} {N : PySem.Str → List PySem.Str} (G : Gr V N) {p : PySem.Str} {w : List PySem.Str} {q : List (List PySem.Str)} {row : List PySem.Str} (h : LK V N ((p :: w) :: q) row) : Mine.pick true N row (leftOf V row) = p := by
  have hp := (h.all p).mpr ⟨_, .head _, .head _⟩
  refine xe21 (split_at hp.1) fun v1 v2 hV => ?_
  have hnd := G.nd
  rw [hV] at hnd
  have hl : leftOf V row = leftOf v1 row ++ p :: leftOf v2 row := by
    unfold leftOf
    rw [hV, List.filter_append, List.filter_cons, if_pos (by simpa using hp.2)]
  rw [hl]
  have rest : ∀ c ∈ V, c ∉ row → (c ∈ p :: w) ∨ lgtB (markOf N row p) (markOf N row c) = true := fun c hc hn => by
    refine xe12 ((h.all c).mp ⟨hc, hn⟩) fun u hu hx => ?_
    rcases List.mem_cons.mp hu with e | e
    · subst e; exact .inl hx
    · exact .inr ((List.pairwise_cons.mp h.dec).1 u e p (.head _) c hx)
  refine pick_lex (fun c hc => ?_) fun c hc => ?_
  · refine xe02 (List.mem_filter.mp hc) fun c1 c2 => ?_
    rcases rest c (by rw [hV]; exact List.mem_append_left _ c1) (by simpa using c2) with z | z
    · exfalso
      have hs := h.sub _ (.head _)
      rw [hV, List.sublist_append_iff] at hs
      refine xe23 hs fun l1 l2 e s1 s2 => ?_; clear hs
      cases l1 with
      | nil =>
        have e : p :: w = l2 := e
        subst e
        have hc2 : c ∈ p :: v2 := s2.subset z
        exact (List.nodup_append.mp hnd).2.2 c c1 c hc2 rfl
      | cons a l1 =>
        have e : p :: w = a :: (l1 ++ l2) := e
        cases e
        exact (List.nodup_append.mp hnd).2.2 p (s1.subset (.head _)) p (.head _) rfl
    · exact z
  · refine xe02 (List.mem_filter.mp hc) fun c1 c2 => ?_
    rcases rest c (by rw [hV]; exact List.mem_append_right _ (.tail _ c1)) (by simpa using c2) with z | z
    · rw [h.same _ (.head _) c z p (.head _)]; exact lgtB_irr _
    · cases z' : lgtB (markOf N row c) (markOf N row p) with
      | false => rfl
      | true => have := lgtB_tr z z'; rw [lgtB_irr] at this; cases this
theorem lrun_is {V : List PySem.Str} {N : PySem.Str → List PySem.Str} (G : Gr V N) (hV6 : V.length = 6) : ∀ (f : Nat) (ws : List (List PySem.Str)) (row : List PySem.Str), row.length + f = 6 → row = rowTo' true V N row.length → LK V N ws row → lrun N f ws row = rowTo' true V N 6 := by
  intro f
  induction f with
  | zero =>
    intro ws row hl hr hk
    have : row.length = 6 := by lia
    rw [this] at hr
    unfold lrun
    exact hr
  | succ f ih =>
    intro ws row hl hr hk
    have hne : ∃ x ∈ V, x ∉ row := by
      refine Classical.byContradiction fun hn => ?_
      have : ∀ x ∈ V, x ∈ row := fun x hx => Classical.byContradiction fun z => hn ⟨x, hx, z⟩
      have := List.Nodup.length_le_of_subset G.nd this
      lia
    refine xe12 hne fun x hx hn => ?_; clear hne
    refine xe12 ((hk.all x).mp ⟨hx, hn⟩) fun u hu _ => ?_
    match ws, hk with
    | [], hk => cases hu
    | [] :: q, hk => exact absurd rfl (hk.ne [] (.head _))
    | (p :: w) :: q, hk =>
      rw [lrun]
      refine ih _ _ (by simp; lia) ?_ (hk.step G)
      rw [List.length_append, List.length_singleton, rowTo', ← hr, hk.pick G]
theorem lrun_rowTo {V : List PySem.Str} {N : PySem.Str → List PySem.Str} (G : Gr V N) (hV6 : V.length = 6) : lrun N 6 [V] [] = rowTo' true V N 6 := by
  refine lrun_is G hV6 6 [V] [] rfl rfl ⟨?_, ?_, ?_, ?_, ?_⟩
  · intro w hw e; rw [List.mem_singleton] at hw; subst hw; rw [e] at hV6; cases hV6
  · intro w hw; rw [List.mem_singleton] at hw; subst hw; exact List.Sublist.refl _
  · intro w hw x hx y hy; rfl
  · exact List.pairwise_singleton _ _
  · intro x; simp
theorem pieces_len {N : PySem.Str → List PySem.Str} {p : PySem.Str} {w : List PySem.Str} : ((piecesOf N p w).map List.length).sum = w.length := by
  have h : (tiedOf N p w).length + (othersOf N p w).length = w.length := by
    unfold tiedOf othersOf
    induction w with
    | nil => rfl
    | cons a w ih => simp only [List.filter_cons]; by_cases q : a ∈ N p <;> simp [q] <;> lia
  unfold piecesOf
  cases h1 : tiedOf N p w with
  | nil =>
    cases h2 : othersOf N p w with
    | nil => rw [h1, h2] at h; simpa using h
    | cons a l => rw [h1, h2] at h; simpa using h
  | cons a l =>
    cases h2 : othersOf N p w with
    | nil => rw [h1, h2] at h; simpa using h
    | cons b m => rw [h1, h2] at h; simpa using h
end
section
variable {C : Cx} {lv : Nat} {sc : Scope} {cel : List (PySem.Str × Addr)} {loc : Locs} {st : St}
set_option pp.deepTerms false
set_option pp.maxSteps 2000
noncomputable def allOf (ps : List (PySem.Str × PySem.Str)) (n : PySem.Str) : List PySem.Str := ps.filterMap fun p => if Txt.lower p.1 = n then some p.2 else none
theorem tiL_get {ps : List (PySem.Str × PySem.Str)} {y : AV} (h : y ∈ tiL ps) : ∃ p ∈ ps, y = .tup [.str p.1, .str p.2] := by
  refine xe12 (List.mem_map.mp h) fun p hp e => ?_
  exact ⟨p, hp, e.symm⟩
theorem getall_fn (G : Pg C) {x dx H : Addr} {ps : List (PySem.Str × PySem.Str)} {n : PySem.Str} (I : HO st x dx H (tiL ps)) (hl : PySem.Builtin.Str.tooLong (Txt.lower n).length = false) (hn : RxNo C 125 (Txt.lower n)) (hz : ps.length ≤ 1000)
    (hp : ∀ p ∈ ps, PySem.Builtin.Str.tooLong (Txt.lower p.1).length = false) :
    Fn C (lv + 2) (.ref 198) [.ref x, .str n] [] st fun y st' => y = .lst (sL (allOf ps (Txt.lower n))) ∧ st' = st := by
  refine Fn.sub ?_
  refine' Pg.fn1 G [Str.ofString "self", Str.ofString "name"] [(Str.ofString "self", .ref x)] (Str.ofString "name") (some (.str n)) ?ho ?hcd ?hb ?hclo ?hgl ?hbu ?hco ?hgen ?hk ?hok ?hbind ?hloc ?hcn ?hcx _ ?hsc ?h
  walk_at "fn"
  case hbind => exact len2 fun _ _ => rfl
  intro an
  have I1 : HO ((an, AO.cell (some (.str n))) :: st) x dx H (tiL ps) := I.cons _
  repeat walk_at "go"
  refine Ev.conv G I1 (fun _ _ _ => rfl) rfl rfl ?_
  walk_at "go"
  refine ⟨rfl, rfl, ?_⟩
  repeat walk_at "go"
  refine Cl.lower hl ?_
  refine ⟨_, rfl, hn, ?_⟩
  repeat walk_at "go"
  have I2 : HO ((an, AO.cell (some (.str (Txt.lower n)))) :: st) x dx H (tiL ps) := I.cons _
  refine' Ev.lcomp' rfl ?h2 _ rfl ?_
  case h2 => exact fun _ _ => rfl
  refine CompIn.l0M rfl (asT fun a b => if Txt.lower a = Txt.lower n then some (.str b) else none) ?_
  refine headers_attr G I2 (fun _ _ _ => rfl) ?_
  walk_at "go"
  refine ⟨rfl, rfl, ?_⟩
  refine ⟨H, tiL ps, rfl, I2.h, ?_, fun y hy D xs loc' => ?_, ?_⟩
  · rw [sizeLine_eq]; unfold tiL; rw [List.length_map]; lia
  · refine xe12 (tiL_get hy) fun p hpm qe0 => ?_; subst qe0
    repeat walk_at "go"
    refine Op2.ixT (fun _ _ => rfl) (by decide) (by decide) rfl ?_
    repeat walk_at "go"
    refine Cl.lower (hp p hpm) ?_
    repeat walk_at "go"
    refine iteB (fun e => ?_) (fun e => ?_)
    · have e' : Txt.lower p.1 = Txt.lower n := eq_of_beq e
      repeat walk_at "go"
      refine Op2.ixT (fun _ _ => rfl) (by decide) (by decide) rfl ?_
      rw [asT_e, if_pos e']
      exact ⟨rfl, rfl⟩
    · have e' : ¬ Txt.lower p.1 = Txt.lower n := fun z => by rw [z] at e; simp at e
      rw [asT_e, if_neg e']
      exact ⟨rfl, rfl⟩
  · refine ⟨st, List.sublist_cons_self _ _, ?_, rfl⟩
    congr 1
    unfold tiL sL allOf
    clear hz hp I I1 I2
    induction ps with
    | nil => rfl
    | cons p r ih =>
      simp only [List.map_cons, List.filterMap_cons, asT_e]
      by_cases q : Txt.lower p.1 = Txt.lower n
      · simp only [q, if_true, List.map_cons]; rw [ih]
      · simp only [if_neg q]; exact ih
end
section
variable {C : Cx} {lv : Nat} {sc : Scope} {cel : List (PySem.Str × Addr)} {loc : Locs} {st : St}
set_option pp.deepTerms false
set_option pp.maxSteps 2000
noncomputable def hoSt (x dx H : Addr) (rows : List AV) (st : St) : St := (H, .list rows) :: (x, .raw (instObj 259 dx)) :: (dx, .idict [(hdrK, .ref H)]) :: st
theorem ho_st (x dx H : Addr) (rows : List AV) (st : St) : HO (hoSt x dx H rows st) x dx H rows := ⟨⟨.tail _ (.head _), .tail _ (.tail _ (.head _))⟩, .head _⟩
theorem heads_fn (G : Pg C) : Fn C (lv + 2) (.ref 259) [] [] st fun y st' => ∃ x dx H, y = .ref x ∧ st' = hoSt x dx H [] st := by
  refine Cl.make G.gd (by rw [G.k]; rfl) (f := 153) (by rw [G.k]; rfl) (by rw [G.k]; rfl) fun x dx => Fn.nd fun nd => ?_
  refine Fn.mono (hinit_fn G ⟨.head _, .tail _ (.head _)⟩) fun y st' ⟨e1, H, s2, e2, u⟩ => ⟨e1, x, dx, H, rfl, ?_⟩
  obtain rfl := u.det (.tail .head) nd
  exact e2
theorem mt_add (G : Pg C) {x dx H : Addr} {rows : List AV} (I : HO st x dx H rows) : Mt C (.ref x) (Str.ofString "add_header") st (.ref 256) [.ref x] :=
  Mt.inst G.gd I.i rfl (by rw [G.k]; rfl) (by rw [G.k]; rfl) (by rw [G.k]; rfl) (by rw [G.k]; rfl)
noncomputable def sgC : List Nat := [97, 98, 34, 92, 32, 99]
noncomputable def IsSg (x : PySem.Str) : Prop := ∃ c ∈ sgC, x = ⟨#[c]⟩
noncomputable def SgT (ts : List (PySem.Str × PySem.Str)) : Prop := ∀ t ∈ ts, IsSg t.1 ∧ IsSg t.2
theorem up_sg : ∀ c ∈ sgC, Txt.upper ⟨#[c]⟩ = ⟨#[if c = 97 then 65 else if c = 98 then 66 else if c = 99 then 67 else c]⟩ := by decide +kernel
theorem IsSg.up {x : PySem.Str} (h : IsSg x) : PySem.Builtin.Str.tooLong (Txt.upper x).length = false ∧ RxNo C 125 (Txt.upper x) := by
  refine xe12 h fun c hc qe0 => ?_; clear h; subst qe0
  rw [up_sg c hc]
  refine ⟨rfl, rxn_sign _ ?_⟩
  revert c
  decide
theorem IsSg.nm {x : PySem.Str} (h : IsSg x) : RxNo C 125 x := by
  refine xe12 h fun c hc qe0 => ?_; clear h; subst qe0
  exact rxn_sign _ (by revert c; decide)
theorem IsSg.vl {x : PySem.Str} (h : IsSg x) : RxNo C 130 x := by
  refine xe12 h fun c hc qe0 => ?_; clear h; subst qe0
  exact rxv_sign _ hc
theorem IsSg.len {x : PySem.Str} (h : IsSg x) : x.length = 1 := by
  refine xe12 h fun c hc qe0 => ?_; clear h; subst qe0; rfl
noncomputable def tabOf (ts : List (PySem.Str × PySem.Str)) : List (PySem.Str × PySem.Str) := ts.flatMap fun t => [(Txt.upper t.1, t.2), (t.2, t.1)]
theorem tabOf_len (ts : List (PySem.Str × PySem.Str)) : (tabOf ts).length = 2 * ts.length := by
  unfold tabOf
  induction ts with
  | nil => rfl
  | cons t r ih => simp only [List.flatMap_cons, List.length_append, List.length_cons, List.length_nil, ih]; lia
theorem hoK {f : Value} {args : List AV} {kw : List (PySem.Str × AV)} {rows : List AV} {Post : AV → St → Prop} (h : Fn C lv f args kw st fun y st' => ∃ x dx H, y = .ref x ∧ st' = hoSt x dx H rows st)
    (k : ∀ x dx H, Post (.ref x) ((H, .list rows) :: (x, .raw (instObj 259 dx)) :: (dx, .idict [(hdrK, .ref H)]) :: st)) : Cl C lv f args kw st Post :=
  (Fn.mono h fun y s hz => by refine xe32 hz fun x dx H qe0 qe1 => ?_; clear hz; subst qe0; subst qe1; exact k x dx H).cl
theorem tab_sn (l : List (PySem.Str × PySem.Str)) (t : PySem.Str × PySem.Str) : tiL (tabOf (l ++ [t])) = tiL (tabOf l) ++ [.tup [.str (Txt.upper t.1), .str t.2]] ++ [.tup [.str t.2, .str t.1]] := by unfold tabOf tiL; simp
theorem table_fn (G : Pg C) {ts : List (PySem.Str × PySem.Str)} (hts : SgT ts) (hz : ts.length ≤ 100) : Fn C (lv + 3) (.ref 282) [.lst (tiL ts)] [] st fun y st' => ∃ x dx H, y = .ref x ∧ st' = hoSt x dx H (tiL (tabOf ts)) st := by
  refine' Pg.fn0 G [Str.ofString "ties"] [(Str.ofString "ties", .lst (tiL ts))] ?ho ?hcd ?hb ?hclo ?hgl ?hbu ?hco ?hgen ?hk ?hok ?hbind ?hloc ?hcn ?hcx _ ?hsc ?h
  walk_at "fn"
  case hbind => exact len1 fun _ => rfl
  refine Ex.gen fun Q0 hQ0 => ?_
  repeat walk_at "go"
  refine hoK (heads_fn G) fun x dx H => ?_
  repeat walk_at "go"
  refine loopS ts (fun t => AV.tup [.str t.1, .str t.2]) (fun _ => [(Str.ofString "table", .ref x)]) (fun i => (H, .list (tiL (tabOf (ts.take i)))) :: (x, .raw (instObj 259 dx)) :: (dx, .idict [(hdrK, .ref H)]) :: st) ItOf.lst ?_ rfl ?_ ?_
  · walk_at "sub"
  · intro i hlt Q1 hQ1
    have htk : ts.take (i + 1) = ts.take i ++ [ts[i]] := List.take_succ_eq_append_getElem hlt
    have hrl : (tiL (tabOf (ts.take i))).length ≤ 200 := by unfold tiL; rw [List.length_map, tabOf_len, List.length_take]; lia
    have ht : ts[i] ∈ ts := List.getElem_mem hlt
    generalize ts[i] = t at *
    refine xe02 (hts t ht) fun g1 g2 => ?_
    walk_at "go"
    walk_at "go"
    walk_at "go"
    walk_at "go"
    walk_at "go"
    repeat walk_at "go"
    refine ⟨_, _, mt_add G (ho_st ..), ?_⟩
    repeat walk_at "go"
    refine Cl.upper (g1.up (C := C)).1 ?_
    repeat walk_at "go"
    refine Fn.kU (addh_fn G (ho_st x dx H _ st) g1.up.2 g2.vl (by lia) (by rw [g2.len]; decide)) .head ?_
    repeat walk_at "go"
    refine ⟨_, _, mt_add G (ho_st x dx H _ st), ?_⟩
    repeat walk_at "go"
    refine Fn.kU (addh_fn G (ho_st x dx H _ st) g2.nm g1.vl (by simp; lia) (by rw [g1.len]; decide)) .head ?_
    repeat walk_at "go"
    rw [htk, tab_sn] at hQ1
    exact hQ1 _ (by walk_at "sub")
  · intro l hs
    refine Ex.rel hs ?_
    repeat walk_at "go"
    refine hQ0 _ _ _ ⟨x, dx, H, rfl, ?_⟩
    rw [List.take_length]
    rfl
end
section
variable {C : Cx} {lv : Nat} {sc : Scope} {cel : List (PySem.Str × Addr)} {loc : Locs} {st : St}
set_option pp.deepTerms false
set_option pp.maxSteps 2000
noncomputable def colonT (p : PySem.Str × PySem.Str) : PySem.Str := p.1 ++ Str.ofString ": " ++ p.2
noncomputable def strT (ps : List (PySem.Str × PySem.Str)) : PySem.Str := Txt.join (Str.ofString "\r\n") (ps.map colonT ++ [Str.ofString "", Str.ofString ""])
theorem str_fn (G : Pg C) {x dx H : Addr} {ps : List (PySem.Str × PySem.Str)} (I : HO st x dx H (tiL ps)) (hz : ps.length ≤ 100) (hp : ∀ p ∈ ps, p.1.length ≤ 1000 ∧ p.2.length ≤ 2000) :
    Fn C (lv + 1) (.ref 235) [.ref x] [] st fun y st' => y = .str (strT ps) ∧ st' = st := by
  refine' Pg.fn0 G [Str.ofString "self"] [(Str.ofString "self", .ref x)] ?ho ?hcd ?hb ?hclo ?hgl ?hbu ?hco ?hgen ?hk ?hok ?hbind ?hloc ?hcn ?hcx _ ?hsc ?h
  walk_at "fn"
  case hbind => exact len1 fun _ => rfl
  repeat walk_at "go"
  refine' Ev.lcomp' rfl ?h2 _ rfl ?_
  case h2 => exact fun _ _ => rfl
  refine CompIn.l0M rfl (asT fun a b => some (.str (colonT (a, b)))) ?_
  refine headers_attr G I (fun _ _ _ => rfl) ?_
  walk_at "go"
  refine ⟨rfl, rfl, ?_⟩
  refine ⟨H, tiL ps, rfl, I.h, ?_, fun y hy D xs loc' => ?_, ?_⟩
  · rw [sizeLine_eq]; unfold tiL; rw [List.length_map]; lia
  · refine xe12 (tiL_get hy) fun p hpm qe0 => ?_; subst qe0
    refine xe02 (hp p hpm) fun hp1 hp2 => ?_
    repeat walk_at "go"
    refine Op2.fmtT (X' := ⟨#[37, 115, 58, 32, 37, 115]⟩) ?hX (fun b t u w => fmt_colon b p.1 p.2 t u w (by lia) (by lia)) ?_
    case hX => decide +kernel
    exact ⟨rfl, rfl⟩
  · have e : (tiL ps).filterMap (asT fun a b => some (AV.str (colonT (a, b)))) = sL (ps.map colonT) := by
      unfold tiL sL
      clear hz hp I
      induction ps with
      | nil => rfl
      | cons p r ih => exact congrArg (List.cons _) ih
    rw [e]
    refine Ev.lstF rfl ?_
    repeat walk_at "go"
    have hl1 : (sL (ps.map colonT)).length = ps.length := by simp [sL]
    refine Op2.addL .lst .lst (by rw [hl1, sizeLine_eq]; simp; lia) ?_
    rw [show sL (ps.map colonT) ++ [AV.str (Str.ofString ""), AV.str (Str.ofString "")] = sL (ps.map colonT ++ [Str.ofString "", Str.ofString ""]) by simp [sL]]
    repeat walk_at "go"
    have hc : (Str.ofString ": ").length = 2 := by decide +kernel
    have hn : (Str.ofString "\r\n").length = 2 := by decide +kernel
    have he : (Str.ofString "").length = 0 := by decide +kernel
    have hsum : ∀ qs : List (PySem.Str × PySem.Str), (∀ p ∈ qs, p.1.length ≤ 1000 ∧ p.2.length ≤ 2000) → ((qs.map colonT).map (·.length)).sum ≤ 3002 * qs.length := by
      intro qs
      induction qs with
      | nil => intro _; simp
      | cons q r ih =>
        intro h
        have h1 := h q (.head _)
        have h2 := ih fun p hp => h p (.tail _ hp)
        have h3 : (colonT q).length ≤ 3002 := by unfold colonT; rw [len_app, len_app, hc]; lia
        simp only [List.map_cons, List.sum_cons, List.length_cons] at h2 ⊢
        lia
    have := hsum ps hp
    refine Cl.join .lst ?_ ?_
    · rw [List.map_append, List.sum_append, List.length_append, hn]
      simp only [List.map_cons, List.map_nil, List.sum_cons, List.sum_nil, he, List.length_map, List.length_cons, List.length_nil]
      lia
    · exact ⟨rfl, rfl⟩
theorem Cl.strOf (G : Gd C) {x dx Cc f : Addr} {es : List (PySem.Str × AV)} {Post : AV → St → Prop} (I : OI st x dx Cc es) (hs : findIn C.K (.ref Cc) "__str__" = some (some (.ref f))) (hf : isFn C.K (.ref f) = true)
    (h : Cl C lv (.ref f) [.ref x] [] st fun y s => ∃ t, y = .str t ∧ Post (.str t) s) : Cl C (lv + 1) (.type "str") [.ref x] [] st Post := fun P A s vs kvs Q E a R hv hk k => by
  obtain rfl := hk.nil_inv
  refine xe12 hv.one_inv fun _ qe0 h1 => ?_; subst qe0
  · cases h1
    refine xe32 (I.at R) fun od des ep I' _ => ?_
    have a2 : AOk lv A.in1.in1 := ⟨a.handled, by have := a.depth; refine (?_ : A.depth + 10 * lv ≤ 900); lia, by have := a.units; refine (?_ : A.units + 1 + 1 + 50 * lv ≤ 9000); lia⟩
    refine kso_call (K := C.K) (by have := a2.cl; exact this) (G.kin.keeps R.h0) I' hs hf (h P _ _ [.ref x] [] _ E a2 R (.cons .ref .nil) .nil fun P' y v st' h' tk hx S R' hv => ?_)
    refine xe12 hx fun t qe0 hp => ?_; clear hx; subst qe0
    cases hv
    exact k P' _ _ st' h' tk hp S R' .str
theorem strOf_headers (G : Pg C) {x dx H : Addr} {ps : List (PySem.Str × PySem.Str)} {Post : AV → St → Prop} (I : HO st x dx H (tiL ps)) (hz : ps.length ≤ 100) (hp : ∀ p ∈ ps, p.1.length ≤ 1000 ∧ p.2.length ≤ 2000) (hq : Post (.str (strT ps)) st) :
    Cl C (lv + 2) (.type "str") [.ref x] [] st Post :=
  Cl.strOf G.gd I.i (f := 235) (by rw [G.k]; rfl) (by rw [G.k]; rfl) (Fn.mono (str_fn G I hz hp) fun y s hy0 => xe02 hy0 fun e1 e2 => by subst e1 e2; exact ⟨_, rfl, hq⟩).cl
end
section
set_option maxHeartbeats 1000000
variable {C : Cx} {lv : Nat} {sc : Scope} {cel : List (PySem.Str × Addr)} {loc : Locs} {st st' : St}

/-! the store's order does not matter -/
theorem adr_perm (p : st.Perm st') (b : Addr) : b ∈ adr st ↔ b ∈ adr st' := (p.map (·.1)).mem_iff
theorem Rp.perm {P : PM} {h : Heap} (R : Rp C P st h) (p : st.Perm st') : Rp C P st' h :=
  ⟨R.base, R.keep, ((p.map (f := fun x : Addr × AO => x.1)).nodup_iff).mp (show (st.map fun x => x.1).Nodup from R.nd), fun x hx => R.own x (p.mem_iff.mpr hx), fun q => R.one.1 ((adr_perm p 1).mpr q), R.one.2⟩
theorem Step.permL {P P' : PM} {s : St} {h h' : Heap} (S : Step P P' st' s h h') (p : st.Perm st') : Step P P' st s h h' :=
  ⟨S.p, fun b e => (S.p' b e).imp id (·.imp id (adr_perm p b).mpr), fun b hb => (S.sb b hb).imp (adr_perm p b).mpr id, fun b o e hb => S.keep b o e fun q => hb ((adr_perm p b).mpr q)⟩
theorem Step.permR {P P' : PM} {s : St} {h h' : Heap} (S : Step P P' s st h h') (p : st.Perm st') : Step P P' s st' h h' :=
  ⟨S.p, S.p', fun b hb => S.sb b ((adr_perm p b).mpr hb), S.keep⟩
theorem Fn.perm {f : Value} {args : List AV} {kw : List (PySem.Str × AV)} {Post : AV → St → Prop} (p : st.Perm st') (h : Fn C lv f args kw st' Post) : Fn C lv f args kw st Post := fun P A s vs kvs R a Rr hv hk k =>
  h P A s vs kvs R a (Rr.perm p) hv hk fun P' x v s' h' tk hx S R' hr => k P' x v s' h' tk hx (S.permL p) R' hr
theorem Fn.permP {f : Value} {args : List AV} {kw : List (PySem.Str × AV)} {Post : AV → St → Prop} (h : Fn C lv f args kw st fun x s => ∃ s', s.Perm s' ∧ Post x s') : Fn C lv f args kw st Post := fun P A s vs kvs R a Rr hv hk k =>
  h P A s vs kvs R a Rr hv hk fun P' x v s' h' tk ⟨s'', p, hx⟩ S R' hr => k P' x v s'' h' tk hx (S.permR p) (R'.perm p) hr
theorem Cl.perm {f : Value} {args : List AV} {kw : List (PySem.Str × AV)} {Post : AV → St → Prop} (p : st.Perm st') (h : Cl C lv f args kw st' Post) : Cl C lv f args kw st Post := fun P A s vs kvs Q E a Rr hv hk k =>
  h P A s vs kvs Q E a (Rr.perm p) hv hk fun P' x v s' h' tk hx S R' hr => k P' x v s' h' tk hx (S.permL p) R' hr
theorem perm_front (pre L rest : St) : (pre ++ (L ++ rest)).Perm (L ++ (pre ++ rest)) := by
  rw [← List.append_assoc, ← List.append_assoc]
  exact List.perm_append_comm.append_right _
theorem perm_back (pre L rest : St) : (L ++ (pre ++ rest)).Perm (pre ++ (L ++ rest)) := (perm_front pre L rest).symm
theorem Fn.frame {f : Value} {args : List AV} {kw : List (PySem.Str × AV)} {Post : AV → St → Prop} (pre : St) {L rest : St} (h : Fn C lv f args kw (L ++ (pre ++ rest)) fun x s => ∃ L', s = L' ++ (pre ++ rest) ∧ Post x (pre ++ (L' ++ rest))) : Fn C lv f args kw (pre ++ (L ++ rest)) Post :=
  Fn.perm (perm_front pre L rest) (Fn.permP (Fn.mono h fun x s hq => xe12 hq fun L' e hp => ⟨_, e ▸ perm_back pre L' rest, hp⟩))
end
section
set_option maxHeartbeats 1000000
variable {C : Cx} {lv : Nat} {sc : Scope} {cel : List (PySem.Str × Addr)} {loc : Locs} {st st' : St}

structure GdX (C : Cx) (c T : Addr) : Prop where
  hd : CodeHd C.H0 c T
  bm : ∃ mg, C.H0.Ns mainGlobals mg ∧ ∃ bm ob, mg "__builtins__" = some (.ref bm) ∧ bm ≠ builtinsNs ∧ bm ≠ mainGlobals ∧ bm ≠ T ∧ C.H0.get? bm = some ob ∧ ob.cls = .type "module" ∧ ob.dict = some builtinsNs ∧ ob.data = .plain
noncomputable def CodeOk (oc : Obj) (qual : PySem.Str) : Prop := ∃ vs t, oc.data = .fields vs ∧ vs[1]? = some (.str qual t)
noncomputable def Ex1C (C : Cx) (cd : Value) (lv : Nat) (sc : Scope) (cel : List (PySem.Str × Addr)) (loc : Locs) (t : Stmt) (st : St) (Post : Fl → Locs → St → Prop) : Prop :=
  ∀ (P : PM) (A : Around) (env : Env) (s : Shared) (Q : Flow → Shared → Prop) (E : Value → Shared → Prop), env.code = cd →
    AOk lv A → EOk sc cel env → Rp C P st s.heap → FRp C P loc env st s.heap →
    (∀ P' f fl loc' st' h' k, Post f loc' st' → StepX env.locals P P' st st' s.heap h' → Rp C P' st' h' → FRp C P' loc' env st' h' → FlRep C P' f fl → Q fl { s with heap := h', toks := k }) →
    wpAny (model C.prog C.w) A (exec t env) Q E s
variable {cd : Value}
theorem Ex.toC {ss : List Stmt} {Post : Fl → Locs → St → Prop} (h : Ex C lv sc cel loc ss st Post) : ExC C cd lv sc cel loc ss st Post := fun P A env s Q E _ => h P A env s Q E
theorem Ex1.toC {t : Stmt} {Post : Fl → Locs → St → Prop} (h : Ex1 C lv sc cel loc t st Post) : Ex1C C cd lv sc cel loc t st Post := fun P A env s Q E _ => h P A env s Q E
noncomputable abbrev seqC (C : Cx) (cd : Value) (lv : Nat) (sc : Scope) (cel : List (PySem.Str × Addr)) (ss : List Stmt) (Post : Fl → Locs → St → Prop) : Fl → Locs → St → Prop := fun f loc' st' => match f with
  | .next => ExC C cd lv sc cel loc' ss st' Post
  | f => Post f loc' st'
theorem ExC.cons {t : Stmt} {ss : List Stmt} {Post : Fl → Locs → St → Prop}
    (h : Ex1C C cd lv sc cel loc t st (seqC C cd lv sc cel ss Post)) : ExC C cd lv sc cel loc (t :: ss) st Post := fun P A env s Q E hc a en R F k => by
  refine wpAny_execs_cons (h P A env s _ E hc a en R F fun P₁ f fl loc₁ st₁ h₁ k₁ hf S₁ R₁ F₁ hfl => ?_)
  cases hfl with
  | next => exact hf P₁ A env _ Q E hc a en R₁ F₁ fun P₂ f fl loc₂ st₂ h₂ k₂ hf₂ S₂ R₂ F₂ hfl₂ => k P₂ f fl loc₂ st₂ h₂ k₂ hf₂ (S₁.trans F₁.lives S₂) R₂ F₂ hfl₂
  | brk => exact k P₁ _ _ loc₁ st₁ h₁ k₁ hf S₁ R₁ F₁ .brk
  | cont => exact k P₁ _ _ loc₁ st₁ h₁ k₁ hf S₁ R₁ F₁ .cont
  | ret hv => exact k P₁ _ _ loc₁ st₁ h₁ k₁ hf S₁ R₁ F₁ (.ret hv)

theorem Rp.grow {P : PM} {h h' : Heap} {a : Addr} {x y : AO} {o' : Obj} (R : Rp C P st h) (u : Upd st a x y st') (hs : ∀ b o, b ≠ a → h.get? b = some o → h'.get? b = some o) (ho : h'.get? a = some o') (hy : ORep C P y o') :
    Rp C P st' h' ∧ Step P P st st' h h' := by
  have hPa : P a = none := (R.own _ u.mem).1
  refine ⟨⟨R.base, fun b o e => ?_, by rw [u.adr]; exact R.nd, fun p hp => ?_, R.one_up (fun _ _ q => q) fun b hb => by rw [← u.adr]; exact hb⟩, ⟨fun _ _ e => e, fun _ e => .inl e, fun b hb => .inl (by rw [← u.adr]; exact hb), fun b o e hb => ?_⟩⟩
  · have : b ≠ a := by rintro rfl; rw [hPa] at e; cases e
    exact hs b o this (R.keep b o e)
  · rcases u.mem' p hp with rfl | ⟨h1, h2⟩
    · exact ⟨hPa, o', ho, hy⟩
    · obtain ⟨q1, o, q2, q3⟩ := R.own p h1
      exact ⟨q1, o, hs _ _ (fun e => h2 e R.nd) q2, q3⟩
  · have : b ≠ a := by rintro rfl; exact hb (List.mem_map_of_mem u.mem)
    exact hs b o this e
theorem Rp.put {P : PM} {h₀ h : Heap} {a : Addr} {o : Obj} {st₀ : St} {P₀ : PM} (R : Rp C P st h) (S : Step P₀ P st₀ st h₀ h) (ho : h.get? a = some o) (hP : P a = none) (ha : a ∉ adr st) (h1 : 1 < a) (hn : h₀.get? a = none) :
    Rp C P ((a, .raw o) :: st) h ∧ Step P₀ P st₀ ((a, .raw o) :: st) h₀ h := by
  refine ⟨⟨R.base, R.keep, List.nodup_cons.mpr ⟨ha, R.nd⟩, fun x hx => ?_, ⟨fun hm => ?_, R.one.2⟩⟩, ⟨S.p, S.p', fun b hb => ?_, S.keep⟩⟩
  · rcases List.mem_cons.mp hx with rfl | hx
    · exact ⟨hP, o, ho, .raw⟩
    · exact R.own x hx
  · rcases List.mem_cons.mp hm with e | e
    · exact Nat.ne_of_lt h1 e
    · exact R.one.1 e
  · rcases List.mem_cons.mp hb with rfl | hb
    · exact .inr hn
    · exact S.sb b hb
theorem none_ge {h : Heap} {b : Addr} (hb : h.objs.size ≤ b) : h.get? b = none := by
  cases e : h.get? b with
  | none => rfl
  | some o => exact absurd (Heap.lt_size e) (Nat.not_lt.mpr hb)
theorem fn_made {T c' : Addr} {ps ps' : Array Value} {qual : PySem.Str} {fo : Obj} {P : PM} {h h' : Heap} (R : Rp C P st h) (u : Upd st T (.raw (tabObj ps)) (.raw (tabObj ps')) st') (hx : Heap.ExtBut T h h') (hge : h.objs.size ≤ c') (hlt : c' < h'.objs.size)
    (hrec : h'.CodeRec (.ref c') qual) (hT : h'.get? T = some (tabObj ps')) (hf : fo.isFreed = false) :
    ∃ oc, CodeOk oc qual ∧ Rp C P ((h'.objs.size, .raw fo) :: (c', .raw oc) :: st') (h'.push fo) ∧ Step P P st ((h'.objs.size, .raw fo) :: (c', .raw oc) :: st') h (h'.push fo) := by
  refine xe44 hrec fun c oc vs t e hoc hd hv => ?_; clear hrec
  cases e
  refine xe02 (R.grow u (fun b o hb e => hx b o hb e) hT .raw) fun R₁ S₁ => ?_
  have hcn : h.get? c' = none := none_ge hge
  have hPc : P c' = none := by
    cases e : P c' with
    | none => rfl
    | some o => have := R.keep _ _ e; rw [hcn] at this; cases this
  have hst : c' ∉ adr st' := by
    rw [u.adr]
    intro hm
    refine xe12 (List.mem_map.mp hm) fun y hy e => ?_
    obtain ⟨_, o, ho, _⟩ := R.own y hy
    rw [e, hcn] at ho; cases ho
  refine xe02 (R₁.put S₁ hoc hPc hst (Nat.lt_of_lt_of_le R.big hge) hcn) fun R₂ S₂ => ?_
  refine xe02 (R₂.push (x := .raw fo) (o := fo) .raw hf) fun R₃ S₃ => ?_
  exact ⟨oc, ⟨vs, t, hd, hv⟩, R₃, S₂.trans S₃⟩
theorem GdX.at {c T : Addr} {ps : Array Value} (G : GdX C c T) {P : PM} {h : Heap} (R : Rp C P st h) (hm : (T, AO.raw (tabObj ps)) ∈ st) :
    ∃ mg, h.Ns mainGlobals mg ∧ CodeHd h c T ∧ h.get? T = some (tabObj ps) ∧ mainGlobals ≠ T ∧ h.BuiltinsAt mg T := by
  obtain ⟨mg, hg, bm, ob, b1, b2, b3, b4, b5, b6, b7, b8⟩ := G.bm
  refine xe12 (R.at hm) fun o ho hr => ?_
  cases hr
  refine ⟨mg, hg.keeps R.h0, G.hd.keeps R.h0, ho, fun e => ?_, ⟨bm, ob, b1, b2, b3, b4, R.h0 _ _ b5, b6, b7, b8⟩⟩
  refine xe32 hg fun og es ep eg _ => ?_; clear hg
  have h1 := R.base _ _ eg
  have h2 := (R.own _ hm).1
  rw [e] at h1
  rw [h1] at h2; cases h2
theorem Ex1C.def {c T : Addr} {ps : Array Value} {name : PySem.Str} {params : Arguments} {body : List Stmt} {scope : Scope} {pos : Pos} {clos : List (PySem.Str × Addr)} {Post : Fl → Locs → St → Prop} (G : GdX C c T)
    (hd0 : params.defaults = []) (hk0 : params.kw_defaults = []) (ha : ∀ env, annTrees params none env = []) (hcl : closeFrom cel scope.names [] = some clos) (hm : (T, AO.raw (tabObj ps)) ∈ st) (ht : TriplesOk ps.toList) (hnf : codeAmong pos ps.toList = none)
    (h : ∀ F c' qual doc pm ctv oc st₁, CodeOk oc qual → Upd st T (.raw (tabObj ps)) (.raw (tabObj (ps ++ #[rawInt pos.line, rawInt pos.col, .ref c']))) st₁ →
      Bd C sc cel loc name (.ref F) ((F, .raw (fnMade name qual params body scope clos doc pm c' ctv)) :: (c', .raw oc) :: st₁) fun loc' st'' => Post .next loc' st'') :
    Ex1C C (.ref c) lv sc cel loc (.FunctionDef name params body [] none [] scope none name pos) st Post := fun P A env s Q E hc a en R F k => by
  refine xe15 (G.at R hm) fun mg hg hcd hP hgP hb => ?_
  refine nestDef_K hd0 hk0 (ha env) ?_
  refine makeFunction_K (closureFor_of (by rw [en.cells]; exact hcl)) en.globals hg hc hcd hP ht hnf hgP hb fun c' ctv doc h' tk hx hge hlt hrec hT => ?_
  refine xe11 (Upd.of_mem hm (.raw (tabObj (ps ++ #[rawInt pos.line, rawInt pos.col, .ref c'])))) fun st₁ u => ?_
  refine xe13 (fn_made (fo := fnMade name (qualnameIn env name name) params body scope clos doc ((mg "__name__").getD .none) c' ctv) R u hx hge hlt hrec hT rfl) fun oc hoc R₂ S₂ => ?_
  have F₂ := F.step S₂
  exact h _ c' _ doc _ ctv oc st₁ hoc u P A env _ _ _ E en R₂ F₂ .ref fun loc' st'' h'' tk' hp S R' F' => k P .next .next loc' st'' h'' tk' hp ((S₂.toX _).trans F₂.lives S) R' F' .next
theorem Ex1C.lam {c T : Addr} {ps : Array Value} {x : PySem.Str} {px p : Pos} {params : Arguments} {body : Expr} {scope : Scope} {pos : Pos} {clos : List (PySem.Str × Addr)} {Post : Fl → Locs → St → Prop} (G : GdX C c T)
    (hsw : ∀ env, env.scope = sc → swapsWith (.Lambda params body scope pos) (some (.Name x px)) p.line env = pure false)
    (hdef : ∀ env, defaultsOf params env = ([], [])) (hcl : closeFrom cel scope.names [] = some clos) (hm : (T, AO.raw (tabObj ps)) ∈ st) (ht : TriplesOk ps.toList) (hnf : codeAmong pos ps.toList = none)
    (h : ∀ F c' qual pm ctv oc st₁, CodeOk oc qual → Upd st T (.raw (tabObj ps)) (.raw (tabObj (ps ++ #[rawInt pos.line, rawInt pos.col, .ref c']))) st₁ →
      Bd C sc cel loc x (.ref F) ((F, .raw (kla_obj "<lambda>" qual params body scope clos pm c' ctv)) :: (c', .raw oc) :: st₁) fun loc' st'' => Post .next loc' st'') :
    Ex1C C (.ref c) lv sc cel loc (.Assign [.Name x px] (.Lambda params body scope pos) p) st Post := fun P A env s Q E hc a en R F k => by
  refine xe15 (G.at R hm) fun mg hg hcd hP hgP hb => ?_
  refine wpAny_Assign_Name (kla_eval (hdef env) ?_) (hsw env en.scope)
  refine kla_makeFunction (closureFor_of (by rw [en.cells]; exact hcl)) en.globals hg hc hcd hP ht hnf hgP hb fun c' ctv h' tk hx hge hlt hrec hT => ?_
  refine xe11 (Upd.of_mem hm (.raw (tabObj (ps ++ #[rawInt pos.line, rawInt pos.col, .ref c'])))) fun st₁ u => ?_
  refine xe13 (fn_made (fo := kla_obj "<lambda>" (env.qual ++ "<lambda>") params body scope clos ((mg "__name__").getD .none) c' ctv) R u hx hge hlt hrec hT rfl) fun oc hoc R₂ S₂ => ?_
  have F₂ := F.step S₂
  exact h _ c' _ _ ctv oc st₁ hoc u P A env _ _ _ E en R₂ F₂ .ref fun loc' st'' h'' tk' hp S R' F' => k P .next .next loc' st'' h'' tk' hp ((S₂.toX _).trans F₂.lives S) R' F' .next
end
section
set_option maxHeartbeats 1000000
variable {C : Cx} {lv : Nat} {sc : Scope} {cel : List (PySem.Str × Addr)} {loc : Locs} {st : St}

theorem lookup_rev : ∀ {l : List (PySem.Str × Value)}, (l.map (·.1)).Nodup → ∀ x, l.reverse.lookup x = l.lookup x
  | [], _, _ => rfl
  | (n, v) :: r, h, x => by
    refine xe02 (List.nodup_cons.mp (show (n :: r.map (·.1)).Nodup from h)) fun h1 h2 => ?_
    rw [List.reverse_cons, List.lookup_append, lookup_rev h2 x, List.lookup_cons]
    by_cases e : x = n
    · subst e
      have : r.lookup x = none := List.lookup_eq_none_iff.mpr fun p hp => by
        simp only [bne_iff_ne]
        intro q
        apply h1
        first | exact (eq_of_beq q) ▸ List.mem_map_of_mem hp | exact q ▸ List.mem_map_of_mem hp
      rw [this]; simp
    · have hb : (x == n) = false := beq_eq_false_iff_ne.mpr e
      rw [hb, List.lookup_cons, hb]
      cases r.lookup x <;> rfl
theorem Fn.clo {f : Addr} {fo : Obj} {fd : FuncData} {body : List Stmt} {args : List AV} {Post : AV → St → Prop} (G : Gd C) (ns : List PySem.Str) (cl : List (PySem.Str × Addr)) (hm : (f, AO.raw fo) ∈ st) (hd : fo.data = .func fd)
    (hcd : ∃ c' oc, fd.code = .ref c' ∧ (c', AO.raw oc) ∈ st ∧ CodeOk oc fd.qualname) (hb : fd.body = .stmts body) (hclo : fd.closure = cl) (hgl : fd.globals = mainGlobals) (hbu : fd.builtins = builtinsNs)
    (hco : fd.scope.isCoroutine = false) (hgen : fd.scope.isGenerator = false) (hk : fd.scope.kind = .function) (hcell : ∀ x ∈ fd.scope.names, x.2 ≠ .cell) (hloc : ∀ n ∈ ns, fd.scope.names.lookup n = some .local) (hnd : ns.Nodup)
    (hbind : ∀ vs : List Value, vs.length = args.length → bindArgs fd ⟨vs, []⟩ = pure (ns.zip vs)) (sc : Scope) (hsc : fd.scope = sc)
    (h : Ex C lv sc cl (ns.zip args) body st (retP Post)) : Fn C (lv + 1) (.ref f) args [] st Post := fun P A s vs kvs R ao Rr hv hkv k => by
  subst hsc
  cases hkv
  refine xe12 (Rr.at hm) fun o ho hr => ?_
  cases hr
  have hcr : s.heap.CodeRec fd.code fd.qualname := by
    obtain ⟨c', oc, e, hmc, vs', t, hd', hv'⟩ := hcd
    refine xe12 (Rr.at hmc) fun o' ho' hr' => ?_
    cases hr'
    exact ⟨c', _, vs', t, e, ho', hd', hv'⟩
  have zl : ∀ {l : List Value}, ((ns.zip l).map (·.1)).Nodup := fun {l} => by
    have : ∀ (ns : List PySem.Str) (l : List Value), ns.Nodup → ((ns.zip l).map (·.1)).Nodup := by
      intro ns
      induction ns with
      | nil => intro l _; simp
      | cons n ns ih =>
        intro l hn
        cases l with
        | nil => simp
        | cons a l =>
          refine xe02 (List.nodup_cons.mp hn) fun h1 h2 => ?_
          simp only [List.zip_cons_cons, List.map_cons]
          refine List.nodup_cons.mpr ⟨fun hmm => ?_, ih l h2⟩
          refine xe12 (List.mem_map.mp hmm) fun x hx e => ?_
          exact h1 (e ▸ (List.of_mem_zip hx).1)
    exact this ns l hnd
  refine codeAny_call_function ao.room ho hd hco hgen hb hcr ?_
  rw [hbind vs hv.length.symm, hclo]
  refine wpAny_pure (wpAny_newFunctionEnv hcell (fun x hx => hloc _ (List.of_mem_zip hx).1) (fun h₁ hns hsb => ⟨((G.nolimit.keeps Rr.h0)).fresh _ hsb, codeAny_func ?_⟩) hk)
  have hk₁ : ∀ b o, s.heap.get? b = some o → h₁.get? b = some o := fun b o e => hsb.extBut b o (Nat.ne_of_lt (Heap.lt_size e)) (Heap.get?_push_of_some _ e)
  refine xe02 (Rr.ext hk₁) fun R₂ S₂ => ?_
  generalize henv : newEnv fd.scope s.heap.objs.size fd.globals cl (fd.qualname ++ ".<locals>.") (some f) fd.code none fd.builtins = env
  have hsc : env.scope = fd.scope := by rw [← henv]; rfl
  have hcl : env.cells = cl := by rw [← henv]; rfl
  have hloc' : env.locals = s.heap.objs.size := by rw [← henv]; rfl
  have hnew : s.heap.get? s.heap.objs.size = none := none_ge (Nat.le_refl _)
  have hPn : P s.heap.objs.size = none := by
    cases e : P s.heap.objs.size with
    | none => rfl
    | some o => have := Rr.keep _ _ e; rw [hnew] at this; cases this
  have hSn : s.heap.objs.size ∉ adr st := fun hmm => by
    refine xe12 (List.mem_map.mp hmm) fun y hy e => ?_
    obtain ⟨_, o, ho, _⟩ := Rr.own y hy
    rw [e, hnew] at ho; cases ho
  have F₂ : FRp C P (ns.zip args) env st h₁ := by
    refine ⟨⟨_, by rw [hloc']; exact hns, fun x y e => ?_⟩, by rw [hloc']; exact hPn, by rw [hloc']; exact hSn⟩
    have z : VEnts C P (ns.zip args) (ns.zip vs) := VEnts.zip hv
    refine xe12 (z.find' e) fun v e1 e2 => ?_
    exact ⟨v, (lookup_rev zl x).trans e1, e2⟩
  have en : EOk fd.scope cl env := ⟨hsc, hcl, by rw [← henv]; exact hgl, by rw [← henv]; exact hbu, hk⟩
  have ad : AOk lv (A.deeper env) := ⟨ao.handled, by refine (?_ : A.depth + 1 + 10 * lv ≤ 900); have := ao.depth; lia, by refine (?_ : A.units + 3 + 50 * lv ≤ 9000); have := ao.units; lia⟩
  refine h P (A.deeper env) env _ _ _ ad en R₂ F₂ fun P₃ fl f loc₃ st₃ h₃ k₃ hf S₃ R₃ F₃ hfl => ?_
  have S : Step P P₃ st st₃ s.heap h₃ := by
    refine ⟨S₃.p, fun b hb => ?_, fun b hb => ?_, fun b o e hb => ?_⟩
    · rcases S₃.p' b hb with q | q | q
      · exact .inl q
      · refine .inr (.inl ?_)
        cases z : s.heap.get? b with
        | none => rfl
        | some o => rw [hk₁ b o z] at q; cases q
      · exact .inr (.inr q)
    · rcases S₃.sb b hb with q | q
      · exact .inl q
      · refine .inr ?_
        cases z : s.heap.get? b with
        | none => rfl
        | some o => rw [hk₁ b o z] at q; cases q
    · exact S₃.keep b o (hk₁ b o e) hb (by rw [hloc']; exact Nat.ne_of_lt (Heap.lt_size e))
  cases hfl with
  | next => exact k P₃ .none .none st₃ h₃ _ hf S R₃ .none
  | brk => exact k P₃ .none .none st₃ h₃ _ hf S R₃ .none
  | cont => exact k P₃ .none .none st₃ h₃ _ hf S R₃ .none
  | ret hv => exact k P₃ _ _ st₃ h₃ _ hf S R₃ hv
end
section
set_option maxHeartbeats 1000000
variable {C : Cx} {lv : Nat} {sc : Scope} {cel : List (PySem.Str × Addr)} {loc : Locs} {st st' : St}

theorem slot_fun_setattr : Slot "function" "__setattr__" "object.__setattr__" :=
  .of (owner := "object") (n := "__setattr__") (by rw [typeLookup_type, builtinLookup_eq_fast]; kernel_rfl) (by decide +kernel) (by decide +kernel) (by decide +kernel)
    (by first | exact .inl (by decide +kernel) | exact .inr (by decide +kernel)) (by rw [isSubtype_type]; kernel_rfl)
theorem owner_object' : Manifest.owners.lookup (String.ofList ['t', 'c', 'e', 'j', 'b', 'o'].reverse) = some Manifest.sig_object := by kernel_rfl
theorem entry_obj_setattr : entryFor table "object.__setattr__" = some Builtin.«object.__setattr__» := entryFor_of_tree (by kernel_rfl)
theorem args_obj_setattr (a b c : Value) : argsOk "object.__setattr__" ⟨[a, b, c], []⟩ := by
  unfold argsOk; rw [signature?_of (id := "object.__setattr__") (n := ['_', '_', 'r', 't', 't', 'a', 't', 'e', 's', '_', '_']) (o := ['t', 'c', 'e', 'j', 'b', 'o']) (by kernel_rfl) owner_object']; kernel_rfl
theorem no_fun_read : typeLookup (.type "function") (Str.ofString "read") = pure none := by rw [typeLookup_type, builtinLookup_eq_fast]; kernel_rfl
theorem refuse_fun {M : Model} {A : Around} {E : Value → Shared → Prop} {s : Shared} {F : Addr} {Q : Unit → Shared → Prop} (hT : s.TypeIs (.ref F) "function") (h : Q () s) : wpAny M A (Builtin.ObjectAttr.refuseIfOverridden (.ref F) (Str.ofString "__setattr__")) Q E s := by
  unfold Builtin.ObjectAttr.refuseIfOverridden
  refine wpAny_bind (wpAny_typeOf hT ?_)
  rw [mroOf_type]
  exact wpAny_of_eq (a := ()) (by kernel_rfl) h
noncomputable def dicted (o : Obj) (D : Addr) : Obj := { o with dict := some D }
open Builtin in
theorem setattr_fun {prog : Program} {w : World} {A : Around} {E : Value → Shared → Prop} {s : Shared} {F : Addr} {o : Obj} {fd : FuncData} {v : Value} {Q : Unit → Shared → Prop} (ho : s.heap.get? F = some o) (hc : o.cls = .type "function") (hd : o.dict = none) (hdat : o.data = .func fd)
    (h : ∀ h' o' tk, h'.get? F = some (dicted o s.heap.objs.size) → h'.get? s.heap.objs.size = some o' → o' = PySem.W.dictOf [⟨PyData.keyHash w.params (Str.ofString "read"), .str (Str.ofString "read") tk, v⟩] 1 → (∀ b x, b ≠ F → s.heap.get? b = some x → h'.get? b = some x) → h'.objs.size = s.heap.objs.size + 1 → Q () { s with heap := h', toks := tk + 1 }) :
    wpAny (model prog w) A (setAttr (.ref F) (Str.ofString "read") v) Q E s := by
  have hT : s.TypeIs (.ref F) "function" := ⟨o, ho, hc⟩
  have hF := Heap.lt_size ho
  unfold setAttr
  refine wpAny_bind (wpAny_mkText ?_)
  refine wpAny_bind (wpAny_callSpecial?_slot (name := Str.ofString "__setattr__") (T := "function") ⟨o, ho, hc⟩ slot_fun_setattr (wpAny_call_entry slot_fun_setattr ⟨o, ho, hc⟩ entry_obj_setattr ?_ (args_obj_setattr _ _ _)))
  unfold «object.__setattr__»
  have hx : A.in1 = A.in1 := rfl
  refine wpAny_bind (refuse_fun ⟨o, ho, hc⟩ ?_)
  refine wpAny_bind (wpAny_of_eq (a := Str.ofString "read") rfl ?_)
  refine wpAny_bind (wpAny_typeOf (T := "function") ⟨o, ho, hc⟩ ?_)
  refine wpAny_bind (wpAny_of_eq no_fun_read ?_)
  refine wpAny_bind (wpAny_of_eq (a := none) rfl ?_)
  dsimp only
  unfold ObjectAttr.storeInOwnDict
  refine wpAny_bind (wpAny_of_eq (a := ()) (by kernel_rfl) ?_)
  rw [if_neg (by decide)]
  refine wpAny_bind ?_
  refine (?_ : wpAny _ _ (instanceDict F true) _ _ _)
  unfold instanceDict
  refine wpAny_bind (wpAny_loadPart ho ?_)
  obtain ⟨oc, od, odat, osl⟩ := o
  dsimp only at hc hd hdat ⊢
  subst hc hd hdat
  dsimp only
  have htd : typeHasDict (.type "function") = true := by unfold typeHasDict; rw [find?_eq_fast]; kernel_rfl
  rw [htd, if_neg (by decide)]
  refine wpAny_bind (wpAny_alloc ?_)
  have ho₁ : (s.heap.push { cls := .type "dict", data := .dict #[] }).get? F = some { cls := .type "function", data := .func fd, slots := osl } := Heap.get?_push_of_some _ ho
  have hD₁ : (s.heap.push { cls := .type "dict", data := .dict #[] }).get? s.heap.objs.size = some { cls := .type "dict", data := .dict #[] } := Heap.get?_push_size _ rfl
  dsimp only
  refine wpAny_bind (wpAny_update ho₁ ?_)
  dsimp only
  have ho₂ := Heap.get?_update_self (fun o : Obj => ({ cls := o.cls, dict := some s.heap.objs.size, data := o.data, slots := o.slots } : Obj)) ho₁ rfl
  have hs₂ := Heap.SameBut.update (s.heap.push { cls := .type "dict", data := .dict #[] }) F (fun o : Obj => ({ cls := o.cls, dict := some s.heap.objs.size, data := o.data, slots := o.slots } : Obj))
  have hD₂ := (hs₂.2 _ (Nat.ne_of_gt hF)).trans hD₁
  generalize (s.heap.push { cls := .type "dict", data := .dict #[] }).update F (fun o : Obj => ({ cls := o.cls, dict := some s.heap.objs.size, data := o.data, slots := o.slots } : Obj)) = h₂ at ho₂ hs₂ hD₂ ⊢
  refine wpAny_of_eq (a := some s.heap.objs.size) (by kernel_rfl) ?_
  dsimp only
  unfold ObjectAttr.storeInDict
  refine wpAny_bind (wpAny_of_eq (a := ()) rfl ?_)
  refine wpAny_bind (nsSet_at (es := []) (n := 0) hD₂ (fun _ he => nomatch he) (fun _ he => nomatch he) fun h₃ hD₃ hs₃ => ?_)
  refine wpAny_bind (wpAny_lookBehind hD₃ (by rfl) ?_)
  refine wpAny_pure ⟨_, rfl, wpAny_pure ?_⟩
  refine h h₃ _ _ ((hs₃.2 _ (Nat.ne_of_lt hF)).trans ho₂) hD₃ rfl (fun b x hb e => ?_) ?_
  · have hlt := Heap.lt_size e
    exact (hs₃.2 _ (Nat.ne_of_lt hlt)).trans ((hs₂.2 _ hb).trans (Heap.get?_push_of_some _ e))
  · rw [hs₃.1, hs₂.1, Heap.size_push]
end
section
set_option maxHeartbeats 1000000
variable {C : Cx} {lv : Nat} {sc : Scope} {cel : List (PySem.Str × Addr)} {loc : Locs} {st st' : St}
theorem slot_fun_getattribute : Slot "function" "__getattribute__" "object.__getattribute__" :=
  .of (owner := "object") (n := "__getattribute__") (by rw [typeLookup_type, builtinLookup_eq_fast]; kernel_rfl) (by decide +kernel) (by decide +kernel) (by decide +kernel)
    (by first | exact .inl (by decide +kernel) | exact .inr (by decide +kernel)) (by rw [isSubtype_type]; kernel_rfl)
theorem no_fun_getattr : typeLookup (.type "function") "__getattr__" = pure none := by rw [typeLookup_type, builtinLookup_eq_fast]; kernel_rfl
theorem entry_obj_getattribute : entryFor table "object.__getattribute__" = some Builtin.«object.__getattribute__» := entryFor_of_tree (by kernel_rfl)
theorem args_obj_getattribute (a b : Value) : argsOk "object.__getattribute__" ⟨[a, b], []⟩ := by
  unfold argsOk; rw [signature?_of (id := "object.__getattribute__") (n := ['_', '_', 'e', 't', 'u', 'b', 'i', 'r', 't', 't', 'a', 't', 'e', 'g', '_', '_']) (o := ['t', 'c', 'e', 'j', 'b', 'o']) (by kernel_rfl) owner_object']; kernel_rfl
open Builtin in
theorem getattr_fun {prog : Program} {w : World} {A : Around} {E : Value → Shared → Prop} {s : Shared} {F D : Addr} {o : Obj} {fd : FuncData} {v : Value} {m : PySem.Str → Option Value} {ex : Bool} {Q : Value → Shared → Prop} (ho : s.heap.get? F = some o) (hc : o.cls = .type "function") (hdat : o.data = .func fd) (hd : o.dict = some D)
    (hn : s.heap.Ns D m) (hv : m (Str.ofString "read") = some v) (hh : handedIn v = true) (h : Q v { s with toks := s.toks + 1 }) : wpAny (model prog w) A (getAttr (.ref F) (Str.ofString "read") ex) Q E s := by
  unfold getAttr getAttrBy
  refine wpAny_bind (wpAny_mkText (wpAny_holding (wpAny_bind (wpAny_typeOf (T := "function") ⟨o, ho, hc⟩ (wpAny_bind (wpAny_of_eq slot_fun_getattribute.lookup ?_))))))
  dsimp only
  rw [if_neg (by decide)]
  unfold getAttrByItsOwn
  refine wpAny_bind (wpAny_of_eq (a := none) rfl ?_)
  refine wpAny_bind (wpAny_attempt (wpAny_holding ?_))
  unfold callGetattribute
  rw [if_neg (by cases ex <;> decide)]
  unfold boundAndCalled
  refine wpAny_bind (wpAny_of_eq (slot_fun_getattribute.bind _) ?_)
  dsimp only
  refine wpAny_call_entry slot_fun_getattribute ⟨o, ho, hc⟩ entry_obj_getattribute ?_ (args_obj_getattribute _ _)
  unfold «object.__getattribute__»
  refine wpAny_bind (wpAny_of_eq (a := (Value.ref F, [.str (Str.ofString "read") s.toks])) rfl ?_)
  dsimp only
  refine wpAny_bind (wpAny_of_eq (a := Str.ofString "read") rfl ?_)
  refine wpAny_bind (wpAny_typeOf (T := "function") ⟨o, ho, hc⟩ ?_)
  refine wpAny_bind ?_
  unfold ObjectAttr.find
  refine wpAny_bind (wpAny_of_eq no_fun_read ?_)
  refine wpAny_bind (wpAny_of_eq (a := none) rfl ?_)
  refine wpAny_bind (wpAny_of_eq (a := none) rfl ?_)
  dsimp only
  unfold ObjectAttr.ownThenClass
  refine wpAny_bind ?_
  refine (?_ : wpAny _ _ (ObjectAttr.ownDict F >>= _) _ _ _)
  refine wpAny_bind ?_
  unfold ObjectAttr.ownDict loadHead
  refine wpAny_bind (wpAny_loadPart ho ?_)
  rw [hdat]
  dsimp only
  unfold instanceDict
  refine wpAny_bind (wpAny_loadPart ho ?_)
  rw [hc, hd]
  dsimp only
  refine wpAny_pure ?_
  refine (?_ : wpAny _ _ (nsGet D (Str.ofString "read")) _ _ _)
  refine wpAny_nsGet hn ?_
  rw [hv]
  dsimp only
  refine wpAny_bind (wpAny_rule (wpAny_pure ?_))
  dsimp only
  refine wpAny_pure ⟨_, rfl, ?_⟩
  rw [handedOut_of hh]
  exact wpAny_pure h
structure FunAt (st : St) (F D : Addr) (o : Obj) (fd : FuncData) (G : Addr) : Prop where
  hm : (F, AO.raw o) ∈ st
  hd : (D, AO.idict [(Str.ofString "read", .ref G)]) ∈ st
  c : o.cls = .type "function"
  dat : o.data = .func fd
  dict : o.dict = some D
theorem Mt.fun {F D G : Addr} {o : Obj} {fd : FuncData} (I : FunAt st F D o fd G) : Mt C (.ref F) (Str.ofString "read") st (.ref G) [] := fun P A s v pl Q E R hv k => by
  cases hv
  refine xe12 (R.at I.hm) fun o' ho hr => ?_
  cases hr
  refine xe12 (R.at I.hd) fun od hod hr => ?_
  cases hr with
  | @idict _ des ep _ h2 h3 hz h4 h5 =>
    refine xe12 (h4 (Str.ofString "read") (.ref G) rfl) fun v hv hr => ?_
    cases hr
    have hT : s.TypeIs (.ref F) "function" := ⟨o, ho, I.c⟩
    unfold getMethod
    refine wpAny_bind (wpAny_specialOf hT slot_fun_getattribute.lookup ?_)
    dsimp only
    rw [if_neg (by decide +kernel)]
    refine wpAny_bind (wpAny_specialOf hT no_fun_getattr ?_)
    rw [if_neg (by decide)]
    refine wpAny_bind (wpAny_specialOf hT no_fun_read ?_)
    dsimp only
    exact wpAny_bind (getattr_fun ho I.c I.dat I.dict ⟨od, des, ep, hod, h2, h3, fun _ => rfl⟩ hv rfl (wpAny_pure (k [] _ .nil)))
theorem Ev.methF {o : Expr} {name : PySem.Str} {apos p : Pos} {es : List Expr} {Post : AV → St → Prop} (hsup : noSuper o) (hpl : es.all plainE = true) (hn : decide (es.length < 29) = true) (hline : (apos.endLine == p.line) = true)
    (h : Ev C lv sc cel loc o st fun ov st₀ => ∃ f, Mt C ov name st₀ f [] ∧ Evs C lv sc cel loc es st₀ fun xs st₁ => KeepF C st₁ f ∧ Cl C lv f xs [] st₁ Post) :
    Ev C lv sc cel loc (.Call (.Attribute o name apos) es [] p) st Post :=
  Ev.meth hsup hpl rfl (by simpa using of_decide_eq_true hn) hline (Ev.mono h fun ov s hq => xe12 hq fun f h1 h2 => ⟨f, [], h1, h2⟩)
theorem KeepF.fun {F : Addr} {o : Obj} {fd : FuncData} (hm : (F, AO.raw o) ∈ st) (hd : o.data = .func fd) : KeepF C st (.ref F) := fun M P h R => by
  refine xe12 (R.at hm) fun o' ho hr => ?_
  cases hr
  obtain ⟨oc, od, odat, osl⟩ := o
  dsimp only at hd
  subst hd
  exact keeps_F h ⟨oc, od, fd, osl, ho⟩
theorem Ex1.setattrF {o value : Expr} {p p' : Pos} {Post : Fl → Locs → St → Prop} (hsw : ∀ env, env.scope = sc → swapsWith value (some (.Attribute o (Str.ofString "read") p')) p.line env = pure false)
    (h : Ev C lv sc cel loc value st fun y st₁ => Ev C lv sc cel loc o st₁ fun ov st₂ => ∃ F fo fd G, y = .ref G ∧ ov = .ref F ∧ (F, AO.raw fo) ∈ st₂ ∧ fo.cls = .type "function" ∧ fo.dict = Option.none ∧ fo.data = .func fd ∧
      ∀ D st₃, Upd st₂ F (.raw fo) (.raw (dicted fo D)) st₃ → Post .next loc ((D, .idict [(Str.ofString "read", .ref G)]) :: st₃)) :
    Ex1 C lv sc cel loc (.Assign [.Attribute o (Str.ofString "read") p'] value p) st Post := fun P A env s Q E a en R F k => by
  refine plainObj_wpAny_Assign_Attribute (h P A env s _ E a en R F fun P₁ y v st₁ h₁ k₁ hy S₁ R₁ hv => ?_) (hsw env en.scope)
  refine hy P₁ A env _ _ E a en R₁ (F.step S₁) fun P₂ ov w st₂ h₂ k₂ hx S₂ R₂ hw => ?_
  refine xe47 hx fun F' fo fd G qe0 qe1 hm hc hdn hdat hp => ?_; clear hx; subst qe0; subst qe1
  cases hw
  cases hv
  refine xe12 (R₂.at hm) fun o' ho hr => ?_
  cases hr
  refine setattr_fun ho hc hdn hdat fun h' o' tk g1 g2 g3 g4 g5 => ?_
  refine xe11 (Upd.of_mem hm (.raw (dicted fo h₂.objs.size))) fun st₃ u => ?_
  refine xe02 (R₂.grow u (fun b x hb e => g4 b x hb e) g1 .raw) fun R₃ S₃ => ?_
  have hnew : h₂.get? h₂.objs.size = Option.none := none_ge (Nat.le_refl _)
  have hPn : P₂ h₂.objs.size = Option.none := by
    cases e : P₂ h₂.objs.size with
    | none => rfl
    | some o => have := R₂.keep _ _ e; rw [hnew] at this; cases this
  have hst : h₂.objs.size ∉ adr st₃ := by
    rw [u.adr]
    intro hmm
    refine xe12 (List.mem_map.mp hmm) fun y hy e => ?_
    obtain ⟨_, o, ho, _⟩ := R₂.own y hy
    rw [e, hnew] at ho; cases ho
  have hrep : ORep C P₂ (.idict [(Str.ofString "read", .ref G)]) o' := by
    subst g3
    refine .idict (des := #[⟨PyData.keyHash C.w.params (Str.ofString "read"), .str (Str.ofString "read") tk, .ref G⟩]) (ep := 1) rfl (fun e he => ?_) (by simp) (fun x y e => ?_) fun x e => ?_
    · simp at he; subst he; exact ⟨_, _, rfl⟩
    · rw [List.lookup_cons] at e
      by_cases q : x = Str.ofString "read"
      · subst q
        simp at e; subst e
        exact ⟨.ref G, by kernel_rfl, .ref⟩
      · have : (x == Str.ofString "read") = false := beq_eq_false_iff_ne.mpr q
        rw [this] at e; cases e
    · rw [List.lookup_cons] at e
      by_cases q : x = Str.ofString "read"
      · subst q; simp at e
      · unfold nsFind findBy
        have : (Value.str (Str.ofString "read") tk).isStr x = false := by
          refine (?_ : (Str.ofString "read" == x) = false)
          exact beq_eq_false_iff_ne.mpr fun z => q z.symm
        simp [this]
  have R₄ : Rp C P₂ ((h₂.objs.size, .idict [(Str.ofString "read", .ref G)]) :: st₃) h' := by
    refine ⟨R₃.base, R₃.keep, List.nodup_cons.mpr ⟨hst, R₃.nd⟩, fun x hx => ?_, ⟨fun hmm => ?_, R₃.one.2⟩⟩
    · rcases List.mem_cons.mp hx with rfl | hx
      · exact ⟨hPn, o', g2, hrep⟩
      · exact R₃.own x hx
    · rcases List.mem_cons.mp hmm with e | e
      · exact Nat.ne_of_lt R₂.big e
      · exact R₃.one.1 e
  have S₄ : Step P₂ P₂ st₂ ((h₂.objs.size, .idict [(Str.ofString "read", .ref G)]) :: st₃) h₂ h' := ⟨S₃.p, S₃.p', fun b hb => by
    rcases List.mem_cons.mp hb with rfl | hb
    · exact .inr hnew
    · exact S₃.sb b hb, S₃.keep⟩
  have S₀ := (S₁.trans S₂).trans S₄
  exact k P₂ .next .next loc _ h' _ (hp _ _ u) (S₀.toX _) R₄ (F.step S₀) .next
end
section
set_option maxHeartbeats 1000000
open PySem.Calls
variable {C : Cx} {lv : Nat} {sc : Scope} {cel : List (PySem.Str × Addr)} {loc : Locs} {st st' : St}
theorem Ev.bound {o : Expr} {name : PySem.Str} {p : Pos} {Post : AV → St → Prop} (hsup : noSuper o) (G : Gd C)
    (h : Ev C lv sc cel loc o st fun ov st₁ => ∃ x dx Cc es f, ov = .ref x ∧ OI st₁ x dx Cc es ∧ es.lookup name = Option.none ∧ hasDictIn C.K Cc = true ∧ findIn C.K (.ref Cc) name = some (some (.ref f)) ∧ isFn C.K (.ref f) = true ∧
      specialIn C.K (.ref f) "__get__" = some (some (.builtin "function.__get__")) ∧ takesIn C.K (.ref f) = some false ∧ copiedNames.contains name = false ∧
      findIn C.K (.ref Cc) "__getattribute__" = some (some (.builtin "object.__getattribute__")) ∧ findIn C.K (.ref Cc) "__getattr__" = some Option.none ∧ ∀ M, Post (.ref M) ((M, .raw (methodObj (.ref f) (.ref x))) :: st₁)) :
    Ev C lv sc cel loc (.Attribute o name p) st Post := fun P A env s Q E a en R F k => by
  rw [arm_eval_Attribute, attributeBase_of hsup]
  refine wpAny_bind (h P A env s _ E a en R F fun P₁ ov v st₁ h₁ k₁ hx S₁ R₁ hv => wpAny_bind (wpAny_standAt ?_))
  refine xe512 hx fun x dx Cc es f qe0 I hy hh ha hf hgf ht hcn hga hgn hp => ?_; clear hx; subst qe0
  cases hv
  refine xe37 (I.at R₁) fun od des ep I' hod hdat hsk hsz hget hmiss => ?_
  have X : C.K.In h₁ := G.kin.keeps R₁.h0
  have hl : lookIn name od = some Option.none := by rw [lookIn_ns hdat hsk, hmiss _ hy]
  refine xe02 (R₁.push (x := .raw (methodObj (.ref f) (.ref x))) (o := methodObj (.ref f) (.ref x)) .raw rfl) fun R₂ S₂ => ?_
  refine wpAny_bind (wpAny_holding (get_bind (K := C.K) X I' hga (findObj_fn hh ha hgf ht hcn hl) hgn ?_))
  refine wpAny_call (fn_get X (beq_iff_eq.mp hf) ?_)
  refine (?_ : wpAny _ _ (handedOut _) _ _ _)
  refine wpAny_pure ?_
  exact wpAny_bind (wpAny_letTemporaryGo (wpAny_pure (k P₁ (.ref _) _ _ _ _ (hp _) (S₁.trans S₂) R₂ .ref)))
noncomputable def citObj (f sen : Value) : Obj := { cls := .type "callable_iterator", data := .fields #[f, sen, .bool false] }
noncomputable def citEnd : Obj := { cls := .type "callable_iterator", data := .fields #[.none, .none, .bool true] }
theorem args_iter2 (a b : Value) : argsOk "iter" ⟨[a, b], []⟩ := by unfold argsOk; kernel_rfl
theorem slot_method_call : typeLookup (.type "method") "__call__" = pure (some (.builtin "method.__call__")) := by rw [typeLookup_type, builtinLookup_eq_fast]; kernel_rfl
open Builtin in
theorem call_iter2 {prog : Program} {w : World} {A : Around} {E : Value → Shared → Prop} {s : Shared} {M : Addr} {o : Obj} {sen : Value} {Q : Value → Shared → Prop} (ho : s.heap.get? M = some o) (hc : o.cls = .type "method")
    (h : Q (.ref s.heap.objs.size) { s with heap := s.heap.push (citObj (.ref M) sen) }) : wpAny (model prog w) A (call (.builtin "iter") [.ref M, sen]) Q E s := by
  refine call_function_entry (by decide +kernel) (by decide +kernel) kdk_entry_iter (args_iter2 _ _) ?_
  unfold «iter»
  refine wpAny_bind (m := someArgs "iter" 1 2 _) (wpAny_of_eq (a := [Value.ref M, sen]) (by first | rfl | kernel_rfl!) ?_)
  dsimp only
  refine wpAny_bind (wpAny_specialOf (T := "method") ⟨o, ho, hc⟩ slot_method_call ?_)
  rw [if_neg (by simp)]
  refine wpAny_bind (wpAny_rule (wpAny_bind (wpAny_newObj_type (wpAny_pure ⟨_, rfl, h⟩))))
theorem Cl.iter2 {M : Addr} {o : Obj} {x : PySem.Str} {Post : AV → St → Prop} (hm : (M, AO.raw o) ∈ st) (hc : o.cls = .type "method") (h : ∀ I t, Post (.ref I) ((I, .raw (citObj (.ref M) (.str x t))) :: st)) : Cl C lv (.builtin "iter") [.ref M, .str x] [] st Post := fun P A s vs kvs Q E a R hv hk k => by
  obtain rfl := hk.nil_inv
  · refine xe23 hv.two fun v1 v2 qe0 h1 h2 => ?_; subst qe0
    cases h1
    cases h2
    rename_i t
    refine xe12 (R.at hm) fun o' ho hr => ?_
    cases hr
    refine xe02 (R.push (x := .raw (citObj (.ref M) (.str x t))) (o := citObj (.ref M) (.str x t)) .raw rfl) fun R₂ S₂ => ?_
    exact call_iter2 ho hc (k P (.ref _) _ _ _ _ (h _ t) S₂ R₂ .ref)

theorem wpAny_callBorrowed {M : Model} {A : Around} {E : Value → Shared → Prop} {s : Shared} {f : Value} {pos : List Value} {Q : Value → Shared → Prop}
    (hc : codeAny M A (.call f ⟨pos, []⟩) (fun r s' => match r with | .ok (.ret v) => Q v s' | .ok _ => False | .error e => E e s') s) : wpAny M A (callBorrowed f pos) Q E s := fun Γ p hΓ => by
  refine xe22 (hc _ p rfl (hΓ.enter (.call f ⟨pos, []⟩) Option.none p (by intro x; cases x))) fun r s' h1 h2 => ?_
  refine ⟨r, s', h1, ?_⟩
  cases r with
  | error e => exact h2
  | ok fl => cases fl <;> first | exact h2.elim | exact h2
theorem slot_cit_next : Slot "callable_iterator" "__next__" "callable_iterator.__next__" :=
  .of (owner := "callable_iterator") (n := "__next__") (by rw [typeLookup_type, builtinLookup_eq_fast]; kernel_rfl) (by decide +kernel) (by decide +kernel) (by decide +kernel)
    (by first | exact .inl (by decide +kernel) | exact .inr (by decide +kernel)) (by rw [isSubtype_type]; kernel_rfl)
theorem owner_cit : Manifest.owners.lookup (String.ofList ['r', 'o', 't', 'a', 'r', 'e', 't', 'i', '_', 'e', 'l', 'b', 'a', 'l', 'l', 'a', 'c'].reverse) = some Manifest.sig_callable_iterator := by kernel_rfl
theorem entry_cit_next : entryFor table "callable_iterator.__next__" = some Builtin.«callable_iterator.__next__» := entryFor_of_tree (by kernel_rfl)
theorem args_cit_next (a : Value) : argsOk "callable_iterator.__next__" ⟨[a], []⟩ := by
  unfold argsOk; rw [signature?_of (id := "callable_iterator.__next__") (n := ['_', '_', 't', 'x', 'e', 'n', '_', '_']) (o := ['r', 'o', 't', 'a', 'r', 'e', 't', 'i', '_', 'e', 'l', 'b', 'a', 'l', 'l', 'a', 'c']) (by kernel_rfl) owner_cit]; kernel_rfl
theorem slot_cit_iter : Slot "callable_iterator" "__iter__" "callable_iterator.__iter__" :=
  .of (owner := "callable_iterator") (n := "__iter__") (by rw [typeLookup_type, builtinLookup_eq_fast]; kernel_rfl) (by decide +kernel) (by decide +kernel) (by decide +kernel)
    (by first | exact .inl (by decide +kernel) | exact .inr (by decide +kernel)) (by rw [isSubtype_type]; kernel_rfl)
theorem entry_cit_iter : entryFor table "callable_iterator.__iter__" = some Builtin.«dict_keyiterator.__iter__» :=
  entryFor_alias (id' := "dict_keyiterator.__iter__") (by kernel_rfl) rfl (by decide +kernel) (by kernel_rfl)
theorem args_cit_iter (a : Value) : argsOk "callable_iterator.__iter__" ⟨[a], []⟩ := by
  unfold argsOk; rw [signature?_of (id := "callable_iterator.__iter__") (n := ['_', '_', 'r', 'e', 't', 'i', '_', '_']) (o := ['r', 'o', 't', 'a', 'r', 'e', 't', 'i', '_', 'e', 'l', 'b', 'a', 'l', 'l', 'a', 'c']) (by kernel_rfl) owner_cit]; kernel_rfl
theorem cit_self {prog : Program} {w : World} {A : Around} {E : Value → Shared → Prop} {s : Shared} {I : Addr} {Q : Value → Shared → Prop} (hT : s.TypeIs (.ref I) "callable_iterator") (h : Q (.ref I) s) : wpAny (model prog w) A (pyIter (.ref I)) Q E s := by
  refine wpAny_pyIter_slot hT slot_cit_iter (wpAny_call_entry slot_cit_iter hT entry_cit_iter ?_ (args_cit_iter _))
  refine wpAny_mono (Q := fun fin s' => fin = .done (.ret (.ref I)) ∧ s' = s) (E := fun _ _ => False) ?_ (fun fin s' hq => xe02 hq fun e1 e2 => ?_) (fun _ _ e => e.elim)
  · exact wpAny_pure ⟨rfl, rfl⟩
  · subst e1 e2
    exact ⟨_, rfl, "callable_iterator", _, hT, slot_cit_next.lookup, h⟩
theorem borrows_meth {M : Model} {A : Around} {E : Value → Shared → Prop} {s : Shared} {m f : Addr} {x : Value} {of : Obj} {fd : FuncData} {Q : Bool → Shared → Prop} (hm : s.heap.get? m = some (methodObj (.ref f) x)) (hf : s.heap.get? f = some of) (hd : of.data = .func fd) (h : Q true s) : wpAny M A (borrowsExactly (.ref m)) Q E s := by
  unfold borrowsExactly
  refine wpAny_bind (wpAny_load hm ?_)
  dsimp only
  rw [if_pos (by decide)]
  refine wpAny_bind (wpAny_load hf ?_)
  rw [hd]
  exact wpAny_pure h
open Builtin Builtin.SmallTypes in
theorem cit_next {prog : Program} {w : World} {A : Around} {E : Value → Shared → Prop} {s : Shared} {I m f : Addr} {x : Value} {sen : PySem.Str} {t : Tok} {of : Obj} {fd : FuncData} {Q : Option Value → Shared → Prop} (hh : A.handled = Option.none) (hI : s.heap.get? I = some (citObj (.ref m) (.str sen t)))
    (hm : s.heap.get? m = some (methodObj (.ref f) x)) (hf : s.heap.get? f = some of) (hd : of.data = .func fd)
    (hc : codeAny (model prog w) A.in1 (.call (.ref f) ⟨[x], []⟩) (fun r s' => match r with
      | .ok (.ret v) => ∃ c u, v = .str c u ∧ s'.heap.get? I = some (citObj (.ref m) (.str sen t)) ∧ s'.heap.get? m = some (methodObj (.ref f) x) ∧ s'.heap.get? f = some of ∧
          (c ≠ sen → Q (some v) s') ∧ (c = sen → ∀ h', h'.get? I = some citEnd → (∀ b o, b ≠ I → s'.heap.get? b = some o → h'.get? b = some o) → Q Option.none { s' with heap := h' })
      | _ => False) s) : wpAny (model prog w) A (pyNext (.ref I)) Q E s := by
  have hT : s.TypeIs (.ref I) "callable_iterator" := ⟨_, hI, rfl⟩
  unfold pyNext
  refine wpAny_bind (wpAny_attempt (wpAny_callSpecial?_slot (name := Str.ofString "__next__") hT slot_cit_next (wpAny_call_entry slot_cit_next hT entry_cit_next ?_ (args_cit_next _))))
  unfold «callable_iterator.__next__»
  refine wpAny_bind (wpAny_of_eq (a := (Value.ref I, [])) rfl ?_)
  dsimp only
  refine wpAny_bind (wpAny_field hI rfl (x := .bool false) rfl ?_)
  rw [if_neg (by decide)]
  refine wpAny_bind (wpAny_field hI rfl (x := .ref m) rfl ?_)
  refine wpAny_bind (wpAny_attempt ?_)
  unfold callOutOfASlot
  refine wpAny_bind (borrows_meth hm hf hd ?_)
  rw [if_pos rfl]
  refine wpAny_callBorrowed (ks_codeAny_call_bound hm (codeAny_mono hc fun r s' hr => ?_))
  match r, hr with
  | .ok (.ret v), hr =>
    refine xe26 hr fun c u qe0 hI' hm' hf' hq1 hq2 => ?_; clear hr; subst qe0
    dsimp only
    refine wpAny_bind (wpAny_field hI' rfl (x := .bool false) rfl ?_)
    rw [if_neg (by decide)]
    refine wpAny_bind (wpAny_field hI' rfl (x := .str sen t) rfl ?_)
    refine wpAny_bind (wpAny_holding (wpAny_eqBool_str ?_))
    by_cases e : sen = c
    · rw [decide_eq_true e, if_neg (by decide)]
      refine wpAny_bind (wpAny_rule (wpAny_bind ?_))
      refine (?_ : wpAny _ _ (field (.ref I) 0 >>= _) _ _ _)
      refine wpAny_bind (wpAny_field hI' rfl (x := .ref m) rfl ?_)
      refine (?_ : wpAny _ _ (slotLetsGo _ (.ref m) _ >>= _) _ _ _)
      refine wpAny_bind ?_
      unfold slotLetsGo
      refine wpAny_bind (borrows_meth hm' hf' hd ?_)
      rw [if_pos rfl]
      refine wpAny_pure ?_
      refine (?_ : wpAny _ _ (setField (.ref I) 0 .none >>= _) _ _ _)
      refine wpAny_bind (wpAny_setField_rec hI' (by simp) fun h₁ hI₁ hs₁ => ?_)
      refine (?_ : wpAny _ _ (setField (.ref I) 1 .none >>= _) _ _ _)
      refine wpAny_bind (wpAny_setField_rec hI₁ (by simp) fun h₂ hI₂ hs₂ => ?_)
      refine (?_ : wpAny _ _ (setField (.ref I) 2 (.bool true)) _ _ _)
      refine wpAny_setField_rec hI₂ (by simp) fun h₃ hI₃ hs₃ => ?_
      refine (?_ : wpAny _ _ (newExc (.type "StopIteration") [] >>= _) _ _ _)
      refine wpAny_bind ?_
      simp only [newExc, newTuple]
      refine wpAny_bind (wpAny_newObj_type ?_ (by size_fits))
      refine wpAny_bind (m := firstArgMember _ _) (wpAny_of_eq (a := Value.none) (by first | rfl | (simp only [firstArgMember]; rfl)) ?_)
      refine wpAny_newObj_type ?_ (by size_fits)
      simp only [raiseNew]
      refine wpAny_bind (wpAny_handled ?_)
      rw [show A.in1.handled = Option.none from hh]
      refine wpAny_bind (wpAny_pure (wpAny_throw ?_))
      refine wpAny_bind (wpAny_isInstance (T := "StopIteration") (b := true) ⟨_, Heap.get?_push_size _ rfl, rfl⟩ isSubtype_stop ?_)
      have hE : ∀ b o, b ≠ I → s'.heap.get? b = some o → h₃.get? b = some o := fun b o hb eo => (hs₃.2 b hb).trans ((hs₂.2 b hb).trans ((hs₁.2 b hb).trans eo))
      refine wpAny_pure (hq2 e.symm _ (Heap.get?_push_of_some _ (Heap.get?_push_of_some _ ?_)) fun b o hb eo => Heap.get?_push_of_some _ (Heap.get?_push_of_some _ (hE b o hb eo)))
      exact hI₃
    · rw [decide_eq_false e, if_pos (by decide)]
      exact wpAny_pure ⟨_, rfl, wpAny_pure (hq1 (Ne.symm e))⟩
noncomputable def Nx (C : Cx) (lv : Nat) (I : Addr) (st : St) (Post : Option AV → St → Prop) : Prop :=
  ∀ (P : PM) (A : Around) (s : Shared) (Q : Option Value → Shared → Prop) (E : Value → Shared → Prop), AOk lv A → Rp C P st s.heap →
    (∀ P' r v st' h' k, Post r st' → Step P P' st st' s.heap h' → Rp C P' st' h' → (match r, v with | some y, some u => VRep C P' y u | Option.none, Option.none => True | _, _ => False) → Q v { s with heap := h', toks := k }) →
    wpAny (model C.prog C.w) A (pyNext (.ref I)) Q E s
theorem Nx.cit {I m x f : Addr} {sen : PySem.Str} {t : Tok} {fd : FuncData} {oc : Value} {od : Option Addr} {osl : Array (Option Value)} {Post : Option AV → St → Prop} (G : Gd C) (ho : C.K.lookup f = some ⟨oc, od, .func fd, osl⟩) (hI : (I, AO.raw (citObj (.ref m) (.str sen t))) ∈ st) (hm : (m, AO.raw (methodObj (.ref f) (.ref x))) ∈ st)
    (h : Fn C lv (.ref f) [.ref x] [] st fun y s => ∃ c, y = .str c ∧ (I, AO.raw (citObj (.ref m) (.str sen t))) ∈ s ∧ (m, AO.raw (methodObj (.ref f) (.ref x))) ∈ s ∧
      (c ≠ sen → Post (some (.str c)) s) ∧ (c = sen → ∀ s', Upd s I (.raw (citObj (.ref m) (.str sen t))) (.raw citEnd) s' → Post Option.none s')) : Nx C (lv + 1) I st Post := fun P A s Q E a R k => by
  refine xe12 (R.at hI) fun oI hoI hr => ?_
  cases hr
  refine xe12 (R.at hm) fun om hom hr => ?_
  cases hr
  have hof := R.h0 f _ (G.kin f _ ho)
  have a1 : AOk lv A.in1 := ⟨a.handled, by have := a.depth; refine (?_ : A.depth + 10 * lv ≤ 900); omega, by have := a.units; refine (?_ : A.units + 1 + 50 * lv ≤ 9000); omega⟩
  refine cit_next a.handled hoI hom hof rfl (h P A.in1 s [.ref x] [] _ a1 R (.cons .ref .nil) .nil fun P' y v st' h' tk hy S R' hv => ?_)
  refine xe15 hy fun c qe0 hI' hm' h1 h2 => ?_; clear hy; subst qe0
  cases hv with
  | @str _ u =>
    refine xe12 (R'.at hI') fun oI' hoI' hr => ?_
    cases hr
    refine xe12 (R'.at hm') fun om' hom' hr => ?_
    cases hr
    refine ⟨c, u, rfl, hoI', hom', R'.h0 f _ (G.kin f _ ho), fun e => k P' (some (.str c)) _ st' h' tk (h1 e) S R' .str, fun e h'' g1 g2 => ?_⟩
    refine xe11 (Upd.of_mem hI' (.raw citEnd)) fun s' u' => ?_
    refine xe02 (R'.grow u' (fun b o hb eo => g2 b o hb eo) g1 .raw) fun R'' S'' => ?_
    exact k P' Option.none Option.none s' h'' tk (h2 e s' u') (S.trans S'') R'' trivial
theorem Ex1.loopC {x : PySem.Str} {px p : Pos} {iter : Expr} {body : List Stmt} {Post : Fl → Locs → St → Prop} (hfs : ∀ env y, foldedSetIterable iter env y = pure y)
    (h : Ev C lv sc cel loc iter st fun y st₁ => ∃ I, y = .ref I ∧ (∃ o, (I, AO.raw o) ∈ st₁ ∧ o.cls = .type "callable_iterator") ∧ ∃ Inv : Nat → Locs → St → Prop, ∃ n₀, Inv n₀ loc st₁ ∧
      ∀ n loc' st', Inv n loc' st' → Nx C lv I st' fun r st₂ => match r with
        | Option.none => Post .next loc' st₂
        | some y => (∃ o, (I, AO.raw o) ∈ st₂ ∧ o.cls = .type "callable_iterator") ∧ Bd C sc cel loc' x y st₂ fun loc₃ st₃ => Ex C lv sc cel loc₃ body st₃ (lessP Inv Post n)) : Ex1 C lv sc cel loc (.For (.Name x px) iter body [] p) st Post := fun P A env s Q E a en R F k => by
  refine wpAny_For (h P A env s _ E a en R F fun P₁ y v st₁ h₁ k₁ hx S₁ R₁ hv => ?_) (hfs env)
  obtain ⟨I, rfl, ⟨oI, hmI, hcI⟩, Inv, n₀, hi0, hturn⟩ := hx
  cases hv
  have F₁ := F.step S₁
  refine xe12 (R₁.at hmI) fun o' ho' hr' => ?_
  cases hr'
  refine cit_self ⟨oI, ho', hcI⟩ ?_
  refine codeAny_forLoop_any (fun n s' => ∃ P' loc' st' h' tk, s' = { s with heap := h', toks := tk } ∧ Inv n loc' st' ∧ Rp C P' st' h' ∧ FRp C P' loc' env st' h' ∧ StepX env.locals P P' st st' s.heap h') ?_ n₀ ⟨P₁, loc, st₁, h₁, k₁, rfl, hi0, R₁, F₁, S₁.toX _⟩
  rintro n s' ⟨P', loc', st', h', tk, rfl, hI, R', F', S'⟩
  refine hturn n loc' st' hI P' A _ _ _ a R' fun P₂ r v st₂ h₂ k₂ hr S₂ R₂ hv => ?_
  have F₂ := F'.step S₂
  have S₀₂ := S'.trans F'.lives (S₂.toX env.locals)
  match r, v, hv, hr with
  | Option.none, Option.none, _, hr => exact wpAny_execs_nil (k P₂ .next .next loc' st₂ h₂ k₂ hr S₀₂ R₂ F₂ .next)
  | some y, some u, hv, ⟨⟨o₂, hm₂, hc₂⟩, hb⟩ =>
    refine xe12 (R₂.at hm₂) fun o₃ ho₃ hr₃ => ?_
    cases hr₃
    refine letGo_of ⟨o₂, "callable_iterator", ho₃, hc₂, by decide +kernel⟩ (wpAny_assign_Name (hb P₂ A env _ _ _ _ en R₂ F₂ hv fun loc₄ st₄ h₄ k₄ hbd S₄ R₄ F₄ => ?_))
    have S₀₄ := S₀₂.trans F₂.lives S₄
    refine hbd P₂ A env _ _ _ a en R₄ F₄ fun P₅ f fl loc₅ st₅ h₅ k₅ hf S₅ R₅ F₅ hfl => ?_
    have S₀₅ := S₀₄.trans F₄.lives S₅
    cases hfl with
    | next => refine xe12 hf fun m hm hq => ?_; clear hf; exact ⟨m, hm, P₅, loc₅, st₅, h₅, k₅, rfl, hq, R₅, F₅, S₀₅⟩
    | cont => refine xe12 hf fun m hm hq => ?_; clear hf; exact ⟨m, hm, P₅, loc₅, st₅, h₅, k₅, rfl, hq, R₅, F₅, S₀₅⟩
    | brk => exact k P₅ .next .next loc₅ st₅ h₅ k₅ hf S₀₅ R₅ F₅ .next
    | ret hv => exact k P₅ _ _ loc₅ st₅ h₅ k₅ hf S₀₅ R₅ F₅ (.ret hv)
end
section
variable {C : Cx} {lv : Nat} {sc : Scope} {cel : List (PySem.Str × Addr)} {loc : Locs} {st : St}
set_option pp.deepTerms false
set_option pp.maxSteps 2000
structure LxA where
  (x dx AT PB S sd F cF ca ct : Addr)
  (so fo oc : Obj)
  text : PySem.Str
noncomputable def lxL (a : LxA) (es : List (PySem.Str × AV)) (p : Nat) (q : List PySem.Str) : St :=
  [(a.dx, .idict es), (a.AT, .list [.int p]), (a.PB, .list (sL q)), (a.x, .raw (instObj 111 a.dx)), (a.S, .raw (dicted a.so a.sd)), (a.sd, .idict [(Str.ofString "read", .ref a.F)]),
   (a.F, .raw a.fo), (a.cF, .raw a.oc), (a.ca, .cell (some (.ref a.AT))), (a.ct, .cell (some (.str a.text)))]
noncomputable def lxS (a : LxA) (es : List (PySem.Str × AV)) (p : Nat) (q : List PySem.Str) (rest : St) : St := lxL a es p q ++ rest
noncomputable def sgAt (x : PySem.Str) (p : Nat) : PySem.Str := match x.cps.toList[p]? with | some c => ⟨#[c]⟩ | none => Str.ofString ""
structure RdOk (C : Cx) (a : LxA) : Prop where
  sc : a.so.cls = .type "function"
  sd : ∃ fd, a.so.data = .func fd
  fd : ∃ fd, a.fo.data = .func fd
  rd : ∀ lv es p q rest, p ≤ a.text.length → Fn C (lv + 1) (.ref a.F) [.int 1] [] (lxS a es p q rest) fun y s => y = .str (sgAt a.text p) ∧ s = lxS a es (min (p + 1) a.text.length) q rest
  len : a.text.length ≤ 500
structure EsOk (a : LxA) (es : List (PySem.Str × AV)) (n : Int) (ws : PySem.Str) (p : Nat) : Prop where
  ln : es.lookup (Str.ofString "lineno") = some (.int n)
  st : es.lookup (Str.ofString "instream") = some (.ref a.S)
  ws : es.lookup (Str.ofString "whitespace") = some (.str ws)
  pb : es.lookup (Str.ofString "pushback") = some (.ref a.PB)
  m1 : es.lookup (Str.ofString "_read_char") = none
  m2 : es.lookup (Str.ofString "get_token") = none
  m3 : es.lookup (Str.ofString "push_token") = none
  len : es.length ≤ 10 + p
theorem EsOk.lx {a : LxA} {es : List (PySem.Str × AV)} {p : Nat} {q : List PySem.Str} {rest : St} : OI (lxS a es p q rest) a.x a.dx 111 es := ⟨.tail _ (.tail _ (.tail _ (.head _))), .head _⟩
theorem lx_attr (G : Pg C) {a : LxA} {es : List (PySem.Str × AV)} (I : OI st a.x a.dx 111 es) {name : PySem.Str} {y : AV} {e : Expr} {p : Pos} {Post : AV → St → Prop} (hsup : noSuper e) (hy : es.lookup name = some y) (hh : handedA y = true)
    (hf : findIn (KF C.w.params) (.ref 111) name = some Option.none) (h : Ev C lv sc cel loc e st fun o s => o = .ref a.x ∧ s = st ∧ Post y st) : Ev C lv sc cel loc (.Attribute e name p) st Post := by
  refine Ev.attr hsup G.gd (Ev.mono h fun o s hq => xe03 hq fun e1 e2 hp => ?_)
  subst e1 e2
  exact ⟨a.x, a.dx, 111, es, y, _, rfl, I, hy, hh, by rw [G.k]; rfl, rfl, by rw [G.k]; exact hf, by rw [G.k]; rfl, hp⟩
theorem lx_set (G : Pg C) {name : PySem.Str} (ht : takerIn (KF C.w.params) 111 name = some Option.none) : SetOk C.K 111 name := by
  rw [G.k]
  exact ⟨rfl, rfl, ht, _, rfl, rfl⟩
theorem fun_at {a : LxA} (R : RdOk C a) {es : List (PySem.Str × AV)} {p : Nat} {q : List PySem.Str} {rest : St} : ∃ fd, FunAt (lxS a es p q rest) a.S a.sd (dicted a.so a.sd) fd a.F := by
  refine xe11 R.sd fun fd hfd => ?_
  exact ⟨fd, .tail _ (.tail _ (.tail _ (.tail _ (.head _)))), .tail _ (.tail _ (.tail _ (.tail _ (.tail _ (.head _))))), R.sc, hfd, rfl⟩
theorem lx_F {a : LxA} {es : List (PySem.Str × AV)} {p : Nat} {q : List PySem.Str} {rest : St} : (a.F, AO.raw a.fo) ∈ lxS a es p q rest := .tail _ (.tail _ (.tail _ (.tail _ (.tail _ (.tail _ (.head _))))))
theorem sgAt_lt {x : PySem.Str} {p : Nat} (h : sgAt x p ≠ Str.ofString "") : p < x.length := by
  unfold sgAt at h
  cases q : x.cps.toList[p]? with
  | none => rw [q] at h; exact absurd rfl h
  | some c => have := (List.getElem?_eq_some_iff.mp q).1; simpa [PySem.Str.length] using this
theorem EsOk.up {a : LxA} {es : List (PySem.Str × AV)} {n : Int} {ws : PySem.Str} {p p' : Nat} (H : EsOk a es n ws p) (h : p ≤ p') : EsOk a es n ws p' := ⟨H.ln, H.st, H.ws, H.pb, H.m1, H.m2, H.m3, by have := H.len; lia⟩
theorem look_ne {k j : PySem.Str} {v : AV} {es : List (PySem.Str × AV)} (h : (k == j) = false) : ((j, v) :: es).lookup k = es.lookup k := by rw [List.lookup_cons, h]
theorem EsOk.line {a : LxA} {es : List (PySem.Str × AV)} {n m : Int} {ws : PySem.Str} {p : Nat} (H : EsOk a es n ws p) : EsOk a ((Str.ofString "lineno", .int m) :: es) m ws (p + 1) :=
  ⟨rfl, (look_ne rfl).trans H.st, (look_ne rfl).trans H.ws, (look_ne rfl).trans H.pb, (look_ne rfl).trans H.m1, (look_ne rfl).trans H.m2, (look_ne rfl).trans H.m3, by have := H.len; simp; lia⟩
noncomputable def nlN (c : PySem.Str) : Int := if c = Str.ofString "\n" then 1 else 0
theorem rc_fn (G : Pg C) {a : LxA} (R : RdOk C a) {es : List (PySem.Str × AV)} {n : Int} {ws : PySem.Str} {p : Nat} {q : List PySem.Str} {rest : St} (H : EsOk a es n ws p) (hp : p ≤ a.text.length) :
    Fn C (lv + 2) (.ref 94) [.ref a.x] [] (lxS a es p q rest) fun y s => y = .str (sgAt a.text p) ∧ ∃ es', s = lxS a es' (min (p + 1) a.text.length) q rest ∧ EsOk a es' (n + nlN (sgAt a.text p)) ws (min (p + 1) a.text.length) := by
  refine' Pg.fn0 G [Str.ofString "self"] [(Str.ofString "self", .ref a.x)] ?ho ?hcd ?hb ?hclo ?hgl ?hbu ?hco ?hgen ?hk ?hok ?hbind ?hloc ?hcn ?hcx _ ?hsc ?h
  walk_at "fn"
  case hbind => exact len1 fun _ => rfl
  walk_at "go"
  walk_at "go"
  refine Ev.methF (fun _ _ _ => rfl) rfl rfl rfl ?_
  refine lx_attr G EsOk.lx (fun _ _ _ => rfl) H.st rfl rfl ?_
  walk_at "go"
  refine ⟨rfl, rfl, ?_⟩
  refine xe11 (fun_at R (es := es) (p := p) (q := q) (rest := rest)) fun fd hfa => ?_
  refine ⟨_, Mt.fun hfa, ?_⟩
  walk_at "go"
  walk_at "go"
  walk_at "go"
  refine xe11 R.fd fun fd' hfd' => ?_
  refine ⟨KeepF.fun lx_F hfd', ?_⟩
  refine (Fn.mono (R.rd lv es p q rest hp) fun y s hq => xe02 hq fun e1 e2 => ?_).cl
  subst e1 e2
  have hle : p ≤ min (p + 1) a.text.length := by lia
  repeat walk_at "go"
  refine iteB (fun e => ?_) (fun e => ?_)
  · have e' : sgAt a.text p = Str.ofString "\n" := eq_of_beq e
    have hlt : p < a.text.length := sgAt_lt (by rw [e']; decide +kernel)
    have hmin : min (p + 1) a.text.length = p + 1 := by lia
    walk_at "go"
    refine Ex1.augattr G.gd ?_
    walk_at "go"
    refine ⟨a.x, a.dx, 111, es, .int n, _, rfl, EsOk.lx, H.ln, rfl, by rw [G.k]; rfl, rfl, by rw [G.k]; rfl, by rw [G.k]; rfl, ?_⟩
    walk_at "go"
    refine Op2.iaddI ?_
    refine ⟨es, _, EsOk.lx, lx_set G rfl, .head, by have := H.len; have := R.len; lia, ?_⟩
    repeat walk_at "go"
    refine ⟨rfl, _, rfl, ?_⟩
    rw [hmin]
    have : nlN (sgAt a.text p) = 1 := by unfold nlN; rw [if_pos e']
    rw [this]
    exact H.line
  · have e' : ¬ sgAt a.text p = Str.ofString "\n" := fun z => by rw [z] at e; simp at e
    repeat walk_at "go"
    refine ⟨rfl, es, rfl, ?_⟩
    have : nlN (sgAt a.text p) = 0 := by unfold nlN; rw [if_neg e']
    rw [this, Int.add_zero]
    exact H.up hle
end
section
variable {C : Cx} {lv : Nat} {sc : Scope} {cel : List (PySem.Str × Addr)} {loc : Locs} {st : St}
set_option pp.deepTerms false
set_option pp.maxSteps 2000
theorem Cl.pop0 {D : Addr} {xs : List AV} {y : AV} {st' : St} {Post : AV → St → Prop} (u : Upd st D (.list (y :: xs)) (.list xs) st') (hsz : xs.length < sizeLine) (hp : Post y st') : Cl C lv (.builtin "list.pop") [.ref D, .int 0] [] st Post := fun P A s vs kvs Q E a R hv hk k => by
  obtain rfl := hk.nil_inv
  · refine xe23 hv.two fun v1 v2 qe0 h1 h2 => ?_; subst qe0
    cases h1
    cases h2
    rename_i tk
    refine xe12 (R.at u.mem) fun o ho hr => ?_
    cases hr with
    | @list _ us _ hl hvs =>
      refine xe11 hl fun n qe0 => ?_; clear hl; subst qe0
      cases hvs with
      | @cons _ w _ us hw hus =>
        have hfit : Builtin.List.listFitsIndex 0 = true := by decide +kernel
        refine call_meets PySem.F.slot_list_pop ⟨_, ho, rfl⟩ PySem.F.entry_list_pop (PySem.F.args_list_pop_2 _ _) (MeetsSeq.list_pop_at D (w :: us).toArray n 0 tk 0 w hfit (by simp [seqIndex?]) (by simp) (by simp [← hus.length]; lia)) ?_
        refine ⟨ho, ?_⟩
        have hup := Heap.get?_update_self (Obj.mapSeq fun xs => xs.eraseIdxIfInBounds 0) ho rfl
        have he : Obj.mapSeq (fun xs => xs.eraseIdxIfInBounds 0) { cls := .type "list", data := .seq (w :: us).toArray n } = { cls := .type "list", data := .seq us.toArray (n + 1) } := by
          unfold Obj.mapSeq
          simp
        rw [he] at hup
        refine xe02 (R.upd u (Heap.SameBut.update ..) hup (.list ⟨n + 1, rfl⟩ hus)) fun R' S' => ?_
        exact k P y w st' _ s.toks hp S' R' hw
end
section
variable {C : Cx} {lv : Nat} {sc : Scope} {cel : List (PySem.Str × Addr)} {loc : Locs} {st : St}
set_option pp.deepTerms false
set_option pp.maxSteps 2000
noncomputable def unq (wf : Nat → Bool) : List Nat → List Nat → Option (List Nat × List Nat)
  | [], _ => none
  | [c], acc => if wf c then some (acc, []) else none
  | c :: d :: r, acc => if wf c then some (acc, d :: r) else if c = 92 then unq wf r (acc ++ [d]) else unq wf (d :: r) (acc ++ [c])
noncomputable def quo : List Nat → List Nat → Option (List Nat × List Nat)
  | [], _ => none
  | [c], acc => if c = 34 then some (acc, []) else none
  | c :: d :: r, acc => if c = 34 then some (acc, d :: r) else if c = 92 then quo r (acc ++ [d]) else quo (d :: r) (acc ++ [c])
noncomputable def tok (wf : Nat → Bool) : List Nat → Option (List Nat × List Nat)
  | [] => some ([], [])
  | [c] => if wf c then some ([], []) else none
  | c :: d :: r => if wf c then tok wf (d :: r) else if c = 34 then quo (d :: r) [] else if c = 92 then unq wf r [d] else unq wf (d :: r) [c]
noncomputable def wsB (ws : PySem.Str) (c : Nat) : Bool := Txt.contains ws ⟨#[c]⟩
theorem Op2.inStr {x y : PySem.Str} {Post : AV → St → Prop} (hp : Post (.bool (Txt.contains x y)) st) : Op2 C lv (compareOp .In) (.str y) (.str x) st Post :=
  Op2.pureSS hp fun P A s _ _ Q E _ k => PyProof.Rows.in_str (k _ s.toks .bool)
noncomputable def LxOk (a : LxA) (es : List (PySem.Str × AV)) (N : Int) (ws : PySem.Str) (p : Nat) : Prop := ∃ n, EsOk a es n ws p ∧ n + (((a.text.cps.toList.drop p).count 10 : Nat) : Int) = N ∧ p ≤ a.text.length
theorem LxOk.drop {a : LxA} {p : Nat} {c : Nat} (h : a.text.cps.toList[p]? = some c) : a.text.cps.toList.drop p = c :: a.text.cps.toList.drop (p + 1) := by
  obtain ⟨hl, e⟩ := List.getElem?_eq_some_iff.mp h
  rw [List.drop_eq_getElem_cons hl, e]
theorem strlen (x : PySem.Str) : x.length = x.cps.toList.length := by simp [PySem.Str.length]
theorem rcN (G : Pg C) {a : LxA} (R : RdOk C a) {es : List (PySem.Str × AV)} {N : Int} {ws : PySem.Str} {p : Nat} {q : List PySem.Str} {rest : St} (pre : St) (H : LxOk a es N ws p) :
    Fn C (lv + 2) (.ref 94) [.ref a.x] [] (pre ++ lxS a es p q rest) fun y s => (∃ c es', a.text.cps.toList[p]? = some c ∧ y = .str ⟨#[c]⟩ ∧ s = pre ++ lxS a es' (p + 1) q rest ∧ LxOk a es' N ws (p + 1)) ∨
      (a.text.cps.toList[p]? = none ∧ y = .str (Str.ofString "") ∧ ∃ es', s = pre ++ lxS a es' p q rest ∧ LxOk a es' N ws p) := by
  refine xe13 H fun n hE hN hp => ?_; clear H
  refine Fn.frame pre (L := lxL a es p q) (rest := rest) (Fn.mono (rc_fn G R (rest := pre ++ rest) hE hp) fun y s ⟨e1, es', e2, hE'⟩ => ⟨lxL a es' (min (p + 1) a.text.length) q, e2, ?_⟩)
  cases hc : a.text.cps.toList[p]? with
  | some c =>
    have hlt : p < a.text.length := by rw [strlen]; exact (List.getElem?_eq_some_iff.mp hc).1
    have hs : sgAt a.text p = ⟨#[c]⟩ := by unfold sgAt; rw [hc]
    have hmin : min (p + 1) a.text.length = p + 1 := by lia
    rw [hmin] at hE' ⊢
    rw [hs] at e1 hE'
    refine .inl ⟨c, es', rfl, e1, rfl, _, hE', ?_, by lia⟩
    rw [LxOk.drop hc, List.count_cons] at hN
    have h10 : Str.ofString "\n" = ⟨#[10]⟩ := by decide +kernel
    unfold nlN
    rw [h10]
    by_cases e : c = 10
    · subst e
      rw [if_pos rfl]
      simp at hN
      lia
    · rw [if_neg fun z => e (by injection z with z; simpa using z)]
      have : (c == 10) = false := beq_eq_false_iff_ne.mpr e
      rw [this] at hN
      simp at hN
      lia
  | none =>
    have hge : a.text.length ≤ p := by rw [strlen]; exact List.getElem?_eq_none_iff.mp hc
    have hs : sgAt a.text p = Str.ofString "" := by unfold sgAt; rw [hc]
    have hmin : min (p + 1) a.text.length = p := by lia
    rw [hmin] at hE' ⊢
    rw [hs] at e1 hE'
    refine .inr ⟨rfl, e1, es', rfl, _, hE', ?_, hp⟩
    have : nlN (Str.ofString "") = 0 := by decide +kernel
    rw [this]
    lia
noncomputable def cxS (a : LxA) (I m : Addr) (t : Tok) (es : List (PySem.Str × AV)) (p : Nat) (q : List PySem.Str) (rest : St) : St :=
  [(I, .raw (citObj (.ref m) (.str (Str.ofString "") t))), (m, .raw (methodObj (.ref 94) (.ref a.x)))] ++ lxS a es p q rest
theorem nx_lx (G : Pg C) {a : LxA} (R : RdOk C a) {es : List (PySem.Str × AV)} {N : Int} {ws : PySem.Str} {p : Nat} {q : List PySem.Str} {rest : St} {I m : Addr} {t : Tok} {Post : Option AV → St → Prop} (H : LxOk a es N ws p)
    (h1 : ∀ c es', a.text.cps.toList[p]? = some c → LxOk a es' N ws (p + 1) → Post (some (.str ⟨#[c]⟩)) (cxS a I m t es' (p + 1) q rest))
    (h2 : a.text.cps.toList[p]? = none → ∀ es', LxOk a es' N ws p → Post none ((I, .raw citEnd) :: (m, .raw (methodObj (.ref 94) (.ref a.x))) :: lxS a es' p q rest)) :
    Nx C (lv + 3) I (cxS a I m t es p q rest) Post := by
  refine Nx.cit (x := a.x) (f := 94) (m := m) (sen := Str.ofString "") (t := t) G.gd (by rw [G.k]; rfl) (.head _) (.tail _ (.head _)) ?_
  refine Fn.nd fun nd => ?_
  refine Fn.mono (rcN G R [(I, .raw (citObj (.ref m) (.str (Str.ofString "") t))), (m, .raw (methodObj (.ref 94) (.ref a.x)))] H) fun y s hy => ?_
  rcases hy with ⟨c, es', hc, e1, e2, hH⟩ | ⟨hc, e1, es', e2, hH⟩
  · subst e1 e2
    refine ⟨⟨#[c]⟩, rfl, .head _, .tail _ (.head _), fun _ => h1 c es' hc hH, fun e => ?_⟩
    exact absurd e (by rw [show Str.ofString "" = (⟨#[]⟩ : PySem.Str) by decide +kernel]; intro z; injection z with z; simp at z)
  · subst e1 e2
    refine ⟨_, rfl, .head _, .tail _ (.head _), fun e => absurd rfl e, fun _ s' u => ?_⟩
    obtain rfl := u.det .head nd
    exact h2 hc es' hH
theorem mt_rc (G : Pg C) {a : LxA} {es : List (PySem.Str × AV)} {n : Int} {ws : PySem.Str} {p : Nat} (I : OI st a.x a.dx 111 es) (H : EsOk a es n ws p) : Mt C (.ref a.x) (Str.ofString "_read_char") st (.ref 94) [.ref a.x] :=
  Mt.inst G.gd I H.m1 (by rw [G.k]; rfl) (by rw [G.k]; rfl) (by rw [G.k]; rfl) (by rw [G.k]; rfl)
theorem cx_oi {a : LxA} {I m : Addr} {t : Tok} {es : List (PySem.Str × AV)} {p : Nat} {q : List PySem.Str} {rest : St} : OI (cxS a I m t es p q rest) a.x a.dx 111 es := ⟨.tail _ (.tail _ EsOk.lx.x), .tail _ (.tail _ EsOk.lx.d)⟩
end
section
variable {C : Cx} {lv : Nat} {sc : Scope} {cel : List (PySem.Str × Addr)} {loc : Locs} {st : St}
set_option pp.deepTerms false
set_option pp.maxSteps 2000
noncomputable def natS (l : List Nat) : PySem.Str := ⟨l.toArray⟩
theorem unq_ws {wf : Nat → Bool} {c : Nat} {r acc : List Nat} {x : List Nat × List Nat} (h : wf c = true) (e : unq wf (c :: r) acc = some x) : x = (acc, r) := by
  cases r with
  | nil => rw [unq, if_pos h] at e; exact (Option.some.inj e).symm
  | cons d r => rw [unq, if_pos h] at e; exact (Option.some.inj e).symm
theorem unq_b {wf : Nat → Bool} {c : Nat} {r acc : List Nat} {x : List Nat × List Nat} (h : wf c = false) (hc : c = 92) (e : unq wf (c :: r) acc = some x) : ∃ d r', r = d :: r' ∧ unq wf r' (acc ++ [d]) = some x := by
  cases r with
  | nil => rw [unq, h, if_neg (by decide)] at e; cases e
  | cons d r => rw [unq, h, if_neg (by decide), if_pos hc] at e; exact ⟨d, r, rfl, e⟩
theorem unq_u {wf : Nat → Bool} {c : Nat} {r acc : List Nat} {x : List Nat × List Nat} (h : wf c = false) (hc : c ≠ 92) (e : unq wf (c :: r) acc = some x) : unq wf r (acc ++ [c]) = some x := by
  cases r with
  | nil => rw [unq, h, if_neg (by decide)] at e; cases e
  | cons d r => rw [unq, h, if_neg (by decide), if_neg hc] at e; exact e
theorem quo_q {c : Nat} {r acc : List Nat} {x : List Nat × List Nat} (h : c = 34) (e : quo (c :: r) acc = some x) : x = (acc, r) := by
  cases r with
  | nil => rw [quo, if_pos h] at e; exact (Option.some.inj e).symm
  | cons d r => rw [quo, if_pos h] at e; exact (Option.some.inj e).symm
theorem quo_b {c : Nat} {r acc : List Nat} {x : List Nat × List Nat} (h : c ≠ 34) (hc : c = 92) (e : quo (c :: r) acc = some x) : ∃ d r', r = d :: r' ∧ quo r' (acc ++ [d]) = some x := by
  cases r with
  | nil => rw [quo, if_neg h] at e; cases e
  | cons d r => rw [quo, if_neg h, if_pos hc] at e; exact ⟨d, r, rfl, e⟩
theorem quo_u {c : Nat} {r acc : List Nat} {x : List Nat × List Nat} (h : c ≠ 34) (hc : c ≠ 92) (e : quo (c :: r) acc = some x) : quo r (acc ++ [c]) = some x := by
  cases r with
  | nil => rw [quo, if_neg h] at e; cases e
  | cons d r => rw [quo, if_neg h, if_neg hc] at e; exact e
theorem tok_ws {wf : Nat → Bool} {c : Nat} {r : List Nat} {x : List Nat × List Nat} (h : wf c = true) (e : tok wf (c :: r) = some x) : tok wf r = some x := by
  cases r with
  | nil => rw [tok, if_pos h] at e; rw [tok]; exact e
  | cons d r => rw [tok, if_pos h] at e; exact e
theorem tok_q {wf : Nat → Bool} {c : Nat} {r : List Nat} {x : List Nat × List Nat} (h : wf c = false) (hc : c = 34) (e : tok wf (c :: r) = some x) : quo r [] = some x := by
  cases r with
  | nil => rw [tok, h, if_neg (by decide)] at e; cases e
  | cons d r => rw [tok, h, if_neg (by decide), if_pos hc] at e; exact e
theorem tok_b {wf : Nat → Bool} {c : Nat} {r : List Nat} {x : List Nat × List Nat} (h : wf c = false) (h34 : c ≠ 34) (hc : c = 92) (e : tok wf (c :: r) = some x) : ∃ d r', r = d :: r' ∧ unq wf r' [d] = some x := by
  cases r with
  | nil => rw [tok, h, if_neg (by decide)] at e; cases e
  | cons d r => rw [tok, h, if_neg (by decide), if_neg h34, if_pos hc] at e; exact ⟨d, r, rfl, e⟩
theorem tok_u {wf : Nat → Bool} {c : Nat} {r : List Nat} {x : List Nat × List Nat} (h : wf c = false) (h34 : c ≠ 34) (hc : c ≠ 92) (e : tok wf (c :: r) = some x) : unq wf r [c] = some x := by
  cases r with
  | nil => rw [tok, h, if_neg (by decide)] at e; cases e
  | cons d r => rw [tok, h, if_neg (by decide), if_neg h34, if_neg hc] at e; exact e
theorem drop_nil {x : PySem.Str} {p : Nat} (h : x.cps.toList[p]? = none) : x.cps.toList.drop p = [] := List.drop_eq_nil_of_le (List.getElem?_eq_none_iff.mp h)
theorem drop_head {l : List Nat} {p c : Nat} (h : l[p]? = some c) {d : Nat} {r : List Nat} (e : l.drop p = d :: r) : c = d ∧ l.drop (p + 1) = r := by
  obtain ⟨hl, e'⟩ := List.getElem?_eq_some_iff.mp h
  rw [List.drop_eq_getElem_cons hl, e'] at e
  exact ⟨(List.cons.inj e).1, (List.cons.inj e).2⟩
theorem natS_snoc (acc : List Nat) (c : Nat) : natS acc ++ (⟨#[c]⟩ : PySem.Str) = natS (acc ++ [c]) := by
  refine (?_ : (⟨acc.toArray ++ #[c]⟩ : PySem.Str) = ⟨(acc ++ [c]).toArray⟩)
  simp
theorem natS_nil : Str.ofString "" = natS [] := by decide +kernel
theorem sg_q (c : Nat) : ((⟨#[c]⟩ : PySem.Str) == Str.ofString "\"") = decide (c = 34) := by
  rw [show Str.ofString "\"" = (⟨#[34]⟩ : PySem.Str) by decide +kernel]
  by_cases h : c = 34
  · subst h; rfl
  · rw [decide_eq_false h]; exact beq_eq_false_iff_ne.mpr fun z => h (by injection z with z; simpa using z)
theorem sg_b (c : Nat) : ((⟨#[c]⟩ : PySem.Str) == Str.ofString "\\") = decide (c = 92) := by
  rw [show Str.ofString "\\" = (⟨#[92]⟩ : PySem.Str) by decide +kernel]
  by_cases h : c = 92
  · subst h; rfl
  · rw [decide_eq_false h]; exact beq_eq_false_iff_ne.mpr fun z => h (by injection z with z; simpa using z)
theorem natS_len (l : List Nat) : (natS l).length = l.length := by simp [natS, PySem.Str.length]
theorem dlen {x : PySem.Str} {p c : Nat} (h : x.cps.toList[p]? = some c) : (x.cps.toList.drop (p + 1)).length < (x.cps.toList.drop p).length := by
  obtain ⟨hl, e'⟩ := List.getElem?_eq_some_iff.mp h
  rw [List.drop_eq_getElem_cons hl]; simp
theorem dlt {x : PySem.Str} {p c : Nat} (h : x.cps.toList[p]? = some c) : (x.cps.toList.drop (p + 1 + 1)).length < (x.cps.toList.drop p).length := by
  have := dlen h
  simp only [List.length_drop] at this ⊢
  lia
theorem LxOk.le {a : LxA} {es : List (PySem.Str × AV)} {N : Int} {ws : PySem.Str} {p : Nat} (H : LxOk a es N ws p) : p ≤ a.text.length := let ⟨_, _, _, h⟩ := H; h
theorem rcK (G : Pg C) {a : LxA} (R : RdOk C a) {es : List (PySem.Str × AV)} {N : Int} {ws : PySem.Str} {p : Nat} {q : List PySem.Str} {rest : St} (pre : St) (H : LxOk a es N ws p) {d : Nat} {r' : List Nat} (hr : a.text.cps.toList.drop p = d :: r') {Post : AV → St → Prop}
    (k : ∀ es', LxOk a es' N ws (p + 1) → a.text.cps.toList.drop (p + 1) = r' → Post (.str ⟨#[d]⟩) (pre ++ lxS a es' (p + 1) q rest)) : Cl C (lv + 2) (.ref 94) [.ref a.x] [] (pre ++ lxS a es p q rest) Post :=
  (Fn.mono (rcN G R pre H) fun y s hy => by
    rcases hy with ⟨c, es', hc, rfl, rfl, hH⟩ | ⟨hc, _⟩
    · refine xe02 (drop_head hc hr) fun qe0 hd => ?_; subst qe0
      exact k es' hH hd
    · rw [drop_nil hc] at hr; cases hr).cl
theorem gt_fn (G : Pg C) {a : LxA} (R : RdOk C a) {es : List (PySem.Str × AV)} {N : Int} {ws : PySem.Str} {p : Nat} {rest : St} (H : LxOk a es N ws p) {out rem : List Nat} (hout : tok (wsB ws) (a.text.cps.toList.drop p) = some (out, rem)) :
    Fn C (lv + 5) (.ref 101) [.ref a.x] [] (lxS a es p [] rest) fun y s => y = .str (natS out) ∧ ∃ es' p', s = lxS a es' p' [] rest ∧ LxOk a es' N ws p' ∧ a.text.cps.toList.drop p' = rem := by
  refine Fn.sub ?_
  refine' Pg.fn0 G [Str.ofString "self"] [(Str.ofString "self", .ref a.x)] ?ho ?hcd ?hb ?hclo ?hgl ?hbu ?hco ?hgen ?hk ?hok ?hbind ?hloc ?hcn ?hcx _ ?hsc ?h
  walk_at "fn"
  case hbind => exact len1 fun _ => rfl
  refine xe13 (id H) fun n hE hN hp => ?_
  refine Ex.gen fun Q0 hQ0 => ?_
  walk_at "go"
  walk_at "go"
  refine Tr.val (fun _ _ => rfl) ?_
  refine lx_attr G EsOk.lx (fun _ _ _ => rfl) hE.pb rfl rfl ?_
  walk_at "go"
  refine ⟨rfl, rfl, ?_⟩
  refine ⟨_, truL (xs := []) (.ref (.tail _ (.tail _ (.head _)))) (by decide), ?_⟩
  refine iteN rfl ?_
  repeat walk_at "go"
  refine Ev.bound (fun _ _ _ => rfl) G.gd ?_
  walk_at "go"
  refine ⟨a.x, a.dx, 111, es, 94, rfl, EsOk.lx, hE.m1, by rw [G.k]; rfl, by rw [G.k]; rfl, by rw [G.k]; rfl, by rw [G.k]; rfl, by rw [G.k]; rfl, by decide +kernel, by rw [G.k]; rfl, by rw [G.k]; rfl, fun m => ?_⟩
  repeat walk_at "go"
  refine Cl.iter2 (.head _) rfl fun I t => ?_
  walk_at "go"
  walk_at "go"
  refine' Ex1.loopC ?h1 ?_
  case h1 => exact fun _ _ => rfl
  walk_at "go"
  rw [natS_nil]
  refine ⟨I, rfl, ⟨_, .head _, rfl⟩, fun n l s => ∃ es p, n = (a.text.cps.toList.drop p).length ∧ Sub [(Str.ofString "self", .ref a.x), (Str.ofString "token", .str (natS [])), (Str.ofString "fiter", .ref I)] l ∧ s = cxS a I m t es p [] rest ∧ LxOk a es N ws p ∧ tok (wsB ws) (a.text.cps.toList.drop p) = some (out, rem), _, ⟨es, p, rfl, by walk_at "sub", rfl, H, hout⟩, ?_⟩
  clear hE hN hp H hout
  rintro n l s ⟨es, p, rfl, hs, rfl, hH, ht⟩
  have drp : ∀ (es : List (PySem.Str × AV)) (p : Nat), (lxS a es p [] rest).Sublist (cxS a I m t es p [] rest) := fun es p => (List.sublist_cons_self _ _).trans (List.sublist_cons_self _ _)
  refine nx_lx G R hH (fun c es' hc hH' => ?_) (fun hc es' hH' => ?_)
  rotate_left
  · rw [drop_nil hc, tok] at ht
    have e := Option.some.inj ht
    refine Ex.rel hs ?_
    repeat walk_at "go"
    refine hQ0 _ _ _ ⟨_, (List.sublist_cons_self _ _).trans (List.sublist_cons_self _ _), by rw [← (Prod.mk.inj e).1], es', p, rfl, hH', ?_⟩
    rw [drop_nil hc]; exact (Prod.mk.inj e).2
  · refine xe13 (id hH') fun n' hE' _ hp' => ?_
    have hpl := R.len
    refine ⟨⟨_, .head _, rfl⟩, Bd.rel hs ?_⟩
    rw [LxOk.drop hc] at ht
    walk_at "go"
    refine Ex.gen fun Q1 hQ1 => ?_
    walk_at "go"
    walk_at "go"
    walk_at "go"
    walk_at "go"
    refine lx_attr G cx_oi (fun _ _ _ => rfl) hE'.ws rfl rfl ?_
    walk_at "go"
    refine ⟨rfl, rfl, ?_⟩
    refine Op2.inStr ?_
    refine ⟨_, rfl, iteB (fun e => ?_) (fun e => ?_)⟩
    · repeat walk_at "go"
      exact hQ1 _ _ _ ⟨_, dlen hc, es', p + 1, rfl, by walk_at "sub", rfl, hH', tok_ws e ht⟩
    · have hw : wsB ws c = false := e
      walk_at "go"
      walk_at "go"
      walk_at "go"
      walk_at "go"
      walk_at "go"
      walk_at "go"
      walk_at "go"
      walk_at "go"
      rw [sg_q]
      by_cases c34 : c = 34
      · have hq := tok_q hw c34 ht
        refine iteY (decide_eq_true c34) ?_
        walk_at "go"
        refine' Ex1.loopC ?h1 ?_
        case h1 => exact fun _ _ => rfl
        walk_at "go"
        refine ⟨I, rfl, ⟨_, .head _, rfl⟩, fun n l s => ∃ es p acc, n = (a.text.cps.toList.drop p).length ∧ acc.length ≤ p ∧ Sub [(Str.ofString "self", .ref a.x), (Str.ofString "token", .str (natS acc)), (Str.ofString "fiter", .ref I)] l ∧ s = cxS a I m t es p [] rest ∧ LxOk a es N ws p ∧ quo (a.text.cps.toList.drop p) acc = some (out, rem), _, ⟨es', p + 1, [], rfl, by simp, by walk_at "sub", rfl, hH', hq⟩, ?_⟩
        rintro n2 l2 s2 ⟨es2, p2, acc, rfl, hacc, hs2, rfl, hH2, hq2⟩
        refine nx_lx G R hH2 (fun c2 es3 hc2 hH3 => ?_) (fun hc2 es3 hH3 => ?_)
        rotate_left
        · rw [drop_nil hc2, quo] at hq2; cases hq2
        · rw [LxOk.drop hc2] at hq2
          refine xe13 (id hH3) fun n3 hE3 _ hp3 => ?_
          refine ⟨⟨_, .head _, rfl⟩, Bd.rel hs2 ?_⟩
          walk_at "go"
          refine Ex.gen fun Q2 hQ2 => ?_
          repeat walk_at "go"
          rw [sg_q]
          by_cases c34' : c2 = 34
          · refine iteY (decide_eq_true c34') ?_
            repeat walk_at "go"
            have e := quo_q c34' hq2
            exact hQ2 _ _ _ (hQ1 _ _ _ (hQ0 _ _ _ ⟨_, (List.sublist_cons_self _ _).trans (List.sublist_cons_self _ _), by rw [(Prod.mk.inj e).1], es3, p2 + 1, rfl, hH3, (Prod.mk.inj e).2.symm⟩))
          · refine iteN (decide_eq_false c34') ?_
            repeat walk_at "go"
            rw [sg_b]
            by_cases c92 : c2 = 92
            · refine xe22 (quo_b c34' c92 hq2) fun d r' hr hq3 => ?_
              refine iteY (decide_eq_true c92) ?_
              repeat walk_at "go"
              refine ⟨_, _, mt_rc G cx_oi hE3, ?_⟩
              repeat walk_at "go"
              refine rcK G R [(I, .raw (citObj (.ref m) (.str (Str.ofString "") t))), (m, .raw (methodObj (.ref 94) (.ref a.x)))] hH3 hr fun es4 hH4 hd => ?_
              have hlt := hH4.le
              repeat walk_at "go"
              refine Op2.iaddS (by rw [natS_len, sizeLine_eq]; refine (?_ : acc.length + 1 ≤ _); lia) ?_
              rw [natS_snoc]
              repeat walk_at "go"
              exact hQ2 _ _ _ ⟨_, dlt hc2, es4, p2 + 1 + 1, acc ++ [d], rfl, by simp; lia, by walk_at "sub", rfl, hH4, by rw [hd]; exact hq3⟩
            · have hq3 := quo_u c34' c92 hq2
              refine iteN (decide_eq_false c92) ?_
              repeat walk_at "go"
              refine Op2.iaddS (by rw [natS_len, sizeLine_eq]; refine (?_ : acc.length + 1 ≤ _); lia) ?_
              rw [natS_snoc]
              repeat walk_at "go"
              exact hQ2 _ _ _ ⟨_, dlen hc2, es3, p2 + 1, acc ++ [c2], rfl, by simp; lia, by walk_at "sub", rfl, hH3, hq3⟩
      · refine iteN (decide_eq_false c34) ?_
        walk_at "go"
        refine Ex1.mono (Post := fun f l s => f = .next ∧ ∃ es4 p4 c4, Sub [(Str.ofString "self", .ref a.x), (Str.ofString "token", .str (natS [])), (Str.ofString "fiter", .ref I), (Str.ofString "ch", .str ⟨#[c4]⟩)] l ∧ s = cxS a I m t es4 p4 [] rest ∧ LxOk a es4 N ws p4 ∧ 1 ≤ p4 ∧ unq (wsB ws) (a.text.cps.toList.drop p4) [c4] = some (out, rem)) ?_ ?_
        · repeat walk_at "go"
          rw [sg_b]
          by_cases c92 : c = 92
          · refine xe22 (tok_b hw c34 c92 ht) fun d r' hr hq => ?_
            refine iteY (decide_eq_true c92) ?_
            repeat walk_at "go"
            refine ⟨_, _, mt_rc G cx_oi hE', ?_⟩
            repeat walk_at "go"
            refine rcK G R [(I, .raw (citObj (.ref m) (.str (Str.ofString "") t))), (m, .raw (methodObj (.ref 94) (.ref a.x)))] hH' hr fun es4 hH4 hd => ?_
            repeat walk_at "go"
            exact ⟨rfl, es4, p + 1 + 1, d, by walk_at "sub", rfl, hH4, by lia, by rw [hd]; exact hq⟩
          · have hq := tok_u hw c34 c92 ht
            refine iteN (decide_eq_false c92) ?_
            repeat walk_at "go"
            exact ⟨rfl, es', p + 1, c, by walk_at "sub", rfl, hH', by lia, hq⟩
        · rintro f l4 s4 ⟨rfl, es4, p4, c4, hs4, rfl, hH4, h1, hq4⟩
          refine Ex.rel hs4 ?_
          walk_at "go"
          walk_at "go"
          walk_at "go"
          refine Op2.iaddS (by rw [natS_len, sizeLine_eq]; refine (?_ : 0 + 1 ≤ 16777216); decide) ?_
          rw [natS_snoc]
          walk_at "go"
          walk_at "go"
          refine' Ex1.loopC ?h1 ?_
          case h1 => exact fun _ _ => rfl
          walk_at "go"
          refine ⟨I, rfl, ⟨_, .head _, rfl⟩, fun n l s => ∃ es p acc, n = (a.text.cps.toList.drop p).length ∧ acc.length ≤ p ∧ Sub [(Str.ofString "self", .ref a.x), (Str.ofString "token", .str (natS acc)), (Str.ofString "fiter", .ref I)] l ∧ s = cxS a I m t es p [] rest ∧ LxOk a es N ws p ∧ unq (wsB ws) (a.text.cps.toList.drop p) acc = some (out, rem), _, ⟨es4, p4, [] ++ [c4], rfl, by simpa using h1, by walk_at "sub", rfl, hH4, hq4⟩, ?_⟩
          rintro n2 l2 s2 ⟨es2, p2, acc, rfl, hacc, hs2, rfl, hH2, hq2⟩
          refine nx_lx G R hH2 (fun c2 es3 hc2 hH3 => ?_) (fun hc2 es3 hH3 => ?_)
          rotate_left
          · rw [drop_nil hc2, unq] at hq2; cases hq2
          · rw [LxOk.drop hc2] at hq2
            refine xe13 (id hH3) fun n3 hE3 _ hp3 => ?_
            refine ⟨⟨_, .head _, rfl⟩, Bd.rel hs2 ?_⟩
            walk_at "go"
            refine Ex.gen fun Q2 hQ2 => ?_
            walk_at "go"
            walk_at "go"
            walk_at "go"
            walk_at "go"
            refine lx_attr G cx_oi (fun _ _ _ => rfl) hE3.ws rfl rfl ?_
            walk_at "go"
            refine ⟨rfl, rfl, ?_⟩
            refine Op2.inStr ?_
            refine ⟨_, rfl, iteB (fun e => ?_) (fun e => ?_)⟩
            · repeat walk_at "go"
              have e := unq_ws (wf := wsB ws) e hq2
              exact hQ2 _ _ _ (hQ1 _ _ _ (hQ0 _ _ _ ⟨_, (List.sublist_cons_self _ _).trans (List.sublist_cons_self _ _), by rw [(Prod.mk.inj e).1], es3, p2 + 1, rfl, hH3, (Prod.mk.inj e).2.symm⟩))
            · have hw2 : wsB ws c2 = false := e
              repeat walk_at "go"
              rw [sg_b]
              by_cases c92 : c2 = 92
              · refine xe22 (unq_b hw2 c92 hq2) fun d r' hr hq3 => ?_
                refine iteY (decide_eq_true c92) ?_
                repeat walk_at "go"
                refine ⟨_, _, mt_rc G cx_oi hE3, ?_⟩
                repeat walk_at "go"
                refine rcK G R [(I, .raw (citObj (.ref m) (.str (Str.ofString "") t))), (m, .raw (methodObj (.ref 94) (.ref a.x)))] hH3 hr fun es4 hH4 hd => ?_
                have hlt := hH4.le
                repeat walk_at "go"
                refine Op2.iaddS (by rw [natS_len, sizeLine_eq]; refine (?_ : acc.length + 1 ≤ _); lia) ?_
                rw [natS_snoc]
                repeat walk_at "go"
                exact hQ2 _ _ _ ⟨_, dlt hc2, es4, p2 + 1 + 1, acc ++ [d], rfl, by simp; lia, by walk_at "sub", rfl, hH4, by rw [hd]; exact hq3⟩
              · have hq3 := unq_u hw2 c92 hq2
                refine iteN (decide_eq_false c92) ?_
                repeat walk_at "go"
                refine Op2.iaddS (by rw [natS_len, sizeLine_eq]; refine (?_ : acc.length + 1 ≤ _); lia) ?_
                rw [natS_snoc]
                repeat walk_at "go"
                exact hQ2 _ _ _ ⟨_, dlen hc2, es3, p2 + 1, acc ++ [c2], rfl, by simp; lia, by walk_at "sub", rfl, hH3, hq3⟩
end
section
variable {C : Cx} {lv : Nat} {sc : Scope} {cel : List (PySem.Str × Addr)} {loc : Locs} {st : St}
set_option pp.deepTerms false
set_option pp.maxSteps 2000
theorem gtp_fn (G : Pg C) {a : LxA} {es : List (PySem.Str × AV)} {N : Int} {ws : PySem.Str} {p : Nat} {rest : St} {w : PySem.Str} {q : List PySem.Str} (H : LxOk a es N ws p) (hq : q.length ≤ 1000) :
    Fn C (lv + 1) (.ref 101) [.ref a.x] [] (lxS a es p (w :: q) rest) fun y s => y = .str w ∧ s = lxS a es p q rest := by
  refine' Pg.fn0 G [Str.ofString "self"] [(Str.ofString "self", .ref a.x)] ?ho ?hcd ?hb ?hclo ?hgl ?hbu ?hco ?hgen ?hk ?hok ?hbind ?hloc ?hcn ?hcx _ ?hsc ?h
  walk_at "fn"
  case hbind => exact len1 fun _ => rfl
  refine xe13 (id H) fun n hE hN hp => ?_
  walk_at "go"
  walk_at "go"
  refine Tr.val (fun _ _ => rfl) ?_
  refine lx_attr G EsOk.lx (fun _ _ _ => rfl) hE.pb rfl rfl ?_
  walk_at "go"
  refine ⟨rfl, rfl, ?_⟩
  refine ⟨_, truL (xs := sL (w :: q)) (.ref (.tail _ (.tail _ (.head _)))) (by simp [sL]; lia), ?_⟩
  refine iteY rfl ?_
  repeat walk_at "go"
  refine lx_attr G EsOk.lx (fun _ _ _ => rfl) hE.pb rfl rfl ?_
  walk_at "go"
  refine ⟨rfl, rfl, ?_⟩
  refine ⟨_, _, Mt.list PySem.F.slot_list_pop PySem.F.type_list_pop (.ref (xs := sL (w :: q)) (.tail _ (.tail _ (.head _)))), ?_⟩
  repeat walk_at "go"
  refine Cl.pop0 (xs := sL q) (y := .str w) (.tail (.tail .head)) (by rw [sizeLine_eq]; simp [sL]; lia) ?_
  exact ⟨rfl, rfl⟩
theorem push_fn (G : Pg C) {a : LxA} {es : List (PySem.Str × AV)} {N : Int} {ws : PySem.Str} {p : Nat} {rest : St} {w : PySem.Str} {q : List PySem.Str} (H : LxOk a es N ws p) (hq : q.length ≤ 1000) :
    Fn C (lv + 1) (.ref 108) [.ref a.x, .str w] [] (lxS a es p q rest) fun y s => y = .none ∧ s = lxS a es p (q ++ [w]) rest := by
  refine' Pg.fn0 G [Str.ofString "self", Str.ofString "token"] [(Str.ofString "self", .ref a.x), (Str.ofString "token", .str w)] ?ho ?hcd ?hb ?hclo ?hgl ?hbu ?hco ?hgen ?hk ?hok ?hbind ?hloc ?hcn ?hcx _ ?hsc ?h
  walk_at "fn"
  case hbind => exact len2 fun _ _ => rfl
  refine xe13 (id H) fun n hE hN hp => ?_
  repeat walk_at "go"
  refine lx_attr G EsOk.lx (fun _ _ _ => rfl) hE.pb rfl rfl ?_
  walk_at "go"
  refine ⟨rfl, rfl, ?_⟩
  refine ⟨_, _, Mt.list PySem.F.slot_list_append PySem.F.type_list_append (.ref (xs := sL q) (.tail _ (.tail _ (.head _)))), ?_⟩
  repeat walk_at "go"
  refine Cl.append (.tail (.tail .head)) (by rw [sizeLine_eq]; simp [sL]; lia) ?_
  repeat walk_at "go"
  refine ⟨rfl, ?_⟩
  unfold lxS lxL
  simp [sL]
theorem linit_fn (G : Pg C) {x dx S : Addr} (nd : (adr ((x, AO.raw (instObj 111 dx)) :: (dx, .idict []) :: st)).Nodup) :
    Fn C (lv + 1) (.ref 87) [.ref x, .ref S] [] ((x, .raw (instObj 111 dx)) :: (dx, .idict []) :: st) fun y st' => y = .none ∧ ∃ PB, st' = (PB, .list []) :: (x, .raw (instObj 111 dx)) :: (dx, .idict [(Str.ofString "pushback", .ref PB), (Str.ofString "whitespace", .str (Str.ofString "\n\t\r ")), (Str.ofString "instream", .ref S), (Str.ofString "lineno", .int 1)]) :: st := by
  refine' Pg.fn0 G [Str.ofString "self", Str.ofString "fp"] [(Str.ofString "self", .ref x), (Str.ofString "fp", .ref S)] ?ho ?hcd ?hb ?hclo ?hgl ?hbu ?hco ?hgen ?hk ?hok ?hbind ?hloc ?hcn ?hcx _ ?hsc ?h
  walk_at "fn"
  case hbind => exact len2 fun _ _ => rfl
  walk_at "go"
  refine Ex1.setattr (by walk_at "sw") G.gd ?_
  repeat walk_at "go"
  refine ⟨x, dx, 111, _, _, rfl, ⟨.head _, .tail _ (.head _)⟩, lx_set G rfl, .tail .head, by simp, ?_⟩
  walk_at "go"
  refine Ex1.setattr (by walk_at "sw") G.gd ?_
  repeat walk_at "go"
  refine ⟨x, dx, 111, _, _, rfl, ⟨.head _, .tail _ (.head _)⟩, lx_set G rfl, .tail .head, by simp, ?_⟩
  walk_at "go"
  refine Ex1.setattr (by walk_at "sw") G.gd ?_
  repeat walk_at "go"
  refine ⟨x, dx, 111, _, _, rfl, ⟨.head _, .tail _ (.head _)⟩, lx_set G rfl, .tail .head, by simp, ?_⟩
  walk_at "go"
  refine Ex1.setattr (by walk_at "sw") G.gd ?_
  refine Ev.lstM rfl ?_
  repeat walk_at "go"
  intro PB
  repeat walk_at "go"
  refine ⟨x, dx, 111, _, _, rfl, ⟨.tail _ (.head _), .tail _ (.tail _ (.head _))⟩, lx_set G rfl, .tail (.tail .head), by simp, ?_⟩
  repeat walk_at "go"
  exact ⟨rfl, PB, rfl⟩
theorem lmake_fn (G : Pg C) {S : Addr} : Fn C (lv + 2) (.ref 111) [.ref S] [] st fun y st' => ∃ x dx PB, y = .ref x ∧ st' = (PB, .list []) :: (x, .raw (instObj 111 dx)) :: (dx, .idict [(Str.ofString "pushback", .ref PB), (Str.ofString "whitespace", .str (Str.ofString "\n\t\r ")), (Str.ofString "instream", .ref S), (Str.ofString "lineno", .int 1)]) :: st := by
  refine Cl.make G.gd (by rw [G.k]; rfl) (f := 87) (by rw [G.k]; rfl) (by rw [G.k]; rfl) fun x dx => Fn.nd fun nd => ?_
  refine Fn.mono (linit_fn G nd) fun y st' ⟨e1, PB, e2⟩ => ⟨e1, x, dx, PB, rfl, e2⟩
end
section
variable {C : Cx} {lv : Nat} {sc : Scope} {cel : List (PySem.Str × Addr)} {loc : Locs} {st : St}
set_option pp.deepTerms false
set_option pp.maxSteps 2000
theorem Pg.fnC (G : Pg C) {a : Addr} {oc : Value} {od : Option Addr} {fd : FuncData} {osl : Array (Option Value)} {body : List Stmt} {args : List AV} {Post : AV → St → Prop} (ns : List PySem.Str) (loc : Locs)
    (ho : (KF C.w.params).lookup a = some ⟨oc, od, .func fd, osl⟩) (hcd : codeIn (KF C.w.params) fd.code fd.qualname = true) (hb : fd.body = .stmts body) (hclo : fd.closure = []) (hgl : fd.globals = mainGlobals) (hbu : fd.builtins = builtinsNs)
    (hco : fd.scope.isCoroutine = false) (hgen : fd.scope.isGenerator = false) (hk : fd.scope.kind = .function) (hok : okFn fd.scope ns = true)
    (hbind : ∀ vs : List Value, vs.length = args.length → bindArgs fd ⟨vs, []⟩ = pure (ns.zip vs)) (hloc : ((ns.zip args).filter fun x => kindL fd.scope.names x.1) = loc)
    (h : ∀ cel : List (PySem.Str × Addr), cel.map (·.1) = (cellNames fd.scope).reverse → ExC C fd.code lv fd.scope cel loc body (cellSt (ns.zip args) cel ++ st) (retP Post)) :
    Fn C (lv + 1) (.ref a) args [] st Post := by
  unfold okFn at hok
  simp only [Bool.and_eq_true] at hok
  obtain ⟨⟨⟨h1, h2⟩, h3⟩, h4⟩ := hok
  refine Fn.defC G.gd (by rw [G.k]; exact ho) (by rw [G.k]; exact hcd) hb hclo hgl hbu hco hgen hk (Bn.pos ns hbind ⟨zip_nodup _ _ (nodupB_of h1), fun x hx => ?_, fun x hx => ?_, nodupB_of h4, fun cel hcel => ?_⟩)
  · have := List.all_eq_true.mp h2 _ (zip_keys _ _ x hx)
    rw [Bool.or_eq_true, Bool.and_eq_true] at this
    rcases this with q | ⟨q, z⟩
    · exact .inl (kindL_of.mp q)
    · refine .inr ⟨kindC_of.mp q, ?_⟩
      refine xe12 (List.any_eq_true.mp z) fun y hy e => ?_
      have e : y = x.1 := by simpa using e
      exact e ▸ hy
  · have := List.all_eq_true.mp h3 x hx
    intro z
    rw [kindL_of.mpr z] at this
    simp at this
  · have e : ((ns.zip args).filter fun x => decide (fd.scope.names.lookup x.1 = some .local)) = loc := by
      rw [← hloc]
      refine List.filter_congr fun x _ => ?_
      rw [Bool.eq_iff_iff, decide_eq_true_eq, kindL_of]
    rw [e]
    exact h cel hcel

theorem Pg.fnC2 (cd : Value) (G : Pg C) {a : Addr} {oc : Value} {od : Option Addr} {fd : FuncData} {osl : Array (Option Value)} {body : List Stmt} {args : List AV} {Post : AV → St → Prop} (ns : List PySem.Str) (loc : Locs) (c1 : PySem.Str) (c2 : PySem.Str) (x1 : Option AV) (x2 : Option AV)
    (ho : (KF C.w.params).lookup a = some ⟨oc, od, .func fd, osl⟩) (hcd : codeIn (KF C.w.params) fd.code fd.qualname = true) (hb : fd.body = .stmts body) (hclo : fd.closure = []) (hgl : fd.globals = mainGlobals) (hbu : fd.builtins = builtinsNs)
    (hco : fd.scope.isCoroutine = false) (hgen : fd.scope.isGenerator = false) (hk : fd.scope.kind = .function) (hok : okFn fd.scope ns = true)
    (hbind : ∀ vs : List Value, vs.length = args.length → bindArgs fd ⟨vs, []⟩ = pure (ns.zip vs)) (hloc : ((ns.zip args).filter fun x => kindL fd.scope.names x.1) = loc)
    (hcn : (cellNames fd.scope).reverse = [c1, c2]) (hcx : [c1, c2].map (fun n => (ns.zip args).lookup n) = [x1, x2]) (sc : Scope) (hsc : fd.scope = sc) (hcode : fd.code = cd)
    (h : ∀ a1 a2 : Addr, ExC C cd lv sc [(c1, a1), (c2, a2)] loc body ((a1, AO.cell x1) :: (a2, AO.cell x2) :: st) (retP Post)) :
    Fn C (lv + 1) (.ref a) args [] st Post := by
  subst hsc hcode
  have q1 : (ns.zip args).lookup c1 = x1 := congrArg (fun l => l.getD 0 none) hcx
  have q2 : (ns.zip args).lookup c2 = x2 := congrArg (fun l => l.getD 1 none) hcx
  subst q1 q2
  refine Pg.fnC G ns loc ho hcd hb hclo hgl hbu hco hgen hk hok hbind hloc ?_
  rw [hcn]
  exact keysC fun a1 => keysC fun a2 => keysN (h a1 a2)

theorem LxOk.drop' {l : List Nat} {p : Nat} {c : Nat} (h : l[p]? = some c) : l.drop p = c :: l.drop (p + 1) := by
  obtain ⟨hl, e⟩ := List.getElem?_eq_some_iff.mp h
  rw [List.drop_eq_getElem_cons hl, e]
theorem slice_at {x : PySem.Str} {p : Nat} (h : p ≤ x.length) : subS x (some (p : Int)) (some ((p : Int) + 1)) = sgAt x p := by
  have hl := strlen x
  unfold subS sgAt
  cases hc : x.cps.toList[p]? with
  | some c =>
    have hlt := (List.getElem?_eq_some_iff.mp hc).1
    have e := eq_of_beq (slice_closesL (x := x) (i := (p : Int)) (j := (p : Int) + 1) (by lia) (by lia) (by lia))
    rw [e]
    have : ((x.cps.toList.drop (p : Int).toNat).take ((p : Int) + 1 - p).toNat) = [c] := by
      rw [show (p : Int).toNat = p by lia, show ((p : Int) + 1 - p).toNat = 1 by lia, LxOk.drop' hc]
      rfl
    rw [this]
  | none =>
    have hge : x.cps.toList.length ≤ p := List.getElem?_eq_none_iff.mp hc
    have hp : p = x.length := by lia
    have e0 : Txt.slice x (some (p : Int)) (some ((p : Int) + 1)) = Txt.slice x (some (p : Int)) (some (p : Int)) := by
      have : PySem.Builtin.Str.strSliceIndices (some (p : Int)) (some ((p : Int) + 1)) 1 x.length = PySem.Builtin.Str.strSliceIndices (some (p : Int)) (some (p : Int)) 1 x.length := by
        unfold PySem.Builtin.Str.strSliceIndices
        have d1 : (1 : Int) > 0 := by decide
        have n1 : ¬ (p : Int) < 0 := by lia
        have n2 : ¬ (p : Int) + 1 < 0 := by lia
        simp only [if_pos d1, if_neg n1, if_neg n2]
        rw [show min ((p : Int) + 1) (x.length : Int) = min (p : Int) (x.length : Int) by lia]
      unfold Txt.slice
      rw [this]
    rw [e0]
    have e := eq_of_beq (slice_closesL (x := x) (i := (p : Int)) (j := (p : Int)) (by lia) (by lia) (by lia))
    rw [e]
    have : ((x.cps.toList.drop (p : Int).toNat).take ((p : Int) - p).toNat) = [] := by
      rw [show ((p : Int) - p).toNat = 0 by lia]; rfl
    rw [this]
    exact (by decide +kernel : (⟨#[]⟩ : PySem.Str) = Str.ofString "")
end
section
variable {C : Cx} {lv : Nat} {sc : Scope} {cel : List (PySem.Str × Addr)} {loc : Locs} {st : St}
set_option pp.deepTerms false
set_option pp.maxSteps 2000
variable {st' : St} {cd : Value}
theorem Ex1C.def' {c T : Addr} {ps : Array Value} {name : PySem.Str} {params : Arguments} {body : List Stmt} {scope : Scope} {pos : Pos} {clos : List (PySem.Str × Addr)} {Post : Fl → Locs → St → Prop} (G : GdX C c T)
    (hd0 : params.defaults = []) (hk0 : params.kw_defaults = []) (ha : ∀ env, annTrees params none env = []) (hcl : closeFrom cel scope.names [] = some clos) (hm : (T, AO.raw (tabObj ps)) ∈ st) (ht : TriplesOk ps.toList) (hnf : codeAmong pos ps.toList = none)
    (h : ∀ F c' qual doc pm ctv oc st₁ fo ps', ps' = ps ++ #[rawInt pos.line, rawInt pos.col, .ref c'] → fo = (fnMade name qual params body scope clos doc pm c' ctv) → CodeOk oc qual → Upd st T (.raw (tabObj ps)) (.raw (tabObj ps')) st₁ →
      Bd C sc cel loc name (.ref F) ((F, .raw fo) :: (c', .raw oc) :: st₁) fun loc' st'' => Post .next loc' st'') :
    Ex1C C (.ref c) lv sc cel loc (.FunctionDef name params body [] none [] scope none name pos) st Post :=
  Ex1C.def G hd0 hk0 ha hcl hm ht hnf fun F c' qual doc pm ctv oc st₁ => h F c' qual doc pm ctv oc st₁ _ _ rfl rfl
theorem Ex1C.lam' {c T : Addr} {ps : Array Value} {x : PySem.Str} {px p : Pos} {params : Arguments} {body : Expr} {scope : Scope} {pos : Pos} {clos : List (PySem.Str × Addr)} {Post : Fl → Locs → St → Prop} (G : GdX C c T)
    (hsw : ∀ env, env.scope = sc → swapsWith (.Lambda params body scope pos) (some (.Name x px)) p.line env = pure false)
    (hdef : ∀ env, defaultsOf params env = ([], [])) (hcl : closeFrom cel scope.names [] = some clos) (hm : (T, AO.raw (tabObj ps)) ∈ st) (ht : TriplesOk ps.toList) (hnf : codeAmong pos ps.toList = none)
    (h : ∀ F c' qual pm ctv oc st₁ fo ps', ps' = ps ++ #[rawInt pos.line, rawInt pos.col, .ref c'] → fo = (kla_obj "<lambda>" qual params body scope clos pm c' ctv) → CodeOk oc qual → Upd st T (.raw (tabObj ps)) (.raw (tabObj ps')) st₁ →
      Bd C sc cel loc x (.ref F) ((F, .raw fo) :: (c', .raw oc) :: st₁) fun loc' st'' => Post .next loc' st'') :
    Ex1C C (.ref c) lv sc cel loc (.Assign [.Name x px] (.Lambda params body scope pos) p) st Post :=
  Ex1C.lam G hsw hdef hcl hm ht hnf fun F c' qual pm ctv oc st₁ => h F c' qual pm ctv oc st₁ _ _ rfl rfl
theorem perm12 (e0 e1 e2 e3 e4 e5 e6 e7 e8 e9 e10 e11 : Addr × AO) (st : St) : (e0 :: e1 :: e2 :: e3 :: e4 :: e5 :: e6 :: e7 :: e8 :: e9 :: e10 :: e11 :: st).Perm (e2 :: e8 :: e0 :: e1 :: e4 :: e3 :: e6 :: e7 :: e9 :: e10 :: e5 :: e11 :: st) := by
  have h : ([0, 1, 2, 3, 4, 5, 6, 7, 8, 9, 10, 11].map fun i => [e0, e1, e2, e3, e4, e5, e6, e7, e8, e9, e10, e11].getD i e0).Perm ([2, 8, 0, 1, 4, 3, 6, 7, 9, 10, 5, 11].map fun i => [e0, e1, e2, e3, e4, e5, e6, e7, e8, e9, e10, e11].getD i e0) := List.Perm.map _ (by decide)
  exact h.append_right st
theorem ExC.nd {cd : Value} {ss : List Stmt} {Post : Fl → Locs → St → Prop} (h : (adr st).Nodup → ExC C cd lv sc cel loc ss st Post) : ExC C cd lv sc cel loc ss st Post := fun P A env s Q E hc a en R => h R.nd P A env s Q E hc a en R
theorem lexer_fn (G : Pg C) (GX : GdX C 269 265) {text blanks : PySem.Str} (hlen : text.length ≤ 500) :
    Fn C (lv + 4) (.ref 270) [.str text, .str blanks] [] ((265, .raw (tabObj #[])) :: st) fun y s => ∃ a es c2 oc2 tb, y = .ref a.x ∧ a.text = text ∧ RdOk C a ∧ EsOk a es 1 blanks 0 ∧ s = lxS a es 0 [] ((c2, .raw oc2) :: (265, .raw (tabObj tb)) :: st) := by
  refine Fn.permP ?_
  refine' Pg.fnC2 (.ref 269) G [Str.ofString "text", Str.ofString "blanks"] [(Str.ofString "blanks", .str blanks)] (Str.ofString "at") (Str.ofString "text") none (some (.str text)) ?ho ?hcd ?hb ?hclo ?hgl ?hbu ?hco ?hgen ?hk ?hok ?hbind ?hloc ?hcn ?hcx _ ?hsc ?hcode ?h
  walk_at "fn"
  case hbind => exact len2 fun _ _ => rfl
  case hcode => exact rfl
  intro ca ct
  refine ExC.cons (Ex1.toC ?_)
  refine' Ex1.assign ?h1 ?_
  case h1 => walk_at "sw"
  refine Ev.lstM rfl ?_
  repeat walk_at "go"
  intro AT
  refine Bd.ce rfl rfl (.tail .head) ?_
  refine ExC.nd fun nd => ?_
  refine ExC.cons ?_
  refine' Ex1C.def' (ps := #[]) (clos := [(Str.ofString "text", ct), (Str.ofString "at", ca)]) GX ?hd0 ?hk0 ?ha ?hcl ?hm ?ht ?hnf ?_
  case hd0 => exact rfl
  case hk0 => exact rfl
  case ha => exact fun _ => rfl
  case hcl => exact rfl
  case hm => walk_at "mem"
  case ht => exact trivial
  case hnf => exact rfl
  intro F cF qual doc pm ctv oc st₁ fo ps1 hps1 hfo hoc u
  obtain rfl := u.det (.tail (.tail (.tail .head))) nd
  walk_at "go"
  refine ExC.nd fun nd => ?_
  refine ExC.cons ?_
  refine' Ex1C.lam' (clos := []) GX ?hsw ?hdef ?hcl ?hm ?ht ?hnf ?_
  case hsw => walk_at "sw"
  case hdef => exact fun _ => rfl
  case hcl => exact rfl
  case hm => walk_at "mem"
  case ht => rw [hps1]; exact trivial
  case hnf => rw [hps1]; exact rfl
  intro S c2 qual2 pm2 ctv2 oc2 st₂ so ps2 hps2 hso hoc2 u2
  obtain rfl := u2.det (.tail (.tail (.tail (.tail (.tail .head))))) nd
  walk_at "go"
  refine ExC.nd fun nd => ?_
  refine ExC.cons (Ex1.toC ?_)
  refine' Ex1.setattrF ?h1 ?_
  case h1 => walk_at "sw"
  walk_at "go"
  walk_at "go"
  refine ⟨S, so, _, F, rfl, rfl, .head _, by rw [hso], by rw [hso], by rw [hso], fun sd st₃ u3 => ?_⟩
  obtain rfl := u3.det .head nd
  refine Ex.toC ?_
  repeat walk_at "go"
  refine (Fn.mono (lmake_fn G) fun y s hq => xe32 hq fun x dx PB e1 e2 => ?_).cl
  subst e1 e2
  repeat walk_at "go"
  refine Ex1.setattr (by walk_at "sw") G.gd ?_
  repeat walk_at "go"
  refine ⟨x, dx, 111, _, _, rfl, ⟨.tail _ (.head _), .tail _ (.tail _ (.head _))⟩, lx_set G rfl, .tail (.tail .head), by simp, ?_⟩
  repeat walk_at "go"
  refine ⟨lxS ⟨x, dx, AT, PB, S, sd, F, cF, ca, ct, so, fo, oc, text⟩ [(Str.ofString "whitespace", AV.str blanks), (Str.ofString "pushback", AV.ref PB), (Str.ofString "whitespace", AV.str (Str.ofString "\n\t\r ")), (Str.ofString "instream", AV.ref S), (Str.ofString "lineno", AV.int 1)] 0 [] ((c2, .raw oc2) :: (265, .raw (tabObj ps2)) :: st), ?perm, ⟨x, dx, AT, PB, S, sd, F, cF, ca, ct, so, fo, oc, text⟩, _, c2, oc2, _, rfl, rfl, ?rd, ?es, rfl⟩
  case es => exact ⟨rfl, rfl, rfl, rfl, rfl, rfl, rfl, by simp⟩
  case perm => exact perm12 _ _ _ _ _ _ _ _ _ _ _ _ st
  case rd =>
    refine ⟨by rw [hso], ⟨_, by rw [hso]⟩, ⟨_, by rw [hfo]⟩, fun lv es p q rest hp => ?_, hlen⟩
    have hlen' : p ≤ text.length := hp
    refine' Fn.clo G.gd [Str.ofString "size"] [(Str.ofString "text", ct), (Str.ofString "at", ca)] lx_F (by rw [hfo]) ⟨cF, oc, rfl, .tail _ (.tail _ (.tail _ (.tail _ (.tail _ (.tail _ (.tail _ (.head _))))))), hoc⟩ rfl rfl rfl rfl rfl rfl rfl ?hcell ?hloc ?hnd ?hbind _ ?hsc ?_
    case hsc => dsimp only; exact rfl
    case hcell =>
      intro y hy
      dsimp only at hy
      simp only [List.mem_cons, List.not_mem_nil, or_false] at hy
      rcases hy with e | e | e | e | e <;> (subst e; intro z; cases z)
    case hloc => intro n hn; rw [List.mem_singleton.mp hn]; exact rfl
    case hnd => exact List.nodup_cons.mpr ⟨by simp, List.nodup_nil⟩
    case hbind => exact len1 fun _ => rfl
    walk_at "go"
    refine' Ex1.assign ?h1 ?_
    case h1 => walk_at "sw"
    refine' Ev.slc ?_
    refine' Ev.free ?h1 ?h2 ?h3 ?_ ?h4 ?h5
    case h1 => exact rfl
    case h2 => exact rfl
    case h3 => exact .tail _ (.tail _ (.tail _ (.tail _ (.tail _ (.tail _ (.tail _ (.tail _ (.tail _ (.head _)))))))))
    case h4 => exact rfl
    case h5 => exact rfl
    refine Evp.some (Ev.ix ?_)
    have mca : (ca, AO.cell (some (.ref AT))) ∈ lxS ⟨x, dx, AT, PB, S, sd, F, cF, ca, ct, so, fo, oc, text⟩ es p q rest := .tail _ (.tail _ (.tail _ (.tail _ (.tail _ (.tail _ (.tail _ (.tail _ (.head _))))))))
    have mAT : (AT, AO.list [.int (p : Nat)]) ∈ lxS ⟨x, dx, AT, PB, S, sd, F, cF, ca, ct, so, fo, oc, text⟩ es p q rest := .tail _ (.head _)
    refine' Ev.free ?h1 ?h2 mca ?_ ?h4 ?h5
    case h1 => exact rfl
    case h2 => exact rfl
    case h4 => exact rfl
    case h5 => exact rfl
    walk_at "go"
    refine Op2.ixL (fun _ _ => rfl) (by decide) (by decide) (.ref mAT) rfl ?_
    refine Evp.some (Ev.bin (Ev.ix ?_))
    refine' Ev.free ?h1 ?h2 mca ?_ ?h4 ?h5
    case h1 => exact rfl
    case h2 => exact rfl
    case h4 => exact rfl
    case h5 => exact rfl
    walk_at "go"
    refine Op2.ixL (fun _ _ => rfl) (by decide) (by decide) (.ref mAT) rfl ?_
    walk_at "go"
    refine Op2.addI ?_
    refine Sl.str (lo := some (p : Int)) (hi := some ((p : Int) + 1)) .int .int (by rw [sizeLine_eq]; refine (?_ : text.length ≤ _); omega) ?_
    rw [slice_at hlen']
    walk_at "go"
    walk_at "go"
    refine' Ex1.store ?h1 ?_
    case h1 => walk_at "sw"
    refine Ev.bin (Ev.ix ?_)
    refine' Ev.free ?h1 ?h2 mca ?_ ?h4 ?h5
    case h1 => exact rfl
    case h2 => exact rfl
    case h4 => exact rfl
    case h5 => exact rfl
    walk_at "go"
    refine Op2.ixL (fun _ _ => rfl) (by decide) (by decide) (.ref mAT) rfl ?_
    repeat walk_at "go"
    have hsl : (sgAt text p).length ≤ 1 := by
      unfold sgAt
      split
      · exact Nat.le_refl _
      · rw [show (Str.ofString "").length = 0 by decide +kernel]; exact Nat.zero_le _
    refine Cl.lenS (by omega) ?_
    refine Op2.addI ?_
    refine' Ev.free ?h1 ?h2 mca ?_ ?h4 ?h5
    case h1 => exact rfl
    case h2 => exact rfl
    case h4 => exact rfl
    case h5 => exact rfl
    walk_at "go"
    refine Op3.setL (by decide) (by decide) (by simp) (.tail .head) ?_
    repeat walk_at "go"
    refine ⟨rfl, ?_⟩
    have hsum : (p : Int) + ((sgAt text p).length : Int) = ((min (p + 1) text.length : Nat) : Int) := by
      unfold sgAt
      have hl := strlen text
      cases hc : text.cps.toList[p]? with
      | some c =>
        have hlt := (List.getElem?_eq_some_iff.mp hc).1
        refine (?_ : (p : Int) + (1 : Nat) = _)
        omega
      | none =>
        have hge : text.cps.toList.length ≤ p := List.getElem?_eq_none_iff.mp hc
        rw [show (Str.ofString "").length = 0 by decide +kernel]
        omega
    refine (?_ : _ :: (AT, AO.list [AV.int ((p : Int) + ((sgAt text p).length : Int))]) :: _ = _)
    rw [hsum]
    rfl
end
section
variable {C : Cx} {lv : Nat} {sc : Scope} {cel : List (PySem.Str × Addr)} {loc : Locs} {st : St}
set_option pp.deepTerms false
set_option pp.maxSteps 2000
noncomputable def sg (c : Nat) : PySem.Str := ⟨#[c]⟩
theorem sgs_natS (l : List Nat) : sgs (natS l) = l.map sg := by unfold sgs natS sg; simp
theorem signs_natS (l : List Nat) : signs (natS l) = sL (l.map sg) := by rw [signs_sgs, sgs_natS]
theorem natS_tail (c : Nat) (l : List Nat) : subS (natS (c :: l)) (some 1) none = natS l := by
  have h := eq_of_beq (slice_closes_fromL (x := natS (c :: l)) (i := 1) (b := ((c :: l).length : Int)) (by decide) (by rw [natS_len]; simp; lia) (by rw [natS_len]))
  unfold subS
  rw [h]
  unfold natS
  simp
theorem natS_ne (l : List Nat) : (natS l != Str.ofString "") = !l.isEmpty := by
  rw [natS_nil]
  cases l with
  | nil => rfl
  | cons c l =>
    have : (natS (c :: l) == natS []) = false := beq_eq_false_iff_ne.mpr fun z => by unfold natS at z; injection z with z; simp at z
    refine (?_ : (!(natS (c :: l) == natS [])) = _)
    rw [this]; rfl
theorem join_natS (l : List Nat) : Txt.join (Str.ofString "") (l.map sg) = natS l := by
  rw [natS_nil]
  unfold Txt.join
  have key : ∀ (l : List Nat) (acc : Array Nat), (l.map sg).foldl (fun acc p => acc ++ (natS []).cps ++ p.cps) acc = acc ++ l.toArray := by
    intro l
    induction l with
    | nil => intro acc; simp
    | cons c l ih =>
      intro acc
      rw [List.map_cons, List.foldl_cons, ih]
      simp [natS, sg]
  cases l with
  | nil => rfl
  | cons c l =>
    refine (?_ : (⟨(l.map sg).foldl (fun acc p => acc ++ (natS []).cps ++ p.cps) #[c]⟩ : PySem.Str) = natS (c :: l))
    rw [key]
    unfold natS
    simp
noncomputable def inN (N : PySem.Str → List PySem.Str) (p c : Nat) : Bool := decide (sg c ∈ N (sg p))
noncomputable def tiedN (N : PySem.Str → List PySem.Str) (p : Nat) (w : List Nat) : List Nat := w.filter (inN N p)
noncomputable def othersN (N : PySem.Str → List PySem.Str) (p : Nat) (w : List Nat) : List Nat := w.filter fun c => !inN N p c
noncomputable def piecesN (N : PySem.Str → List PySem.Str) (p : Nat) (w : List Nat) : List (List Nat) := [tiedN N p w, othersN N p w].filter fun u => !u.isEmpty
noncomputable def partedN (N : PySem.Str → List PySem.Str) (p : Nat) (ws : List (List Nat)) : List (List Nat) := ws.flatMap (piecesN N p)
theorem tiedN_map {N : PySem.Str → List PySem.Str} {p : Nat} {w : List Nat} : (tiedN N p w).map sg = tiedOf N (sg p) (w.map sg) := by
  unfold tiedN tiedOf inN; rw [List.filter_map]; rfl
theorem othersN_map {N : PySem.Str → List PySem.Str} {p : Nat} {w : List Nat} : (othersN N p w).map sg = othersOf N (sg p) (w.map sg) := by
  unfold othersN othersOf inN; rw [List.filter_map]; rfl
theorem piecesN_map {N : PySem.Str → List PySem.Str} {p : Nat} {w : List Nat} : (piecesN N p w).map (·.map sg) = piecesOf N (sg p) (w.map sg) := by
  unfold piecesN piecesOf
  rw [← tiedN_map, ← othersN_map]
  rw [show [(tiedN N p w).map sg, (othersN N p w).map sg] = [tiedN N p w, othersN N p w].map (·.map sg) from rfl, List.filter_map]
  congr 1
  refine List.filter_congr fun u _ => ?_
  cases u <;> rfl
theorem partedN_map {N : PySem.Str → List PySem.Str} {p : Nat} : ∀ {ws : List (List Nat)}, (partedN N p ws).map (·.map sg) = parted N (sg p) (ws.map (·.map sg))
  | [] => rfl
  | w :: ws => by
    have ih := partedN_map (N := N) (p := p) (ws := ws)
    unfold partedN parted at ih ⊢
    rw [List.flatMap_cons, List.map_append, piecesN_map, ih, List.map_cons, List.flatMap_cons]
noncomputable def totN (ws : List (List Nat)) : Nat := (ws.map List.length).sum
theorem piecesN_len {N : PySem.Str → List PySem.Str} {p : Nat} {w : List Nat} : totN (piecesN N p w) = w.length := by
  have h := pieces_len (N := N) (p := sg p) (w := w.map sg)
  rw [← piecesN_map] at h
  unfold totN
  rw [List.map_map] at h
  rw [List.length_map] at h
  rw [← h]
  congr 1
  refine List.map_congr_left fun u _ => ?_
  simp
theorem partedN_len {N : PySem.Str → List PySem.Str} {p : Nat} : ∀ {ws : List (List Nat)}, totN (partedN N p ws) = totN ws
  | [] => rfl
  | w :: ws => by
    have ih := partedN_len (N := N) (p := p) (ws := ws)
    unfold partedN at ih ⊢
    rw [List.flatMap_cons]
    have : totN (piecesN N p w ++ ws.flatMap (piecesN N p)) = totN (piecesN N p w) + totN (ws.flatMap (piecesN N p)) := by unfold totN; rw [List.map_append, List.sum_append]
    rw [this, ih, piecesN_len]
    unfold totN; simp
theorem piecesN_ne {N : PySem.Str → List PySem.Str} {p : Nat} {w u : List Nat} (h : u ∈ piecesN N p w) : u ≠ [] := by
  have := (List.mem_filter.mp h).2
  intro e; subst e; simp at this
theorem partedN_ne {N : PySem.Str → List PySem.Str} {p : Nat} {ws : List (List Nat)} {u : List Nat} (h : u ∈ partedN N p ws) : u ≠ [] := by
  refine xe12 (List.mem_flatMap.mp h) fun w _ hu => ?_
  exact piecesN_ne hu
theorem tot_len {ws : List (List Nat)} (h : ∀ w ∈ ws, w ≠ []) : ws.length ≤ totN ws := by
  induction ws with
  | nil => exact Nat.zero_le _
  | cons w ws ih =>
    have h1 := ih fun u hu => h u (.tail _ hu)
    have h2 : 0 < w.length := List.length_pos_iff.mpr (h w (.head _))
    unfold totN at h1 ⊢
    simp only [List.map_cons, List.sum_cons, List.length_cons]
    lia
noncomputable def headS (ws : List (List Nat)) : PySem.Str := natS (ws.headD [])
theorem mt_tok (G : Pg C) {a : LxA} {es : List (PySem.Str × AV)} {n : Int} {ws : PySem.Str} {p : Nat} (I : OI st a.x a.dx 111 es) (H : EsOk a es n ws p) : Mt C (.ref a.x) (Str.ofString "get_token") st (.ref 101) [.ref a.x] :=
  Mt.inst G.gd I H.m2 (by rw [G.k]; rfl) (by rw [G.k]; rfl) (by rw [G.k]; rfl) (by rw [G.k]; rfl)
theorem mt_push (G : Pg C) {a : LxA} {es : List (PySem.Str × AV)} {n : Int} {ws : PySem.Str} {p : Nat} (I : OI st a.x a.dx 111 es) (H : EsOk a es n ws p) : Mt C (.ref a.x) (Str.ofString "push_token") st (.ref 108) [.ref a.x] :=
  Mt.inst G.gd I H.m3 (by rw [G.k]; rfl) (by rw [G.k]; rfl) (by rw [G.k]; rfl) (by rw [G.k]; rfl)
end
section
variable {C : Cx} {lv : Nat} {sc : Scope} {cel : List (PySem.Str × Addr)} {loc : Locs} {st : St}
theorem oi_pre {a : LxA} {es : List (PySem.Str × AV)} {p : Nat} {q : List PySem.Str} {rest : St} (pre : St) : OI (pre ++ lxS a es p q rest) a.x a.dx 111 es :=
  ⟨List.mem_append_right _ EsOk.lx.1, List.mem_append_right _ EsOk.lx.2⟩
theorem gtF (G : Pg C) {a : LxA} (R : RdOk C a) {es : List (PySem.Str × AV)} {M : Int} {ws : PySem.Str} {p : Nat} {rest : St} (pre : St) (H : LxOk a es M ws p) {out rem : List Nat} (hout : tok (wsB ws) (a.text.cps.toList.drop p) = some (out, rem)) :
    Fn C (lv + 5) (.ref 101) [.ref a.x] [] (pre ++ lxS a es p [] rest) fun y s => y = .str (natS out) ∧ ∃ es' p', s = pre ++ lxS a es' p' [] rest ∧ LxOk a es' M ws p' ∧ a.text.cps.toList.drop p' = rem :=
  Fn.frame pre (L := lxL a es p []) (rest := rest) (Fn.mono (gt_fn G R (rest := pre ++ rest) H hout) fun y s ⟨e1, es', p', e2, h3, h4⟩ => ⟨lxL a es' p' [], e2, e1, es', p', rfl, h3, h4⟩)
theorem gtpF (G : Pg C) {a : LxA} {es : List (PySem.Str × AV)} {M : Int} {ws : PySem.Str} {p : Nat} {rest : St} {w : PySem.Str} {q : List PySem.Str} (pre : St) (H : LxOk a es M ws p) (hq : q.length ≤ 1000) :
    Fn C (lv + 1) (.ref 101) [.ref a.x] [] (pre ++ lxS a es p (w :: q) rest) fun y s => y = .str w ∧ s = pre ++ lxS a es p q rest :=
  Fn.frame pre (L := lxL a es p (w :: q)) (rest := rest) (Fn.mono (gtp_fn G (rest := pre ++ rest) H hq) fun y s hq => xe02 hq fun e1 e2 => ⟨lxL a es p q, e2, e1, rfl⟩)
theorem pushF (G : Pg C) {a : LxA} {es : List (PySem.Str × AV)} {M : Int} {ws : PySem.Str} {p : Nat} {rest : St} {w : PySem.Str} {q : List PySem.Str} (pre : St) (H : LxOk a es M ws p) (hq : q.length ≤ 1000) :
    Fn C (lv + 1) (.ref 108) [.ref a.x, .str w] [] (pre ++ lxS a es p q rest) fun y s => y = .none ∧ s = pre ++ lxS a es p (q ++ [w]) rest :=
  Fn.frame pre (L := lxL a es p q) (rest := rest) (Fn.mono (push_fn G (rest := pre ++ rest) H hq) fun y s hq => xe02 hq fun e1 e2 => ⟨lxL a es p (q ++ [w]), e2, e1, rfl⟩)
theorem gtK (G : Pg C) {a : LxA} (R : RdOk C a) {es : List (PySem.Str × AV)} {M : Int} {ws : PySem.Str} {p : Nat} {rest : St} (pre : St) (H : LxOk a es M ws p) {out rem : List Nat} (hout : tok (wsB ws) (a.text.cps.toList.drop p) = some (out, rem)) {Post : AV → St → Prop}
    (k : ∀ es' p', LxOk a es' M ws p' → a.text.cps.toList.drop p' = rem → Post (.str (natS out)) (pre ++ lxS a es' p' [] rest)) : Cl C (lv + 5) (.ref 101) [.ref a.x] [] (pre ++ lxS a es p [] rest) Post :=
  (Fn.mono (gtF G R pre H hout) fun y s hz => by obtain ⟨rfl, es', p', rfl, h1, h2⟩ := hz; exact k es' p' h1 h2).cl
theorem LxOk.es {a : LxA} {es : List (PySem.Str × AV)} {M : Int} {ws : PySem.Str} {p : Nat} (H : LxOk a es M ws p) : ∃ n, EsOk a es n ws p := let ⟨n, h, _⟩ := H; ⟨n, h⟩
theorem mtT (G : Pg C) {a : LxA} {es : List (PySem.Str × AV)} {M : Int} {ws : PySem.Str} {p : Nat} {q : List PySem.Str} {rest : St} (pre : St) (H : LxOk a es M ws p) : Mt C (.ref a.x) (Str.ofString "get_token") (pre ++ lxS a es p q rest) (.ref 101) [.ref a.x] :=
  let ⟨_, h⟩ := H.es; mt_tok G (oi_pre pre) h
theorem mtP (G : Pg C) {a : LxA} {es : List (PySem.Str × AV)} {M : Int} {ws : PySem.Str} {p : Nat} {q : List PySem.Str} {rest : St} (pre : St) (H : LxOk a es M ws p) : Mt C (.ref a.x) (Str.ofString "push_token") (pre ++ lxS a es p q rest) (.ref 108) [.ref a.x] :=
  let ⟨_, h⟩ := H.es; mt_push G (oi_pre pre) h
noncomputable def wL (ws : List (List Nat)) : List AV := ws.map fun w => AV.str (natS w)
theorem piecesN_le {N : PySem.Str → List PySem.Str} {p : Nat} {w : List Nat} : (piecesN N p w).length ≤ 2 := List.length_filter_le _ _
theorem partedN_le {N : PySem.Str → List PySem.Str} {p : Nat} : ∀ {ws : List (List Nat)}, (partedN N p ws).length ≤ 2 * ws.length
  | [] => Nat.le_refl _
  | w :: ws => by
    have ih := partedN_le (N := N) (p := p) (ws := ws)
    have h1 := piecesN_le (N := N) (p := p) (w := w)
    unfold partedN at ih ⊢
    rw [List.flatMap_cons, List.length_append, List.length_cons]
    lia
theorem tot_mem {ws : List (List Nat)} {w : List Nat} (h : w ∈ ws) : w.length ≤ totN ws := by
  induction ws with
  | nil => cases h
  | cons v ws ih =>
    unfold totN at ih ⊢
    simp only [List.map_cons, List.sum_cons]
    rcases List.mem_cons.mp h with e | e
    · subst e; lia
    · have := ih e; lia
noncomputable def tiedF (N : PySem.Str → List PySem.Str) (p : Nat) : AV → Option AV := asS fun s => if s ∈ N (sg p) then some (.str s) else none
noncomputable def othersF (N : PySem.Str → List PySem.Str) (p : Nat) : AV → Option AV := asS fun s => if s ∈ N (sg p) then none else some (.str s)
theorem tiedF_is {N : PySem.Str → List PySem.Str} {p : Nat} : ∀ {w : List Nat}, (sL (w.map sg)).filterMap (tiedF N p) = sL ((tiedN N p w).map sg)
  | [] => rfl
  | d :: w => by
    have ih := tiedF_is (N := N) (p := p) (w := w)
    unfold sL tiedN inN at ih ⊢
    simp only [List.map_cons, List.filterMap_cons, List.filter_cons]
    by_cases h : sg d ∈ N (sg p)
    · simp only [tiedF, asS_e, h, if_true, decide_true, List.map_cons] at ih ⊢; rw [← ih]
    · simp only [tiedF, asS_e, h, if_false, decide_false, Bool.false_eq_true] at ih ⊢; exact ih
theorem othersF_is {N : PySem.Str → List PySem.Str} {p : Nat} : ∀ {w : List Nat}, (sL (w.map sg)).filterMap (othersF N p) = sL ((othersN N p w).map sg)
  | [] => rfl
  | d :: w => by
    have ih := othersF_is (N := N) (p := p) (w := w)
    unfold sL othersN inN at ih ⊢
    simp only [List.map_cons, List.filterMap_cons, List.filter_cons]
    by_cases h : sg d ∈ N (sg p)
    · simp only [othersF, asS_e, h, if_true, decide_true, Bool.not_true, Bool.false_eq_true, if_false] at ih ⊢; exact ih
    · simp only [othersF, asS_e, h, if_false, decide_false, Bool.not_false, if_true, List.map_cons] at ih ⊢; rw [← ih]
theorem join_le {w : List Nat} (h : w.length ≤ 6) : ((w.map sg).map (·.length)).sum + (w.map sg).length * (Str.ofString "").length ≤ 16777216 := by
  rw [show (Str.ofString "").length = 0 by decide +kernel, Nat.mul_zero, List.map_map]
  have : (w.map ((·.length) ∘ sg)).sum ≤ w.length := by
    clear h
    induction w with
    | nil => exact Nat.le_refl _
    | cons a w ih =>
      simp only [List.map_cons, List.sum_cons, List.length_cons]
      have : ((·.length) ∘ sg) a = 1 := rfl
      lia
  lia
noncomputable def zOf (N : PySem.Str → List PySem.Str) (c : Nat) (w : List Nat) (j : Nat) : List (List Nat) := ([tiedN N c w, othersN N c w].take j).filter fun u => !u.isEmpty
theorem zOf_zero {N : PySem.Str → List PySem.Str} {c : Nat} {w : List Nat} : zOf N c w 0 = [] := rfl
theorem zOf_le {N : PySem.Str → List PySem.Str} {c : Nat} {w : List Nat} {j : Nat} : (zOf N c w j).length ≤ 2 :=
  Nat.le_trans (List.length_filter_le _ _) (by rw [List.length_take]; simp; lia)
theorem zOf_succ {N : PySem.Str → List PySem.Str} {c : Nat} {w : List Nat} {j : Nat} (h : j < [tiedN N c w, othersN N c w].length) : zOf N c w (j + 1) = if (!([tiedN N c w, othersN N c w][j]).isEmpty) = true then zOf N c w j ++ [[tiedN N c w, othersN N c w][j]] else zOf N c w j := by
  unfold zOf
  rw [List.take_succ_eq_append_getElem h, List.filter_append, List.filter_cons, List.filter_nil]
  split
  · rfl
  · rw [List.append_nil]
theorem partedN_mem {N : PySem.Str → List PySem.Str} {p : Nat} {ws : List (List Nat)} {v : List Nat} (h : v ∈ partedN N p ws) {d : Nat} (hd : d ∈ v) : ∃ w ∈ ws, d ∈ w := by
  refine xe12 (List.mem_flatMap.mp h) fun w hw hv => ?_
  refine ⟨w, hw, ?_⟩
  have := (List.mem_filter.mp hv).1
  simp only [List.mem_cons, List.not_mem_nil, or_false] at this
  rcases this with e | e
  · subst e; exact (List.mem_filter.mp hd).1
  · subst e; exact (List.mem_filter.mp hd).1
structure LnI (a : LxA) (M : Int) (ws : PySem.Str) (N : PySem.Str → List PySem.Str) (V : List Nat) (res : List PySem.Str) (wd : List (List Nat)) (row : List PySem.Str) (es : List (PySem.Str × AV)) (p : Nat) : Prop where
  ne : ∀ u ∈ wd, u ≠ []
  sum : row.length + totN wd = 6
  ok : LxOk a es M ws p
  fin : if wd = [] then a.text.cps.toList.drop p = [] else tok (wsB ws) (a.text.cps.toList.drop p) = some ([], [])
  run : lrun N (6 - row.length) (wd.map (·.map sg)) row = res
  sub : ∀ u ∈ wd, ∀ c ∈ u, c ∈ V
noncomputable abbrev byS (a : LxA) (ds : List (PySem.Str × AV)) (rest : St) (Rw ap an am : Addr) (row : List PySem.Str) (pt : Option AV) (es : List (PySem.Str × AV)) (p : Nat) (qs : List PySem.Str) : St :=
  (Rw, .list (sL row)) :: (ap, .cell pt) :: (an, .cell (some (.dct ds))) :: (am, .cell (some (.ref a.x))) :: lxS a es p qs rest
noncomputable abbrev byL (Rw : Addr) (n : Nat) : Locs := [(Str.ofString "row", .ref Rw), (Str.ofString "waiting", .int n)]
noncomputable abbrev LnW (a : LxA) (M : Int) (ws : PySem.Str) (N : PySem.Str → List PySem.Str) (w0 : List Nat) (ds : List (PySem.Str × AV)) (rest : St) (Rw ap an am : Addr) : Nat → Locs → St → Prop := fun n l s =>
  ∃ wd row es p pt, n = totN wd ∧ LnI a M ws N w0 (lrun N 6 [w0.map sg] []) wd row es p ∧ Sub [(Str.ofString "row", .ref Rw), (Str.ofString "waiting", .int wd.length), (Str.ofString "part", .str (headS wd))] l ∧ s = byS a ds rest Rw ap an am row pt es p (wd.tail.map natS)
theorem byline_fn (G : Pg C) {a : LxA} (R : RdOk C a) {es : List (PySem.Str × AV)} {M : Int} {ws : PySem.Str} {p : Nat} {rest : St} (H : LxOk a es M ws p) {w0 r1 : List Nat} (h0 : tok (wsB ws) (a.text.cps.toList.drop p) = some (w0, r1)) (h1 : tok (wsB ws) r1 = some ([], [])) (h6 : w0.length = 6)
    {ds : List (PySem.Str × AV)} {N : PySem.Str → List PySem.Str} (hN : DictIs ds N (w0.map sg)) :
    Fn C (lv + 6) (.ref 294) [.ref a.x, .dct ds] [] (lxS a es p [] rest) fun y s => y = .lst (sL (lrun N 6 [w0.map sg] [])) ∧ ∃ es' p', s = lxS a es' p' [] rest ∧ LxOk a es' M ws p' ∧ a.text.cps.toList.drop p' = [] := by
  refine Fn.sub ?_
  refine' Pg.fn3 G [Str.ofString "machine", Str.ofString "near"] [] (Str.ofString "point") (Str.ofString "near") (Str.ofString "machine") none (some (.dct ds)) (some (.ref a.x)) ?ho ?hcd ?hb ?hclo ?hgl ?hbu ?hco ?hgen ?hk ?hok ?hbind ?hloc ?hcn ?hcx _ ?hsc ?h
  walk_at "fn"
  case hbind => exact len2 fun _ _ => rfl
  intro ap an am
  refine Ex.gen fun Q0 hQ0 => ?_
  walk_at "go"
  walk_at "go"
  refine Ev.lstM rfl ?_
  repeat walk_at "go"
  intro Rw
  repeat walk_at "go"
  refine ⟨_, _, mtT G [(Rw, .list []), (ap, .cell none), (an, .cell (some (.dct ds))), (am, .cell (some (.ref a.x)))] H, ?_⟩
  repeat walk_at "go"
  refine gtK G R (lv := lv) [(Rw, .list []), (ap, .cell none), (an, .cell (some (.dct ds))), (am, .cell (some (.ref a.x)))] H h0 fun es1 p1 H1 hp1 => ?_
  repeat walk_at "go"
  refine Ex1.while (LnW a M ws N w0 ds rest Rw ap an am) 6 ⟨[w0], [], es1, p1, none, ?_, ?_, ?_, ?_⟩ ?_
  · simp [totN, h6]
  · refine ⟨fun u hu => ?_, by simp [totN, h6], H1, ?_, rfl, fun u hu c hc => ?_⟩
    · rw [List.mem_singleton.mp hu]; intro e; rw [e] at h6; simp at h6
    · rw [if_neg (by simp), hp1]; exact h1
    · rw [List.mem_singleton.mp hu] at hc; exact hc
  · walk_at "sub"
  · rfl
  · rintro n l s ⟨wd, row, es2, p2, pt, rfl, hI, hs, rfl⟩
    have hsum := hI.sum
    have hwl := tot_len hI.ne
    refine Tr.rel hs ?_
    repeat walk_at "go"
    have hne : (headS wd != Str.ofString "") = !wd.isEmpty := by
      unfold headS
      rw [natS_ne]
      cases wd with
      | nil => rfl
      | cons u v =>
        have := hI.ne u (.head _)
        cases u with
        | nil => exact absurd rfl this
        | cons c u => rfl
    rw [hne]
    refine iteB (fun e => ?_) (fun e => ?_)
    · match wd, hI, hs, hsum, hwl with
      | [], hI, hs, hsum, hwl => simp at e
      | [] :: q, hI, hs, hsum, hwl => exact absurd rfl (hI.ne _ (.head _))
      | (c :: u) :: q, hI, hs, hsum, hwl =>
        have hcV : c ∈ w0 := hI.sub _ (.head _) c (.head _)
        have hNc := hN (sg c) (List.mem_map.mpr ⟨c, hcV, rfl⟩)
        have hq6 : q.length ≤ 5 := by simp at hwl; lia
        refine Ex.rel hs (Ex.gen fun Q1 hQ1 => ?_)
        repeat walk_at "go"
        refine Op2.ixS (c := c) (fun _ _ => rfl) (by lia) (by lia) rfl ?_
        repeat walk_at "go"
        refine Cl.append .head (by rw [sizeLine_eq]; simp [sL]; lia) ?_
        repeat walk_at "go"
        refine Ev.lstF rfl ?_
        repeat walk_at "go"
        have htl : ((c :: u) :: q).tail = q := rfl
        rw [htl]
        refine Sl.str .int .none (by rw [sizeLine_eq]; unfold headS; rw [natS_len]; refine (?_ : (c :: u).length ≤ _); have := hsum; simp [totN] at this ⊢; lia) ?_
        have hsl : subS (headS ((c :: u) :: q)) (some 1) none = natS u := natS_tail c u
        rw [hsl]
        repeat walk_at "go"
        refine Ev.lcomp' rfl (fun _ _ => rfl) _ rfl ?_
        refine CompIn.of0 rfl ?_
        repeat walk_at "go"
        have hw1 : (((((c :: u) :: q).length : Nat) : Int) - 1 - 0).toNat = q.length := by simp
        refine ⟨_, ItOf.rng (by decide) (by decide) (by simp <;> lia) (by simp <;> lia), fun D => ?_⟩
        refine CLp.one (em := emitL _) .list rfl (fun i _ s => s = (D, .list ((q.take i).map fun w => .str (natS w))) :: (Rw, .list (sL row ++ [AV.str (⟨#[c]⟩ : PySem.Str)])) :: (ap, .cell (some (AV.str (⟨#[c]⟩ : PySem.Str)))) :: (an, .cell (some (.dct ds))) :: (am, .cell (some (.ref a.x))) :: lxS a es2 p2 ((q.drop i).map natS) rest) rfl (fun i y loc' st' hy hi => ?_) (fun loc' st' hi => ?_)
        · subst hi
          refine xe02 (rangeL_get hy) fun _ hi => ?_
          rw [hw1] at hi
          have hdr : q.drop i = q[i] :: q.drop (i + 1) := List.drop_eq_getElem_cons hi
          rw [hdr, List.map_cons]
          repeat walk_at "go"
          refine Em.list ?_
          repeat walk_at "go"
          refine ⟨_, _, mtT G [(D, .list ((q.take i).map fun w => .str (natS w))), (Rw, .list (sL row ++ [AV.str (⟨#[c]⟩ : PySem.Str)])), (ap, .cell (some (AV.str (⟨#[c]⟩ : PySem.Str)))), (an, .cell (some (.dct ds))), (am, .cell (some (.ref a.x)))] hI.ok, ?_⟩
          repeat walk_at "go"
          refine Fn.k1 (gtpF G (lv := lv + 4) [(D, .list ((q.take i).map fun w => .str (natS w))), (Rw, .list (sL row ++ [AV.str (⟨#[c]⟩ : PySem.Str)])), (ap, .cell (some (AV.str (⟨#[c]⟩ : PySem.Str)))), (an, .cell (some (.dct ds))), (am, .cell (some (.ref a.x)))] hI.ok (by simp; lia)) ?_
          refine ⟨_, _, .head, by rw [sizeLine_eq]; simp; lia, ?_⟩
          rw [List.take_succ_eq_append_getElem hi, List.map_append]
          rfl
        · subst hi
          refine ⟨_, _, .lst .head (List.Sublist.refl _), ?_⟩
          have hl : (rangeL 0 ((((c :: u) :: q).length : Nat) - 1)).length = q.length := by unfold rangeL; simp
          rw [hl, List.take_length, List.drop_length, List.map_nil]
          repeat walk_at "go"
          refine Op2.addL .lst .lst (by rw [sizeLine_eq]; simp; lia) ?_
          rw [show [AV.str (natS u)] ++ q.map (fun w => AV.str (natS w)) = wL (u :: q) from rfl]
          have hrl : row.length ≤ 6 := by lia
          have e3 : sL row ++ [AV.str (⟨#[c]⟩ : PySem.Str)] = sL (row ++ [sg c]) := by simp [sL, sg]
          rw [e3]
          repeat walk_at "go"
          refine loopS (u :: q) (fun w => AV.str (natS w)) (fun i => byL Rw (partedN N c ((u :: q).take i)).length) (fun i => byS a ds rest Rw ap an am (row ++ [sg c]) (some (.str (sg c))) es2 p2 ((partedN N c ((u :: q).take i)).map natS)) ItOf.lst ?_ rfl ?_ ?_
          · walk_at "sub"
          · intro i hi Q2 hQ2
            have hX : (partedN N c ((u :: q).take i)).length ≤ 12 := Nat.le_trans (partedN_le (N := N) (p := c)) (by rw [List.length_take]; simp; lia)
            have hsuc : partedN N c ((u :: q).take (i + 1)) = partedN N c ((u :: q).take i) ++ piecesN N c (u :: q)[i] := by
              rw [List.take_succ_eq_append_getElem hi]; unfold partedN; rw [List.flatMap_append]; simp
            have hwl6 : (u :: q)[i].length ≤ 6 := by
              have := tot_mem (List.getElem_mem hi); simp [totN] at hsum this; lia
            generalize (u :: q)[i] = w at *
            generalize partedN N c ((u :: q).take i) = X at *
            walk_at "go"
            walk_at "go"
            walk_at "go"
            repeat walk_at "go"
            refine Ev.lcomp' rfl (fun _ _ => rfl) _ rfl ?_
            refine CompIn.l0 rfl (tiedF N c) ?_
            repeat walk_at "go"
            have hsg : signs (natS w) = sL (w.map sg) := signs_natS w
            refine ⟨_, ItOf.str, by rw [hsg, sizeLine_eq]; simp [sL]; lia, fun y hy D xs loc' => ?_, ?_⟩
            · rw [hsg] at hy
              refine xe12 (List.mem_map.mp hy) fun s hs' qe0 => ?_; subst qe0
              repeat walk_at "go"
              refine Op2.ixD (fun _ _ => rfl) .dct hNc ?_
              refine Op2.inStrs .lst ?_
              rw [any_mem]
              repeat walk_at "go"
              unfold tiedF
              refine iteB (fun e => ?_) (fun e => ?_)
              · have e := of_decide_eq_true e
                repeat walk_at "go"
                exact ⟨by simp [asS_e, e], rfl⟩
              · have e := of_decide_eq_false e
                exact ⟨by simp [asS_e, e], rfl⟩
            rw [hsg, tiedF_is]
            have hT : (tiedN N c w).length ≤ 6 := Nat.le_trans (List.length_filter_le _ _) hwl6
            have hO : (othersN N c w).length ≤ 6 := Nat.le_trans (List.length_filter_le _ _) hwl6
            repeat walk_at "go"
            refine Cl.join .lst (join_le hT) ?_
            rw [join_natS]
            repeat walk_at "go"
            refine Ev.lcomp' rfl (fun _ _ => rfl) _ rfl ?_
            refine CompIn.l0 rfl (othersF N c) ?_
            repeat walk_at "go"
            refine ⟨_, ItOf.str, by rw [hsg, sizeLine_eq]; simp [sL]; lia, fun y hy D xs loc' => ?_, ?_⟩
            · rw [hsg] at hy
              refine xe12 (List.mem_map.mp hy) fun s hs' qe0 => ?_; subst qe0
              repeat walk_at "go"
              refine Op2.ixD (fun _ _ => rfl) .dct hNc ?_
              refine Op2.notInStrs .lst ?_
              rw [any_mem]
              repeat walk_at "go"
              unfold othersF
              refine iteB (fun e => ?_) (fun e => ?_)
              · have e : s ∉ N (sg c) := by simpa using e
                repeat walk_at "go"
                exact ⟨by simp [asS_e, e], rfl⟩
              · have e : s ∈ N (sg c) := by simpa using e
                exact ⟨by simp [asS_e, e], rfl⟩
            rw [hsg, othersF_is]
            repeat walk_at "go"
            refine Cl.join .lst (join_le hO) ?_
            rw [join_natS]
            repeat walk_at "go"
            refine Ev.lstF rfl ?_
            repeat walk_at "go"
            refine loopS [tiedN N c w, othersN N c w] (fun w => AV.str (natS w)) (fun j => byL Rw (X ++ zOf N c w j).length) (fun j => byS a ds rest Rw ap an am (row ++ [sg c]) (some (.str (sg c))) es2 p2 ((X ++ zOf N c w j).map natS)) ItOf.lst ?_ (by rw [zOf_zero, List.append_nil]) ?_ ?_
            · rw [zOf_zero, List.append_nil]; walk_at "sub"
            · intro j hj Q3 hQ3
              have hz := zOf_succ (N := N) (c := c) (w := w) hj
              have hzl : (zOf N c w j).length ≤ 2 := zOf_le
              generalize ([tiedN N c w, othersN N c w])[j] = z at *
              generalize zOf N c w j = Z at *
              repeat walk_at "go"
              rw [natS_ne]
              refine iteB (fun e => ?_) (fun e => ?_)
              · have e' : zOf N c w (j + 1) = Z ++ [z] := by rw [hz, if_pos e]
                repeat walk_at "go"
                refine ⟨_, _, mtP G [(Rw, .list (sL (row ++ [sg c]))), (ap, .cell (some (AV.str (sg c)))), (an, .cell (some (.dct ds))), (am, .cell (some (.ref a.x)))] hI.ok, ?_⟩
                repeat walk_at "go"
                refine Fn.k1 (pushF G (lv := lv + 4) [(Rw, .list (sL (row ++ [sg c]))), (ap, .cell (some (AV.str (sg c)))), (an, .cell (some (.dct ds))), (am, .cell (some (.ref a.x)))] hI.ok (by simp; lia)) ?_
                repeat walk_at "go"
                rw [e', show (X ++ (Z ++ [z])).length = (X ++ Z).length + 1 by simp; lia, show (X ++ (Z ++ [z])).map natS = (X ++ Z).map natS ++ [natS z] by simp] at hQ3
                exact hQ3 _ (by walk_at "sub")
              · have e' : zOf N c w (j + 1) = Z := by rw [hz, if_neg (by simp [e])]
                repeat walk_at "go"
                rw [e'] at hQ3
                exact hQ3 _ (by walk_at "sub")
            · intro l hs
              repeat walk_at "go"
              rw [hsuc] at hQ2
              exact hQ2 _ hs
          · intro l hs
            rw [List.take_length] at hs ⊢
            have hne' : ∀ v ∈ partedN N c (u :: q), v ≠ [] := fun v hv => partedN_ne hv
            have htot : totN (partedN N c (u :: q)) = totN (u :: q) := partedN_len
            have htc : totN ((c :: u) :: q) = totN (u :: q) + 1 := by simp [totN]; lia
            have hsum' : (row ++ [sg c]).length + totN (partedN N c (u :: q)) = 6 := by rw [htot, List.length_append]; simp only [List.length_cons, List.length_nil]; lia
            have hrun' : lrun N (6 - (row ++ [sg c]).length) ((partedN N c (u :: q)).map (·.map sg)) (row ++ [sg c]) = lrun N 6 [w0.map sg] [] := by
              have h := hI.run
              refine xe11 (⟨5 - row.length, by lia⟩ : ∃ f, 6 - row.length = f + 1) fun f hf => ?_
              rw [hf] at h
              rw [show 6 - (row ++ [sg c]).length = f by rw [List.length_append]; simp only [List.length_cons, List.length_nil]; lia, partedN_map]
              exact h
            have hsub' : ∀ v ∈ partedN N c (u :: q), ∀ d ∈ v, d ∈ w0 := fun v hv d hd => by
              refine xe12 (partedN_mem hv hd) fun w hw hd' => ?_
              rcases List.mem_cons.mp hw with e | e
              · exact hI.sub _ (.head _) d (.tail _ (e ▸ hd'))
              · exact hI.sub w (.tail _ e) d hd'
            have hfin := hI.fin
            rw [if_neg (by simp)] at hfin
            have hok := hI.ok
            have hln : totN (partedN N c (u :: q)) < totN ((c :: u) :: q) := by lia
            refine Ex.rel hs ?_
            cases hX : partedN N c (u :: q) with
            | nil =>
              rw [hX] at hsum' hrun' hln
              repeat walk_at "go"
              refine ⟨_, _, mtT G [(Rw, .list (sL (row ++ [sg c]))), (ap, .cell (some (AV.str (sg c)))), (an, .cell (some (.dct ds))), (am, .cell (some (.ref a.x)))] hok, ?_⟩
              repeat walk_at "go"
              refine gtK G R (lv := lv) [(Rw, .list (sL (row ++ [sg c]))), (ap, .cell (some (AV.str (sg c)))), (an, .cell (some (.dct ds))), (am, .cell (some (.ref a.x)))] hok hfin fun es3 p3 H3 hp3 => ?_
              repeat walk_at "go"
              refine hQ1 _ _ _ ⟨_, hln, [], row ++ [sg c], es3, p3, _, rfl, ⟨fun v hv => (by cases hv), hsum', H3, by rw [if_pos rfl]; exact hp3, hrun', fun v hv => (by cases hv)⟩, by walk_at "sub", rfl⟩
            | cons v q' =>
              rw [hX] at hsum' hrun' hln hne' hsub'
              have hq' : (v :: q').length ≤ totN (v :: q') := tot_len hne'
              repeat walk_at "go"
              refine ⟨_, _, mtT G [(Rw, .list (sL (row ++ [sg c]))), (ap, .cell (some (AV.str (sg c)))), (an, .cell (some (.dct ds))), (am, .cell (some (.ref a.x)))] hok, ?_⟩
              repeat walk_at "go"
              refine Fn.k1 (gtpF G (lv := lv + 4) [(Rw, .list (sL (row ++ [sg c]))), (ap, .cell (some (AV.str (sg c)))), (an, .cell (some (.dct ds))), (am, .cell (some (.ref a.x)))] hok (by simp only [List.length_map, List.length_cons] at hq' ⊢; lia)) ?_
              repeat walk_at "go"
              refine hQ1 _ _ _ ⟨_, hln, v :: q', row ++ [sg c], es2, p2, _, rfl, ⟨hne', hsum', hok, by rw [if_neg (by simp)]; exact hfin, hrun', hsub'⟩, by walk_at "sub", rfl⟩
    · have hnil : wd = [] := by
        cases wd with
        | nil => rfl
        | cons v q => simp at e
      subst hnil
      have hr : row = lrun N 6 [w0.map sg] [] := by
        rw [← hI.run]
        cases (6 - row.length) <;> rfl
      have hfin := hI.fin
      rw [if_pos rfl] at hfin
      have hok := hI.ok
      refine Ex.rel hs ?_
      walk_at "go"
      walk_at "go"
      refine Ev.frz ?_
      walk_at "go"
      refine ⟨_, _, _, rfl, .head, hQ0 _ _ _ ?_⟩
      rw [← hr]
      exact ⟨lxS a es2 p2 [] rest, (List.sublist_cons_self _ _).trans ((List.sublist_cons_self _ _).trans (List.sublist_cons_self _ _)), rfl, es2, p2, rfl, hok, hfin⟩
end
section
theorem mem_own {ts : List (PySem.Str × PySem.Str)} {x y : PySem.Str} : y ∈ ownOf ts x ↔ ((x, y) ∈ ts ∨ (y, x) ∈ ts) := by
  unfold ownOf
  rw [List.mem_filterMap]
  constructor
  · rintro ⟨t, ht, e⟩
    unfold own1 at e
    split at e
    · rename_i h; cases e; subst h; exact .inl ht
    · split at e
      · rename_i h; cases e; subst h; exact .inr ht
      · cases e
  · rintro (h | h)
    · exact ⟨_, h, by unfold own1; simp⟩
    · refine ⟨_, h, ?_⟩
      unfold own1
      by_cases e : y = x
      · simp [e]
      · simp [e]
theorem tie_sg : ∀ k : Nat, k < 15 → (IsSg (tieOf k).1 ∧ IsSg (tieOf k).2) ∧ (tieOf k).1 ≠ (tieOf k).2 := by
  have h : ∀ k : Nat, k < 15 → ((∃ c ∈ sgC, (tieOf k).1 = ⟨#[c]⟩) ∧ (∃ c ∈ sgC, (tieOf k).2 = ⟨#[c]⟩)) ∧ (tieOf k).1 ≠ (tieOf k).2 := by decide +kernel
  exact h
theorem ties_mem {draws : List Int} {t : PySem.Str × PySem.Str} (h : t ∈ tiesOf draws) : ∃ k : Nat, k < 15 ∧ t = tieOf k := by
  refine xe12 (List.mem_map.mp h) fun k hk qe0 => ?_; subst qe0
  refine xe02 (plOf_ok draws k hk) fun h0 h1 => ?_
  refine ⟨k.toNat, by lia, ?_⟩
  rw [Int.toNat_of_nonneg h0]
theorem ties_sg (draws : List Int) : SgT (tiesOf draws) := fun t ht => by
  refine xe12 (ties_mem ht) fun k hk qe0 => ?_; subst qe0
  exact (tie_sg k hk).1
theorem ties_irr {draws : List Int} {x : PySem.Str} : (x, x) ∉ tiesOf draws := fun h => by
  refine xe12 (ties_mem h) fun k hk e => ?_
  have := (tie_sg k hk).2
  rw [← e] at this
  exact this rfl
theorem ties_len (draws : List Int) : (tiesOf draws).length ≤ 15 := by
  unfold tiesOf
  rw [List.length_map]
  exact len15 (plOf_nd draws) (plOf_ok draws)
theorem word_nd : ∀ t < 6, (sgs (wordT t)).Nodup := by decide +kernel
theorem word_len : ∀ t < 6, (sgs (wordT t)).length = 6 := by decide +kernel
theorem word_all : ∀ t < 6, ∀ c ∈ sgC, (⟨#[c]⟩ : PySem.Str) ∈ sgs (wordT t) := by decide +kernel
theorem word_sg : ∀ t < 6, ∀ x ∈ sgs (wordT t), IsSg x := by
  have h : ∀ t < 6, ∀ x ∈ sgs (wordT t), ∃ c ∈ sgC, x = ⟨#[c]⟩ := by decide +kernel
  exact h
theorem ties_gr {draws : List Int} {t : Nat} (ht : t < 6) : Gr (sgs (wordT t)) (ownOf (tiesOf draws)) where
  nd := word_nd t ht
  mem := fun {x y} h => by
    have : IsSg y := by
      rcases mem_own.mp h with q | q
      · exact (ties_sg draws _ q).2
      · exact (ties_sg draws _ q).1
    refine xe12 this fun c hc qe0 => ?_; clear this; subst qe0
    exact word_all t ht c hc
  sym := fun {x y} h => mem_own.mpr (mem_own.mp h).symm
  irr := fun {x} h => by
    rcases mem_own.mp h with q | q <;> exact ties_irr q
theorem own_dict {ts : List (PySem.Str × PySem.Str)} {V : List PySem.Str} : DictIs (ownD ts V) (ownOf ts) V := fun s hs => ownD_hit hs
theorem low_sg {x : PySem.Str} (h : IsSg x) : Txt.lower x = x ∧ Txt.lower (Txt.upper x) = x := by
  refine xe12 h fun c hc qe0 => ?_; clear h; subst qe0
  have : ∀ c ∈ sgC, Txt.lower (⟨#[c]⟩ : PySem.Str) = ⟨#[c]⟩ ∧ Txt.lower (Txt.upper (⟨#[c]⟩ : PySem.Str)) = ⟨#[c]⟩ := by decide +kernel
  exact this c hc
theorem all_own {s : PySem.Str} : ∀ {ts : List (PySem.Str × PySem.Str)}, SgT ts → (∀ t ∈ ts, t.1 ≠ t.2) → allOf (tabOf ts) s = ownOf ts s
  | [], _, _ => rfl
  | t :: r, hs, hn => by
    have ih := all_own (s := s) (ts := r) (fun u hu => hs u (.tail _ hu)) (fun u hu => hn u (.tail _ hu))
    refine xe02 (hs t (.head _)) fun g1 g2 => ?_
    have hne := hn t (.head _)
    unfold allOf tabOf ownOf at ih ⊢
    rw [List.flatMap_cons, List.filterMap_append, ih, List.filterMap_cons (f := own1 s)]
    simp only [List.filterMap_cons, List.filterMap_nil, (low_sg g1).2, (low_sg g2).1]
    unfold own1
    by_cases e : t.1 = s
    · have : t.2 ≠ s := fun z => hne (e.trans z.symm)
      simp [e, this]
    · by_cases e2 : t.2 = s
      · simp [e, e2]
      · simp [e, e2]
theorem all_ties {draws : List Int} {s : PySem.Str} : allOf (tabOf (tiesOf draws)) s = ownOf (tiesOf draws) s :=
  all_own (ties_sg draws) fun t ht e => ties_irr (draws := draws) (x := t.1) (by
    have : (t.1, t.1) = t := Prod.ext rfl e
    rw [this]; exact ht)
end
section
set_option maxHeartbeats 1000000
variable {C : Cx} {lv : Nat} {sc : Scope} {cel : List (PySem.Str × Addr)} {loc : Locs} {st : St}
theorem Op2.mulS {x : PySem.Str} {n : Int} {Post : AV → St → Prop} (hok : MulOk x n) (hp : Post (.str (Txt.mul x n)) st) : Op2 C lv (binaryOp .Mult) (.str x) (.int n) st Post :=
  Op2.pureV hp fun P A s u v Q E _ R hu hv k => by refine xe11 hu.str_inv fun _ qe0 => ?_; subst qe0; refine xe11 hv.int_inv fun _ qe0 => ?_; subst qe0; exact SB.mul hok fun t' tk => k _ tk .str
theorem eq_strs {P : PM} {A : Around} {s : Shared} {u v : Value} {r : List PySem.Str} (hk : ∀ b o, P b = some o → s.heap.get? b = some o) (hA : A.units < cLine) (hu : VRep C P (.lst (sL r)) u) (hv : VRep C P (.lst (sL r)) v) : SeqAt.EqAt A s u v true := by
  by_cases e : u = v
  · subst e
    exact SeqAt.EqAt.same u
  · cases hu with
    | @lst a o _ vs hP hl hvs =>
      cases hv with
      | @lst b o' _ us hP' hl' hus =>
        refine xe11 hl fun n qe0 => ?_; clear hl; subst qe0
        refine xe11 hl' fun n' qe0 => ?_; clear hl'; subst qe0
        have l1 : vs.length = r.length := by rw [← hvs.length]; simp [sL]
        have l2 : us.length = r.length := by rw [← hus.length]; simp [sL]
        have g : ∀ {ws : List Value}, VReps C P (sL r) ws → ∀ j (h : j < ws.toArray.size) (hj : j < r.length), ∃ t, ws.toArray[j] = .str r[j] t := fun {ws} hws j h hj => by
          refine xe12 (hws.get (i := j) (x := .str r[j]) (by simp [sL, hj])) fun v e1 e2 => ?_
          have : ws.toArray[j] = v := by
            have h' : j < ws.length := by simpa using h
            rw [List.getElem?_eq_getElem h'] at e1
            simpa using Option.some.inj e1
          cases e2; exact ⟨_, this⟩
        refine SeqAt.EqAt.of_refs (fun z => e (by rw [z])) ?_
        have := SeqAt.RcAt.lists (A := A) (s := s) (e := fun _ => true) (isL (hk _ _ hP)) (isL (hk _ _ hP')) (by simp [l1, l2]) hA (fun j q1 q2 => by
          have hj : j < r.length := by simpa [l1] using q1
          refine xe11 (g hvs j q1 hj) fun t e1 => ?_
          refine xe11 (g hus j q2 hj) fun t' e2 => ?_
          rw [e1, e2]
          have := (SeqRoads2.EqGives.str r[j] r[j] t t').at A.in1 s
          rw [beq_self_eq_true] at this
          exact this)
        rw [show (List.range vs.toArray.size).all (fun _ => true) = true from List.all_eq_true.mpr fun _ _ => rfl] at this
        exact this
theorem keqHits {P : PM} {A : Around} {s : Shared} {es : List (PySem.Str × AV)} {kb : List (PySem.Str × Value)} (hk : ∀ b o, P b = some o → s.heap.get? b = some o) (hA : A.units < cLine) (hb : VEnts C P es kb) (hes : ∀ p ∈ es, ∃ r, p.2 = .lst (sL r)) :
    ∀ {es' : List (PySem.Str × AV)} {ka : List (PySem.Str × Value)}, VEnts C P es' ka → (∀ p ∈ es', es.lookup p.1 = some p.2 ∧ p ∈ es) → KeqHits A s kb ka true
  | _, _, .nil, _ => .nil
  | _, _, @VEnts.cons _ _ k x v es' ka h1 h2, hl => by
    refine xe02 (hl _ (.head _)) fun e1 e2 => ?_
    refine xe12 (hb.find e1) fun y hy hyr => ?_
    refine xe11 (hes _ e2) fun r hr => ?_
    dsimp only at hr hyr
    subst hr
    exact KeqHits.hit (e := true) (b := true) hy (eq_strs hk hA h1 hyr) (keqHits hk hA hb hes h2 fun p hp => hl p (.tail _ hp))
theorem Op2.neDcts {es : List (PySem.Str × AV)} {Post : AV → St → Prop} (hes : ∀ p ∈ es, ∃ r, p.2 = .lst (sL r)) (hp : Post (.bool false) st) : Op2 C lv (compareOp .NotEq) (.dct es) (.dct es) st Post :=
  Op2.pureV hp fun P A s u v Q E ao R hu hv k => by
    cases hu with
    | @dct a o _ ka ha hP hd hka =>
      cases hv with
      | @dct b o' _ kb hb hP' hd' hkb =>
        have nd : (es.map (·.1)).Nodup := by rw [← hka.keys]; obtain ⟨_, _, _, _, _, _, h⟩ := hd; exact h
        have hlk : ∀ p ∈ es, es.lookup p.1 = some p.2 ∧ p ∈ es := fun p hp => ⟨by
          clear hka hkb hes
          induction es with
          | nil => cases hp
          | cons q r ih =>
            refine xe02 (List.nodup_cons.mp nd) fun h1 h2 => ?_
            rw [List.lookup_cons]
            rcases List.mem_cons.mp hp with e | e
            · subst e; simp
            · have : (p.1 == q.1) = false := beq_eq_false_iff_ne.mpr fun z => h1 (by show q.1 ∈ _; rw [← z]; exact List.mem_map_of_mem e)
              rw [this]
              exact ih h2 e, hp⟩
        have hl : ka.length = kb.length := by
          have e1 := congrArg List.length hka.keys
          have e2 := congrArg List.length hkb.keys
          simp at e1 e2; lia
        refine keq_ne (knd := PySem.strKind C.prog C.w) (r := true) (beq_eq_false_iff_ne.mpr ha) (beq_eq_false_iff_ne.mpr hb) (dictOf (R.keep _ _ hP) hd) (dictOf (R.keep _ _ hP') hd') ao.cl (fun _ => keqHits R.keep (by have := ao.units; refine (?_ : A.units + 1 < 9900); lia) hkb hes hka hlk) ?_
        rw [hl]
        simpa using k _ s.toks .bool
end
section
variable {C : Cx} {lv : Nat} {sc : Scope} {cel : List (PySem.Str × Addr)} {loc : Locs} {st : St}
set_option pp.deepTerms false
set_option pp.maxSteps 2000
noncomputable def drawsOf (xs : List Int) : List Int := (xs.take 9).map fun x => x.fmod 990
noncomputable def turnOf (draws : List Int) : Int := ((draws.map fun (x : Int) => x.fdiv 15).sum).fmod 6
theorem iL_map (l : List Int) (f : Int → Int) : (iL l).filterMap (asI fun k => some (.int (f k))) = iL (l.map f) := by
  unfold iL
  induction l with
  | nil => rfl
  | cons a l ih => exact congrArg (List.cons _) ih
theorem iL_mem {l : List Int} {y : AV} (h : y ∈ iL l) : ∃ k ∈ l, y = .int k := by
  refine xe12 (List.mem_map.mp h) fun k hk qe0 => ?_; subst qe0
  exact ⟨k, hk, rfl⟩
theorem cut9 (xs : List Int) : ((iL xs).drop (kms_lo none (iL xs).length)).take (kms_hi (some 9) (iL xs).length - kms_lo none (iL xs).length) = iL (xs.take 9) := by
  have h1 : kms_lo none (iL xs).length = 0 := rfl
  have h2 : kms_hi (some 9) (iL xs).length = min 9 (iL xs).length := by unfold kms_hi; simp
  rw [h1, h2, List.drop_zero, Nat.sub_zero]
  unfold iL
  rw [List.map_take]
  by_cases h : 9 ≤ (xs.map AV.int).length
  · rw [Nat.min_eq_left h]
  · rw [Nat.min_eq_right (by lia), List.take_length, List.take_of_length_le (by lia)]
theorem cut_word : ∀ t < 6, subS (Txt.mul (Str.ofString "ab\"\\ c") 2) (some (t : Nat)) (some ((t : Nat) + 6)) = wordT t := by decide +kernel
theorem turn_lt (draws : List Int) : ∃ t, t < 6 ∧ turnOf draws = (t : Nat) := by
  have h1 : 0 ≤ turnOf draws := Int.fmod_nonneg_of_pos _ (by decide)
  have h2 : turnOf draws < 6 := Int.fmod_lt_of_pos _ (by decide)
  exact ⟨(turnOf draws).toNat, by lia, by lia⟩
noncomputable def nearF (ties : List (PySem.Str × PySem.Str)) : AV → PySem.Str × AV := fun y => match y with | .str s => (s, .lst (sL (ownOf ties s))) | _ => (Str.ofString "", .none)
theorem nearF_is {ties : List (PySem.Str × PySem.Str)} (l : List PySem.Str) : (sL l).map (nearF ties) = ownD ties l := by
  unfold sL ownD; rw [List.map_map]; rfl
theorem mt_get (G : Pg C) {x dx H : Addr} {rows : List AV} (I : HO st x dx H rows) : Mt C (.ref x) (Str.ofString "get_all") st (.ref 198) [.ref x] :=
  Mt.inst G.gd I.i rfl (by rw [G.k]; rfl) (by rw [G.k]; rfl) (by rw [G.k]; rfl) (by rw [G.k]; rfl)
theorem tab_short {ties : List (PySem.Str × PySem.Str)} (h : SgT ties) : ∀ p ∈ tabOf ties, PySem.Builtin.Str.tooLong (Txt.lower p.1).length = false := fun p hp => by
  refine xe12 (List.mem_flatMap.mp hp) fun t ht hp => ?_
  refine xe02 (h t ht) fun g1 g2 => ?_
  simp only [List.mem_cons, List.not_mem_nil, or_false] at hp
  rcases hp with e | e
  · subst e; rw [(low_sg g1).2, g1.len]; rfl
  · subst e; rw [(low_sg g2).1, g2.len]; rfl
noncomputable def noteT (t : Nat) : PySem.Str := strT [(Str.ofString "x", fpT (Str.ofString "line") (wordT t))]
noncomputable def blankT : PySem.Str := Str.ofString "\r\n =:"
noncomputable def lineN : List Nat := [108, 105, 110, 101]
noncomputable def restN (t : Nat) (n : Nat) : List Nat := (noteT t).cps.toList.drop n
theorem note_len : ∀ t < 6, (noteT t).length ≤ 500 ∧ (noteT t).cps.toList.count 10 = 2 := by decide +kernel
theorem note_tok : ∀ t < 6, tok (wsB blankT) (restN t 0) = some ([120], restN t 2) ∧ tok (wsB blankT) (restN t 2) = some (lineN, restN t 8) ∧ ∃ n, n ≤ 40 ∧ tok (wsB blankT) (restN t 8) = some (wordN t, restN t n) ∧ tok (wsB blankT) (restN t n) = some ([], []) := by
  have h : ∀ t < 6, tok (wsB blankT) (restN t 0) = some ([120], restN t 2) ∧ tok (wsB blankT) (restN t 2) = some (lineN, restN t 8) ∧ ∃ n : Fin 41, tok (wsB blankT) (restN t 8) = some (wordN t, restN t n) ∧ tok (wsB blankT) (restN t n) = some ([], []) := by decide +kernel
  intro t ht
  obtain ⟨h1, h2, n, h3, h4⟩ := h t ht
  exact ⟨h1, h2, n, by lia, h3, h4⟩
theorem word_fits : ∀ t < 6, 0 < (wordT t).length ∧ (wordT t).length ≤ 100 ∧ (Txt.replace (wordT t) (Str.ofString "\\") (Str.ofString "\\\\")).length ≤ 1000 ∧ (fpV (wordT t)).length ≤ 1000 ∧ (fpT (Str.ofString "line") (wordT t)).length ≤ 2000 := by decide +kernel
theorem x_len : (Str.ofString "x").length ≤ 1000 := by decide +kernel
theorem byK {f : Value} {args : List AV} {kw : List (PySem.Str × AV)} {y0 : AV} {a : LxA} {M : Int} {ws : PySem.Str} {rest : St} {Post : AV → St → Prop} (h : Fn C lv f args kw st fun y s => y = y0 ∧ ∃ es' p', s = lxS a es' p' [] rest ∧ LxOk a es' M ws p' ∧ a.text.cps.toList.drop p' = [])
    (k : ∀ es' p', LxOk a es' M ws p' → a.text.cps.toList.drop p' = [] → Post y0 (lxS a es' p' [] rest)) : Cl C lv f args kw st Post :=
  (Fn.mono h fun y s hz => by obtain ⟨rfl, es', p', rfl, h1, h2⟩ := hz; exact k es' p' h1 h2).cl
theorem lxK {f : Value} {args : List AV} {kw : List (PySem.Str × AV)} {text blanks : PySem.Str} {Post : AV → St → Prop}
    (h : Fn C lv f args kw ((265, .raw (tabObj #[])) :: st) fun y s => ∃ a es c2 oc2 tb, y = .ref a.x ∧ a.text = text ∧ RdOk C a ∧ EsOk a es 1 blanks 0 ∧ s = lxS a es 0 [] ((c2, .raw oc2) :: (265, .raw (tabObj tb)) :: st))
    (k : ∀ a es rest, a.text = text → RdOk C a → EsOk a es 1 blanks 0 → (∃ ps, (265, AO.raw (tabObj ps)) ∈ rest) → Post (.ref a.x) (lxS a es 0 [] rest)) : Cl C lv f args kw ((265, .raw (tabObj #[])) :: st) Post :=
  (Fn.mono h fun y s hz => by refine xe55 hz fun a es c2 oc2 tb qe0 h1 h2 h3 qe1 => ?_; clear hz; subst qe0; subst qe1; exact k a es _ h1 h2 h3 ⟨tb, .tail _ (.head _)⟩).cl
theorem Cl.front7 {f : Value} {args : List AV} {kw : List (PySem.Str × AV)} {Post : AV → St → Prop} {e1 e2 e3 e4 e5 e6 e7 e8 : Addr × AO} (h : ∀ rest, Cl C lv f args kw (e8 :: rest) Post) : Cl C lv f args kw (e1 :: e2 :: e3 :: e4 :: e5 :: e6 :: e7 :: e8 :: st) Post :=
  Cl.perm (perm_front [e1, e2, e3, e4, e5, e6, e7] [e8] st) (h _)
theorem two_toks : decide ([natS [120], natS lineN] ≠ [Str.ofString "x", Str.ofString "line"]) = false := by decide +kernel
theorem law_fn (G : Pg C) (GX : GdX C 269 265) {xs : List Int} (hx : xs.length ≤ 63) :
    Fn C (lv + 8) (.ref 321) [.lst (iL xs)] [] ((265, .raw (tabObj #[])) :: st) fun y s => y = .bool true ∧ ∃ ps, (265, AO.raw (tabObj ps)) ∈ s := by
  refine' Pg.fn1 G [Str.ofString "script"] [(Str.ofString "script", .lst (iL xs))] (Str.ofString "table") none ?ho ?hcd ?hb ?hclo ?hgl ?hbu ?hco ?hgen ?hk ?hok ?hbind ?hloc ?hcn ?hcx _ ?hsc ?h
  walk_at "fn"
  case hbind => exact len1 fun _ => rfl
  intro ct
  walk_at "go"
  refine Ex1.lcomp' (by walk_at "sw") rfl rfl (fun _ _ => rfl) _ rfl ?_
  refine CompIn.l0 rfl (asI fun k => some (.int (k.fmod 990))) ?_
  repeat walk_at "go"
  refine Sl.list (lo := none) (hi := some 9) .lst .none .int (by rw [sizeLine_eq]; simp [iL]; lia) ?_
  rw [cut9]
  have h9 : (xs.take 9).length ≤ 9 := by rw [List.length_take]; lia
  refine ⟨_, ItOf.lst, by rw [sizeLine_eq]; simp [iL]; lia, fun y hy D ws loc' => ?_, ?_⟩
  · refine xe12 (iL_mem hy) fun k _ qe0 => ?_; subst qe0
    repeat walk_at "go"
    exact ⟨rfl, rfl⟩
  rw [iL_map, show (xs.take 9).map (fun (k : Int) => k.fmod 990) = drawsOf xs from rfl]
  have hd9 : (drawsOf xs).length ≤ 9 := by unfold drawsOf; rw [List.length_map]; exact h9
  generalize drawsOf xs = draws at *
  repeat walk_at "go"
  refine Ev.lcomp' rfl (fun _ _ => rfl) _ rfl ?_
  refine CompIn.l0 rfl (asI fun k => some (.int (k.fdiv 15))) ?_
  repeat walk_at "go"
  refine ⟨_, ItOf.lst, by rw [sizeLine_eq]; simp [iL]; lia, fun y hy D ws loc' => ?_, ?_⟩
  · refine xe12 (iL_mem hy) fun k _ qe0 => ?_; subst qe0
    repeat walk_at "go"
    refine Op2.divI (by decide) (by unfold Builtin.divisionGoesByPylong; rfl) ?_
    exact ⟨rfl, rfl⟩
  rw [iL_map]
  repeat walk_at "go"
  refine Cl.sum ItO.lst ?_
  walk_at "go"
  walk_at "go"
  walk_at "go"
  rw [show ((draws.map fun (k : Int) => k.fdiv 15).sum).fmod 6 = turnOf draws from rfl]
  refine xe12 (turn_lt draws) fun t ht et => ?_
  rw [et]
  repeat walk_at "go"
  refine Op2.mulS (mulOk_of 16 16 (by decide +kernel) (by decide) (by decide) (by decide) (by decide)) ?_
  repeat walk_at "go"
  refine Sl.str .int .int (by decide +kernel) ?_
  rw [cut_word t ht]
  repeat walk_at "go"
  have hgr := ties_gr (draws := draws) ht
  have hsg := ties_sg draws
  have htl := ties_len draws
  have hall := fun s => all_ties (draws := draws) (s := s)
  refine Fn.k1 (ties_fn G (lv := lv + 6) draws hd9) ?_
  generalize tiesOf draws = ties at *
  repeat walk_at "go"
  refine hoK (table_fn G (lv := lv + 4) hsg (by lia)) fun x1 dx1 H1 => ?_
  repeat walk_at "go"
  refine Ex1.dcomp' (by walk_at "sw") rfl rfl (fun _ _ => rfl) _ rfl ?_
  refine CompIn.d0 rfl (nearF ties) ?_
  repeat walk_at "go"
  have hws : signs (wordT t) = sL (sgs (wordT t)) := signs_sgs _
  have hw6 := word_len t ht
  have hwn := word_nd t ht
  have hwsg := word_sg t ht
  have hkeys : (signs (wordT t)).map (nearF ties) = ownD ties (sgs (wordT t)) := by rw [hws, nearF_is]
  refine ⟨_, ItOf.str, by rw [hws, sizeLine_eq]; simp [sL]; lia, ?_, fun y hy D ys loc' => ?_, ?_⟩
  · have : (signs (wordT t)).map (fun y => (nearF ties y).1) = ((signs (wordT t)).map (nearF ties)).map (·.1) := by rw [List.map_map]; rfl
    rw [this, hkeys, ownD_keys]
    exact hwn
  · rw [hws] at hy
    refine xe12 (List.mem_map.mp hy) fun s hs qe0 => ?_; subst qe0
    have hsS := hwsg s hs
    repeat walk_at "go"
    refine ⟨rfl, ?_⟩
    repeat walk_at "go"
    refine ⟨rfl, ?_⟩
    repeat walk_at "go"
    refine ⟨_, _, mt_get G ((ho_st x1 dx1 H1 (tiL (tabOf ties)) _).cons _), ?_⟩
    repeat walk_at "go"
    refine Cl.upper (hsS.up (C := C)).1 ?_
    repeat walk_at "go"
    refine Fn.k1 (getall_fn G (lv := lv + 5) ((ho_st x1 dx1 H1 (tiL (tabOf ties)) _).cons _) (by rw [(low_sg hsS).2, hsS.len]; rfl) (by rw [(low_sg hsS).2]; exact hsS.nm) (by rw [tabOf_len]; lia) (tab_short hsg)) ?_
    refine ⟨?_, rfl⟩
    rw [(low_sg hsS).2, hall]
    rfl
  rw [hkeys]
  repeat walk_at "go"
  refine Fn.k1 (own_fn G (lv := lv + 6) (wordT t) ties hwn (by lia) htl) ?_
  repeat walk_at "go"
  refine Op2.neDcts (fun p hp => ?_) ?_
  · refine xe12 (List.mem_map.mp hp) fun s _ qe0 => ?_; subst qe0
    exact ⟨_, rfl⟩
  repeat walk_at "go"
  refine hoK (heads_fn G (lv := lv + 5)) fun x2 dx2 H2 => ?_
  repeat walk_at "go"
  refine xe05 (word_fits t ht) fun f1 f2 f3 f4 f5 => ?_
  refine Ev.meth (fun _ _ _ => rfl) rfl rfl (by decide) rfl ?_
  walk_at "go"
  refine ⟨_, _, mt_add G (ho_st x2 dx2 H2 [] _), ?_⟩
  repeat walk_at "go"
  refine Evs.cons ?_
  repeat walk_at "go"
  refine Evs.nil ⟨Pg.keep G rfl, ?_⟩
  refine Fn.kU (addp_fn G (lv := lv + 5) (ho_st x2 dx2 H2 [] _) (rxv_word t ht) (Nat.zero_le _) f1 f2 f3 f4) .head ?_
  repeat walk_at "go"
  refine strOf_headers G (ps := [(Str.ofString "x", fpT (Str.ofString "line") (wordT t))]) (ho_st x2 dx2 H2 _ _) (by refine (?_ : 1 ≤ 100); lia) (fun p hp => ?_) ?_
  · rw [List.mem_singleton.mp hp]
    exact ⟨x_len, f5⟩
  rw [show strT [(Str.ofString "x", fpT (Str.ofString "line") (wordT t))] = noteT t from rfl]
  repeat walk_at "go"
  refine xe02 (note_len t ht) fun hnl hnc => ?_
  refine Cl.front7 fun rest => ?_
  refine lxK (lexer_fn G (lv := lv + 3) GX hnl) fun a es rest ha hR hE hmem => ?_
  obtain ⟨k1, k2, n, _, k3, k4⟩ := note_tok t ht
  unfold restN at k1 k2 k3 k4
  rw [← ha] at k1 k2 k3 k4
  have H0 : LxOk a es 3 blankT 0 := ⟨1, hE, by rw [ha, List.drop_zero, hnc]; rfl, Nat.zero_le _⟩
  repeat walk_at "go"
  refine Ev.lstF rfl ?_
  repeat walk_at "go"
  refine ⟨_, _, mtT G [] H0, ?_⟩
  repeat walk_at "go"
  refine gtK G hR (lv := lv + 2) (rest := rest) [] H0 k1 fun es1 p1 H1' hp1 => ?_
  repeat walk_at "go"
  refine ⟨_, _, mtT G [] H1', ?_⟩
  repeat walk_at "go"
  refine gtK G hR (lv := lv + 2) (rest := rest) [] H1' ((congrArg _ hp1).trans k2) fun es2 p2 H2' hp2 => ?_
  repeat walk_at "go"
  refine Ev.lstF rfl ?_
  repeat walk_at "go"
  refine Op2.neStrs (xs := [natS [120], natS lineN]) (ys := [Str.ofString "x", Str.ofString "line"]) .lst .lst ?_
  rw [two_toks]
  repeat walk_at "go"
  have hD : DictIs (ownD ties (sgs (wordT t))) (ownOf ties) (sgs (wordT t)) := own_dict
  have hwm : (wordN t).map sg = sgs (wordT t) := (sgs_natS (wordN t)).symm
  have hw6' : (wordN t).length = 6 := by rw [← hw6, ← hwm, List.length_map]
  have g3 := byline_fn G hR (lv := lv + 1) (rest := rest) H2' ((congrArg _ hp2).trans k3) k4 hw6' (ds := ownD ties (sgs (wordT t))) (N := ownOf ties) (by rw [hwm]; exact hD)
  rw [hwm, lrun_rowTo hgr hw6] at g3
  refine byK g3 fun es3 p3 H3' hp3 => ?_
  repeat walk_at "go"
  have g4 := byheap_fn G (lv := lv + 3) (st := lxS a es3 p3 [] rest) (wordT t) _ _ hwn hw6 hD
  rw [hrun_rowTo hgr hw6] at g4
  refine Fn.k1 g4 ?_
  repeat walk_at "go"
  refine xe13 (id H3') fun n3 hE3 hn3 _ => ?_
  have hn3 : n3 = 3 := by rw [hp3] at hn3; simpa using hn3
  subst hn3
  refine lx_attr G EsOk.lx (fun _ _ _ => rfl) hE3.ln rfl rfl ?_
  walk_at "go"
  refine ⟨rfl, rfl, ?_⟩
  repeat walk_at "go"
  refine iteN rfl ?_
  repeat walk_at "go"
  refine Fn.k1 (marks_fn G (lv := lv + 6) (wordT t) _ _ true hwn hw6 hD) ?_
  refine Op2.neStrs .lst .lst ?_
  rw [decide_eq_false (fun z => z rfl)]
  repeat walk_at "go"
  refine Fn.k1 (marks_fn G (lv := lv + 6) (wordT t) _ _ false hwn hw6 hD) ?_
  refine Op2.neStrs .lst .lst ?_
  rw [decide_eq_false (fun z => z rfl)]
  repeat walk_at "go"
  refine Fn.k1 (ring_fn G (lv := lv + 6) (wordT t) _ _ (by lia) hD (fun x hx s hs => hgr.mem hs)) ?_
  classical
  have row : ∀ lex, (rowTo' lex (sgs (wordT t)) (ownOf ties) 6).length = 6 ∧ DictIs (ownD ties (sgs (wordT t))) (ownOf ties) (rowTo' lex (sgs (wordT t)) (ownOf ties) 6) := fun lex =>
    have h := rowTo'_ok (lex := lex) (N := ownOf ties) hwn 6 (by lia)
    ⟨h.1, fun s hs => hD s (h.2.2 s hs)⟩
  have fin : ∀ lex, (!(noGap (rowTo' lex (sgs (wordT t)) (ownOf ties) 6) (ownOf ties) == decide (Ring (sgs (wordT t)) (ownOf ties)))) = true := fun lex => by
    have h := gap_iff_ring (lex := lex) hgr hw6
    by_cases hr : Ring (sgs (wordT t)) (ownOf ties)
    · have : noGap (rowTo' lex (sgs (wordT t)) (ownOf ties) 6) (ownOf ties) = false := Bool.eq_false_iff.mpr fun z => h.mp z hr
      rw [this, decide_eq_true hr]; rfl
    · rw [h.mpr hr, decide_eq_false hr]; rfl
  repeat walk_at "go"
  refine Fn.k1 (nogap_fn G (lv := lv + 6) _ _ _ (row true).1 (row true).2) ?_
  repeat walk_at "go"
  refine iteY (fin true) ?_
  repeat walk_at "go"
  refine Fn.k1 (nogap_fn G (lv := lv + 6) _ _ _ (row false).1 (row false).2) ?_
  repeat walk_at "go"
  rw [fin false]
  refine xe11 hmem fun ps hps => ?_; clear hmem
  exact ⟨rfl, ps, List.mem_append_right _ hps⟩
end
section
set_option maxHeartbeats 4000000
theorem ints_rep {C : Cx} {P : PM} : ∀ {vs : List Value} {xs : List Int}, IntsAre vs xs → VReps C P (iL xs) vs := by
  intro vs xs h
  induction h with
  | nil => exact .nil
  | cons n t h ih => exact .cons .int ih
theorem law_ends {p q : Program} {loose : List PySem.Str} {cw : ClaimW} {cl : PySem.Str → Option Addr} {mean mean' : ExcName → Option Value} {args : List WData} {w : World} {s₁ : Shared} {mg mb : PySem.Str → Option Value} {b : Addr} {vs : List Value} {xs : List Int}
    (T : Top q loose mean mg mb s₁.heap) (hX : (KF w.params).In s₁.heap) (h265 : s₁.heap.get? 265 = some (tabObj #[])) (hg : s₁.gens = #[])
    (hb : s₁.heap.get? b = some { cls := .type "list", data := .seq vs.toArray }) (hI : IntsAre vs xs) (hlen : xs.length ≤ 63)
    (hr : ∀ a x, cw.raises a x = false) (hpost : cw.post args (.bool true) args = true) :
    wpAny (model p w) callerA (PySem.call (.ref 321) [.ref b]) (fun v s' => GoodWG cw cl mean' args s₁ (.ok (.ret v)) s') (fun e s' => GoodWG cw cl mean' args s₁ (.error e) s') s₁ := by
  have hT : TabsAt [(269, 265)] s₁.heap := List.forall_mem_cons.mpr ⟨⟨codeHd_of_K hX (by kernel_rfl), h265⟩, fun _ h => nomatch h⟩
  refine enter_call ?_
  refine kn_post hT hr ?_
  have gT := ghost_top hT T
  have h0 : (ghostOf s₁.heap [(269, 265)]).get? 265 = none := hideAll_none _ (by decide)
  have hk : (KF w.params).In (ghostOf s₁.heap [(269, 265)]) := ghost_K hT hX (by kernel_rfl)
  have G : Pg ⟨p, w, KF w.params, ghostOf s₁.heap [(269, 265)]⟩ := ⟨⟨hk, ⟨mg, gT.g⟩, ⟨mb, gT.b, gT.builtins⟩, gT.nolimit⟩, rfl⟩
  have GX : GdX ⟨p, w, KF w.params, ghostOf s₁.heap [(269, 265)]⟩ 269 265 := by
    refine ⟨codeHd_of_K hk (by kernel_rfl), mg, gT.g, ?_⟩
    refine xe26 gT.bmain fun bm ob e1 e2 e3 e4 e5 e6 => ?_
    refine ⟨bm, ob, e1, e2, ?_, ?_, e3, e4, e5, e6⟩
    · rintro rfl
      refine xe33 gT.g fun o es ep q1 q2 _ => ?_
      rw [q1] at e3; cases e3; rw [q2] at e6; cases e6
    · rintro rfl
      rw [h0] at e3; cases e3
  have gb : (ghostOf s₁.heap [(269, 265)]).get? b = some { cls := .type "list", data := .seq vs.toArray } := ghost_get hT hb (fun q => by cases q)
  refine law_fn (lv := 0) (st := []) G GX hlen (fun a => (ghostOf s₁.heap [(269, 265)]).get? a) callerA s₁ [.ref b] [] _ ?aok ?rp (.cons (.lst gb ⟨0, rfl⟩ (ints_rep hI)) .nil) .nil fun P' x v st' h' k hx S R' hv => ?_
  case aok => exact ⟨rfl, by refine (?_ : 1 + claimMargin + 10 * (0 + 8) ≤ 900); decide, by refine (?_ : 4 + 50 * (0 + 8) ≤ 9000); decide⟩
  case rp =>
    refine ⟨fun _ _ e => e, fun b o e => of_hideAll _ e, List.nodup_cons.mpr ⟨List.not_mem_nil, List.nodup_nil⟩, fun x hx => ?_, ⟨by decide, 321, by decide, ?_⟩⟩
    · rw [List.mem_singleton.mp hx]
      exact ⟨h0, _, h265, .raw⟩
    · refine xe11 (⟨_, rfl⟩ : ∃ o, (KF w.params).lookup 321 = some o) fun o ho => ?_
      rw [hk 321 o ho]; exact fun z => by cases z
  obtain ⟨rfl, ps, hps⟩ := hx
  cases hv
  obtain ⟨_, o, ho, hor⟩ := R'.own _ hps
  cases hor
  refine ⟨⟨.inl ⟨_, .bool true, [], rfl, fun c => hr _ _, .bool _, hpost, fun _ => ⟨List.nodup_nil, fun a ha => by cases ha⟩⟩, fun b o e => ?_, rfl, hg⟩, ⟨ps, ho⟩, trivial⟩
  refine S.keep b o (of_hideAll _ e) fun hm => ?_
  have : b = 265 := by simpa [adr] using hm
  subst this
  rw [show (ghostOf s₁.heap [(269, 265)]).get? 265 = some o from e] at h0
  cases h0
theorem post_ok (x y : List WData) : PySem.Challenge.rw_pg0281_01.row.claim.post x (.bool true) y = true := by with_unfolding_all rfl
end
section
set_option maxHeartbeats 4000000
theorem top_walk : PySem.Challenge.rw_pg0281_01.Holds := by
  w_on
  refine holds_law hd_said fun said => ?_
  refine holds_open (q := VW) (loose := LS) (Xt := fun s => xlAt VW [] s && recOk PySem.Challenge.rw_pg0281_01.row.records s) (XP := XL VW []) (Yf := HkO.obs) (Ya := HkO.val) (YP := HkO.says) (N := 3778) ?hl HkO.of HkO.keeps (fun s e => xl_of s (Bool.and_eq_true_iff.mp e).1) XL.keeps (by rfl) (by rfl) (by rfl) (fun s e => recFacts_of (Bool.and_eq_true_iff.mp e).2) (by rfl) said (by decide +kernel) ⟨rfl, rfl, rfl, rfl, rfl, by decide +kernel⟩ ?hw ?hc
  case hl => exact hd_left
  case hw => exact ⟨[.list []], by decide +kernel, by decide +kernel⟩
  case hc =>
    intro w s₀ s₁ mg mb G Y fa o pm cd doc dV kV ho hd hcd hD hmg hg args vals as hpre hlay hrd hwl hlo
    refine Ground.open G ?_
    intro T B D TE TW
    have hX : (KF w.params).In s₁.heap := km_in_of Y
    have hT8 := km_tabs_of Y
    have hfa : fa = 321 := by
      have e := mg_of hX T.g (n := Str.ofString "law") (v := .ref 321) rfl
      have hmg' : mg (Str.ofString "law") = some (.ref fa) := hmg
      rw [hmg'] at e
      cases e; rfl
    subst hfa
    clear hd hcd hD ho hmg G Y B D TE TW
    wrow_args hpre hlay hrd hwl hlo
    rename_i xs _ _ _ _ _ _ _ b vs _ hL _ hw1 _ hI _ hlen _
    have hb : ∃ us : List Value, us = vs ∧ s₁.heap.get? b = some { cls := .type "list", data := .seq us.toArray } := by
      cases hw1 with
      | list e _ =>
        obtain ⟨o', e1, _, n, e2⟩ := hL
        rw [e] at e1
        cases e1
        injection e2 with e2 _
        exact ⟨_, by simpa using e2, e⟩
    obtain ⟨us, rfl, hb⟩ := hb
    exact law_ends T hX (hT8 265 (.head _)) hg hb hI (by omega) (fun _ _ => rfl) (post_ok _ _)
end
end Mine
theorem PySem.Challenge.cw_pg0281_01_holds : PySem.Challenge.rw_pg0281_01.Holds :=
  Mine.top_walk

import PyProof.Rows.All
import Wide.All
import OpenK.AllK
import Wide.FinOn
import PySem.Challenge.RW_mr0249_01
open PySem PySem.W PySem.Calls PyProof.Rows PySem.Spec
set_option Elab.async false
set_option tactic.hygienic false
set_option genSizeOfSpec false
set_option maxHeartbeats 2000000
set_option autoImplicit false
set_option maxRecDepth 100000
set_option linter.all false
namespace Mine
theorem ex_0_2  {P0 : Prop} {P1 : Prop} {C : Prop} (h : P0 ∧ P1) (f : P0 → P1 → C) : C :=
  f h.1 h.2
theorem ex_0_3  {P0 : Prop} {P1 : Prop} {P2 : Prop} {C : Prop} (h : P0 ∧ P1 ∧ P2) (f : P0 → P1 → P2 → C) : C :=
  f h.1 h.2.1 h.2.2
theorem ex_0_4  {P0 : Prop} {P1 : Prop} {P2 : Prop} {P3 : Prop} {C : Prop} (h : P0 ∧ P1 ∧ P2 ∧ P3) (f : P0 → P1 → P2 → P3 → C) : C :=
  f h.1 h.2.1 h.2.2.1 h.2.2.2
theorem ex_0_5  {P0 : Prop} {P1 : Prop} {P2 : Prop} {P3 : Prop} {P4 : Prop} {C : Prop} (h : P0 ∧ P1 ∧ P2 ∧ P3 ∧ P4) (f : P0 → P1 → P2 → P3 → P4 → C) : C :=
  f h.1 h.2.1 h.2.2.1 h.2.2.2.1 h.2.2.2.2
theorem ex_1_1 {A0 : Sort _} {P0 : A0 → Prop} {C : Prop} (h : ∃ (x0 : A0), P0 x0) (f : ∀ (x0 : A0), P0 x0 → C) : C :=
  h.elim fun x0 h => f x0 h
theorem ex_1_2 {A0 : Sort _} {P0 : A0 → Prop} {P1 : A0 → Prop} {C : Prop} (h : ∃ (x0 : A0), P0 x0 ∧ P1 x0) (f : ∀ (x0 : A0), P0 x0 → P1 x0 → C) : C :=
  h.elim fun x0 h => f x0 h.1 h.2
theorem ex_1_3 {A0 : Sort _} {P0 : A0 → Prop} {P1 : A0 → Prop} {P2 : A0 → Prop} {C : Prop} (h : ∃ (x0 : A0), P0 x0 ∧ P1 x0 ∧ P2 x0) (f : ∀ (x0 : A0), P0 x0 → P1 x0 → P2 x0 → C) : C :=
  h.elim fun x0 h => f x0 h.1 h.2.1 h.2.2
theorem ex_1_6 {A0 : Sort _} {P0 : A0 → Prop} {P1 : A0 → Prop} {P2 : A0 → Prop} {P3 : A0 → Prop} {P4 : A0 → Prop} {P5 : A0 → Prop} {C : Prop} (h : ∃ (x0 : A0), P0 x0 ∧ P1 x0 ∧ P2 x0 ∧ P3 x0 ∧ P4 x0 ∧ P5 x0) (f : ∀ (x0 : A0), P0 x0 → P1 x0 → P2 x0 → P3 x0 → P4 x0 → P5 x0 → C) : C :=
  h.elim fun x0 h => f x0 h.1 h.2.1 h.2.2.1 h.2.2.2.1 h.2.2.2.2.1 h.2.2.2.2.2
theorem ex_1_7 {A0 : Sort _} {P0 : A0 → Prop} {P1 : A0 → Prop} {P2 : A0 → Prop} {P3 : A0 → Prop} {P4 : A0 → Prop} {P5 : A0 → Prop} {P6 : A0 → Prop} {C : Prop} (h : ∃ (x0 : A0), P0 x0 ∧ P1 x0 ∧ P2 x0 ∧ P3 x0 ∧ P4 x0 ∧ P5 x0 ∧ P6 x0) (f : ∀ (x0 : A0), P0 x0 → P1 x0 → P2 x0 → P3 x0 → P4 x0 → P5 x0 → P6 x0 → C) : C :=
  h.elim fun x0 h => f x0 h.1 h.2.1 h.2.2.1 h.2.2.2.1 h.2.2.2.2.1 h.2.2.2.2.2.1 h.2.2.2.2.2.2
theorem ex_2_1 {A0 : Sort _} {A1 : Sort _} {P0 : A0 → A1 → Prop} {C : Prop} (h : ∃ (x0 : A0) (x1 : A1), P0 x0 x1) (f : ∀ (x0 : A0) (x1 : A1), P0 x0 x1 → C) : C :=
  h.elim fun x0 h => h.elim fun x1 h => f x0 x1 h
theorem ex_2_2 {A0 : Sort _} {A1 : Sort _} {P0 : A0 → A1 → Prop} {P1 : A0 → A1 → Prop} {C : Prop} (h : ∃ (x0 : A0) (x1 : A1), P0 x0 x1 ∧ P1 x0 x1) (f : ∀ (x0 : A0) (x1 : A1), P0 x0 x1 → P1 x0 x1 → C) : C :=
  h.elim fun x0 h => h.elim fun x1 h => f x0 x1 h.1 h.2
theorem ex_2_3 {A0 : Sort _} {A1 : Sort _} {P0 : A0 → A1 → Prop} {P1 : A0 → A1 → Prop} {P2 : A0 → A1 → Prop} {C : Prop} (h : ∃ (x0 : A0) (x1 : A1), P0 x0 x1 ∧ P1 x0 x1 ∧ P2 x0 x1) (f : ∀ (x0 : A0) (x1 : A1), P0 x0 x1 → P1 x0 x1 → P2 x0 x1 → C) : C :=
  h.elim fun x0 h => h.elim fun x1 h => f x0 x1 h.1 h.2.1 h.2.2
theorem ex_2_4 {A0 : Sort _} {A1 : Sort _} {P0 : A0 → A1 → Prop} {P1 : A0 → A1 → Prop} {P2 : A0 → A1 → Prop} {P3 : A0 → A1 → Prop} {C : Prop} (h : ∃ (x0 : A0) (x1 : A1), P0 x0 x1 ∧ P1 x0 x1 ∧ P2 x0 x1 ∧ P3 x0 x1) (f : ∀ (x0 : A0) (x1 : A1), P0 x0 x1 → P1 x0 x1 → P2 x0 x1 → P3 x0 x1 → C) : C :=
  h.elim fun x0 h => h.elim fun x1 h => f x0 x1 h.1 h.2.1 h.2.2.1 h.2.2.2
theorem ex_2_5 {A0 : Sort _} {A1 : Sort _} {P0 : A0 → A1 → Prop} {P1 : A0 → A1 → Prop} {P2 : A0 → A1 → Prop} {P3 : A0 → A1 → Prop} {P4 : A0 → A1 → Prop} {C : Prop} (h : ∃ (x0 : A0) (x1 : A1), P0 x0 x1 ∧ P1 x0 x1 ∧ P2 x0 x1 ∧ P3 x0 x1 ∧ P4 x0 x1) (f : ∀ (x0 : A0) (x1 : A1), P0 x0 x1 → P1 x0 x1 → P2 x0 x1 → P3 x0 x1 → P4 x0 x1 → C) : C :=
  h.elim fun x0 h => h.elim fun x1 h => f x0 x1 h.1 h.2.1 h.2.2.1 h.2.2.2.1 h.2.2.2.2
theorem ex_2_6 {A0 : Sort _} {A1 : Sort _} {P0 : A0 → A1 → Prop} {P1 : A0 → A1 → Prop} {P2 : A0 → A1 → Prop} {P3 : A0 → A1 → Prop} {P4 : A0 → A1 → Prop} {P5 : A0 → A1 → Prop} {C : Prop} (h : ∃ (x0 : A0) (x1 : A1), P0 x0 x1 ∧ P1 x0 x1 ∧ P2 x0 x1 ∧ P3 x0 x1 ∧ P4 x0 x1 ∧ P5 x0 x1) (f : ∀ (x0 : A0) (x1 : A1), P0 x0 x1 → P1 x0 x1 → P2 x0 x1 → P3 x0 x1 → P4 x0 x1 → P5 x0 x1 → C) : C :=
  h.elim fun x0 h => h.elim fun x1 h => f x0 x1 h.1 h.2.1 h.2.2.1 h.2.2.2.1 h.2.2.2.2.1 h.2.2.2.2.2
theorem ex_3_1 {A0 : Sort _} {A1 : Sort _} {A2 : Sort _} {P0 : A0 → A1 → A2 → Prop} {C : Prop} (h : ∃ (x0 : A0) (x1 : A1) (x2 : A2), P0 x0 x1 x2) (f : ∀ (x0 : A0) (x1 : A1) (x2 : A2), P0 x0 x1 x2 → C) : C :=
  h.elim fun x0 h => h.elim fun x1 h => h.elim fun x2 h => f x0 x1 x2 h
theorem ex_3_2 {A0 : Sort _} {A1 : Sort _} {A2 : Sort _} {P0 : A0 → A1 → A2 → Prop} {P1 : A0 → A1 → A2 → Prop} {C : Prop} (h : ∃ (x0 : A0) (x1 : A1) (x2 : A2), P0 x0 x1 x2 ∧ P1 x0 x1 x2) (f : ∀ (x0 : A0) (x1 : A1) (x2 : A2), P0 x0 x1 x2 → P1 x0 x1 x2 → C) : C :=
  h.elim fun x0 h => h.elim fun x1 h => h.elim fun x2 h => f x0 x1 x2 h.1 h.2
theorem ex_3_3 {A0 : Sort _} {A1 : Sort _} {A2 : Sort _} {P0 : A0 → A1 → A2 → Prop} {P1 : A0 → A1 → A2 → Prop} {P2 : A0 → A1 → A2 → Prop} {C : Prop} (h : ∃ (x0 : A0) (x1 : A1) (x2 : A2), P0 x0 x1 x2 ∧ P1 x0 x1 x2 ∧ P2 x0 x1 x2) (f : ∀ (x0 : A0) (x1 : A1) (x2 : A2), P0 x0 x1 x2 → P1 x0 x1 x2 → P2 x0 x1 x2 → C) : C :=
  h.elim fun x0 h => h.elim fun x1 h => h.elim fun x2 h => f x0 x1 x2 h.1 h.2.1 h.2.2
theorem ex_3_4 {A0 : Sort _} {A1 : Sort _} {A2 : Sort _} {P0 : A0 → A1 → A2 → Prop} {P1 : A0 → A1 → A2 → Prop} {P2 : A0 → A1 → A2 → Prop} {P3 : A0 → A1 → A2 → Prop} {C : Prop} (h : ∃ (x0 : A0) (x1 : A1) (x2 : A2), P0 x0 x1 x2 ∧ P1 x0 x1 x2 ∧ P2 x0 x1 x2 ∧ P3 x0 x1 x2) (f : ∀ (x0 : A0) (x1 : A1) (x2 : A2), P0 x0 x1 x2 → P1 x0 x1 x2 → P2 x0 x1 x2 → P3 x0 x1 x2 → C) : C :=
  h.elim fun x0 h => h.elim fun x1 h => h.elim fun x2 h => f x0 x1 x2 h.1 h.2.1 h.2.2.1 h.2.2.2
theorem ex_3_7 {A0 : Sort _} {A1 : Sort _} {A2 : Sort _} {P0 : A0 → A1 → A2 → Prop} {P1 : A0 → A1 → A2 → Prop} {P2 : A0 → A1 → A2 → Prop} {P3 : A0 → A1 → A2 → Prop} {P4 : A0 → A1 → A2 → Prop} {P5 : A0 → A1 → A2 → Prop} {P6 : A0 → A1 → A2 → Prop} {C : Prop} (h : ∃ (x0 : A0) (x1 : A1) (x2 : A2), P0 x0 x1 x2 ∧ P1 x0 x1 x2 ∧ P2 x0 x1 x2 ∧ P3 x0 x1 x2 ∧ P4 x0 x1 x2 ∧ P5 x0 x1 x2 ∧ P6 x0 x1 x2) (f : ∀ (x0 : A0) (x1 : A1) (x2 : A2), P0 x0 x1 x2 → P1 x0 x1 x2 → P2 x0 x1 x2 → P3 x0 x1 x2 → P4 x0 x1 x2 → P5 x0 x1 x2 → P6 x0 x1 x2 → C) : C :=
  h.elim fun x0 h => h.elim fun x1 h => h.elim fun x2 h => f x0 x1 x2 h.1 h.2.1 h.2.2.1 h.2.2.2.1 h.2.2.2.2.1 h.2.2.2.2.2.1 h.2.2.2.2.2.2
theorem ex_4_1 {A0 : Sort _} {A1 : Sort _} {A2 : Sort _} {A3 : Sort _} {P0 : A0 → A1 → A2 → A3 → Prop} {C : Prop} (h : ∃ (x0 : A0) (x1 : A1) (x2 : A2) (x3 : A3), P0 x0 x1 x2 x3) (f : ∀ (x0 : A0) (x1 : A1) (x2 : A2) (x3 : A3), P0 x0 x1 x2 x3 → C) : C :=
  h.elim fun x0 h => h.elim fun x1 h => h.elim fun x2 h => h.elim fun x3 h => f x0 x1 x2 x3 h
theorem ex_4_3 {A0 : Sort _} {A1 : Sort _} {A2 : Sort _} {A3 : Sort _} {P0 : A0 → A1 → A2 → A3 → Prop} {P1 : A0 → A1 → A2 → A3 → Prop} {P2 : A0 → A1 → A2 → A3 → Prop} {C : Prop} (h : ∃ (x0 : A0) (x1 : A1) (x2 : A2) (x3 : A3), P0 x0 x1 x2 x3 ∧ P1 x0 x1 x2 x3 ∧ P2 x0 x1 x2 x3) (f : ∀ (x0 : A0) (x1 : A1) (x2 : A2) (x3 : A3), P0 x0 x1 x2 x3 → P1 x0 x1 x2 x3 → P2 x0 x1 x2 x3 → C) : C :=
  h.elim fun x0 h => h.elim fun x1 h => h.elim fun x2 h => h.elim fun x3 h => f x0 x1 x2 x3 h.1 h.2.1 h.2.2
theorem ex_4_6 {A0 : Sort _} {A1 : Sort _} {A2 : Sort _} {A3 : Sort _} {P0 : A0 → A1 → A2 → A3 → Prop} {P1 : A0 → A1 → A2 → A3 → Prop} {P2 : A0 → A1 → A2 → A3 → Prop} {P3 : A0 → A1 → A2 → A3 → Prop} {P4 : A0 → A1 → A2 → A3 → Prop} {P5 : A0 → A1 → A2 → A3 → Prop} {C : Prop} (h : ∃ (x0 : A0) (x1 : A1) (x2 : A2) (x3 : A3), P0 x0 x1 x2 x3 ∧ P1 x0 x1 x2 x3 ∧ P2 x0 x1 x2 x3 ∧ P3 x0 x1 x2 x3 ∧ P4 x0 x1 x2 x3 ∧ P5 x0 x1 x2 x3) (f : ∀ (x0 : A0) (x1 : A1) (x2 : A2) (x3 : A3), P0 x0 x1 x2 x3 → P1 x0 x1 x2 x3 → P2 x0 x1 x2 x3 → P3 x0 x1 x2 x3 → P4 x0 x1 x2 x3 → P5 x0 x1 x2 x3 → C) : C :=
  h.elim fun x0 h => h.elim fun x1 h => h.elim fun x2 h => h.elim fun x3 h => f x0 x1 x2 x3 h.1 h.2.1 h.2.2.1 h.2.2.2.1 h.2.2.2.2.1 h.2.2.2.2.2
theorem ex_4_7 {A0 : Sort _} {A1 : Sort _} {A2 : Sort _} {A3 : Sort _} {P0 : A0 → A1 → A2 → A3 → Prop} {P1 : A0 → A1 → A2 → A3 → Prop} {P2 : A0 → A1 → A2 → A3 → Prop} {P3 : A0 → A1 → A2 → A3 → Prop} {P4 : A0 → A1 → A2 → A3 → Prop} {P5 : A0 → A1 → A2 → A3 → Prop} {P6 : A0 → A1 → A2 → A3 → Prop} {C : Prop} (h : ∃ (x0 : A0) (x1 : A1) (x2 : A2) (x3 : A3), P0 x0 x1 x2 x3 ∧ P1 x0 x1 x2 x3 ∧ P2 x0 x1 x2 x3 ∧ P3 x0 x1 x2 x3 ∧ P4 x0 x1 x2 x3 ∧ P5 x0 x1 x2 x3 ∧ P6 x0 x1 x2 x3) (f : ∀ (x0 : A0) (x1 : A1) (x2 : A2) (x3 : A3), P0 x0 x1 x2 x3 → P1 x0 x1 x2 x3 → P2 x0 x1 x2 x3 → P3 x0 x1 x2 x3 → P4 x0 x1 x2 x3 → P5 x0 x1 x2 x3 → P6 x0 x1 x2 x3 → C) : C :=
  h.elim fun x0 h => h.elim fun x1 h => h.elim fun x2 h => h.elim fun x3 h => f x0 x1 x2 x3 h.1 h.2.1 h.2.2.1 h.2.2.2.1 h.2.2.2.2.1 h.2.2.2.2.2.1 h.2.2.2.2.2.2
theorem ex_4_8 {A0 : Sort _} {A1 : Sort _} {A2 : Sort _} {A3 : Sort _} {P0 : A0 → A1 → A2 → A3 → Prop} {P1 : A0 → A1 → A2 → A3 → Prop} {P2 : A0 → A1 → A2 → A3 → Prop} {P3 : A0 → A1 → A2 → A3 → Prop} {P4 : A0 → A1 → A2 → A3 → Prop} {P5 : A0 → A1 → A2 → A3 → Prop} {P6 : A0 → A1 → A2 → A3 → Prop} {P7 : A0 → A1 → A2 → A3 → Prop} {C : Prop} (h : ∃ (x0 : A0) (x1 : A1) (x2 : A2) (x3 : A3), P0 x0 x1 x2 x3 ∧ P1 x0 x1 x2 x3 ∧ P2 x0 x1 x2 x3 ∧ P3 x0 x1 x2 x3 ∧ P4 x0 x1 x2 x3 ∧ P5 x0 x1 x2 x3 ∧ P6 x0 x1 x2 x3 ∧ P7 x0 x1 x2 x3) (f : ∀ (x0 : A0) (x1 : A1) (x2 : A2) (x3 : A3), P0 x0 x1 x2 x3 → P1 x0 x1 x2 x3 → P2 x0 x1 x2 x3 → P3 x0 x1 x2 x3 → P4 x0 x1 x2 x3 → P5 x0 x1 x2 x3 → P6 x0 x1 x2 x3 → P7 x0 x1 x2 x3 → C) : C :=
  h.elim fun x0 h => h.elim fun x1 h => h.elim fun x2 h => h.elim fun x3 h => f x0 x1 x2 x3 h.1 h.2.1 h.2.2.1 h.2.2.2.1 h.2.2.2.2.1 h.2.2.2.2.2.1 h.2.2.2.2.2.2.1 h.2.2.2.2.2.2.2
theorem ex_5_1 {A0 : Sort _} {A1 : Sort _} {A2 : Sort _} {A3 : Sort _} {A4 : Sort _} {P0 : A0 → A1 → A2 → A3 → A4 → Prop} {C : Prop} (h : ∃ (x0 : A0) (x1 : A1) (x2 : A2) (x3 : A3) (x4 : A4), P0 x0 x1 x2 x3 x4) (f : ∀ (x0 : A0) (x1 : A1) (x2 : A2) (x3 : A3) (x4 : A4), P0 x0 x1 x2 x3 x4 → C) : C :=
  h.elim fun x0 h => h.elim fun x1 h => h.elim fun x2 h => h.elim fun x3 h => h.elim fun x4 h => f x0 x1 x2 x3 x4 h
theorem ex_5_3 {A0 : Sort _} {A1 : Sort _} {A2 : Sort _} {A3 : Sort _} {A4 : Sort _} {P0 : A0 → A1 → A2 → A3 → A4 → Prop} {P1 : A0 → A1 → A2 → A3 → A4 → Prop} {P2 : A0 → A1 → A2 → A3 → A4 → Prop} {C : Prop} (h : ∃ (x0 : A0) (x1 : A1) (x2 : A2) (x3 : A3) (x4 : A4), P0 x0 x1 x2 x3 x4 ∧ P1 x0 x1 x2 x3 x4 ∧ P2 x0 x1 x2 x3 x4) (f : ∀ (x0 : A0) (x1 : A1) (x2 : A2) (x3 : A3) (x4 : A4), P0 x0 x1 x2 x3 x4 → P1 x0 x1 x2 x3 x4 → P2 x0 x1 x2 x3 x4 → C) : C :=
  h.elim fun x0 h => h.elim fun x1 h => h.elim fun x2 h => h.elim fun x3 h => h.elim fun x4 h => f x0 x1 x2 x3 x4 h.1 h.2.1 h.2.2
theorem ex_5_5 {A0 : Sort _} {A1 : Sort _} {A2 : Sort _} {A3 : Sort _} {A4 : Sort _} {P0 : A0 → A1 → A2 → A3 → A4 → Prop} {P1 : A0 → A1 → A2 → A3 → A4 → Prop} {P2 : A0 → A1 → A2 → A3 → A4 → Prop} {P3 : A0 → A1 → A2 → A3 → A4 → Prop} {P4 : A0 → A1 → A2 → A3 → A4 → Prop} {C : Prop} (h : ∃ (x0 : A0) (x1 : A1) (x2 : A2) (x3 : A3) (x4 : A4), P0 x0 x1 x2 x3 x4 ∧ P1 x0 x1 x2 x3 x4 ∧ P2 x0 x1 x2 x3 x4 ∧ P3 x0 x1 x2 x3 x4 ∧ P4 x0 x1 x2 x3 x4) (f : ∀ (x0 : A0) (x1 : A1) (x2 : A2) (x3 : A3) (x4 : A4), P0 x0 x1 x2 x3 x4 → P1 x0 x1 x2 x3 x4 → P2 x0 x1 x2 x3 x4 → P3 x0 x1 x2 x3 x4 → P4 x0 x1 x2 x3 x4 → C) : C :=
  h.elim fun x0 h => h.elim fun x1 h => h.elim fun x2 h => h.elim fun x3 h => h.elim fun x4 h => f x0 x1 x2 x3 x4 h.1 h.2.1 h.2.2.1 h.2.2.2.1 h.2.2.2.2
theorem ex_5_6 {A0 : Sort _} {A1 : Sort _} {A2 : Sort _} {A3 : Sort _} {A4 : Sort _} {P0 : A0 → A1 → A2 → A3 → A4 → Prop} {P1 : A0 → A1 → A2 → A3 → A4 → Prop} {P2 : A0 → A1 → A2 → A3 → A4 → Prop} {P3 : A0 → A1 → A2 → A3 → A4 → Prop} {P4 : A0 → A1 → A2 → A3 → A4 → Prop} {P5 : A0 → A1 → A2 → A3 → A4 → Prop} {C : Prop} (h : ∃ (x0 : A0) (x1 : A1) (x2 : A2) (x3 : A3) (x4 : A4), P0 x0 x1 x2 x3 x4 ∧ P1 x0 x1 x2 x3 x4 ∧ P2 x0 x1 x2 x3 x4 ∧ P3 x0 x1 x2 x3 x4 ∧ P4 x0 x1 x2 x3 x4 ∧ P5 x0 x1 x2 x3 x4) (f : ∀ (x0 : A0) (x1 : A1) (x2 : A2) (x3 : A3) (x4 : A4), P0 x0 x1 x2 x3 x4 → P1 x0 x1 x2 x3 x4 → P2 x0 x1 x2 x3 x4 → P3 x0 x1 x2 x3 x4 → P4 x0 x1 x2 x3 x4 → P5 x0 x1 x2 x3 x4 → C) : C :=
  h.elim fun x0 h => h.elim fun x1 h => h.elim fun x2 h => h.elim fun x3 h => h.elim fun x4 h => f x0 x1 x2 x3 x4 h.1 h.2.1 h.2.2.1 h.2.2.2.1 h.2.2.2.2.1 h.2.2.2.2.2
theorem ex_10_9 {A0 : Sort _} {A1 : Sort _} {A2 : Sort _} {A3 : Sort _} {A4 : Sort _} {A5 : Sort _} {A6 : Sort _} {A7 : Sort _} {A8 : Sort _} {A9 : Sort _} {P0 : A0 → A1 → A2 → A3 → A4 → A5 → A6 → A7 → A8 → A9 → Prop} {P1 : A0 → A1 → A2 → A3 → A4 → A5 → A6 → A7 → A8 → A9 → Prop} {P2 : A0 → A1 → A2 → A3 → A4 → A5 → A6 → A7 → A8 → A9 → Prop} {P3 : A0 → A1 → A2 → A3 → A4 → A5 → A6 → A7 → A8 → A9 → Prop} {P4 : A0 → A1 → A2 → A3 → A4 → A5 → A6 → A7 → A8 → A9 → Prop} {P5 : A0 → A1 → A2 → A3 → A4 → A5 → A6 → A7 → A8 → A9 → Prop} {P6 : A0 → A1 → A2 → A3 → A4 → A5 → A6 → A7 → A8 → A9 → Prop} {P7 : A0 → A1 → A2 → A3 → A4 → A5 → A6 → A7 → A8 → A9 → Prop} {P8 : A0 → A1 → A2 → A3 → A4 → A5 → A6 → A7 → A8 → A9 → Prop} {C : Prop} (h : ∃ (x0 : A0) (x1 : A1) (x2 : A2) (x3 : A3) (x4 : A4) (x5 : A5) (x6 : A6) (x7 : A7) (x8 : A8) (x9 : A9), P0 x0 x1 x2 x3 x4 x5 x6 x7 x8 x9 ∧ P1 x0 x1 x2 x3 x4 x5 x6 x7 x8 x9 ∧ P2 x0 x1 x2 x3 x4 x5 x6 x7 x8 x9 ∧ P3 x0 x1 x2 x3 x4 x5 x6 x7 x8 x9 ∧ P4 x0 x1 x2 x3 x4 x5 x6 x7 x8 x9 ∧ P5 x0 x1 x2 x3 x4 x5 x6 x7 x8 x9 ∧ P6 x0 x1 x2 x3 x4 x5 x6 x7 x8 x9 ∧ P7 x0 x1 x2 x3 x4 x5 x6 x7 x8 x9 ∧ P8 x0 x1 x2 x3 x4 x5 x6 x7 x8 x9) (f : ∀ (x0 : A0) (x1 : A1) (x2 : A2) (x3 : A3) (x4 : A4) (x5 : A5) (x6 : A6) (x7 : A7) (x8 : A8) (x9 : A9), P0 x0 x1 x2 x3 x4 x5 x6 x7 x8 x9 → P1 x0 x1 x2 x3 x4 x5 x6 x7 x8 x9 → P2 x0 x1 x2 x3 x4 x5 x6 x7 x8 x9 → P3 x0 x1 x2 x3 x4 x5 x6 x7 x8 x9 → P4 x0 x1 x2 x3 x4 x5 x6 x7 x8 x9 → P5 x0 x1 x2 x3 x4 x5 x6 x7 x8 x9 → P6 x0 x1 x2 x3 x4 x5 x6 x7 x8 x9 → P7 x0 x1 x2 x3 x4 x5 x6 x7 x8 x9 → P8 x0 x1 x2 x3 x4 x5 x6 x7 x8 x9 → C) : C :=
  h.elim fun x0 h => h.elim fun x1 h => h.elim fun x2 h => h.elim fun x3 h => h.elim fun x4 h => h.elim fun x5 h => h.elim fun x6 h => h.elim fun x7 h => h.elim fun x8 h => h.elim fun x9 h => f x0 x1 x2 x3 x4 x5 x6 x7 x8 x9 h.1 h.2.1 h.2.2.1 h.2.2.2.1 h.2.2.2.2.1 h.2.2.2.2.2.1 h.2.2.2.2.2.2.1 h.2.2.2.2.2.2.2.1 h.2.2.2.2.2.2.2.2
theorem ex_12_1 {A0 : Sort _} {A1 : Sort _} {A2 : Sort _} {A3 : Sort _} {A4 : Sort _} {A5 : Sort _} {A6 : Sort _} {A7 : Sort _} {A8 : Sort _} {A9 : Sort _} {A10 : Sort _} {A11 : Sort _} {P0 : A0 → A1 → A2 → A3 → A4 → A5 → A6 → A7 → A8 → A9 → A10 → A11 → Prop} {C : Prop} (h : ∃ (x0 : A0) (x1 : A1) (x2 : A2) (x3 : A3) (x4 : A4) (x5 : A5) (x6 : A6) (x7 : A7) (x8 : A8) (x9 : A9) (x10 : A10) (x11 : A11), P0 x0 x1 x2 x3 x4 x5 x6 x7 x8 x9 x10 x11) (f : ∀ (x0 : A0) (x1 : A1) (x2 : A2) (x3 : A3) (x4 : A4) (x5 : A5) (x6 : A6) (x7 : A7) (x8 : A8) (x9 : A9) (x10 : A10) (x11 : A11), P0 x0 x1 x2 x3 x4 x5 x6 x7 x8 x9 x10 x11 → C) : C :=
  h.elim fun x0 h => h.elim fun x1 h => h.elim fun x2 h => h.elim fun x3 h => h.elim fun x4 h => h.elim fun x5 h => h.elim fun x6 h => h.elim fun x7 h => h.elim fun x8 h => h.elim fun x9 h => h.elim fun x10 h => h.elim fun x11 h => f x0 x1 x2 x3 x4 x5 x6 x7 x8 x9 x10 x11 h
theorem ex_17_2 {A0 : Sort _} {A1 : Sort _} {A2 : Sort _} {A3 : Sort _} {A4 : Sort _} {A5 : Sort _} {A6 : Sort _} {A7 : Sort _} {A8 : Sort _} {A9 : Sort _} {A10 : Sort _} {A11 : Sort _} {A12 : Sort _} {A13 : Sort _} {A14 : Sort _} {A15 : Sort _} {A16 : Sort _} {P0 : A0 → A1 → A2 → A3 → A4 → A5 → A6 → A7 → A8 → A9 → A10 → A11 → A12 → A13 → A14 → A15 → A16 → Prop} {P1 : A0 → A1 → A2 → A3 → A4 → A5 → A6 → A7 → A8 → A9 → A10 → A11 → A12 → A13 → A14 → A15 → A16 → Prop} {C : Prop} (h : ∃ (x0 : A0) (x1 : A1) (x2 : A2) (x3 : A3) (x4 : A4) (x5 : A5) (x6 : A6) (x7 : A7) (x8 : A8) (x9 : A9) (x10 : A10) (x11 : A11) (x12 : A12) (x13 : A13) (x14 : A14) (x15 : A15) (x16 : A16), P0 x0 x1 x2 x3 x4 x5 x6 x7 x8 x9 x10 x11 x12 x13 x14 x15 x16 ∧ P1 x0 x1 x2 x3 x4 x5 x6 x7 x8 x9 x10 x11 x12 x13 x14 x15 x16) (f : ∀ (x0 : A0) (x1 : A1) (x2 : A2) (x3 : A3) (x4 : A4) (x5 : A5) (x6 : A6) (x7 : A7) (x8 : A8) (x9 : A9) (x10 : A10) (x11 : A11) (x12 : A12) (x13 : A13) (x14 : A14) (x15 : A15) (x16 : A16), P0 x0 x1 x2 x3 x4 x5 x6 x7 x8 x9 x10 x11 x12 x13 x14 x15 x16 → P1 x0 x1 x2 x3 x4 x5 x6 x7 x8 x9 x10 x11 x12 x13 x14 x15 x16 → C) : C :=
  h.elim fun x0 h => h.elim fun x1 h => h.elim fun x2 h => h.elim fun x3 h => h.elim fun x4 h => h.elim fun x5 h => h.elim fun x6 h => h.elim fun x7 h => h.elim fun x8 h => h.elim fun x9 h => h.elim fun x10 h => h.elim fun x11 h => h.elim fun x12 h => h.elim fun x13 h => h.elim fun x14 h => h.elim fun x15 h => h.elim fun x16 h => f x0 x1 x2 x3 x4 x5 x6 x7 x8 x9 x10 x11 x12 x13 x14 x15 x16 h.1 h.2
local macro_rules | `(tactic| walk_at "w2") => `(tactic| (intro _ _; rfl))
local macro_rules | `(tactic| walk_at "wc") => `(tactic| (first | exact .inl (by kernel_rfl) | exact .inr (by kernel_rfl)))
local macro_rules | `(tactic| walk_at "w1") => `(tactic| (intro _; rfl))
local macro_rules | `(tactic| walk_at "wn") => `(tactic| (intro _ h; cases h))
local macro_rules | `(tactic| walk_at "wd") => `(tactic| (first | decide | exact Nat.le_of_ble_eq_true rfl))
noncomputable section
noncomputable abbrev pg : Program := PySem.Challenge.pw_mr0249_01
noncomputable def stA (i : Nat) : Arguments := match pg.main.body[i]? with
  | some (.FunctionDef _ a _ _ _ _ _ _ _ _) => a
  | _ => default
noncomputable def stB (i : Nat) : List Stmt := match pg.main.body[i]? with
  | some (.FunctionDef _ _ b _ _ _ _ _ _ _) => b
  | _ => []
noncomputable def scB (i : Nat) : Scope := match pg.main.body[i]? with
  | some (.FunctionDef _ _ _ _ _ _ sc _ _ _) => sc
  | _ => default
noncomputable def stP (i : Nat) : Pos := match pg.main.body[i]? with
  | some (.FunctionDef _ _ _ _ _ _ _ _ _ p) => p
  | _ => default
noncomputable def clsB : List Stmt := match (pg.main.body[1]? : Option Stmt) with
  | some (Stmt.ClassDef _ _ _ b _ _ _ _ _ _ _) => b
  | _ => []
noncomputable def stD (j : Nat) : Arguments := match clsB[j]? with
  | some (.FunctionDef _ a _ _ _ _ _ _ _ _) => a
  | _ => default
noncomputable def stC (j : Nat) : List Stmt := match clsB[j]? with
  | some (.FunctionDef _ _ b _ _ _ _ _ _ _) => b
  | _ => []
noncomputable def scC (j : Nat) : Scope := match clsB[j]? with
  | some (.FunctionDef _ _ _ _ _ _ sc _ _ _) => sc
  | _ => default
noncomputable def heapK (P : Params) : Frag := [
  (2, { cls := Value.none, data := Data.dict #[] }),
  (3, { cls := Value.type "dict", data := Data.dict #[{ hash := PyData.keyHash P (Str.ofString "__name__"), key := Value.str (Str.ofString "__name__") 165, val := Value.str (Str.ofString "law_mr0249_01") 323 }, { hash := PyData.keyHash P (Str.ofString "__doc__"), key := Value.str (Str.ofString "__doc__") 166, val := Value.none }, { hash := PyData.keyHash P (Str.ofString "__package__"), key := Value.str (Str.ofString "__package__") 167, val := Value.none }, { hash := PyData.keyHash P (Str.ofString "__loader__"), key := Value.str (Str.ofString "__loader__") 168, val := Value.builtin "__main__.__loader__#opaque" }, { hash := PyData.keyHash P (Str.ofString "__spec__"), key := Value.str (Str.ofString "__spec__") 169, val := Value.none }, { hash := PyData.keyHash P (Str.ofString "__annotations__"), key := Value.str (Str.ofString "__annotations__") 170, val := Value.ref 6 }, { hash := PyData.keyHash P (Str.ofString "__builtins__"), key := Value.str (Str.ofString "__builtins__") 171, val := Value.ref 4 }, { hash := PyData.keyHash P (Str.ofString "__file__"), key := Value.str (Str.ofString "__file__") 173, val := Value.str (Str.ofString "/claim/cut.py") 172 }, { hash := PyData.keyHash P (Str.ofString "__cached__"), key := Value.str (Str.ofString "__cached__") 174, val := Value.none }, { hash := PyData.keyHash P (Str.ofString "Whitespace"), key := Value.str (Str.ofString "Whitespace") 294, val := Value.ref 76 }, { hash := PyData.keyHash P (Str.ofString "format_witnesses"), key := Value.str (Str.ofString "format_witnesses") 303, val := Value.ref 87 }, { hash := PyData.keyHash P (Str.ofString "parse_keqv_list"), key := Value.str (Str.ofString "parse_keqv_list") 316, val := Value.ref 94 }, { hash := PyData.keyHash P (Str.ofString "parse_http_list"), key := Value.str (Str.ofString "parse_http_list") 322, val := Value.ref 99 }, { hash := PyData.keyHash P (Str.ofString "_law_turned"), key := Value.str (Str.ofString "_law_turned") 330, val := Value.ref 104 }, { hash := PyData.keyHash P (Str.ofString "_law_leads"), key := Value.str (Str.ofString "_law_leads") 344, val := Value.ref 111 }, { hash := PyData.keyHash P (Str.ofString "_law_lead"), key := Value.str (Str.ofString "_law_lead") 350, val := Value.ref 116 }, { hash := PyData.keyHash P (Str.ofString "_law_members"), key := Value.str (Str.ofString "_law_members") 356, val := Value.ref 121 }, { hash := PyData.keyHash P (Str.ofString "_law_quoted"), key := Value.str (Str.ofString "_law_quoted") 362, val := Value.ref 126 }, { hash := PyData.keyHash P (Str.ofString "_law_words"), key := Value.str (Str.ofString "_law_words") 368, val := Value.ref 131 }, { hash := PyData.keyHash P (Str.ofString "_law_number"), key := Value.str (Str.ofString "_law_number") 377, val := Value.ref 138 }, { hash := PyData.keyHash P (Str.ofString "_law_table"), key := Value.str (Str.ofString "_law_table") 383, val := Value.ref 143 }, { hash := PyData.keyHash P (Str.ofString "_law_reckoned"), key := Value.str (Str.ofString "_law_reckoned") 389, val := Value.ref 148 }, { hash := PyData.keyHash P (Str.ofString "_law_rows"), key := Value.str (Str.ofString "_law_rows") 395, val := Value.ref 153 }, { hash := PyData.keyHash P (Str.ofString "law"), key := Value.str (Str.ofString "law") 401, val := Value.ref 158 }] 24 }),
  (25, { cls := Value.type "tuple", data := Data.seq #[] }),
  (27, { cls := Value.type "tuple", data := Data.seq #[Value.str (Str.ofString "self") 209, Value.str (Str.ofString "ws") 210, Value.str (Str.ofString "S") 211, Value.str (Str.ofString "T") 212, Value.str (Str.ofString "count") 213, Value.str (Str.ofString "b") 214, Value.str (Str.ofString "n") 215, Value.str (Str.ofString "nt") 216, Value.str (Str.ofString "ch") 217] }),
  (28, { cls := Value.type "tuple", data := Data.seq #[] }),
  (30, { cls := Value.type "code", data := Data.fields #[Value.str (Str.ofString "__init__") 206, Value.str (Str.ofString "Whitespace.__init__") 207, Value.str (Str.ofString "/claim/cut.py") 208, Value.int 5 0, Value.int 2 0, Value.int 0 0, Value.int 0 0, Value.int 3 0, Value.ref 25, Value.bool true, Value.int 181 0, Value.ref 26, Value.none, Value.ref 27, Value.ref 28, Value.ref 29, Value.int 218 0, Value.int 5 0, Value.str (Str.ofString "/claim/cut.py") 219] }),
  (31, { cls := Value.type "function", data := Data.func { name := Str.ofString "__init__", qualname := Str.ofString "Whitespace.__init__", params := stD 1, body := FuncBody.stmts (stC 1), scope := scC 1, globals := 3, closure := [], defaults := Value.none, kwdefaults := Value.none, pyModule := Value.str (Str.ofString "cpy313.tabnanny") 187, code := Value.ref 30 } }),
  (32, { cls := Value.type "tuple", data := Data.seq #[] }),
  (34, { cls := Value.type "tuple", data := Data.seq #[Value.str (Str.ofString "self") 224, Value.str (Str.ofString "count") 225, Value.str (Str.ofString "trailing") 226] }),
  (35, { cls := Value.type "tuple", data := Data.seq #[] }),
  (37, { cls := Value.type "code", data := Data.fields #[Value.str (Str.ofString "longest_run_of_spaces") 221, Value.str (Str.ofString "Whitespace.longest_run_of_spaces") 222, Value.str (Str.ofString "/claim/cut.py") 223, Value.int 28 0, Value.int 1 0, Value.int 0 0, Value.int 0 0, Value.int 3 0, Value.ref 32, Value.bool true, Value.int 181 0, Value.ref 33, Value.none, Value.ref 34, Value.ref 35, Value.ref 36, Value.int 227 0, Value.int 28 0, Value.str (Str.ofString "/claim/cut.py") 228] }),
  (38, { cls := Value.type "function", data := Data.func { name := Str.ofString "longest_run_of_spaces", qualname := Str.ofString "Whitespace.longest_run_of_spaces", params := stD 2, body := FuncBody.stmts (stC 2), scope := scC 2, globals := 3, closure := [], defaults := Value.none, kwdefaults := Value.none, pyModule := Value.str (Str.ofString "cpy313.tabnanny") 187, code := Value.ref 37 } }),
  (39, { cls := Value.type "tuple", data := Data.seq #[] }),
  (41, { cls := Value.type "tuple", data := Data.seq #[Value.str (Str.ofString "self") 233, Value.str (Str.ofString "tabsize") 234, Value.str (Str.ofString "count") 235, Value.str (Str.ofString "trailing") 236, Value.str (Str.ofString "il") 237, Value.str (Str.ofString "i") 238] }),
  (42, { cls := Value.type "tuple", data := Data.seq #[] }),
  (44, { cls := Value.type "code", data := Data.fields #[Value.str (Str.ofString "indent_level") 230, Value.str (Str.ofString "Whitespace.indent_level") 231, Value.str (Str.ofString "/claim/cut.py") 232, Value.int 32 0, Value.int 2 0, Value.int 0 0, Value.int 0 0, Value.int 3 0, Value.ref 39, Value.bool true, Value.int 181 0, Value.ref 40, Value.none, Value.ref 41, Value.ref 42, Value.ref 43, Value.int 239 0, Value.int 32 0, Value.str (Str.ofString "/claim/cut.py") 240] }),
  (45, { cls := Value.type "function", data := Data.func { name := Str.ofString "indent_level", qualname := Str.ofString "Whitespace.indent_level", params := stD 3, body := FuncBody.stmts (stC 3), scope := scC 3, globals := 3, closure := [], defaults := Value.none, kwdefaults := Value.none, pyModule := Value.str (Str.ofString "cpy313.tabnanny") 187, code := Value.ref 44 } }),
  (46, { cls := Value.type "tuple", data := Data.seq #[] }),
  (48, { cls := Value.type "tuple", data := Data.seq #[Value.str (Str.ofString "self") 245, Value.str (Str.ofString "other") 246] }),
  (49, { cls := Value.type "tuple", data := Data.seq #[] }),
  (51, { cls := Value.type "code", data := Data.fields #[Value.str (Str.ofString "equal") 242, Value.str (Str.ofString "Whitespace.equal") 243, Value.str (Str.ofString "/claim/cut.py") 244, Value.int 39 0, Value.int 2 0, Value.int 0 0, Value.int 0 0, Value.int 3 0, Value.ref 46, Value.bool true, Value.int 181 0, Value.ref 47, Value.none, Value.ref 48, Value.ref 49, Value.ref 50, Value.int 247 0, Value.int 39 0, Value.str (Str.ofString "/claim/cut.py") 248] }),
  (52, { cls := Value.type "function", data := Data.func { name := Str.ofString "equal", qualname := Str.ofString "Whitespace.equal", params := stD 4, body := FuncBody.stmts (stC 4), scope := scC 4, globals := 3, closure := [], defaults := Value.none, kwdefaults := Value.none, pyModule := Value.str (Str.ofString "cpy313.tabnanny") 187, code := Value.ref 51 } }),
  (53, { cls := Value.type "tuple", data := Data.seq #[] }),
  (55, { cls := Value.type "tuple", data := Data.seq #[Value.str (Str.ofString "self") 253, Value.str (Str.ofString "other") 254, Value.str (Str.ofString "n") 255, Value.str (Str.ofString "a") 256, Value.str (Str.ofString "ts") 257] }),
  (56, { cls := Value.type "tuple", data := Data.seq #[] }),
  (58, { cls := Value.type "code", data := Data.fields #[Value.str (Str.ofString "not_equal_witness") 250, Value.str (Str.ofString "Whitespace.not_equal_witness") 251, Value.str (Str.ofString "/claim/cut.py") 252, Value.int 42 0, Value.int 2 0, Value.int 0 0, Value.int 0 0, Value.int 3 0, Value.ref 53, Value.bool true, Value.int 181 0, Value.ref 54, Value.none, Value.ref 55, Value.ref 56, Value.ref 57, Value.int 258 0, Value.int 42 0, Value.str (Str.ofString "/claim/cut.py") 259] }),
  (59, { cls := Value.type "function", data := Data.func { name := Str.ofString "not_equal_witness", qualname := Str.ofString "Whitespace.not_equal_witness", params := stD 5, body := FuncBody.stmts (stC 5), scope := scC 5, globals := 3, closure := [], defaults := Value.none, kwdefaults := Value.none, pyModule := Value.str (Str.ofString "cpy313.tabnanny") 187, code := Value.ref 58 } }),
  (60, { cls := Value.type "tuple", data := Data.seq #[] }),
  (62, { cls := Value.type "tuple", data := Data.seq #[Value.str (Str.ofString "self") 264, Value.str (Str.ofString "other") 265, Value.str (Str.ofString "n") 266, Value.str (Str.ofString "ts") 267] }),
  (63, { cls := Value.type "tuple", data := Data.seq #[] }),
  (65, { cls := Value.type "code", data := Data.fields #[Value.str (Str.ofString "less") 261, Value.str (Str.ofString "Whitespace.less") 262, Value.str (Str.ofString "/claim/cut.py") 263, Value.int 50 0, Value.int 2 0, Value.int 0 0, Value.int 0 0, Value.int 3 0, Value.ref 60, Value.bool true, Value.int 181 0, Value.ref 61, Value.none, Value.ref 62, Value.ref 63, Value.ref 64, Value.int 268 0, Value.int 50 0, Value.str (Str.ofString "/claim/cut.py") 269] }),
  (66, { cls := Value.type "function", data := Data.func { name := Str.ofString "less", qualname := Str.ofString "Whitespace.less", params := stD 6, body := FuncBody.stmts (stC 6), scope := scC 6, globals := 3, closure := [], defaults := Value.none, kwdefaults := Value.none, pyModule := Value.str (Str.ofString "cpy313.tabnanny") 187, code := Value.ref 65 } }),
  (67, { cls := Value.type "tuple", data := Data.seq #[] }),
  (69, { cls := Value.type "tuple", data := Data.seq #[Value.str (Str.ofString "self") 274, Value.str (Str.ofString "other") 275, Value.str (Str.ofString "n") 276, Value.str (Str.ofString "a") 277, Value.str (Str.ofString "ts") 278] }),
  (70, { cls := Value.type "tuple", data := Data.seq #[] }),
  (72, { cls := Value.type "code", data := Data.fields #[Value.str (Str.ofString "not_less_witness") 271, Value.str (Str.ofString "Whitespace.not_less_witness") 272, Value.str (Str.ofString "/claim/cut.py") 273, Value.int 61 0, Value.int 2 0, Value.int 0 0, Value.int 0 0, Value.int 3 0, Value.ref 67, Value.bool true, Value.int 181 0, Value.ref 68, Value.none, Value.ref 69, Value.ref 70, Value.ref 71, Value.int 279 0, Value.int 61 0, Value.str (Str.ofString "/claim/cut.py") 280] }),
  (73, { cls := Value.type "function", data := Data.func { name := Str.ofString "not_less_witness", qualname := Str.ofString "Whitespace.not_less_witness", params := stD 7, body := FuncBody.stmts (stC 7), scope := scC 7, globals := 3, closure := [], defaults := Value.none, kwdefaults := Value.none, pyModule := Value.str (Str.ofString "cpy313.tabnanny") 187, code := Value.ref 72 } }),
  (74, { cls := Value.type "tuple", data := Data.seq #[Value.str (Str.ofString "is_simple") 282, Value.str (Str.ofString "n") 283, Value.str (Str.ofString "norm") 284, Value.str (Str.ofString "nt") 285, Value.str (Str.ofString "raw") 286] }),
  (75, { cls := Value.type "dict", data := Data.dict #[{ hash := PyData.keyHash P (Str.ofString "__module__"), key := Value.str (Str.ofString "__module__") 196, val := Value.str (Str.ofString "cpy313.tabnanny") 187 }, { hash := PyData.keyHash P (Str.ofString "__firstlineno__"), key := Value.str (Str.ofString "__firstlineno__") 200, val := Value.int 2 199 }, { hash := PyData.keyHash P (Str.ofString "S"), key := Value.str (Str.ofString "S") 204, val := Value.str (Str.ofString " ") 202 }, { hash := PyData.keyHash P (Str.ofString "T"), key := Value.str (Str.ofString "T") 205, val := Value.str (Str.ofString "\t") 203 }, { hash := PyData.keyHash P (Str.ofString "__init__"), key := Value.str (Str.ofString "__init__") 220, val := Value.ref 31 }, { hash := PyData.keyHash P (Str.ofString "longest_run_of_spaces"), key := Value.str (Str.ofString "longest_run_of_spaces") 229, val := Value.ref 38 }, { hash := PyData.keyHash P (Str.ofString "indent_level"), key := Value.str (Str.ofString "indent_level") 241, val := Value.ref 45 }, { hash := PyData.keyHash P (Str.ofString "equal"), key := Value.str (Str.ofString "equal") 249, val := Value.ref 52 }, { hash := PyData.keyHash P (Str.ofString "not_equal_witness"), key := Value.str (Str.ofString "not_equal_witness") 260, val := Value.ref 59 }, { hash := PyData.keyHash P (Str.ofString "less"), key := Value.str (Str.ofString "less") 270, val := Value.ref 66 }, { hash := PyData.keyHash P (Str.ofString "not_less_witness"), key := Value.str (Str.ofString "not_less_witness") 281, val := Value.ref 73 }, { hash := PyData.keyHash P (Str.ofString "__static_attributes__"), key := Value.str (Str.ofString "__static_attributes__") 287, val := Value.ref 74 }, { hash := PyData.keyHash P (Str.ofString "__dict__"), key := Value.str (Str.ofString "__dict__") 289, val := Value.ref 77 }, { hash := PyData.keyHash P (Str.ofString "__weakref__"), key := Value.str (Str.ofString "__weakref__") 291, val := Value.ref 78 }, { hash := PyData.keyHash P (Str.ofString "__doc__"), key := Value.str (Str.ofString "__doc__") 292, val := Value.none }] 4 }),
  (76, { cls := Value.type "type", data := Data.cls { name := Str.ofString "Whitespace", bases := [Value.type "object"], mro := [Value.ref 76, Value.type "object"], ns := 75, qualname := Str.ofString "Whitespace" }, slots := #[none, none, some (Value.str (Str.ofString "Whitespace") 189), some (Value.str (Str.ofString "Whitespace") 197), some (Value.builtin "object.__new__"), some (Value.bool true)] }),
  (77, { cls := Value.type "getset_descriptor", data := Data.fields #[Value.str (Str.ofString "__dict__") 288, Value.ref 76, Value.builtin "function.__dict__", Value.builtin "function.__dict__#set"] }),
  (78, { cls := Value.type "getset_descriptor", data := Data.fields #[Value.str (Str.ofString "__weakref__") 290, Value.ref 76, Value.builtin "ExceptionGroup.__weakref__", Value.none] }),
  (81, { cls := Value.type "tuple", data := Data.seq #[] }),
  (83, { cls := Value.type "tuple", data := Data.seq #[Value.str (Str.ofString "w") 298, Value.str (Str.ofString "firsts") 299, Value.str (Str.ofString "prefix") 300] }),
  (84, { cls := Value.type "tuple", data := Data.seq #[] }),
  (86, { cls := Value.type "code", data := Data.fields #[Value.str (Str.ofString "format_witnesses") 295, Value.str (Str.ofString "format_witnesses") 296, Value.str (Str.ofString "/claim/cut.py") 297, Value.int 68 0, Value.int 1 0, Value.int 0 0, Value.int 0 0, Value.int 3 0, Value.ref 81, Value.bool true, Value.int 181 0, Value.ref 82, Value.none, Value.ref 83, Value.ref 84, Value.ref 85, Value.int 301 0, Value.int 68 0, Value.str (Str.ofString "/claim/cut.py") 302] }),
  (87, { cls := Value.type "function", data := Data.func { name := Str.ofString "format_witnesses", qualname := Str.ofString "format_witnesses", params := stA 2, body := FuncBody.stmts (stB 2), scope := scB 2, globals := 3, closure := [], defaults := Value.none, kwdefaults := Value.none, pyModule := Value.str (Str.ofString "cpy313.tabnanny") 187, code := Value.ref 86 } }),
  (88, { cls := Value.type "tuple", data := Data.seq #[] }),
  (90, { cls := Value.type "tuple", data := Data.seq #[Value.str (Str.ofString "l") 309, Value.str (Str.ofString "parsed") 310, Value.str (Str.ofString "elt") 311, Value.str (Str.ofString "k") 312, Value.str (Str.ofString "v") 313] }),
  (91, { cls := Value.type "tuple", data := Data.seq #[] }),
  (93, { cls := Value.type "code", data := Data.fields #[Value.str (Str.ofString "parse_keqv_list") 306, Value.str (Str.ofString "parse_keqv_list") 307, Value.str (Str.ofString "/claim/cut.py") 308, Value.int 75 0, Value.int 1 0, Value.int 0 0, Value.int 0 0, Value.int 3 0, Value.ref 88, Value.bool true, Value.int 181 0, Value.ref 89, Value.none, Value.ref 90, Value.ref 91, Value.ref 92, Value.int 314 0, Value.int 75 0, Value.str (Str.ofString "/claim/cut.py") 315] }),
  (94, { cls := Value.type "function", data := Data.func { name := Str.ofString "parse_keqv_list", qualname := Str.ofString "parse_keqv_list", params := stA 4, body := FuncBody.stmts (stB 4), scope := scB 4, globals := 3, closure := [], defaults := Value.none, kwdefaults := Value.none, pyModule := Value.str (Str.ofString "cpy313.urllib.request") 304, code := Value.ref 93 } }),
  (95, { cls := Value.type "tuple", data := Data.seq #[] }),
  (98, { cls := Value.type "code", data := Data.fields #[Value.str (Str.ofString "parse_http_list") 317, Value.str (Str.ofString "parse_http_list") 318, Value.str (Str.ofString "/claim/cut.py") 319, Value.int 83 0, Value.int 1 0, Value.int 0 0, Value.int 0 0, Value.int 3 0, Value.ref 95, Value.bool true, Value.int 181 0, Value.ref 96, Value.none, Value.none, Value.none, Value.ref 97, Value.int 320 0, Value.int 83 0, Value.str (Str.ofString "/claim/cut.py") 321] }),
  (99, { cls := Value.type "function", data := Data.func { name := Str.ofString "parse_http_list", qualname := Str.ofString "parse_http_list", params := stA 5, body := FuncBody.stmts (stB 5), scope := scB 5, globals := 3, closure := [], defaults := Value.none, kwdefaults := Value.none, pyModule := Value.str (Str.ofString "cpy313.urllib.request") 304, code := Value.ref 98 } }),
  (100, { cls := Value.type "tuple", data := Data.seq #[] }),
  (103, { cls := Value.type "code", data := Data.fields #[Value.str (Str.ofString "_law_turned") 325, Value.str (Str.ofString "_law_turned") 326, Value.str (Str.ofString "/claim/cut.py") 327, Value.int 111 0, Value.int 1 0, Value.int 0 0, Value.int 0 0, Value.int 3 0, Value.ref 100, Value.bool true, Value.int 181 0, Value.ref 101, Value.none, Value.none, Value.none, Value.ref 102, Value.int 328 0, Value.int 111 0, Value.str (Str.ofString "/claim/cut.py") 329] }),
  (104, { cls := Value.type "function", data := Data.func { name := Str.ofString "_law_turned", qualname := Str.ofString "_law_turned", params := stA 7, body := FuncBody.stmts (stB 7), scope := scB 7, globals := 3, closure := [], defaults := Value.none, kwdefaults := Value.none, pyModule := Value.str (Str.ofString "law_mr0249_01") 323, code := Value.ref 103 } }),
  (105, { cls := Value.type "tuple", data := Data.seq #[] }),
  (107, { cls := Value.type "tuple", data := Data.seq #[Value.str (Str.ofString "script") 334, Value.str (Str.ofString "one") 335, Value.str (Str.ofString "two") 336, Value.str (Str.ofString "total") 337, Value.str (Str.ofString "number") 338, Value.str (Str.ofString "cell") 339, Value.str (Str.ofString "run") 340, Value.str (Str.ofString "kind") 341] }),
  (108, { cls := Value.type "tuple", data := Data.seq #[] }),
  (110, { cls := Value.type "code", data := Data.fields #[Value.str (Str.ofString "_law_leads") 331, Value.str (Str.ofString "_law_leads") 332, Value.str (Str.ofString "/claim/cut.py") 333, Value.int 113 0, Value.int 1 0, Value.int 0 0, Value.int 0 0, Value.int 3 0, Value.ref 105, Value.bool true, Value.int 181 0, Value.ref 106, Value.none, Value.ref 107, Value.ref 108, Value.ref 109, Value.int 342 0, Value.int 113 0, Value.str (Str.ofString "/claim/cut.py") 343] }),
  (111, { cls := Value.type "function", data := Data.func { name := Str.ofString "_law_leads", qualname := Str.ofString "_law_leads", params := stA 8, body := FuncBody.stmts (stB 8), scope := scB 8, globals := 3, closure := [], defaults := Value.none, kwdefaults := Value.none, pyModule := Value.str (Str.ofString "law_mr0249_01") 323, code := Value.ref 110 } }),
  (112, { cls := Value.type "tuple", data := Data.seq #[] }),
  (115, { cls := Value.type "code", data := Data.fields #[Value.str (Str.ofString "_law_lead") 345, Value.str (Str.ofString "_law_lead") 346, Value.str (Str.ofString "/claim/cut.py") 347, Value.int 141 0, Value.int 1 0, Value.int 0 0, Value.int 0 0, Value.int 3 0, Value.ref 112, Value.bool true, Value.int 181 0, Value.ref 113, Value.none, Value.none, Value.none, Value.ref 114, Value.int 348 0, Value.int 141 0, Value.str (Str.ofString "/claim/cut.py") 349] }),
  (116, { cls := Value.type "function", data := Data.func { name := Str.ofString "_law_lead", qualname := Str.ofString "_law_lead", params := stA 9, body := FuncBody.stmts (stB 9), scope := scB 9, globals := 3, closure := [], defaults := Value.none, kwdefaults := Value.none, pyModule := Value.str (Str.ofString "law_mr0249_01") 323, code := Value.ref 115 } }),
  (117, { cls := Value.type "tuple", data := Data.seq #[] }),
  (120, { cls := Value.type "code", data := Data.fields #[Value.str (Str.ofString "_law_members") 351, Value.str (Str.ofString "_law_members") 352, Value.str (Str.ofString "/claim/cut.py") 353, Value.int 143 0, Value.int 2 0, Value.int 0 0, Value.int 0 0, Value.int 3 0, Value.ref 117, Value.bool true, Value.int 181 0, Value.ref 118, Value.none, Value.none, Value.none, Value.ref 119, Value.int 354 0, Value.int 143 0, Value.str (Str.ofString "/claim/cut.py") 355] }),
  (121, { cls := Value.type "function", data := Data.func { name := Str.ofString "_law_members", qualname := Str.ofString "_law_members", params := stA 10, body := FuncBody.stmts (stB 10), scope := scB 10, globals := 3, closure := [], defaults := Value.none, kwdefaults := Value.none, pyModule := Value.str (Str.ofString "law_mr0249_01") 323, code := Value.ref 120 } }),
  (122, { cls := Value.type "tuple", data := Data.seq #[] }),
  (125, { cls := Value.type "code", data := Data.fields #[Value.str (Str.ofString "_law_quoted") 357, Value.str (Str.ofString "_law_quoted") 358, Value.str (Str.ofString "/claim/cut.py") 359, Value.int 148 0, Value.int 2 0, Value.int 0 0, Value.int 0 0, Value.int 3 0, Value.ref 122, Value.bool true, Value.int 181 0, Value.ref 123, Value.none, Value.none, Value.none, Value.ref 124, Value.int 360 0, Value.int 148 0, Value.str (Str.ofString "/claim/cut.py") 361] }),
  (126, { cls := Value.type "function", data := Data.func { name := Str.ofString "_law_quoted", qualname := Str.ofString "_law_quoted", params := stA 11, body := FuncBody.stmts (stB 11), scope := scB 11, globals := 3, closure := [], defaults := Value.none, kwdefaults := Value.none, pyModule := Value.str (Str.ofString "law_mr0249_01") 323, code := Value.ref 125 } }),
  (127, { cls := Value.type "tuple", data := Data.seq #[] }),
  (130, { cls := Value.type "code", data := Data.fields #[Value.str (Str.ofString "_law_words") 363, Value.str (Str.ofString "_law_words") 364, Value.str (Str.ofString "/claim/cut.py") 365, Value.int 150 0, Value.int 1 0, Value.int 0 0, Value.int 0 0, Value.int 3 0, Value.ref 127, Value.bool true, Value.int 181 0, Value.ref 128, Value.none, Value.none, Value.none, Value.ref 129, Value.int 366 0, Value.int 150 0, Value.str (Str.ofString "/claim/cut.py") 367] }),
  (131, { cls := Value.type "function", data := Data.func { name := Str.ofString "_law_words", qualname := Str.ofString "_law_words", params := stA 12, body := FuncBody.stmts (stB 12), scope := scB 12, globals := 3, closure := [], defaults := Value.none, kwdefaults := Value.none, pyModule := Value.str (Str.ofString "law_mr0249_01") 323, code := Value.ref 130 } }),
  (132, { cls := Value.type "tuple", data := Data.seq #[] }),
  (134, { cls := Value.type "tuple", data := Data.seq #[Value.str (Str.ofString "text") 372, Value.str (Str.ofString "value") 373, Value.str (Str.ofString "sign") 374] }),
  (135, { cls := Value.type "tuple", data := Data.seq #[] }),
  (137, { cls := Value.type "code", data := Data.fields #[Value.str (Str.ofString "_law_number") 369, Value.str (Str.ofString "_law_number") 370, Value.str (Str.ofString "/claim/cut.py") 371, Value.int 152 0, Value.int 1 0, Value.int 0 0, Value.int 0 0, Value.int 3 0, Value.ref 132, Value.bool true, Value.int 181 0, Value.ref 133, Value.none, Value.ref 134, Value.ref 135, Value.ref 136, Value.int 375 0, Value.int 152 0, Value.str (Str.ofString "/claim/cut.py") 376] }),
  (138, { cls := Value.type "function", data := Data.func { name := Str.ofString "_law_number", qualname := Str.ofString "_law_number", params := stA 13, body := FuncBody.stmts (stB 13), scope := scB 13, globals := 3, closure := [], defaults := Value.none, kwdefaults := Value.none, pyModule := Value.str (Str.ofString "law_mr0249_01") 323, code := Value.ref 137 } }),
  (139, { cls := Value.type "tuple", data := Data.seq #[] }),
  (142, { cls := Value.type "code", data := Data.fields #[Value.str (Str.ofString "_law_table") 378, Value.str (Str.ofString "_law_table") 379, Value.str (Str.ofString "/claim/cut.py") 380, Value.int 157 0, Value.int 2 0, Value.int 0 0, Value.int 0 0, Value.int 3 0, Value.ref 139, Value.bool true, Value.int 181 0, Value.ref 140, Value.none, Value.none, Value.none, Value.ref 141, Value.int 381 0, Value.int 157 0, Value.str (Str.ofString "/claim/cut.py") 382] }),
  (143, { cls := Value.type "function", data := Data.func { name := Str.ofString "_law_table", qualname := Str.ofString "_law_table", params := stA 14, body := FuncBody.stmts (stB 14), scope := scB 14, globals := 3, closure := [], defaults := Value.none, kwdefaults := Value.none, pyModule := Value.str (Str.ofString "law_mr0249_01") 323, code := Value.ref 142 } }),
  (144, { cls := Value.type "tuple", data := Data.seq #[] }),
  (147, { cls := Value.type "code", data := Data.fields #[Value.str (Str.ofString "_law_reckoned") 384, Value.str (Str.ofString "_law_reckoned") 385, Value.str (Str.ofString "/claim/cut.py") 386, Value.int 173 0, Value.int 1 0, Value.int 0 0, Value.int 0 0, Value.int 3 0, Value.ref 144, Value.bool true, Value.int 181 0, Value.ref 145, Value.none, Value.none, Value.none, Value.ref 146, Value.int 387 0, Value.int 173 0, Value.str (Str.ofString "/claim/cut.py") 388] }),
  (148, { cls := Value.type "function", data := Data.func { name := Str.ofString "_law_reckoned", qualname := Str.ofString "_law_reckoned", params := stA 15, body := FuncBody.stmts (stB 15), scope := scB 15, globals := 3, closure := [], defaults := Value.none, kwdefaults := Value.none, pyModule := Value.str (Str.ofString "law_mr0249_01") 323, code := Value.ref 147 } }),
  (149, { cls := Value.type "tuple", data := Data.seq #[] }),
  (152, { cls := Value.type "code", data := Data.fields #[Value.str (Str.ofString "_law_rows") 390, Value.str (Str.ofString "_law_rows") 391, Value.str (Str.ofString "/claim/cut.py") 392, Value.int 186 0, Value.int 2 0, Value.int 0 0, Value.int 0 0, Value.int 3 0, Value.ref 149, Value.bool true, Value.int 181 0, Value.ref 150, Value.none, Value.none, Value.none, Value.ref 151, Value.int 393 0, Value.int 186 0, Value.str (Str.ofString "/claim/cut.py") 394] }),
  (153, { cls := Value.type "function", data := Data.func { name := Str.ofString "_law_rows", qualname := Str.ofString "_law_rows", params := stA 16, body := FuncBody.stmts (stB 16), scope := scB 16, globals := 3, closure := [], defaults := Value.none, kwdefaults := Value.none, pyModule := Value.str (Str.ofString "law_mr0249_01") 323, code := Value.ref 152 } }),
  (154, { cls := Value.type "tuple", data := Data.seq #[] }),
  (157, { cls := Value.type "code", data := Data.fields #[Value.str (Str.ofString "law") 396, Value.str (Str.ofString "law") 397, Value.str (Str.ofString "/claim/cut.py") 398, Value.int 193 0, Value.int 1 0, Value.int 0 0, Value.int 0 0, Value.int 3 0, Value.ref 154, Value.bool true, Value.int 181 0, Value.ref 155, Value.none, Value.none, Value.none, Value.ref 156, Value.int 399 0, Value.int 193 0, Value.str (Str.ofString "/claim/cut.py") 400] }),
  (158, { cls := Value.type "function", data := Data.func { name := Str.ofString "law", qualname := Str.ofString "law", params := stA 17, body := FuncBody.stmts (stB 17), scope := scB 17, globals := 3, closure := [], defaults := Value.none, kwdefaults := Value.none, pyModule := Value.str (Str.ofString "law_mr0249_01") 323, code := Value.ref 157 } })]
noncomputable def asK : List Addr := [2, 3, 25, 27, 28, 30, 31, 32, 34, 35, 37, 38, 39, 41, 42, 44, 45, 46, 48, 49, 51, 52, 53, 55, 56, 58, 59, 60, 62, 63, 65, 66, 67, 69, 70, 72, 73, 74, 75, 76, 77, 78, 81, 83, 84, 86, 87, 88, 90, 91, 93, 94, 95, 98, 99, 100, 103, 104, 105, 107, 108, 110, 111, 112, 115, 116, 117, 120, 121, 122, 125, 126, 127, 130, 131, 132, 134, 135, 137, 138, 139, 142, 143, 144, 147, 148, 149, 152, 153, 154, 157, 158]
noncomputable def viewQ : Program := { pg with main := { pg.main with body := [1, 2, 4, 5, 7, 8, 9, 10, 11, 12, 13, 14, 15, 16, 17].filterMap fun i => pg.main.body[i]? } }
noncomputable def lawD : DefRec := ⟨"law", stA 17, stB 17, scB 17, stP 17⟩
abbrev rwL : OpenLaw := PySem.Challenge.rw_mr0249_01
noncomputable abbrev hookK : Hook := kHook heapK asK (fun _ => by kernel_rfl)
theorem lawSaid : rwL.wellSaid = true := by kernel_rfl
theorem map_pair {α β γ : Type} {o : Option α} {f : α → β} {f' : α → γ} {a : β} {b : γ} (h1 : o.map f = some a) (h2 : o.map f' = some b) : o.map (fun s => (f s, f' s)) = some (a, b) := by
  cases o with
  | none => cases h1
  | some s => cases h1; cases h2; rfl
noncomputable def LeftB (b : Bool) : Prop := ∀ w : World, (fencedOpening treeTable pg w 1958).map (fun s₀ => (topFrom treeTable pg (w.withFollow "special-get-raises" b) 1958 s₀).map (fun s => (openSeen viewQ ["Whitespace"] (importedModules pg.main.body) (fun s => xlAt viewQ [] s && recOk (RowW.records rwL.row.toRowW) s) true s, hookK.obs s))) =
  some (some (openGood viewQ ["Whitespace"], hookK.val (w.withFollow "special-get-raises" b)))
theorem leftF : LeftB false := by intro w; kernel_rfl
theorem leftT : LeftB true := by intro w; kernel_rfl
theorem leftK : LeftO pg viewQ ["Whitespace"] (fun s => xlAt viewQ [] s && recOk (RowW.records rwL.row.toRowW) s) hookK.obs hookK.val 1958 :=
  LeftO.of_split "special-get-raises" fun w => map_pair (leftF w) (leftT w)
theorem hd (walk : WalkO viewQ ["Whitespace"] (XL viewQ []) hookK.says rwL.row.toRowW lawD [] fun f vs => call f vs) : rwL.Holds := by
  refine holds_law lawSaid fun said => ?_
  refine holds_open (q := viewQ) (loose := ["Whitespace"]) (Xt := fun s => xlAt viewQ [] s && recOk (RowW.records rwL.row.toRowW) s) (XP := XL viewQ []) (Yf := hookK.obs) (Ya := hookK.val) (YP := hookK.says) (d := lawD) (kwd := []) (N := 1958) leftK hookK.of hookK.keeps (fun s e => xl_of s (Bool.and_eq_true_iff.mp e).1) XL.keeps (by kernel_rfl) (by kernel_rfl) (by kernel_rfl) (fun s e => recFacts_of (Bool.and_eq_true_iff.mp e).2) (by kernel_rfl) said (by decide +kernel) ⟨by kernel_rfl, by kernel_rfl, by kernel_rfl, by kernel_rfl, by kernel_rfl, by decide +kernel⟩ ?hw walk
  case hw => w_witness2
end

noncomputable abbrev KK (w : World) : Frag := heapK w.params
noncomputable abbrev cF : Addr := 86
noncomputable abbrev PF : Addr := 82

structure Gw where
  w : World
  s₁ : Shared
  mg : Str → Option Value
  mb : Str → Option Value
  le : Env
noncomputable abbrev Gw.lf (g : Gw) : Addr := g.le.locals

noncomputable abbrev Gw.M (g : Gw) : Model := model pg g.w

noncomputable def TabOk (h : Heap) : Prop := ∃ ps, h.IsCode cF PF ps ∧ h.TableAt cF PF ps

structure Gw.Ok (g : Gw) : Prop where
  kin : (KK g.w).In g.s₁.heap
  gl : g.s₁.heap.Ns mainGlobals g.mg
  bn : g.s₁.heap.Ns builtinsNs g.mb
  lim : ∃ mc, g.s₁.heap.Ns cStatics mc ∧ mc "sys.recursionlimit" = none
  dig : ∃ mc, g.s₁.heap.Ns cStatics mc ∧ mc "sys.int_max_str_digits" = none
  bi : ∀ x : Str, x ≠ "__name__" → g.mb x = bootBuiltins x
  bmod : ∃ bm ob, BMod g.s₁.heap mainGlobals g.mg bm ob
  code : g.s₁.heap.IsCode cF PF #[] ∧ g.s₁.heap.TableAt cF PF #[]
  lfn : g.s₁.heap.get? g.lf = none
  lff : g.le.frame = some g.lf
  lfk : g.le.scope.kind = .function
structure Xt (g : Gw) (h h' : Heap) : Prop where
  at_ : ∀ b o, b ≠ PF → b ≠ g.lf → h.get? b = some o → h'.get? b = some o
  lf : ∀ o, h.get? g.lf = some o → ∃ sl, h'.get? g.lf = some { o with slots := sl }
theorem Xt.keeps {g : Gw} {h h' : Heap} (hk : ∀ b o, h.get? b = some o → h'.get? b = some o) : Xt g h h' := ⟨fun b o _ _ e => hk b o e, fun o e => ⟨o.slots, hk _ o e⟩⟩
theorem Xt.trans {g : Gw} {h h' h'' : Heap} (a : Xt g h h') (b : Xt g h' h'') : Xt g h h'' := ⟨fun c o h1 h2 e => b.at_ c o h1 h2 (a.at_ c o h1 h2 e), fun o e => by
  obtain ⟨sl, e1⟩ := a.lf o e
  obtain ⟨sl', e2⟩ := b.lf _ e1
  exact ⟨sl', e2⟩⟩
theorem Xt.there {g : Gw} {h h' : Heap} (x : Xt g h h') {b : Addr} {o : Obj} (hb : b ≠ PF) (e : h.get? b = some o) : ∃ o', h'.get? b = some o' ∧ o'.data = o.data ∧ o'.cls = o.cls := by
  by_cases z : b = g.lf
  · subst z; obtain ⟨sl, e'⟩ := x.lf o e; exact ⟨_, e', rfl, rfl⟩
  · exact ⟨o, x.at_ b o hb z e, rfl, rfl⟩

theorem Xt.none {g : Gw} {h h' : Heap} (x : Xt g h h') {b : Addr} (hb : b ≠ PF) (e : h'.get? b = none) : h.get? b = none := by
  cases z : h.get? b with
  | none => rfl
  | some o => (refine ex_1_2 (x.there hb z) fun o' e' _ => ?_); rw [e] at e'; cases e'
theorem Xt.then {g : Gw} {h h' h'' : Heap} (x : Xt g h h') (hk : ∀ b o, (∃ o, h.get? b = some o) → h'.get? b = some o → h''.get? b = some o) : Xt g h h'' :=
  ⟨fun b o h1 h2 e => hk b o ⟨o, e⟩ (x.at_ b o h1 h2 e), fun o e => by obtain ⟨sl, e'⟩ := x.lf o e; exact ⟨sl, hk _ _ ⟨o, e⟩ e'⟩⟩
structure Wd (g : Gw) (s : Shared) : Prop where
  ok : g.Ok
  ext : Heap.ExtBut PF g.s₁.heap s.heap
  old : OldK g.s₁.heap s.heap
  tab : TabOk s.heap
  bare : AllBare s.gens
  os : s.os = g.s₁.os
  la : ∃ o, s.heap.get? g.lf = some o ∧ ∀ vs, o.data ≠ .fields vs

structure Kp (g : Gw) (s s' : Shared) : Prop where
  ext : Xt g s.heap s'.heap
  wd : Wd g s'

theorem TabOk.keeps {h h' : Heap} (x : TabOk h) (hk : ∀ b o, h.get? b = some o → h'.get? b = some o) : TabOk h' := by
  (refine ex_1_2 (x) fun ps a b => ?_)
  exact ⟨ps, a.keeps hk, b.keeps hk⟩

theorem Wd.keeps {g : Gw} {s : Shared} (x : Wd g s) {h' : Heap} {t : Nat} (hk : ∀ b o, s.heap.get? b = some o → h'.get? b = some o) :
    Wd g { s with heap := h', toks := t } :=
  ⟨x.ok, fun b o hb e => hk b o (x.ext b o hb e), x.old.step_keeps hk, x.tab.keeps hk, x.bare, x.os, let ⟨o, e, n⟩ := x.la; ⟨o, hk _ _ e, n⟩⟩

theorem Kp.keeps {g : Gw} {s : Shared} (x : Wd g s) {h' : Heap} {t : Nat} (hk : ∀ b o, s.heap.get? b = some o → h'.get? b = some o) :
    Kp g s { s with heap := h', toks := t } := ⟨.keeps hk, x.keeps hk⟩
theorem Kp.toks {g : Gw} {s : Shared} (x : Wd g s) {t : Nat} : Kp g s { s with toks := t } := ⟨.keeps fun _ _ e => e, ⟨x.ok, x.ext, x.old, x.tab, x.bare, x.os, x.la⟩⟩
theorem Kp.refl {g : Gw} {s : Shared} (x : Wd g s) : Kp g s s := ⟨.keeps fun _ _ e => e, x⟩
theorem Kp.trans {g : Gw} {s s' s'' : Shared} (a : Kp g s s') (b : Kp g s' s'') : Kp g s s'' := ⟨a.ext.trans b.ext, b.wd⟩

inductive D where
  | none
  | bool (b : Bool)
  | int (i : Int)
  | str (x : Str)
  | tup (l : List D)
  | lst (l : List D)
  | sd (l : List (Str × D))
  | idd (l : List (Int × D))
  | inst (l : List (Str × D))
  | rng (a b c : Int)
  | obj (o : Obj)

noncomputable def keyStr : Value → Option Str
  | .str n _ => some n
  | _ => none

mutual
inductive Rep (g : Gw) (X : Addr → Prop) (h : Heap) : Value → D → Prop
  | none : Rep g X h .none .none
  | bool (b : Bool) : Rep g X h (.bool b) (.bool b)
  | int (i : Int) (t : Tok) : Rep g X h (.int i t) (.int i)
  | str (x : Str) (t : Tok) : Rep g X h (.str x t) (.str x)
  | tup {a : Addr} {o : Obj} {vs : List Value} {n : Nat} {ds : List D} : ¬ X a → h.get? a = some o → o.cls = .type "tuple" → o.data = .seq vs.toArray n → Reps g X h vs ds → Rep g X h (.ref a) (.tup ds)
  | lst {a : Addr} {o : Obj} {vs : List Value} {n : Nat} {ds : List D} : ¬ X a → h.get? a = some o → o.cls = .type "list" → o.data = .seq vs.toArray n → Reps g X h vs ds → Rep g X h (.ref a) (.lst ds)
  | sd {a : Addr} {o : Obj} {kvs : List (Str × Value)} {fs : List (Str × D)} : ¬ X a → a ≠ sysModules → h.get? a = some o → o.IsDictOf (strKind pg g.w) kvs → kvs.map (·.1) = fs.map (·.1) → Reps g X h (kvs.map (·.2)) (fs.map (·.2)) → Rep g X h (.ref a) (.sd fs)
  | idd {a : Addr} {o : Obj} {kvs : List (Int × Value)} {fs : List (Int × D)} : ¬ X a → a ≠ sysModules → h.get? a = some o → o.IsDictOf (intKind pg g.w) kvs → kvs.map (·.1) = fs.map (·.1) → Reps g X h (kvs.map (·.2)) (fs.map (·.2)) → Rep g X h (.ref a) (.idd fs)
  | inst {x dx : Addr} {es : List DictEntry} {k : Nat} {fs : List (Str × D)} : ¬ X x → ¬ X dx → h.get? x = some (instObj 76 dx) → h.get? dx = some (dictOf es k) →
      es.map (fun e => keyStr e.key) = fs.map (fun f => some f.1) → Reps g X h (es.map (·.val)) (fs.map (·.2)) → Rep g X h (.ref x) (.inst fs)
  | rng {r : Addr} {a b c : Int} {t u v : Tok} : ¬ X r → IsRange h r a b c t u v → Rep g X h (.ref r) (.rng a b c)
  | obj {a : Addr} {o : Obj} : ¬ X a → h.get? a = some o → Rep g X h (.ref a) (.obj o)
inductive Reps (g : Gw) (X : Addr → Prop) (h : Heap) : List Value → List D → Prop
  | nil : Reps g X h [] []
  | cons {v : Value} {vs : List Value} {d : D} {ds : List D} : Rep g X h v d → Reps g X h vs ds → Reps g X h (v :: vs) (d :: ds)
end

section
variable {g : Gw} {X X' : Addr → Prop} {h h' : Heap}
mutual
theorem Rep.mono (hX : ∀ a o, h.get? a = some o → ¬ X a → ¬ X' a) (hk : ∀ a o, ¬ X a → h.get? a = some o → h'.get? a = some o) : ∀ {v : Value} {d : D}, Rep g X h v d → Rep g X' h' v d
  | _, _, .none => .none
  | _, _, .bool b => .bool b
  | _, _, .int i t => .int i t
  | _, _, .str x t => .str x t
  | _, _, .tup a b c e r => .tup (hX _ _ b a) (hk _ _ a b) c e (Reps.mono hX hk r)
  | _, _, .lst a b c e r => .lst (hX _ _ b a) (hk _ _ a b) c e (Reps.mono hX hk r)
  | _, _, .sd a n b c e r => .sd (hX _ _ b a) n (hk _ _ a b) c e (Reps.mono hX hk r)
  | _, _, .idd a n b c e r => .idd (hX _ _ b a) n (hk _ _ a b) c e (Reps.mono hX hk r)
  | _, _, .inst a a' b b' c r => .inst (hX _ _ b a) (hX _ _ b' a') (hk _ _ a b) (hk _ _ a' b') c (Reps.mono hX hk r)
  | _, _, .rng a b => .rng (hX _ _ b a) (hk _ _ a b)
  | _, _, .obj a b => .obj (hX _ _ b a) (hk _ _ a b)
theorem Reps.mono (hX : ∀ a o, h.get? a = some o → ¬ X a → ¬ X' a) (hk : ∀ a o, ¬ X a → h.get? a = some o → h'.get? a = some o) : ∀ {vs : List Value} {ds : List D}, Reps g X h vs ds → Reps g X' h' vs ds
  | _, _, .nil => .nil
  | _, _, .cons a r => .cons (Rep.mono hX hk a) (Reps.mono hX hk r)
end
theorem Reps.length {vs : List Value} {ds : List D} (r : Reps g X h vs ds) : vs.length = ds.length := by
  induction ds generalizing vs with
  | nil => cases r; rfl
  | cons d ds ih => cases r with | cons _ r => simp [ih r]
theorem Reps.append {vs ws : List Value} {ds es : List D} (r : Reps g X h vs ds) (q : Reps g X h ws es) : Reps g X h (vs ++ ws) (ds ++ es) := by
  induction ds generalizing vs with
  | nil => cases r; exact q
  | cons d ds ih => cases r with | cons a r => exact .cons a (ih r)
theorem Reps.get {vs : List Value} {ds : List D} (r : Reps g X h vs ds) {i : Nat} {d : D} (hi : ds[i]? = some d) : ∃ v, vs[i]? = some v ∧ Rep g X h v d := by
  induction ds generalizing vs i with
  | nil => simp at hi
  | cons e ds ih =>
    cases r with
    | cons a r =>
      cases i with
      | zero => simp at hi; subst hi; exact ⟨_, rfl, a⟩
      | succ i => exact ih r (by simpa using hi)
theorem Reps.one {v : Value} {d : D} (a : Rep g X h v d) : Reps g X h [v] [d] := .cons a .nil
theorem Reps.rev {vs : List Value} {ds : List D} (r : Reps g X h vs ds) : Reps g X h vs.reverse ds.reverse := by
  induction ds generalizing vs with
  | nil => cases r; exact .nil
  | cons d ds ih => cases r with | cons a r => rw [List.reverse_cons, List.reverse_cons]; exact (ih r).append (.one a)
theorem Reps.take {vs : List Value} {ds : List D} (r : Reps g X h vs ds) (n : Nat) : Reps g X h (vs.take n) (ds.take n) := by
  induction ds generalizing vs n with
  | nil => cases r; simp; exact .nil
  | cons d ds ih =>
    cases r with
    | cons a r => cases n with
      | zero => exact .nil
      | succ n => exact .cons a (ih r n)
theorem Reps.drop {vs : List Value} {ds : List D} (r : Reps g X h vs ds) (n : Nat) : Reps g X h (vs.drop n) (ds.drop n) := by
  induction ds generalizing vs n with
  | nil => cases r; simp; exact .nil
  | cons d ds ih =>
    cases r with
    | cons a r => cases n with
      | zero => exact .cons a r
      | succ n => exact ih r n
end

section
variable {g : Gw} {X : Addr → Prop} {h : Heap} {v : Value}
theorem Rep.none_inv (r : Rep g X h v .none) : v = .none := by cases r; rfl
theorem Rep.bool_inv {b : Bool} (r : Rep g X h v (.bool b)) : v = .bool b := by cases r; rfl
theorem Rep.int_inv {i : Int} (r : Rep g X h v (.int i)) : ∃ t, v = .int i t := by cases r; exact ⟨_, rfl⟩
theorem Rep.str_inv {x : Str} (r : Rep g X h v (.str x)) : ∃ t, v = .str x t := by cases r; exact ⟨_, rfl⟩
theorem Rep.tup_inv {ds : List D} (r : Rep g X h v (.tup ds)) : ∃ a o vs n, v = .ref a ∧ ¬ X a ∧ h.get? a = some o ∧ o.cls = .type "tuple" ∧ o.data = .seq vs.toArray n ∧ Reps g X h vs ds := by cases r with | tup a b c d e => exact ⟨_, _, _, _, rfl, a, b, c, d, e⟩
theorem Rep.lst_inv {ds : List D} (r : Rep g X h v (.lst ds)) : ∃ a o vs n, v = .ref a ∧ ¬ X a ∧ h.get? a = some o ∧ o.cls = .type "list" ∧ o.data = .seq vs.toArray n ∧ Reps g X h vs ds := by cases r with | lst a b c d e => exact ⟨_, _, _, _, rfl, a, b, c, d, e⟩
theorem Rep.sd_inv {fs : List (Str × D)} (r : Rep g X h v (.sd fs)) : ∃ a o kvs, v = .ref a ∧ ¬ X a ∧ a ≠ sysModules ∧ h.get? a = some o ∧ o.IsDictOf (strKind pg g.w) kvs ∧ kvs.map (·.1) = fs.map (·.1) ∧ Reps g X h (kvs.map (·.2)) (fs.map (·.2)) := by cases r with | sd a b c d e f => exact ⟨_, _, _, rfl, a, b, c, d, e, f⟩
theorem Rep.idd_inv {fs : List (Int × D)} (r : Rep g X h v (.idd fs)) : ∃ a o kvs, v = .ref a ∧ ¬ X a ∧ a ≠ sysModules ∧ h.get? a = some o ∧ o.IsDictOf (intKind pg g.w) kvs ∧ kvs.map (·.1) = fs.map (·.1) ∧ Reps g X h (kvs.map (·.2)) (fs.map (·.2)) := by cases r with | idd a b c d e f => exact ⟨_, _, _, rfl, a, b, c, d, e, f⟩
theorem Rep.inst_inv {fs : List (Str × D)} (r : Rep g X h v (.inst fs)) : ∃ x dx es k, v = .ref x ∧ ¬ X x ∧ ¬ X dx ∧ h.get? x = some (instObj 76 dx) ∧ h.get? dx = some (dictOf es k) ∧ es.map (fun e => keyStr e.key) = fs.map (fun f => some f.1) ∧ Reps g X h (es.map (·.val)) (fs.map (·.2)) := by cases r with | inst a b c d e f => exact ⟨_, _, _, _, rfl, a, b, c, d, e, f⟩
theorem Rep.rng_inv {a b c : Int} (r : Rep g X h v (.rng a b c)) : ∃ q t u w, v = .ref q ∧ ¬ X q ∧ IsRange h q a b c t u w := by cases r with | rng a b => exact ⟨_, _, _, _, rfl, a, b⟩
theorem Rep.obj_inv {o : Obj} (r : Rep g X h v (.obj o)) : ∃ a, v = .ref a ∧ ¬ X a ∧ h.get? a = some o := by cases r with | obj a b => exact ⟨_, rfl, a, b⟩
theorem Reps.nil_inv {vs : List Value} (r : Reps g X h vs []) : vs = [] := by cases r; rfl
theorem Reps.cons_inv {vs : List Value} {d : D} {ds : List D} (r : Reps g X h vs (d :: ds)) : ∃ w ws, vs = w :: ws ∧ Rep g X h w d ∧ Reps g X h ws ds := by cases r with | cons a b => exact ⟨_, _, rfl, a, b⟩
end

inductive B where
  | v (d : D)
  | m (d : D)

noncomputable def MRep (g : Gw) (X : Addr → Prop) (h : Heap) (a : Addr) : D → Prop
  | .lst ds => ∃ vs, h.PlainList a vs.toArray ∧ Reps g X h vs ds
  | .sd fs => a ≠ sysModules ∧ ∃ o kvs, h.get? a = some o ∧ o.IsDictOf (strKind pg g.w) kvs ∧ kvs.map (·.1) = fs.map (·.1) ∧ Reps g X h (kvs.map (·.2)) (fs.map (·.2))
  | .idd fs => a ≠ sysModules ∧ ∃ o kvs, h.get? a = some o ∧ o.IsDictOf (intKind pg g.w) kvs ∧ kvs.map (·.1) = fs.map (·.1) ∧ Reps g X h (kvs.map (·.2)) (fs.map (·.2))
  | _ => False

noncomputable def At (env : Env) (h : Heap) (x : Str) (v : Value) : Prop :=
  (env.kindOf x = some .local ∧ ∃ m, h.Ns env.locals m ∧ m x = some v) ∨ ((env.kindOf x = some .cell ∨ env.kindOf x = some .free) ∧ ∃ c, env.cells.lookup x = some c ∧ h.IsCell c (some v))

noncomputable def BRep (g : Gw) (env : Env) (X : Addr → Prop) (h : Heap) (v : Value) : B → Prop
  | .v d => Rep g X h v d
  | .m d => ∃ a, v = .ref a ∧ X a ∧ (a ≠ PF ∧ g.s₁.heap.get? a = none ∧ a ≠ g.lf) ∧ a ≠ env.locals ∧ (∀ n c, env.cells.lookup n = some c → a ≠ c) ∧ MRep g X h a d

noncomputable abbrev Sto := List (Str × B)

structure Fm (g : Gw) (env : Env) (X : Addr → Prop) (σ : Sto) (h : Heap) : Prop where
  pf : X PF
  lf : X g.lf
  loc : X env.locals
  cel : ∀ n c, env.cells.lookup n = some c → X c
  al : ∀ a, X a → ∃ o, h.get? a = some o
  nPF : env.locals ≠ PF
  hiL : g.s₁.heap.get? env.locals = none
  cPF : ∀ n c, env.cells.lookup n = some c → (c ≠ PF ∧ c ≠ g.lf) ∧ c ≠ env.locals ∧ g.s₁.heap.get? c = none ∧ ∃ v, h.IsCell c v
  cinj : ∀ n n' c, env.cells.lookup n = some c → env.cells.lookup n' = some c → n = n'
  ns : ∃ m, h.Ns env.locals m
  var : ∀ x b, σ.lookup x = some b → ∃ v, At env h x v ∧ BRep g env X h v b
  sole : ∀ x y d e a, σ.lookup x = some (.m d) → σ.lookup y = some (.m e) → At env h x (.ref a) → At env h y (.ref a) → x = y

structure EnvOk (sc : Scope) (env : Env) : Prop where
  scp : env.scope = sc
  kind : sc.kind = .function
  gl : env.globals = mainGlobals
  bi : env.builtins = builtinsNs
  cells : ∀ n, sc.names.lookup n = some .cell → ∃ c, env.cells.lookup n = some c

structure Room (g : Gw) (k : Nat) (A : Around) : Prop where
  hd : A.handled = none
  top : k ≤ 9
  fr : k = 9 → A.frames = some [g.le]
  depth : A.depth + 10 * k < 990
  units : A.units + 100 * k < 9600

theorem Xt.ns {g : Gw} {h h' : Heap} {a : Addr} {m : Str → Option Value} (x : Xt g h h') (hb : a ≠ PF) (hn : h.Ns a m) : h'.Ns a m := by
  (refine ex_3_3 (hn) fun o es ep ho hd r => ?_)
  (refine ex_1_3 (x.there hb ho) fun o' e e2 _ => ?_)
  exact ⟨o', es, ep, e, e2.trans hd, r⟩
theorem At.ext {g : Gw} {env : Env} {h h' : Heap} {x : Str} {v : Value} (a : At env h x v) (hx : Xt g h h') (h1 : env.locals ≠ PF) (h2 : ∀ n c, env.cells.lookup n = some c → c ≠ PF ∧ c ≠ g.lf) : At env h' x v := by
  rcases a with ⟨k, m, hn, hm⟩ | ⟨k, c, hc, o, ho, hd⟩
  · exact .inl ⟨k, m, hx.ns h1 hn, hm⟩
  · exact .inr ⟨k, c, hc, o, hx.at_ _ _ (h2 _ _ hc).1 (h2 _ _ hc).2 ho, hd⟩

theorem Heap.Ns.fn {h : Heap} {a : Addr} {m m' : Str → Option Value} (x : h.Ns a m) (y : h.Ns a m') : m = m' := by
  (refine ex_3_4 (x) fun o es ep e1 e2 _ e3 => ?_)
  (refine ex_3_4 (y) fun o' es' ep' f1 f2 _ f3 => ?_)
  rw [e1] at f1; cases f1
  rw [e2] at f2; cases f2
  funext n; rw [← e3, f3]

theorem At.fn {env : Env} {h : Heap} {x : Str} {v v' : Value} (a : At env h x v) (b : At env h x v') : v = v' := by
  rcases a with ⟨k, m, hn, hm⟩ | ⟨k, c, hc, o, ho, hd⟩ <;> rcases b with ⟨k', m', hn', hm'⟩ | ⟨k', c', hc', o', ho', hd'⟩
  · rw [Heap.Ns.fn hn hn', hm'] at hm; exact (Option.some.inj hm).symm
  · rw [k] at k'; rcases k' with k' | k' <;> cases k'
  · rw [k'] at k; rcases k with k | k <;> cases k
  · rw [hc] at hc'; cases hc'
    rw [ho] at ho'; cases ho'
    rw [hd] at hd'; cases hd'; rfl

section
variable {g : Gw} {env : Env} {X : Addr → Prop} {σ σ' : Sto} {h h' : Heap}
theorem MRep.mono {X' : Addr → Prop} {a : Addr} {d : D} (hX : ∀ a o, h.get? a = some o → ¬ X a → ¬ X' a) (hk : ∀ a o, ¬ X a → h.get? a = some o → h'.get? a = some o) (ha : ∀ o, h.get? a = some o → h'.get? a = some o) (r : MRep g X h a d) : MRep g X' h' a d := by
  cases d with
  | lst ds => (refine ex_1_2 (r) fun vs z q => ?_); exact ⟨vs, z.at ha, q.mono hX hk⟩
  | sd fs => (refine ex_0_2 (r) fun n zq1 => ?_; refine ex_2_4 (zq1) fun o kvs e a1 a2 q => ?_); exact ⟨n, o, kvs, ha _ e, a1, a2, q.mono hX hk⟩
  | idd fs => (refine ex_0_2 (r) fun n zq2 => ?_; refine ex_2_4 (zq2) fun o kvs e a1 a2 q => ?_); exact ⟨n, o, kvs, ha _ e, a1, a2, q.mono hX hk⟩
  | _ => exact r.elim

theorem Rep.ext {v : Value} {d : D} (r : Rep g X h v d) (hp : X PF ∧ X g.lf) (hx : Xt g h h') : Rep g X h' v d :=
  r.mono (fun _ _ _ x => x) fun a o na e => hx.at_ a o (fun q => na (q ▸ hp.1)) (fun q => na (q ▸ hp.2)) e
theorem Reps.ext {vs : List Value} {ds : List D} (r : Reps g X h vs ds) (hp : X PF ∧ X g.lf) (hx : Xt g h h') : Reps g X h' vs ds :=
  r.mono (fun _ _ _ x => x) fun a o na e => hx.at_ a o (fun q => na (q ▸ hp.1)) (fun q => na (q ▸ hp.2)) e
theorem BRep.ext {v : Value} {b : B} (r : BRep g env X h v b) (hp : X PF ∧ X g.lf) (hx : Xt g h h') : BRep g env X h' v b := by
  cases b with
  | v d => exact Rep.ext r hp hx
  | m d =>
    (refine ex_1_6 (r) fun a e xa n1 n2 n3 q => ?_)
    exact ⟨a, e, xa, n1, n2, n3, q.mono (fun _ _ _ x => x) (fun a o na e => hx.at_ a o (fun q => na (q ▸ hp.1)) (fun q => na (q ▸ hp.2)) e) fun o e => hx.at_ a o n1.1 n1.2.2 e⟩
theorem Fm.pl {h : Heap} (F : Fm g env X σ h) : X PF ∧ X g.lf := ⟨F.pf, F.lf⟩
theorem Fm.ext (F : Fm g env X σ h) (hx : Xt g h h') (hpf : ∃ o, h'.get? PF = some o) : Fm g env X σ h' where
  pf := F.pf
  lf := F.lf
  loc := F.loc
  cel := F.cel
  al := fun a xa => by
    by_cases e : a = PF
    · subst e; exact hpf
    · obtain ⟨o, ho⟩ := F.al a xa; (refine ex_1_2 (hx.there e ho) fun o' ho' _ => ?_); exact ⟨o', ho'⟩
  nPF := F.nPF
  hiL := F.hiL
  cPF := fun n c hc => by
    (refine ex_0_4 (F.cPF n c hc) fun a b b' zq3 => ?_; refine ex_2_2 (zq3) fun v o ho hd => ?_)
    exact ⟨a, b, b', v, o, hx.at_ _ _ a.1 a.2 ho, hd⟩
  cinj := F.cinj
  ns := by obtain ⟨m, hm⟩ := F.ns; exact ⟨m, hx.ns F.nPF hm⟩
  var := fun x b hb => by
    (refine ex_1_2 (F.var x b hb) fun v a r => ?_)
    exact ⟨v, a.ext hx F.nPF fun n c hc => (F.cPF n c hc).1, r.ext F.pl hx⟩
  sole := fun x y d e a h1 h2 h3 h4 => by
    (refine ex_1_2 (F.var x _ h1) fun v a1 r => ?_)
    (refine ex_1_2 (F.var y _ h2) fun v' a1' r' => ?_)
    have q := (a1.ext hx F.nPF fun n c hc => (F.cPF n c hc).1).fn h3
    have q' := (a1'.ext hx F.nPF fun n c hc => (F.cPF n c hc).1).fn h4
    subst q; subst q'
    exact F.sole x y d e a h1 h2 a1 a1'
end

theorem TabOk.pf {h : Heap} (x : TabOk h) : ∃ o, h.get? PF = some o := by (refine ex_1_3 (x) fun ps _ a b => ?_); exact ⟨_, b⟩
theorem Fm.kp {g : Gw} {env : Env} {X : Addr → Prop} {σ : Sto} {s s' : Shared} (F : Fm g env X σ s.heap) (k : Kp g s s') : Fm g env X σ s'.heap := F.ext k.ext k.wd.tab.pf

structure Ev (g : Gw) (sc : Scope) (k : Nat) (σ : Sto) (e : Expr) (d : D) : Prop where
  run : ∀ (env : Env) (A : Around) (X : Addr → Prop) (s : Shared) (E : Value → Shared → Prop), EnvOk sc env → Room g k A → Wd g s → Fm g env X σ s.heap →
    wpAny g.M A (eval e env) (fun v s' => Kp g s s' ∧ Rep g X s'.heap v d) E s
structure Tr (g : Gw) (sc : Scope) (k : Nat) (σ : Sto) (e : Expr) (b : Bool) : Prop where
  run : ∀ (env : Env) (A : Around) (X : Addr → Prop) (s : Shared) (E : Value → Shared → Prop), EnvOk sc env → Room g k A → Wd g s → Fm g env X σ s.heap →
    wpAny g.M A (isTrue e env (eval e env)) (fun r s' => Kp g s s' ∧ r = b) E s

section
variable {g : Gw} {sc : Scope} {k : Nat} {σ : Sto}
theorem Ev.name {x : Str} {pos : Pos} {d : D} (hx : σ.lookup x = some (.v d)) (hd : (x == ("__debug__" : Str)) = false := by rfl) (hcd : (x == ("__classdict__" : Str)) = false := by rfl) : Ev g sc k σ (.Name x pos) d := by
  refine ⟨?_⟩
  intro env A X s E he hr hw F
  (refine ex_1_2 (F.var x _ hx) fun v a r => ?_)
  refine wpAny_Name ?_ hd
  have hk : env.scope.kind = .function := he.scp ▸ he.kind
  rcases a with ⟨kd, m, hn, hm⟩ | ⟨kd, c, hc, ho⟩
  · exact wpAny_loadName_local hk kd hn hm ⟨.refl hw, r⟩
  · rcases kd with kd | kd
    · exact wpAny_loadName_cell hk kd hc ho ⟨.refl hw, r⟩
    · exact wpAny_loadName_free hk kd hc ho ⟨.refl hw, r⟩ hcd
noncomputable def Lk (σ : Sto) (x : Str) (b : B) : Prop := σ.lookup x = some b
theorem Lk.h {x : Str} {b : B} : Lk ((x, b) :: σ) x b := by unfold Lk; rw [List.lookup_cons, beq_self_eq_true]
theorem Lk.n {x y : Str} {b c : B} (hne : (x == y) = false) (h : Lk σ x b) : Lk ((y, c) :: σ) x b := by unfold Lk; rw [List.lookup_cons, hne]; exact h
theorem Ev.nm {x : Str} {pos : Pos} {d : D} (h : Lk σ x (.v d)) (hd : (x == ("__debug__" : Str)) = false := by kernel_rfl) (hcd : (x == ("__classdict__" : Str)) = false := by kernel_rfl) : Ev g sc k σ (.Name x pos) d := Ev.name h hd hcd
theorem Ev.int {i : Int} {n : Nat} {pos : Pos} : Ev g sc k σ (.Constant (.int i) n pos) (.int i) :=
  ⟨fun _ _ _ _ _ _ _ hw _ => wpAny_Constant_int ⟨.toks hw, .int _ _⟩⟩
theorem Ev.str {x : Str} {n : Nat} {pos : Pos} : Ev g sc k σ (.Constant (.str x) n pos) (.str x) :=
  ⟨fun _ _ _ _ _ _ _ hw _ => wpAny_Constant_str ⟨.toks hw, .str _ _⟩⟩
theorem Ev.bool {b : Bool} {n : Nat} {pos : Pos} : Ev g sc k σ (.Constant (.bool b) n pos) (.bool b) :=
  ⟨fun _ _ _ _ _ _ _ hw _ => fun _ _ _ => ⟨.refl hw, .bool _⟩⟩
theorem Ev.none {n : Nat} {pos : Pos} : Ev g sc k σ (.Constant .none n pos) .none :=
  ⟨fun _ _ _ _ _ _ _ hw _ => fun _ _ _ => ⟨.refl hw, .none⟩⟩
end
section
variable {g : Gw} {env : Env} {X : Addr → Prop} {σ : Sto} {s : Shared} {E : Value → Shared → Prop} {A : Around}

theorem old_ext {h₀ h h' : Heap} (K : OldK h₀ h) (hx : ∀ b o o', h₀.get? b = some o → h.get? b = some o' → h'.get? b = some o') : OldK h₀ h' := by
  refine ⟨fun b o e => ?_, fun b o e => let ⟨o', ho'⟩ := K.there b o e; ⟨o', hx b o o' e ho'⟩⟩
  rcases K.old b o e with x | ⟨t, hc, vs, more, hv, x⟩ | ⟨rfl, hc, ⟨o', es, n, ho', r⟩, z⟩
  · exact .inl (hx b o _ e x)
  · exact .inr (.inl ⟨t, hc, vs, more, hv, hx b o _ e x⟩)
  · exact .inr (.inr ⟨rfl, hc, ⟨o', es, n, hx _ o _ e ho', r⟩, fun key => by rw [OldK.staticOf_congr ((hx _ o _ e ho').trans ho'.symm) key]; exact z key⟩)

theorem Wd.ext' (x : Wd g s) {h' : Heap} {t : Nat} (hs : ∀ b o, (∃ o', g.s₁.heap.get? b = some o') → s.heap.get? b = some o → h'.get? b = some o)
    (hl : ∃ o, h'.get? g.lf = some o ∧ ∀ vs, o.data ≠ .fields vs) : Wd g { s with heap := h', toks := t } where
  la := hl
  ok := x.ok
  ext := fun b o hb e => hs b o ⟨o, e⟩ (x.ext b o hb e)
  old := old_ext x.old fun b o o' e e' => hs b o' ⟨o, e⟩ e'
  tab := by
    (refine ex_1_2 (x.tab) fun ps a b => ?_)
    (refine ex_0_3 (x.ok.code) fun _ zq4 h2 => ?_; obtain ⟨o, vs, h1, _⟩ := zq4)
    refine ⟨ps, ?_, b.at2 (fun o e => hs _ o ⟨_, h1⟩ e) fun o e => hs _ o ⟨_, h2⟩ e⟩
    (refine ex_10_9 (a) fun o vs file tf flags tg inF text tt op z1 z2 z3 z4 z5 z6 z7 z8 z9 => ?_)
    exact ⟨o, vs, file, tf, flags, tg, inF, text, tt, op, hs _ _ ⟨_, h1⟩ z1, z2, z3, z4, z5, z6, z7, hs _ _ ⟨_, h2⟩ z8, z9⟩
  bare := x.bare
  os := x.os
theorem Wd.la' (x : Wd g s) {h' : Heap} (hk : ∀ o, s.heap.get? g.lf = some o → h'.get? g.lf = some o) : ∃ o, h'.get? g.lf = some o ∧ ∀ vs, o.data ≠ .fields vs := let ⟨o, e, n⟩ := x.la; ⟨o, hk _ e, n⟩
theorem Wd.extB (x : Wd g s) {q : Addr} {h' : Heap} {t : Nat} (hq : g.s₁.heap.get? q = none ∧ q ≠ g.lf) (hs : Heap.ExtBut q s.heap h') : Wd g { s with heap := h', toks := t } :=
  x.ext' (fun b o ⟨o', e⟩ e' => hs b o (fun z => by subst z; rw [hq.1] at e; cases e) e') (x.la' fun o e => hs _ o (Ne.symm hq.2) e)
theorem Wd.same (x : Wd g s) {q : Addr} {h' : Heap} {t : Nat} (hq : g.s₁.heap.get? q = none ∧ q ≠ g.lf) (hs : Heap.SameBut q s.heap h') : Wd g { s with heap := h', toks := t } := x.extB hq hs.extBut
theorem Wd.hi (x : Wd g s) {q : Addr} (hq : s.heap.get? q = none) : g.s₁.heap.get? q = none := by
  cases e : g.s₁.heap.get? q with
  | none => rfl
  | some o =>
    by_cases z : q = PF
    · subst z; obtain ⟨o', ho'⟩ := x.tab.pf; rw [hq] at ho'; cases ho'
    · rw [x.ext q o z e] at hq; cases hq
theorem Wd.nPF (x : Wd g s) {q : Addr} (hq : s.heap.get? q = none) : q ≠ PF := fun z => by subst z; obtain ⟨o', ho'⟩ := x.tab.pf; rw [hq] at ho'; cases ho'

noncomputable def Place (env : Env) (q : Addr) : Prop := q = env.locals ∨ ∃ n, env.cells.lookup n = some q

theorem Fm.placeX {h : Heap} (F : Fm g env X σ h) {q : Addr} (p : Place env q) : X q := by
  rcases p with rfl | ⟨n, hn⟩
  · exact F.loc
  · exact F.cel n q hn
theorem Fm.placeHi {h : Heap} (F : Fm g env X σ h) {q : Addr} (p : Place env q) : g.s₁.heap.get? q = none := by
  rcases p with rfl | ⟨n, hn⟩
  · exact F.hiL
  · exact (F.cPF n q hn).2.2.1
theorem Fm.placePF {h : Heap} (F : Fm g env X σ h) {q : Addr} (p : Place env q) : q ≠ PF := by
  rcases p with rfl | ⟨n, hn⟩
  · exact F.nPF
  · exact (F.cPF n q hn).1.1
theorem BRep.same {h h' : Heap} {v : Value} {b : B} {q : Addr} (r : BRep g env X h v b) (p : Place env q) (hX : X q) (hs : Heap.SameBut q h h') : BRep g env X h' v b := by
  have hk : ∀ a o, ¬ X a → h.get? a = some o → h'.get? a = some o := fun a o na e => (hs.2 a fun z => na (z ▸ hX)).trans e
  cases b with
  | v d => exact Rep.mono (fun _ _ _ x => x) hk r
  | m d =>
    (refine ex_1_6 (r) fun a e xa n1 n2 n3 z => ?_)
    have hne : a ≠ q := by
      rcases p with rfl | ⟨n, hn⟩
      · exact n2
      · exact n3 n q hn
    exact ⟨a, e, xa, n1, n2, n3, z.mono (fun _ _ _ x => x) hk fun o e => (hs.2 a hne).trans e⟩

theorem lookup_cons {x y : Str} {b c : B} (h : ((x, b) :: σ).lookup y = some c) : (y = x ∧ c = b) ∨ (y ≠ x ∧ σ.lookup y = some c) := by
  rw [List.lookup_cons] at h
  cases hb : y == x with
  | true => rw [hb] at h; cases h; exact .inl ⟨eq_of_beq hb, rfl⟩
  | false => rw [hb] at h; exact .inr ⟨fun e => by subst e; simp at hb, h⟩

theorem Fm.set {h h' : Heap} {x : Str} {v : Value} {b : B} {q : Addr} (F : Fm g env X σ h) (p : Place env q) (hs : Heap.SameBut q h h') (hat : At env h' x v)
    (hrest : ∀ y u, y ≠ x → At env h y u → At env h' y u) (hcell : ∀ n c, env.cells.lookup n = some c → ∃ v, h'.IsCell c v) (hns : ∃ m, h'.Ns env.locals m) (hq : ∃ o, h'.get? q = some o)
    (r : BRep g env X h v b) (hsole : ∀ d, b = .m d → ∀ y e, σ.lookup y = some (.m e) → y ≠ x → ¬ At env h y v) : Fm g env X ((x, b) :: σ) h' where
  pf := F.pf
  lf := F.lf
  loc := F.loc
  cel := F.cel
  al := fun a xa => by
    by_cases e : a = q
    · subst e; exact hq
    · obtain ⟨o, ho⟩ := F.al a xa; exact ⟨o, (hs.2 a e).trans ho⟩
  nPF := F.nPF
  hiL := F.hiL
  cPF := fun n c hc => by
    (refine ex_0_4 (F.cPF n c hc) fun a b b' _ => ?_)
    exact ⟨a, b, b', hcell n c hc⟩
  cinj := F.cinj
  ns := hns
  var := fun y c hy => by
    rcases lookup_cons hy with ⟨rfl, rfl⟩ | ⟨hne, hy⟩
    · exact ⟨v, hat, r.same p (F.placeX p) hs⟩
    · (refine ex_1_2 (F.var y c hy) fun u a r' => ?_)
      exact ⟨u, hrest y u hne a, r'.same p (F.placeX p) hs⟩
  sole := fun y z d e a h1 h2 h3 h4 => by
    rcases lookup_cons h1 with ⟨e1, hb⟩ | ⟨n1, k1⟩ <;> rcases lookup_cons h2 with ⟨e2, hb'⟩ | ⟨n2, k2⟩
    · exact e1.trans e2.symm
    · subst e1
      (refine ex_1_2 (F.var z _ k2) fun u au _ => ?_)
      have := (hrest z u n2 au).fn h4
      subst this
      have := hat.fn h3
      subst this
      exact absurd au (hsole d hb.symm z e k2 n2)
    · subst e2
      (refine ex_1_2 (F.var y _ k1) fun u au _ => ?_)
      have := (hrest y u n1 au).fn h3
      subst this
      have := hat.fn h4
      subst this
      exact absurd au (hsole e hb'.symm y d k1 n1)
    · (refine ex_1_2 (F.var y _ k1) fun u au _ => ?_)
      (refine ex_1_2 (F.var z _ k2) fun u' au' _ => ?_)
      have q1 := (hrest y u n1 au).fn h3
      have q2 := (hrest z u' n2 au').fn h4
      subst q1; subst q2
      exact F.sole y z d e a k1 k2 au au'

theorem At.sameLocal {h h' : Heap} {x y : Str} {u v : Value} {m : Str → Option Value} (hn : h.Ns env.locals m) (hn' : h'.Ns env.locals (fun z => if z = x then some v else m z)) (hs : Heap.SameBut env.locals h h')
    (hc : ∀ n c, env.cells.lookup n = some c → c ≠ env.locals) (hne : y ≠ x) (a : At env h y u) : At env h' y u := by
  rcases a with ⟨k, m', hm, e⟩ | ⟨k, c, hc', o, ho, hd⟩
  · have := Heap.Ns.fn hn hm
    subst this
    exact .inl ⟨k, _, hn', by simp only [if_neg hne]; exact e⟩
  · exact .inr ⟨k, c, hc', o, (hs.2 c (hc _ _ hc')).trans ho, hd⟩

theorem store_wp {x : Str} {v : Value} {b : B} (hw : Wd g s) (F : Fm g env X σ s.heap) (hk : env.scope.kind = .function) (hkd : env.kindOf x = some .local ∨ (env.kindOf x = some .cell ∧ ∃ c, env.cells.lookup x = some c))
    (r : BRep g env X s.heap v b) (hsole : ∀ d, b = .m d → ∀ y e, σ.lookup y = some (.m e) → y ≠ x → ¬ At env s.heap y v) {Q : Unit → Shared → Prop}
    (h : ∀ s', Wd g s' → Fm g env X ((x, b) :: σ) s'.heap → (∀ c o, c ≠ env.locals → env.cells.lookup x ≠ some c → s.heap.get? c = some o → s'.heap.get? c = some o) → (∀ y u, y ≠ x → At env s.heap y u → At env s'.heap y u) → At env s'.heap x v → Q () s') :
    wpAny g.M A (storeName env x v) Q E s := by
  rcases hkd with hl | ⟨hl, c, hc⟩
  · obtain ⟨m, hn⟩ := F.ns
    refine wpAny_storeName_local hl hn (fun h' hn' hs' => ?_) (by rw [hk]; rfl)
    have p : Place env env.locals := .inl rfl
    refine h _ (hw.ext' (fun b o ⟨o', e⟩ e' => hs'.extBut b o (fun z => by subst z; rw [F.hiL] at e; cases e) e') ?_) (F.set p hs' (.inl ⟨hl, _, hn', by simp⟩) (fun y u hne a => a.sameLocal hn hn' hs' (fun n c hc => (F.cPF n c hc).2.1) hne) (fun n c hc => ?_) ⟨_, hn'⟩ ?_ r hsole) (fun c o hc _ e => (hs'.2 c hc).trans e) (fun y u hne a => a.sameLocal hn hn' hs' (fun n c hc => (F.cPF n c hc).2.1) hne) (.inl ⟨hl, _, hn', by simp⟩)
    · by_cases z : env.locals = g.lf
      · (refine ex_3_3 (hn') fun o _ _ ho hd _ => ?_); exact ⟨o, z ▸ ho, fun vs q => by rw [hd] at q; cases q⟩
      · exact hw.la' fun o e => (hs'.2 _ (Ne.symm z)).trans e
    · (refine ex_0_4 (F.cPF n c hc) fun _ b1 _ zq5 => ?_; refine ex_2_2 (zq5) fun w o ho hd => ?_)
      exact ⟨w, o, (hs'.2 c b1).trans ho, hd⟩
    · (refine ex_3_2 (hn') fun o _ _ ho _ => ?_); exact ⟨o, ho⟩
  · (refine ex_0_4 (F.cPF x c hc) fun zq6 b1 b2 zq7 => ?_; refine ex_1_1 (zq7) fun w hcw => ?_; obtain ⟨_, nlf⟩ := zq6)
    refine wpAny_storeName_cell hk hl hc hcw fun h' hc' hs' => ?_
    have p : Place env c := .inr ⟨x, hc⟩
    obtain ⟨m, hn⟩ := F.ns
    have hn' : h'.Ns env.locals m := hn.sameBut hs' (Ne.symm b1)
    have rest : ∀ y u, y ≠ x → At env s.heap y u → At env h' y u := fun y u hne a => by
      rcases a with ⟨k, m', hm, e⟩ | ⟨k, c2, hc2, o, ho, hd⟩
      · exact .inl ⟨k, m', hm.sameBut hs' (Ne.symm b1), e⟩
      · exact .inr ⟨k, c2, hc2, o, (hs'.2 c2 fun z => hne (F.cinj _ _ c (z ▸ hc2) hc)).trans ho, hd⟩
    refine h _ (hw.same ⟨b2, nlf⟩ hs') (F.set p hs' (.inr ⟨.inl hl, c, hc, hc'⟩) rest (fun n c' hn2 => ?_) ⟨_, hn'⟩ ?_ r hsole) (fun d o _ hd e => (hs'.2 d fun z => hd (z ▸ hc)).trans e) rest (.inr ⟨.inl hl, c, hc, hc'⟩)
    · by_cases z : c' = c
      · subst z; exact ⟨_, hc'⟩
      · (refine ex_0_4 (F.cPF n c' hn2) fun _ _ _ zq8 => ?_; refine ex_2_2 (zq8) fun w o ho hd => ?_)
        exact ⟨w, o, (hs'.2 c' z).trans ho, hd⟩
    · (refine ex_1_2 (hc') fun o ho _ => ?_); exact ⟨o, ho⟩
end

structure XAl (X : Addr → Prop) (h : Heap) : Prop where
  al : ∀ a, X a → ∃ o, h.get? a = some o
structure XOk (g : Gw) (X : Addr → Prop) (h : Heap) : Prop where
  pf : X PF
  lf : X g.lf
  al : ∀ a, X a → ∃ o, h.get? a = some o
theorem XOk.xal {g : Gw} {X : Addr → Prop} {h : Heap} (x : XOk g X h) : XAl X h := ⟨x.al⟩
theorem XOk.pl {g : Gw} {X : Addr → Prop} {h : Heap} (x : XOk g X h) : X PF ∧ X g.lf := ⟨x.pf, x.lf⟩
theorem XAl.fresh {X : Addr → Prop} {h : Heap} (x : XAl X h) {a : Addr} (e : h.get? a = none) : ¬ X a := fun xa => by obtain ⟨o, ho⟩ := x.al a xa; rw [e] at ho; cases ho
theorem Fm.xok {g : Gw} {env : Env} {X : Addr → Prop} {σ : Sto} {h : Heap} (F : Fm g env X σ h) : XOk g X h := ⟨F.pf, F.lf, F.al⟩
theorem XOk.fresh {g : Gw} {X : Addr → Prop} {h : Heap} (x : XOk g X h) {a : Addr} (e : h.get? a = none) : ¬ X a := fun xa => by obtain ⟨o, ho⟩ := x.al a xa; rw [e] at ho; cases ho
theorem XOk.nlf {g : Gw} {X : Addr → Prop} {h : Heap} (x : XOk g X h) {a : Addr} (e : h.get? a = none) : a ≠ g.lf := fun z => x.fresh e (z ▸ x.lf)
theorem get_size (h : Heap) : h.get? h.objs.size = none := by
  cases e : h.get? h.objs.size with
  | none => rfl
  | some o => exact absurd (Heap.lt_size e) (Nat.lt_irrefl _)
theorem XOk.kp {g : Gw} {X : Addr → Prop} {s s' : Shared} (x : XOk g X s.heap) (k : Kp g s s') : XOk g X s'.heap := ⟨x.pf, x.lf, fun a xa => by
    by_cases e : a = PF
    · subst e; exact k.wd.tab.pf
    · obtain ⟨o, ho⟩ := x.al a xa; (refine ex_1_2 (k.ext.there e ho) fun o' ho' _ => ?_); exact ⟨o', ho'⟩⟩

inductive Fl where
  | next (σ : Sto)
  | brk (σ : Sto)
  | cont (σ : Sto)
  | ret (d : D)

structure StX (g : Gw) (env : Env) (s₀ : Shared) (X₀ : Addr → Prop) (pr : List (Addr × Obj)) (tv : List Value) (td : List D) (X : Addr → Prop) (σ : Sto) (s : Shared) : Prop where
  wd : Wd g s
  ext : Xt g s₀.heap s.heap
  sub : ∀ a, X₀ a → X a
  new : ∀ a, X a → X₀ a ∨ s₀.heap.get? a = none
  fl : s₀.heap.get? env.locals = none
  fc : ∀ n c, env.cells.lookup n = some c → s₀.heap.get? c = none
  fm : ∀ x d a, σ.lookup x = some (.m d) → At env s.heap x (.ref a) → s₀.heap.get? a = none ∧ ∀ p ∈ pr, p.1 ≠ a
  pr : ∀ p ∈ pr, s.heap.get? p.1 = some p.2 ∧ X p.1 ∧ (p.1 ≠ PF ∧ p.1 ≠ g.lf) ∧ ¬ Place env p.1
  tm : Reps g X s.heap tv td
  F : Fm g env X σ s.heap

noncomputable def Stt (g : Gw) (env : Env) (s₀ : Shared) (X₀ : Addr → Prop) (pr : List (Addr × Obj)) (tv : List Value) (td : List D) (σ : Sto) (s : Shared) : Prop := ∃ X, StX g env s₀ X₀ pr tv td X σ s

noncomputable def Post (g : Gw) (env : Env) (s₀ : Shared) (X₀ : Addr → Prop) (pr : List (Addr × Obj)) (tv : List Value) (td : List D) (Q : Fl → Prop) (f : Flow) (s' : Shared) : Prop :=
  match f with
  | .next => ∃ σ', Q (.next σ') ∧ Stt g env s₀ X₀ pr tv td σ' s'
  | .brk => ∃ σ', Q (.brk σ') ∧ Stt g env s₀ X₀ pr tv td σ' s'
  | .cont => ∃ σ', Q (.cont σ') ∧ Stt g env s₀ X₀ pr tv td σ' s'
  | .ret v => ∃ d, Q (.ret d) ∧ Kp g s₀ s' ∧ Rep g X₀ s'.heap v d

structure Ex (g : Gw) (sc : Scope) (k : Nat) (σ : Sto) (stmts : List Stmt) (Q : Fl → Prop) : Prop where
  run : ∀ (env : Env) (A : Around) (s₀ : Shared) (X₀ : Addr → Prop) (pr : List (Addr × Obj)) (tv : List Value) (td : List D) (s : Shared) (E : Value → Shared → Prop),
    EnvOk sc env → Room g k A → XAl X₀ s₀.heap → Stt g env s₀ X₀ pr tv td σ s → wpAny g.M A (execs stmts env) (Post g env s₀ X₀ pr tv td Q) E s
structure Ex1 (g : Gw) (sc : Scope) (k : Nat) (σ : Sto) (st : Stmt) (Q : Fl → Prop) : Prop where
  run : ∀ (env : Env) (A : Around) (s₀ : Shared) (X₀ : Addr → Prop) (pr : List (Addr × Obj)) (tv : List Value) (td : List D) (s : Shared) (E : Value → Shared → Prop),
    EnvOk sc env → Room g k A → XAl X₀ s₀.heap → Stt g env s₀ X₀ pr tv td σ s → wpAny g.M A (exec st env) (Post g env s₀ X₀ pr tv td Q) E s

structure As (g : Gw) (sc : Scope) (k : Nat) (t : Expr) (d : D) (σ σ' : Sto) (ns : List Str) : Prop where
  run : ∀ (env : Env) (A : Around) (X : Addr → Prop) (s : Shared) (E : Value → Shared → Prop) (v : Value), EnvOk sc env → Room g k A → Wd g s → Fm g env X σ s.heap → Rep g X s.heap v d →
    wpAny g.M A (assign t env v) (fun _ s' => Wd g s' ∧ Fm g env X σ' s'.heap ∧ (∀ b o, b ≠ env.locals → (∀ n ∈ ns, env.cells.lookup n ≠ some b) → s.heap.get? b = some o → s'.heap.get? b = some o) ∧
      ∀ y u, y ∉ ns → At env s.heap y u → At env s'.heap y u) E s

section
variable {g : Gw} {sc : Scope} {k : Nat} {σ σ' σ'' : Sto} {env : Env} {s₀ : Shared} {X₀ : Addr → Prop} {pr : List (Addr × Obj)} {tv : List Value} {td : List D} {s s' : Shared} {X : Addr → Prop}

theorem StX.kp (S : StX g env s₀ X₀ pr tv td X σ s) (q : Kp g s s') : StX g env s₀ X₀ pr tv td X σ s' where
  wd := q.wd
  ext := S.ext.trans q.ext
  sub := S.sub
  new := S.new
  fl := S.fl
  fc := S.fc
  fm := fun x d a hx ha => by
    (refine ex_1_2 (S.F.var x _ hx) fun v av _ => ?_)
    have := (av.ext q.ext S.F.nPF fun n c hc => (S.F.cPF n c hc).1).fn ha
    subst this
    exact S.fm x d a hx av
  pr := fun p hp => by
    (refine ex_0_4 (S.pr p hp) fun a b c d => ?_)
    exact ⟨q.ext.at_ _ _ c.1 c.2 a, b, c, d⟩
  tm := S.tm.ext S.F.pl q.ext
  F := S.F.kp q

theorem StX.notPlace (S : StX g env s₀ X₀ pr tv td X σ s) {b : Addr} {o : Obj} (e : s₀.heap.get? b = some o) : ¬ Place env b := fun p => by
  rcases p with rfl | ⟨n, hn⟩
  · rw [S.fl] at e; cases e
  · rw [S.fc n b hn] at e; cases e
theorem StX.ext_put (S : StX g env s₀ X₀ pr tv td X σ s) (hk : ∀ b o, ¬ Place env b → s.heap.get? b = some o → s'.heap.get? b = some o) : Xt g s₀.heap s'.heap :=
  ⟨fun b o hb hl e => hk b o (S.notPlace e) (S.ext.at_ b o hb hl e), fun o e => by
    obtain ⟨sl, e'⟩ := S.ext.lf o e
    exact ⟨sl, hk _ _ (S.notPlace e) e'⟩⟩
theorem Place.not_of {q : Addr} (p : ¬ Place env q) : q ≠ env.locals ∧ ∀ n, env.cells.lookup n ≠ some q := ⟨fun e => p (.inl e), fun n e => p (.inr ⟨n, e⟩)⟩

theorem StX.put' (S : StX g env s₀ X₀ pr tv td X σ s) (hw : Wd g s') (F' : Fm g env X σ' s'.heap) (hk : ∀ b o, ¬ Place env b → s.heap.get? b = some o → s'.heap.get? b = some o)
    (hfm : ∀ x d a, σ'.lookup x = some (.m d) → At env s'.heap x (.ref a) → s₀.heap.get? a = none ∧ ∀ p ∈ pr, p.1 ≠ a) : StX g env s₀ X₀ pr tv td X σ' s' where
  wd := hw
  ext := S.ext_put hk
  sub := S.sub
  new := S.new
  fl := S.fl
  fc := S.fc
  fm := hfm
  pr := fun p hp => by
    (refine ex_0_4 (S.pr p hp) fun a b c d => ?_)
    exact ⟨hk _ _ d a, b, c, d⟩
  tm := S.tm.mono (fun _ _ _ x => x) fun a o na e => hk a o (fun p => na (S.F.placeX p)) e
  F := F'
theorem StX.put (S : StX g env s₀ X₀ pr tv td X σ s) (hw : Wd g s') (F' : Fm g env X σ' s'.heap) (hk : ∀ b o, ¬ Place env b → s.heap.get? b = some o → s'.heap.get? b = some o)
    (hm : ∀ x d, σ'.lookup x = some (.m d) → σ.lookup x = some (.m d) ∧ ∀ a, At env s'.heap x (.ref a) → At env s.heap x (.ref a)) : StX g env s₀ X₀ pr tv td X σ' s' where
  wd := hw
  ext := S.ext_put hk
  sub := S.sub
  new := S.new
  fl := S.fl
  fc := S.fc
  fm := fun x d a hx ha => S.fm x d a (hm x d hx).1 ((hm x d hx).2 a ha)
  pr := fun p hp => by
    (refine ex_0_4 (S.pr p hp) fun a b c d => ?_)
    exact ⟨hk _ _ d a, b, c, d⟩
  tm := S.tm.mono (fun _ _ _ x => x) fun a o na e => hk a o (fun p => na (S.F.placeX p)) e
  F := F'

theorem As.name {x : Str} {pos : Pos} {d : D} (hx : sc.names.lookup x = some .local ∨ sc.names.lookup x = some .cell := by walk_at "wc") : As g sc k (.Name x pos) d σ ((x, .v d) :: σ) [x] := by
  refine ⟨?_⟩
  intro env A X s E v he hr hw F r
  refine wpAny_assign_Name (store_wp hw F (he.scp ▸ he.kind) ?_ (b := .v d) r (fun d h => by cases h) fun s' w' F' hk hat _ => ⟨w', F', fun b o h1 h2 e => hk b o h1 (h2 x (by simp)) e, fun y u hy a => hat y u (by simpa using hy) a⟩)
  rcases hx with hx | hx
  · exact .inl (by unfold Env.kindOf; rw [he.scp]; exact hx)
  · exact .inr ⟨by unfold Env.kindOf; rw [he.scp]; exact hx, he.cells x hx⟩

theorem Ex.nil {Q : Fl → Prop} (h : Q (.next σ)) : Ex g sc k σ [] Q :=
  ⟨fun _ _ _ _ _ _ _ _ _ _ _ _ S => wpAny_pure ⟨σ, h, S⟩⟩

theorem Ex.cons {st : Stmt} {rest : List Stmt} {Q₁ Q : Fl → Prop} (h : Ex1 g sc k σ st Q₁) (hn : ∀ σ', Q₁ (.next σ') → Ex g sc k σ' rest Q) (hb : ∀ σ', Q₁ (.brk σ') → Q (.brk σ')) (hc : ∀ σ', Q₁ (.cont σ') → Q (.cont σ')) (hr : ∀ d, Q₁ (.ret d) → Q (.ret d)) :
    Ex g sc k σ (st :: rest) Q := by
  refine ⟨?_⟩
  intro env A s₀ X₀ pr tv td s E he hR hX S
  refine wpAny_execs_cons (wpAny_mono (h.run env A s₀ X₀ pr tv td s E he hR hX S) (fun f s' p => ?_) fun _ _ e => e)
  cases f with
  | next => (refine ex_1_2 (p) fun σ' q S' => ?_); exact (hn σ' q).run env A s₀ X₀ pr tv td s' E he hR hX S'
  | brk => (refine ex_1_2 (p) fun σ' q S' => ?_); exact ⟨σ', hb σ' q, S'⟩
  | cont => (refine ex_1_2 (p) fun σ' q S' => ?_); exact ⟨σ', hc σ' q, S'⟩
  | ret v => (refine ex_1_2 (p) fun d q S' => ?_); exact ⟨d, hr d q, S'⟩

theorem Ex.mono {stmts : List Stmt} {Q Q' : Fl → Prop} (h : Ex g sc k σ stmts Q) (hq : ∀ f, Q f → Q' f) : Ex g sc k σ stmts Q' := by
  refine ⟨?_⟩
  intro env A s₀ X₀ pr tv td s E he hR hX S
  refine wpAny_mono (h.run env A s₀ X₀ pr tv td s E he hR hX S) (fun f s' p => ?_) fun _ _ e => e
  cases f with
  | next => (refine ex_1_2 (p) fun σ' q S' => ?_); exact ⟨σ', hq _ q, S'⟩
  | brk => (refine ex_1_2 (p) fun σ' q S' => ?_); exact ⟨σ', hq _ q, S'⟩
  | cont => (refine ex_1_2 (p) fun σ' q S' => ?_); exact ⟨σ', hq _ q, S'⟩
  | ret v => (refine ex_1_2 (p) fun d q S' => ?_); exact ⟨d, hq _ q, S'⟩
theorem Ex.one {st : Stmt} {Q : Fl → Prop} (h : Ex1 g sc k σ st Q) : Ex g sc k σ [st] Q := Ex.cons h (fun _ q => Ex.nil q) (fun _ q => q) (fun _ q => q) fun _ q => q


noncomputable def Kq (g : Gw) (sc : Scope) (k : Nat) (rest : List Stmt) (Q : Fl → Prop) : Fl → Prop
  | .next σ => Ex g sc k σ rest Q
  | f => Q f
theorem Ex.go {st : Stmt} {rest : List Stmt} {Q : Fl → Prop} (h : Ex1 g sc k σ st (Kq g sc k rest Q)) : Ex g sc k σ (st :: rest) Q :=
  Ex.cons h (fun _ q => q) (fun _ q => q) (fun _ q => q) fun _ q => q

noncomputable def Sub (σ σ' : Sto) : Prop := ∀ x b, σ.lookup x = some b → σ'.lookup x = some b
noncomputable def SubL (σ' : Sto) : Sto → Prop
  | [] => True
  | (x, b) :: r => σ'.lookup x = some b ∧ SubL σ' r
theorem Sub.of : ∀ {σ σ' : Sto}, SubL σ' σ → Sub σ σ'
  | [], _, _ => fun x b h => by simp at h
  | (x, b) :: r, σ', h => fun y c hy => by
    rcases lookup_cons hy with ⟨rfl, rfl⟩ | ⟨_, h'⟩
    · exact h.1
    · exact Sub.of h.2 y c h'
theorem Fm.sub {h : Heap} (F : Fm g env X σ' h) (q : Sub σ σ') : Fm g env X σ h :=
  ⟨F.pf, F.lf, F.loc, F.cel, F.al, F.nPF, F.hiL, F.cPF, F.cinj, F.ns, fun x b hb => F.var x b (q x b hb), fun x y d e a h1 h2 => F.sole x y d e a (q _ _ h1) (q _ _ h2)⟩
theorem Stt.sub (S : Stt g env s₀ X₀ pr tv td σ' s) (q : Sub σ σ') : Stt g env s₀ X₀ pr tv td σ s := by
  obtain ⟨X, S⟩ := S
  exact ⟨X, S.wd, S.ext, S.sub, S.new, S.fl, S.fc, fun x d a hx ha => S.fm x d a (q _ _ hx) ha, S.pr, S.tm, S.F.sub q⟩
theorem Ex.sub {stmts : List Stmt} {Q : Fl → Prop} (h : Ex g sc k σ stmts Q) (q : Sub σ σ') : Ex g sc k σ' stmts Q :=
  ⟨fun env A s₀ X₀ pr tv td s E he hR hX S => h.run env A s₀ X₀ pr tv td s E he hR hX (S.sub q)⟩


theorem Ex.assignT {t value : Expr} {pos : Pos} {rest : List Stmt} {Q : Fl → Prop} {d : D} {ns : List Str} (h : Ev g sc k σ value d) (ht : As g sc k t d σ σ' ns)
    (hm : ∀ x d, σ'.lookup x = some (.m d) → σ.lookup x = some (.m d) ∧ x ∉ ns)
    (hq : Ex g sc k σ' rest Q) (hs : ∀ env, EnvOk sc env → swapsWithSole [t] value pos.line env = pure false) (hw : ∀ env, EnvOk sc env → swappedStores [t] value env = pure none)
    (he : ∀ env, (assignEach [t] env).map (·.2) = [assign t env]) :
    Ex g sc k σ (.Assign [t] value pos :: rest) Q := by
  refine Ex.go ?_
  refine ⟨?_⟩
  intro env A s₀ X₀ pr tv td s E hE hR hX S
  obtain ⟨X, S⟩ := S
  refine wpAny_Assign_stores (wpAny_mono (h.run env A X s E hE hR S.wd S.F) (fun v s₁ hv => ?_) fun _ _ e => e) (hs env hE) (hw env hE)
  rw [he env]
  show wpAny _ A (assign t env v) _ _ _
  have S₁ := S.kp hv.1
  refine wpAny_mono (ht.run env A X s₁ E v hE hR S₁.wd S₁.F hv.2) (fun _ s₂ h₂ => ?_) fun _ _ e => e
  (refine ex_0_4 (h₂) fun w₂ F₂ hk hat => ?_)
  refine ⟨σ', hq, X, S₁.put w₂ F₂ (fun b o hp e => hk b o (Place.not_of hp).1 (fun n _ => (Place.not_of hp).2 n) e) fun x d hx => ⟨(hm x d hx).1, fun a ha => ?_⟩⟩
  (refine ex_1_2 (S₁.F.var x _ (hm x d hx).1) fun u au _ => ?_)
  have := (hat x u (hm x d hx).2 au).fn ha
  subst this
  exact au

theorem Ex.assign {x : Str} {px pos : Pos} {value : Expr} {rest : List Stmt} {Q : Fl → Prop} {d : D} (h : Ev g sc k σ value d) (hq : Ex g sc k ((x, .v d) :: σ) rest Q)
    (hs : ∀ env, EnvOk sc env → swapsWithSole [.Name x px] value pos.line env = pure false := by walk_at "w2")
    (hx : sc.names.lookup x = some .local ∨ sc.names.lookup x = some .cell := by walk_at "wc") : Ex g sc k σ (.Assign [.Name x px] value pos :: rest) Q := by
  refine Ex.assignT h (As.name hx) (fun y e hy => ?_) hq hs (fun env _ => rfl) fun _ => rfl
  rcases lookup_cons hy with ⟨_, hb⟩ | ⟨hne, hy⟩
  · cases hb
  · exact ⟨hy, by simpa using hne⟩

theorem Ex.ret {e : Expr} {pos : Pos} {rest : List Stmt} {Q : Fl → Prop} {d : D} (h : Ev g sc k σ e d) (hq : Q (.ret d)) : Ex g sc k σ (.Return (some e) pos :: rest) Q := by
  refine Ex.go ?_
  refine ⟨?_⟩
  intro env A s₀ X₀ pr tv td s E hE hR hX S
  obtain ⟨X, S⟩ := S
  refine wpAny_Return_some (wpAny_mono (h.run env A X s E hE hR S.wd S.F) (fun v s₁ hv => ?_) fun _ _ e => e)
  exact ⟨d, hq, ⟨S.ext.trans hv.1.ext, hv.1.wd⟩, hv.2.mono (fun a _ _ na x => na (S.sub a x)) fun _ _ _ e => e⟩

theorem Ex.if_ {test : Expr} {body orelse rest : List Stmt} {pos : Pos} {Q : Fl → Prop} {b : Bool} (h : Tr g sc k σ test b) (hq : Ex g sc k σ (bif b then body else orelse) (Kq g sc k rest Q)) : Ex g sc k σ (.If test body orelse pos :: rest) Q := by
  refine Ex.go ?_
  refine ⟨?_⟩
  intro env A s₀ X₀ pr tv td s E hE hR hX S
  obtain ⟨X, S⟩ := S
  refine wpAny_If (wpAny_mono (h.run env A X s E hE hR S.wd S.F) (fun r s₁ hv => ?_) fun _ _ e => e)
  obtain ⟨k1, rfl⟩ := hv
  have := hq.run env A s₀ X₀ pr tv td s₁ E hE hR hX ⟨X, S.kp k1⟩
  cases r with
  | true => exact this
  | false => exact this
theorem Ex.brk {pos : Pos} {rest : List Stmt} {Q : Fl → Prop} (hq : Q (.brk σ)) : Ex g sc k σ (.Break pos :: rest) Q := Ex.go ⟨fun _ _ _ _ _ _ _ _ _ _ _ _ S => wpAny_Break ⟨σ, hq, S⟩⟩
theorem Ex.cont {pos : Pos} {rest : List Stmt} {Q : Fl → Prop} (hq : Q (.cont σ)) : Ex g sc k σ (.Continue pos :: rest) Q := Ex.go ⟨fun _ _ _ _ _ _ _ _ _ _ _ _ S => wpAny_Continue ⟨σ, hq, S⟩⟩
end
set_option maxRecDepth 100000 in
theorem KK_PF (w : World) : (KK w).lookup PF = none := by rfl
noncomputable def fdAt (w : World) (a : Addr) : FuncData := match (KK w).lookup a with
  | some ⟨_, _, .func fd, _⟩ => fd
  | _ => default
section
variable {g : Gw} {s : Shared}
theorem Wd.kin (x : Wd g s) : (KK g.w).In s.heap := fun a o e => x.ext a o (fun z => by subst z; rw [KK_PF] at e; cases e) (x.ok.kin a o e)
theorem Wd.nolimit (x : Wd g s) : s.heap.NoLimit := by
  (refine ex_1_2 (x.ok.lim) fun mc hn e => ?_)
  exact ⟨mc, hn.at' fun o e => x.ext _ o (by decide) e, e⟩
end

structure Fn (g : Gw) (k : Nat) (f : Addr) (ds : List D) (d : D) : Prop where
  run : ∀ (A : Around) (X : Addr → Prop) (s : Shared) (E : Value → Shared → Prop) (vals : List Value), Room g k A → Wd g s → XOk g X s.heap → Reps g X s.heap vals ds →
    wpAny g.M A (call (.ref f) vals) (fun v s' => Kp g s s' ∧ Rep g X s'.heap v d) E s

noncomputable def Rets (d : D) : Fl → Prop
  | .ret e => e = d
  | .next _ => d = .none
  | _ => False

theorem start {g : Gw} {s s₁ : Shared} {X₀ : Addr → Prop} {env : Env} {binds : List (Str × Value)} {σ : Sto} (hw : Wd g s) (hX : XOk g X₀ s.heap) (hL : env.locals = s.heap.objs.size)
    (C : InCallC s env.locals (bindL env.kindOf binds fun _ => none) env.cells (bindC env.kindOf binds fun _ => none) s₁)
    (hv : ∀ x b, σ.lookup x = some b → ∃ v d, b = .v d ∧ Rep g X₀ s.heap v d ∧ ((env.kindOf x = some .local ∧ bindL env.kindOf binds (fun _ => none) x = some v) ∨ (env.kindOf x = some .cell ∧ ∃ c, env.cells.lookup x = some c ∧ bindC env.kindOf binds (fun _ => none) x = some v))) :
    Stt g env s X₀ [] [] [] σ s₁ := by
  (refine ex_2_1 (C.toInCall.same) fun h₁ tk zq9 => ?_; (first | subst zq9 | cases zq9))
  have keep := C.toInCall.keep
  have freshL : s.heap.get? env.locals = none := by rw [hL]; exact get_size _
  have freshC : ∀ n c, env.cells.lookup n = some c → s.heap.get? c = none := fun n c hc => by
    have := C.above n c (PySem.mem_of_lookup hc)
    cases e : s.heap.get? c with
    | none => rfl
    | some o => have h2 := Heap.lt_size e; rw [hL] at this; exact absurd h2 (Nat.not_lt.mpr (Nat.le_of_lt this))
  have wd : Wd g { s with heap := h₁, toks := tk } := hw.keeps keep
  have fresh : ∀ q, Place env q → s.heap.get? q = none := by
    rintro q (rfl | ⟨n, hn⟩)
    · exact freshL
    · exact freshC n q hn
  have hk : ∀ {v d}, Rep g X₀ s.heap v d → Rep g (fun a => X₀ a ∨ Place env a) h₁ v d := fun r => r.mono (fun a o e na => by
    rintro (x | p)
    · exact na x
    · rw [fresh a p] at e; cases e) fun a o _ e => keep a o e
  refine ⟨fun a => X₀ a ∨ Place env a, { wd := wd, ext := .keeps keep, sub := fun a x => .inl x, new := fun a => ?_, fl := freshL, fc := freshC, fm := fun x d a hx => ?_, pr := fun p hp => (nomatch hp), tm := .nil, F := ?_ }⟩
  · rintro (x | p)
    · exact .inl x
    · exact .inr (fresh a p)
  · (refine ex_2_2 (hv x _ hx) fun v d' hb _ => ?_); cases hb
  refine ⟨.inl hX.pf, .inl hX.lf, .inr (.inl rfl), fun n c hc => .inr (.inr ⟨n, hc⟩), fun a => ?_, hw.nPF freshL, hw.hi freshL, fun n c hc => ?_, fun n n' c h1 h2 => ?_, ⟨_, C.toInCall.ns⟩, fun x b hx => ?_, fun x y d e a h1 => ?_⟩
  · rintro (x | rfl | ⟨n, hn⟩)
    · obtain ⟨o, ho⟩ := hX.al a x; exact ⟨o, keep a o ho⟩
    · (refine ex_3_2 (C.toInCall.ns) fun o _ _ ho _ => ?_); exact ⟨o, ho⟩
    · (refine ex_1_2 (C.cell n a hn) fun o ho _ => ?_); exact ⟨o, ho⟩
  · have h3 := C.above n c (PySem.mem_of_lookup hc)
    exact ⟨⟨hw.nPF (freshC n c hc), fun z => hX.fresh (freshC n c hc) (z ▸ hX.lf)⟩, Nat.ne_of_gt h3, hw.hi (freshC n c hc), _, C.cell n c hc⟩
  · exact name_of_addr C.apart (PySem.mem_of_lookup h1) (PySem.mem_of_lookup h2)
  · (refine ex_2_3 (hv x b hx) fun v d zq10 r h => ?_; (first | subst zq10 | cases zq10))
    refine ⟨v, ?_, hk r⟩
    rcases h with ⟨k, e⟩ | ⟨k, c, hc, e⟩
    · exact .inl ⟨k, _, C.toInCall.ns, e⟩
    · exact .inr ⟨.inl k, c, hc, e ▸ C.cell x c hc⟩
  · (refine ex_2_2 (hv x _ h1) fun v d' hb _ => ?_); cases hb
set_option tactic.hygienic true in
theorem cellsFrom_has {n : Str} : ∀ (names : List (Str × NameKind)) (k : Nat) (acc : List (Str × Addr)), ((∃ c, acc.lookup n = some c) ∨ names.lookup n = some .cell) → ∃ c, (cellsFrom k names acc).lookup n = some c
  | [], k, acc, h => by
    rcases h with h | h
    · exact h
    · simp at h
  | (x, kd) :: r, k, acc, h => by
    unfold cellsFrom
    by_cases hx : n = x
    · subst hx
      split
      · refine cellsFrom_has r _ _ (.inl ⟨k, by simp⟩)
      · rename_i hk
        rcases h with h | h
        · exact cellsFrom_has r _ _ (.inl h)
        · simp at h; subst h; simp at hk
    · have hb : (n == x) = false := by simpa using hx
      split
      · refine cellsFrom_has r _ _ ?_
        rcases h with ⟨c, h⟩ | h
        · exact .inl ⟨c, by rw [List.lookup_cons, hb]; exact h⟩
        · rw [List.lookup_cons, hb] at h; exact .inr h
      · refine cellsFrom_has r _ _ ?_
        rcases h with h | h
        · exact .inl h
        · rw [List.lookup_cons, hb] at h; exact .inr h

theorem Room.deeper {g : Gw} {k : Nat} {A : Around} {env : Env} (r : Room g (k + 1) A) : Room g k (A.deeper env) :=
  ⟨r.hd, by have := r.top; (exact Nat.le_of_lt ‹_›), fun z => by have := r.top; lia, by show A.depth + 1 + _ < _; have := r.depth; lia, by show A.units + 3 + _ < _; have := r.units; lia⟩
theorem Room.lt {g : Gw} {k : Nat} {A : Around} (r : Room g k A) : A.depth < recursionLimit := by have := r.depth; show A.depth < 1000; lia
theorem Room.line {g : Gw} {k : Nat} {A : Around} (r : Room g k A) : A.units + 64 < cLine := by have := r.units; show A.units + 64 < 9900; lia

section
variable {g : Gw} {k : Nat} {f : Addr} {fd : FuncData} {body : List Stmt}

theorem Fn.of {ds : List D} {d : D} {σ : Sto} {sc : Scope} (hd : ∃ o, (KK g.w).lookup f = some o ∧ o.data = .func fd) (hb : fd.body = .stmts body) (hsc : fd.scope = sc) (hclo : fd.closure = []) (hgl : fd.globals = mainGlobals) (hbi : fd.builtins = builtinsNs)
    (hcd : codeIn (KK g.w) fd.code fd.qualname = true) (hco : sc.isCoroutine = false) (hgen : sc.isGenerator = false) (hkd : sc.kind = .function)
    (h : Ex g sc k σ body (Rets d))
    (hbind : ∀ vals : List Value, vals.length = ds.length → ∃ binds, bindArgs fd ⟨vals, []⟩ = pure binds ∧ (∀ x ∈ binds, sc.names.lookup x.1 = some .local ∨ sc.names.lookup x.1 = some .cell) ∧
      ∀ x b, σ.lookup x = some b → ∃ (i : Nat) (v : Value) (e : D), vals[i]? = some v ∧ ds[i]? = some e ∧ b = .v e ∧ ((sc.names.lookup x = some .local ∧ bindL (fun y => sc.names.lookup y) binds (fun _ => none) x = some v) ∨ (sc.names.lookup x = some .cell ∧ bindC (fun y => sc.names.lookup y) binds (fun _ => none) x = some v))) :
    Fn g (k + 1) f ds d := by
  refine ⟨?_⟩
  intro A X s E vals hR hw hX hr
  (refine ex_1_2 (hd) fun o ho hdat => ?_)
  (refine ex_1_3 (hbind vals hr.length) fun binds e1 e2 e3 => ?_)
  subst hsc
  have kin := hw.kin
  refine wpAny_call (codeAny_call_cells hR.lt (kin _ _ ho) hdat hw.nolimit (codeRec_of kin hcd) hb e1 hclo (fun x hx => ?_) (fun s₁ C => ?_) hco hgen hkd)
  · rcases e2 x hx with h | h
    · exact .inl h
    · obtain ⟨c, hc⟩ := cellsFrom_has fd.scope.names (s.heap.objs.size + 1) [] (.inr h)
      exact .inr ⟨h, by rw [hc]; rfl⟩
  · generalize hE : callEnvC fd s.heap.objs.size f = env at C ⊢
    have hsc : env.scope = fd.scope := by rw [← hE]; rfl
    have hkof : env.kindOf = fun y => fd.scope.names.lookup y := by funext y; unfold Env.kindOf; rw [hsc]
    have hcel : ∀ n, fd.scope.names.lookup n = some .cell → ∃ c, env.cells.lookup n = some c := fun n hn => by rw [← hE]; exact cellsFrom_has fd.scope.names _ [] (.inr hn)
    have he : EnvOk fd.scope env := ⟨hsc, hkd, by rw [← hE]; exact hgl, by rw [← hE]; exact hbi, hcel⟩
    have S : Stt g env s X [] [] [] σ s₁ := start hw hX (by rw [← hE]; rfl) C fun x b hx => by
      (refine ex_3_4 (e3 x b hx) fun i v e h1 h2 zq11 h3 => ?_; (first | subst zq11 | cases zq11))
      (refine ex_1_2 (hr.get h2) fun v' hv' r => ?_)
      rw [h1] at hv'; cases hv'
      refine ⟨v, e, rfl, r, ?_⟩
      rw [hkof]
      rcases h3 with ⟨a, b⟩ | ⟨a, b⟩
      · exact .inl ⟨a, b⟩
      · obtain ⟨c, hc⟩ := hcel x a
        exact .inr ⟨a, c, hc, b⟩
    refine wpAny_mono (h.run env _ s X [] [] [] s₁ _ he hR.deeper hX.xal S) (fun fl s' p => ?_) fun _ _ e => e
    cases fl with
    | ret v => (refine ex_1_3 (p) fun e zq12 q r => ?_; (first | subst zq12 | cases zq12)); exact ⟨q, r⟩
    | next => (refine ex_1_2 (p) fun σ' q zq13 => ?_; refine ex_1_1 (zq13) fun Y S' => ?_); cases q; exact ⟨⟨S'.ext, S'.wd⟩, .none⟩
    | brk => (refine ex_1_2 (p) fun σ' q _ => ?_); exact q.elim
    | cont => (refine ex_1_2 (p) fun σ' q _ => ?_); exact q.elim

structure FH (w : World) (f : Addr) (body : List Stmt) (sc : Scope) : Prop where
  at_ : ∃ o, (KK w).lookup f = some o ∧ o.data = .func (fdAt w f)
  bd : (fdAt w f).body = .stmts body
  scp : (fdAt w f).scope = sc
  clo : (fdAt w f).closure = []
  gl : (fdAt w f).globals = mainGlobals
  bi : (fdAt w f).builtins = builtinsNs
  cd : codeIn (KK w) (fdAt w f).code (fdAt w f).qualname = true
  co : sc.isCoroutine = false
  gen : sc.isGenerator = false
  kd : sc.kind = .function

theorem Fn.of1 {sc : Scope} {x : Str} {d e : D} (H : FH g.w f body sc)
    (hbind : ∀ v, bindArgs (fdAt g.w f) ⟨[v], []⟩ = pure [(x, v)]) (hx : sc.names.lookup x = some .local ∨ sc.names.lookup x = some .cell)
    (h : Ex g sc k [(x, .v e)] body (Rets d)) : Fn g (k + 1) f [e] d := by
  refine Fn.of H.at_ H.bd H.scp H.clo H.gl H.bi H.cd H.co H.gen H.kd h fun vals hl => ?_
  match vals, hl with
  | [v], _ =>
    refine ⟨_, hbind v, fun y hy => ?_, fun y b hy => ?_⟩
    · simp at hy; subst hy; exact hx
    · rcases lookup_cons hy with ⟨rfl, rfl⟩ | ⟨_, h⟩
      · refine ⟨0, v, e, rfl, rfl, rfl, ?_⟩
        rcases hx with hx | hx
        · exact .inl ⟨hx, by simp [bindL, hx]⟩
        · exact .inr ⟨hx, by simp [bindC, hx]⟩
      · simp at h

theorem Fn.of2 {sc : Scope} {x y : Str} {d e e' : D} (H : FH g.w f body sc)
    (hbind : ∀ v u, bindArgs (fdAt g.w f) ⟨[v, u], []⟩ = pure [(x, v), (y, u)]) (hx : sc.names.lookup x = some .local ∨ sc.names.lookup x = some .cell) (hy : sc.names.lookup y = some .local ∨ sc.names.lookup y = some .cell) (hxy : (x == y) = false)
    (h : Ex g sc k [(x, .v e), (y, .v e')] body (Rets d)) : Fn g (k + 1) f [e, e'] d := by
  refine Fn.of H.at_ H.bd H.scp H.clo H.gl H.bi H.cd H.co H.gen H.kd h fun vals hl => ?_
  have hne : x ≠ y := by simpa using hxy
  match vals, hl with
  | [v, u], _ =>
    refine ⟨_, hbind v u, fun z hz => ?_, fun z b hz => ?_⟩
    · simp at hz; rcases hz with rfl | rfl
      · exact hx
      · exact hy
    · rcases lookup_cons hz with ⟨rfl, rfl⟩ | ⟨_, h⟩
      · refine ⟨0, v, e, rfl, rfl, rfl, ?_⟩
        rcases hx with hx | hx <;> rcases hy with hy | hy
        · exact .inl ⟨hx, by simp [bindL, hx, hy, hne]⟩
        · exact .inl ⟨hx, by simp [bindL, hx, hy]⟩
        · exact .inr ⟨hx, by simp [bindC, hx, hy]⟩
        · exact .inr ⟨hx, by simp [bindC, hx, hy, hne]⟩
      · rcases lookup_cons h with ⟨rfl, rfl⟩ | ⟨_, h⟩
        · refine ⟨1, u, e', rfl, rfl, rfl, ?_⟩
          rcases hx with hx | hx <;> rcases hy with hy | hy
          · exact .inl ⟨hy, by simp [bindL, hx, hy]⟩
          · exact .inr ⟨hy, by simp [bindC, hx, hy]⟩
          · exact .inl ⟨hy, by simp [bindL, hx, hy]⟩
          · exact .inr ⟨hy, by simp [bindC, hx, hy]⟩
        · simp at h
end

structure Cl (g : Gw) (k : Nat) (f : Value) (ds : List D) (d : D) : Prop where
  run : ∀ (A : Around) (X : Addr → Prop) (s : Shared) (E : Value → Shared → Prop) (vals : List Value), Room g k A → Wd g s → XOk g X s.heap → Reps g X s.heap vals ds →
    wpAny g.M A (call f vals) (fun v s' => Kp g s s' ∧ Rep g X s'.heap v d) E s
theorem Fn.cl {g : Gw} {k : Nat} {f : Addr} {ds : List D} {d : D} (h : Fn g k f ds d) : Cl g k (.ref f) ds d := ⟨h.run⟩

structure Bin (g : Gw) (k : Nat) (op : Operator) (a b d : D) : Prop where
  run : ∀ (A : Around) (X : Addr → Prop) (s : Shared) (E : Value → Shared → Prop) (u v : Value), Room g k A → Wd g s → XOk g X s.heap → Rep g X s.heap u a → Rep g X s.heap v b →
    wpAny g.M A (binaryOp op u v) (fun r s' => Kp g s s' ∧ Rep g X s'.heap r d) E s
structure Cmp (g : Gw) (k : Nat) (op : CmpOp) (a b : D) (r : Bool) : Prop where
  run : ∀ (A : Around) (X : Addr → Prop) (s : Shared) (E : Value → Shared → Prop) (u v : Value), Room g k A → Wd g s → XOk g X s.heap → Rep g X s.heap u a → Rep g X s.heap v b →
    wpAny g.M A (compareOp op u v) (fun y s' => Kp g s s' ∧ y = .bool r) E s
structure Itm (g : Gw) (k : Nat) (a i d : D) : Prop where
  run : ∀ (A : Around) (X : Addr → Prop) (s : Shared) (E : Value → Shared → Prop) (u v : Value) (value slice : Expr), Room g k A → Wd g s → XOk g X s.heap → Rep g X s.heap u a → Rep g X s.heap v i →
    (subscripted slice false u v = operate [u, v] (getItem u v)) →
    wpAny g.M A (subscriptTail value slice u v) (fun r s' => Kp g s s' ∧ Rep g X s'.heap r d) E s
structure Truth (g : Gw) (k : Nat) (a : D) (r : Bool) : Prop where
  run : ∀ (A : Around) (X : Addr → Prop) (s : Shared) (E : Value → Shared → Prop) (u : Value), Room g k A → Wd g s → XOk g X s.heap → Rep g X s.heap u a →
    wpAny g.M A (truthy u) (fun y s' => Kp g s s' ∧ y = r) E s
structure Evs (g : Gw) (sc : Scope) (k : Nat) (σ : Sto) (es : List Expr) (ds : List D) : Prop where
  run : ∀ (env : Env) (A : Around) (X : Addr → Prop) (s : Shared) (E : Value → Shared → Prop) (pos : Pos), EnvOk sc env → Room g k A → Wd g s → Fm g env X σ s.heap →
    wpAny g.M A (spliced (backTo pos (starEach es env))) (fun vs s' => Kp g s s' ∧ Reps g X s'.heap vs ds) E s

section
variable {g : Gw} {sc : Scope} {k : Nat} {σ : Sto}

theorem Evs.nil : Evs g sc k σ [] [] := ⟨fun _ _ _ _ _ _ _ _ hw _ => wpAny_pure ⟨.refl hw, .nil⟩⟩
theorem Evs.cons {e : Expr} {es : List Expr} {d : D} {ds : List D} (h : Ev g sc k σ e d) (hs : Evs g sc k σ es ds) (he : ∀ env, starEach (e :: es) env = (false, eval e env) :: starEach es env := by walk_at "w1") : Evs g sc k σ (e :: es) (d :: ds) := by
  refine ⟨?_⟩
  intro env A X s E pos hE hR hw F
  rw [he]
  refine spliced_cons (wpAny_mono (h.run env A X s E hE hR hw F) (fun v s₁ h₁ => ?_) fun _ _ e => e)
  refine wpAny_mono (hs.run env A X s₁ E pos hE hR h₁.1.wd (F.kp h₁.1)) (fun vs s₂ h₂ => ?_) fun _ _ e => e
  exact ⟨h₁.1.trans h₂.1, .cons (h₁.2.ext F.pl h₂.1.ext) h₂.2⟩

theorem Ev.bin {l r : Expr} {op : Operator} {pos : Pos} {a b d : D} (hl : Ev g sc k σ l a) (hr : Ev g sc k σ r b) (ho : Bin g k op a b d) : Ev g sc k σ (.BinOp l op r pos) d := by
  refine ⟨?_⟩
  intro env A X s E hE hR hw F
  refine wpAny_BinOp (wpAny_mono (hl.run env A X s E hE hR hw F) (fun u s₁ h₁ => ?_) fun _ _ e => e)
  refine wpAny_mono (hr.run env A X s₁ E hE hR h₁.1.wd (F.kp h₁.1)) (fun v s₂ h₂ => ?_) fun _ _ e => e
  have F₂ := (F.kp h₁.1).kp h₂.1
  refine wpAny_mono (ho.run A X s₂ E u v hR h₂.1.wd F₂.xok (h₁.2.ext F.pl h₂.1.ext) h₂.2) (fun r s₃ h₃ => ?_) fun _ _ e => e
  exact ⟨(h₁.1.trans h₂.1).trans h₃.1, h₃.2⟩
theorem Ev.cmp {l r : Expr} {op : CmpOp} {pos : Pos} {a b : D} {t : Bool} (hl : Ev g sc k σ l a) (hr : Ev g sc k σ r b) (ho : Cmp g k op a b t) (hm : behindInMarks op r = false := by kernel_rfl) : Ev g sc k σ (.Compare l [op] [r] pos) (.bool t) := by
  refine ⟨?_⟩
  intro env A X s E hE hR hw F
  refine wpAny_Compare1 (wpAny_mono (hl.run env A X s E hE hR hw F) (fun u s₁ h₁ => ?_) fun _ _ e => e) hm
  refine wpAny_mono (hr.run env A X s₁ E hE hR h₁.1.wd (F.kp h₁.1)) (fun v s₂ h₂ => ?_) fun _ _ e => e
  have F₂ := (F.kp h₁.1).kp h₂.1
  refine wpAny_mono (ho.run A X s₂ E u v hR h₂.1.wd F₂.xok (h₁.2.ext F.pl h₂.1.ext) h₂.2) (fun r s₃ h₃ => ?_) fun _ _ e => e
  exact ⟨(h₁.1.trans h₂.1).trans h₃.1, by rw [h₃.2]; exact .bool _⟩
theorem Tr.cmp {l r : Expr} {op : CmpOp} {pos : Pos} {a b : D} {t : Bool} (hl : Ev g sc k σ l a) (hr : Ev g sc k σ r b) (ho : Cmp g k op a b t) (hm : behindInMarks op r = false := by kernel_rfl) : Tr g sc k σ (.Compare l [op] [r] pos) t := by
  refine ⟨?_⟩
  intro env A X s E hE hR hw F
  refine wpAny_isTrue_Compare1 (wpAny_mono (hl.run env A X s E hE hR hw F) (fun u s₁ h₁ => ?_) fun _ _ e => e) hm
  refine wpAny_mono (hr.run env A X s₁ E hE hR h₁.1.wd (F.kp h₁.1)) (fun v s₂ h₂ => ?_) fun _ _ e => e
  have F₂ := (F.kp h₁.1).kp h₂.1
  refine wpAny_mono (ho.run A X s₂ E u v hR h₂.1.wd F₂.xok (h₁.2.ext F.pl h₂.1.ext) h₂.2) (fun r s₃ h₃ => ?_) fun _ _ e => e
  obtain ⟨q, rfl⟩ := h₃
  exact wpAny_pure ⟨(h₁.1.trans h₂.1).trans q, rfl⟩
theorem Tr.val {e : Expr} {d : D} {t : Bool} (h : Ev g sc k σ e d) (ht : Truth g k d t) (he : ∀ env whole, isTrue e env whole = (do let v ← whole; standAt e.pos; holding [v] (truthy v)) := by walk_at "w2") : Tr g sc k σ e t := by
  refine ⟨?_⟩
  intro env A X s E hE hR hw F
  refine wpAny_isTrue_value (wpAny_mono (h.run env A X s E hE hR hw F) (fun u s₁ h₁ => ?_) fun _ _ e => e) (he _ _)
  refine wpAny_mono (ht.run A X s₁ E u hR h₁.1.wd (F.kp h₁.1).xok h₁.2) (fun r s₃ h₃ => ⟨h₁.1.trans h₃.1, h₃.2⟩) fun _ _ e => e
theorem Ev.ifExp {test body orelse : Expr} {pos : Pos} {b : Bool} {d : D} (ht : Tr g sc k σ test b) (h1 : b = true → Ev g sc k σ body d) (h2 : b = false → Ev g sc k σ orelse d) : Ev g sc k σ (.IfExp test body orelse pos) d := by
  refine ⟨?_⟩
  intro env A X s E hE hR hw F
  refine wpAny_IfExp (wpAny_mono (ht.run env A X s E hE hR hw F) (fun r s₁ h₁ => ?_) fun _ _ e => e)
  obtain ⟨q, rfl⟩ := h₁
  cases r with
  | true => exact wpAny_mono ((h1 rfl).run env A X s₁ E hE hR q.wd (F.kp q)) (fun v s₂ h₂ => ⟨q.trans h₂.1, h₂.2⟩) fun _ _ e => e
  | false => exact wpAny_mono ((h2 rfl).run env A X s₁ E hE hR q.wd (F.kp q)) (fun v s₂ h₂ => ⟨q.trans h₂.1, h₂.2⟩) fun _ _ e => e
theorem Ev.sub {value slice : Expr} {pos : Pos} {a i d : D} (hv : Ev g sc k σ value a) (hi : Ev g sc k σ slice i) (h : Itm g k a i d) (hs : ∀ u v, subscripted slice false u v = operate [u, v] (getItem u v) := by walk_at "w2") : Ev g sc k σ (.Subscript value slice pos) d := by
  refine ⟨?_⟩
  intro env A X s E hE hR hw F
  refine Subscript_ (wpAny_mono (hv.run env A X s E hE hR hw F) (fun u s₁ h₁ => ?_) fun _ _ e => e)
  refine wpAny_mono (hi.run env A X s₁ E hE hR h₁.1.wd (F.kp h₁.1)) (fun v s₂ h₂ => ?_) fun _ _ e => e
  have F₂ := (F.kp h₁.1).kp h₂.1
  refine wpAny_mono (h.run A X s₂ E u v value slice hR h₂.1.wd F₂.xok (h₁.2.ext F.pl h₂.1.ext) h₂.2 (hs u v)) (fun r s₃ h₃ => ?_) fun _ _ e => e
  exact ⟨(h₁.1.trans h₂.1).trans h₃.1, h₃.2⟩

theorem Kp.push {s : Shared} (x : Wd g s) {o : Obj} : Kp g s { s with heap := s.heap.push o } := .keeps (t := s.toks) x fun _ _ e => Heap.get?_push_of_some _ e
theorem Rep.newTup {X : Addr → Prop} {s : Shared} {vs : List Value} {ds : List D} (hX : XOk g X s.heap) (r : Reps g X s.heap vs ds) : Rep g X (s.heap.push { cls := .type "tuple", data := .seq vs.toArray }) (.ref s.heap.objs.size) (.tup ds) :=
  .tup (hX.fresh (get_size _)) (Heap.get?_push_size _ rfl) rfl rfl (r.mono (fun _ _ _ x => x) fun _ _ _ e => Heap.get?_push_of_some _ e)
theorem Rep.newLst {X : Addr → Prop} {s : Shared} {vs : List Value} {ds : List D} (hX : XOk g X s.heap) (r : Reps g X s.heap vs ds) : Rep g X (s.heap.push { cls := .type "list", data := .seq vs.toArray }) (.ref s.heap.objs.size) (.lst ds) :=
  .lst (hX.fresh (get_size _)) (Heap.get?_push_size _ rfl) rfl rfl (r.mono (fun _ _ _ x => x) fun _ _ _ e => Heap.get?_push_of_some _ e)

theorem Ev.tup {es : List Expr} {n : Nat} {pos : Pos} {ds : List D} (h : Evs g sc k σ es ds) (hz : ds.length ≤ sizeLine := by walk_at "wd") : Ev g sc k σ (.Tuple es n pos) (.tup ds) := by
  refine ⟨?_⟩
  intro env A X s E hE hR hw F
  refine Tuple_ (wpAny_mono (h.run env A X s E pos hE hR hw F) (fun vs s₁ h₁ => ?_) fun _ _ e => e)
  refine wpAny_newObj_type ⟨h₁.1.trans (.push h₁.1.wd), .newTup (F.kp h₁.1).xok h₁.2⟩ (by show vs.toArray.size ≤ sizeLine; rw [List.size_toArray, h₁.2.length]; exact hz)
theorem Ev.list {es : List Expr} {pos : Pos} {ds : List D} (h : Evs g sc k σ es ds) (hz : ds.length ≤ sizeLine := by walk_at "wd") : Ev g sc k σ (.List es pos) (.lst ds) := by
  refine ⟨?_⟩
  intro env A X s E hE hR hw F
  refine List_ (wpAny_mono (h.run env A X s E pos hE hR hw F) (fun vs s₁ h₁ => ?_) fun _ _ e => e)
  refine wpAny_newObj_type ⟨h₁.1.trans (.push h₁.1.wd), .newLst (F.kp h₁.1).xok h₁.2⟩ (by show vs.toArray.size ≤ sizeLine; rw [List.size_toArray, h₁.2.length]; exact hz)

theorem glob_wp {env : Env} {A : Around} {s : Shared} {E : Value → Shared → Prop} {x : Str} {pos : Pos} {v : Value} {Q : Value → Shared → Prop} (hE : EnvOk sc env) (hw : Wd g s) (hx : sc.names.lookup x = some .globalImplicit)
    (e : nsIn (KK g.w) mainGlobals x = some (some v)) (h : Q v s) (hd : (x == ("__debug__" : Str)) = false := by kernel_rfl) : wpAny g.M A (eval (.Name x pos) env) Q E s := by
  refine Name_function_global (hE.scp ▸ hE.kind) (by unfold Env.kindOf; rw [hE.scp]; exact hx) ?_ hd
  unfold loadGlobal
  rw [hE.gl]
  exact wpAny_bind ((looks_nsIn hw.kin e).here (wpAny_pure h))
theorem builtin_wp {env : Env} {A : Around} {s : Shared} {E : Value → Shared → Prop} {x : Str} {pos : Pos} {v : Value} {Q : Value → Shared → Prop} (hE : EnvOk sc env) (hw : Wd g s) (hx : sc.names.lookup x = some .globalImplicit)
    (e : nsIn (KK g.w) mainGlobals x = some none) (hb : bootBuiltins x = some v) (h : Q v s) (hd : (x == ("__debug__" : Str)) = false := by kernel_rfl) (hn : x ≠ "__name__" := by decide) : wpAny g.M A (eval (.Name x pos) env) Q E s := by
  refine Name_function_global (hE.scp ▸ hE.kind) (by unfold Env.kindOf; rw [hE.scp]; exact hx) ?_ hd
  unfold loadGlobal
  rw [hE.gl, hE.bi]
  refine wpAny_bind ((looks_nsIn hw.kin e).here ?_)
  have hns : s.heap.Ns builtinsNs g.mb := hw.ok.bn.at' fun o e => hw.ext _ o (by decide) e
  exact wpAny_bind (wpAny_nsGet hns (by rw [hw.ok.bi x hn, hb]; exact wpAny_pure h))

theorem args_wp {env : Env} {A : Around} {s : Shared} {E : Value → Shared → Prop} {X : Addr → Prop} {f : Value} {first : List Value} {pos : Pos} {e₀ : Expr} {es : List Expr} {ds : List D} {Q : Value → Shared → Prop} (hE : EnvOk sc env) (hR : Room g k A) (hw : Wd g s) (F : Fm g env X σ s.heap)
    (hk : ∀ h, (KK g.w).In h → ∃ k, (k = Keeper.frame ∨ k = Keeper.machine ∨ k = Keeper.boundFrame) ∧ Looks g.M h (keeperOf f) k)
    (hs : Evs g sc k σ (e₀ :: es) ds) (hplain : ∀ env pos, (backTo pos (starEach (e₀ :: es) env)).any (·.1) = false) (hc : ∀ env, starEach (e₀ :: es) env = (false, eval e₀ env) :: starEach es env) (h : ∀ vs s', Kp g s s' → Reps g X s'.heap vs ds → wpAny g.M A (call f (first ++ vs)) Q E s') :
    wpAny g.M A (callWith pos f first (backTo pos (starEach (e₀ :: es) env)) []) Q E s := by
  refine callWith_of (P := fun h => (KK g.w).In h) (by rw [hplain env]; rfl) hk ?_
  have key := hs.run env A X s E pos hE hR hw F
  rw [hc] at key ⊢
  exact evalArgs_plain (wpAny_mono key (fun vs s' h' => ⟨h'.1.wd.kin, h vs s' h'.1 h'.2⟩) fun _ _ e => e)
theorem args_wp0 {env : Env} {A : Around} {s : Shared} {E : Value → Shared → Prop} {f : Value} {first : List Value} {pos : Pos} {Q : Value → Shared → Prop} (hw : Wd g s)
    (hk : ∀ h, (KK g.w).In h → ∃ k, (k = Keeper.frame ∨ k = Keeper.machine ∨ k = Keeper.boundFrame) ∧ Looks g.M h (keeperOf f) k)
    (h : wpAny g.M A (call f (first ++ [])) Q E s) : wpAny g.M A (callWith pos f first (backTo pos (starEach [] env)) []) Q E s :=
  callWith_of (P := fun h => (KK g.w).In h) rfl hk (evalArgs_nil3 ⟨hw.kin, h⟩)

theorem Ev.callG {x : Str} {np pos : Pos} {f : Addr} {e₀ : Expr} {es : List Expr} {ds : List D} {d : D} (hs : Evs g sc k σ (e₀ :: es) ds) (hc : Fn g k f ds d) (e : nsIn (KK g.w) mainGlobals x = some (some (.ref f)) := by kernel_rfl) (hk : keepIn (KK g.w) (.ref f) = true := by kernel_rfl)
    (hx : sc.names.lookup x = some .globalImplicit := by kernel_rfl)
    (hplain : ∀ env pos, (backTo pos (starEach (e₀ :: es) env)).any (·.1) = false := by walk_at "w2") (hst : ∀ env, starEach (e₀ :: es) env = (false, eval e₀ env) :: starEach es env := by walk_at "w1")
    (hd : (x == ("__debug__" : Str)) = false := by kernel_rfl) : Ev g sc k σ (.Call (.Name x np) (e₀ :: es) [] pos) d := by
  refine ⟨?_⟩
  intro env A X s E hE hR hw F
  refine wpAny_Call_NameR (glob_wp hE hw hx e ?_ hd)
  refine args_wp hE hR hw F (keeps_K hk) hs hplain hst fun vs s' q r => ?_
  refine wpAny_mono (hc.run A X s' E vs hR q.wd (F.kp q).xok r) (fun v s'' h => ⟨q.trans h.1, h.2⟩) fun _ _ e => e

theorem keeps_machine {f : Value} (hf : ∀ a, f ≠ .ref a) (h : Heap) : ∃ k, (k = Keeper.frame ∨ k = Keeper.machine ∨ k = Keeper.boundFrame) ∧ Looks g.M h (keeperOf f) k :=
  ⟨.machine, .inr (.inl rfl), Looks.of_pure (by cases f <;> first | rfl | exact absurd rfl (hf _))⟩
theorem Ev.callB {x : Str} {np pos : Pos} {f : Value} {e₀ : Expr} {es : List Expr} {ds : List D} {d : D} (hs : Evs g sc k σ (e₀ :: es) ds) (hb : bootBuiltins x = some f) (hc : Cl g k f ds d) (e : nsIn (KK g.w) mainGlobals x = some Option.none := by kernel_rfl) (hf : ∀ a, f ≠ .ref a := by walk_at "wn")
    (hx : sc.names.lookup x = some .globalImplicit := by kernel_rfl)
    (hplain : ∀ env pos, (backTo pos (starEach (e₀ :: es) env)).any (·.1) = false := by walk_at "w2") (hst : ∀ env, starEach (e₀ :: es) env = (false, eval e₀ env) :: starEach es env := by walk_at "w1")
    (hd : (x == ("__debug__" : Str)) = false := by kernel_rfl) (hn : x ≠ "__name__" := by decide) : Ev g sc k σ (.Call (.Name x np) (e₀ :: es) [] pos) d := by
  refine ⟨?_⟩
  intro env A X s E hE hR hw F
  refine wpAny_Call_NameR (builtin_wp hE hw hx e hb ?_ hd hn)
  refine args_wp hE hR hw F (fun h _ => keeps_machine hf h) hs hplain hst fun vs s' q r => ?_
  refine wpAny_mono (hc.run A X s' E vs hR q.wd (F.kp q).xok r) (fun v s'' h => ⟨q.trans h.1, h.2⟩) fun _ _ e => e

structure Mth (g : Gw) (k : Nat) (a : D) (name : Str) (f : Value) : Prop where
  run : ∀ (A : Around) (X : Addr → Prop) (s : Shared) (E : Value → Shared → Prop) (u : Value) (pl : Sem Bool) (Q : Value × List Value → Shared → Prop), Room g k A → Wd g s → XOk g X s.heap → Rep g X s.heap u a → (∀ s', Kp g s s' → Q (f, [u]) s') → wpAny g.M A (getMethod u name pl) Q E s

theorem method_wp {env : Env} {A : Around} {s : Shared} {E : Value → Shared → Prop} {o : Expr} {name : Str} {apos pos : Pos} {args : List Expr} {Q : Value → Shared → Prop}
    (hbase : attributeBase o name env (eval o env) = eval o env) (hfew : methodCallForm (args.length + 0) (backTo pos (starEach args env)) (backToKw pos (keywordEach [] env)) = true) (hline : (apos.endLine == pos.line) = true)
    (h : wpAny g.M A (eval o env) (fun ov s₁ => wpAny g.M A (getMethod ov name (do return (← importBound o env).getD true)) (fun p s₂ => wpAny g.M A (callWith pos p.1 p.2 (backTo pos (starEach args env)) []) Q E s₂) E s₁) E s) :
    wpAny g.M A (eval (.Call (.Attribute o name apos) args [] pos) env) Q E s := by
  show wpAny g.M A (do
    let ov ← attributeBase o name env (eval o env)
    standAt apos.atName
    methodCall o name apos pos env ov (args.length + 0) (backTo pos (starEach args env)) (backToKw pos (keywordEach [] env))) Q E s
  rw [hbase]
  refine wpAny_bind (wpAny_mono h (fun ov s₁ h₁ => wpAny_bind (wpAny_standAt ?_)) fun _ _ e => e)
  unfold methodCall
  rw [hfew]
  refine wpAny_bind (wpAny_holding ?_)
  unfold calleeOf
  rw [if_pos rfl]
  refine wpAny_mono h₁ (fun p s₂ h₂ => ?_) fun _ _ e => e
  unfold methodCallPos
  rw [hline]
  exact wpAny_bind (wpAny_pure h₂)

theorem Ev.meth {o : Expr} {name : Str} {apos pos : Pos} {f : Value} {e₀ : Expr} {es : List Expr} {a : D} {ds : List D} {d : D} (ho : Ev g sc k σ o a) (hm : Mth g k a name f) (hs : Evs g sc k σ (e₀ :: es) ds) (hc : Cl g k f (a :: ds) d) (hf : ∀ a, f ≠ .ref a := by walk_at "wn")
    (hbase : ∀ env, attributeBase o name env (eval o env) = eval o env := by walk_at "w1") (hfew : ∀ env, methodCallForm ((e₀ :: es).length + 0) (backTo pos (starEach (e₀ :: es) env)) (backToKw pos (keywordEach [] env)) = true := by walk_at "w1") (hline : (apos.endLine == pos.line) = true := by kernel_rfl)
    (hplain : ∀ env pos, (backTo pos (starEach (e₀ :: es) env)).any (·.1) = false := by walk_at "w2") (hst : ∀ env, starEach (e₀ :: es) env = (false, eval e₀ env) :: starEach es env := by walk_at "w1") :
    Ev g sc k σ (.Call (.Attribute o name apos) (e₀ :: es) [] pos) d := by
  refine ⟨?_⟩
  intro env A X s E hE hR hw F
  refine method_wp (hbase env) (hfew env) hline (wpAny_mono (ho.run env A X s E hE hR hw F) (fun u s₁ h₁ => ?_) fun _ _ e => e)
  have F₁ := F.kp h₁.1
  refine hm.run A X s₁ E u _ _ hR h₁.1.wd F₁.xok h₁.2 fun s₂ q => ?_
  have F₂ := F₁.kp q
  refine args_wp hE hR q.wd F₂ (fun h _ => keeps_machine hf h) hs hplain hst fun vs s' q' r => ?_
  refine wpAny_mono (hc.run A X s' E (u :: vs) hR q'.wd (F₂.kp q').xok (.cons ((h₁.2.ext F.pl q.ext).ext F.pl q'.ext) r)) (fun v s'' h => ⟨((h₁.1.trans q).trans q').trans h.1, h.2⟩) fun _ _ e => e
theorem Ev.meth0 {o : Expr} {name : Str} {apos pos : Pos} {f : Value} {a d : D} (ho : Ev g sc k σ o a) (hm : Mth g k a name f) (hc : Cl g k f [a] d) (hf : ∀ a, f ≠ .ref a := by walk_at "wn")
    (hbase : ∀ env, attributeBase o name env (eval o env) = eval o env := by walk_at "w1") (hline : (apos.endLine == pos.line) = true := by kernel_rfl) :
    Ev g sc k σ (.Call (.Attribute o name apos) [] [] pos) d := by
  refine ⟨?_⟩
  intro env A X s E hE hR hw F
  refine method_wp (hbase env) rfl hline (wpAny_mono (ho.run env A X s E hE hR hw F) (fun u s₁ h₁ => ?_) fun _ _ e => e)
  have F₁ := F.kp h₁.1
  refine hm.run A X s₁ E u _ _ hR h₁.1.wd F₁.xok h₁.2 fun s₂ q => ?_
  refine args_wp0 q.wd (fun h _ => keeps_machine hf h) ?_
  refine wpAny_mono (hc.run A X s₂ E [u] hR q.wd (F₁.kp q).xok (.one (h₁.2.ext F.pl q.ext))) (fun v s'' h => ⟨(h₁.1.trans q).trans h.1, h.2⟩) fun _ _ e => e
end

structure Wk (g : Gw) (vs₀ : List Value) (ds₀ ds : List D) (I : Addr) (wr : List Addr) (SS : Nat → Heap → Prop) (T : Expr → Prop) : Prop where
  hi : ∀ b ∈ wr, g.s₁.heap.get? b = none
  frame : ∀ i h h', SS i h → (∀ b ∈ wr, ∀ o, h.get? b = some o → h'.get? b = some o) → SS i h'
  self : (∀ p, T (.List [] p)) → ∀ (A : Around) i (s : Shared) (E : Value → Shared → Prop) (Q : Value → Shared → Prop), SS i s.heap → Q (.ref I) s → wpAny g.M A (pyIter (.ref I)) Q E s
  item : ∀ (A : Around) (X : Addr → Prop) i d t (s : Shared) (E : Value → Shared → Prop) (Q : Value → Shared → Prop), T t → A.handled = none → Wd g s → XOk g X s.heap → (∀ b ∈ wr, X b) → ds[i]? = some d → SS i s.heap → Reps g X s.heap vs₀ ds₀ →
    (∀ u s', Wd g s' → (∀ b o, b ∉ wr → s.heap.get? b = some o → s'.heap.get? b = some o) → (∀ b ∈ wr, ∃ o, s'.heap.get? b = some o) → SS (i + 1) s'.heap → Rep g X s'.heap u d → Q u s') →
    wpAny g.M A (pyNext (.ref I)) (fun r s₁ => match r with | none => False | some v => wpAny g.M A (letOwnedTupleGo t (.ref I) v) (fun _ s' => Q v s') E s₁) E s
  done : ∀ (A : Around) (X : Addr → Prop) (s : Shared) (E : Value → Shared → Prop) (Q : Shared → Prop), A.handled = none → Wd g s → XOk g X s.heap → (∀ b ∈ wr, X b) → SS ds.length s.heap → Reps g X s.heap vs₀ ds₀ →
    (∀ s', Wd g s' → (∀ b o, b ∉ wr → s.heap.get? b = some o → s'.heap.get? b = some o) → Q s') →
    wpAny g.M A (pyNext (.ref I)) (fun r s₁ => match r with | none => Q s₁ | some _ => False) E s

structure ItE (g : Gw) (sc : Scope) (k : Nat) (σ : Sto) (e : Expr) (ds : List D) (T : Expr → Prop) : Prop where
  run : ∀ (env : Env) (A : Around) (X : Addr → Prop) (s : Shared) (E : Value → Shared → Prop), EnvOk sc env → Room g k A → Wd g s → Fm g env X σ s.heap →
    wpAny g.M A (eval e env) (fun x s₁ => wpAny g.M A (pyIter x) (fun it s₂ => Kp g s s₂ ∧ ∃ I wr SS vs₀ ds₀, it = .ref I ∧ (∀ b ∈ wr, s.heap.get? b = none ∧ ∃ o, s₂.heap.get? b = some o) ∧
      Reps g (fun a => X a ∨ a ∈ wr) s₂.heap vs₀ ds₀ ∧ SS 0 s₂.heap ∧ Wk g vs₀ ds₀ ds I wr SS T) E s₁) E s
structure It (g : Gw) (k : Nat) (d : D) (ds : List D) (T : Expr → Prop) : Prop where
  run : ∀ (A : Around) (X : Addr → Prop) (s : Shared) (E : Value → Shared → Prop) (v : Value), Room g k A → Wd g s → XOk g X s.heap → Rep g X s.heap v d →
    wpAny g.M A (pyIter v) (fun it s₂ => Kp g s s₂ ∧ ∃ I wr SS vs₀ ds₀, it = .ref I ∧ (∀ b ∈ wr, s.heap.get? b = none ∧ ∃ o, s₂.heap.get? b = some o) ∧
      Reps g (fun a => X a ∨ a ∈ wr) s₂.heap vs₀ ds₀ ∧ SS 0 s₂.heap ∧ Wk g vs₀ ds₀ ds I wr SS T) E s

section
variable {g : Gw} {sc : Scope} {k : Nat} {σ σ' : Sto} {env : Env} {s₀ : Shared} {X₀ : Addr → Prop} {pr pw : List (Addr × Obj)} {tv vs₀ : List Value} {td ds₀ ds : List D} {s s' : Shared} {X : Addr → Prop} {wr : List Addr}

theorem ItE.of {e : Expr} {d : D} {T : Expr → Prop} (h : Ev g sc k σ e d) (hi : It g k d ds T) : ItE g sc k σ e ds T := by
  refine ⟨?_⟩
  intro env A X s E hE hR hw F
  refine wpAny_mono (h.run env A X s E hE hR hw F) (fun v s₁ h₁ => ?_) fun _ _ e => e
  refine wpAny_mono (hi.run A X s₁ E v hR h₁.1.wd (F.kp h₁.1).xok h₁.2) (fun it s₂ h₂ => ?_) fun _ _ e => e
  (refine ex_0_2 (h₂) fun q zq14 => ?_; refine ex_5_3 (zq14) fun I wr SS vs₀ ds₀ a b c => ?_)
  refine ⟨h₁.1.trans q, I, wr, SS, vs₀, ds₀, a, fun x hx => ⟨?_, (b x hx).2⟩, c⟩
  cases e : s.heap.get? x with
  | none => rfl
  | some o =>
    have z := (b x hx).1
    rw [h₁.1.ext.none (h₁.1.wd.nPF z) z] at e; cases e

theorem Fm.grow {h h' : Heap} {N : Addr → Prop} (F : Fm g env X σ h) (hN : ∀ a, N a → h.get? a = none) (hx : Xt g h h') (hpf : ∃ o, h'.get? PF = some o) (hN' : ∀ a, N a → ∃ o, h'.get? a = some o) : Fm g env (fun a => X a ∨ N a) σ h' := by
  have F' := F.ext hx hpf
  have up : ∀ {v b}, BRep g env X h v b → BRep g env (fun a => X a ∨ N a) h' v b := by
    intro v b r
    have hX : ∀ a o, h.get? a = some o → ¬ X a → ¬ (X a ∨ N a) := fun a o e na => by
      rintro (x | n)
      · exact na x
      · rw [hN a n] at e; cases e
    have hk : ∀ a o, ¬ X a → h.get? a = some o → h'.get? a = some o := fun a o na e => hx.at_ a o (fun z => na (z ▸ F.pf)) (fun z => na (z ▸ F.lf)) e
    cases b with
    | v d => exact Rep.mono hX hk r
    | m d =>
      (refine ex_1_6 (r) fun a e xa n1 n2 n3 q => ?_)
      exact ⟨a, e, .inl xa, n1, n2, n3, q.mono hX hk fun o e => hx.at_ a o n1.1 n1.2.2 e⟩
  exact { pf := .inl F'.pf, lf := .inl F'.lf, loc := .inl F'.loc, cel := fun n c hc => .inl (F'.cel n c hc), al := fun a => by
            rintro (x | n)
            · exact F'.al a x
            · exact hN' a n
          nPF := F'.nPF, hiL := F'.hiL, cPF := F'.cPF, cinj := F'.cinj, ns := F'.ns, var := fun x b hb => by
            (refine ex_1_2 (F.var x b hb) fun v a r => ?_)
            exact ⟨v, a.ext hx F.nPF fun n c hc => (F.cPF n c hc).1, up r⟩
          sole := F'.sole }

theorem StX.grow (S : StX g env s₀ X₀ pr tv td X σ s) (q : Kp g s s') (hN : ∀ b ∈ wr, s.heap.get? b = none ∧ ∃ o, s'.heap.get? b = some o) (hr : Reps g (fun a => X a ∨ a ∈ wr) s'.heap vs₀ ds₀) :
    ∃ pw, pw.map (·.1) = wr ∧ StX g env s₀ X₀ (pw ++ pr) (vs₀ ++ tv) (ds₀ ++ td) (fun a => X a ∨ a ∈ wr) σ s' := by
  have S' := S.kp q
  have hpw : ∃ pw : List (Addr × Obj), pw.map (·.1) = wr ∧ ∀ p ∈ pw, s'.heap.get? p.1 = some p.2 := by
    clear hr
    induction wr with
    | nil => exact ⟨[], rfl, fun _ h => nomatch h⟩
    | cons b r ih =>
      (refine ex_1_2 (ih fun b hb => hN b (.tail _ hb)) fun pw e1 e2 => ?_)
      obtain ⟨o, ho⟩ := (hN b (.head _)).2
      refine ⟨(b, o) :: pw, by simp [e1], fun p hp => ?_⟩
      rcases List.mem_cons.mp hp with rfl | hp
      · exact ho
      · exact e2 p hp
  (refine ex_1_2 (hpw) fun pw e1 e2 => ?_)
  have mem : ∀ p ∈ pw, p.1 ∈ wr := fun p hp => e1 ▸ List.mem_map.mpr ⟨p, hp, rfl⟩
  have fr₀ : ∀ b ∈ wr, s₀.heap.get? b = none := fun b hb => by
    cases e : s₀.heap.get? b with
    | none => rfl
    | some o => have := (hN b hb).1; rw [S.ext.none (S.wd.nPF this) this] at e; cases e
  have npl : ∀ b ∈ wr, ¬ Place env b := fun b hb p => by
    obtain ⟨o, ho⟩ := S.F.al b (S.F.placeX p)
    rw [(hN b hb).1] at ho; cases ho
  refine ⟨pw, e1, { wd := S'.wd, ext := S'.ext, sub := fun a x => .inl (S'.sub a x), new := fun a => ?_, fl := S'.fl, fc := S'.fc, fm := fun x d a hx ha => ?_, pr := fun p hp => ?_, tm := hr.append ?_, F := S.F.grow (fun a ha => (hN a ha).1) q.ext q.wd.tab.pf fun a ha => (hN a ha).2 }⟩
  · rintro (x | h)
    · exact S'.new a x
    · exact .inr (fr₀ a h)
  · refine ⟨(S'.fm x d a hx ha).1, fun p hp => ?_⟩
    rcases List.mem_append.mp hp with hp | hp
    · rintro rfl
      (refine ex_1_2 (S.F.var x _ hx) fun v av zq15 => ?_; refine ex_1_3 (zq15) fun b zq16 xb _ => ?_; (first | subst zq16 | cases zq16))
      have := (av.ext q.ext S.F.nPF fun n c hc => (S.F.cPF n c hc).1).fn ha
      cases this
      obtain ⟨o, ho⟩ := S.F.al _ xb
      rw [(hN _ (mem p hp)).1] at ho; cases ho
    · exact (S'.fm x d a hx ha).2 p hp
  · rcases List.mem_append.mp hp with hp | hp
    · exact ⟨e2 p hp, .inr (mem p hp), ⟨S.wd.nPF (hN _ (mem p hp)).1, S.F.xok.nlf (hN _ (mem p hp)).1⟩, npl _ (mem p hp)⟩
    · (refine ex_0_4 (S'.pr p hp) fun a b c d => ?_)
      exact ⟨a, .inl b, c, d⟩
  · refine S.tm.mono (fun a o e na => ?_) fun a o na e => q.ext.at_ a o (fun z => na (z ▸ S.F.pf)) (fun z => na (z ▸ S.F.lf)) e
    rintro (x | h)
    · exact na x
    · rw [(hN a h).1] at e; cases e

theorem StX.turn (S : StX g env s₀ X₀ (pw ++ pr) tv td X σ s) (hw : Wd g s') (hk : ∀ b o, b ∉ pw.map (·.1) → s.heap.get? b = some o → s'.heap.get? b = some o) (ha : ∀ b ∈ pw.map (·.1), ∃ o, s'.heap.get? b = some o)
    (hd : ∀ p ∈ pr, p.1 ∉ pw.map (·.1)) (hf : ∀ b ∈ pw.map (·.1), s₀.heap.get? b = none) : ∃ pw', pw'.map (·.1) = pw.map (·.1) ∧ StX g env s₀ X₀ (pw' ++ pr) tv td X σ s' := by
  generalize hwr : pw.map (·.1) = wr at *
  have inP : ∀ b ∈ wr, ∃ o, (b, o) ∈ pw := fun b hb => by
    rw [← hwr] at hb
    (refine ex_1_2 (List.mem_map.mp hb) fun p hp zq17 => ?_; (first | subst zq17 | cases zq17))
    exact ⟨p.2, hp⟩
  have hp : ∀ b ∈ wr, X b ∧ (b ≠ PF ∧ b ≠ g.lf) ∧ ¬ Place env b := fun b hb => by
    obtain ⟨o, ho⟩ := inP b hb
    exact (S.pr _ (List.mem_append_left _ ho)).2
  have hpw : ∃ pw' : List (Addr × Obj), pw'.map (·.1) = wr ∧ ∀ p ∈ pw', s'.heap.get? p.1 = some p.2 := by
    clear hwr inP hp hk hd hf
    induction wr with
    | nil => exact ⟨[], rfl, fun _ h => nomatch h⟩
    | cons b r ih =>
      (refine ex_1_2 (ih fun b hb => ha b (.tail _ hb)) fun pw e1 e2 => ?_)
      obtain ⟨o, ho⟩ := ha b (.head _)
      refine ⟨(b, o) :: pw, by simp [e1], fun p hp => ?_⟩
      rcases List.mem_cons.mp hp with rfl | hp
      · exact ho
      · exact e2 p hp
  (refine ex_1_2 (hpw) fun pw' e1 e2 => ?_)
  have mem : ∀ p ∈ pw', p.1 ∈ wr := fun p hp => e1 ▸ List.mem_map.mpr ⟨p, hp, rfl⟩
  have hkX : ∀ a o, ¬ X a → s.heap.get? a = some o → s'.heap.get? a = some o := fun a o na e => hk a o (fun h => na (hp a h).1) e
  have hat : ∀ {x v}, At env s.heap x v → At env s'.heap x v := by
    rintro x v (⟨kd, m, hn, e⟩ | ⟨kd, c, hc, o, ho, e⟩)
    · exact .inl ⟨kd, m, hn.at' fun o e => hk _ o (fun h => (hp _ h).2.2 (.inl rfl)) e, e⟩
    · exact .inr ⟨kd, c, hc, o, hk _ o (fun h => (hp _ h).2.2 (.inr ⟨x, hc⟩)) ho, e⟩
  have nm : ∀ x d a, σ.lookup x = some (.m d) → At env s.heap x (.ref a) → a ∉ wr := fun x d a hx ha' h => by
    obtain ⟨o, ho⟩ := inP a h
    exact (S.fm x d a hx ha').2 _ (List.mem_append_left _ ho) rfl
  refine ⟨pw', e1, { wd := hw, ext := S.ext.then fun b o he e => hk b o (fun h => ?_) e, sub := S.sub, new := S.new, fl := S.fl, fc := S.fc, fm := fun x d a hx ha' => ?_, pr := fun p hp' => ?_, tm := S.tm.mono (fun _ _ _ x => x) hkX, F := ?_ }⟩
  · obtain ⟨o', he⟩ := he; rw [hf b h] at he; cases he
  · (refine ex_1_2 (S.F.var x _ hx) fun v av _ => ?_)
    have := (hat av).fn ha'
    subst this
    refine ⟨(S.fm x d a hx av).1, fun p hp' => ?_⟩
    rcases List.mem_append.mp hp' with h | h
    · exact fun z => nm x d a hx av (z ▸ mem p h)
    · exact (S.fm x d a hx av).2 p (List.mem_append_right _ h)
  · rcases List.mem_append.mp hp' with h | h
    · exact ⟨e2 p h, (hp _ (mem p h)).1, (hp _ (mem p h)).2⟩
    · (refine ex_0_4 (S.pr p (List.mem_append_right _ h)) fun a b c d => ?_)
      exact ⟨hk _ _ (hd p h) a, b, c, d⟩
  · exact { pf := S.F.pf, lf := S.F.lf, loc := S.F.loc, cel := S.F.cel, al := fun a xa => by
              by_cases h : a ∈ wr
              · exact ha a h
              · obtain ⟨o, ho⟩ := S.F.al a xa; exact ⟨o, hk a o h ho⟩
            nPF := S.F.nPF, hiL := S.F.hiL, cPF := fun n c hc => by
              (refine ex_0_4 (S.F.cPF n c hc) fun a b b' zq18 => ?_; refine ex_2_2 (zq18) fun v o ho e => ?_)
              exact ⟨a, b, b', v, o, hk _ _ (fun h => (hp _ h).2.2 (.inr ⟨n, hc⟩)) ho, e⟩
            cinj := S.F.cinj, ns := by obtain ⟨m, hm⟩ := S.F.ns; exact ⟨m, hm.at' fun o e => hk _ o (fun h => (hp _ h).2.2 (.inl rfl)) e⟩
            var := fun x b hb => by
              (refine ex_1_2 (S.F.var x b hb) fun v a r => ?_)
              refine ⟨v, hat a, ?_⟩
              cases b with
              | v d => exact Rep.mono (fun _ _ _ x => x) hkX r
              | m d =>
                (refine ex_1_6 (r) fun a' e xa n1 n2 n3 q => ?_)
                subst e
                exact ⟨a', rfl, xa, n1, n2, n3, q.mono (fun _ _ _ x => x) hkX fun o e => hk a' o (nm x d a' hb a) e⟩
            sole := fun x y d e a h1 h2 h3 h4 => by
              (refine ex_1_2 (S.F.var x _ h1) fun v a1 _ => ?_)
              (refine ex_1_2 (S.F.var y _ h2) fun v' a2 _ => ?_)
              have q1 := (hat a1).fn h3
              have q2 := (hat a2).fn h4
              subst q1; subst q2
              exact S.F.sole x y d e a h1 h2 a1 a2 }

theorem StX.drop (S : StX g env s₀ X₀ (pw ++ pr) tv td X σ s) (hX₀ : XAl X₀ s₀.heap) (hw : Wd g s') (hk : ∀ b o, b ∉ pw.map (·.1) → s.heap.get? b = some o → s'.heap.get? b = some o)
    (hd : ∀ p ∈ pr, p.1 ∉ pw.map (·.1)) (hf : ∀ b ∈ pw.map (·.1), s₀.heap.get? b = none) : StX g env s₀ X₀ pr tv td (fun a => X a ∧ a ∉ pw.map (·.1)) σ s' := by
  generalize hwr : pw.map (·.1) = wr at *
  have inP : ∀ b ∈ wr, ∃ o, (b, o) ∈ pw := fun b hb => by
    rw [← hwr] at hb
    (refine ex_1_2 (List.mem_map.mp hb) fun p hp zq19 => ?_; (first | subst zq19 | cases zq19))
    exact ⟨p.2, hp⟩
  have hp : ∀ b ∈ wr, X b ∧ (b ≠ PF ∧ b ≠ g.lf) ∧ ¬ Place env b := fun b hb => by
    obtain ⟨o, ho⟩ := inP b hb
    exact (S.pr _ (List.mem_append_left _ ho)).2
  have nw : ∀ a, ¬ (X a ∧ a ∉ wr) → ¬ X a ∨ a ∈ wr := fun a h => by
    by_cases z : a ∈ wr
    · exact .inr z
    · exact .inl fun x => h ⟨x, z⟩
  have hat : ∀ {x v}, At env s.heap x v → At env s'.heap x v := by
    rintro x v (⟨kd, m, hn, e⟩ | ⟨kd, c, hc, o, ho, e⟩)
    · exact .inl ⟨kd, m, hn.at' fun o e => hk _ o (fun h => (hp _ h).2.2 (.inl rfl)) e, e⟩
    · exact .inr ⟨kd, c, hc, o, hk _ o (fun h => (hp _ h).2.2 (.inr ⟨x, hc⟩)) ho, e⟩
  have hX : ∀ a o, s.heap.get? a = some o → ¬ X a → ¬ (X a ∧ a ∉ wr) := fun a o _ na x => na x.1
  have hkX : ∀ a o, ¬ X a → s.heap.get? a = some o → s'.heap.get? a = some o := fun a o na e => hk a o (fun h => na (hp a h).1) e
  have nm : ∀ x d a, σ.lookup x = some (.m d) → At env s.heap x (.ref a) → a ∉ wr := fun x d a hx ha' h => by
    obtain ⟨o, ho⟩ := inP a h
    exact (S.fm x d a hx ha').2 _ (List.mem_append_left _ ho) rfl
  refine { wd := hw, ext := S.ext.then fun b o he e => hk b o (fun h => by obtain ⟨o', he⟩ := he; rw [hf b h] at he; cases he) e, sub := fun a x => ⟨S.sub a x, fun h => ?_⟩, new := fun a x => S.new a x.1, fl := S.fl, fc := S.fc, fm := fun x d a hx ha => ?_, pr := fun p hp' => ?_, tm := S.tm.mono hX hkX, F := ?_ }
  · obtain ⟨o, ho⟩ := hX₀.al a x; rw [hf a h] at ho; cases ho
  · (refine ex_1_2 (S.F.var x _ hx) fun v av _ => ?_)
    have := (hat av).fn ha
    subst this
    exact ⟨(S.fm x d a hx av).1, fun p hp => (S.fm x d a hx av).2 p (List.mem_append_right _ hp)⟩
  · (refine ex_0_4 (S.pr p (List.mem_append_right _ hp')) fun a b c d => ?_)
    exact ⟨hk _ _ (hd p hp') a, ⟨b, hd p hp'⟩, c, d⟩
  · exact { pf := ⟨S.F.pf, fun h => (hp _ h).2.1.1 rfl⟩, lf := ⟨S.F.lf, fun h => (hp _ h).2.1.2 rfl⟩, loc := ⟨S.F.loc, fun h => (hp _ h).2.2 (.inl rfl)⟩, cel := fun n c hc => ⟨S.F.cel n c hc, fun h => (hp _ h).2.2 (.inr ⟨n, hc⟩)⟩, al := fun a xa => by
              obtain ⟨o, ho⟩ := S.F.al a xa.1; exact ⟨o, hk a o xa.2 ho⟩
            nPF := S.F.nPF, hiL := S.F.hiL, cPF := fun n c hc => by
              (refine ex_0_4 (S.F.cPF n c hc) fun a b b' zq20 => ?_; refine ex_2_2 (zq20) fun v o ho e => ?_)
              exact ⟨a, b, b', v, o, hk _ _ (fun h => (hp _ h).2.2 (.inr ⟨n, hc⟩)) ho, e⟩
            cinj := S.F.cinj, ns := by obtain ⟨m, hm⟩ := S.F.ns; exact ⟨m, hm.at' fun o e => hk _ o (fun h => (hp _ h).2.2 (.inl rfl)) e⟩
            var := fun x b hb => by
              (refine ex_1_2 (S.F.var x b hb) fun v a r => ?_)
              refine ⟨v, hat a, ?_⟩
              cases b with
              | v d => exact Rep.mono hX hkX r
              | m d =>
                (refine ex_1_6 (r) fun a' e xa n1 n2 n3 q => ?_)
                subst e
                have hne := nm x d a' hb a
                exact ⟨a', rfl, ⟨xa, hne⟩, n1, n2, n3, q.mono hX hkX fun o e => hk a' o hne e⟩
            sole := fun x y d e a h1 h2 h3 h4 => by
              (refine ex_1_2 (S.F.var x _ h1) fun v a1 _ => ?_)
              (refine ex_1_2 (S.F.var y _ h2) fun v' a2 _ => ?_)
              have q1 := (hat a1).fn h3
              have q2 := (hat a2).fn h4
              subst q1; subst q2
              exact S.F.sole x y d e a h1 h2 a1 a2 }
end

noncomputable def Lp (g : Gw) (sc : Scope) (k : Nat) (bnd : D → Sto → Sto) (body : List Stmt) (Q : Fl → Prop) : List D → Sto → Prop
  | [], σ => Q (.next σ)
  | d :: l, σ => Ex g sc k (bnd d σ) body fun fl => match fl with
    | .next σ' => Lp g sc k bnd body Q l σ'
    | .cont σ' => Lp g sc k bnd body Q l σ'
    | .brk σ' => Q (.next σ')
    | .ret d => Q (.ret d)

section
variable {g : Gw} {sc : Scope} {k : Nat} {σ σ' : Sto}

theorem Lp.sub {bnd : D → Sto → Sto} {body : List Stmt} {Q : Fl → Prop} (hb : ∀ d σ σ', Sub σ σ' → Sub (bnd d σ) (bnd d σ')) (hQ : ∀ σ σ', Sub σ σ' → Q (.next σ) → Q (.next σ')) {l : List D} (h : Lp g sc k bnd body Q l σ) (q : Sub σ σ') : Lp g sc k bnd body Q l σ' := by
  cases l with
  | nil => exact hQ _ _ q h
  | cons d l => exact Ex.sub h (hb d _ _ q)

theorem for_wp {target iter : Expr} {body : List Stmt} {pos : Pos} {Q : Fl → Prop} {ds : List D} {T : Expr → Prop} {env : Env} {A : Around} {s₀ : Shared} {X₀ X : Addr → Prop} {pr : List (Addr × Obj)} {tv : List Value} {td : List D} {s : Shared} {E : Value → Shared → Prop} (bnd : D → Sto → Sto) (ns : List Str)
    (hE : EnvOk sc env) (hR : Room g k A) (hX : XAl X₀ s₀.heap) (S : StX g env s₀ X₀ pr tv td X σ s)
    (hi : wpAny g.M A (eval iter env) (fun x s₁ => wpAny g.M A (pyIter x) (fun it s₂ => Kp g s s₂ ∧ ∃ I wr SS vs₀ ds₀, it = .ref I ∧ (∀ b ∈ wr, s.heap.get? b = none ∧ ∃ o, s₂.heap.get? b = some o) ∧
      Reps g (fun a => X a ∨ a ∈ wr) s₂.heap vs₀ ds₀ ∧ SS 0 s₂.heap ∧ Wk g vs₀ ds₀ ds I wr SS T) E s₁) E s) (hT : T target)
    (hA : ∀ d ∈ ds, ∀ σ', As g sc k target d σ' (bnd d σ') ns) (hm : ∀ d ∈ ds, ∀ σ' x e, (bnd d σ').lookup x = some (.m e) → σ'.lookup x = some (.m e) ∧ x ∉ ns)
    (h : Lp g sc k bnd body Q ds σ) (hs : ∀ x, foldedSetIterable iter env x = pure x) : wpAny g.M A (exec (.For target iter body [] pos) env) (Post g env s₀ X₀ pr tv td Q) E s := by
  refine wpAny_For (wpAny_mono hi (fun x s₁ h₁ => wpAny_mono h₁ (fun it s₂ h₂ => ?_) fun _ _ e => e) fun _ _ e => e) hs
  (refine ex_0_2 (h₂) fun q zq21 => ?_; refine ex_5_5 (zq21) fun I wr SS vs₀ ds₀ zq22 hfr hreps hss W => ?_; (first | subst zq22 | cases zq22))
  (refine ex_1_2 (S.grow q hfr hreps) fun pw e1 S₂ => ?_)
  have hd : ∀ p ∈ pr, p.1 ∉ wr := fun p hp hm => by
    have := (S.pr p hp).1
    rw [(hfr _ hm).1] at this; cases this
  have hf : ∀ b ∈ wr, s₀.heap.get? b = none := fun b hb => by
    cases e : s₀.heap.get? b with
    | none => rfl
    | some o => have z := (hfr b hb).1; rw [S.ext.none (S.wd.nPF z) z] at e; cases e
  refine codeAny_forLoop_any (fun n s' => ∃ i σ' X' pw', n = ds.length - i ∧ i ≤ ds.length ∧ SS i s'.heap ∧ pw'.map (·.1) = wr ∧ StX g env s₀ X₀ (pw' ++ pr) (vs₀ ++ tv) (ds₀ ++ td) X' σ' s' ∧ Lp g sc k bnd body Q (ds.drop i) σ')
    ?_ ds.length ⟨0, σ, _, pw, rfl, Nat.zero_le _, hss, e1, S₂, h⟩
  rintro n s' ⟨i, σ', X', pw', rfl, hle, hss', e1', S', hL⟩
  have hXw : ∀ b ∈ wr, X' b := fun b hb => by
    rw [← e1'] at hb
    (refine ex_1_2 (List.mem_map.mp hb) fun p hp zq23 => ?_; (first | subst zq23 | cases zq23))
    exact (S'.pr p (List.mem_append_left _ hp)).2.1
  have hr₀ : Reps g X' s'.heap vs₀ ds₀ := by
    have := S'.tm
    have l := hreps.length
    have := this.take vs₀.length
    rw [List.take_left' rfl, l, List.take_left' rfl] at this
    exact this
  by_cases hlt : i < ds.length
  · have hdi : ds.drop i = ds[i] :: ds.drop (i + 1) := List.drop_eq_getElem_cons hlt
    rw [hdi] at hL
    refine wpAny_mono (W.item A X' i ds[i] target s' _ (fun v s₃ => wpAny g.M A (PySem.assign target env v) (fun _ s₂ => wpAny g.M A (execs body env) (fun f s₃ => match f with
            | .next | .cont => ∃ m, m < ds.length - i ∧ ∃ i σ' X' pw', m = ds.length - i ∧ i ≤ ds.length ∧ SS i s₃.heap ∧ pw'.map (·.1) = wr ∧ StX g env s₀ X₀ (pw' ++ pr) (vs₀ ++ tv) (ds₀ ++ td) X' σ' s₃ ∧ Lp g sc k bnd body Q (ds.drop i) σ'
            | .brk => Post g env s₀ X₀ pr tv td Q .next s₃
            | .ret v => Post g env s₀ X₀ pr tv td Q (.ret v) s₃) (notedBy g.M A env fun e s' => cameBackBy g.M A env E e s') s₂) (notedBy g.M A env fun e s' => cameBackBy g.M A env E e s') s₃) hT hR.hd S'.wd S'.F.xok hXw (List.getElem?_eq_getElem hlt) hss' hr₀ ?_) (fun r s₁ hr => ?_) fun _ _ e => e
    rotate_left
    · cases r with
      | none => exact hr.elim
      | some v => exact hr
    intro u s₃ w₃ hk hal hss₃ hu
    (refine ex_1_2 (S'.turn w₃ (e1' ▸ hk) (e1' ▸ hal) (e1' ▸ hd) (e1' ▸ hf)) fun pw₃ e3 S₃ => ?_)
    have hmem : ds[i] ∈ ds := List.getElem_mem hlt
    refine wpAny_mono ((hA ds[i] hmem σ').run env A X' s₃ _ u hE hR w₃ S₃.F hu) (fun _ s₄ h₄ => ?_) fun _ _ e => e
    (refine ex_0_4 (h₄) fun w₄ F₄ hk₄ hat₄ => ?_)
    have S₄ : StX g env s₀ X₀ (pw₃ ++ pr) (vs₀ ++ tv) (ds₀ ++ td) X' (bnd ds[i] σ') s₄ := S₃.put w₄ F₄ (fun b o hp e => hk₄ b o (Place.not_of hp).1 (fun n _ => (Place.not_of hp).2 n) e) fun x d hx => ⟨(hm _ hmem _ x d hx).1, fun a ha => by
      (refine ex_1_2 (S₃.F.var x _ (hm _ hmem _ x d hx).1) fun v av _ => ?_)
      have := (hat₄ x v (hm _ hmem _ x d hx).2 av).fn ha
      subst this
      exact av⟩
    have e3' : pw₃.map (·.1) = wr := e3.trans e1'
    have inP : ∀ b ∈ wr, ∃ o, (b, o) ∈ pw₃ := fun b hb => by
      rw [← e3'] at hb
      (refine ex_1_2 (List.mem_map.mp hb) fun p hp zq24 => ?_; (first | subst zq24 | cases zq24))
      exact ⟨p.2, hp⟩
    have keepSS : ∀ {X₅ σ₅ s₅}, StX g env s₀ X₀ (pw₃ ++ pr) (vs₀ ++ tv) (ds₀ ++ td) X₅ σ₅ s₅ → SS (i + 1) s₅.heap := fun S₅ => W.frame _ _ _ hss₃ fun b hb o e => by
      obtain ⟨o', ho'⟩ := inP b hb
      have z := (S₃.pr _ (List.mem_append_left _ ho')).1
      rw [e] at z; cases z
      exact (S₅.pr _ (List.mem_append_left _ ho')).1
    have back : ∀ {σ₅ s₅}, Stt g env s₀ X₀ (pw₃ ++ pr) (vs₀ ++ tv) (ds₀ ++ td) σ₅ s₅ → Stt g env s₀ X₀ pr tv td σ₅ s₅ := by
      rintro σ₅ s₅ ⟨X₅, S₅⟩
      refine ⟨X₅, { S₅ with fm := fun x d a hx ha => ⟨(S₅.fm x d a hx ha).1, fun p hp => (S₅.fm x d a hx ha).2 p (List.mem_append_right _ hp)⟩, pr := fun p hp => S₅.pr p (List.mem_append_right _ hp), tm := ?_ }⟩
      have := S₅.tm.drop vs₀.length
      rw [List.drop_left' rfl, hreps.length, List.drop_left' rfl] at this
      exact this
    refine wpAny_mono (Ex.run hL env A s₀ X₀ (pw₃ ++ pr) (vs₀ ++ tv) (ds₀ ++ td) s₄ _ hE hR hX ⟨X', S₄⟩) (fun f s₅ p => ?_) fun _ _ e => e
    cases f with
    | next =>
      (refine ex_1_2 (p) fun σ₅ q₅ zq25 => ?_; refine ex_1_1 (zq25) fun X₅ S₅ => ?_)
      exact ⟨ds.length - (i + 1), by (exact Nat.sub_lt_sub_left ‹_› (Nat.lt_succ_self _)), i + 1, σ₅, X₅, pw₃, rfl, hlt, keepSS S₅, e3', S₅, q₅⟩
    | cont =>
      (refine ex_1_2 (p) fun σ₅ q₅ zq26 => ?_; refine ex_1_1 (zq26) fun X₅ S₅ => ?_)
      exact ⟨ds.length - (i + 1), by (exact Nat.sub_lt_sub_left ‹_› (Nat.lt_succ_self _)), i + 1, σ₅, X₅, pw₃, rfl, hlt, keepSS S₅, e3', S₅, q₅⟩
    | brk =>
      (refine ex_1_2 (p) fun σ₅ q₅ S₅ => ?_)
      exact ⟨σ₅, q₅, back S₅⟩
    | ret v =>
      (refine ex_1_2 (p) fun d q₅ S₅ => ?_)
      exact ⟨d, q₅, S₅⟩
  · have hin : i = ds.length := by lia
    subst hin
    rw [List.drop_length] at hL
    refine wpAny_mono (W.done A X' s' _ (fun s₁ => wpAny g.M A (execs [] env) (fun f s₃ => Post g env s₀ X₀ pr tv td Q f s₃) (notedBy g.M A env fun e s' => cameBackBy g.M A env E e s') s₁) hR.hd S'.wd S'.F.xok hXw hss' hr₀ fun s₃ w₃ hk => ?_) (fun r s₁ hr => ?_) fun _ _ e => e
    · have S₃ := S'.drop hX w₃ (e1' ▸ hk) (e1' ▸ hd) (e1' ▸ hf)
      refine wpAny_pure ⟨σ', hL, _, { S₃ with tm := ?_ }⟩
      have := S₃.tm.drop vs₀.length
      rw [List.drop_left' rfl, hreps.length, List.drop_left' rfl] at this
      exact this
    · cases r with
      | none => exact hr
      | some v => exact hr.elim
theorem Ex.for_ {target iter : Expr} {body rest : List Stmt} {pos : Pos} {Q : Fl → Prop} {ds : List D} {T : Expr → Prop} (bnd : D → Sto → Sto) (ns : List Str) (hi : ItE g sc k σ iter ds T) (hT : T target)
    (hA : ∀ d ∈ ds, ∀ σ', As g sc k target d σ' (bnd d σ') ns) (hm : ∀ d ∈ ds, ∀ σ' x e, (bnd d σ').lookup x = some (.m e) → σ'.lookup x = some (.m e) ∧ x ∉ ns)
    (h : Lp g sc k bnd body (Kq g sc k rest Q) ds σ) (hs : ∀ env x, foldedSetIterable iter env x = pure x := by walk_at "w2") : Ex g sc k σ (.For target iter body [] pos :: rest) Q :=
  Ex.go ⟨fun env A _ _ _ _ _ s E hE hR hX ⟨X, S⟩ => for_wp bnd ns hE hR hX S (hi.run env A X s E hE hR S.wd S.F) hT hA hm h (hs env)⟩
end

section
variable {prog : Program} {w : World} {A : Around} {R : Result → Shared → Prop} {s : Shared}
theorem compLoop_any {elt target iter : Expr} {ifs : List Expr} {scope : Scope} {pos : Pos} {it acc : Value} {env : Env} (I : Nat → Shared → Prop)
    (turn : ∀ n s, I n s → wpAny (model prog w) A (pyNext it) (fun r s₁ => match r with
      | none => R (.ok .next) s₁
      | some v => wpAny (model prog w) A (letOwnedTupleGo target it v) (fun _ s₁' => wpAny (model prog w) A (assign target env v) (fun _ s₂ =>
          wpAny (model prog w) A (forIn ifs true fun c r => if r = true then do let ok ← isTrue c env (eval c env); pure (ForInStep.yield ok) else pure (ForInStep.yield r)) (fun ok s₃ =>
            if ok = true then wpAny (model prog w) A (eval elt env) (fun x s₄ =>
              wpAny (model prog w) A (call (.builtin "list.append") [acc, x]) (fun _ s₅ => ∃ m, m < n ∧ I m s₅) (notedBy (model prog w) A env fun e s' => R (.error e) s') s₄) (notedBy (model prog w) A env fun e s' => R (.error e) s') s₃
            else ∃ m, m < n ∧ I m s₃) (notedBy (model prog w) A env fun e s' => R (.error e) s') s₂) (notedBy (model prog w) A env fun e s' => R (.error e) s') s₁') (notedBy (model prog w) A env fun e s' => R (.error e) s') s₁) (notedBy (model prog w) A env fun e s' => R (.error e) s') s)
    (n : Nat) (h : I n s) : codeAny (model prog w) A (.compLoop (.ListComp elt [⟨target, iter, ifs, 0⟩] scope pos) 0 it acc env) R s := by
  refine codeAny_loop rfl I (fun n s hI => ?_) n h
  show wpAny _ A ((compTurn (.ListComp elt [⟨target, iter, ifs, 0⟩] scope pos) 0 it acc env).onRaise (fun x => do noteFrame x env; theTreesLotGoes x)) _ _ s
  refine wpAny_noted ?_
  rw [compTurn_list]
  refine wpAny_bind (wpAny_standAt (wpAny_bind (wpAny_mono (turn n s hI) (fun r s₁ h₁ => ?_) fun _ _ h' => h')))
  cases r with
  | none => exact wpAny_pure h₁
  | some v =>
    refine wpAny_bind (wpAny_mono h₁ (fun _ s₁' h₁' => ?_) fun _ _ h' => h')
    refine wpAny_bind (wpAny_mono h₁' (fun _ s₂ h₂ => wpAny_bind (wpAny_mono h₂ (fun ok s₃ h₃ => ?_) fun _ _ h' => h')) fun _ _ h' => h')
    cases ok with
    | false => exact wpAny_pure ⟨rfl, h₃⟩
    | true =>
      exact wpAny_bind (wpAny_bind (wpAny_mono h₃ (fun x s₄ h₄ => wpAny_bind (wpAny_mono h₄ (fun _ s₅ h₅ => wpAny_pure (wpAny_pure ⟨rfl, h₅⟩)) fun _ _ h' => h')) fun _ _ h' => h'))
end

noncomputable def closL (env : Env) : List (Str × NameKind) → List (Str × Addr) → List (Str × Addr)
  | [], acc => acc
  | (n, k) :: r, acc => if k == .free then closL env r ((n, (env.cells.lookup n).getD 0) :: acc) else closL env r acc

theorem closureFor_eq {scope : Scope} {env : Env} (h : ∀ q ∈ scope.names, q.2 = .free → ∃ c, env.cells.lookup q.1 = some c) : closureFor scope env = pure (closL env scope.names []) := by
  unfold closureFor
  have key : ∀ (names : List (Str × NameKind)) (acc : List (Str × Addr)), (∀ q ∈ names, q.2 = .free → ∃ c, env.cells.lookup q.1 = some c) →
      (forIn names acc fun (x : Str × NameKind) (r : List (Str × Addr)) => (match x with
        | (name, kind) => if (kind == NameKind.free) = true then do let a ← cellOf env name; pure (ForInStep.yield ((name, a) :: r)) else pure (ForInStep.yield r) : Sem _)) = pure (closL env names acc) := by
    intro names
    induction names with
    | nil => intro acc _; rfl
    | cons q r ih =>
      obtain ⟨n, kd⟩ := q
      intro acc hq
      rw [List.forIn_cons]
      cases hk : kd == NameKind.free with
      | true =>
        obtain ⟨c, hc⟩ := hq (n, kd) (.head _) (beq_iff_eq.mp hk)
        have e : cellOf env n = pure c := by unfold cellOf; rw [hc]
        simp only [hk, if_true, e]
        exact (ih ((n, c) :: acc) fun q' hq' => hq q' (.tail _ hq')).trans (by simp only [closL, hk, if_true, hc, Option.getD_some])
      | false =>
        simp only [hk, Bool.false_eq_true, if_false]
        exact (ih acc fun q' hq' => hq q' (.tail _ hq')).trans (by simp only [closL, hk, Bool.false_eq_true, if_false])
  have := key scope.names [] h
  show (forIn scope.names [] _ >>= fun r => pure r) = _
  first
  | exact (congrArg (fun t => t >>= fun r => pure r) this)
  | (rw [this]; rfl)

set_option tactic.hygienic true in
theorem closL_sound {env : Env} {x : Str} {c : Addr} : ∀ (names : List (Str × NameKind)) (acc : List (Str × Addr)), (∀ q ∈ names, q.2 = .free → ∃ c, env.cells.lookup q.1 = some c) → (∀ y c, acc.lookup y = some c → env.cells.lookup y = some c) →
    (closL env names acc).lookup x = some c → env.cells.lookup x = some c
  | [], acc, _, ha, h => ha x c h
  | (n, k) :: r, acc, hq, ha, h => by
    unfold closL at h
    split at h
    · rename_i hk
      refine closL_sound r _ (fun q hq' => hq q (.tail _ hq')) (fun y c' hy => ?_) h
      rw [List.lookup_cons] at hy
      cases hb : y == n with
      | true =>
        rw [hb] at hy; cases hy
        obtain ⟨c, hc⟩ := hq (n, k) (.head _) (beq_iff_eq.mp hk)
        rw [eq_of_beq hb, hc]; rfl
      | false => rw [hb] at hy; exact ha y c' hy
    · exact closL_sound r _ (fun q hq' => hq q (.tail _ hq')) ha h
set_option tactic.hygienic true in
theorem closL_has {env : Env} {x : Str} : ∀ (names : List (Str × NameKind)) (acc : List (Str × Addr)), ((∃ c, acc.lookup x = some c) ∨ (x, NameKind.free) ∈ names) → ∃ c, (closL env names acc).lookup x = some c
  | [], acc, h => by
    rcases h with h | h
    · exact h
    · cases h
  | (n, k) :: r, acc, h => by
    unfold closL
    split
    · refine closL_has r _ ?_
      by_cases hx : x = n
      · subst hx; exact .inl ⟨_, by rw [List.lookup_cons, beq_self_eq_true]⟩
      · have hb : (x == n) = false := by simpa using hx
        rcases h with ⟨c, h⟩ | h
        · exact .inl ⟨c, by rw [List.lookup_cons, hb]; exact h⟩
        · rcases List.mem_cons.mp h with h | h
          · cases h; exact absurd rfl hx
          · exact .inr h
    · rename_i hk
      refine closL_has r _ ?_
      rcases h with h | h
      · exact .inl h
      · rcases List.mem_cons.mp h with h | h
        · cases h; exact absurd rfl hk
        · exact .inr h

set_option tactic.hygienic true in
theorem cellsFrom_sound {x : Str} {c : Addr} : ∀ (names : List (Str × NameKind)) (h : Heap) (acc : List (Str × Addr)), (cellsFrom h.objs.size names acc).lookup x = some c →
    acc.lookup x = some c ∨ (h.objs.size ≤ c ∧ (pushCells h names).IsCell c none ∧ (x, NameKind.cell) ∈ names)
  | [], _, _, e => .inl e
  | (n, k) :: r, h, acc, e => by
    unfold cellsFrom at e
    unfold pushCells
    split at e
    · rename_i hk
      rw [if_pos hk]
      have e' : (cellsFrom (h.push { cls := .type "cell", data := .cell none }).objs.size r ((n, h.objs.size) :: acc)).lookup x = some c := by rw [Heap.size_push]; exact e
      rcases cellsFrom_sound r _ _ e' with q | ⟨q1, q2, q3⟩
      · rw [List.lookup_cons] at q
        cases hb : x == n with
        | true =>
          rw [hb] at q; cases q
          refine .inr ⟨Nat.le_refl _, ⟨_, pushCells_keeps r _ _ _ (Heap.get?_push_size _ rfl), rfl⟩, ?_⟩
          rw [eq_of_beq hb, ← beq_iff_eq.mp hk]; exact .head _
        | false => rw [hb] at q; exact .inl q
      · rw [Heap.size_push] at q1
        exact .inr ⟨by (exact Nat.le_of_lt ‹_›), q2, .tail _ q3⟩
    · rename_i hk
      rw [if_neg hk]
      rcases cellsFrom_sound r _ _ e with q | ⟨q1, q2, q3⟩
      · exact .inl q
      · exact .inr ⟨q1, q2, .tail _ q3⟩
theorem cellsFrom_inj : ∀ (names : List (Str × NameKind)) (k : Nat) (acc : List (Str × Addr)), (∀ x c, acc.lookup x = some c → c < k) → (∀ x y c, acc.lookup x = some c → acc.lookup y = some c → x = y) →
    ∀ x y c, (cellsFrom k names acc).lookup x = some c → (cellsFrom k names acc).lookup y = some c → x = y
  | [], _, _, _, hi => hi
  | (n, kd) :: r, k, acc, hl, hi => by
    unfold cellsFrom
    split
    · refine cellsFrom_inj r _ _ (fun x c hx => ?_) fun x y c hx hy => ?_
      · rw [List.lookup_cons] at hx
        cases hb : x == n with
        | true => rw [hb] at hx; cases hx; exact Nat.lt_succ_self _
        | false => rw [hb] at hx; exact Nat.lt_succ_of_lt (hl x c hx)
      · rw [List.lookup_cons] at hx hy
        cases hb : x == n <;> cases hb' : y == n <;> rw [hb] at hx <;> rw [hb'] at hy
        · exact hi x y c hx hy
        · cases hy; exact absurd (hl x _ hx) (Nat.lt_irrefl _)
        · cases hx; exact absurd (hl y _ hy) (Nat.lt_irrefl _)
        · exact (eq_of_beq hb).trans (eq_of_beq hb').symm
    · exact cellsFrom_inj r _ _ hl hi

theorem compEnv_wp {M : Model} {A : Around} {E : Value → Shared → Prop} {s : Shared} {scope : Scope} {gl : Addr} {cl : List (Str × Addr)} {qual : Str} {env : Env} {Q : Env → Shared → Prop}
    (h : Q (newEnv scope s.heap.objs.size gl (cellsFrom (s.heap.objs.size + 1) scope.names cl) qual none .none (some env) builtinsNs) { s with heap := pushCells (s.heap.push { cls := .type "dict", data := .dict #[] }) scope.names }) :
    wpAny M A (newFunctionEnv scope gl cl [] qual none .none (some env)) Q E s := by
  simp only [newFunctionEnv, Option.isSome_some, if_true]
  refine wpAny_bind (wpAny_alloc ?_)
  refine wpAny_bind (wpAny_layCells _ (fun name kind cells => by cases hkc : kind == NameKind.cell <;> simp [hkc]) _ _ _ _ ?_)
  rw [show ({ s with heap := s.heap.push { cls := .type "dict", data := .dict #[] } } : Shared).heap.objs.size = s.heap.objs.size + 1 from Heap.size_push ..]
  exact wpAny_bind (wpAny_pure (wpAny_pure h))

noncomputable def relab (scope sc : Scope) : Scope :=
  { scope with names := scope.names.map fun (n, k) => if (k == .free && sc.kind == .function && sc.names.lookup n == some .cell) then (n, .cell) else (n, k) }
theorem relab_eq {scope sc : Scope} {env : Env} (h : env.scope = sc) : relabel scope env = relab scope sc := by subst h; rfl

noncomputable def Trs (g : Gw) (sc : Scope) (k : Nat) (σ : Sto) : List Expr → Bool → Prop
  | [], b => b = true
  | [c], b => Tr g sc k σ c b
  | _, _ => False

structure ScOk (scope sc : Scope) : Prop where
  kind : scope.kind = .function
  names : ∀ x ∈ scope.names, x.2 = .local → scope.names.lookup x.1 = some .local
  free : ∀ q ∈ scope.names, q.2 = .free → sc.names.lookup q.1 = some .cell
  nd : ∀ x, (x, NameKind.free) ∈ scope.names → (x, NameKind.cell) ∉ scope.names

noncomputable def scOkB (scope sc : Scope) : Bool :=
  (match scope.kind with | .function => true | _ => false) && scope.names.all (fun x => x.2 != .local || scope.names.lookup x.1 == some .local) &&
  scope.names.all (fun q => q.2 != .free || (sc.names.lookup q.1 == some .cell && scope.names.all fun p => !(p.1 == q.1 && p.2 == .cell)))
theorem mem_of_lookup' {α : Type} {x : Str} {a : α} : ∀ {l : List (Str × α)}, l.lookup x = some a → (x, a) ∈ l := fun h => PySem.mem_of_lookup h
theorem ScOk.of {scope sc : Scope} (h : scOkB scope sc = true) : ScOk scope sc := by
  unfold scOkB at h
  simp only [Bool.and_eq_true, List.all_eq_true, Bool.or_eq_true, bne_iff_ne, ne_eq, beq_iff_eq, Bool.not_eq_true', Bool.and_eq_false_iff, beq_eq_false_iff_ne] at h
  obtain ⟨⟨h1, h2⟩, h3⟩ := h
  refine ⟨?_, fun x hx hl => ?_, fun q hq hf => ?_, fun x hx hm => ?_⟩
  · split at h1
    · assumption
    · cases h1
  · rcases h2 x hx with h | h
    · exact absurd hl h
    · exact h
  · rcases h3 q hq with h | h
    · exact absurd hf h
    · exact h.1
  · rcases h3 _ hx with h | h
    · exact absurd rfl h
    · rcases h.2 _ hm with h | h
      · exact h rfl
      · exact h rfl

section
variable {g : Gw} {sc scope : Scope} {k : Nat} {σ σc : Sto} {env : Env} {X : Addr → Prop} {s : Shared}

theorem lookup_relab {names : List (Str × NameKind)} {x : Str} (f : Str → NameKind → NameKind) : (names.map fun (p : Str × NameKind) => (p.1, f p.1 p.2)).lookup x = (names.lookup x).map (f x) := by
  induction names with
  | nil => rfl
  | cons p r ih =>
    obtain ⟨n, kd⟩ := p
    simp only [List.map_cons, List.lookup_cons]
    cases hb : x == n with
    | true => have := eq_of_beq hb; subst this; rfl
    | false => exact ih
theorem relab_lookup (x : Str) : (relab scope sc).names.lookup x = (scope.names.lookup x).map fun kd => if (kd == .free && sc.kind == .function && sc.names.lookup x == some .cell) then .cell else kd := by
  unfold relab
  have := lookup_relab (names := scope.names) (x := x) fun n kd => if (kd == .free && sc.kind == .function && sc.names.lookup n == some .cell) then .cell else kd
  rw [← this]
  congr 1
  apply List.map_congr_left
  rintro ⟨n, kd⟩ _
  dsimp only
  split <;> rfl

set_option tactic.hygienic true in
theorem closL_mem {x : Str} {c : Addr} : ∀ (names : List (Str × NameKind)) (acc : List (Str × Addr)), (closL env names acc).lookup x = some c → acc.lookup x = some c ∨ (x, NameKind.free) ∈ names
  | [], _, h => .inl h
  | (n, kd) :: r, acc, h => by
    unfold closL at h
    split at h
    · rename_i hk
      rcases closL_mem r _ h with h | h
      · rw [List.lookup_cons] at h
        cases hb : x == n with
        | true => exact .inr (by rw [eq_of_beq hb, ← beq_iff_eq.mp hk]; exact .head _)
        | false => rw [hb] at h; exact .inl h
      · exact .inr (.tail _ h)
    · rcases closL_mem r _ h with h | h
      · exact .inl h
      · exact .inr (.tail _ h)

theorem Fm.chg {h h' : Heap} {wr : List Addr} (F : Fm g env X σ h) (hp : ∀ b ∈ wr, X b ∧ ¬ Place env b) (hno : ∀ x d, σ.lookup x ≠ some (.m d)) (hk : ∀ b o, b ∉ wr → h.get? b = some o → h'.get? b = some o) (ha : ∀ b ∈ wr, ∃ o, h'.get? b = some o) : Fm g env X σ h' := by
  have hkX : ∀ a o, ¬ X a → h.get? a = some o → h'.get? a = some o := fun a o na e => hk a o (fun h => na (hp a h).1) e
  exact { pf := F.pf, lf := F.lf, loc := F.loc, cel := F.cel, al := fun a xa => by
            by_cases h : a ∈ wr
            · exact ha a h
            · obtain ⟨o, ho⟩ := F.al a xa; exact ⟨o, hk a o h ho⟩
          nPF := F.nPF, hiL := F.hiL, cPF := fun n c hc => by
            (refine ex_0_4 (F.cPF n c hc) fun a b b' zq27 => ?_; refine ex_2_2 (zq27) fun v o ho e => ?_)
            exact ⟨a, b, b', v, o, hk _ _ (fun h => (hp _ h).2 (.inr ⟨n, hc⟩)) ho, e⟩
          cinj := F.cinj, ns := by obtain ⟨m, hm⟩ := F.ns; exact ⟨m, hm.at' fun o e => hk _ o (fun h => (hp _ h).2 (.inl rfl)) e⟩
          var := fun x b hb => by
            (refine ex_1_2 (F.var x b hb) fun v a r => ?_)
            refine ⟨v, ?_, ?_⟩
            · rcases a with ⟨kd, m, hn, e⟩ | ⟨kd, c, hc, o, ho, e⟩
              · exact .inl ⟨kd, m, hn.at' fun o e => hk _ o (fun h => (hp _ h).2 (.inl rfl)) e, e⟩
              · exact .inr ⟨kd, c, hc, o, hk _ o (fun h => (hp _ h).2 (.inr ⟨x, hc⟩)) ho, e⟩
            · cases b with
              | v d => exact Rep.mono (fun _ _ _ x => x) hkX r
              | m d => exact absurd hb (hno x d)
          sole := fun x y d e a h1 => absurd h1 (hno x d) }

theorem Trs.wp {A : Around} {ifs : List Expr} {b : Bool} {E : Value → Shared → Prop} (h : Trs g sc k σ ifs b) (hE : EnvOk sc env) (hR : Room g k A) (hw : Wd g s) (F : Fm g env X σ s.heap) :
    wpAny g.M A (forIn ifs true fun c r => if r = true then do let ok ← isTrue c env (eval c env); pure (ForInStep.yield ok) else pure (ForInStep.yield r)) (fun r s' => Kp g s s' ∧ r = b) E s := by
  match ifs, h with
  | [], h => cases h; exact wpAny_tests_nil ⟨.refl hw, rfl⟩
  | [c], h => exact wpAny_tests_one (h.run env A X s E hE hR hw F)

set_option tactic.hygienic true in
theorem comp_frame {h : Heap} (hO : ScOk scope sc) (hE : EnvOk sc env) (F : Fm g env X σ h) (hw : ∃ s : Shared, s.heap = h ∧ Wd g s) (hσ : ∀ x b, σc.lookup x = some b → σ.lookup x = some b ∧ (∃ d, b = .v d) ∧ scope.names.lookup x = some .free) :
    let C := h.objs.size
    let h' := pushCells (h.push { cls := .type "dict", data := .dict #[] }) scope.names
    let env' : Env := { newEnv scope C env.globals (cellsFrom (C + 1) scope.names (closL env scope.names [])) env.qual none .none (some env) builtinsNs with scope := relab scope sc }
    EnvOk (relab scope sc) env' ∧ Fm g env' (fun a => X a ∨ Place env' a) σc h' ∧ (∀ b o, h.get? b = some o → h'.get? b = some o) ∧ (∀ n c, (n, NameKind.free) ∉ scope.names → env'.cells.lookup n = some c → h.get? c = none) ∧ (∀ a, Place env' a → (∃ n, env.cells.lookup n = some a) ∨ h.get? a = none) := by
  intro C h' env'
  obtain ⟨sw, rfl, hw⟩ := hw
  have hfree : ∀ q ∈ scope.names, q.2 = .free → ∃ c, env.cells.lookup q.1 = some c := fun q hq hf => hE.cells _ (hO.free q hq hf)
  have hsz : (sw.heap.push { cls := .type "dict", data := .dict #[] }).objs.size = C + 1 := Heap.size_push ..
  have keep : ∀ b o, sw.heap.get? b = some o → h'.get? b = some o := fun b o e => pushCells_keeps _ _ b o (Heap.get?_push_of_some _ e)
  have hclo : ∀ x c, (closL env scope.names []).lookup x = some c → env.cells.lookup x = some c := fun x c h => closL_sound _ _ hfree (by intro y c h; simp at h) h
  have hcells : ∀ x c, env'.cells.lookup x = some c → env.cells.lookup x = some c ∨ (C + 1 ≤ c ∧ h'.IsCell c none ∧ (x, NameKind.cell) ∈ scope.names) := fun x c hx => by
    have hx' : (cellsFrom (sw.heap.push { cls := .type "dict", data := .dict #[] }).objs.size scope.names (closL env scope.names [])).lookup x = some c := by rw [hsz]; exact hx
    rcases cellsFrom_sound _ _ _ hx' with q | q
    · exact .inl (hclo x c q)
    · exact .inr (by rw [hsz] at q; exact q)
  have hnew : ∀ c, C ≤ c → sw.heap.get? c = none := fun c hc => by
    cases e : sw.heap.get? c with
    | none => rfl
    | some o => exact absurd (Heap.lt_size e) (Nat.not_lt.mpr hc)
  have hCh : h'.get? C = some { cls := .type "dict", data := .dict #[] } := pushCells_keeps _ _ _ _ (Heap.get?_push_size _ rfl)
  have hNs : h'.Ns C fun _ => none := by
    have := (Heap.Ns.new sw.heap (.type "dict")).keeps (pushCells_keeps scope.names _)
    exact this
  have place : ∀ a, Place env' a → (∃ n, env.cells.lookup n = some a) ∨ C ≤ a := by
    rintro a (rfl | ⟨n, hn⟩)
    · exact .inr (Nat.le_refl _)
    · rcases hcells n a hn with h | h
      · exact .inl ⟨n, h⟩
      · exact .inr (Nat.le_of_succ_le h.1)
  have up : ∀ a o, sw.heap.get? a = some o → ¬ X a → ¬ (X a ∨ Place env' a) := fun a o e na => by
    rintro (x | p)
    · exact na x
    · rcases place a p with ⟨n, hn⟩ | hle
      · exact na (F.cel n a hn)
      · rw [hnew a hle] at e; cases e
  have eE : EnvOk (relab scope sc) env' := ⟨rfl, hO.kind, hE.gl, hE.bi, fun n hn => by
    rw [relab_lookup] at hn
    cases hl : scope.names.lookup n with
    | none => rw [hl] at hn; cases hn
    | some kd =>
      rw [hl] at hn
      simp only [Option.map_some, Option.some.injEq] at hn
      split at hn
      · rename_i hc
        simp only [Bool.and_eq_true, beq_iff_eq] at hc
        have hm := mem_of_lookup' hl
        rw [hc.1.1] at hm
        obtain ⟨c, hc'⟩ := closL_has (env := env) scope.names [] (.inr hm)
        exact cellsFrom_has _ _ _ (.inl ⟨c, hc'⟩)
      · subst hn
        exact cellsFrom_has _ _ _ (.inr hl)⟩
  refine ⟨eE, ?_, keep, fun n c hm hc => ?_, fun a pa => (place a pa).imp id (hnew a)⟩
  rotate_left
  · have hx' : (cellsFrom (sw.heap.push { cls := .type "dict", data := .dict #[] }).objs.size scope.names (closL env scope.names [])).lookup n = some c := by rw [hsz]; exact hc
    rcases cellsFrom_sound _ _ _ hx' with q | q
    · rcases closL_mem _ _ q with z | z
      · simp at z
      · exact absurd z hm
    · exact hnew c (by rw [hsz] at q; exact Nat.le_of_succ_le q.1)
  · have lt : ∀ n c, env.cells.lookup n = some c → c < C := fun n c hc => by
      (refine ex_0_4 (F.cPF n c hc) fun _ _ _ zq28 => ?_; refine ex_2_2 (zq28) fun v o ho _ => ?_); exact Heap.lt_size ho
    refine { pf := .inl F.pf, lf := .inl F.lf, loc := .inr (.inl rfl), cel := fun n c hc => .inr (.inr ⟨n, hc⟩), al := fun a => ?_, nPF := hw.nPF (hnew C (Nat.le_refl _)), hiL := hw.hi (hnew C (Nat.le_refl _)), cPF := fun n c hc => ?_, cinj := ?_, ns := ⟨_, hNs⟩, var := fun x b hb => ?_, sole := fun x y d e a h1 => ?_ }
    · rintro (x | rfl | ⟨n, hn⟩)
      · obtain ⟨o, ho⟩ := F.al a x; exact ⟨o, keep a o ho⟩
      · exact ⟨_, hCh⟩
      · rcases hcells n a hn with h | ⟨_, ⟨o, ho, _⟩, _⟩
        · (refine ex_0_4 (F.cPF n a h) fun _ _ _ zq29 => ?_; refine ex_2_2 (zq29) fun v o ho _ => ?_); exact ⟨o, keep a o ho⟩
        · exact ⟨o, ho⟩
    · rcases hcells n c hc with h | ⟨h1, h2, _⟩
      · (refine ex_0_4 (F.cPF n c h) fun a1 a2 a3 zq30 => ?_; refine ex_2_2 (zq30) fun v o ho e => ?_)
        exact ⟨a1, Nat.ne_of_lt (lt n c h), a3, v, o, keep _ _ ho, e⟩
      · have hn := hnew c (Nat.le_of_succ_le h1)
        exact ⟨⟨hw.nPF hn, F.xok.nlf hn⟩, Nat.ne_of_gt (Nat.lt_of_succ_le h1), hw.hi hn, _, h2⟩
    · exact cellsFrom_inj _ _ _ (fun x c h => Nat.lt_succ_of_lt (lt x c (hclo x c h))) fun x y c h1 h2 => F.cinj x y c (hclo x c h1) (hclo y c h2)
    · (refine ex_0_3 (hσ x b hb) fun h1 zq31 h3 => ?_; obtain ⟨d, rfl⟩ := zq31)
      (refine ex_1_2 (F.var x _ h1) fun v a r => ?_)
      have hk : sc.names.lookup x = some .cell := hO.free _ (mem_of_lookup' h3) rfl
      refine ⟨v, ?_, Rep.mono up (fun a o _ e => keep a o e) r⟩
      rcases a with ⟨kd, _⟩ | ⟨kd, c, hc, o, ho, e⟩
      · unfold Env.kindOf at kd; rw [hE.scp, hk] at kd; cases kd
      · obtain ⟨c', hc'⟩ := closL_has (env := env) scope.names [] (.inr (mem_of_lookup' h3))
        have z := hclo x c' hc'
        rw [hc] at z; cases z
        obtain ⟨c2, hc2⟩ := cellsFrom_has (n := x) scope.names (C + 1) (closL env scope.names []) (.inl ⟨c, hc'⟩)
        rcases hcells x c2 hc2 with z | ⟨_, _, z⟩
        · rw [hc] at z; cases z
          refine .inr ⟨.inl ?_, c, hc2, o, keep _ _ ho, e⟩
          show (relab scope sc).names.lookup x = some .cell
          rw [relab_lookup, h3, hk]
          have : sc.kind = .function := hE.kind
          simp [this]
        · exact absurd z (hO.nd x (mem_of_lookup' h3))
    · (refine ex_0_3 (hσ x _ h1) fun _ zq32 _ => ?_; obtain ⟨d', h⟩ := zq32); cases h
end
section
variable {g : Gw} {sc scope : Scope} {k : Nat} {σ σc : Sto} {env : Env} {X : Addr → Prop} {s : Shared} {A : Around} {E : Value → Shared → Prop}

structure CompOk (g : Gw) (sc scope : Scope) (k : Nat) (σ σc : Sto) (elt target iter : Expr) (ifs : List Expr) (ds : List D) (T : Expr → Prop) (bnd : D → Sto → Sto) (ns : List Str) (p : D → Bool) (f : D → D) : Prop where
  ok : ScOk scope sc
  cap : ∀ x b, σc.lookup x = some b → σ.lookup x = some b ∧ (∃ d, b = .v d) ∧ scope.names.lookup x = some .free
  it : ItE g sc k σ iter ds T
  tgt : T target
  tl : ∀ p, T (.List [] p)
  as : ∀ d ∈ ds, As g (relab scope sc) k target d σc (bnd d σc) ns
  no : ∀ d x e, (bnd d σc).lookup x ≠ some (.m e)
  sub : ∀ d ∈ ds, Sub σc (bnd d σc)
  ns : ∀ n ∈ ns, (n, NameKind.free) ∉ scope.names
  test : ∀ d ∈ ds, Trs g (relab scope sc) k (bnd d σc) ifs (p d)
  elt : ∀ d ∈ ds, p d = true → Ev g (relab scope sc) k (bnd d σc) elt (f d)
  size : ds.length ≤ sizeLine
  fold : ∀ env x, foldedSetIterable iter env x = pure x

theorem comp_core {elt target iter : Expr} {ifs : List Expr} {pos : Pos} {ds : List D} {T : Expr → Prop} {bnd : D → Sto → Sto} {ns : List Str} {p : D → Bool} {f : D → D}
    (hE : EnvOk sc env) (hR : Room g k A) (hw : Wd g s) (F : Fm g env X σ s.heap) (O : CompOk g sc scope k σ σc elt target iter ifs ds T bnd ns p f)
    {R : Value → Addr → Result → Shared → Prop}
    (hRR : ∀ D C s' m, Wd g s' → Xt g s.heap s'.heap → s.heap.get? C = none → s.heap.get? D = none → C ≠ D → s'.heap.Ns C m → Rep g (fun a => X a ∨ a = C) s'.heap (.ref D) (.lst ((ds.filter p).map f)) → R (.ref D) C (.ok .next) s') :
    wpAny g.M A (eval iter env) (fun x s₁ => wpAny g.M A (pyIter x) (fun it s₂ => wpAny g.M A (newList []) (fun acc s₃ =>
      wpAny g.M A (newFunctionEnv scope env.globals (closL env scope.names []) [] env.qual none .none (some env)) (fun cenv s₄ =>
        codeAny g.M A (.compStart (.ListComp elt [⟨target, iter, ifs, 0⟩] scope pos) 0 it acc { cenv with scope := relabel scope env }) (R acc cenv.locals) s₄) E s₃) E s₂) E s₁) E s := by
  refine wpAny_mono (O.it.run env A X s E hE hR hw F) (fun x s₁ h₁ => wpAny_mono h₁ (fun it s₂ h₂ => ?_) fun _ _ e => e) fun _ _ e => e
  (refine ex_0_2 (h₂) fun q zq33 => ?_; refine ex_5_5 (zq33) fun I wr SS vs₀ ds₀ zq34 hfr hreps hss W => ?_; (first | subst zq34 | cases zq34))
  refine wpAny_newObj_type (compEnv_wp ?_)
  generalize hD : s₂.heap.objs.size = D
  generalize hH : s₂.heap.push { cls := .type "list", dict := none, data := .seq ([] : List Value).toArray } = H
  dsimp only
  have kp₃ : Kp g s₂ { s₂ with heap := H } := hH ▸ Kp.push q.wd
  have fD₂ : s₂.heap.get? D = none := hD ▸ get_size _
  have none_of : ∀ b, s₂.heap.get? b = none → s.heap.get? b = none := fun b h => by
    cases e : s.heap.get? b with
    | none => rfl
    | some o => rw [q.ext.none (q.wd.nPF h) h] at e; cases e
  have fD : s.heap.get? D = none := none_of D fD₂
  have accH : H.get? D = some (listOf ([] : List Value).toArray 0) := by rw [← hH, ← hD]; exact Heap.get?_push_size _ rfl
  have F₃ : Fm g env (fun a => X a ∨ (a ∈ wr ∨ a = D)) σ H := F.grow (N := fun a => a ∈ wr ∨ a = D) (fun a => by
      rintro (h | rfl)
      · exact (hfr a h).1
      · exact fD) (q.ext.trans kp₃.ext) kp₃.wd.tab.pf fun a => by
      rintro (h | rfl)
      · obtain ⟨o, ho⟩ := (hfr a h).2; exact ⟨o, kp₃.ext.at_ a o (hw.nPF (hfr a h).1) (F.xok.nlf (hfr a h).1) ho⟩
      · exact ⟨_, accH⟩
  (refine ex_0_5 (comp_frame (scope := scope) (σc := σc) O.ok hE F₃ ⟨_, rfl, kp₃.wd⟩ O.cap) fun eE F₄ keep₄ hown hplace => ?_)
  rw [relab_eq hE.scp]
  generalize hC : H.objs.size = C at *
  generalize henv : ({ newEnv scope C env.globals (cellsFrom (C + 1) scope.names (closL env scope.names [])) env.qual none .none (some env) builtinsNs with scope := relab scope sc } : Env) = env' at *
  have hloc : (newEnv scope C env.globals (cellsFrom (C + 1) scope.names (closL env scope.names [])) env.qual none .none (some env) builtinsNs).locals = env'.locals := by rw [← henv]
  have hCl : env'.locals = C := by rw [← henv]; rfl
  rw [hloc]
  have fC : H.get? C = none := hC ▸ get_size _
  have fCs : s.heap.get? C = none := by
    cases e : s.heap.get? C with
    | none => rfl
    | some o => rw [(q.ext.trans kp₃.ext).none (kp₃.wd.nPF fC) fC] at e; cases e
  have hCD : C ≠ D := fun e => by rw [e, accH] at fC; cases fC
  have notPl : ∀ b, (b ∈ wr ∨ b = D) → ¬ Place env' b := fun b hb pb => by
    have al : ∃ o, H.get? b = some o := F₃.al b (.inr hb)
    have fb : s.heap.get? b = none := by
      rcases hb with h | rfl
      · exact (hfr b h).1
      · exact fD
    rcases hplace b pb with ⟨n, hn⟩ | h
    · (refine ex_0_4 (F.cPF n b hn) fun _ _ _ zq35 => ?_; refine ex_2_2 (zq35) fun v o ho _ => ?_); rw [fb] at ho; cases ho
    · obtain ⟨o, ho⟩ := al; rw [h] at ho; cases ho
  have notPlS : ∀ b o, s.heap.get? b = some o → ∀ n ∈ ns, env'.cells.lookup n ≠ some b := fun b o e n hn h => by
    have := hown n b (O.ns n hn) h
    by_cases z : b = PF
    · subst z; obtain ⟨o', ho'⟩ := kp₃.wd.tab.pf; rw [this] at ho'; cases ho'
    · rw [(q.ext.trans kp₃.ext).none z this] at e; cases e
  have hDw : D ∉ wr := fun h => by obtain ⟨o, ho⟩ := (hfr D h).2; rw [fD₂] at ho; cases ho
  let X' : Addr → Prop := fun a => (X a ∨ (a ∈ wr ∨ a = D)) ∨ Place env' a
  let J : Nat → Shared → Prop := fun i s' => Wd g s' ∧ Xt g s.heap s'.heap ∧ Fm g env' X' σc s'.heap ∧ SS i s'.heap ∧ (∀ b ∈ wr, ∃ o, s'.heap.get? b = some o) ∧ Reps g X' s'.heap vs₀ ds₀ ∧
      ∃ ys nn, s'.heap.get? D = some (listOf ys.toArray nn) ∧ Reps g X' s'.heap ys (((ds.take i).filter p).map f)
  have noc : ∀ x d, σc.lookup x ≠ some (.m d) := fun x d h => by (refine ex_0_3 (O.cap x _ h) fun _ zq36 _ => ?_; obtain ⟨d', h'⟩ := zq36); cases h'
  have wrX : ∀ b ∈ wr, X' b ∧ ¬ Place env' b := fun b hb => ⟨.inl (.inr (.inl hb)), notPl b (.inl hb)⟩
  have loop : ∀ (i : Nat) (s' : Shared), i ≤ ds.length → J i s' → codeAny g.M A (.compLoop (.ListComp elt [⟨target, iter, ifs, 0⟩] scope pos) 0 (.ref I) (.ref D) env') (R (.ref D) env'.locals) s' := by
    intro i₀ s₀ hi₀ hJ₀
    refine compLoop_any (fun n s' => ∃ i, n = ds.length - i ∧ i ≤ ds.length ∧ J i s') ?_ (ds.length - i₀) ⟨i₀, rfl, hi₀, hJ₀⟩
    rintro n s' ⟨i, rfl, hle, w', ext', F', ss', al', r₀', ys, nn, acc', ry'⟩
    by_cases hlt : i < ds.length
    · have hmem : ds[i] ∈ ds := List.getElem_mem hlt
      refine wpAny_mono (W.item A X' i ds[i] target s' _ (fun v s₅ => wpAny g.M A (PySem.assign target env' v) (fun _ s₂ =>
          wpAny g.M A (forIn ifs true fun c r => if r = true then do let ok ← isTrue c env' (eval c env'); pure (ForInStep.yield ok) else pure (ForInStep.yield r)) (fun ok s₃ =>
            if ok = true then wpAny g.M A (eval elt env') (fun x s₄ =>
              wpAny g.M A (call (.builtin "list.append") [.ref D, x]) (fun _ s₅ => ∃ m, m < ds.length - i ∧ ∃ i, m = ds.length - i ∧ i ≤ ds.length ∧ J i s₅) (notedBy g.M A env' fun e s' => R (.ref D) env'.locals (.error e) s') s₄) (notedBy g.M A env' fun e s' => R (.ref D) env'.locals (.error e) s') s₃
            else ∃ m, m < ds.length - i ∧ ∃ i, m = ds.length - i ∧ i ≤ ds.length ∧ J i s₃) (notedBy g.M A env' fun e s' => R (.ref D) env'.locals (.error e) s') s₂) (notedBy g.M A env' fun e s' => R (.ref D) env'.locals (.error e) s') s₅) O.tgt hR.hd w' F'.xok (fun b hb => (wrX b hb).1) (List.getElem?_eq_getElem hlt) ss' r₀' ?_) (fun r s₁ hr => ?_) fun _ _ e => e
      rotate_left
      · cases r with
        | none => exact hr.elim
        | some v => exact hr
      intro u s₅ w₅ hk₅ al₅ ss₅ ru
      have hkX₅ : ∀ a o, ¬ X' a → s'.heap.get? a = some o → s₅.heap.get? a = some o := fun a o na e => hk₅ a o (fun h => na (wrX a h).1) e
      have F₅ : Fm g env' X' σc s₅.heap := F'.chg wrX noc hk₅ al₅
      have ext₅ : Xt g s.heap s₅.heap := ext'.then fun b o he e' => hk₅ b o (fun h => by obtain ⟨o', e⟩ := he; rw [(hfr b h).1] at e; cases e) e'
      have acc₅ := hk₅ D _ hDw acc'
      refine wpAny_mono ((O.as ds[i] hmem).run env' A X' s₅ _ u eE hR w₅ F₅ ru) (fun _ s₆ h₆ => ?_) fun _ _ e => e
      (refine ex_0_4 (h₆) fun w₆ F₆ hk₆ _ => ?_)
      have keepOld : ∀ b o, (∃ o, H.get? b = some o) → s₅.heap.get? b = some o → s₆.heap.get? b = some o := fun b o ⟨o', e'⟩ e => hk₆ b o (fun z => by rw [z, hCl] at e'; rw [fC] at e'; cases e') (fun n hn z => by rw [hown n b (O.ns n hn) z] at e'; cases e') e
      have hkX₆ : ∀ a o, ¬ X' a → s₅.heap.get? a = some o → s₆.heap.get? a = some o := fun a o na e => hk₆ a o (fun z => na (.inr (.inl z))) (fun n _ z => na (.inr (.inr ⟨n, z⟩))) e
      have alH : ∀ b, (b ∈ wr ∨ b = D) → ∃ o, H.get? b = some o := fun b hb => F₃.al b (.inr hb)
      have ext₆ : Xt g s.heap s₆.heap := ext₅.then fun b o he e' => keepOld b o (by
        obtain ⟨o', e⟩ := he
        by_cases z : b = PF
        · subst z; exact kp₃.wd.tab.pf
        · (refine ex_1_2 ((q.ext.trans kp₃.ext).there z e) fun o2 e2 _ => ?_); exact ⟨o2, e2⟩) e'
      have acc₆ := keepOld D _ (alH D (.inr rfl)) acc₅
      have ss₆ : SS (i + 1) s₆.heap := W.frame _ _ _ ss₅ fun b hb o e => keepOld b o (alH b (.inl hb)) e
      have al₆ : ∀ b ∈ wr, ∃ o, s₆.heap.get? b = some o := fun b hb => by obtain ⟨o, ho⟩ := al₅ b hb; exact ⟨o, keepOld b o (alH b (.inl hb)) ho⟩
      have nPFw : ∀ b ∈ wr, b ≠ PF ∧ b ≠ g.lf := fun b hb => ⟨hw.nPF (hfr b hb).1, F.xok.nlf (hfr b hb).1⟩
      have nPFD : D ≠ PF ∧ D ≠ g.lf := ⟨hw.nPF fD, F.xok.nlf fD⟩
      have R6 : ∀ {vs es}, Reps g X' s'.heap vs es → Reps g X' s₆.heap vs es := fun r => (r.mono (fun _ _ _ x => x) hkX₅).mono (fun _ _ _ x => x) hkX₆
      refine wpAny_mono ((O.test ds[i] hmem).wp eE hR w₆ F₆) (fun ok s₇ h₇ => ?_) fun _ _ e => e
      obtain ⟨q₇, rfl⟩ := h₇
      have step : ∀ {s₈ ys' nn'}, Kp g s₆ s₈ → s₈.heap.get? D = some (listOf ys'.toArray nn') → Reps g X' s₈.heap ys' (((ds.take (i + 1)).filter p).map f) → J (i + 1) s₈ := fun {s₈ ys' nn'} q₈ acc₈ r₈ =>
        ⟨q₈.wd, ext₆.trans q₈.ext, (F₆.kp q₈).sub (O.sub _ hmem), W.frame _ _ _ ss₆ fun b hb o e => q₈.ext.at_ b o (nPFw b hb).1 (nPFw b hb).2 e, fun b hb => by obtain ⟨o, ho⟩ := al₆ b hb; exact ⟨o, q₈.ext.at_ b o (nPFw b hb).1 (nPFw b hb).2 ho⟩, (R6 r₀').ext F₆.pl q₈.ext, ys', nn', acc₈, r₈⟩
      have htk := take_succ_filter p ds i ds[i] (List.getElem?_eq_getElem hlt)
      cases hpd : p ds[i] with
      | false =>
        rw [hpd] at htk
        simp only [Bool.false_eq_true, if_false, List.append_nil] at htk ⊢
        exact ⟨ds.length - (i + 1), by (exact Nat.sub_lt_sub_left ‹_› (Nat.lt_succ_self _)), i + 1, rfl, hlt, step q₇ (q₇.ext.at_ D _ nPFD.1 nPFD.2 acc₆) (by rw [htk]; exact (R6 ry').ext F₆.pl q₇.ext)⟩
      | true =>
        rw [hpd] at htk
        simp only [if_true] at htk ⊢
        refine wpAny_mono ((O.elt ds[i] hmem hpd).run env' A X' s₇ _ eE hR q₇.wd (F₆.kp q₇)) (fun y s₈ h₈ => ?_) fun _ _ e => e
        have q₈ := q₇.trans h₈.1
        have acc₈ := q₈.ext.at_ D _ nPFD.1 nPFD.2 acc₆
        have ry₈ := (R6 ry').ext F₆.pl q₈.ext
        have hys : ys.toArray.size ≤ sizeLine := by
          have e1 := ry'.length
          have e2 : (((ds.take i).filter p).map f).length ≤ (ds.take i).length := by rw [List.length_map]; exact List.length_filter_le _ _
          have e3 : (ds.take i).length ≤ ds.length := by rw [List.length_take]; exact Nat.min_le_right _ _
          have e4 := O.size
          rw [List.size_toArray]; lia
        refine wpAny_list_append_plain (hsz := hys) ⟨nn, acc₈⟩ fun h₉ hl₉ hs₉ => ?_
        obtain ⟨nn', hl₉⟩ := hl₉
        have DX : X' D ∧ ¬ Place env' D := ⟨.inl (.inr (.inr rfl)), notPl D (.inr rfl)⟩
        have hk₉ : ∀ b o, b ∉ [D] → s₈.heap.get? b = some o → h₉.get? b = some o := fun b o hb e => (hs₉.2 b (by simpa using hb)).trans e
        have hkX₉ : ∀ a o, ¬ X' a → s₈.heap.get? a = some o → h₉.get? a = some o := fun a o na e => (hs₉.2 a fun z => na (z ▸ DX.1)).trans e
        have F₈ := (F₆.kp q₈).sub (O.sub _ hmem)
        have F₉ : Fm g env' X' σc h₉ := F₈.chg (wr := [D]) (fun b hb => by rw [List.mem_singleton] at hb; subst hb; exact DX) noc hk₉ fun b hb => by rw [List.mem_singleton] at hb; subst hb; exact ⟨_, hl₉⟩
        refine ⟨ds.length - (i + 1), by (exact Nat.sub_lt_sub_left ‹_› (Nat.lt_succ_self _)), i + 1, rfl, hlt, ?_⟩
        refine ⟨q₈.wd.same (t := s₈.toks) ⟨hw.hi fD, F.xok.nlf fD⟩ hs₉, (ext₆.trans q₈.ext).then fun b o he e' => (hs₉.2 b fun z => by obtain ⟨o', e⟩ := he; rw [z, fD] at e; cases e).trans e', F₉, W.frame _ _ _ ss₆ fun b hb o e => (hs₉.2 b fun z => hDw (z ▸ hb)).trans (q₈.ext.at_ b o (nPFw b hb).1 (nPFw b hb).2 e), fun b hb => ?_, ((R6 r₀').ext F₆.pl q₈.ext).mono (fun _ _ _ x => x) hkX₉, ys ++ [y], nn', ?_, ?_⟩
        · obtain ⟨o, ho⟩ := al₆ b hb
          exact ⟨o, (hs₉.2 b fun z => hDw (z ▸ hb)).trans (q₈.ext.at_ b o (nPFw b hb).1 (nPFw b hb).2 ho)⟩
        · rw [hl₉]; simp
        · rw [htk, List.map_append]
          exact (ry₈.mono (fun _ _ _ x => x) hkX₉).append (.one (h₈.2.mono (fun _ _ _ x => x) hkX₉))
    · have hin : i = ds.length := by lia
      subst hin
      rw [List.take_length] at ry'
      refine wpAny_mono (W.done A X' s' _ (fun s₁ => R (.ref D) env'.locals (.ok .next) s₁) hR.hd w' F'.xok (fun b hb => (wrX b hb).1) ss' r₀' fun s₅ w₅ hk₅ => ?_) (fun r s₁ hr => ?_) fun _ _ e => e
      · have hkX₅ : ∀ a o, ¬ X' a → s'.heap.get? a = some o → s₅.heap.get? a = some o := fun a o na e => hk₅ a o (fun h => na (wrX a h).1) e
        obtain ⟨m, hm'⟩ := F'.ns
        have hm : s₅.heap.Ns env'.locals m := hm'.at' fun o e => hk₅ _ o (fun h => (wrX _ h).2 (.inl rfl)) e
        have lo : env'.locals = C := hCl
        refine hRR D env'.locals s₅ m w₅ (ext'.then fun b o he e' => hk₅ b o (fun h => by obtain ⟨o', e⟩ := he; rw [(hfr b h).1] at e; cases e) e') (lo ▸ fCs) fD (lo ▸ hCD) hm ?_
        refine .lst (fun h => ?_) (hk₅ D _ hDw acc') rfl rfl (ry'.mono (fun a o _ na h => na ?_) hkX₅)
        · rcases h with h | h
          · obtain ⟨o, ho⟩ := F.al D h; rw [fD] at ho; cases ho
          · exact hCD (h.trans lo).symm
        · rcases h with h | h
          · exact .inl (.inl h)
          · exact .inr (.inl h)
      · cases r with
        | none => exact hr
        | some v => exact hr.elim
  have J0 : J 0 { s₂ with heap := pushCells (H.push { cls := .type "dict", data := .dict #[] }) scope.names } := by
    refine ⟨kp₃.wd.keeps (t := s₂.toks) keep₄, (q.ext.trans kp₃.ext).then fun b o _ e => keep₄ b o e, F₄, ?_, fun b hb => ?_, ?_, [], 0, keep₄ D _ accH, by simp; exact .nil⟩
    · exact W.frame _ _ _ hss fun b hb o e => keep₄ b o (kp₃.ext.at_ b o (hw.nPF (hfr b hb).1) (F.xok.nlf (hfr b hb).1) e)
    · obtain ⟨o, ho⟩ := F₃.al b (.inr (.inl hb)); exact ⟨o, keep₄ b o ho⟩
    · refine (hreps.mono (X' := X') (fun a o e na => ?_) fun a o na e => kp₃.ext.at_ a o (fun z => na (.inl (z ▸ F.pf))) (fun z => na (.inl (z ▸ F.lf))) e).mono (fun _ _ _ x => x) fun a o _ e => keep₄ a o e
      rintro ((h | h | h) | h)
      · exact na (.inl h)
      · exact na (.inr h)
      · rw [h, fD₂] at e; cases e
      · rcases hplace a h with ⟨n, hn⟩ | z
        · exact na (.inl (F.cel n a hn))
        · rw [kp₃.ext.at_ a o (fun z => na (.inl (z ▸ F.pf))) (fun z => na (.inl (z ▸ F.lf))) e] at z; cases z
  exact codeAny_compStart_list (loop 0 _ (Nat.zero_le _) J0) (W.self O.tl A 0 _ _ _ J0.2.2.2.1 (loop 0 _ (Nat.zero_le _) J0))
end
section
variable {g : Gw} {sc scope : Scope} {k : Nat} {σ σc : Sto}
theorem Ev.comp {elt target iter : Expr} {ifs : List Expr} {pos : Pos} {ds : List D} {T : Expr → Prop} {bnd : D → Sto → Sto} {ns : List Str} {p : D → Bool} {f : D → D}
    (O : CompOk g sc scope k σ σc elt target iter ifs ds T bnd ns p f) : Ev g sc k σ (.ListComp elt [⟨target, iter, ifs, 0⟩] scope pos) (.lst ((ds.filter p).map f)) := by
  refine ⟨?_⟩
  intro env A X s E hE hR hw F
  have hfree : ∀ q ∈ scope.names, q.2 = .free → ∃ c, env.cells.lookup q.1 = some c := fun q hq hf => hE.cells _ (O.ok.free q hq hf)
  rw [eval_ListComp]
  refine wpAny_comprehension_free (use := Option.none) rfl (O.fold env) (closureFor_eq hfree) O.ok.kind O.ok.names (comp_core (R := fun acc C => compPost g.M A E Option.none (fun v s' => Kp g s s' ∧ Rep g X s'.heap v (.lst ((ds.filter p).map f))) acc C) hE hR hw F O ?_)
  intro D C s' m w' ext' fC fD hCD hns r
  refine ⟨m, hns, fun h' hs' => ⟨⟨ext'.then fun b o he e' => (hs'.2 b fun z => by obtain ⟨o', e⟩ := he; rw [z, fC] at e; cases e).trans e', w'.same (t := s'.toks) ⟨hw.hi fC, F.xok.nlf fC⟩ hs'⟩, r.mono (fun a _ _ na x => na (.inl x)) fun a o na e => (hs'.2 a fun z => na (.inr z)).trans e⟩⟩

theorem StX.shrink {env : Env} {s₀ s s' : Shared} {X₀ X : Addr → Prop} {pr pw : List (Addr × Obj)} {tv : List Value} {td : List D} {C : Addr} (S : StX g env s₀ X₀ (pw ++ pr) tv td (fun a => X a ∨ a ∈ [C]) σ s) (hpw : pw.map (·.1) = [C])
    (hsub : ∀ a, X₀ a → X a) (hpf : X PF ∧ X g.lf) (hloc : X env.locals) (hcel : ∀ n c, env.cells.lookup n = some c → X c) (hpx : ∀ p ∈ pr, X p.1) (hXC : ¬ X C) (f₀ : s₀.heap.get? C = Option.none)
    (hw : Wd g s') (hs : ∀ b o, b ≠ C → s.heap.get? b = some o → s'.heap.get? b = some o) : StX g env s₀ X₀ pr tv td X σ s' := by
  have inP : ∃ o, (C, o) ∈ pw := by
    have : C ∈ pw.map (·.1) := by rw [hpw]; exact .head _
    (refine ex_1_2 (List.mem_map.mp this) fun p hp zq37 => ?_; (first | subst zq37 | cases zq37))
    exact ⟨p.2, hp⟩
  obtain ⟨oC, hoC⟩ := inP
  have nPl : ¬ Place env C := (S.pr _ (List.mem_append_left _ hoC)).2.2.2
  have hat : ∀ {x v}, At env s.heap x v → At env s'.heap x v := by
    rintro x v (⟨kd, m, hn, e⟩ | ⟨kd, c, hc, o, ho, e⟩)
    · exact .inl ⟨kd, m, hn.at' fun o e => hs _ o (Ne.symm (Place.not_of nPl).1) e, e⟩
    · exact .inr ⟨kd, c, hc, o, hs _ o (fun z => (Place.not_of nPl).2 x (z ▸ hc)) ho, e⟩
  have hX : ∀ a o, s.heap.get? a = some o → ¬ (X a ∨ a ∈ [C]) → ¬ X a := fun a o _ na x => na (.inl x)
  have hk : ∀ a o, ¬ (X a ∨ a ∈ [C]) → s.heap.get? a = some o → s'.heap.get? a = some o := fun a o na e => hs a o (fun z => na (.inr (by simp [z]))) e
  have nm : ∀ x d a, σ.lookup x = some (.m d) → At env s.heap x (.ref a) → a ≠ C := fun x d a hx ha z => (S.fm x d a hx ha).2 _ (List.mem_append_left _ hoC) z.symm
  have al : ∀ a, X a → ∃ o, s'.heap.get? a = some o := fun a xa => by
    obtain ⟨o, ho⟩ := S.F.al a (.inl xa)
    exact ⟨o, hs a o (fun z => hXC (z ▸ xa)) ho⟩
  refine { wd := hw, ext := S.ext.then fun b o he e' => hs b o (fun z => by obtain ⟨o', e⟩ := he; rw [z, f₀] at e; cases e) e', sub := hsub, new := fun a x => S.new a (.inl x), fl := S.fl, fc := S.fc, fm := fun x d a hx ha => ?_, pr := fun p hp => ?_, tm := S.tm.mono hX hk, F := ?_ }
  · (refine ex_1_2 (S.F.var x _ hx) fun v av _ => ?_)
    have := (hat av).fn ha
    subst this
    exact ⟨(S.fm x d a hx av).1, fun p hp => (S.fm x d a hx av).2 p (List.mem_append_right _ hp)⟩
  · (refine ex_0_4 (S.pr p (List.mem_append_right _ hp)) fun a _ c d => ?_)
    exact ⟨hs _ _ (fun z => hXC (z ▸ hpx p hp)) a, hpx p hp, c, d⟩
  · exact { pf := hpf.1, lf := hpf.2, loc := hloc, cel := hcel, al := al, nPF := S.F.nPF, hiL := S.F.hiL, cPF := fun n c hc => by
              (refine ex_0_4 (S.F.cPF n c hc) fun a b b' zq38 => ?_; refine ex_2_2 (zq38) fun v o ho e => ?_)
              exact ⟨a, b, b', v, o, hs _ _ (fun z => (Place.not_of nPl).2 n (z ▸ hc)) ho, e⟩
            cinj := S.F.cinj, ns := by obtain ⟨m, hm⟩ := S.F.ns; exact ⟨m, hm.at' fun o e => hs _ o (Ne.symm (Place.not_of nPl).1) e⟩
            var := fun x b hb => by
              (refine ex_1_2 (S.F.var x b hb) fun v a r => ?_)
              refine ⟨v, hat a, ?_⟩
              cases b with
              | v d => exact Rep.mono hX hk r
              | m d =>
                (refine ex_1_6 (r) fun a' e xa n1 n2 n3 q => ?_)
                subst e
                have hne := nm x d a' hb a
                refine ⟨a', rfl, ?_, n1, n2, n3, q.mono hX hk fun o e => hs a' o hne e⟩
                rcases xa with xa | xa
                · exact xa
                · exact absurd (by simpa using xa) hne
            sole := fun x y d e a h1 h2 h3 h4 => by
              (refine ex_1_2 (S.F.var x _ h1) fun v a1 _ => ?_)
              (refine ex_1_2 (S.F.var y _ h2) fun v' a2 _ => ?_)
              have q1 := (hat a1).fn h3
              have q2 := (hat a2).fn h4
              subst q1; subst q2
              exact S.F.sole x y d e a h1 h2 a1 a2 }

noncomputable def swB (sc scope : Scope) (t : Str) (pt vp : Pos) : Bool :=
  (match sc.kind with | .function => true | _ => false) && sc.names.lookup t == some .local && pt.line == vp.line && !(scope.names.any fun (n, k) => n == t && (k == .local || k == .cell))

theorem swaps_eq {env : Env} {elt : Expr} {gens : List Comprehension} {pos pt : Pos} {t : Str} {line : Nat} (hE : EnvOk sc env) (h : swB sc scope t pt pos = true) : swapsWith (.ListComp elt gens scope pos) (some (.Name t pt)) line env = pure true := by
  unfold swapsWith
  have hb : env.blockKind = .function := by unfold Env.blockKind; rw [hE.scp, hE.kind]; rfl
  have hk : env.kindOf t = sc.names.lookup t := by unfold Env.kindOf; rw [hE.scp]
  unfold swB at h
  simp only [Bool.and_eq_true] at h
  show (pure (env.blockKind == .function && env.kindOf t == some .local && pt.line == pos.line && !(scope.names.any fun (n, k) => n == t && (k == .local || k == .cell))) : Sem Bool) = pure true
  rw [hb, hk, h.1.1.2, h.1.2, h.2]; rfl

theorem Ex.assignC {elt target iter : Expr} {ifs : List Expr} {pos spos pt : Pos} {t : Str} {rest : List Stmt} {Q : Fl → Prop} {ds : List D} {T : Expr → Prop} {bnd : D → Sto → Sto} {ns : List Str} {p : D → Bool} {f : D → D}
    (O : CompOk g sc scope k σ σc elt target iter ifs ds T bnd ns p f) (hq : Ex g sc k ((t, .v (.lst ((ds.filter p).map f))) :: σ) rest Q) (hsw : swB sc scope t pt pos = true := by kernel_rfl) :
    Ex g sc k σ (.Assign [.Name t pt] (.ListComp elt [⟨target, iter, ifs, 0⟩] scope pos) spos :: rest) Q := by
  refine Ex.go ?_
  refine ⟨?_⟩
  intro env A s₀ X₀ pr tv td s E hE hR hX S
  obtain ⟨X, S⟩ := S
  have hfree : ∀ q ∈ scope.names, q.2 = .free → ∃ c, env.cells.lookup q.1 = some c := fun q hq hf => hE.cells _ (O.ok.free q hq hf)
  have htl : sc.names.lookup t = some .local := by
    unfold swB at hsw
    simp only [Bool.and_eq_true, beq_iff_eq] at hsw
    exact hsw.1.1.2
  rw [exec_Assign_Name_used _ _ _ _ (swaps_eq hE hsw)]
  refine wpAny_bind (wpAny_standAt (wpAny_bind ?_))
  show wpAny _ A (do let _ ← comprehension (.ListComp elt [⟨target, iter, ifs, 0⟩] scope pos) scope env _ (newList []) false (eval iter env) (some (PySem.assign (.Name t pt) env))) _ _ s
  refine wpAny_bind (wpAny_mono (wpAny_comprehension_free (Q := fun _ s' => Post g env s₀ X₀ pr tv td (Kq g sc k rest Q) .next s') rfl (O.fold env) (closureFor_eq hfree) O.ok.kind O.ok.names (comp_core (R := fun acc C => compPost g.M A E (some (PySem.assign (.Name t pt) env)) (fun _ s' => Post g env s₀ X₀ pr tv td (Kq g sc k rest Q) .next s') acc C) hE hR S.wd S.F O ?_))
    (fun _ s' h => wpAny_pure (wpAny_pure h)) fun _ _ e => e)
  intro D C s' m w' ext' fC fD hCD hns r
  obtain ⟨pw, e1, S'⟩ := S.grow (wr := [C]) (vs₀ := []) (ds₀ := []) ⟨ext', w'⟩ (fun b hb => by
    rw [List.mem_singleton] at hb; subst hb
    (refine ex_3_2 (hns) fun o _ _ ho _ => ?_)
    exact ⟨fC, o, ho⟩) .nil
  have r' : Rep g (fun a => X a ∨ a ∈ [C]) s'.heap (.ref D) (.lst ((ds.filter p).map f)) := r.mono (fun a _ _ na h => na (h.imp id fun h => by simpa using h)) fun _ _ _ e => e
  have nC : ¬ Place env C := fun pl => by obtain ⟨o, ho⟩ := S.F.al C (S.F.placeX pl); rw [fC] at ho; cases ho
  refine wpAny_assign_Name (store_wp w' S'.F (hE.scp ▸ hE.kind) (.inl (by unfold Env.kindOf; rw [hE.scp]; exact htl)) (b := .v _) r' (fun d h => by cases h) fun s'' w'' F'' hk hat _ => ?_)
  (refine ex_3_2 (hns) fun oC esC epC hoC hns' => ?_)
  have hoC'' := hk C oC (Place.not_of nC).1 ((Place.not_of nC).2 t) hoC
  have S'' := S'.put w'' F'' (fun b o hp e => hk b o (Place.not_of hp).1 ((Place.not_of hp).2 t) e) fun x d hx => by
    rcases lookup_cons hx with ⟨_, hb⟩ | ⟨hne, hx⟩
    · cases hb
    · refine ⟨hx, fun a ha => ?_⟩
      (refine ex_1_2 (S'.F.var x _ hx) fun u au _ => ?_)
      have := (hat x u hne au).fn ha
      subst this
      exact au
  refine ⟨m, ⟨oC, esC, epC, hoC'', hns'⟩, fun h' hs' => ⟨_, hq, ?_⟩⟩
  have hpw : pw.map (·.1) = [C] := e1
  have S3 : StX g env s₀ X₀ (pw ++ pr) tv td (fun a => X a ∨ a ∈ [C]) ((t, .v (.lst ((ds.filter p).map f))) :: σ) s'' := by simpa using S''
  have f₀ : s₀.heap.get? C = Option.none := by
    cases e : s₀.heap.get? C with
    | none => rfl
    | some o => rw [S.ext.none (S.wd.nPF fC) fC] at e; cases e
  exact ⟨X, S3.shrink hpw S.sub S.F.pl S.F.loc S.F.cel (fun p hp => (S.pr p hp).2.1) (fun x => by obtain ⟨o, ho⟩ := S.F.al C x; rw [fC] at ho; cases ho) f₀ (w''.same (t := s''.toks) ⟨S.wd.hi fC, S.F.xok.nlf fC⟩ hs') fun b o hb e => (hs'.2 b hb).trans e⟩
end
section
variable {g : Gw} {k : Nat}

noncomputable def TAny : Expr → Prop := fun _ => True

theorem lets_other {A : Around} {E : Value → Shared → Prop} {s : Shared} {t : Expr} {I : Addr} {v : Value} {o : Obj} {cn : String} {Q : Unit → Shared → Prop} (ho : s.heap.get? I = some o) (hc : o.cls = .type cn)
    (hn : ["enumerate", "zip", "dict_itemiterator", "dict_reverseitemiterator", "odict_iterator", "itertools.zip_longest", "itertools.pairwise"].contains cn = false) (h : Q () s) : wpAny g.M A (letOwnedTupleGo t (.ref I) v) Q E s := by
  have key : wpAny g.M A (do
    let (.ref r, .ref a) := (Value.ref I, v) | return
    let o ← load r
    match o.cls, o.data with
    | .type n, .fields vs =>
      if ["enumerate", "zip", "dict_itemiterator", "dict_reverseitemiterator", "odict_iterator", "itertools.zip_longest", "itertools.pairwise"].contains n && vs[0]? == some (rawInt a) then
        rule "for.unpacks-the-owned-tuple"
        updateField r 0 .none
    | _, _ => pure ()) Q E s := by
    cases v with
    | ref a =>
      refine wpAny_bind (wpAny_load ho ?_)
      rw [hc]
      cases o.data with
      | fields vs => dsimp only; rw [hn]; exact wpAny_pure h
      | _ => exact wpAny_pure h
    | _ => exact wpAny_pure h
  cases t with
  | Tuple => exact key
  | List => exact key
  | _ => exact wpAny_pure h

theorem Reps.hd {X : Addr → Prop} {h : Heap} {v : Value} {d : D} (r : Reps g X h [v] [d]) : Rep g X h v d := by cases r with | cons a _ => exact a

theorem new_wr {X : Addr → Prop} {s : Shared} {v : Value} {d : D} {o : Obj} (hX : XOk g X s.heap) (r : Rep g X s.heap v d) : Reps g (fun a => X a ∨ a ∈ [s.heap.objs.size]) (s.heap.push o) [v] [d] :=
  .one (r.mono (fun a o e na => by
    rintro (x | h)
    · exact na x
    · rw [List.mem_singleton] at h; rw [h, get_size] at e; cases e) fun a o _ e => Heap.get?_push_of_some _ e)
theorem wr_new {s : Shared} {o : Obj} (hf : o.isFreed = false) : ∀ b ∈ [s.heap.objs.size], s.heap.get? b = none ∧ ∃ o', (s.heap.push o).get? b = some o' := fun b hb => by
  rw [List.mem_singleton] at hb; subst hb; exact ⟨get_size _, o, Heap.get?_push_size _ hf⟩

theorem Wk.single {I : Addr} {vs₀ : List Value} {ds₀ ds : List D} {SS : Nat → Heap → Prop} {cn : String} (hi : g.s₁.heap.get? I = none ∧ I ≠ g.lf) (frame : ∀ i h h', SS i h → (∀ o, h.get? I = some o → h'.get? I = some o) → SS i h')
    (self : ∀ (A : Around) i (s : Shared) (E : Value → Shared → Prop) (Q : Value → Shared → Prop), SS i s.heap → Q (.ref I) s → wpAny g.M A (pyIter (.ref I)) Q E s)
    (hcls : ∀ i h, SS i h → ∃ o, h.get? I = some o ∧ o.cls = .type cn)
    (hn : ["enumerate", "zip", "dict_itemiterator", "dict_reverseitemiterator", "odict_iterator", "itertools.zip_longest", "itertools.pairwise"].contains cn = false)
    (item : ∀ (A : Around) (X : Addr → Prop) i d (s : Shared) (E : Value → Shared → Prop) (Q : Option Value → Shared → Prop), A.handled = none → X I → ds[i]? = some d → SS i s.heap → Reps g X s.heap vs₀ ds₀ →
      (∀ u h' tk, SS (i + 1) h' → Heap.SameBut I s.heap h' → Rep g X s.heap u d → Q (some u) { s with heap := h', toks := tk }) → wpAny g.M A (pyNext (.ref I)) Q E s)
    (done : ∀ (A : Around) (X : Addr → Prop) (s : Shared) (E : Value → Shared → Prop) (Q : Option Value → Shared → Prop), A.handled = none → X I → SS ds.length s.heap → Reps g X s.heap vs₀ ds₀ →
      (∀ h', Heap.ExtBut I s.heap h' → Q none { s with heap := h' }) → wpAny g.M A (pyNext (.ref I)) Q E s) : Wk g vs₀ ds₀ ds I [I] SS TAny where
  hi := fun b hb => by rw [List.mem_singleton] at hb; subst hb; exact hi.1
  frame := fun i h h' x hk => frame i h h' x (hk I (.head _))
  self := fun _ => self
  item := by
    intro A X i d t s E Q _ hh hw hX hwX hdi hss hr h
    refine item A X i d s E _ hh (hwX I (.head _)) hdi hss hr fun u h' tk ss' hs' ru => ?_
    (refine ex_1_2 (hcls _ _ ss') fun o ho hc => ?_)
    refine lets_other (s := { s with heap := h', toks := tk }) ho hc hn (h u _ (hw.same (t := tk) hi hs') (fun b o hb e => (hs'.2 b (by simpa using hb)).trans e) (fun b hb => by rw [List.mem_singleton] at hb; subst hb; exact ⟨o, ho⟩) ss' (ru.mono (fun _ _ _ x => x) fun a o na e => (hs'.2 a fun z => na (z ▸ hwX _ (.head _))).trans e))
  done := by
    intro A X s E Q hh hw hX hwX hss hr h
    exact done A X s E _ hh (hwX I (.head _)) hss hr fun h' hx' => h _ (hw.extB (t := s.toks) hi hx') fun b o hb e => hx' b o (by simpa using hb) e

theorem It.lst {ds : List D} : It g k (.lst ds) ds TAny := by
  refine ⟨?_⟩
  intro A X s E v hR hw hX r
  have r0 := r
  have inv := Rep.lst_inv r
  try clear r
  (refine ex_4_6 (inv) fun l o vs n eqv nX ho hc hd rs => ?_)
  (first | subst eqv | cases eqv)
  focus
    refine wpAny_pyIter_list ⟨o, ho, hc, n, hd⟩ ⟨.push hw, s.heap.objs.size, [s.heap.objs.size], fun i h => h.IsListIter s.heap.objs.size l i, [.ref l], [.lst ds], rfl, wr_new rfl, new_wr hX r0, ⟨_, Heap.get?_push_size _ rfl, rfl, rfl⟩, ?_⟩
    refine Wk.single (cn := "list_iterator") ⟨hw.hi (get_size _), hX.nlf (get_size _)⟩ (fun i h h' x hk => ?_) (fun A i s E Q x h => wpAny_pyIter_listiter x h) (fun i h ⟨o, ho, hc, _⟩ => ⟨o, ho, hc⟩) (by decide) ?_ ?_
    · (refine ex_1_2 (x) fun o ho r => ?_); exact ⟨o, hk o ho, r⟩
    · intro A' X' i d s' E' Q hh hXI hdi hss hr h
      have inv := Rep.lst_inv hr.hd
      try clear hr.hd
      (refine ex_4_6 (inv) fun _ o' vs' n' eqv nX' ho' hc' hd' rs' => ?_)
      (first | subst eqv | cases eqv)
      focus
        (refine ex_1_2 (rs'.get hdi) fun u hu ru => ?_)
        exact wpAny_pyNext_list_item hss ⟨o', ho', hc', n', hd'⟩ (by simpa using hu) fun h' hit hs' => h u h' s'.toks hit hs' ru
    · intro A' X' s' E' Q hh hXI hss hr h
      have inv := Rep.lst_inv hr.hd
      try clear hr.hd
      (refine ex_4_6 (inv) fun _ o' vs' n' eqv nX' ho' hc' hd' rs' => ?_)
      (first | subst eqv | cases eqv)
      focus
        have hl := rs'.length
        exact wpAny_pyNext_list_end hh hss ⟨o', ho', hc', n', hd'⟩ (by simp [hl]) h

theorem It.tup {ds : List D} : It g k (.tup ds) ds TAny := by
  refine ⟨?_⟩
  intro A X s E v hR hw hX r
  have r0 := r
  have inv := Rep.tup_inv r
  try clear r
  (refine ex_4_6 (inv) fun l o vs n eqv nX ho hc hd rs => ?_)
  (first | subst eqv | cases eqv)
  focus
    refine wpAny_pyIter_tuple ⟨o, ho, hc, n, hd⟩ ⟨.push hw, s.heap.objs.size, [s.heap.objs.size], fun i h => h.IsTupleIter s.heap.objs.size l i, [.ref l], [.tup ds], rfl, wr_new rfl, new_wr hX r0, ⟨_, Heap.get?_push_size _ rfl, rfl, rfl⟩, ?_⟩
    refine Wk.single (cn := "tuple_iterator") ⟨hw.hi (get_size _), hX.nlf (get_size _)⟩ (fun i h h' x hk => ?_) (fun A i s E Q x h => wpAny_pyIter_tupleiter x h) (fun i h ⟨o, ho, hc, _⟩ => ⟨o, ho, hc⟩) (by decide) ?_ ?_
    · (refine ex_1_2 (x) fun o ho r => ?_); exact ⟨o, hk o ho, r⟩
    · intro A' X' i d s' E' Q hh hXI hdi hss hr h
      have inv := Rep.tup_inv hr.hd
      try clear hr.hd
      (refine ex_4_6 (inv) fun _ o' vs' n' eqv nX' ho' hc' hd' rs' => ?_)
      (first | subst eqv | cases eqv)
      focus
        (refine ex_1_2 (rs'.get hdi) fun u hu ru => ?_)
        exact wpAny_pyNext_tuple_item hss ⟨o', ho', hc', n', hd'⟩ (by simpa using hu) fun h' hit hs' => h u h' s'.toks hit hs' ru
    · intro A' X' s' E' Q hh hXI hss hr h
      have inv := Rep.tup_inv hr.hd
      try clear hr.hd
      (refine ex_4_6 (inv) fun _ o' vs' n' eqv nX' ho' hc' hd' rs' => ?_)
      (first | subst eqv | cases eqv)
      focus
        have hl := rs'.length
        exact wpAny_pyNext_tuple_end hh hss ⟨o', ho', hc', n', hd'⟩ (by simp [hl]) h

noncomputable def signsD (x : Str) : List D := x.cps.toList.map fun c => D.str ⟨#[c]⟩
theorem It.str {x : Str} : It g k (.str x) (signsD x) TAny := by
  refine ⟨?_⟩
  intro A X s E v hR hw hX r
  have inv := Rep.str_inv r
  try clear r
  obtain ⟨t, eqv⟩ := inv
  (first | subst eqv | cases eqv)
  focus
    have item : ∀ i d, (signsD x)[i]? = some d → ∃ c, x.cps[i]? = some c ∧ d = D.str ⟨#[c]⟩ := fun i d h => by
      unfold signsD at h
      rw [List.getElem?_map] at h
      cases hc : x.cps.toList[i]? with
      | none => rw [hc] at h; cases h
      | some c => rw [hc] at h; cases h; exact ⟨c, by simpa using hc, rfl⟩
    have len : x.cps[(signsD x).length]? = none := by unfold signsD; simp
    cases ha : x.cps.all (· < 128) with
    | true =>
      refine wpAny_pyIter_ascii ha ⟨.push hw, s.heap.objs.size, [s.heap.objs.size], fun i h => h.IsStrIter s.heap.objs.size "str_ascii_iterator" x t i, [], [], rfl, wr_new rfl, .nil, ⟨_, Heap.get?_push_size _ rfl, rfl, rfl⟩, ?_⟩
      refine Wk.single (cn := "str_ascii_iterator") ⟨hw.hi (get_size _), hX.nlf (get_size _)⟩ (fun i h h' x hk => ?_) (fun A i s E Q x h => wpAny_pyIter_striter_ascii x h) (fun i h ⟨o, ho, hc, _⟩ => ⟨o, ho, hc⟩) (by decide) ?_ ?_
      · (refine ex_1_2 (x) fun o ho r => ?_); exact ⟨o, hk o ho, r⟩
      · intro A' X' i d s' E' Q hh hXI hdi hss hr h
        (refine ex_1_2 (item i d hdi) fun c hc zq39 => ?_; (first | subst zq39 | cases zq39))
        exact wpAny_pyNext_ascii_item hss hc fun h' hit hs' => h _ h' _ hit hs' (.str _ _)
      · intro A' X' s' E' Q hh hXI hss hr h
        exact wpAny_pyNext_ascii_end hh hss len h
    | false =>
      refine wpAny_pyIter_wide ha ⟨.push hw, s.heap.objs.size, [s.heap.objs.size], fun i h => h.IsStrIter s.heap.objs.size "str_iterator" x t i, [], [], rfl, wr_new rfl, .nil, ⟨_, Heap.get?_push_size _ rfl, rfl, rfl⟩, ?_⟩
      refine Wk.single (cn := "str_iterator") ⟨hw.hi (get_size _), hX.nlf (get_size _)⟩ (fun i h h' x hk => ?_) (fun A i s E Q x h => wpAny_pyIter_striter_wide x h) (fun i h ⟨o, ho, hc, _⟩ => ⟨o, ho, hc⟩) (by decide) ?_ ?_
      · (refine ex_1_2 (x) fun o ho r => ?_); exact ⟨o, hk o ho, r⟩
      · intro A' X' i d s' E' Q hh hXI hdi hss hr h
        (refine ex_1_2 (item i d hdi) fun c hc zq40 => ?_; (first | subst zq40 | cases zq40))
        exact wpAny_pyNext_wide_item hss hc fun h' hit hs' => h _ h' _ hit hs' (.str _ _)
      · intro A' X' s' E' Q hh hXI hss hr h
        exact wpAny_pyNext_wide_end hh hss len h

noncomputable def rngD (a c : Int) (n : Nat) : List D := (List.range n).map fun (i : Nat) => D.int (a + (i : Int) * c)
theorem It.rng {a b c : Int} {n : Nat} (hsm : Builtin.Range.small a b c = true) (hn : Builtin.Range.rangeSize a b c = n) : It g k (.rng a b c) (rngD a c n) TAny := by
  refine ⟨?_⟩
  intro A X s E v hR hw hX r
  have inv := Rep.rng_inv r
  try clear r
  (refine ex_4_3 (inv) fun r t u w eqv nX hr => ?_)
  (first | subst eqv | cases eqv)
  focus
    refine wpAny_pyIter_range hr hsm ⟨.push hw, s.heap.objs.size, [s.heap.objs.size], fun i h => IsRangeIter h s.heap.objs.size (a + i * c) (n - i) c, [], [], rfl, wr_new rfl, .nil, ?_, ?_⟩
    · rw [hn]; simpa using Heap.get?_push_size _ rfl
    refine Wk.single (cn := "range_iterator") ⟨hw.hi (get_size _), hX.nlf (get_size _)⟩ (fun i h h' x hk => hk _ x) (fun A i s E Q x h => wpAny_pyIter_rangeiter x h) (fun i h x => ⟨_, x, rfl⟩) (by decide) ?_ ?_
    · intro A' X' i d s' E' Q hh hXI hdi hss hr h
      unfold rngD at hdi
      rw [List.getElem?_map] at hdi
      cases hi : (List.range n)[i]? with
      | none => rw [hi] at hdi; cases hdi
      | some j =>
        rw [hi] at hdi; cases hdi
        have hlt : i < n := by
          by_cases z : i < n
          · exact z
          · rw [List.getElem?_eq_none (by simp; (exact Nat.not_lt.mp ‹_›))] at hi; cases hi
        have : j = i := by rw [List.getElem?_range hlt] at hi; exact (Option.some.inj hi).symm
        subst this
        refine wpAny_pyNext_range_item hss (by lia) fun h' hit hs' => h _ h' _ ?_ hs' (.int _ _)
        have e1 : a + (j : Int) * c + c = a + ((j + 1 : Nat) : Int) * c := by rw [Int.natCast_add, Int.add_mul]; simp [Int.add_assoc]
        have e2 : (n : Int) - j - 1 = n - ((j + 1 : Nat) : Int) := by lia
        rw [e1, e2] at hit; exact hit
    · intro A' X' s' E' Q hh hXI hss hr h
      exact wpAny_pyNext_range_end hh hss (by unfold rngD; simp) h

theorem keys_get {K : Type} {kvs : List (K × Value)} {fs : List (K × D)} (hk : kvs.map (·.1) = fs.map (·.1)) {i : Nat} {f : K × D} (h : fs[i]? = some f) : ∃ v, kvs[i]? = some (f.1, v) := by
  have e : (kvs.map (·.1))[i]? = some f.1 := by rw [hk, List.getElem?_map, h]; rfl
  rw [List.getElem?_map] at e
  cases hq : kvs[i]? with
  | none => rw [hq] at e; cases e
  | some p => rw [hq] at e; obtain ⟨a, b⟩ := p; cases e; exact ⟨b, rfl⟩
theorem keys_len {K : Type} {kvs : List (K × Value)} {fs : List (K × D)} (hk : kvs.map (·.1) = fs.map (·.1)) : kvs.length = fs.length := by
  have := congrArg List.length hk; simpa using this

theorem It.keys {K : Type} [DecidableEq K] {knd : KeyKind pg g.w K} {d : Addr} {o : Obj} {kvs : List (K × Value)} {fs : List (K × D)} {enc : K → D} {A : Around} {X : Addr → Prop} {s : Shared} {E : Value → Shared → Prop} (hw : Wd g s) (hX : XOk g X s.heap)
    (nX : ¬ X d) (nS : d ≠ sysModules) (ho : s.heap.get? d = some o) (hd : o.IsDictOf knd kvs) (hk : kvs.map (·.1) = fs.map (·.1)) (henc : ∀ key v X h, knd.is key v = true → Rep g X h v (enc key)) :
    wpAny g.M A (pyIter (.ref d)) (fun it s₂ => Kp g s s₂ ∧ ∃ I wr SS vs₀ ds₀, it = .ref I ∧ (∀ b ∈ wr, s.heap.get? b = none ∧ ∃ o, s₂.heap.get? b = some o) ∧
      Reps g (fun a => X a ∨ a ∈ wr) s₂.heap vs₀ ds₀ ∧ SS 0 s₂.heap ∧ Wk g vs₀ ds₀ (fs.map fun f => enc f.1) I wr SS TAny) E s := by
  (refine ex_2_3 (hd) fun es ep q1 q2 q3 => ?_)
  have dat : ∀ {h : Heap}, h.get? d = some o → h.DictAt knd d kvs ep := fun e => ⟨o, es, e, q1, q2, q3⟩
  refine wpAny_pyIter_dict (beq_eq_false_iff_ne.mpr nS) (dat ho) ⟨.push hw, s.heap.objs.size, [s.heap.objs.size], fun i h => h.IsKeyIter s.heap.objs.size d i kvs.length ep, [.ref d], [.obj o], rfl, wr_new rfl, new_wr hX (.obj nX ho), ⟨_, Heap.get?_push_size _ rfl, rfl, rfl⟩, ?_⟩
  refine Wk.single (cn := "dict_keyiterator") ⟨hw.hi (get_size _), hX.nlf (get_size _)⟩ (fun i h h' x hk => ?_) (fun A i s E Q x h => wpAny_pyIter_keyiter x h) (fun i h ⟨o, ho, hc, _⟩ => ⟨o, ho, hc⟩) (by decide) ?_ ?_
  · (refine ex_1_2 (x) fun o ho r => ?_); exact ⟨o, hk o ho, r⟩
  · intro A' X' i e s' E' Q hh hXI hdi hss hr h
    have inv := Rep.obj_inv hr.hd
    try clear hr.hd
    (refine ex_1_3 (inv) fun _ eqv nX' ho' => ?_)
    (first | subst eqv | cases eqv)
    focus
      rw [List.getElem?_map] at hdi
      cases hf : fs[i]? with
      | none => rw [hf] at hdi; cases hdi
      | some f =>
        rw [hf] at hdi; cases hdi
        obtain ⟨v, hv⟩ := keys_get hk hf
        exact wpAny_pyNext_dict_item hss (dat ho') hv fun key h' hkey hit hs' => h key h' s'.toks hit hs' (henc _ _ _ _ hkey)
  · intro A' X' s' E' Q hh hXI hss hr h
    have inv := Rep.obj_inv hr.hd
    try clear hr.hd
    (refine ex_1_3 (inv) fun _ eqv nX' ho' => ?_)
    (first | subst eqv | cases eqv)
    focus
      rw [List.length_map, ← keys_len hk] at hss
      exact wpAny_pyNext_dict_end hh hss (dat ho') (by simp) h

theorem It.sd {fs : List (Str × D)} : It g k (.sd fs) (fs.map fun f => .str f.1) TAny := by
  refine ⟨?_⟩
  intro A X s E v hR hw hX r
  have inv := Rep.sd_inv r
  try clear r
  (refine ex_3_7 (inv) fun d o kvs eqv nX nS ho hd hk rs => ?_)
  (first | subst eqv | cases eqv)
  exact It.keys (enc := D.str) hw hX nX nS ho hd hk fun key v X h hv => by obtain ⟨t, rfl⟩ := Value.isStrOf_shape hv; exact .str _ _
theorem It.idd {fs : List (Int × D)} : It g k (.idd fs) (fs.map fun f => .int f.1) TAny := by
  refine ⟨?_⟩
  intro A X s E v hR hw hX r
  have inv := Rep.idd_inv r
  try clear r
  (refine ex_3_7 (inv) fun d o kvs eqv nX nS ho hd hk rs => ?_)
  (first | subst eqv | cases eqv)
  exact It.keys (enc := D.int) hw hX nX nS ho hd hk fun key v X h hv => by obtain ⟨t, rfl⟩ := Value.isInt_shape hv; exact .int _ _
end
section
variable {g : Gw} {k : Nat} {sc : Scope} {σ : Sto}

theorem Bin.addI {a b : Int} : Bin g k .Add (.int a) (.int b) (.int (a + b)) := by
  refine ⟨?_⟩
  intro A X s E u v hR hw hX ru rv
  (first | obtain ⟨_, rfl⟩ := Rep.int_inv ru | obtain ⟨_, rfl⟩ := Rep.str_inv ru | obtain rfl := Rep.bool_inv ru | obtain rfl := Reps.nil_inv ru | obtain rfl := Rep.none_inv ru); (first | obtain ⟨_, rfl⟩ := Rep.int_inv rv | obtain ⟨_, rfl⟩ := Rep.str_inv rv | obtain rfl := Rep.bool_inv rv | obtain rfl := Reps.nil_inv rv | obtain rfl := Rep.none_inv rv)
  exact PyProof.Rows.add_int ⟨.toks hw, .int _ _⟩
theorem Bin.subI {a b : Int} : Bin g k .Sub (.int a) (.int b) (.int (a - b)) := by
  refine ⟨?_⟩
  intro A X s E u v hR hw hX ru rv
  (first | obtain ⟨_, rfl⟩ := Rep.int_inv ru | obtain ⟨_, rfl⟩ := Rep.str_inv ru | obtain rfl := Rep.bool_inv ru | obtain rfl := Reps.nil_inv ru | obtain rfl := Rep.none_inv ru); (first | obtain ⟨_, rfl⟩ := Rep.int_inv rv | obtain ⟨_, rfl⟩ := Rep.str_inv rv | obtain rfl := Rep.bool_inv rv | obtain rfl := Reps.nil_inv rv | obtain rfl := Rep.none_inv rv)
  exact PyProof.Rows.sub_int ⟨.toks hw, .int _ _⟩
theorem Bin.mulI {a b : Int} (hm : IntMulOk a b) : Bin g k .Mult (.int a) (.int b) (.int (a * b)) := by
  refine ⟨?_⟩
  intro A X s E u v hR hw hX ru rv
  (first | obtain ⟨_, rfl⟩ := Rep.int_inv ru | obtain ⟨_, rfl⟩ := Rep.str_inv ru | obtain rfl := Rep.bool_inv ru | obtain rfl := Reps.nil_inv ru | obtain rfl := Rep.none_inv ru); (first | obtain ⟨_, rfl⟩ := Rep.int_inv rv | obtain ⟨_, rfl⟩ := Rep.str_inv rv | obtain rfl := Rep.bool_inv rv | obtain rfl := Reps.nil_inv rv | obtain rfl := Rep.none_inv rv)
  exact PyProof.Rows.mul_int ⟨.toks hw, .int _ _⟩ hm
theorem Bin.divI {a b : Int} (hb : b ≠ 0) (hp : b.natAbs < 1073741824) : Bin g k .FloorDiv (.int a) (.int b) (.int (a.fdiv b)) := by
  refine ⟨?_⟩
  intro A X s E u v hR hw hX ru rv
  (first | obtain ⟨_, rfl⟩ := Rep.int_inv ru | obtain ⟨_, rfl⟩ := Rep.str_inv ru | obtain rfl := Rep.bool_inv ru | obtain rfl := Reps.nil_inv ru | obtain rfl := Rep.none_inv ru); (first | obtain ⟨_, rfl⟩ := Rep.int_inv rv | obtain ⟨_, rfl⟩ := Rep.str_inv rv | obtain rfl := Rep.bool_inv rv | obtain rfl := Reps.nil_inv rv | obtain rfl := Rep.none_inv rv)
  exact PyProof.Rows.floordiv_int hb ⟨.toks hw, .int _ _⟩ (.inl (PyProof.noPylong_small hp))
theorem Bin.modI {a b : Int} (hb : b ≠ 0) : Bin g k .Mod (.int a) (.int b) (.int (a.fmod b)) := by
  refine ⟨?_⟩
  intro A X s E u v hR hw hX ru rv
  (first | obtain ⟨_, rfl⟩ := Rep.int_inv ru | obtain ⟨_, rfl⟩ := Rep.str_inv ru | obtain rfl := Rep.bool_inv ru | obtain rfl := Reps.nil_inv ru | obtain rfl := Rep.none_inv ru); (first | obtain ⟨_, rfl⟩ := Rep.int_inv rv | obtain ⟨_, rfl⟩ := Rep.str_inv rv | obtain rfl := Rep.bool_inv rv | obtain rfl := Reps.nil_inv rv | obtain rfl := Rep.none_inv rv)
  exact PyProof.Rows.mod_int' hb ⟨.toks hw, .int _ _⟩
theorem Bin.addS {x y : Str} (hz : x.length + y.length ≤ sizeLine) : Bin g k .Add (.str x) (.str y) (.str (x ++ y)) := by
  refine ⟨?_⟩
  intro A X s E u v hR hw hX ru rv
  (first | obtain ⟨_, rfl⟩ := Rep.int_inv ru | obtain ⟨_, rfl⟩ := Rep.str_inv ru | obtain rfl := Rep.bool_inv ru | obtain rfl := Reps.nil_inv ru | obtain rfl := Rep.none_inv ru); (first | obtain ⟨_, rfl⟩ := Rep.int_inv rv | obtain ⟨_, rfl⟩ := Rep.str_inv rv | obtain rfl := Rep.bool_inv rv | obtain rfl := Reps.nil_inv rv | obtain rfl := Rep.none_inv rv)
  exact PyProof.Rows.add_str (fun t' tk => ⟨.toks hw, .str _ _⟩) hz
theorem Bin.addL {xs ys : List D} (hz : xs.length + ys.length ≤ sizeLine) : Bin g k .Add (.lst xs) (.lst ys) (.lst (xs ++ ys)) := by
  refine ⟨?_⟩
  intro A X s E u v hR hw hX ru rv
  have inv := Rep.lst_inv ru
  try clear ru
  (refine ex_4_6 (inv) fun l o vs n eqv nX ho hc hd rs => ?_)
  (first | subst eqv | cases eqv)
  focus
    have inv := Rep.lst_inv rv
    try clear rv
    (refine ex_4_6 (inv) fun l' o' ws n' eqv nX' ho' hc' hd' rs' => ?_)
    (first | subst eqv | cases eqv)
    focus
      obtain ⟨cls, dd, data, sl⟩ := o
      obtain ⟨cls2, dd2, data2, sl2⟩ := o'
      simp only at hc hd hc' hd'
      subst hc hd hc' hd'
      have e : vs.toArray ++ ws.toArray = (vs ++ ws).toArray := by simp
      refine concat_meets ⟨_, ho, rfl⟩ ⟨_, ho', rfl⟩ noFill_list_add seq_list_add PySem.F.slot_list_add PySem.F.entry_list_add (PySem.F.args_list_add_2 _ _) (list_addW l l' vs.toArray ws.toArray n n' dd dd2 sl sl2 (by rw [List.size_toArray, List.size_toArray, rs.length, rs'.length]; exact hz)) ⟨ho, ho', ?_⟩
      rw [e]
      exact ⟨.push hw, .newLst hX (rs.append rs')⟩

theorem Cmp.eqI {a b : Int} : Cmp g k .Eq (.int a) (.int b) (a == b) := by
  refine ⟨?_⟩
  intro A X s E u v hR hw hX ru rv; (first | obtain ⟨_, rfl⟩ := Rep.int_inv ru | obtain ⟨_, rfl⟩ := Rep.str_inv ru | obtain rfl := Rep.bool_inv ru | obtain rfl := Reps.nil_inv ru | obtain rfl := Rep.none_inv ru); (first | obtain ⟨_, rfl⟩ := Rep.int_inv rv | obtain ⟨_, rfl⟩ := Rep.str_inv rv | obtain rfl := Rep.bool_inv rv | obtain rfl := Reps.nil_inv rv | obtain rfl := Rep.none_inv rv)
  exact PyProof.Rows.eq_int ⟨.refl hw, rfl⟩
theorem Cmp.neI {a b : Int} : Cmp g k .NotEq (.int a) (.int b) (a != b) := by
  refine ⟨?_⟩
  intro A X s E u v hR hw hX ru rv; (first | obtain ⟨_, rfl⟩ := Rep.int_inv ru | obtain ⟨_, rfl⟩ := Rep.str_inv ru | obtain rfl := Rep.bool_inv ru | obtain rfl := Reps.nil_inv ru | obtain rfl := Rep.none_inv ru); (first | obtain ⟨_, rfl⟩ := Rep.int_inv rv | obtain ⟨_, rfl⟩ := Rep.str_inv rv | obtain rfl := Rep.bool_inv rv | obtain rfl := Reps.nil_inv rv | obtain rfl := Rep.none_inv rv)
  exact PyProof.Rows.ne_int ⟨.refl hw, rfl⟩
theorem Cmp.ltI {a b : Int} : Cmp g k .Lt (.int a) (.int b) (decide (a < b)) := by
  refine ⟨?_⟩
  intro A X s E u v hR hw hX ru rv; (first | obtain ⟨_, rfl⟩ := Rep.int_inv ru | obtain ⟨_, rfl⟩ := Rep.str_inv ru | obtain rfl := Rep.bool_inv ru | obtain rfl := Reps.nil_inv ru | obtain rfl := Rep.none_inv ru); (first | obtain ⟨_, rfl⟩ := Rep.int_inv rv | obtain ⟨_, rfl⟩ := Rep.str_inv rv | obtain rfl := Rep.bool_inv rv | obtain rfl := Reps.nil_inv rv | obtain rfl := Rep.none_inv rv)
  exact PyProof.Rows.lt_int ⟨.refl hw, rfl⟩
theorem Cmp.leI {a b : Int} : Cmp g k .LtE (.int a) (.int b) (decide (a ≤ b)) := by
  refine ⟨?_⟩
  intro A X s E u v hR hw hX ru rv; (first | obtain ⟨_, rfl⟩ := Rep.int_inv ru | obtain ⟨_, rfl⟩ := Rep.str_inv ru | obtain rfl := Rep.bool_inv ru | obtain rfl := Reps.nil_inv ru | obtain rfl := Rep.none_inv ru); (first | obtain ⟨_, rfl⟩ := Rep.int_inv rv | obtain ⟨_, rfl⟩ := Rep.str_inv rv | obtain rfl := Rep.bool_inv rv | obtain rfl := Reps.nil_inv rv | obtain rfl := Rep.none_inv rv)
  exact PyProof.Rows.le_int ⟨.refl hw, rfl⟩
theorem Cmp.gtI {a b : Int} : Cmp g k .Gt (.int a) (.int b) (decide (b < a)) := by
  refine ⟨?_⟩
  intro A X s E u v hR hw hX ru rv; (first | obtain ⟨_, rfl⟩ := Rep.int_inv ru | obtain ⟨_, rfl⟩ := Rep.str_inv ru | obtain rfl := Rep.bool_inv ru | obtain rfl := Reps.nil_inv ru | obtain rfl := Rep.none_inv ru); (first | obtain ⟨_, rfl⟩ := Rep.int_inv rv | obtain ⟨_, rfl⟩ := Rep.str_inv rv | obtain rfl := Rep.bool_inv rv | obtain rfl := Reps.nil_inv rv | obtain rfl := Rep.none_inv rv)
  exact PyProof.Rows.gt_int ⟨.refl hw, rfl⟩
theorem Cmp.geI {a b : Int} : Cmp g k .GtE (.int a) (.int b) (decide (b ≤ a)) := by
  refine ⟨?_⟩
  intro A X s E u v hR hw hX ru rv; (first | obtain ⟨_, rfl⟩ := Rep.int_inv ru | obtain ⟨_, rfl⟩ := Rep.str_inv ru | obtain rfl := Rep.bool_inv ru | obtain rfl := Reps.nil_inv ru | obtain rfl := Rep.none_inv ru); (first | obtain ⟨_, rfl⟩ := Rep.int_inv rv | obtain ⟨_, rfl⟩ := Rep.str_inv rv | obtain rfl := Rep.bool_inv rv | obtain rfl := Reps.nil_inv rv | obtain rfl := Rep.none_inv rv)
  exact PyProof.Rows.ge_int ⟨.refl hw, rfl⟩
theorem Cmp.eqS {x y : Str} : Cmp g k .Eq (.str x) (.str y) (x == y) := by
  refine ⟨?_⟩
  intro A X s E u v hR hw hX ru rv; (first | obtain ⟨_, rfl⟩ := Rep.int_inv ru | obtain ⟨_, rfl⟩ := Rep.str_inv ru | obtain rfl := Rep.bool_inv ru | obtain rfl := Reps.nil_inv ru | obtain rfl := Rep.none_inv ru); (first | obtain ⟨_, rfl⟩ := Rep.int_inv rv | obtain ⟨_, rfl⟩ := Rep.str_inv rv | obtain rfl := Rep.bool_inv rv | obtain rfl := Reps.nil_inv rv | obtain rfl := Rep.none_inv rv)
  exact PyProof.Rows.eq_str ⟨.refl hw, rfl⟩
theorem Cmp.neS {x y : Str} : Cmp g k .NotEq (.str x) (.str y) (x != y) := by
  refine ⟨?_⟩
  intro A X s E u v hR hw hX ru rv; (first | obtain ⟨_, rfl⟩ := Rep.int_inv ru | obtain ⟨_, rfl⟩ := Rep.str_inv ru | obtain rfl := Rep.bool_inv ru | obtain rfl := Reps.nil_inv ru | obtain rfl := Rep.none_inv ru); (first | obtain ⟨_, rfl⟩ := Rep.int_inv rv | obtain ⟨_, rfl⟩ := Rep.str_inv rv | obtain rfl := Rep.bool_inv rv | obtain rfl := Reps.nil_inv rv | obtain rfl := Rep.none_inv rv)
  exact PyProof.Rows.ne_str ⟨.refl hw, rfl⟩
theorem Cmp.inS {x y : Str} : Cmp g k .In (.str y) (.str x) (!(Builtin.Str.occurrences x y 0 x.length 1).isEmpty) := by
  refine ⟨?_⟩
  intro A X s E u v hR hw hX ru rv; (first | obtain ⟨_, rfl⟩ := Rep.int_inv ru | obtain ⟨_, rfl⟩ := Rep.str_inv ru | obtain rfl := Rep.bool_inv ru | obtain rfl := Reps.nil_inv ru | obtain rfl := Rep.none_inv ru); (first | obtain ⟨_, rfl⟩ := Rep.int_inv rv | obtain ⟨_, rfl⟩ := Rep.str_inv rv | obtain rfl := Rep.bool_inv rv | obtain rfl := Reps.nil_inv rv | obtain rfl := Rep.none_inv rv)
  exact PyProof.Rows.in_str ⟨.refl hw, rfl⟩
theorem Cmp.isB {a b : Bool} : Cmp g k .Is (.bool a) (.bool b) (a == b) := by
  refine ⟨?_⟩
  intro A X s E u v hR hw hX ru rv; (first | obtain ⟨_, rfl⟩ := Rep.int_inv ru | obtain ⟨_, rfl⟩ := Rep.str_inv ru | obtain rfl := Rep.bool_inv ru | obtain rfl := Reps.nil_inv ru | obtain rfl := Rep.none_inv ru); (first | obtain ⟨_, rfl⟩ := Rep.int_inv rv | obtain ⟨_, rfl⟩ := Rep.str_inv rv | obtain rfl := Rep.bool_inv rv | obtain rfl := Reps.nil_inv rv | obtain rfl := Rep.none_inv rv)
  refine wpAny_is_plain rfl ⟨.refl hw, ?_⟩
  cases a <;> cases b <;> rfl

theorem Truth.bool {b : Bool} : Truth g k (.bool b) b := by
  refine ⟨?_⟩
  intro A X s E u hR hw hX ru; (first | obtain ⟨_, rfl⟩ := Rep.int_inv ru | obtain ⟨_, rfl⟩ := Rep.str_inv ru | obtain rfl := Rep.bool_inv ru | obtain rfl := Reps.nil_inv ru | obtain rfl := Rep.none_inv ru)
  exact wpAny_truthy_bool ⟨.refl hw, rfl⟩
theorem Truth.str {x : Str} (hz : x.length ≤ sizeLine) : Truth g k (.str x) (x.length != 0) := by
  refine ⟨?_⟩
  intro A X s E u hR hw hX ru; (first | obtain ⟨_, rfl⟩ := Rep.int_inv ru | obtain ⟨_, rfl⟩ := Rep.str_inv ru | obtain rfl := Rep.bool_inv ru | obtain rfl := Reps.nil_inv ru | obtain rfl := Rep.none_inv ru)
  have : x.length ≤ 2 ^ 24 := hz
  refine PySem.P.truthy_str (by lia) ⟨.toks hw, ?_⟩
  rw [Bool.eq_iff_iff]; simp

mutual
noncomputable def D.py : D → PyData
  | .none => .none
  | .bool b => .bool b
  | .int i => .int i
  | .str x => .str x
  | .tup l => .tuple (D.pys l)
  | .lst l => .list (D.pys l)
  | _ => .none
noncomputable def D.pys : List D → List PyData
  | [] => []
  | d :: l => d.py :: D.pys l
end
mutual
noncomputable def D.ok : Nat → D → Bool
  | _, .none | _, .bool _ | _, .int _ => true
  | _, .str x => PyData.strOk x
  | n + 1, .tup l => D.oks n l
  | n + 1, .lst l => D.oks n l
  | _, _ => false
noncomputable def D.oks : Nat → List D → Bool
  | _, [] => true
  | n, d :: l => D.ok n d && D.oks n l
end
mutual
theorem Rep.reads {X : Addr → Prop} {h : Heap} : ∀ {v : Value} {d : D} {n : Nat}, Rep g X h v d → d.ok n = true → ∃ as, Reads h v d.py as
  | _, _, _, .none, _ => ⟨_, .none⟩
  | _, _, _, .bool b, _ => ⟨_, .bool b⟩
  | _, _, _, .int i t, _ => ⟨_, .int i t⟩
  | _, _, _, .str x t, _ => ⟨_, .str x t⟩
  | _, _, 0, .tup _ _ _ _ _, hk => by simp [D.ok] at hk
  | _, _, 0, .lst _ _ _ _ _, hk => by simp [D.ok] at hk
  | _, _, n + 1, .tup _ ho hc hd r, hk => by
    obtain ⟨as, q⟩ := Reps.reads r (by simpa [D.ok] using hk)
    rw [D.py]
    exact ⟨as, reads_tuple_at ho hc hd (by simpa using q)⟩
  | _, _, n + 1, .lst _ ho hc hd r, hk => by
    obtain ⟨as, q⟩ := Reps.reads r (by simpa [D.ok] using hk)
    rw [D.py]
    exact ⟨_, reads_list_at ho hc hd (by simpa using q)⟩
  | _, _, n, .sd .., hk => by cases n <;> simp [D.ok] at hk
  | _, _, n, .idd .., hk => by cases n <;> simp [D.ok] at hk
  | _, _, n, .inst .., hk => by cases n <;> simp [D.ok] at hk
  | _, _, n, .rng .., hk => by cases n <;> simp [D.ok] at hk
  | _, _, n, .obj .., hk => by cases n <;> simp [D.ok] at hk
theorem Reps.reads {X : Addr → Prop} {h : Heap} : ∀ {vs : List Value} {ds : List D} {n : Nat}, Reps g X h vs ds → D.oks n ds = true → ∃ as, ReadsAll h vs (D.pys ds) as
  | _, _, _, .nil, _ => ⟨_, .nil⟩
  | _, _, n, .cons a r, hk => by
    rw [D.oks, Bool.and_eq_true] at hk
    obtain ⟨as, q⟩ := Rep.reads a hk.1
    obtain ⟨bs, p⟩ := Reps.reads r hk.2
    rw [D.pys]
    exact ⟨_, .cons q p⟩
end
mutual
theorem D.lay : ∀ (n : Nat) (d : D), d.ok n = true → d.py.canLay0 = true ∧ d.py.depth ≤ n
  | _, .none, _ => by simp [D.py, PyData.canLay0, PyData.depth]
  | _, .bool _, _ => by simp [D.py, PyData.canLay0, PyData.depth]
  | _, .int _, _ => by simp [D.py, PyData.canLay0, PyData.depth]
  | n, .str x, h => by cases n <;> (simp only [D.ok] at h; simp [D.py, PyData.canLay0, PyData.depth, h])
  | 0, .tup _, h => by simp [D.ok] at h
  | 0, .lst _, h => by simp [D.ok] at h
  | n + 1, .tup l, h => by
    have q := D.lays n l (by simpa [D.ok] using h)
    simp only [D.py, PyData.canLay0, PyData.depth, q.1, true_and]
    have := q.2; (exact Nat.succ_le_succ ‹_›)
  | n + 1, .lst l, h => by
    have q := D.lays n l (by simpa [D.ok] using h)
    simp only [D.py, PyData.canLay0, PyData.depth, q.1, true_and]
    have := q.2; (exact Nat.succ_le_succ ‹_›)
  | n, .sd _, h => by cases n <;> simp [D.ok] at h
  | n, .idd _, h => by cases n <;> simp [D.ok] at h
  | n, .inst _, h => by cases n <;> simp [D.ok] at h
  | n, .rng .., h => by cases n <;> simp [D.ok] at h
  | n, .obj _, h => by cases n <;> simp [D.ok] at h
theorem D.lays : ∀ (n : Nat) (l : List D), D.oks n l = true → PyData.canLayAll0 (D.pys l) = true ∧ PyData.depthAll (D.pys l) ≤ n
  | _, [], _ => by simp [D.pys, PyData.canLayAll0, PyData.depthAll]
  | n, d :: l, h => by
    rw [D.oks, Bool.and_eq_true] at h
    have a := D.lay n d h.1
    have b := D.lays n l h.2
    simp only [D.pys, PyData.canLayAll0, PyData.depthAll, a.1, b.1, Bool.and_self, true_and]
    have := a.2; have := b.2; lia
end
theorem D.shaped {d : D} (h : d.ok 9 = true) : SeqAt.shaped d.py = true := by
  have q := D.lay 9 d h
  unfold SeqAt.shaped
  rw [q.1, Bool.true_and]
  exact decide_eq_true (Nat.le_trans q.2 (by decide))
theorem Cmp.eqD {a b : D} (ha : a.ok 9 = true) (hb : b.ok 9 = true) : Cmp g k .Eq a b (PyData.eqv a.py b.py) := by
  refine ⟨?_⟩
  intro A X s E u v hR hw hX ru rv
  obtain ⟨as, ra⟩ := ru.reads ha
  obtain ⟨bs, rb⟩ := rv.reads hb
  exact eq_dataH ra rb (D.shaped ha) (D.shaped hb) hR.line ⟨.refl hw, rfl⟩
theorem Cmp.neD {a b : D} (ha : a.ok 9 = true) (hb : b.ok 9 = true) : Cmp g k .NotEq a b (!PyData.eqv a.py b.py) := by
  refine ⟨?_⟩
  intro A X s E u v hR hw hX ru rv
  obtain ⟨as, ra⟩ := ru.reads ha
  obtain ⟨bs, rb⟩ := rv.reads hb
  exact ne_dataH ra rb (D.shaped ha) (D.shaped hb) hR.line ⟨.refl hw, rfl⟩
mutual
theorem D.eqv_refl : ∀ (d : D), PyData.eqv d.py d.py = true
  | .none | .bool _ | .int _ | .str _ => by simp [D.py, PyData.eqv]
  | .tup l => by simp only [D.py, PyData.eqv]; exact D.eqvs_refl l
  | .lst l => by simp only [D.py, PyData.eqv]; exact D.eqvs_refl l
  | .sd _ | .idd _ | .inst _ | .rng .. | .obj _ => by simp [D.py, PyData.eqv]
theorem D.eqvs_refl : ∀ (l : List D), PyData.eqvAll (D.pys l) (D.pys l) = true
  | [] => by simp [D.pys, PyData.eqvAll]
  | d :: l => by simp only [D.pys, PyData.eqvAll, D.eqv_refl d, D.eqvs_refl l, Bool.and_self]
end
theorem Cmp.neRefl {a : D} (ha : a.ok 9 = true) : Cmp g k .NotEq a a false := by
  have := Cmp.neD (g := g) (k := k) ha ha
  rw [D.eqv_refl] at this; exact this
theorem Cmp.eqRefl {a : D} (ha : a.ok 9 = true) : Cmp g k .Eq a a true := by
  have := Cmp.eqD (g := g) (k := k) ha ha
  rw [D.eqv_refl] at this; exact this
end
section
variable {g : Gw} {k : Nat} {sc : Scope} {σ : Sto}

theorem Cl.lenL {ds : List D} (hz : ds.length ≤ sizeLine) : Cl g k (.builtin "len") [.lst ds] (.int ds.length) := by
  refine ⟨?_⟩
  intro A X s E vals hR hw hX hr
  have inv := Reps.cons_inv hr
  try clear hr
  (refine ex_2_3 (inv) fun _ _ eqv r rs => ?_)
  (first | subst eqv | cases eqv)
  focus
    (first | obtain ⟨_, rfl⟩ := Rep.int_inv rs | obtain ⟨_, rfl⟩ := Rep.str_inv rs | obtain rfl := Rep.bool_inv rs | obtain rfl := Reps.nil_inv rs | obtain rfl := Rep.none_inv rs)
    have inv := Rep.lst_inv r
    try clear r
    (refine ex_4_6 (inv) fun l o vs n eqv nX ho hc hd rs => ?_)
    (first | subst eqv | cases eqv)
    focus
      have e : vs.toArray.size = ds.length := by rw [List.size_toArray, rs.length]
      have : ds.length ≤ 2 ^ 24 := hz
      refine PyProof.Rows.len_list ⟨o, ho, hc, n, hd⟩ (by rw [e]; lia) ⟨.toks hw, ?_⟩
      rw [e]; exact .int _ _
theorem Cl.lenT {ds : List D} (hz : ds.length ≤ sizeLine) : Cl g k (.builtin "len") [.tup ds] (.int ds.length) := by
  refine ⟨?_⟩
  intro A X s E vals hR hw hX hr
  have inv := Reps.cons_inv hr
  try clear hr
  (refine ex_2_3 (inv) fun _ _ eqv r rs => ?_)
  (first | subst eqv | cases eqv)
  focus
    (first | obtain ⟨_, rfl⟩ := Rep.int_inv rs | obtain ⟨_, rfl⟩ := Rep.str_inv rs | obtain rfl := Rep.bool_inv rs | obtain rfl := Reps.nil_inv rs | obtain rfl := Rep.none_inv rs)
    have inv := Rep.tup_inv r
    try clear r
    (refine ex_4_6 (inv) fun l o vs n eqv nX ho hc hd rs => ?_)
    (first | subst eqv | cases eqv)
    focus
      have e : vs.toArray.size = ds.length := by rw [List.size_toArray, rs.length]
      have : ds.length ≤ 2 ^ 24 := hz
      refine PyProof.Rows.len_tuple ⟨o, ho, hc, n, hd⟩ (by rw [e]; lia) ⟨.toks hw, ?_⟩
      rw [e]; exact .int _ _
theorem Cl.lenS {x : Str} (hz : x.length ≤ sizeLine) : Cl g k (.builtin "len") [.str x] (.int x.length) := by
  refine ⟨?_⟩
  intro A X s E vals hR hw hX hr
  have inv := Reps.cons_inv hr
  try clear hr
  (refine ex_2_3 (inv) fun _ _ eqv r rs => ?_)
  (first | subst eqv | cases eqv)
  focus
    (first | obtain ⟨_, rfl⟩ := Rep.int_inv rs | obtain ⟨_, rfl⟩ := Rep.str_inv rs | obtain rfl := Rep.bool_inv rs | obtain rfl := Reps.nil_inv rs | obtain rfl := Rep.none_inv rs); (first | obtain ⟨_, rfl⟩ := Rep.int_inv r | obtain ⟨_, rfl⟩ := Rep.str_inv r | obtain rfl := Rep.bool_inv r | obtain rfl := Reps.nil_inv r | obtain rfl := Rep.none_inv r)
    have : x.length ≤ 2 ^ 24 := hz
    exact PyProof.Rows.len_str (by lia) ⟨.toks hw, .int _ _⟩
theorem Cl.ord {c : Nat} : Cl g k (.builtin "ord") [.str ⟨#[c]⟩] (.int c) := by
  refine ⟨?_⟩
  intro A X s E vals hR hw hX hr
  have inv := Reps.cons_inv hr
  try clear hr
  (refine ex_2_3 (inv) fun _ _ eqv r rs => ?_)
  (first | subst eqv | cases eqv)
  (first | obtain ⟨_, rfl⟩ := Rep.int_inv rs | obtain ⟨_, rfl⟩ := Rep.str_inv rs | obtain rfl := Rep.bool_inv rs | obtain rfl := Reps.nil_inv rs | obtain rfl := Rep.none_inv rs); (first | obtain ⟨_, rfl⟩ := Rep.int_inv r | obtain ⟨_, rfl⟩ := Rep.str_inv r | obtain rfl := Rep.bool_inv r | obtain rfl := Reps.nil_inv r | obtain rfl := Rep.none_inv r); exact PySem.P.ord_of_char ⟨.toks hw, .int _ _⟩
theorem Cl.strI {a : Int} (ha : a.natAbs.log2 < 1920) : Cl g k (.type "str") [.int a] (.str (toString a)) := by
  refine ⟨?_⟩
  intro A X s E vals hR hw hX hr
  have inv := Reps.cons_inv hr
  try clear hr
  (refine ex_2_3 (inv) fun _ _ eqv r rs => ?_)
  (first | subst eqv | cases eqv)
  (first | obtain ⟨_, rfl⟩ := Rep.int_inv rs | obtain ⟨_, rfl⟩ := Rep.str_inv rs | obtain rfl := Rep.bool_inv rs | obtain rfl := Reps.nil_inv rs | obtain rfl := Rep.none_inv rs); (first | obtain ⟨_, rfl⟩ := Rep.int_inv r | obtain ⟨_, rfl⟩ := Rep.str_inv r | obtain rfl := Rep.bool_inv r | obtain rfl := Reps.nil_inv r | obtain rfl := Rep.none_inv r); exact PySem.P.str_of_int ha ⟨.toks hw, .str _ _⟩
theorem Cl.divmod {a b : Int} (hb : b ≠ 0) (hp : b.natAbs < 1073741824) : Cl g k (.builtin "divmod") [.int a, .int b] (.tup [.int (a.fdiv b), .int (a.fmod b)]) := by
  refine ⟨?_⟩
  intro A X s E vals hR hw hX hr
  have inv := Reps.cons_inv hr
  try clear hr
  (refine ex_2_3 (inv) fun _ _ eqv r rs => ?_)
  (first | subst eqv | cases eqv)
  focus
    (first | obtain ⟨_, rfl⟩ := Rep.int_inv r | obtain ⟨_, rfl⟩ := Rep.str_inv r | obtain rfl := Rep.bool_inv r | obtain rfl := Reps.nil_inv r | obtain rfl := Rep.none_inv r)
    have inv := Reps.cons_inv rs
    try clear rs
    (refine ex_2_3 (inv) fun _ _ eqv r rs => ?_)
    (first | subst eqv | cases eqv)
    focus
      (first | obtain ⟨_, rfl⟩ := Rep.int_inv rs | obtain ⟨_, rfl⟩ := Rep.str_inv rs | obtain rfl := Rep.bool_inv rs | obtain rfl := Reps.nil_inv rs | obtain rfl := Rep.none_inv rs); (first | obtain ⟨_, rfl⟩ := Rep.int_inv r | obtain ⟨_, rfl⟩ := Rep.str_inv r | obtain rfl := Rep.bool_inv r | obtain rfl := Reps.nil_inv r | obtain rfl := Rep.none_inv r)
      refine PyProof.Rows.divmod_int hb ⟨.keeps (t := s.toks + 1 + 1) hw fun _ _ e => Heap.get?_push_of_some _ e, ?_⟩ (.inl (PyProof.noPylong_small hp))
      exact .tup (vs := [.int (a.fdiv b) s.toks, .int (a.fmod b) (s.toks + 1)]) (hX.fresh (get_size _)) (Heap.get?_push_size _ rfl) rfl rfl (.cons (.int _ _) (.one (.int _ _)))
theorem Cl.range1 {n : Int} : Cl g k (.type "range") [.int n] (.rng 0 n 1) := by
  refine ⟨?_⟩
  intro A X s E vals hR hw hX hr
  have inv := Reps.cons_inv hr
  try clear hr
  (refine ex_2_3 (inv) fun _ _ eqv r rs => ?_)
  (first | subst eqv | cases eqv)
  (first | obtain ⟨_, rfl⟩ := Rep.int_inv rs | obtain ⟨_, rfl⟩ := Rep.str_inv rs | obtain rfl := Rep.bool_inv rs | obtain rfl := Reps.nil_inv rs | obtain rfl := Rep.none_inv rs); (first | obtain ⟨_, rfl⟩ := Rep.int_inv r | obtain ⟨_, rfl⟩ := Rep.str_inv r | obtain rfl := Rep.bool_inv r | obtain rfl := Reps.nil_inv r | obtain rfl := Rep.none_inv r); exact PySem.call_range_1 ⟨.keeps hw fun _ _ e => Heap.get?_push_of_some _ e, .rng (hX.fresh (get_size _)) (Heap.get?_push_size _ rfl)⟩
theorem Cl.range2 {a b : Int} : Cl g k (.type "range") [.int a, .int b] (.rng a b 1) := by
  refine ⟨?_⟩
  intro A X s E vals hR hw hX hr
  have inv := Reps.cons_inv hr
  try clear hr
  (refine ex_2_3 (inv) fun _ _ eqv r rs => ?_)
  (first | subst eqv | cases eqv)
  focus
    (first | obtain ⟨_, rfl⟩ := Rep.int_inv r | obtain ⟨_, rfl⟩ := Rep.str_inv r | obtain rfl := Rep.bool_inv r | obtain rfl := Reps.nil_inv r | obtain rfl := Rep.none_inv r)
    have inv := Reps.cons_inv rs
    try clear rs
    (refine ex_2_3 (inv) fun _ _ eqv r rs => ?_)
    (first | subst eqv | cases eqv)
    (first | obtain ⟨_, rfl⟩ := Rep.int_inv rs | obtain ⟨_, rfl⟩ := Rep.str_inv rs | obtain rfl := Rep.bool_inv rs | obtain rfl := Reps.nil_inv rs | obtain rfl := Rep.none_inv rs); (first | obtain ⟨_, rfl⟩ := Rep.int_inv r | obtain ⟨_, rfl⟩ := Rep.str_inv r | obtain rfl := Rep.bool_inv r | obtain rfl := Reps.nil_inv r | obtain rfl := Rep.none_inv r); exact PySem.call_range_2 ⟨.keeps hw fun _ _ e => Heap.get?_push_of_some _ e, .rng (hX.fresh (get_size _)) (Heap.get?_push_size _ rfl)⟩
theorem Cl.range3 {a b c : Int} (hc : c ≠ 0) (hp : c.natAbs < 1073741824) : Cl g k (.type "range") [.int a, .int b, .int c] (.rng a b c) := by
  refine ⟨?_⟩
  intro A X s E vals hR hw hX hr
  have inv := Reps.cons_inv hr
  try clear hr
  (refine ex_2_3 (inv) fun _ _ eqv r rs => ?_)
  (first | subst eqv | cases eqv)
  focus
    (first | obtain ⟨_, rfl⟩ := Rep.int_inv r | obtain ⟨_, rfl⟩ := Rep.str_inv r | obtain rfl := Rep.bool_inv r | obtain rfl := Reps.nil_inv r | obtain rfl := Rep.none_inv r)
    have inv := Reps.cons_inv rs
    try clear rs
    (refine ex_2_3 (inv) fun _ _ eqv r rs => ?_)
    (first | subst eqv | cases eqv)
    focus
      (first | obtain ⟨_, rfl⟩ := Rep.int_inv r | obtain ⟨_, rfl⟩ := Rep.str_inv r | obtain rfl := Rep.bool_inv r | obtain rfl := Reps.nil_inv r | obtain rfl := Rep.none_inv r)
      have inv := Reps.cons_inv rs
      try clear rs
      (refine ex_2_3 (inv) fun _ _ eqv r rs => ?_)
      (first | subst eqv | cases eqv)
      (first | obtain ⟨_, rfl⟩ := Rep.int_inv rs | obtain ⟨_, rfl⟩ := Rep.str_inv rs | obtain rfl := Rep.bool_inv rs | obtain rfl := Reps.nil_inv rs | obtain rfl := Rep.none_inv rs); (first | obtain ⟨_, rfl⟩ := Rep.int_inv r | obtain ⟨_, rfl⟩ := Rep.str_inv r | obtain rfl := Rep.bool_inv r | obtain rfl := Reps.nil_inv r | obtain rfl := Rep.none_inv r); exact PySem.call_range_3 hc ⟨.push hw, .rng (hX.fresh (get_size _)) (Heap.get?_push_size _ rfl)⟩ (.inl (PyProof.noPylong_small hp))
theorem Cl.tupleL {ds : List D} (hz : ds.length ≤ sizeLine) : Cl g k (.type "tuple") [.lst ds] (.tup ds) := by
  refine ⟨?_⟩
  intro A X s E vals hR hw hX hr
  have inv := Reps.cons_inv hr
  try clear hr
  (refine ex_2_3 (inv) fun _ _ eqv r rs => ?_)
  (first | subst eqv | cases eqv)
  focus
    (first | obtain ⟨_, rfl⟩ := Rep.int_inv rs | obtain ⟨_, rfl⟩ := Rep.str_inv rs | obtain rfl := Rep.bool_inv rs | obtain rfl := Reps.nil_inv rs | obtain rfl := Rep.none_inv rs)
    have inv := Rep.lst_inv r
    try clear r
    (refine ex_4_6 (inv) fun l o vs n eqv nX ho hc hd rs => ?_)
    (first | subst eqv | cases eqv)
    focus
      refine PySem.call_tuple_list ⟨o, ho, hc, n, hd⟩ (fun h' hk => ?_) (by rw [List.size_toArray, rs.length]; exact hz)
      have k1 : Kp g s { s with heap := h' } := .keeps (t := s.toks) hw hk
      exact ⟨k1.trans (.push k1.wd), .newTup (s := { s with heap := h' }) (hX.kp k1) (rs.ext hX.pl k1.ext)⟩
theorem Cl.max2 {a b : Int} : Cl g k (.builtin "max") [.int a, .int b] (.int (if b > a then b else a)) := by
  refine ⟨?_⟩
  intro A X s E vals hR hw hX hr
  have inv := Reps.cons_inv hr
  try clear hr
  (refine ex_2_3 (inv) fun _ _ eqv r rs => ?_)
  (first | subst eqv | cases eqv)
  focus
    (first | obtain ⟨_, rfl⟩ := Rep.int_inv r | obtain ⟨_, rfl⟩ := Rep.str_inv r | obtain rfl := Rep.bool_inv r | obtain rfl := Reps.nil_inv r | obtain rfl := Rep.none_inv r)
    have inv := Reps.cons_inv rs
    try clear rs
    (refine ex_2_3 (inv) fun _ _ eqv r rs => ?_)
    (first | subst eqv | cases eqv)
    focus
      (first | obtain ⟨_, rfl⟩ := Rep.int_inv rs | obtain ⟨_, rfl⟩ := Rep.str_inv rs | obtain rfl := Rep.bool_inv rs | obtain rfl := Reps.nil_inv rs | obtain rfl := Rep.none_inv rs); (first | obtain ⟨_, rfl⟩ := Rep.int_inv r | obtain ⟨_, rfl⟩ := Rep.str_inv r | obtain rfl := Rep.bool_inv r | obtain rfl := Reps.nil_inv r | obtain rfl := Rep.none_inv r)
      refine PySem.max_two_ints hR.hd fun h' tk hk => ⟨.keeps hw hk, ?_⟩
      split <;> exact .int _ _

theorem ints_of {X : Addr → Prop} {h : Heap} : ∀ {vs : List Value} {ns : List Int}, Reps g X h vs (ns.map .int) → ∃ ts : List Tok, ts.length = ns.length ∧ vs = (ns.zip ts).map fun p => .int p.1 p.2
  | vs, [], r => by cases r; exact ⟨[], rfl, rfl⟩
  | vs, n :: ns, r => by
    have inv := Reps.cons_inv r
    try clear r
    (refine ex_2_3 (inv) fun _ _ eqv a r => ?_)
    (first | subst eqv | cases eqv)
    focus
      (refine ex_1_2 (ints_of r) fun ts e1 e2 => ?_)
      have inv := Rep.int_inv a
      try clear a
      obtain ⟨t, eqv⟩ := inv
      (first | subst eqv | cases eqv)
      exact ⟨t :: ts, by simp [e1], by simp [e2]⟩
theorem ints_are {X : Addr → Prop} {h : Heap} : ∀ {vs : List Value} {ns : List Int}, Reps g X h vs (ns.map .int) → IntsAre vs ns
  | vs, [], r => by cases r; exact .nil
  | vs, n :: ns, r => by
    have inv := Reps.cons_inv r
    try clear r
    (refine ex_2_3 (inv) fun _ _ eqv a r => ?_)
    (first | subst eqv | cases eqv)
    cases a with | int _ t => exact .cons _ _ (ints_are r)
theorem reps_ints {X : Addr → Prop} {h : Heap} : ∀ {vs : List Value} {ns : List Int}, IntsAre vs ns → Reps g X h vs (ns.map .int)
  | _, _, .nil => .nil
  | _, _, .cons _ _ r => .cons (.int _ _) (reps_ints r)
theorem strs_are {X : Addr → Prop} {h : Heap} : ∀ {vs : List Value} {xs : List Str}, Reps g X h vs (xs.map .str) → StrsAre vs xs
  | vs, [], r => by cases r; exact .nil
  | vs, n :: ns, r => by
    have inv := Reps.cons_inv r
    try clear r
    (refine ex_2_3 (inv) fun _ _ eqv a r => ?_)
    (first | subst eqv | cases eqv)
    cases a with | str _ t => exact .cons _ _ (strs_are r)

theorem preSum_eq {ns : List Int} {ts : List Tok} (hl : ts.length = ns.length) : ∀ j, j ≤ ns.length → preSum (numAt (ns.zip ts).toArray) j = (ns.take j).sum
  | 0, _ => rfl
  | j + 1, h => by
    have hj : j < ns.length := h
    have hv : numAt (ns.zip ts).toArray j = ns[j] := by
      unfold numAt
      have : (ns.zip ts)[j]? = some (ns[j], ts[j]'(by lia)) := by rw [List.getElem?_eq_getElem (by rw [List.length_zip]; lia), List.getElem_zip]
      simp [this]
    rw [preSum, preSum_eq hl j (by (exact Nat.le_of_lt ‹_›)), hv, List.take_succ_eq_append_getElem hj, List.sum_append]
    simp
theorem Cl.sumL {ns : List Int} (hf : ∀ j, j < ns.length → InLong (ns.getD j 0) ∧ InLong ((ns.take (j + 1)).sum)) : Cl g k (.builtin "sum") [.lst (ns.map .int)] (.int ns.sum) := by
  refine ⟨?_⟩
  intro A X s E vals hR hw hX hr
  have inv := Reps.cons_inv hr
  try clear hr
  (refine ex_2_3 (inv) fun _ _ eqv r rs => ?_)
  (first | subst eqv | cases eqv)
  focus
    (first | obtain ⟨_, rfl⟩ := Rep.int_inv rs | obtain ⟨_, rfl⟩ := Rep.str_inv rs | obtain rfl := Rep.bool_inv rs | obtain rfl := Reps.nil_inv rs | obtain rfl := Rep.none_inv rs)
    have inv := Rep.lst_inv r
    try clear r
    (refine ex_4_6 (inv) fun l o vs n eqv nX ho hc hd rs => ?_)
    (first | subst eqv | cases eqv)
    focus
      (refine ex_1_2 (ints_of rs) fun ts e1 e2 => ?_)
      have hI : s.heap.IsList l (intItems (ns.zip ts).toArray) := ⟨o, ho, hc, n, by rw [hd, e2]; simp [intItems]⟩
      have hsz : (ns.zip ts).toArray.size = ns.length := by simp [e1]
      refine PySem.sum_intList hR.hd hI (fun j hj => ?_) fun h' tk t' hk => ⟨.keeps hw hk, ?_⟩
      · rw [hsz] at hj
        have h1 := hf j hj
        rw [preSum_eq e1 (j + 1) hj]
        refine ⟨?_, h1.2⟩
        have : numAt (ns.zip ts).toArray j = ns.getD j 0 := by
          unfold numAt
          have : (ns.zip ts)[j]? = some (ns[j], ts[j]'(by lia)) := by rw [List.getElem?_eq_getElem (by rw [List.length_zip]; lia), List.getElem_zip]
          simp [this, hj]
        rw [this]; exact h1.1
      · rw [hsz, preSum_eq e1 _ (Nat.le_refl _), List.take_length]; exact .int _ _
theorem Bin.mulS {x : Str} {n : Int} (hok : MulOk x n) : Bin g k .Mult (.str x) (.int n) (.str (Txt.mul x n)) := by
  refine ⟨?_⟩
  intro A X s E u v hR hw hX ru rv
  (first | obtain ⟨_, rfl⟩ := Rep.int_inv ru | obtain ⟨_, rfl⟩ := Rep.str_inv ru | obtain rfl := Rep.bool_inv ru | obtain rfl := Reps.nil_inv ru | obtain rfl := Rep.none_inv ru); (first | obtain ⟨_, rfl⟩ := Rep.int_inv rv | obtain ⟨_, rfl⟩ := Rep.str_inv rv | obtain rfl := Rep.bool_inv rv | obtain rfl := Reps.nil_inv rv | obtain rfl := Rep.none_inv rv)
  exact PySem.SB.mul hok fun t' tk => ⟨.toks hw, .str _ _⟩
theorem Mth.join {x : Str} : Mth g k (.str x) "join" (.builtin "str.join") := by
  refine ⟨?_⟩
  intro A X s E u pl Q hR hw hX r h
  (first | obtain ⟨_, rfl⟩ := Rep.int_inv r | obtain ⟨_, rfl⟩ := Rep.str_inv r | obtain rfl := Rep.bool_inv r | obtain rfl := Reps.nil_inv r | obtain rfl := Rep.none_inv r)
  exact PySem.GM.join (h s (.refl hw))
theorem Cl.join {x : Str} {ys : List Str} (hok : (ys.map (·.length)).sum + ys.length * x.length ≤ 16777216) : Cl g k (.builtin "str.join") [.str x, .lst (ys.map .str)] (.str (Txt.join x ys)) := by
  refine ⟨?_⟩
  intro A X s E vals hR hw hX hr
  have inv := Reps.cons_inv hr
  try clear hr
  (refine ex_2_3 (inv) fun _ _ eqv r rs => ?_)
  (first | subst eqv | cases eqv)
  focus
    (first | obtain ⟨_, rfl⟩ := Rep.int_inv r | obtain ⟨_, rfl⟩ := Rep.str_inv r | obtain rfl := Rep.bool_inv r | obtain rfl := Reps.nil_inv r | obtain rfl := Rep.none_inv r)
    have inv := Reps.cons_inv rs
    try clear rs
    (refine ex_2_3 (inv) fun _ _ eqv r rs => ?_)
    (first | subst eqv | cases eqv)
    focus
      (first | obtain ⟨_, rfl⟩ := Rep.int_inv rs | obtain ⟨_, rfl⟩ := Rep.str_inv rs | obtain rfl := Rep.bool_inv rs | obtain rfl := Reps.nil_inv rs | obtain rfl := Rep.none_inv rs)
      have inv := Rep.lst_inv r
      try clear r
      (refine ex_4_6 (inv) fun l o vs n eqv nX ho hc hd rs => ?_)
      (first | subst eqv | cases eqv)
      focus
        exact PyProof.Rows.join_list ⟨o, ho, hc, n, hd⟩ (by simpa using strs_are rs) hok fun t' k => ⟨.toks hw, .str _ _⟩
end

local macro_rules | `(tactic| walk_at "lk") => `(tactic| first | with_reducible exact Lk.h | with_reducible exact Lk.n (by kernel_rfl) (by walk_at "lk"))
local macro_rules | `(tactic| walk_at "nm") => `(tactic| exact Ev.nm (by walk_at "lk"))
local macro_rules | `(tactic| walk_at "fh") => `(tactic| exact ⟨⟨_, rfl, rfl⟩, by kernel_rfl, by kernel_rfl, by kernel_rfl, by kernel_rfl, by kernel_rfl, by kernel_rfl, by kernel_rfl, by kernel_rfl, by kernel_rfl⟩)
section
variable {g : Gw} {k : Nat} {sc : Scope} {σ : Sto}

noncomputable abbrev bnd1 (x : Str) (d : D) (σ : Sto) : Sto := (x, .v d) :: σ
theorem CompOk.one {scope : Scope} {σc : Sto} {elt iter : Expr} {ifs : List Expr} {x : Str} {px : Pos} {ds : List D} (p : D → Bool) (f : D → D) (it : ItE g sc k σ iter ds TAny) (cap : ∀ x b, σc.lookup x = some b → σ.lookup x = some b ∧ (∃ d, b = .v d) ∧ scope.names.lookup x = some .free)
    (size : ds.length ≤ sizeLine)
    (test : ∀ d ∈ ds, Trs g (relab scope sc) k (bnd1 x d σc) ifs (p d)) (helt : ∀ d ∈ ds, p d = true → Ev g (relab scope sc) k (bnd1 x d σc) elt (f d)) (hsc : scOkB scope sc = true := by kernel_rfl)
    (hx : (relab scope sc).names.lookup x = some .local ∨ (relab scope sc).names.lookup x = some .cell := by walk_at "wc") (hnf : scope.names.all (fun q => !(q.1 == x && q.2 == .free)) = true := by kernel_rfl)
    (fold : ∀ env x, foldedSetIterable iter env x = pure x := by walk_at "w2") :
    CompOk g sc scope k σ σc elt (.Name x px) iter ifs ds TAny (bnd1 x) [x] p f where
  ok := ScOk.of hsc
  cap := cap
  it := it
  tgt := trivial
  tl := fun _ => trivial
  as := fun d _ => As.name hx
  no := fun d y e h => by
    rcases lookup_cons h with ⟨_, h⟩ | ⟨_, h⟩
    · cases h
    · (refine ex_0_3 (cap y _ h) fun _ zq41 _ => ?_; obtain ⟨d', h'⟩ := zq41); cases h'
  sub := fun d _ y b h => by
    have hne : y ≠ x := fun z => by
      (refine ex_0_3 (cap y b h) fun _ _ hf => ?_)
      have := List.all_eq_true.mp hnf _ (mem_of_lookup' hf)
      simp [z] at this
    unfold bnd1
    rw [List.lookup_cons, beq_eq_false_iff_ne.mpr hne]; exact h
  ns := fun n hn hm => by
    rw [List.mem_singleton] at hn; subst hn
    have := List.all_eq_true.mp hnf _ hm
    simp at this
  test := test
  elt := helt
  size := size
  fold := fold
theorem noCap {scope : Scope} : ∀ x b, ([] : Sto).lookup x = some b → σ.lookup x = some b ∧ (∃ d, b = .v d) ∧ scope.names.lookup x = some .free := fun _ _ h => by simp at h
theorem filter_true {l : List D} : l.filter (fun _ => true) = l := by simp
theorem Ev.comp1 {scope : Scope} {elt iter : Expr} {x : Str} {px pos : Pos} {ds : List D} (f : D → D) (it : ItE g sc k σ iter ds TAny) (size : ds.length ≤ sizeLine) (helt : ∀ d ∈ ds, Ev g (relab scope sc) k [(x, .v d)] elt (f d)) (hsc : scOkB scope sc = true := by kernel_rfl)
    (hx : (relab scope sc).names.lookup x = some .local ∨ (relab scope sc).names.lookup x = some .cell := by walk_at "wc") (hnf : scope.names.all (fun q => !(q.1 == x && q.2 == .free)) = true := by kernel_rfl)
    (fold : ∀ env x, foldedSetIterable iter env x = pure x := by walk_at "w2") : Ev g sc k σ (.ListComp elt [⟨.Name x px, iter, [], 0⟩] scope pos) (.lst (ds.map f)) := by
  have := Ev.comp (pos := pos) (CompOk.one (px := px) (σc := []) (ifs := []) (scope := scope) (x := x) (elt := elt) (fun _ => true) f it noCap size (fun _ _ => rfl) (fun d hd _ => helt d hd) hsc hx hnf fold)
  rw [filter_true] at this
  exact this

noncomputable def leadS (runs : List Int) : Str := Txt.join "\t" (runs.map fun n => Txt.mul " " n)
theorem h116 (w : World) : FH w 116 (stB 9) (scB 9) := by walk_at "fh"

end
section
variable {g : Gw} {k : Nat} {sc : Scope} {σ : Sto}

noncomputable def clipN (v : Option Int) (dflt n : Nat) : Nat := match v with
  | none => dflt
  | some i => (max 0 (min (if i < 0 then i + n else i) n) : Int).toNat
theorem bounds_clip (lo hi : Option Int) (n : Nat) : sliceBounds lo hi none n = ((clipN lo 0 n : Int), (clipN hi n n : Int), 1) := by
  unfold sliceBounds clipN
  cases lo <;> cases hi <;> simp <;> omega
theorem clip_le (v : Option Int) (d n : Nat) (hd : d ≤ n) : clipN v d n ≤ n := by
  unfold clipN
  cases v with
  | none => exact hd
  | some i => dsimp only; omega
noncomputable def cut {α : Type} (l : List α) (lo hi : Option Int) : List α := (l.drop (clipN lo 0 l.length)).take (clipN hi l.length l.length - clipN lo 0 l.length)
theorem filterMap_range {α : Type} (l : List α) (a m : Nat) (h : a + m ≤ l.length) : ((List.range m).map (a + ·)).filterMap (l[·]?) = (l.drop a).take m := by
  induction m with
  | zero => simp
  | succ m ih =>
    rw [List.range_succ, List.map_append, List.filterMap_append, ih (by (exact Nat.le_of_lt ‹_›))]
    have : l[a + m]? = some (l[a + m]'(by assumption)) := List.getElem?_eq_getElem _
    simp only [List.map_cons, List.map_nil, List.filterMap_cons, this, List.filterMap_nil]
    rw [List.take_succ_eq_append_getElem (by rw [List.length_drop]; lia)]
    simp
theorem pick_cut {α : Type} (l : List α) (lo hi : Option Int) : (sliceRange (sliceBounds lo hi none l.length).1 (sliceBounds lo hi none l.length).2.1 (sliceBounds lo hi none l.length).2.2).filterMap (l[·]?) = cut l lo hi := by
  rw [bounds_clip]
  dsimp only
  rw [sliceRange_one]
  have h1 := clip_le lo 0 l.length (Nat.zero_le _)
  have h2 := clip_le hi l.length l.length (Nat.le_refl _)
  unfold cut
  rw [filterMap_range _ _ _ (by omega)]
theorem pick_list (vs : List Value) (lo hi : Option Int) : slicePick vs.toArray lo hi none = (cut vs lo hi).toArray := by
  unfold slicePick
  rw [← pick_cut]
  simp
theorem Reps.cut {X : Addr → Prop} {h : Heap} {vs : List Value} {ds : List D} (r : Reps g X h vs ds) (lo hi : Option Int) : Reps g X h (Mine.cut vs lo hi) (Mine.cut ds lo hi) := by
  unfold Mine.cut
  rw [r.length]
  exact (r.drop _).take _

noncomputable def Pt (g : Gw) (sc : Scope) (k : Nat) (σ : Sto) : Option Expr → Option Int → Prop
  | none, none => True
  | some e, some i => Ev g sc k σ e (.int i)
  | _, _ => False
theorem Pt.wp {env : Env} {A : Around} {X : Addr → Prop} {s : Shared} {E : Value → Shared → Prop} {e : Option Expr} {v : Option Int} (h : Pt g sc k σ e v) (hE : EnvOk sc env) (hR : Room g k A) (hw : Wd g s) (F : Fm g env X σ s.heap) :
    wpAny g.M A (evalPart e env) (fun u s' => Kp g s s' ∧ IsPart u v ∧ ∃ l, u = partValue l ∧ l.map (·.1) = v) E s := by
  match e, v, h with
  | none, none, _ => exact wpAny_evalPart_none ⟨.refl hw, .none, none, rfl, rfl⟩
  | some e, some i, h =>
    refine wpAny_evalPart_some (wpAny_mono (Ev.run h env A X s E hE hR hw F) (fun u s' hu => ?_) fun _ _ e => e)
    obtain ⟨q, r⟩ := hu
    have inv := Rep.int_inv r
    try clear r
    obtain ⟨t, eqv⟩ := inv
    (first | subst eqv | cases eqv)
    exact ⟨q, .int i t, some (i, t), rfl, rfl⟩
theorem Ev.sliceL {value : Expr} {lower upper : Option Expr} {lo hi : Option Int} {p pos : Pos} {ds : List D} (hv : Ev g sc k σ value (.lst ds)) (hl : Pt g sc k σ lower lo) (hu : Pt g sc k σ upper hi) (hz : ds.length ≤ sizeLine) (ht : ∀ o r, letTemporaryGo value o r = pure () := by walk_at "w2") :
    Ev g sc k σ (.Subscript value (.Slice lower upper Option.none p) pos) (.lst (cut ds lo hi)) := by
  refine ⟨?_⟩
  intro env A X s E hE hR hw F
  refine wpAny_Subscript_list_slice (wpAny_mono (hv.run env A X s E hE hR hw F) (fun o s₁ h₁ => ?_) fun _ _ e => e) ht
  have F₁ := F.kp h₁.1
  refine wpAny_mono (hl.wp hE hR h₁.1.wd F₁) (fun vl s₂ h₂ => ?_) fun _ _ e => e
  have F₂ := F₁.kp h₂.1
  refine wpAny_mono (hu.wp hE hR h₂.1.wd F₂) (fun vu s₃ h₃ => ?_) fun _ _ e => e
  have F₃ := F₂.kp h₃.1
  have r := (h₁.2.ext F.pl h₂.1.ext).ext F.pl h₃.1.ext
  have inv := Rep.lst_inv r
  try clear r
  (refine ex_4_6 (inv) fun l o vs n eqv nX ho hc hd rs => ?_)
  (first | subst eqv | cases eqv)
  focus
    refine ⟨l, vs.toArray, lo, hi, rfl, ⟨o, ho, hc, n, hd⟩, by rw [List.size_toArray, rs.length]; exact hz, h₂.2.1, h₃.2.1, ?_⟩
    have k4 : Kp g s₃ { s₃ with heap := s₃.heap.push { cls := .type "slice", data := .fields #[vl, vu, .none] } } := .push h₃.1.wd
    have k5 := Kp.push (s := { s₃ with heap := s₃.heap.push { cls := .type "slice", data := .fields #[vl, vu, .none] } }) (o := { cls := .type "list", data := .seq (slicePick vs.toArray lo hi Option.none) }) k4.wd
    have e : s₃.heap.objs.size + 1 = (s₃.heap.push { cls := .type "slice", data := .fields #[vl, vu, .none] }).objs.size := (Heap.size_push ..).symm
    refine ⟨(((h₁.1.trans h₂.1).trans h₃.1).trans k4).trans k5, ?_⟩
    rw [pick_list, e]
    exact .newLst (s := { s₃ with heap := s₃.heap.push { cls := .type "slice", data := .fields #[vl, vu, .none] } }) (F₃.xok.kp k4) ((rs.cut lo hi).ext F.pl k4.ext)
theorem idx_eq (x : Str) (lo hi : Option Int) : Builtin.Str.strSliceIndices lo hi 1 x.length = sliceRange (sliceBounds lo hi none x.cps.toList.length).1 (sliceBounds lo hi none x.cps.toList.length).2.1 (sliceBounds lo hi none x.cps.toList.length).2.2 := by
  have : x.cps.toList.length = x.length := by simp [Str.length]
  rw [this]
  unfold Builtin.Str.strSliceIndices sliceBounds
  cases lo <;> cases hi <;> rfl
theorem cut_len {α : Type} (l : List α) (lo hi : Option Int) : (cut l lo hi).length = clipN hi l.length l.length - clipN lo 0 l.length := by
  unfold cut
  have h2 := clip_le hi l.length l.length (Nat.le_refl _)
  rw [List.length_take, List.length_drop]; lia
theorem idx_len (x : Str) (lo hi : Option Int) : (Builtin.Str.strSliceIndices lo hi 1 x.length).length = (cut x.cps.toList lo hi).length := by
  rw [idx_eq, bounds_clip, cut_len]
  dsimp only
  rw [sliceRange_one]; simp
theorem str_pick (x : Str) (lo hi : Option Int) : (Builtin.Str.strSliceIndices lo hi 1 x.length).filterMap (x.cps[·]?) = cut x.cps.toList lo hi := by
  rw [← pick_cut, idx_eq]
  simp
noncomputable def cutS (x : Str) (lo hi : Option Int) : Str := ⟨(cut x.cps.toList lo hi).toArray⟩
theorem cut_all {α : Type} {l : List α} {lo hi : Option Int} (h : (cut l lo hi).length = l.length) : cut l lo hi = l := by
  unfold cut at *
  rw [List.length_take, List.length_drop] at h
  have h1 := clip_le lo 0 l.length (Nat.zero_le _)
  have h2 := clip_le hi l.length l.length (Nat.le_refl _)
  by_cases z : l.length = 0
  · have : l = [] := List.length_eq_zero_iff.mp z
    subst this; simp
  · have e1 : clipN lo 0 l.length = 0 := by lia
    have e2 : clipN hi l.length l.length = l.length := by lia
    rw [e1, e2]; simp
set_option tactic.hygienic true in
theorem Ev.sliceS {value : Expr} {lower upper : Option Expr} {lo hi : Option Int} {p pos : Pos} {x : Str} (hv : Ev g sc k σ value (.str x)) (hl : Pt g sc k σ lower lo) (hu : Pt g sc k σ upper hi) (hz : x.length ≤ sizeLine) (ht : ∀ o r, letTemporaryGo value o r = pure () := by walk_at "w2") :
    Ev g sc k σ (.Subscript value (.Slice lower upper Option.none p) pos) (.str (cutS x lo hi)) := by
  refine ⟨?_⟩
  intro env A X s E hE hR hw F
  refine wpAny_Subscript_str_slice (wpAny_mono (hv.run env A X s E hE hR hw F) (fun o s₁ h₁ => ?_) fun _ _ e => e) ht
  have F₁ := F.kp h₁.1
  refine wpAny_mono (hl.wp hE hR h₁.1.wd F₁) (fun vl s₂ h₂ => ?_) fun _ _ e => e
  have F₂ := F₁.kp h₂.1
  refine wpAny_mono (hu.wp hE hR h₂.1.wd F₂) (fun vu s₃ h₃ => ?_) fun _ _ e => e
  obtain ⟨q1, r1⟩ := h₁
  (refine ex_0_3 (h₂) fun q2 _ zq42 => ?_; refine ex_1_2 (zq42) fun l zq43 el => ?_; (first | subst zq43 | cases zq43))
  (refine ex_0_3 (h₃) fun q3 _ zq44 => ?_; refine ex_1_2 (zq44) fun u zq45 eu => ?_; (first | subst zq45 | cases zq45))
  have inv := Rep.str_inv r1
  try clear r1
  obtain ⟨t, eqv⟩ := inv
  (first | subst eqv | cases eqv)
  focus
    refine ⟨x, t, l, u, rfl, rfl, rfl, ?_⟩
    have k4 : Kp g s { s₃ with heap := s₃.heap.push { cls := .type "slice", data := .fields #[partValue l, partValue u, .none] } } := ((q1.trans q2).trans q3).trans (.push q3.wd)
    have pk : (slicePicked x l u Option.none).filterMap (x.cps[·]?) = cut x.cps.toList lo hi := by
      unfold slicePicked; rw [el, eu]; exact str_pick x lo hi
    unfold sliceMade
    split
    · rename_i hc
      simp only [Bool.and_eq_true, beq_iff_eq] at hc
      have hlen : (cut x.cps.toList lo hi).length = x.cps.toList.length := by
        have h2 := hc.2
        unfold slicePicked at h2
        rw [el, eu] at h2
        rw [← idx_len]
        refine h2.trans ?_
        simp [Str.length]
      have : cutS x lo hi = x := by unfold cutS; rw [cut_all hlen]
      refine ⟨k4, ?_⟩
      rw [this]; exact .str _ _
    · rw [pk]
      refine ⟨?_, k4.trans (.toks k4.wd), .str _ _⟩
      have h1 : (cut x.cps.toList lo hi).length ≤ x.cps.toList.length := by unfold cut; rw [List.length_take, List.length_drop]; lia
      have h2 : x.cps.toList.length = x.length := by simp [Str.length]
      show (cut x.cps.toList lo hi).toArray.size ≤ sizeLine
      rw [List.size_toArray]; (exact Nat.le_trans ‹_› ‹_›)
end
section
variable {g : Gw} {k : Nat} {sc : Scope} {σ : Sto}

set_option tactic.hygienic true in
theorem Itm.lst {ds : List D} {i : Int} {j : Nat} {d : D} (hj : seqIndex? i ds.length = some j) (hd : ds[j]? = some d) (hz : ds.length ≤ sizeLine) : Itm g k (.lst ds) (.int i) d := by
  refine ⟨?_⟩
  intro A X s E u v value slice hR hw hX ru rv hs
  (first | obtain ⟨_, rfl⟩ := Rep.int_inv rv | obtain ⟨_, rfl⟩ := Rep.str_inv rv | obtain rfl := Rep.bool_inv rv | obtain rfl := Reps.nil_inv rv | obtain rfl := Rep.none_inv rv)
  have inv := Rep.lst_inv ru
  try clear ru
  (refine ex_4_6 (inv) fun l o vs n eqv nX ho hc hd' rs => ?_)
  (first | subst eqv | cases eqv)
  focus
    (refine ex_1_2 (rs.get hd) fun w hw' rw' => ?_)
    have hl : s.heap.IsList l vs.toArray := ⟨o, ho, hc, n, hd'⟩
    have e : vs.toArray.size = ds.length := by rw [List.size_toArray, rs.length]
    have hz' : ds.length ≤ 2 ^ 24 := hz
    refine tail_any hl.typeIs slot_list_getitem.lookup ?_ hs
    unfold seqIndex? at hj
    by_cases hneg : i < 0
    · simp only [hneg, if_true] at hj
      split at hj
      · rename_i hc
        simp only [Bool.and_eq_true, decide_eq_true_eq] at hc
        cases hj
        exact wpAny_getItem_list_neg hl hneg (by rw [e]; lia) (by lia) (by rw [e]; simpa using hw') ⟨.refl hw, rw'⟩
      · cases hj
    · simp only [hneg, if_false] at hj
      split at hj
      · rename_i hc
        simp only [Bool.and_eq_true, decide_eq_true_eq] at hc
        cases hj
        exact wpAny_getItem_list hl (by (exact Int.not_lt.mp ‹_›)) (by lia) (by simpa using hw') ⟨.refl hw, rw'⟩
      · cases hj
theorem Itm.tup {ds : List D} {i : Int} {j : Nat} {d : D} (hj : seqIndex? i ds.length = some j) (hd : ds[j]? = some d) (h1 : -(2 ^ 63) ≤ i) (h2 : i < 2 ^ 63) : Itm g k (.tup ds) (.int i) d := by
  refine ⟨?_⟩
  intro A X s E u v value slice hR hw hX ru rv hs
  (first | obtain ⟨_, rfl⟩ := Rep.int_inv rv | obtain ⟨_, rfl⟩ := Rep.str_inv rv | obtain rfl := Rep.bool_inv rv | obtain rfl := Reps.nil_inv rv | obtain rfl := Rep.none_inv rv)
  have inv := Rep.tup_inv ru
  try clear ru
  (refine ex_4_6 (inv) fun l o vs n eqv nX ho hc hd' rs => ?_)
  (first | subst eqv | cases eqv)
  focus
    (refine ex_1_2 (rs.get hd) fun w hw' rw' => ?_)
    exact item_tupleT ⟨o, ho, hc, n, hd'⟩ h1 h2 (by rw [rs.length]; exact hj) hw' ⟨.refl hw, rw'⟩ hs
theorem Itm.str {x : Str} {i : Int} {c : Nat} (hc : (seqIndex? i x.length).bind (x.cps[·]?) = some c) (h1 : -(2 ^ 63) ≤ i) (h2 : i < 2 ^ 63) : Itm g k (.str x) (.int i) (.str ⟨#[c]⟩) := by
  refine ⟨?_⟩
  intro A X s E u v value slice hR hw hX ru rv hs
  (first | obtain ⟨_, rfl⟩ := Rep.int_inv rv | obtain ⟨_, rfl⟩ := Rep.str_inv rv | obtain rfl := Rep.bool_inv rv | obtain rfl := Reps.nil_inv rv | obtain rfl := Rep.none_inv rv); (first | obtain ⟨_, rfl⟩ := Rep.int_inv ru | obtain ⟨_, rfl⟩ := Rep.str_inv ru | obtain rfl := Rep.bool_inv ru | obtain rfl := Reps.nil_inv ru | obtain rfl := Rep.none_inv ru)
  refine tail_any (typeIs_str _ _ _) PySem.F.slot_str_getitem.lookup (PyProof.Rows.getItem_str (by simp; lia) hc ⟨.toks hw, .str _ _⟩) hs
theorem dict_get {K : Type} [DecidableEq K] {knd : KeyKind pg g.w K} {A : Around} {X : Addr → Prop} {s : Shared} {E : Value → Shared → Prop} {a : Addr} {o : Obj} {kvs : List (K × Value)} {fs : List (K × D)} {key : Value} {x : K} {d : D} {i : Nat} {value slice : Expr} (hw : Wd g s)
    (ho : s.heap.get? a = some o) (hdd : o.IsDictOf knd kvs) (hk : kvs.map (·.1) = fs.map (·.1)) (rs : Reps g X s.heap (kvs.map (·.2)) (fs.map (·.2))) (hkey : knd.is x key = true) (hi : fs[i]? = some (x, d)) (hs : subscripted slice false (.ref a) key = operate [.ref a, key] (getItem (.ref a) key)) :
    wpAny g.M A (subscriptTail value slice (.ref a) key) (fun r s' => Kp g s s' ∧ Rep g X s'.heap r d) E s := by
  obtain ⟨v, hv⟩ := keys_get hk hi
  (refine ex_1_2 (rs.get (i := i) (d := d) (by rw [List.getElem?_map, hi]; rfl)) fun u hu ru => ?_)
  rw [List.getElem?_map, hv] at hu
  cases hu
  have hD : s.heap.DictOf knd a kvs := Heap.dictOf_iff.mpr ⟨o, ho, hdd⟩
  (refine ex_2_5 (hdd) fun es ep _ _ _ _ hnd => ?_)
  exact tail_any hD.typeIs slot_dict_getitem.lookup (wpAny_getItem_of hkey hD.mapOf (valueAt_of_get hnd hv) ⟨.toks hw, ru⟩) hs
theorem Itm.sd {fs : List (Str × D)} {x : Str} {d : D} {i : Nat} (hi : fs[i]? = some (x, d)) : Itm g k (.sd fs) (.str x) d := by
  refine ⟨?_⟩
  intro A X s E u v value slice hR hw hX ru rv hs
  have inv := Rep.str_inv rv
  try clear rv
  obtain ⟨t, eqv⟩ := inv
  (first | subst eqv | cases eqv)
  focus
    have inv := Rep.sd_inv ru
    try clear ru
    (refine ex_3_7 (inv) fun a o kvs eqv nX nS ho hdd hk rs => ?_)
    (first | subst eqv | cases eqv)
    exact dict_get hw ho hdd hk rs (strKind_is pg g.w x t) hi hs
theorem Itm.idd {fs : List (Int × D)} {x : Int} {d : D} {i : Nat} (hi : fs[i]? = some (x, d)) : Itm g k (.idd fs) (.int x) d := by
  refine ⟨?_⟩
  intro A X s E u v value slice hR hw hX ru rv hs
  have inv := Rep.int_inv rv
  try clear rv
  obtain ⟨t, eqv⟩ := inv
  (first | subst eqv | cases eqv)
  focus
    have inv := Rep.idd_inv ru
    try clear ru
    (refine ex_3_7 (inv) fun a o kvs eqv nX nS ho hdd hk rs => ?_)
    (first | subst eqv | cases eqv)
    exact dict_get hw ho hdd hk rs (intKind_is pg g.w x t) hi hs
theorem Ev.neg {x : Expr} {pos : Pos} {a : Int} (h : Ev g sc k σ x (.int a)) : Ev g sc k σ (.UnaryOp .USub x pos) (.int (-a)) := by
  refine ⟨?_⟩
  intro env A X s E hE hR hw F
  refine wpAny_UnaryOp (wpAny_mono (h.run env A X s E hE hR hw F) (fun u s₁ h₁ => ?_) fun _ _ e => e)
  obtain ⟨q, r⟩ := h₁
  (first | obtain ⟨_, rfl⟩ := Rep.int_inv r | obtain ⟨_, rfl⟩ := Rep.str_inv r | obtain rfl := Rep.bool_inv r | obtain rfl := Reps.nil_inv r | obtain rfl := Rep.none_inv r)
  exact PyProof.Rows.neg_int ⟨q.trans (.toks q.wd), .int _ _⟩
theorem Ev.not {x : Expr} {pos : Pos} {d : D} {b : Bool} (h : Ev g sc k σ x d) (ht : Truth g k d b) : Ev g sc k σ (.UnaryOp .Not x pos) (.bool (!b)) := by
  refine ⟨?_⟩
  intro env A X s E hE hR hw F
  refine wpAny_UnaryOp (wpAny_mono (h.run env A X s E hE hR hw F) (fun u s₁ h₁ => ?_) fun _ _ e => e)
  refine not_of (wpAny_mono (ht.run A X s₁ E u hR h₁.1.wd (F.kp h₁.1).xok h₁.2) (fun c s₂ h₂ => ?_) fun _ _ e => e)
  obtain ⟨q, rfl⟩ := h₂
  exact ⟨h₁.1.trans q, .bool _⟩
theorem Tr.and2 {x y : Expr} {pos : Pos} {a b : Bool} (hx : Tr g sc k σ x a) (hy : a = true → Tr g sc k σ y b) : Tr g sc k σ (.BoolOp .And [x, y] pos) (a && b) := by
  refine ⟨?_⟩
  intro env A X s E hE hR hw F
  refine wpAny_isTrue_BoolOp (wpAny_allTrue_And_cons (wpAny_mono (hx.run env A X s E hE hR hw F) (fun c s₁ h₁ => ?_) fun _ _ e => e))
  obtain ⟨q, rfl⟩ := h₁
  cases c with
  | false => exact ⟨q, rfl⟩
  | true =>
    refine wpAny_allTrue_And_cons (wpAny_mono ((hy rfl).run env A X s₁ E hE hR q.wd (F.kp q)) (fun c s₂ h₂ => ?_) fun _ _ e => e)
    obtain ⟨q', rfl⟩ := h₂
    cases c with
    | false => exact ⟨q.trans q', rfl⟩
    | true => exact wpAny_allTrue_And_nil ⟨q.trans q', rfl⟩
theorem Tr.or2 {x y : Expr} {pos : Pos} {a b : Bool} (hx : Tr g sc k σ x a) (hy : a = false → Tr g sc k σ y b) : Tr g sc k σ (.BoolOp .Or [x, y] pos) (a || b) := by
  refine ⟨?_⟩
  intro env A X s E hE hR hw F
  refine wpAny_isTrue_BoolOp (wpAny_allTrue_Or_cons (wpAny_mono (hx.run env A X s E hE hR hw F) (fun c s₁ h₁ => ?_) fun _ _ e => e))
  obtain ⟨q, rfl⟩ := h₁
  cases c with
  | true => exact ⟨q, rfl⟩
  | false =>
    refine wpAny_allTrue_Or_cons (wpAny_mono ((hy rfl).run env A X s₁ E hE hR q.wd (F.kp q)) (fun c s₂ h₂ => ?_) fun _ _ e => e)
    obtain ⟨q', rfl⟩ := h₂
    cases c with
    | true => exact ⟨q.trans q', rfl⟩
    | false => exact wpAny_pure ⟨q.trans q', rfl⟩

theorem getL_of {X : Addr → Prop} {h : Heap} {x : Str} : ∀ {es : List DictEntry} {fs : List (Str × D)}, es.map (fun e => keyStr e.key) = fs.map (fun f => some f.1) → Reps g X h (es.map (·.val)) (fs.map (·.2)) →
    (∀ d, fs.lookup x = some d → ∃ v, getL x es = some (some v) ∧ Rep g X h v d) ∧ (fs.lookup x = none → getL x es = some none)
  | [], [], _, _ => ⟨fun d hd => by simp at hd, fun _ => rfl⟩
  | [], _ :: _, h1, _ => by simp at h1
  | _ :: _, [], h1, _ => by simp at h1
  | e :: es, (n, d₀) :: fs, h1, h2 => by
    simp only [List.map_cons, List.cons.injEq] at h1
    have inv := Reps.cons_inv h2
    try clear h2
    (refine ex_2_3 (inv) fun _ _ eqv a r => ?_)
    (first | subst eqv | cases eqv)
    focus
      obtain ⟨ih1, ih2⟩ := getL_of (x := x) h1.2 r
      obtain ⟨hs, key, val⟩ := e
      have hkey : ∃ t, key = .str n t := by
        have := h1.1
        cases key <;> simp [keyStr] at this
        subst this; exact ⟨_, rfl⟩
      obtain ⟨t, rfl⟩ := hkey
      have hrk : (DictEntry.refKey ⟨hs, .str n t, val⟩) = false := rfl
      have hstep : getL x (⟨hs, .str n t, val⟩ :: es) = if n == x then some (some val) else getL x es := by
        unfold getL
        rw [List.find?_cons]
        have e1 : (Value.str n t).isStr x = (n == x) := rfl
        simp only [e1]
        cases hb : n == x with
        | true => rfl
        | false => simp [hrk]
      rw [hstep]
      rw [List.lookup_cons]
      cases hb : x == n with
      | true =>
        have : (n == x) = true := by rw [beq_iff_eq] at hb ⊢; exact hb.symm
        rw [this]
        exact ⟨fun d hd => by cases hd; exact ⟨val, rfl, a⟩, fun h => by cases h⟩
      | false =>
        have : (n == x) = false := by rw [beq_eq_false_iff_ne] at hb ⊢; exact Ne.symm hb
        rw [this]
        exact ⟨ih1, ih2⟩
theorem Ev.attr {x attr : Str} {xp pos : Pos} {fs : List (Str × D)} {d : D} {at' : Option Value} (hx : Ev g sc k σ (.Name x xp) (.inst fs)) (hd : fs.lookup attr = some d) (hp : d ≠ .none ∨ True)
    (hga : findIn (KK g.w) (.ref 76) "__getattribute__" = some (some (.builtin "object.__getattribute__")) := by kernel_rfl) (hh : hasDictIn (KK g.w) 76 = true := by kernel_rfl) (ha : findIn (KK g.w) (.ref 76) attr = some at' := by kernel_rfl) (hn : noGet (KK g.w) at' = true := by kernel_rfl) :
    Ev g sc k σ (.Attribute (.Name x xp) attr pos) d := by
  refine ⟨?_⟩
  intro env A X s E hE hR hw F
  refine Attribute_Name_ (wpAny_mono (hx.run env A X s E hE hR hw F) (fun u s₁ h₁ => ?_) fun _ _ e => e)
  obtain ⟨q, r⟩ := h₁
  have inv := Rep.inst_inv r
  try clear r
  (refine ex_4_7 (inv) fun x dx es n eqv nx nd hx hdx hk rs => ?_)
  (first | subst eqv | cases eqv)
  focus
    (refine ex_1_2 ((getL_of hk rs).1 d hd) fun v hv rv => ?_)
    have I : PySem.W.InstAt s₁.heap x (instObj 76 dx) 76 (some (dictOf es n)) := ⟨hx, rfl, rfl, hdx⟩
    refine get_value q.wd.kin I hga (findObj_own hh ha hn (by rw [lookIn_dict]; exact hv)) ?_ ⟨q.trans (.toks q.wd), rv⟩
    cases rv <;> rfl
theorem Mth.inst {fs : List (Str × D)} {name : Str} {f : Addr} (hn : fs.lookup name = none) (hga : findIn (KK g.w) (.ref 76) "__getattribute__" = some (some (.builtin "object.__getattribute__")) := by kernel_rfl) (hgt : findIn (KK g.w) (.ref 76) "__getattr__" = some none := by kernel_rfl)
    (hf : findIn (KK g.w) (.ref 76) name = some (some (.ref f)) := by kernel_rfl) (ht : typeIn (KK g.w) (.ref f) = some (.type "function") := by kernel_rfl) : Mth g k (.inst fs) name (.ref f) := by
  refine ⟨?_⟩
  intro A X s E u pl Q hR hw hX r h
  have inv := Rep.inst_inv r
  try clear r
  (refine ex_4_7 (inv) fun x dx es n eqv nx nd hx hdx hk rs => ?_)
  (first | subst eqv | cases eqv)
  focus
    have I : PySem.W.InstAt s.heap x (instObj 76 dx) 76 (some (dictOf es n)) := ⟨hx, rfl, rfl, hdx⟩
    have hl := (getL_of (x := name) hk rs).2 hn
    exact method_fn hw.kin I hga hgt hf ht (by show (lookIn name (dictOf es n)).map _ = _; rw [lookIn_dict, hl]; rfl) (h s (.refl hw))
theorem Ev.methF {o : Expr} {name : Str} {apos pos : Pos} {f : Addr} {e₀ : Expr} {es : List Expr} {a : D} {ds : List D} {d : D} (ho : Ev g sc k σ o a) (hm : Mth g k a name (.ref f)) (hs : Evs g sc k σ (e₀ :: es) ds) (hc : Fn g k f (a :: ds) d) (hk : keepIn (KK g.w) (.ref f) = true := by kernel_rfl)
    (hbase : ∀ env, attributeBase o name env (eval o env) = eval o env := by walk_at "w1") (hfew : ∀ env, methodCallForm ((e₀ :: es).length + 0) (backTo pos (starEach (e₀ :: es) env)) (backToKw pos (keywordEach [] env)) = true := by walk_at "w1") (hline : (apos.endLine == pos.line) = true := by kernel_rfl)
    (hplain : ∀ env pos, (backTo pos (starEach (e₀ :: es) env)).any (·.1) = false := by walk_at "w2") (hst : ∀ env, starEach (e₀ :: es) env = (false, eval e₀ env) :: starEach es env := by walk_at "w1") :
    Ev g sc k σ (.Call (.Attribute o name apos) (e₀ :: es) [] pos) d := by
  refine ⟨?_⟩
  intro env A X s E hE hR hw F
  refine method_wp (hbase env) (hfew env) hline (wpAny_mono (ho.run env A X s E hE hR hw F) (fun u s₁ h₁ => ?_) fun _ _ e => e)
  have F₁ := F.kp h₁.1
  refine hm.run A X s₁ E u _ _ hR h₁.1.wd F₁.xok h₁.2 fun s₂ q => ?_
  have F₂ := F₁.kp q
  refine args_wp hE hR q.wd F₂ (keeps_K hk) hs hplain hst fun vs s' q' r => ?_
  refine wpAny_mono (hc.run A X s' E (u :: vs) hR q'.wd (F₂.kp q').xok (.cons ((h₁.2.ext F.pl q.ext).ext F.pl q'.ext) r)) (fun v s'' h => ⟨((h₁.1.trans q).trans q').trans h.1, h.2⟩) fun _ _ e => e
theorem Ev.methF0 {o : Expr} {name : Str} {apos pos : Pos} {f : Addr} {a d : D} (ho : Ev g sc k σ o a) (hm : Mth g k a name (.ref f)) (hc : Fn g k f [a] d) (hk : keepIn (KK g.w) (.ref f) = true := by kernel_rfl)
    (hbase : ∀ env, attributeBase o name env (eval o env) = eval o env := by walk_at "w1") (hline : (apos.endLine == pos.line) = true := by kernel_rfl) :
    Ev g sc k σ (.Call (.Attribute o name apos) [] [] pos) d := by
  refine ⟨?_⟩
  intro env A X s E hE hR hw F
  refine method_wp (hbase env) rfl hline (wpAny_mono (ho.run env A X s E hE hR hw F) (fun u s₁ h₁ => ?_) fun _ _ e => e)
  have F₁ := F.kp h₁.1
  refine hm.run A X s₁ E u _ _ hR h₁.1.wd F₁.xok h₁.2 fun s₂ q => ?_
  refine args_wp0 q.wd (keeps_K hk) ?_
  refine wpAny_mono (hc.run A X s₂ E [u] hR q.wd (F₁.kp q).xok (.one (h₁.2.ext F.pl q.ext))) (fun v s'' h => ⟨(h₁.1.trans q).trans h.1, h.2⟩) fun _ _ e => e
end
section
variable {g : Gw} {k : Nat} {sc : Scope} {σ : Sto} {env : Env} {X : Addr → Prop} {s : Shared}

noncomputable def D.flat : D → Bool
  | .none | .bool _ | .int _ | .str _ => true
  | _ => false
theorem Rep.flat {X X' : Addr → Prop} {h h' : Heap} {v : Value} {d : D} (r : Rep g X h v d) (hd : d.flat = true) : Rep g X' h' v d := by
  cases r <;> first | exact .none | exact .bool _ | exact .int _ _ | exact .str _ _ | (simp [D.flat] at hd)

theorem MRep.settled {h : Heap} {a : Addr} {d : D} {X' : Addr → Prop} (r : MRep g X h a d) (na : ¬ X' a) (hX : ∀ b, ¬ X b → ¬ X' b) : Rep g X' h (.ref a) d := by
  cases d with
  | lst ds => (refine ex_1_2 (r) fun vs zq46 q => ?_; obtain ⟨n, e⟩ := zq46); exact .lst na e rfl rfl (q.mono (fun b _ _ => hX b) fun _ _ _ e => e)
  | sd fs => (refine ex_0_2 (r) fun n zq47 => ?_; refine ex_2_4 (zq47) fun o kvs e a1 a2 q => ?_); exact .sd na n e a1 a2 (q.mono (fun b _ _ => hX b) fun _ _ _ e => e)
  | idd fs => (refine ex_0_2 (r) fun n zq48 => ?_; refine ex_2_4 (zq48) fun o kvs e a1 a2 q => ?_); exact .idd na n e a1 a2 (q.mono (fun b _ _ => hX b) fun _ _ _ e => e)
  | _ => exact r.elim

theorem Fm.view {h : Heap} {x : Str} {d : D} {a : Addr} (F : Fm g env X σ h) (hx : Lk σ x (.m d)) (ha : At env h x (.ref a)) : Fm g env (fun b => X b ∧ b ≠ a) ((x, .v d) :: σ) h := by
  (refine ex_1_2 (F.var x _ hx) fun v av zq49 => ?_; refine ex_1_6 (zq49) fun a' hv xa n1 n2 n3 q => ?_)
  subst hv
  have := av.fn ha
  cases this
  have hX : ∀ b o, h.get? b = some o → ¬ X b → ¬ (X b ∧ b ≠ a) := fun b _ _ nb z => nb z.1
  exact { pf := ⟨F.pf, fun z => n1.1 z.symm⟩, lf := ⟨F.lf, fun z => n1.2.2 z.symm⟩, loc := ⟨F.loc, fun z => n2 z.symm⟩, cel := fun n c hc => ⟨F.cel n c hc, fun z => n3 n c hc z.symm⟩, al := fun b xb => F.al b xb.1, nPF := F.nPF, hiL := F.hiL, cPF := F.cPF, cinj := F.cinj, ns := F.ns
          var := fun y b hy => by
            rcases lookup_cons hy with ⟨rfl, rfl⟩ | ⟨hne, hy⟩
            · exact ⟨.ref a, av, q.settled (fun z => z.2 rfl) fun b nb z => nb z.1⟩
            · (refine ex_1_2 (F.var y b hy) fun u au r => ?_)
              refine ⟨u, au, ?_⟩
              cases b with
              | v e => exact Rep.mono hX (fun _ _ _ e => e) r
              | m e =>
                (refine ex_1_6 (r) fun c e1 xc m1 m2 m3 z => ?_)
                subst e1
                refine ⟨c, rfl, ⟨xc, fun w => ?_⟩, m1, m2, m3, z.mono hX (fun _ _ _ e => e) fun _ e => e⟩
                subst w
                exact hne (F.sole y x e d c hy hx au av)
          sole := fun y z e e' c h1 h2 h3 h4 => by
            rcases lookup_cons h1 with ⟨_, hb⟩ | ⟨_, h1⟩
            · cases hb
            · rcases lookup_cons h2 with ⟨_, hb⟩ | ⟨_, h2⟩
              · cases hb
              · exact F.sole y z e e' c h1 h2 h3 h4 }
theorem Fm.mAt {h : Heap} {x : Str} {d : D} (F : Fm g env X σ h) (hx : Lk σ x (.m d)) : ∃ a, At env h x (.ref a) ∧ X a ∧ (a ≠ PF ∧ g.s₁.heap.get? a = none ∧ a ≠ g.lf) ∧ a ≠ env.locals ∧ (∀ n c, env.cells.lookup n = some c → a ≠ c) ∧ MRep g X h a d := by
  (refine ex_1_2 (F.var x _ hx) fun v av zq50 => ?_; refine ex_1_2 (zq50) fun a' hv r => ?_)
  subst hv
  exact ⟨a', av, r⟩

theorem Ev.thaw {x : Str} {e : Expr} {d r : D} (hx : Lk σ x (.m d)) (h : Ev g sc k ((x, .v d) :: σ) e r) (hr : r.flat = true) : Ev g sc k σ e r := by
  refine ⟨?_⟩
  intro env A X s E hE hR hw F
  (refine ex_1_2 (F.mAt hx) fun a ha _ => ?_)
  exact wpAny_mono (h.run env A _ s E hE hR hw (F.view hx ha)) (fun v s' hv => ⟨hv.1, hv.2.flat hr⟩) fun _ _ e => e
theorem Tr.thaw {x : Str} {e : Expr} {d : D} {b : Bool} (hx : Lk σ x (.m d)) (h : Tr g sc k ((x, .v d) :: σ) e b) : Tr g sc k σ e b := by
  refine ⟨?_⟩
  intro env A X s E hE hR hw F
  (refine ex_1_2 (F.mAt hx) fun a ha _ => ?_)
  exact h.run env A _ s E hE hR hw (F.view hx ha)
theorem Ex.freeze {x : Str} {d : D} {stmts : List Stmt} {Q : Fl → Prop} (hx : Lk σ x (.m d)) (h : Ex g sc k ((x, .v d) :: σ) stmts Q) : Ex g sc k σ stmts Q := by
  refine ⟨?_⟩
  intro env A s₀ X₀ pr tv td s E hE hR hX S
  obtain ⟨X, S⟩ := S
  (refine ex_1_2 (S.F.mAt hx) fun a ha _ => ?_)
  have fa := S.fm x d a hx ha
  refine h.run env A s₀ X₀ pr tv td s E hE hR hX ⟨fun b => X b ∧ b ≠ a, { wd := S.wd, ext := S.ext, sub := fun b xb => ⟨S.sub b xb, fun z => ?_⟩, new := fun b xb => S.new b xb.1, fl := S.fl, fc := S.fc, fm := fun y e b hy hb => ?_, pr := fun p hp => ?_, tm := S.tm.mono (fun b _ _ nb z => nb z.1) fun _ _ _ e => e, F := S.F.view hx ha }⟩
  · subst z; obtain ⟨o, ho⟩ := hX.al b xb; rw [fa.1] at ho; cases ho
  · rcases lookup_cons hy with ⟨_, h⟩ | ⟨_, hy⟩
    · cases h
    · exact S.fm y e b hy hb
  · (refine ex_0_3 (S.pr p hp) fun a1 a2 a3 => ?_)
    exact ⟨a1, ⟨a2, fa.2 p hp⟩, a3⟩

structure EvF (g : Gw) (sc : Scope) (k : Nat) (σ : Sto) (e : Expr) (d : D) : Prop where
  run : ∀ (env : Env) (A : Around) (X : Addr → Prop) (s : Shared) (E : Value → Shared → Prop), EnvOk sc env → Room g k A → Wd g s → Fm g env X σ s.heap →
    wpAny g.M A (eval e env) (fun v s' => Kp g s s' ∧ ∃ a, v = .ref a ∧ s.heap.get? a = none ∧ MRep g (fun b => X b ∨ b ∈ [a]) s'.heap a d) E s
theorem Kp.none_of {s s' : Shared} (q : Kp g s s') {b : Addr} (h : s'.heap.get? b = none) : s.heap.get? b = none := by
  cases e : s.heap.get? b with
  | none => rfl
  | some o => rw [q.ext.none (q.wd.nPF h) h] at e; cases e
theorem EvF.list {es : List Expr} {pos : Pos} {ds : List D} (h : Evs g sc k σ es ds) (hz : ds.length ≤ sizeLine := by walk_at "wd") : EvF g sc k σ (.List es pos) (.lst ds) := by
  refine ⟨?_⟩
  intro env A X s E hE hR hw F
  refine List_ (wpAny_mono (h.run env A X s E pos hE hR hw F) (fun vs s₁ h₁ => ?_) fun _ _ e => e)
  refine wpAny_newObj_type ⟨h₁.1.trans (.push h₁.1.wd), s₁.heap.objs.size, rfl, h₁.1.none_of (get_size _), vs, ⟨0, Heap.get?_push_size _ rfl⟩, h₁.2.mono (fun b o e nb z => by
    rcases z with z | z
    · exact nb z
    · rw [List.mem_singleton] at z; rw [z, get_size] at e; cases e) fun _ _ _ e => Heap.get?_push_of_some _ e⟩ (by show vs.toArray.size ≤ sizeLine; rw [List.size_toArray, h₁.2.length]; exact hz)

theorem Ex.newM {x : Str} {px pos : Pos} {value : Expr} {rest : List Stmt} {Q : Fl → Prop} {d : D} (h : EvF g sc k σ value d) (hq : Ex g sc k ((x, .m d) :: σ) rest Q)
    (hs : ∀ env, EnvOk sc env → swapsWithSole [.Name x px] value pos.line env = pure false := by walk_at "w2")
    (hx : sc.names.lookup x = some .local ∨ sc.names.lookup x = some .cell := by walk_at "wc") : Ex g sc k σ (.Assign [.Name x px] value pos :: rest) Q := by
  refine Ex.go ⟨?_⟩
  intro env A s₀ X₀ pr tv td s E hE hR hX S
  obtain ⟨X, S⟩ := S
  refine wpAny_Assign_stores (wpAny_mono (h.run env A X s E hE hR S.wd S.F) (fun v s₁ hv => ?_) fun _ _ e => e) (hs env hE) rfl
  (refine ex_0_2 (hv) fun q zq51 => ?_; refine ex_1_3 (zq51) fun a zq52 fa r => ?_; (first | subst zq52 | cases zq52))
  show wpAny _ A (PySem.assign (.Name x px) env (.ref a)) _ _ _
  have al : ∃ o, s₁.heap.get? a = some o := by
    cases d with
    | lst ds => (refine ex_1_2 (r) fun vs zq53 _ => ?_; obtain ⟨n, e⟩ := zq53); exact ⟨_, e⟩
    | sd fs => (refine ex_0_2 (r) fun _ zq54 => ?_; refine ex_2_2 (zq54) fun o _ e _ => ?_); exact ⟨_, e⟩
    | idd fs => (refine ex_0_2 (r) fun _ zq55 => ?_; refine ex_2_2 (zq55) fun o _ e _ => ?_); exact ⟨_, e⟩
    | _ => exact r.elim
  (refine ex_1_2 (S.grow (wr := [a]) (vs₀ := []) (ds₀ := []) q (fun b hb => by rw [List.mem_singleton] at hb; subst hb; exact ⟨fa, al⟩) .nil) fun pw e1 S₁ => ?_)
  have npl : ¬ Place env a := fun p => by obtain ⟨o, ho⟩ := S.F.al a (S.F.placeX p); rw [fa] at ho; cases ho
  have S₂ : StX g env s₀ X₀ pr tv td (fun b => X b ∨ b ∈ [a]) σ s₁ := { S₁ with fm := fun x d a hx ha => ⟨(S₁.fm x d a hx ha).1, fun p hp => (S₁.fm x d a hx ha).2 p (List.mem_append_right _ hp)⟩, pr := fun p hp => S₁.pr p (List.mem_append_right _ hp), tm := by simpa using S₁.tm }
  have rB : BRep g env (fun b => X b ∨ b ∈ [a]) s₁.heap (.ref a) (.m d) := ⟨a, rfl, .inr (.head _), ⟨S.wd.nPF fa, S.wd.hi fa, S.F.xok.nlf fa⟩, (Place.not_of npl).1, fun n c hc z => (Place.not_of npl).2 n (z ▸ hc), r⟩
  have old : ∀ y e, σ.lookup y = some (.m e) → ¬ At env s₁.heap y (.ref a) := fun y e hy hat => by
    (refine ex_1_3 (S.F.mAt hy) fun c hc xc _ => ?_)
    have := (hc.ext q.ext S.F.nPF fun n c hc => (S.F.cPF n c hc).1).fn hat
    cases this
    obtain ⟨o, ho⟩ := S.F.al a xc
    rw [fa] at ho; cases ho
  have f₀ : s₀.heap.get? a = Option.none := by
    cases e : s₀.heap.get? a with
    | none => rfl
    | some o => rw [S.ext.none (S.wd.nPF fa) fa] at e; cases e
  refine wpAny_assign_Name (store_wp S₂.wd S₂.F (hE.scp ▸ hE.kind) ?_ rB (fun _ _ y e hy _ => old y e hy) fun s₂ w₂ F₂ hk hat hatx => ⟨_, hq, _, S₂.put' w₂ F₂ (fun b o hp e => hk b o (Place.not_of hp).1 ((Place.not_of hp).2 x) e) fun y e b hy hb => ?_⟩)
  · rcases hx with hx | hx
    · exact .inl (by unfold Env.kindOf; rw [hE.scp]; exact hx)
    · exact .inr ⟨by unfold Env.kindOf; rw [hE.scp]; exact hx, hE.cells x hx⟩
  · rcases lookup_cons hy with ⟨rfl, hb'⟩ | ⟨hne, hy⟩
    · cases hb'
      have e2 : b = a := by have := hb.fn hatx; cases this; rfl
      subst e2
      exact ⟨f₀, fun p hp z => by have := (S.pr p hp).1; rw [z, fa] at this; cases this⟩
    · (refine ex_1_2 (S₂.F.var y _ hy) fun u au _ => ?_)
      have := (hat y u hne au).fn hb
      subst this
      exact S₂.fm y e b hy au

theorem name_at {x : Str} {pos : Pos} {v : Value} {A : Around} {E : Value → Shared → Prop} {Q : Value → Shared → Prop} (hE : EnvOk sc env) (a : At env s.heap x v) (h : Q v s) (hd : (x == ("__debug__" : Str)) = false) (hcd : (x == ("__classdict__" : Str)) = false) : wpAny g.M A (eval (.Name x pos) env) Q E s := by
  refine wpAny_Name ?_ hd
  have hk : env.scope.kind = .function := hE.scp ▸ hE.kind
  rcases a with ⟨kd, m, hn, hm⟩ | ⟨kd, c, hc, ho⟩
  · exact wpAny_loadName_local hk kd hn hm h
  · rcases kd with kd | kd
    · exact wpAny_loadName_cell hk kd hc ho h
    · exact wpAny_loadName_free hk kd hc ho h hcd

theorem StX.mut {s₀ : Shared} {X₀ : Addr → Prop} {pr : List (Addr × Obj)} {tv : List Value} {td : List D} {x : Str} {a : Addr} {d d' : D} {h' : Heap} {t : Nat} (S : StX g env s₀ X₀ pr tv td X σ s) (hx : Lk σ x (.m d)) (ha : At env s.heap x (.ref a)) (hs : Heap.SameBut a s.heap h') (r : MRep g X h' a d') :
    StX g env s₀ X₀ pr tv td X ((x, .m d') :: σ) { s with heap := h', toks := t } := by
  (refine ex_1_6 (S.F.mAt hx) fun a' ha' xa n1 n2 n3 q => ?_)
  have := ha'.fn ha
  cases this
  have fa := S.fm x d a hx ha
  have hkX : ∀ b o, ¬ X b → s.heap.get? b = some o → h'.get? b = some o := fun b o nb e => (hs.2 b fun z => nb (z ▸ xa)).trans e
  have npl : ∀ q, Place env q → q ≠ a := by
    rintro q (rfl | ⟨n, hn⟩)
    · exact Ne.symm n2
    · exact Ne.symm (n3 n q hn)
  have hat : ∀ {y v}, At env s.heap y v → At env h' y v := by
    rintro y v (⟨kd, m, hn, e⟩ | ⟨kd, c, hc, o, ho, e⟩)
    · exact .inl ⟨kd, m, hn.at' fun o e => (hs.2 _ (npl _ (.inl rfl))).trans e, e⟩
    · exact .inr ⟨kd, c, hc, o, (hs.2 _ (npl _ (.inr ⟨y, hc⟩))).trans ho, e⟩
  have al' : ∃ o, h'.get? a = some o := by
    cases d' with
    | lst ds => (refine ex_1_2 (r) fun vs zq56 _ => ?_; obtain ⟨n, e⟩ := zq56); exact ⟨_, e⟩
    | sd fs => (refine ex_0_2 (r) fun _ zq57 => ?_; refine ex_2_2 (zq57) fun o _ e _ => ?_); exact ⟨_, e⟩
    | idd fs => (refine ex_0_2 (r) fun _ zq58 => ?_; refine ex_2_2 (zq58) fun o _ e _ => ?_); exact ⟨_, e⟩
    | _ => exact r.elim
  refine { wd := S.wd.same (t := t) n1.2 hs, ext := S.ext.then fun b o he e' => (hs.2 b fun z => by obtain ⟨o', e⟩ := he; rw [z, fa.1] at e; cases e).trans e', sub := S.sub, new := S.new, fl := S.fl, fc := S.fc, fm := fun y e b hy hb => ?_, pr := fun p hp => ?_, tm := S.tm.mono (fun _ _ _ x => x) hkX, F := ?_ }
  · rcases lookup_cons hy with ⟨rfl, _⟩ | ⟨_, hy⟩
    · have := (hat ha).fn hb; cases this; exact fa
    · (refine ex_1_2 (S.F.var y _ hy) fun u au _ => ?_)
      have := (hat au).fn hb
      subst this
      exact S.fm y e b hy au
  · (refine ex_0_3 (S.pr p hp) fun a1 a2 a3 => ?_)
    exact ⟨(hs.2 _ (fa.2 p hp)).trans a1, a2, a3⟩
  · exact { pf := S.F.pf, lf := S.F.lf, loc := S.F.loc, cel := S.F.cel, al := fun b xb => by
              by_cases z : b = a
              · subst z; exact al'
              · obtain ⟨o, ho⟩ := S.F.al b xb; exact ⟨o, (hs.2 b z).trans ho⟩
            nPF := S.F.nPF, hiL := S.F.hiL, cPF := fun n c hc => by
              (refine ex_0_4 (S.F.cPF n c hc) fun b1 b2 b3 zq59 => ?_; refine ex_2_2 (zq59) fun v o ho e => ?_)
              exact ⟨b1, b2, b3, v, o, (hs.2 _ (npl _ (.inr ⟨n, hc⟩))).trans ho, e⟩
            cinj := S.F.cinj, ns := by obtain ⟨m, hm⟩ := S.F.ns; exact ⟨m, hm.at' fun o e => (hs.2 _ (npl _ (.inl rfl))).trans e⟩
            var := fun y b hy => by
              rcases lookup_cons hy with ⟨rfl, rfl⟩ | ⟨hne, hy⟩
              · exact ⟨.ref a, hat ha, a, rfl, xa, n1, n2, n3, r⟩
              · (refine ex_1_2 (S.F.var y b hy) fun u au rb => ?_)
                refine ⟨u, hat au, ?_⟩
                cases b with
                | v e => exact Rep.mono (fun _ _ _ x => x) hkX rb
                | m e =>
                  (refine ex_1_6 (rb) fun c e1 xc m1 m2 m3 z => ?_)
                  subst e1
                  refine ⟨c, rfl, xc, m1, m2, m3, z.mono (fun _ _ _ x => x) hkX fun o e' => (hs.2 c fun w => ?_).trans e'⟩
                  subst w
                  exact hne (S.F.sole y x e d c hy hx au ha)
            sole := fun y z e e' c h1 h2 h3 h4 => by
              have key : ∀ {y e}, ((x, B.m d') :: σ).lookup y = some (.m e) → At env h' y (.ref c) → ∃ e₀, σ.lookup y = some (.m e₀) ∧ At env s.heap y (.ref c) := fun {y e} hy hc => by
                rcases lookup_cons hy with ⟨rfl, _⟩ | ⟨_, hy⟩
                · have := (hat ha).fn hc; cases this; exact ⟨d, hx, ha⟩
                · (refine ex_1_2 (S.F.var y _ hy) fun u au _ => ?_)
                  have := (hat au).fn hc
                  subst this
                  exact ⟨e, hy, au⟩
              (refine ex_1_2 (key h1 h3) fun e1 k1 k2 => ?_)
              (refine ex_1_2 (key h2 h4) fun e2 k3 k4 => ?_)
              exact S.F.sole y z e1 e2 c k1 k3 k2 k4 }
theorem not_interactive (hE : EnvOk sc env) : interactive env = false := by
  unfold interactive
  rw [hE.scp, hE.kind]; rfl

theorem Ex.append {x : Str} {xp apos cpos pos : Pos} {e : Expr} {ds : List D} {d : D} {rest : List Stmt} {Q : Fl → Prop} (hx : Lk σ x (.m (.lst ds))) (he : Ev g sc k σ e d) (hz : ds.length ≤ sizeLine) (hq : Ex g sc k ((x, .m (.lst (ds ++ [d]))) :: σ) rest Q)
    (hd : (x == ("__debug__" : Str)) = false := by kernel_rfl) (hcd : (x == ("__classdict__" : Str)) = false := by kernel_rfl)
    (hst : ∀ env, starEach [e] env = [(false, eval e env)] := by walk_at "w1") (hline : (apos.endLine == cpos.line) = true := by kernel_rfl) :
    Ex g sc k σ (.Expr (.Call (.Attribute (.Name x xp) "append" apos) [e] [] cpos) pos :: rest) Q := by
  refine Ex.go ⟨?_⟩
  intro env A s₀ X₀ pr tv td s E hE hR hX S
  obtain ⟨X, S⟩ := S
  (refine ex_1_6 (S.F.mAt hx) fun a ha xa n1 n2 n3 zq60 => ?_; refine ex_1_2 (zq60) fun vs hl rs => ?_)
  refine wpAny_Expr_any (method_wp rfl (by unfold methodCallForm; rw [hst]; rfl) hline (name_at hE ha ?_ hd hcd)) (not_interactive hE) rfl
  have hdict : ∀ b, Value.ref a = .ref b → ∃ o, s.heap.get? b = some o ∧ o.dict = none := fun b hb => by
    cases hb; obtain ⟨n, e⟩ := hl; exact ⟨_, e, rfl⟩
  refine getMethod_builtin hl.isList.typeIs PySem.F.plainAttrs_list PySem.F.slot_list_append PySem.F.type_list_append hdict ?_
  refine args_wp hE hR S.wd S.F (fun h _ => keeps_machine (by intro _ h; cases h) h) (Evs.cons he Evs.nil hst) (fun env pos => by rw [hst]; rfl) hst fun us s' q r => ?_
  have inv := Reps.cons_inv r
  try clear r
  (refine ex_2_3 (inv) fun u _ eqv ru rr => ?_)
  (first | subst eqv | cases eqv)
  focus
    (first | obtain ⟨_, rfl⟩ := Rep.int_inv rr | obtain ⟨_, rfl⟩ := Rep.str_inv rr | obtain rfl := Rep.bool_inv rr | obtain rfl := Reps.nil_inv rr | obtain rfl := Rep.none_inv rr)
    have S' := S.kp q
    have ha' := ha.ext q.ext S.F.nPF fun n c hc => (S.F.cPF n c hc).1
    have rs' := rs.ext S.F.pl q.ext
    have hl' : s'.heap.PlainList a vs.toArray := hl.at fun o ho => q.ext.at_ _ _ n1.1 n1.2.2 ho
    refine wpAny_list_append_plain hl' (fun h' hl'' hs' => ⟨_, hq, X, S'.mut hx ha' hs' ⟨vs ++ [u], by simpa using hl'', (rs'.append (.one ru)).mono (fun _ _ _ x => x) fun b o nb e => (hs'.2 b fun z => nb (z ▸ xa)).trans e⟩⟩) (by rw [List.size_toArray, rs.length]; exact hz)
end
section
variable {prog : Program} {w : World} {A : Around} {E : Value → Shared → Prop}
theorem draw_list {it t : Addr} {items : Array Value} (hne : t ≠ it) : ∀ (n i : Nat) (s : Shared) (Q : List Value → Shared → Prop), s.heap.IsListIter it t i → s.heap.IsList t items → i + n ≤ items.size →
    (∀ h', h'.IsListIter it t (i + n) → Heap.SameBut it s.heap h' → Q ((items.toList.drop i).take n) { s with heap := h' }) → wpAny (model prog w) A (draw (.ref it) n) Q E s
  | 0, i, s, Q, hit, _, _, hQ => by
    show wpAny _ _ (pure []) Q E s
    exact wpAny_pure (by simpa using hQ s.heap hit (Heap.SameBut.refl ..))
  | n + 1, i, s, Q, hit, ht, hle, hQ => by
    have hlt : i < items.size := by lia
    show wpAny _ _ (pyNext (.ref it) >>= _) Q E s
    refine wpAny_bind (wpAny_pyNext_list_item hit ht (x := items[i]) (by simp [hlt]) fun h₁ hit₁ hs₁ => ?_)
    refine wpAny_bind (wpAny_holding (draw_list hne n (i + 1) _ _ hit₁ (ht.extBut hs₁.extBut hne) (by lia) fun h₂ hit₂ hs₂ => wpAny_pure ?_))
    have hd : items.toList.drop i = items[i] :: items.toList.drop (i + 1) := by simp [List.drop_eq_getElem_cons, hlt]
    have := hQ h₂ (by rw [show i + (n + 1) = i + 1 + n by lia]; exact hit₂) (hs₁.trans hs₂)
    rw [hd, List.take_succ_cons] at this
    exact this

theorem unpackItems_list {s : Shared} {t : Addr} {items : Array Value} {Q : List Value → Shared → Prop} (hh : A.handled = none) (ht : s.heap.IsList t items)
    (hQ : ∀ h', Heap.ExtBut s.heap.objs.size s.heap h' → Q items.toList { s with heap := h' }) : wpAny (model prog w) A (unpackItems (.ref t) items.size none) Q E s := by
  have hlt : t ≠ s.heap.objs.size := by (refine ex_1_2 (ht) fun o ho _ => ?_); exact Nat.ne_of_lt (Heap.lt_size ho)
  unfold unpackItems
  refine wpAny_bind ?_
  · unfold notIterableAtAll
    refine wpAny_bind (wpAny_specialOf ht.typeIs PySem.F.slot_list_iter.lookup ?_)
    refine wpAny_pure ?_
    simp only [Bool.false_eq_true, if_false]
    refine wpAny_bind (wpAny_holding (wpAny_pyIter_list ht ?_))
    refine wpAny_bind (wpAny_holding (draw_list hlt items.size 0 _ _ ⟨_, Heap.get?_push_size _ rfl, rfl, rfl⟩ (ht.push _) (by lia) fun h₁ hit₁ hs₁ => ?_))
    have hall : List.take items.size (List.drop 0 items.toList) = items.toList := by
      rw [List.drop_zero]; exact List.take_of_length_le (by simp)
    rw [hall]
    rw [if_neg (by simp)]
    have ht₁ : h₁.IsList t items := (ht.push _).extBut hs₁.extBut hlt
    refine wpAny_bind (wpAny_holding (wpAny_pyNext_list_end hh hit₁ ht₁ (by simp) fun h₂ he₂ => ?_))
    simp only [Option.isSome_none, Bool.false_eq_true, if_false]
    refine wpAny_pure (hQ h₂ fun b o hb e => he₂ b o hb (hs₁.extBut b o hb (Heap.get?_push_of_some _ e)))

theorem assign_Tuple_list {s : Shared} {env : Env} {elts : List Expr} {x1} {pos : Pos} {t : Addr} {items : Array Value} {Q : Unit → Shared → Prop} (hh : A.handled = none) (ht : s.heap.IsList t items)
    (hn : (assignEach elts env).length = items.size) (hstar : (assignEach elts env).findIdx? (·.1) = none)
    (h : ∀ h', Heap.ExtBut s.heap.objs.size s.heap h' → wpAny (model prog w) A (assignInOrder ((assignEach elts env).map (·.2)) items.toList) Q E { s with heap := h' }) :
    wpAny (model prog w) A (assign (.Tuple elts x1 pos) env (.ref t)) Q E s := by
  rw [arm_assign_Tuple]
  refine wpAny_bind (wpAny_standAt ?_)
  unfold unpack
  rw [hn, hstar]
  exact wpAny_bind (wpAny_holding (unpackItems_list hh ht h))
end

section
variable {g : Gw} {k : Nat} {sc : Scope} {σ σ' : Sto} {env : Env} {X : Addr → Prop} {s : Shared}

structure Ass (g : Gw) (sc : Scope) (k : Nat) (ts : List Expr) (ds : List D) (σ σ' : Sto) (ns : List Str) : Prop where
  each : ∀ env, assignEach ts env = ts.map fun t => (false, PySem.assign t env)
  run : ∀ (env : Env) (A : Around) (X : Addr → Prop) (s : Shared) (E : Value → Shared → Prop) (vs : List Value), EnvOk sc env → Room g k A → Wd g s → Fm g env X σ s.heap → Reps g X s.heap vs ds →
    wpAny g.M A (assignInOrder (ts.map fun t => PySem.assign t env) vs) (fun _ s' => Wd g s' ∧ Fm g env X σ' s'.heap ∧ (∀ b o, b ≠ env.locals → (∀ n ∈ ns, env.cells.lookup n ≠ some b) → s.heap.get? b = some o → s'.heap.get? b = some o) ∧
      ∀ y u, y ∉ ns → At env s.heap y u → At env s'.heap y u) E s
  len : ts.length = ds.length
  mm : ∀ y e, σ'.lookup y = some (.m e) → σ.lookup y = some (.m e) ∧ y ∉ ns
theorem Ass.nil : Ass g sc k [] [] σ σ [] := by
  refine ⟨fun _ => rfl, ?_, rfl, fun _ _ h => ⟨h, by simp⟩⟩
  intro env A X s E vs hE hR hw F r
  (first | obtain ⟨_, rfl⟩ := Rep.int_inv r | obtain ⟨_, rfl⟩ := Rep.str_inv r | obtain rfl := Rep.bool_inv r | obtain rfl := Reps.nil_inv r | obtain rfl := Rep.none_inv r)
  exact wpAny_assignInOrder_none ⟨hw, F, fun _ _ _ _ e => e, fun _ _ _ a => a⟩
theorem Ass.cons {x : Str} {px : Pos} {ts : List Expr} {d : D} {ds : List D} {ns : List Str} (h : Ass g sc k ts ds ((x, .v d) :: σ) σ' ns)
    (hx : sc.names.lookup x = some .local ∨ sc.names.lookup x = some .cell := by walk_at "wc") : Ass g sc k (.Name x px :: ts) (d :: ds) σ σ' (x :: ns) := by
  refine ⟨fun env => ?_, ?_, by simp [h.len], fun y e hy => ?_⟩
  rotate_left 2
  · obtain ⟨a, b⟩ := h.mm y e hy
    rcases lookup_cons a with ⟨_, hb⟩ | ⟨hne, hz⟩
    · cases hb
    · exact ⟨hz, fun z => by
        rcases List.mem_cons.mp z with z | z
        · exact hne z
        · exact b z⟩
  · show (false, PySem.assign (.Name x px) env) :: assignEach ts env = _
    rw [h.each env]; rfl
  intro env A X s E vs hE hR hw F r
  have inv := Reps.cons_inv r
  try clear r
  (refine ex_2_3 (inv) fun v vs eqv rv rs => ?_)
  (first | subst eqv | cases eqv)
  focus
    refine wpAny_assignInOrder_more (wpAny_mono ((As.name (k := k) (pos := px) (d := d) hx).run env A X s E v hE hR hw F rv) (fun _ s₁ h₁ => ?_) fun _ _ e => e)
    (refine ex_0_4 (h₁) fun w₁ F₁ hk₁ hat₁ => ?_)
    have rs' : Reps g X s₁.heap vs ds := rs.mono (fun _ _ _ x => x) fun a o na e => hk₁ a o (fun z => na (z ▸ F.loc)) (fun n hn z => na (F.cel n a z)) e
    refine wpAny_mono (h.run env A X s₁ E vs hE hR w₁ F₁ rs') (fun _ s₂ h₂ => ?_) fun _ _ e => e
    (refine ex_0_4 (h₂) fun w₂ F₂ hk₂ hat₂ => ?_)
    refine ⟨w₂, F₂, fun b o hb hn e => hk₂ b o hb (fun n hn' => hn n (.tail _ hn')) (hk₁ b o hb (fun n hn' => by rw [List.mem_singleton] at hn'; subst hn'; exact hn n (.head _)) e), fun y u hy a => ?_⟩
    exact hat₂ y u (fun z => hy (.tail _ z)) (hat₁ y u (fun z => hy (by rw [List.mem_singleton] at z; subst z; exact .head _)) a)
theorem ext_of_size {h h' : Heap} (x : Heap.ExtBut h.objs.size h h') : ∀ b o, h.get? b = some o → h'.get? b = some o := fun b o e => x b o (Nat.ne_of_lt (Heap.lt_size e)) e
theorem findIdx_none {ts : List Expr} : (ts.map fun t => (false, PySem.assign t env)).findIdx? (·.1) = Option.none := by
  rw [List.findIdx?_eq_none_iff]
  intro x hx
  (refine ex_1_2 (List.mem_map.mp hx) fun t _ zq61 => ?_; (first | subst zq61 | cases zq61))
  rfl
theorem As.tup {ts : List Expr} {x1} {pos : Pos} {ds : List D} {ns : List Str} (h : Ass g sc k ts ds σ σ' ns) : As g sc k (.Tuple ts x1 pos) (.tup ds) σ σ' ns := by
  refine ⟨?_⟩
  intro env A X s E v hE hR hw F r
  have inv := Rep.tup_inv r
  try clear r
  (refine ex_4_6 (inv) fun a o vs n eqv na ho hc hd rs => ?_)
  (first | subst eqv | cases eqv)
  focus
    refine wpAny_assign_Tuple hR.hd (items := vs.toArray) ⟨o, ho, hc, n, hd⟩ ?_ ?_ fun h' hx => ?_
    · rw [h.each env, List.length_map, h.len, List.size_toArray, rs.length]
    · rw [h.each env]; exact findIdx_none
    · have hk := ext_of_size hx
      have q := Kp.keeps (t := s.toks) hw hk
      rw [h.each env, List.map_map]
      refine wpAny_mono (h.run env A X { s with heap := h' } E vs hE hR q.wd (F.kp q) (rs.ext F.pl q.ext)) (fun _ s₂ h₂ => ?_) fun _ _ e => e
      (refine ex_0_4 (h₂) fun w₂ F₂ hk₂ hat₂ => ?_)
      exact ⟨w₂, F₂, fun b o hb hn e => hk₂ b o hb hn (hk b o e), fun y u hy a => hat₂ y u hy (a.ext q.ext F.nPF fun n c hc => (F.cPF n c hc).1)⟩
theorem As.tupL {ts : List Expr} {x1} {pos : Pos} {ds : List D} {ns : List Str} (h : Ass g sc k ts ds σ σ' ns) : As g sc k (.Tuple ts x1 pos) (.lst ds) σ σ' ns := by
  refine ⟨?_⟩
  intro env A X s E v hE hR hw F r
  have inv := Rep.lst_inv r
  try clear r
  (refine ex_4_6 (inv) fun a o vs n eqv na ho hc hd rs => ?_)
  (first | subst eqv | cases eqv)
  focus
    refine assign_Tuple_list hR.hd (items := vs.toArray) ⟨o, ho, hc, n, hd⟩ ?_ ?_ fun h' hx => ?_
    · rw [h.each env, List.length_map, h.len, List.size_toArray, rs.length]
    · rw [h.each env]; exact findIdx_none
    · have hk := ext_of_size hx
      have q := Kp.keeps (t := s.toks) hw hk
      rw [h.each env, List.map_map]
      refine wpAny_mono (h.run env A X { s with heap := h' } E vs hE hR q.wd (F.kp q) (rs.ext F.pl q.ext)) (fun _ s₂ h₂ => ?_) fun _ _ e => e
      (refine ex_0_4 (h₂) fun w₂ F₂ hk₂ hat₂ => ?_)
      exact ⟨w₂, F₂, fun b o hb hn e => hk₂ b o hb hn (hk b o e), fun y u hy a => hat₂ y u hy (a.ext q.ext F.nPF fun n c hc => (F.cPF n c hc).1)⟩

theorem Ex.tupT {ts : List Expr} {x1} {pt pos : Pos} {value : Expr} {rest : List Stmt} {Q : Fl → Prop} {ds : List D} {ns : List Str} (h : Ev g sc k σ value (.tup ds)) (ha : Ass g sc k ts ds σ σ' ns) (hq : Ex g sc k σ' rest Q)
    (hs : ∀ env, EnvOk sc env → swapsWithSole [.Tuple ts x1 pt] value pos.line env = pure false := by walk_at "w2")
    (hw : ∀ env, EnvOk sc env → swappedStores [.Tuple ts x1 pt] value env = pure none := by walk_at "w2") : Ex g sc k σ (.Assign [.Tuple ts x1 pt] value pos :: rest) Q :=
  Ex.assignT h (As.tup ha) ha.mm hq hs hw fun _ => rfl
theorem Ex.tupL {ts : List Expr} {x1} {pt pos : Pos} {value : Expr} {rest : List Stmt} {Q : Fl → Prop} {ds : List D} {ns : List Str} (h : Ev g sc k σ value (.lst ds)) (ha : Ass g sc k ts ds σ σ' ns) (hq : Ex g sc k σ' rest Q)
    (hs : ∀ env, EnvOk sc env → swapsWithSole [.Tuple ts x1 pt] value pos.line env = pure false := by walk_at "w2")
    (hw : ∀ env, EnvOk sc env → swappedStores [.Tuple ts x1 pt] value env = pure none := by walk_at "w2") : Ex g sc k σ (.Assign [.Tuple ts x1 pt] value pos :: rest) Q :=
  Ex.assignT h (As.tupL ha) ha.mm hq hs hw fun _ => rfl
noncomputable def bnd2 (x y : Str) : D → Sto → Sto
  | .tup [a, b], σ => (y, .v b) :: (x, .v a) :: σ
  | _, σ => σ
noncomputable def bnd3 (x y z : Str) : D → Sto → Sto
  | .tup [a, b, c], σ => (z, .v c) :: (y, .v b) :: (x, .v a) :: σ
  | _, σ => σ

noncomputable def pushAll (d : D) : List (Str × Pos) → Sto → Sto
  | [], σ => σ
  | p :: l, σ => pushAll d l ((p.1, .v d) :: σ)
theorem all_wp {d : D} {v : Value} {A : Around} {s₀ : Shared} {X₀ : Addr → Prop} {pr : List (Addr × Obj)} {tv : List Value} {td : List D} {E : Value → Shared → Prop} (hE : EnvOk sc env) (hR : Room g k A) : ∀ (xs : List (Str × Pos)) (σ : Sto) (s : Shared),
    (∀ p ∈ xs, sc.names.lookup p.1 = some .local ∨ sc.names.lookup p.1 = some .cell) → StX g env s₀ X₀ pr tv td X σ s → Rep g X s.heap v d →
    wpAny g.M A (assignAll v (xs.map fun p => PySem.assign (.Name p.1 p.2) env)) (fun _ s' => StX g env s₀ X₀ pr tv td X (pushAll d xs σ) s') E s
  | [], σ, s, _, S, _ => wpAny_pure S
  | p :: xs, σ, s, hk, S, r => by
    have step : wpAny g.M A (PySem.assign (.Name p.1 p.2) env v) (fun _ s' => StX g env s₀ X₀ pr tv td X ((p.1, .v d) :: σ) s' ∧ Rep g X s'.heap v d) E s := by
      refine wpAny_mono ((As.name (k := k) (pos := p.2) (d := d) (hk p (.head _))).run env A X s E v hE hR S.wd S.F r) (fun _ s₁ h₁ => ?_) fun _ _ e => e
      (refine ex_0_4 (h₁) fun w₁ F₁ hk₁ hat₁ => ?_)
      refine ⟨S.put w₁ F₁ (fun b o hp e => hk₁ b o (Place.not_of hp).1 (fun n _ => (Place.not_of hp).2 n) e) fun y e hy => ?_, r.mono (fun _ _ _ x => x) fun a o na e => hk₁ a o (fun z => na (z ▸ S.F.loc)) (fun n hn z => na (S.F.cel n a z)) e⟩
      rcases lookup_cons hy with ⟨_, hb⟩ | ⟨hne, hy⟩
      · cases hb
      · refine ⟨hy, fun a ha => ?_⟩
        (refine ex_1_2 (S.F.var y _ hy) fun u au _ => ?_)
        have := (hat₁ y u (by simpa using hne) au).fn ha
        subst this
        exact au
    cases xs with
    | nil => exact wpAny_mono step (fun _ _ h => h.1) fun _ _ e => e
    | cons q xs =>
      refine wpAny_bind (wpAny_holding (wpAny_mono step (fun _ s₁ h₁ => ?_) fun _ _ e => e))
      exact all_wp hE hR (q :: xs) _ s₁ (fun p hp => hk p (.tail _ hp)) h₁.1 h₁.2
theorem Ex.all {xs : List (Str × Pos)} {ts : List Expr} {pos : Pos} {value : Expr} {rest : List Stmt} {Q : Fl → Prop} {d : D} (h : Ev g sc k σ value d) (hts : ts = xs.map fun p => .Name p.1 p.2) (hq : Ex g sc k (pushAll d xs σ) rest Q)
    (hx : ∀ p ∈ xs, sc.names.lookup p.1 = some .local ∨ sc.names.lookup p.1 = some .cell)
    (hs : ∀ env, EnvOk sc env → swapsWithSole ts value pos.line env = pure false := by walk_at "w2")
    (hw : ∀ env, EnvOk sc env → swappedStores ts value env = pure none := by walk_at "w2")
    (he : ∀ env, (assignEach ts env).map (·.2) = xs.map fun p => PySem.assign (.Name p.1 p.2) env := by walk_at "w1") : Ex g sc k σ (.Assign ts value pos :: rest) Q := by
  refine Ex.go ⟨?_⟩
  intro env A s₀ X₀ pr tv td s E hE hR hX S
  obtain ⟨X, S⟩ := S
  refine wpAny_Assign_stores (wpAny_mono (h.run env A X s E hE hR S.wd S.F) (fun v s₁ hv => ?_) fun _ _ e => e) (hs env hE) (hw env hE)
  rw [he env]
  exact wpAny_mono (all_wp hE hR xs σ s₁ hx (S.kp hv.1) hv.2) (fun _ s₂ h₂ => ⟨_, hq, X, h₂⟩) fun _ _ e => e
end
theorem mapSeq_set_plain (its : Array Value) (n j : Nat) (x : Value) :
    ∃ n', Obj.mapSeq (·.setIfInBounds j x) { cls := .type "list", data := .seq its n } = { cls := .type "list", data := .seq (its.setIfInBounds j x) n' } := ⟨_, by rfl⟩
theorem setItem_plain {prog : Program} {w : World} {A : Around} {E : Value → Shared → Prop} {s : Shared} {l : Addr} {items : Array Value} {k : Int} {t : Tok} {v : Value} {Q : Unit → Shared → Prop} (hp : s.heap.PlainList l items)
    (h0 : 0 ≤ k) (hfit : k < 2 ^ 63) (hn : k < items.size)
    (hQ : ∀ h', h'.PlainList l (items.setIfInBounds k.toNat v) → Heap.SameBut l s.heap h' → Q () { s with heap := h' }) :
    wpAny (model prog w) A (setItem (.ref l) (.int k t) v) Q E s := by
  have hl := hp.isList
  obtain ⟨ne, ho⟩ := hp
  unfold setItem
  try with_reducible refine wpAny_holding ?_
  first | refine wpAny_bind (wpAny_pure ?_) | skip
  refine wpAny_bind (wpAny_sequenceKey hl.typeIs (by decide) ?_)
  refine wpAny_bind (wpAny_callSpecial?_slot (name := Str.ofString "__setitem__") hl.typeIs slot_list_setitem
    (wpAny_call_entry slot_list_setitem hl.typeIs entry_list_setitem ?_ (args_list_setitem _ _ _)))
  show wpAny _ _ (Builtin.List.listSubscript? (.int k t) >>= _) _ _ s
  refine wpAny_bind (wpAny_listSubscript_int (fitsIndex_of h0 hfit) ?_)
  clear hfit
  obtain ⟨j, rfl⟩ := Int.eq_ofNat_of_zero_le h0
  have hj : j < items.size := by lia
  have hx' : items[j]? = some items[j] := Array.getElem?_eq_getElem hj
  show wpAny _ _ ((seqItemAt l j >>= fun r => pure (r.map (j, ·))) >>= _) _ _ s
  refine wpAny_bind (wpAny_bind (wpAny_seqItemAt ho rfl (wpAny_pure ?_)))
  rw [hx']
  show wpAny _ _ (setSeqItemAt l j v >>= _) _ _ s
  obtain ⟨n', hd'⟩ := mapSeq_set_plain items ne j v
  have hfin : (s.heap.update l (Obj.mapSeq (·.setIfInBounds j v))).PlainList l (items.setIfInBounds j v) :=
    ⟨n', (Heap.get?_update_self _ ho (by rw [hd']; rfl)).trans (congrArg some hd')⟩
  refine wpAny_bind (wpAny_setSeqItemAt ho rfl ?_)
  first
    | exact wpAny_bind (wpAny_pure (wpAny_pure ⟨.none, rfl, wpAny_pure (hQ _ hfin (Heap.SameBut.update ..))⟩))
    | exact wpAny_pure ⟨.none, rfl, wpAny_pure (hQ _ hfin (Heap.SameBut.update ..))⟩

section
variable {g : Gw} {k : Nat} {sc : Scope} {σ σ' : Sto} {env : Env} {X : Addr → Prop} {s : Shared}

theorem Reps.set {h : Heap} {vs : List Value} {ds : List D} (r : Reps g X h vs ds) {v : Value} {d : D} (a : Rep g X h v d) (n : Nat) : Reps g X h (vs.set n v) (ds.set n d) := by
  induction ds generalizing vs n with
  | nil => (first | obtain ⟨_, rfl⟩ := Rep.int_inv r | obtain ⟨_, rfl⟩ := Rep.str_inv r | obtain rfl := Rep.bool_inv r | obtain rfl := Reps.nil_inv r | obtain rfl := Rep.none_inv r); exact .nil
  | cons e ds ih =>
    have inv := Reps.cons_inv r
    try clear r
    (refine ex_2_3 (inv) fun _ _ eqv b r => ?_)
    (first | subst eqv | cases eqv)
    cases n with
      | zero => exact .cons a r
      | succ n => exact .cons b (ih r n)

theorem Ex.setL {x : Str} {xp sp pos : Pos} {ei ev : Expr} {ds : List D} {i : Int} {d : D} {rest : List Stmt} {Q : Fl → Prop} (hx : Lk σ x (.m (.lst ds))) (hv : Ev g sc k σ ev d) (hi : Ev g sc k σ ei (.int i)) (h0 : 0 ≤ i) (hn : i < ds.length) (hz : ds.length ≤ 2 ^ 62)
    (hq : Ex g sc k ((x, .m (.lst (ds.set i.toNat d))) :: σ) rest Q)
    (hs : ∀ env, swapsWith ev (some (.Subscript (.Name x xp) ei sp)) pos.line env = pure false := by walk_at "w1")
    (hd : (x == ("__debug__" : Str)) = false := by kernel_rfl) (hcd : (x == ("__classdict__" : Str)) = false := by kernel_rfl) :
    Ex g sc k σ (.Assign [.Subscript (.Name x xp) ei sp] ev pos :: rest) Q := by
  refine Ex.go ⟨?_⟩
  intro env A s₀ X₀ pr tv td s E hE hR hX S
  obtain ⟨X, S⟩ := S
  refine wpAny_Assign_Subscript (wpAny_mono (hv.run env A X s E hE hR S.wd S.F) (fun v s₁ h₁ => ?_) fun _ _ e => e) (hs env)
  have S₁ := S.kp h₁.1
  (refine ex_1_6 (S₁.F.mAt hx) fun a ha xa n1 n2 n3 zq62 => ?_; refine ex_1_2 (zq62) fun vs hl rs => ?_)
  refine name_at hE ha ?_ hd hcd
  refine wpAny_mono (hi.run env A X s₁ E hE hR S₁.wd S₁.F) (fun iv s₂ h₂ => ?_) fun _ _ e => e
  obtain ⟨q, ri⟩ := h₂
  have S₂ := S₁.kp q
  have ha' := ha.ext q.ext S₁.F.nPF fun n c hc => (S₁.F.cPF n c hc).1
  have rs' := rs.ext S₁.F.pl q.ext
  have rv' := h₁.2.ext S₁.F.pl q.ext
  have hl' : s₂.heap.PlainList a vs.toArray := hl.at fun o ho => q.ext.at_ _ _ n1.1 n1.2.2 ho
  have inv := Rep.int_inv ri
  try clear ri
  obtain ⟨t, eqv⟩ := inv
  (first | subst eqv | cases eqv)
  focus
    have e : vs.length = ds.length := rs.length
    refine setItem_plain hl' h0 (by lia) (by rw [List.size_toArray]; lia) fun h' hp hs' => ⟨_, hq, X, S₂.mut hx ha' hs' ⟨vs.set i.toNat v, by simpa using hp, (rs'.set rv' _).mono (fun _ _ _ x => x) fun b o nb e => (hs'.2 b fun z => nb (z ▸ xa)).trans e⟩⟩

noncomputable def put {K : Type} [DecidableEq K] (fs : List (K × D)) (k : K) (d : D) : List (K × D) :=
  if fs.any (fun f => f.1 = k) then fs.map (fun f => if f.1 = k then (f.1, d) else f) else fs ++ [(k, d)]
theorem put_keys {K : Type} [DecidableEq K] {kvs : List (K × Value)} {fs : List (K × D)} (h : kvs.map (·.1) = fs.map (·.1)) (k : K) (v : Value) (d : D) : (stored kvs k v).map (·.1) = (put fs k d).map (·.1) := by
  have ha : kvs.any (fun f => f.1 = k) = fs.any (fun f => f.1 = k) := by
    have e1 : kvs.any (fun f => decide (f.1 = k)) = (kvs.map (·.1)).any (fun x => decide (x = k)) := by rw [List.any_map]; rfl
    have e2 : fs.any (fun f => decide (f.1 = k)) = (fs.map (·.1)).any (fun x => decide (x = k)) := by rw [List.any_map]; rfl
    rw [e1, e2, h]
  unfold stored put
  rw [ha]
  split
  · have a1 : ∀ (l : List (K × Value)), (l.map (fun kv => if kv.1 = k then (kv.1, v) else kv)).map (·.1) = l.map (·.1) := fun l => by
      rw [List.map_map]; exact List.map_congr_left fun x _ => by simp only [Function.comp_apply]; split <;> rfl
    have a2 : ∀ (l : List (K × D)), (l.map (fun kv => if kv.1 = k then (kv.1, d) else kv)).map (·.1) = l.map (·.1) := fun l => by
      rw [List.map_map]; exact List.map_congr_left fun x _ => by simp only [Function.comp_apply]; split <;> rfl
    rw [a1, a2, h]
  · simp [h]
theorem put_vals {K : Type} [DecidableEq K] {h : Heap} {k : K} {v : Value} {d : D} (a : Rep g X h v d) : ∀ {kvs : List (K × Value)} {fs : List (K × D)}, kvs.map (·.1) = fs.map (·.1) → Reps g X h (kvs.map (·.2)) (fs.map (·.2)) →
    Reps g X h ((kvs.map (fun f => if f.1 = k then (f.1, v) else f)).map (·.2)) ((fs.map (fun f => if f.1 = k then (f.1, d) else f)).map (·.2))
  | [], [], _, _ => .nil
  | [], _ :: _, e, _ => by simp at e
  | _ :: _, [], e, _ => by simp at e
  | p :: kvs, q :: fs, e, r => by
    simp only [List.map_cons, List.cons.injEq] at e r ⊢
    have inv := Reps.cons_inv r
    try clear r
    (refine ex_2_3 (inv) fun _ _ eqv r1 r2 => ?_)
    (first | subst eqv | cases eqv)
    focus
      refine .cons ?_ (put_vals a e.2 r2)
      rw [e.1]
      split
      · exact a
      · exact r1
theorem put_reps {K : Type} [DecidableEq K] {h : Heap} {kvs : List (K × Value)} {fs : List (K × D)} (e : kvs.map (·.1) = fs.map (·.1)) (r : Reps g X h (kvs.map (·.2)) (fs.map (·.2))) {k : K} {v : Value} {d : D} (a : Rep g X h v d) :
    Reps g X h ((stored kvs k v).map (·.2)) ((put fs k d).map (·.2)) := by
  have ha : kvs.any (fun f => f.1 = k) = fs.any (fun f => f.1 = k) := by
    have e1 : kvs.any (fun f => decide (f.1 = k)) = (kvs.map (·.1)).any (fun x => decide (x = k)) := by rw [List.any_map]; rfl
    have e2 : fs.any (fun f => decide (f.1 = k)) = (fs.map (·.1)).any (fun x => decide (x = k)) := by rw [List.any_map]; rfl
    rw [e1, e2, e]
  unfold stored put
  rw [ha]
  split
  · exact put_vals a e r
  · simp only [List.map_append]
    exact r.append (.one a)

theorem Ex.setSD {x : Str} {xp sp pos : Pos} {ei ev : Expr} {fs : List (Str × D)} {i : Str} {d : D} {rest : List Stmt} {Q : Fl → Prop} (hx : Lk σ x (.m (.sd fs))) (hv : Ev g sc k σ ev d) (hi : Ev g sc k σ ei (.str i)) (hz : fs.length ≤ sizeLine)
    (hq : Ex g sc k ((x, .m (.sd (put fs i d))) :: σ) rest Q)
    (hs : ∀ env, swapsWith ev (some (.Subscript (.Name x xp) ei sp)) pos.line env = pure false := by walk_at "w1")
    (hd : (x == ("__debug__" : Str)) = false := by kernel_rfl) (hcd : (x == ("__classdict__" : Str)) = false := by kernel_rfl) :
    Ex g sc k σ (.Assign [.Subscript (.Name x xp) ei sp] ev pos :: rest) Q := by
  refine Ex.go ⟨?_⟩
  intro env A s₀ X₀ pr tv td s E hE hR hX S
  obtain ⟨X, S⟩ := S
  refine wpAny_Assign_Subscript (wpAny_mono (hv.run env A X s E hE hR S.wd S.F) (fun v s₁ h₁ => ?_) fun _ _ e => e) (hs env)
  have S₁ := S.kp h₁.1
  (refine ex_1_7 (S₁.F.mAt hx) fun a ha xa n1 n2 n3 nm zq63 => ?_; refine ex_2_4 (zq63) fun o kvs ho hl hk rs => ?_)
  refine name_at hE ha ?_ hd hcd
  refine wpAny_mono (hi.run env A X s₁ E hE hR S₁.wd S₁.F) (fun iv s₂ h₂ => ?_) fun _ _ e => e
  obtain ⟨q, ri⟩ := h₂
  have S₂ := S₁.kp q
  have ha' := ha.ext q.ext S₁.F.nPF fun n c hc => (S₁.F.cPF n c hc).1
  have rs' := rs.ext S₁.F.pl q.ext
  have rv' := h₁.2.ext S₁.F.pl q.ext
  have hl' : s₂.heap.DictOf (strKind pg g.w) a kvs := Heap.dictOf_iff.mpr ⟨o, q.ext.at_ _ _ n1.1 n1.2.2 ho, hl⟩
  have inv := Rep.str_inv ri
  try clear ri
  obtain ⟨t, eqv⟩ := inv
  (first | subst eqv | cases eqv)
  focus
    have e : kvs.length = fs.length := by have := congrArg List.length hk; simpa using this
    refine wpAny_setItem_pairs (knd := strKind pg g.w) (k := i) (PySem.strKind_is ..) hl' (fun h' hp hs' => ?_) (by rw [e]; exact hz)
    (refine ex_1_2 (Heap.dictOf_iff.mp hp) fun o' ho' hl'' => ?_)
    exact ⟨_, hq, X, S₂.mut hx ha' hs' ⟨nm, o', _, ho', hl'', put_keys hk _ _ _, (put_reps hk rs' rv').mono (fun _ _ _ x => x) fun b o nb e => (hs'.2 b fun z => nb (z ▸ xa)).trans e⟩⟩
theorem Ex.setID {x : Str} {xp sp pos : Pos} {ei ev : Expr} {fs : List (Int × D)} {i : Int} {d : D} {rest : List Stmt} {Q : Fl → Prop} (hx : Lk σ x (.m (.idd fs))) (hv : Ev g sc k σ ev d) (hi : Ev g sc k σ ei (.int i)) (hz : fs.length ≤ sizeLine)
    (hq : Ex g sc k ((x, .m (.idd (put fs i d))) :: σ) rest Q)
    (hs : ∀ env, swapsWith ev (some (.Subscript (.Name x xp) ei sp)) pos.line env = pure false := by walk_at "w1")
    (hd : (x == ("__debug__" : Str)) = false := by kernel_rfl) (hcd : (x == ("__classdict__" : Str)) = false := by kernel_rfl) :
    Ex g sc k σ (.Assign [.Subscript (.Name x xp) ei sp] ev pos :: rest) Q := by
  refine Ex.go ⟨?_⟩
  intro env A s₀ X₀ pr tv td s E hE hR hX S
  obtain ⟨X, S⟩ := S
  refine wpAny_Assign_Subscript (wpAny_mono (hv.run env A X s E hE hR S.wd S.F) (fun v s₁ h₁ => ?_) fun _ _ e => e) (hs env)
  have S₁ := S.kp h₁.1
  (refine ex_1_7 (S₁.F.mAt hx) fun a ha xa n1 n2 n3 nm zq64 => ?_; refine ex_2_4 (zq64) fun o kvs ho hl hk rs => ?_)
  refine name_at hE ha ?_ hd hcd
  refine wpAny_mono (hi.run env A X s₁ E hE hR S₁.wd S₁.F) (fun iv s₂ h₂ => ?_) fun _ _ e => e
  obtain ⟨q, ri⟩ := h₂
  have S₂ := S₁.kp q
  have ha' := ha.ext q.ext S₁.F.nPF fun n c hc => (S₁.F.cPF n c hc).1
  have rs' := rs.ext S₁.F.pl q.ext
  have rv' := h₁.2.ext S₁.F.pl q.ext
  have hl' : s₂.heap.DictOf (intKind pg g.w) a kvs := Heap.dictOf_iff.mpr ⟨o, q.ext.at_ _ _ n1.1 n1.2.2 ho, hl⟩
  have inv := Rep.int_inv ri
  try clear ri
  obtain ⟨t, eqv⟩ := inv
  (first | subst eqv | cases eqv)
  focus
    have e : kvs.length = fs.length := by have := congrArg List.length hk; simpa using this
    refine wpAny_setItem_pairs (knd := intKind pg g.w) (k := i) (by simp [intKind, Value.isInt]) hl' (fun h' hp hs' => ?_) (by rw [e]; exact hz)
    (refine ex_1_2 (Heap.dictOf_iff.mp hp) fun o' ho' hl'' => ?_)
    exact ⟨_, hq, X, S₂.mut hx ha' hs' ⟨nm, o', _, ho', hl'', put_keys hk _ _ _, (put_reps hk rs' rv').mono (fun _ _ _ x => x) fun b o nb e => (hs'.2 b fun z => nb (z ▸ xa)).trans e⟩⟩

theorem ne_sys (hw : Wd g s) : s.heap.objs.size ≠ sysModules := fun z => by
  (refine ex_1_2 (hw.ok.lim) fun mc zq65 _ => ?_; obtain ⟨o, _, _, e, _⟩ := zq65)
  have := Heap.lt_size (hw.ext cStatics o (by decide) e)
  rw [z] at this
  exact absurd this (by decide)
theorem EvF.sd {pos : Pos} : EvF g sc k σ (.Dict [] [] pos) (.sd []) := by
  refine ⟨?_⟩
  intro env A X s E hE hR hw F
  refine wpAny_Dict_empty ⟨.push hw, s.heap.objs.size, rfl, get_size _, ne_sys hw, ?_⟩
  (refine ex_1_2 (Heap.dictOf_iff.mp (Heap.DictOf.new (knd := PySem.strKind pg g.w) s.heap)) fun o ho h => ?_)
  exact ⟨o, [], ho, h, rfl, .nil⟩
theorem EvF.idd {pos : Pos} : EvF g sc k σ (.Dict [] [] pos) (.idd []) := by
  refine ⟨?_⟩
  intro env A X s E hE hR hw F
  refine wpAny_Dict_empty ⟨.push hw, s.heap.objs.size, rfl, get_size _, ne_sys hw, ?_⟩
  (refine ex_1_2 (Heap.dictOf_iff.mp (Heap.DictOf.new (knd := PySem.intKind pg g.w) s.heap)) fun o ho h => ?_)
  exact ⟨o, [], ho, h, rfl, .nil⟩
theorem Ev.ofF {e : Expr} {d : D} (h : EvF g sc k σ e d) : Ev g sc k σ e d := by
  refine ⟨?_⟩
  intro env A X s E hE hR hw F
  refine wpAny_mono (h.run env A X s E hE hR hw F) (fun v s₁ h₁ => ?_) fun _ _ e => e
  (refine ex_0_2 (h₁) fun q zq66 => ?_; refine ex_1_3 (zq66) fun a zq67 fa r => ?_; (first | subst zq67 | cases zq67))
  exact ⟨q, r.settled (F.xok.fresh fa) fun b nb z => nb (.inl z)⟩
theorem Reps.rep {h : Heap} {v : Value} {d : D} (r : Rep g X h v d) : ∀ n, Reps g X h (List.replicate n v) (List.replicate n d)
  | 0 => .nil
  | n + 1 => .cons r (Reps.rep r n)
theorem EvF.mul {l r : Expr} {pos : Pos} {d : D} {n : Int} (hl : EvF g sc k σ l (.lst [d])) (hr : Ev g sc k σ r (.int n)) (hz : n ≤ 2 ^ 20) (h0 : -(2 ^ 20) ≤ n) : EvF g sc k σ (.BinOp l .Mult r pos) (.lst (List.replicate n.toNat d)) := by
  refine ⟨?_⟩
  intro env A X s E hE hR hw F
  refine wpAny_BinOp (wpAny_mono (hl.run env A X s E hE hR hw F) (fun u s₁ h₁ => ?_) fun _ _ e => e)
  (refine ex_0_2 (h₁) fun q zq68 => ?_; refine ex_1_3 (zq68) fun a zq69 fa zq70 => ?_; refine ex_1_2 (zq70) fun vs zq71 rs => ?_; (first | subst zq69 | cases zq69); obtain ⟨m, ho⟩ := zq71)
  refine wpAny_mono (hr.run env A X s₁ E hE hR q.wd (F.kp q)) (fun v s₂ h₂ => ?_) fun _ _ e => e
  obtain ⟨q₂, rn⟩ := h₂
  have ho' := q₂.ext.at_ _ _ (hw.nPF fa) (F.xok.nlf fa) ho
  have inv := Rep.int_inv rn
  try clear rn
  obtain ⟨t, eqv⟩ := inv
  (first | subst eqv | cases eqv)
  focus
    have l1 : vs.toArray.size * n.toNat ≤ 2 ^ 20 := by rw [List.size_toArray, rs.length]; simp; assumption
    have l2 : vs.length * n.toNat ≤ 2 ^ 20 := by rw [rs.length]; simp; assumption
    refine wpAny_binaryOp_repeat_ref (T := "list") (U := "int") (by decide) ⟨_, ho', rfl⟩ (fun s' => typeIs_int s' n t) noFill_list_mul PySem.F.fills_int_mul PySem.F.slot_int_rmul repeat_list PySem.F.slot_int_index.lookup
      (call_meets PySem.F.slot_int_rmul (typeIs_int s₂ n t) PySem.F.entry_int_rmul (PySem.F.args_int_rmul_2 _ _) (int___rmul___int_list n t a vs.toArray m)
        ⟨ho', rfl, ⟨_, ho', rfl⟩, call_meets PySem.F.slot_list_mul ⟨_, ho', rfl⟩ PySem.F.entry_list_mul (PySem.F.args_list_mul_2 _ _)
          (AutoListH.list___mul___list_int_3 a vs.toArray m n t (by simp [Builtin.List.listFitsIndex]; lia) (by lia) (by simp [Builtin.List.listTooLong, sizeLine]; (exact Nat.le_trans ‹_› (Nat.le_of_ble_eq_true rfl))))
          ⟨ho', ?_⟩⟩)
    refine ⟨(q.trans q₂).trans (.push q₂.wd), s₂.heap.objs.size, rfl, (q.trans q₂).none_of (get_size _), (List.replicate n.toNat vs).flatten, ⟨0, ?_⟩, ?_⟩
    · rw [listMul_foldl_if]; exact Heap.get?_push_size _ rfl
    · cases rs with
      | @cons v _ _ _ rv rr =>
        (first | obtain ⟨_, rfl⟩ := Rep.int_inv rr | obtain ⟨_, rfl⟩ := Rep.str_inv rr | obtain rfl := Rep.bool_inv rr | obtain rfl := Reps.nil_inv rr | obtain rfl := Rep.none_inv rr)
        have hfl : ∀ (n : Nat), (List.replicate n [v]).flatten = List.replicate n v := fun n => by simp
        rw [hfl]
        have rv' : Rep g (fun b => X b ∨ b ∈ [s₂.heap.objs.size]) (s₂.heap.push { cls := .type "list", data := .seq (List.foldl (fun x1 x2 => x1 ++ x2) #[] (List.replicate (if ([v].toArray).isEmpty = true then 0 else n.toNat) [v].toArray)) }) v d :=
          (rv.ext ⟨.inl F.pf, .inl F.lf⟩ q₂.ext).mono (fun b o e nb z => by
            rcases z with z | z
            · exact nb (.inl z)
            · rw [List.mem_singleton] at z; rw [z, get_size] at e; cases e) fun _ _ _ e => Heap.get?_push_of_some _ e
        exact Reps.rep rv' _
theorem EvF.addM {x : Str} {px pos : Pos} {r : Expr} {xs ys : List D} (hx : Lk σ x (.m (.lst xs))) (hr : Ev g sc k σ r (.lst ys)) (hz : xs.length + ys.length ≤ sizeLine)
    (hd : (x == ("__debug__" : Str)) = false := by kernel_rfl) (hcd : (x == ("__classdict__" : Str)) = false := by kernel_rfl) : EvF g sc k σ (.BinOp (.Name x px) .Add r pos) (.lst (xs ++ ys)) := by
  refine ⟨?_⟩
  intro env A X s E hE hR hw F
  (refine ex_1_6 (F.mAt hx) fun a ha xa n1 n2 n3 zq72 => ?_; refine ex_1_2 (zq72) fun vs hl rs => ?_)
  refine wpAny_BinOp (name_at hE ha ?_ hd hcd)
  refine wpAny_mono (hr.run env A X s E hE hR hw F) (fun v s₂ h₂ => ?_) fun _ _ e => e
  obtain ⟨q₂, rn⟩ := h₂
  obtain ⟨n, ho⟩ := hl.at fun o ho => q₂.ext.at_ _ o n1.1 n1.2.2 ho
  have rs₂ := rs.ext F.pl q₂.ext
  have inv := Rep.lst_inv rn
  try clear rn
  (refine ex_4_6 (inv) fun l' o' ws n' eqv nX' ho' hc' hd' rs' => ?_)
  (first | subst eqv | cases eqv)
  focus
    obtain ⟨cls2, dd2, data2, sl2⟩ := o'
    simp only at hc' hd'
    subst hc' hd'
    have e : vs.toArray ++ ws.toArray = (vs ++ ws).toArray := by simp
    refine concat_meets ⟨_, ho, rfl⟩ ⟨_, ho', rfl⟩ noFill_list_add seq_list_add PySem.F.slot_list_add PySem.F.entry_list_add (PySem.F.args_list_add_2 _ _) (list_addW a l' vs.toArray ws.toArray n n' none dd2 #[] sl2 (by rw [List.size_toArray, List.size_toArray, rs.length, rs'.length]; exact hz)) ⟨ho, ho', ?_⟩
    rw [e]
    refine ⟨q₂.trans (.push q₂.wd), s₂.heap.objs.size, rfl, q₂.none_of (get_size _), vs ++ ws, ⟨0, Heap.get?_push_size _ rfl⟩, (rs₂.append rs').mono (fun b o e nb z => ?_) fun _ _ _ e => Heap.get?_push_of_some _ e⟩
    rcases z with z | z
    · exact nb z
    · rw [List.mem_singleton] at z; rw [z, get_size] at e; cases e

theorem Ex.augS {x : Str} {px pos : Pos} {value : Expr} {rest : List Stmt} {Q : Fl → Prop} {a b : Str} (hl : Lk σ x (.v (.str a))) (h : Ev g sc k σ value (.str b)) (hz : a.length + b.length ≤ sizeLine) (hq : Ex g sc k ((x, .v (.str (a ++ b))) :: σ) rest Q)
    (hx : sc.names.lookup x = some .local ∨ sc.names.lookup x = some .cell := by walk_at "wc")
    (hcd : (x == ("__classdict__" : Str)) = false := by kernel_rfl) : Ex g sc k σ (.AugAssign (.Name x px) .Add value pos :: rest) Q := by
  refine Ex.go ⟨?_⟩
  intro env A s₀ X₀ pr tv td s E hE hR hX S
  obtain ⟨X, S⟩ := S
  (refine ex_1_2 (S.F.var x _ hl) fun u au ru => ?_)
  have hk : env.scope.kind = .function := hE.scp ▸ hE.kind
  have load : ∀ Q : Value → Shared → Prop, Q u s → wpAny g.M A (loadName env x) Q E s := fun Q h => by
    rcases au with ⟨kd, m, hn, hm⟩ | ⟨kd, c, hc, ho⟩
    · exact wpAny_loadName_local hk kd hn hm h
    · rcases kd with kd | kd
      · exact wpAny_loadName_cell hk kd hc ho h
      · exact wpAny_loadName_free hk kd hc ho h hcd
  refine wpAny_AugAssign_Name (load _ ?_)
  refine wpAny_mono (h.run env A X s E hE hR S.wd S.F) (fun v s₁ hv => ?_) fun _ _ e => e
  have S₁ := S.kp hv.1
  have rv := hv.2
  have ru' : Rep g X s.heap u (.str a) := ru
  cases ru'; (first | obtain ⟨_, rfl⟩ := Rep.int_inv rv | obtain ⟨_, rfl⟩ := Rep.str_inv rv | obtain rfl := Rep.bool_inv rv | obtain rfl := Reps.nil_inv rv | obtain rfl := Rep.none_inv rv)
  refine iadd_str (fun t' tk => ?_) hz
  have S₂ : StX g env s₀ X₀ pr tv td X σ { s₁ with toks := tk } := S₁.kp (.toks S₁.wd)
  refine store_wp S₂.wd S₂.F hk ?_ (b := .v (.str (a ++ b))) (Rep.str _ _) (fun d h => by cases h) fun s' w' F' hk hat _ => ⟨_, hq, X, S₂.put w' F' (fun b o hp e => hk b o (Place.not_of hp).1 ((Place.not_of hp).2 x) e) fun y e hy => ?_⟩
  · rcases hx with hx | hx
    · exact .inl (by unfold Env.kindOf; rw [hE.scp]; exact hx)
    · exact .inr ⟨by unfold Env.kindOf; rw [hE.scp]; exact hx, hE.cells x hx⟩
  · rcases lookup_cons hy with ⟨_, hb⟩ | ⟨hne, hy⟩
    · cases hb
    · refine ⟨hy, fun a ha => ?_⟩
      (refine ex_1_2 (S₂.F.var y _ hy) fun u au _ => ?_)
      have := (hat y u hne au).fn ha
      subst this
      exact au
theorem Ex.while_ {test : Expr} {body rest : List Stmt} {pos : Pos} {Q : Fl → Prop} (I : Nat → Sto → Prop)
    (turn : ∀ n σ, I n σ → ∃ b, Tr g sc k σ test b ∧ if b then Ex g sc k σ body (fun fl => match fl with
      | .next σ' => ∃ m, m < n ∧ I m σ'
      | .cont σ' => ∃ m, m < n ∧ I m σ'
      | .brk σ' => Kq g sc k rest Q (.next σ')
      | .ret d => Q (.ret d)) else Ex g sc k σ rest Q) (n : Nat) (h : I n σ) : Ex g sc k σ (.While test body [] pos :: rest) Q := by
  refine Ex.go ⟨?_⟩
  intro env A s₀ X₀ pr tv td s E hE hR hX S
  refine wpAny_While (codeAny_whileLoop (fun n s' => ∃ σ', I n σ' ∧ Stt g env s₀ X₀ pr tv td σ' s') ?_ n ⟨σ, h, S⟩)
  rintro n s ⟨σ, hI, X, S⟩
  (refine ex_1_2 (turn n σ hI) fun b ht hb => ?_)
  refine wpAny_mono (ht.run env A X s _ hE hR S.wd S.F) (fun r s₁ hv => ?_) fun _ _ e => e
  obtain ⟨k1, rfl⟩ := hv
  cases r with
  | true =>
    rw [if_pos rfl] at hb ⊢
    refine wpAny_mono (hb.run env A s₀ X₀ pr tv td s₁ _ hE hR hX ⟨X, S.kp k1⟩) (fun f s₃ p => ?_) fun _ _ e => e
    cases f with
    | next => (refine ex_1_2 (p) fun σ' zq73 S' => ?_; obtain ⟨m, hm, hI'⟩ := zq73); exact ⟨m, hm, σ', hI', S'⟩
    | cont => (refine ex_1_2 (p) fun σ' zq74 S' => ?_; obtain ⟨m, hm, hI'⟩ := zq74); exact ⟨m, hm, σ', hI', S'⟩
    | brk => (refine ex_1_2 (p) fun σ' q S' => ?_); exact ⟨σ', q, S'⟩
    | ret v => (refine ex_1_2 (p) fun d q S' => ?_); exact ⟨d, q, S'⟩
  | false =>
    rw [if_neg (by decide)] at hb ⊢
    exact wpAny_pure ⟨σ, hb, X, S.kp k1⟩
end
section
variable {g : Gw} {k : Nat} {sc : Scope} {σ : Sto}

theorem numAt_zip {ns : List Int} {ts : List Tok} (e1 : ts.length = ns.length) {j : Nat} (hj : j < ns.length) : numAt (ns.zip ts).toArray j = ns[j] := by
  unfold numAt
  have : (ns.zip ts)[j]? = some (ns[j], ts[j]'(by lia)) := by rw [List.getElem?_eq_getElem (by rw [List.length_zip]; lia), List.getElem_zip]
  simp [this]
theorem Cl.maxL {ns : List Int} {m : Int} (hm : m ∈ ns) (hle : ∀ x ∈ ns, x ≤ m) : Cl g k (.builtin "max") [.lst (ns.map .int)] (.int m) := by
  refine ⟨?_⟩
  intro A X s E vals hR hw hX hr
  have inv := Reps.cons_inv hr
  try clear hr
  (refine ex_2_3 (inv) fun _ _ eqv r rs => ?_)
  (first | subst eqv | cases eqv)
  focus
    (first | obtain ⟨_, rfl⟩ := Rep.int_inv rs | obtain ⟨_, rfl⟩ := Rep.str_inv rs | obtain rfl := Rep.bool_inv rs | obtain rfl := Reps.nil_inv rs | obtain rfl := Rep.none_inv rs)
    have inv := Rep.lst_inv r
    try clear r
    (refine ex_4_6 (inv) fun l o vs n eqv nX ho hc hd rs => ?_)
    (first | subst eqv | cases eqv)
    focus
      (refine ex_1_2 (ints_of rs) fun ts e1 e2 => ?_)
      have hI : s.heap.IsList l (intItems (ns.zip ts).toArray) := ⟨o, ho, hc, n, by rw [hd, e2]; simp [intItems]⟩
      have hsz : (ns.zip ts).toArray.size = ns.length := by simp [e1]
      have hpos : 0 < ns.length := List.length_pos_of_mem hm
      refine PySem.max_intList hR.hd hI (by rw [hsz]; exact hpos) fun v h' tk hv hk => ⟨.keeps hw hk, ?_⟩
      obtain ⟨b1, b2⟩ := argBest_gt (numAt (ns.zip ts).toArray) ((ns.zip ts).toArray.size - 1)
      generalize hb : argBest (fun i j => decide (numAt (ns.zip ts).toArray i > numAt (ns.zip ts).toArray j)) ((ns.zip ts).toArray.size - 1) = b at b1 b2 hv
      rw [hsz] at b1 b2
      have hlt : b < ns.length := by omega
      have hval : v = .int ns[b] (ts[b]'(by lia)) := by
        have : (ns.zip ts)[b]? = some (ns[b], ts[b]'(by lia)) := by rw [List.getElem?_eq_getElem (by rw [List.length_zip]; lia), List.getElem_zip]
        simp [intItems, this] at hv
        exact hv.symm
      have hmb : ns[b] = m := by
        refine Int.le_antisymm (hle _ (List.getElem_mem hlt)) ?_
        obtain ⟨j, hj, rfl⟩ := List.getElem_of_mem hm
        have := b2 j (by (exact Nat.le_sub_one_of_lt ‹_›))
        rwa [numAt_zip e1 hj, numAt_zip e1 hlt] at this
      rw [hval, hmb]
      exact .int _ _
theorem reps_of {X : Addr → Prop} {h : Heap} : ∀ {vs : List Value} {ds : List D}, vs.length = ds.length → (∀ (j : Nat) v d, vs[j]? = some v → ds[j]? = some d → Rep g X h v d) → Reps g X h vs ds
  | [], [], _, _ => .nil
  | [], _ :: _, e, _ => by simp at e
  | _ :: _, [], e, _ => by simp at e
  | v :: vs, d :: ds, e, h => .cons (h 0 v d rfl rfl) (reps_of (by simpa using e) fun j v d a b => h (j + 1) v d (by simpa using a) (by simpa using b))
theorem small_of {a b c : Int} (ha : -1000000 ≤ a ∧ a ≤ 1000000) (hb : -1000000 ≤ b ∧ b ≤ 1000000) (hc : c = 1 ∨ c = -1) : Builtin.Range.small a b c = true := by
  rcases hc with rfl | rfl <;>
  · simp only [Builtin.Range.small, Builtin.Range.rangeSize, Builtin.Range.rangeFitsLong, Bool.and_eq_true, decide_eq_true_eq]
    refine ⟨⟨⟨⟨?_, ?_⟩, ?_⟩, ?_⟩, ?_⟩ <;> simp <;> (try split) <;> lia
theorem Cl.listRng {a : Int} {n : Nat} (ha : 0 ≤ a ∧ a < 10000) (hn : n ≤ 10000) : Cl g k (.type "list") [.rng a (a + n) 1] (.lst ((List.range n).map fun (i : Nat) => .int (a + (i : Int)))) := by
  refine ⟨?_⟩
  intro A X s E vals hR hw hX hr
  have inv := Reps.cons_inv hr
  try clear hr
  (refine ex_2_3 (inv) fun _ _ eqv r rs => ?_)
  (first | subst eqv | cases eqv)
  focus
    (first | obtain ⟨_, rfl⟩ := Rep.int_inv rs | obtain ⟨_, rfl⟩ := Rep.str_inv rs | obtain rfl := Rep.bool_inv rs | obtain rfl := Reps.nil_inv rs | obtain rfl := Rep.none_inv rs)
    have inv := Rep.rng_inv r
    try clear r
    (refine ex_4_3 (inv) fun _ _ _ _ eqv nX hr => ?_)
    (first | subst eqv | cases eqv)
    focus
      have hsz : Builtin.Range.rangeSize a (a + n) 1 = n := by
        unfold Builtin.Range.rangeSize
        rw [if_pos (by (exact Int.ofNat_zero_le _))]
        split <;> lia
      refine PySem.call_list_range hR.hd hr (n := n) ?_ hsz (by (exact Nat.le_trans ‹_› (Nat.le_of_ble_eq_true rfl))) fun h' tk acc' c' hk hl hi => ⟨.keeps hw hk, ?_⟩
      · exact small_of (by lia) (by lia) (.inl rfl)
      · have k1 : Kp g s { s with heap := h', toks := tk } := .keeps hw hk
        refine .lst (vs := acc'.toList) (hX.fresh (get_size _)) hl rfl rfl (reps_of (by simp [hi.1]) fun j v d hj hd => ?_)
        obtain ⟨t, rfl⟩ := hi.2 j v (by simpa using hj)
        rw [List.getElem?_map] at hd
        by_cases hjn : j < n
        · rw [List.getElem?_range hjn] at hd
          cases hd
          rw [Int.mul_one]
          exact .int _ _
        · rw [List.getElem?_eq_none (by simpa using Nat.le_of_not_lt hjn)] at hd; cases hd
theorem sorted_eq : ∀ {xs ys : List Int}, xs.Perm ys → xs.Pairwise (· ≤ ·) → ys.Pairwise (· ≤ ·) → xs = ys
  | [], ys, p, _, _ => by simpa using p.symm
  | x :: xs, [], p, _, _ => by simp at p
  | x :: xs, y :: ys, p, h1, h2 => by
    have hx : x ∈ y :: ys := p.subset (.head _)
    have hy : y ∈ x :: xs := p.symm.subset (.head _)
    have a1 : x ≤ y := by
      rcases List.mem_cons.mp hy with e | e
      · lia
      · exact (List.pairwise_cons.mp h1).1 y e
    have a2 : y ≤ x := by
      rcases List.mem_cons.mp hx with e | e
      · lia
      · exact (List.pairwise_cons.mp h2).1 x e
    have : x = y := by lia
    subst this
    rw [sorted_eq p.cons_inv (List.pairwise_cons.mp h1).2 (List.pairwise_cons.mp h2).2]
theorem Cl.sortedI {ns ms : List Int} (hp : ms.Perm ns) (hs : ms.Pairwise (· ≤ ·)) (hz : ns.length < 64) : Cl g k (.builtin "sorted") [.lst (ns.map .int)] (.lst (ms.map .int)) := by
  refine ⟨?_⟩
  intro A X s E vals hR hw hX hr
  have inv := Reps.cons_inv hr
  try clear hr
  (refine ex_2_3 (inv) fun _ _ eqv r rs => ?_)
  (first | subst eqv | cases eqv)
  focus
    (first | obtain ⟨_, rfl⟩ := Rep.int_inv rs | obtain ⟨_, rfl⟩ := Rep.str_inv rs | obtain rfl := Rep.bool_inv rs | obtain rfl := Reps.nil_inv rs | obtain rfl := Rep.none_inv rs)
    have inv := Rep.lst_inv r
    try clear r
    (refine ex_4_6 (inv) fun l o vs n eqv nX ho hc hd rs => ?_)
    (first | subst eqv | cases eqv)
    focus
      refine sorted_ints ⟨o, ho, hc, n, hd⟩ (ints_are rs) (by rw [rs.length]; simpa using hz) fun out ns' hi hp' hs' => ?_
      have : ns' = ms := sorted_eq (hp'.trans hp.symm) hs' hs
      subst this
      obtain ⟨e, he⟩ := sortedAll_at s.heap vs out
      have k1 : Kp g s { s with heap := sortedAll s.heap vs out } := .keeps (t := s.toks) hw fun b o e => sortedAll_old e
      have hfr : s.heap.get? (s.heap.objs.size + 1) = none := by
        cases e : s.heap.get? (s.heap.objs.size + 1) with
        | none => rfl
        | some o => exact absurd (Heap.lt_size e) (Nat.not_lt.mpr (Nat.le_succ _))
      exact ⟨k1, .lst (vs := out.toList) (n := e) (hX.fresh hfr) he rfl (by simp [seqObj]) (reps_ints hi)⟩
theorem Cl.strip {x : Str} (hz : x.length ≤ sizeLine) : Cl g k (.builtin "str.strip") [.str x] (.str (Txt.strip x)) := by
  refine ⟨?_⟩
  intro A X s E vals hR hw hX hr
  have inv := Reps.cons_inv hr
  try clear hr
  (refine ex_2_3 (inv) fun _ _ eqv r rs => ?_)
  (first | subst eqv | cases eqv)
  (first | obtain ⟨_, rfl⟩ := Rep.int_inv rs | obtain ⟨_, rfl⟩ := Rep.str_inv rs | obtain rfl := Rep.bool_inv rs | obtain rfl := Reps.nil_inv rs | obtain rfl := Rep.none_inv rs); (first | obtain ⟨_, rfl⟩ := Rep.int_inv r | obtain ⟨_, rfl⟩ := Rep.str_inv r | obtain rfl := Rep.bool_inv r | obtain rfl := Reps.nil_inv r | obtain rfl := Rep.none_inv r); exact PySem.SC.strip (fun t' tk => ⟨.toks hw, .str _ _⟩) hz
theorem Mth.strip {x : Str} : Mth g k (.str x) "strip" (.builtin "str.strip") := by
  refine ⟨?_⟩
  intro A X s E u pl Q hR hw hX r h
  (first | obtain ⟨_, rfl⟩ := Rep.int_inv r | obtain ⟨_, rfl⟩ := Rep.str_inv r | obtain rfl := Rep.bool_inv r | obtain rfl := Reps.nil_inv r | obtain rfl := Rep.none_inv r)
  exact PySem.GM.strip (h s (.refl hw))
theorem Mth.split {x : Str} : Mth g k (.str x) "split" (.builtin "str.split") := by
  refine ⟨?_⟩
  intro A X s E u pl Q hR hw hX r h
  (first | obtain ⟨_, rfl⟩ := Rep.int_inv r | obtain ⟨_, rfl⟩ := Rep.str_inv r | obtain rfl := Rep.bool_inv r | obtain rfl := Reps.nil_inv r | obtain rfl := Rep.none_inv r)
  exact PySem.GM.split (h s (.refl hw))
theorem reps_strs {X : Addr → Prop} {h : Heap} : ∀ (l : List (Str × Tok)), Reps g X h (strValues l) ((l.map (·.1)).map .str)
  | [] => .nil
  | p :: l => .cons (.str _ _) (reps_strs l)
theorem reps_from {X : Addr → Prop} {h : Heap} : ∀ (l : List Str) (n : Nat), Reps g X h (strsFrom n l) (l.map .str)
  | [], _ => .nil
  | _ :: l, n => .cons (.str _ _) (reps_from l (n + 1))
theorem Cl.split1 {x y : Str} (hy : (y.length == 0) = false) (hz : x.length + 2 ≤ sizeLine) : Cl g k (.builtin "str.split") [.str x, .str y] (.lst ((Txt.split x y).map .str)) := by
  refine ⟨?_⟩
  intro A X s E vals hR hw hX hr
  have inv := Reps.cons_inv hr
  try clear hr
  (refine ex_2_3 (inv) fun _ _ eqv r rs => ?_)
  (first | subst eqv | cases eqv)
  focus
    have inv := Rep.str_inv r
    try clear r
    obtain ⟨t, eqv⟩ := inv
    (first | subst eqv | cases eqv)
    have inv := Reps.cons_inv rs
    try clear rs
    (refine ex_2_3 (inv) fun _ _ eqv r rs => ?_)
    (first | subst eqv | cases eqv)
    focus
      (first | obtain ⟨_, rfl⟩ := Rep.int_inv rs | obtain ⟨_, rfl⟩ := Rep.str_inv rs | obtain rfl := Rep.bool_inv rs | obtain rfl := Reps.nil_inv rs | obtain rfl := Rep.none_inv rs); cases r with
      | str _ u =>
      have hn : (Builtin.Str.partsBetween x (Builtin.Str.occurrences x y 0 x.length (x.length + 1)) y.length).length ≤ sizeLine := by
        have e1 := StrLaws.occ_length_le_len x y 0 x.length (x.length + 1)
        rw [length_partsBetween]; (exact Nat.lt_of_le_of_lt ‹_› ‹_›)
      unfold Txt.split
      cases h1 : (decide (x.length < y.length) || decide (Builtin.Str.strKind x < Builtin.Str.strKind y))
      · rw [if_neg Bool.false_ne_true]
        cases hf : (Builtin.Str.occurrences x y 0 x.length (x.length + 1)).isEmpty
        · rw [if_neg Bool.false_ne_true]
          refine call_meets PySem.F.slot_str_split (typeIs_str _ _ _) PySem.F.entry_str_split (PySem.F.args_str_split_2 _ _) (meets_str_split_sep x y t u h1 hy hf (by lia) hn) ?_
          exact ⟨.keeps hw fun _ _ e => Heap.get?_push_of_some _ e, .lst (hX.fresh (get_size _)) (Heap.get?_push_size _ rfl) rfl rfl (reps_from _ _)⟩
        · rw [if_pos rfl]
          refine call_meets PySem.F.slot_str_split (typeIs_str _ _ _) PySem.F.entry_str_split (PySem.F.args_str_split_2 _ _) (meets_str_split_not_found x y t u h1 hy hf) ?_
          exact ⟨.keeps (t := s.toks) hw fun _ _ e => Heap.get?_push_of_some _ e, .lst (hX.fresh (get_size _)) (Heap.get?_push_size _ rfl) rfl rfl (.one (.str _ _))⟩
      · rw [if_pos rfl]
        refine call_meets PySem.F.slot_str_split (typeIs_str _ _ _) PySem.F.entry_str_split (PySem.F.args_str_split_2 _ _) (meets_str_split_cannot_occur x y t u h1) ?_
        exact ⟨.keeps (t := s.toks) hw fun _ _ e => Heap.get?_push_of_some _ e, .lst (hX.fresh (get_size _)) (Heap.get?_push_size _ rfl) rfl rfl (.one (.str _ _))⟩
theorem Cl.split2 {x y : Str} (hy : (y.length == 0) = false) (hz : x.length + 2 ≤ sizeLine) : Cl g k (.builtin "str.split") [.str x, .str y, .int 1] (.lst ((Txt.splitMax x y 1).map .str)) := by
  refine ⟨?_⟩
  intro A X s E vals hR hw hX hr
  have inv := Reps.cons_inv hr
  try clear hr
  (refine ex_2_3 (inv) fun _ _ eqv r rs => ?_)
  (first | subst eqv | cases eqv)
  focus
    have inv := Rep.str_inv r
    try clear r
    obtain ⟨t, eqv⟩ := inv
    (first | subst eqv | cases eqv)
    have inv := Reps.cons_inv rs
    try clear rs
    (refine ex_2_3 (inv) fun _ _ eqv r rs => ?_)
    (first | subst eqv | cases eqv)
    focus
      have inv := Rep.str_inv r
      try clear r
      obtain ⟨u, eqv⟩ := inv
      (first | subst eqv | cases eqv)
      have inv := Reps.cons_inv rs
      try clear rs
      (refine ex_2_3 (inv) fun _ _ eqv r rs => ?_)
      (first | subst eqv | cases eqv)
      (first | obtain ⟨_, rfl⟩ := Rep.int_inv rs | obtain ⟨_, rfl⟩ := Rep.str_inv rs | obtain rfl := Rep.bool_inv rs | obtain rfl := Reps.nil_inv rs | obtain rfl := Rep.none_inv rs); cases r with
      | int _ v =>
      have hn : (Builtin.Str.partsBetween x (Builtin.Str.occurrences x y 0 x.length (limitOf x 1)) y.length).length ≤ sizeLine := by
        have e1 := StrLaws.occ_length_le_len x y 0 x.length (limitOf x 1)
        rw [length_partsBetween]; (exact Nat.lt_of_le_of_lt ‹_› ‹_›)
      have hk : (decide ((1 : Int) < -(2 ^ 63 : Int)) || decide ((1 : Int) ≥ 2 ^ 63)) = false := by decide
      unfold Txt.splitMax
      cases h1 : (decide (x.length < y.length) || decide (Builtin.Str.strKind x < Builtin.Str.strKind y))
      · rw [if_neg Bool.false_ne_true]
        cases hf : (Builtin.Str.occurrences x y 0 x.length (limitOf x 1)).isEmpty
        · rw [if_neg Bool.false_ne_true]
          refine call_meets PySem.F.slot_str_split (typeIs_str _ _ _) PySem.F.entry_str_split (PySem.F.args_str_split_3 _ _ _) (meets_str_split_sep_max x y 1 t u v hk h1 hy hf (by lia) hn) ?_
          exact ⟨.keeps hw fun _ _ e => Heap.get?_push_of_some _ e, .lst (hX.fresh (get_size _)) (Heap.get?_push_size _ rfl) rfl rfl (reps_from _ _)⟩
        · rw [if_pos rfl]
          refine call_meets PySem.F.slot_str_split (typeIs_str _ _ _) PySem.F.entry_str_split (PySem.F.args_str_split_3 _ _ _) (meets_str_split_max_not_found x y 1 t u v hk h1 hy hf) ?_
          exact ⟨.keeps (t := s.toks) hw fun _ _ e => Heap.get?_push_of_some _ e, .lst (hX.fresh (get_size _)) (Heap.get?_push_size _ rfl) rfl rfl (.one (.str _ _))⟩
      · rw [if_pos rfl]
        refine call_meets PySem.F.slot_str_split (typeIs_str _ _ _) PySem.F.entry_str_split (PySem.F.args_str_split_3 _ _ _) (meets_str_split_max_cannot_occur x y 1 t u v hk h1) ?_
        exact ⟨.keeps (t := s.toks) hw fun _ _ e => Heap.get?_push_of_some _ e, .lst (hX.fresh (get_size _)) (Heap.get?_push_size _ rfl) rfl rfl (.one (.str _ _))⟩
end
section
variable {g : Gw} {k : Nat} {sc : Scope} {σ : Sto}

noncomputable def TTup : Expr → Prop := fun t => ∃ elts x1 pos, t = .Tuple elts x1 pos
theorem TTup.of {elts x1 pos} : TTup (.Tuple elts x1 pos) := ⟨_, _, _, rfl⟩
noncomputable def TSeq : Expr → Prop := fun t => TTup t ∨ ∃ elts pos, t = .List elts pos
noncomputable def zipD (xs ys : List D) : List D := (xs.zip ys).map fun p => .tup [p.1, p.2]
theorem zipD_get {xs ys : List D} {i : Nat} {d : D} (h : (zipD xs ys)[i]? = some d) : ∃ a b, xs[i]? = some a ∧ ys[i]? = some b ∧ d = .tup [a, b] := by
  unfold zipD at h
  rw [List.getElem?_map, Option.map_eq_some_iff] at h
  (refine ex_1_2 (h) fun zq75 hp zq76 => ?_; obtain ⟨a, b⟩ := zq75; (first | subst zq76 | cases zq76))
  rw [List.getElem?_zip_eq_some] at hp
  exact ⟨a, b, hp.1, hp.2, rfl⟩
theorem far (n : Nat) (j : Nat) (h : 0 < j) : n ≠ n + j := by lia
theorem far2 (n i j : Nat) (h : i ≠ j) : n + i ≠ n + j := by lia

theorem letGo_zip {A : Around} {E : Value → Shared → Prop} {s : Shared} {t : Expr} {z TI TO T : Addr} {Q : Unit → Shared → Prop} (ht : TSeq t) (hz : IsZip s.heap z TI TO (rawInt T))
    (hQ : ∀ h', IsZip h' z TI TO .none → Heap.SameBut z s.heap h' → Q () { s with heap := h' }) : wpAny g.M A (letOwnedTupleGo t (.ref z) (.ref T)) Q E s := by
  rcases ht with ⟨elts, x1, pos, rfl⟩ | ⟨elts, pos, rfl⟩
  · exact wpAny_letOwnedTupleGo_zip hz hQ
  · exact wpAny_letOwnedTupleGo_zip (elts := elts) (x1 := default) (pos := pos) hz hQ
noncomputable def five (n : Nat) : List Addr := [(n : Nat), (n + 1 : Nat), (n + 2 : Nat), (n + 3 : Nat), (n + 4 : Nat)]
theorem five_all {n : Nat} {P : Addr → Prop} (h0 : P (n : Nat)) (h1 : P (n + 1 : Nat)) (h2 : P (n + 2 : Nat)) (h3 : P (n + 3 : Nat)) (h4 : P (n + 4 : Nat)) : ∀ b ∈ five n, P b := by
  intro b hb
  simp only [five, List.mem_cons, List.not_mem_nil, or_false] at hb
  rcases hb with rfl | rfl | rfl | rfl | rfl <;> assumption
theorem five_at {n : Nat} {P : Addr → Prop} (h : ∀ j < 5, P (n + j : Nat)) : ∀ b ∈ five n, P b :=
  five_all (h 0 (by decide)) (h 1 (by decide)) (h 2 (by decide)) (h 3 (by decide)) (h 4 (by decide))
theorem five_mem (n j : Nat) (h : j < 5) : (n + j : Nat) ∈ five n :=
  match j, h with
  | 0, _ => .head _
  | 1, _ => .tail _ (.head _)
  | 2, _ => .tail _ (.tail _ (.head _))
  | 3, _ => .tail _ (.tail _ (.tail _ (.head _)))
  | 4, _ => .tail _ (.tail _ (.tail _ (.tail _ (.head _))))
theorem five_ne {n : Nat} {b : Addr} (hb : b ∉ five n) (j : Nat) (h : j < 5) : b ≠ (n + j : Nat) := fun z => hb (z ▸ five_mem n j h)
theorem zip_apart {n : Nat} {l1 l2 : Addr} (n1 : l1 ∉ five n) (n2 : l2 ∉ five n) : ZipApart (n + 4 : Nat) (n + 2 : Nat) (n + 3 : Nat) (n : Nat) (n + 1 : Nat) l1 l2 :=
  have e1 := five_ne n1
  have e2 := five_ne n2
  { TIz := far2 n 2 4 (by decide), TOz := far2 n 3 4 (by decide), i1z := far n 4 (by decide), i2z := far2 n 1 4 (by decide), TITO := far2 n 2 3 (by decide), TIi1 := (far n 2 (by decide)).symm, TIi2 := far2 n 2 1 (by decide)
    TOi1 := (far n 3 (by decide)).symm, TOi2 := far2 n 3 1 (by decide), i12 := far n 1 (by decide), l1z := e1 4 (by decide), l1TO := e1 3 (by decide), l1i1 := e1 0 (by decide), l1i2 := e1 1 (by decide), l2z := e2 4 (by decide), l2TO := e2 3 (by decide), l2i1 := e2 0 (by decide), l2i2 := e2 1 (by decide) }
theorem zip_wd {n : Nat} {s : Shared} {h' : Heap} (hw : Wd g s) (hhi' : ∀ j < 5, g.s₁.heap.get? (n + j : Nat) = none ∧ (n + j : Nat) ≠ g.lf)
    (hkk : ∀ b o, b ∉ five n → s.heap.get? b = some o → h'.get? b = some o) : Wd g { s with heap := h' } :=
  have h5 := five_at (P := fun b => g.s₁.heap.get? b = none ∧ b ≠ g.lf) hhi'
  hw.ext' (t := s.toks) (fun b o he e => hkk b o (fun hb => by obtain ⟨o', e'⟩ := he; rw [(h5 b hb).1] at e'; cases e') e) (hw.la' fun o e => hkk _ o (fun hb => (h5 _ hb).2 rfl) e)
theorem two_inv {X : Addr → Prop} {h : Heap} {v1 v2 : Value} {xs ys : List D} (hr : Reps g X h [v1, v2] [.lst xs, .lst ys]) :
    ∃ l1 l2 vs1 vs2, v1 = .ref l1 ∧ v2 = .ref l2 ∧ ¬ X l1 ∧ ¬ X l2 ∧ h.IsList l1 vs1.toArray ∧ h.IsList l2 vs2.toArray ∧ Reps g X h vs1 xs ∧ Reps g X h vs2 ys := by
  obtain ⟨_, _, eqv, r1, hr⟩ := Reps.cons_inv hr
  (first | subst eqv | cases eqv)
  (refine ex_4_6 (Rep.lst_inv r1) fun l1 o1 vs1 n1 e1 nX1 ho1 hc1 hd1 rs1 => ?_)
  (refine ex_4_6 (Rep.lst_inv hr.hd) fun l2 o2 vs2 n2 e2 nX2 ho2 hc2 hd2 rs2 => ?_)
  exact ⟨l1, l2, vs1, vs2, e1, e2, nX1, nX2, ⟨o1, ho1, hc1, n1, hd1⟩, ⟨o2, ho2, hc2, n2, hd2⟩, rs1, rs2⟩
structure ZipSS (n : Nat) (l1 l2 : Addr) (i : Nat) (h : Heap) : Prop where
  z1 : IsZip h (n + 4 : Nat) (n + 2 : Nat) (n + 3 : Nat) .none
  z2 : IsPair h (n + 2 : Nat) (.ref (n : Nat)) (.ref (n + 1 : Nat))
  z3 : ∃ a b, IsPair h (n + 3 : Nat) a b
  z4 : h.IsListIter (n : Nat) l1 i
  z5 : h.IsListIter (n + 1 : Nat) l2 i
theorem ZipSS.frame {n : Nat} {l1 l2 : Addr} {i : Nat} {h h' : Heap} (z : ZipSS n l1 l2 i h) (hk : ∀ b ∈ five n, ∀ o, h.get? b = some o → h'.get? b = some o) : ZipSS n l1 l2 i h' := by
  obtain ⟨a, b, z3⟩ := z.z3
  obtain ⟨o1, z4, z4'⟩ := z.z4
  obtain ⟨o2, z5, z5'⟩ := z.z5
  exact ⟨hk _ (five_mem n 4 (by decide)) _ z.z1, hk _ (five_mem n 2 (by decide)) _ z.z2, ⟨a, b, hk _ (five_mem n 3 (by decide)) _ z3⟩, ⟨o1, hk _ (five_mem n 0 (by decide)) _ z4, z4'⟩, ⟨o2, hk _ (five_mem n 1 (by decide)) _ z5, z5'⟩⟩
theorem ZipSS.al {n : Nat} {l1 l2 : Addr} {i : Nat} {h : Heap} (z : ZipSS n l1 l2 i h) : ∀ b ∈ five n, ∃ o, h.get? b = some o := by
  obtain ⟨a, b, z3⟩ := z.z3
  obtain ⟨o1, z4, z4'⟩ := z.z4
  obtain ⟨o2, z5, z5'⟩ := z.z5
  exact five_all ⟨_, z4⟩ ⟨_, z5⟩ ⟨_, z.z2⟩ ⟨_, z3⟩ ⟨_, z.z1⟩
theorem zip_wk {l1 l2 : Addr} {n : Nat} {xs ys : List D} (hhi' : ∀ j < 5, g.s₁.heap.get? (n + j : Nat) = none ∧ (n + j : Nat) ≠ g.lf) :
    Wk g [.ref l1, .ref l2] [.lst xs, .lst ys] (zipD xs ys) (n + 4 : Nat) (five n) (ZipSS n l1 l2) TSeq where
  hi := five_at (P := fun b => g.s₁.heap.get? b = none) fun j hj => (hhi' j hj).1
  frame := fun i h h' z hk => z.frame hk
  self := fun _ A i s E Q z h => wpAny_pyIter_zip z.z1 h
  item := by
    intro A X i d t s E Q hT hh hw hX hwX hdi z hr h
    (refine ex_2_3 (zipD_get hdi) fun da db ha hb zq77 => ?_; (first | subst zq77 | cases zq77))
    (refine ex_4_8 (two_inv hr) fun _ _ vs1 vs2 e1 e2 nX1 nX2 il1 il2 rs1 rs2 => ?_)
    cases e1; cases e2
    (refine ex_1_2 (rs1.get ha) fun u1 hu1 ru1 => ?_)
    (refine ex_1_2 (rs2.get hb) fun u2 hu2 ru2 => ?_)
    have AP := zip_apart (n := n) (fun hb => nX1 (hwX _ hb)) (fun hb => nX2 (hwX _ hb))
    obtain ⟨a, b, z3⟩ := z.z3
    refine wpAny_pyNext_zip_item AP z.z1 z.z2 z3 z.z4 z.z5 il1 il2 (List.getElem?_toArray.trans hu1) (List.getElem?_toArray.trans hu2) fun h' y1 y3 y4 y5 yT hsz hk => ?_
    have fT := get_size s.heap
    have y2 := hk _ _ AP.TIz AP.TITO AP.TIi1 AP.TIi2 z.z2
    refine letGo_zip (s := { s with heap := h' }) hT y1 fun h'' x1 hs => ?_
    have up : ∀ b o, b ≠ (n + 4 : Nat) → h'.get? b = some o → h''.get? b = some o := fun b o hb e => (hs.2 b hb).trans e
    have hkk : ∀ b o, b ∉ five n → s.heap.get? b = some o → h''.get? b = some o := fun b o hb e =>
      have e5 := five_ne hb
      up b o (e5 4 (by decide)) (hk b o (e5 4 (by decide)) (e5 3 (by decide)) (e5 0 (by decide)) (e5 1 (by decide)) e)
    obtain ⟨p4, y4, y4'⟩ := y4
    obtain ⟨p5, y5, y5'⟩ := y5
    have zz : ZipSS n l1 l2 (i + 1) h'' := ⟨x1, up _ _ AP.TIz y2, ⟨_, _, up _ _ AP.TOz y3⟩, ⟨p4, up _ _ AP.i1z y4, y4'⟩, ⟨p5, up _ _ AP.i2z y5, y5'⟩⟩
    have mv : ∀ {v d}, Rep g X s.heap v d → Rep g X h'' v d := fun r => r.mono (fun _ _ _ x => x) fun b o nb e => hkk b o (fun hb => nb (hwX b hb)) e
    exact h _ { s with heap := h'' } (zip_wd hw hhi' hkk) hkk zz.al zz (.tup (vs := [u1, u2]) (hX.fresh fT) (up _ _ (fun z => hX.fresh fT (z ▸ hwX _ (five_mem n 4 (by decide)))) yT) rfl rfl (.cons (mv ru1) (.one (mv ru2))))
  done := by
    intro A X s E Q hh hw hX hwX z hr h
    (refine ex_4_8 (two_inv hr) fun _ _ vs1 vs2 e1 e2 nX1 nX2 il1 il2 rs1 rs2 => ?_)
    cases e1; cases e2
    obtain ⟨a, b, z3⟩ := z.z3
    refine wpAny_pyNext_zip_end hh (zip_apart (n := n) (fun hb => nX1 (hwX _ hb)) (fun hb => nX2 (hwX _ hb))) z.z1 z.z2 z3 z.z4 z.z5 il1 il2 ?_ fun h' hk => ?_
    · have e1 := rs1.length
      have e2 := rs2.length
      unfold zipD
      rw [List.length_map, List.length_zip, List.getElem?_toArray, List.getElem?_toArray, List.getElem?_eq_none_iff, List.getElem?_eq_none_iff]
      lia
    · have hkk : ∀ b o, b ∉ five n → s.heap.get? b = some o → h'.get? b = some o := fun b o hb e =>
        have e5 := five_ne hb
        hk b o (e5 4 (by decide)) (e5 3 (by decide)) (e5 0 (by decide)) (e5 1 (by decide)) e
      exact h { s with heap := h' } (zip_wd hw hhi' hkk) hkk

theorem above {h : Heap} {n : Nat} (hn : h.objs.size = n) (j : Nat) : h.get? (n + j : Nat) = none := by
  cases e : h.get? (n + j : Nat) with
  | none => rfl
  | some o => exact absurd (Heap.lt_size e) (by rw [hn]; exact Nat.not_lt.mpr (Nat.le_add_right n j))

theorem ItE.zip {e1 e2 : Expr} {np pos : Pos} {xs ys : List D} (hs : Evs g sc k σ [e1, e2] [.lst xs, .lst ys]) (e : nsIn (KK g.w) mainGlobals "zip" = some Option.none := by kernel_rfl)
    (hx : sc.names.lookup ("zip" : Str) = some .globalImplicit := by kernel_rfl)
    (hplain : ∀ env pos, (backTo pos (starEach [e1, e2] env)).any (·.1) = false := by walk_at "w2") (hst : ∀ env, starEach [e1, e2] env = (false, eval e1 env) :: starEach [e2] env := by walk_at "w1") :
    ItE g sc k σ (.Call (.Name "zip" np) [e1, e2] [] pos) (zipD xs ys) TSeq := by
  refine ⟨?_⟩
  intro env A X s E hE hR hw F
  refine wpAny_Call_NameR (builtin_wp (v := .type "zip") hE hw hx e (by rfl) ?_ (by kernel_rfl) (by decide))
  refine args_wp hE hR hw F (fun h _ => keeps_machine (by intro _ h; cases h) h) hs hplain hst fun vs s' q r => ?_
  (refine ex_2_3 (Reps.cons_inv r) fun v1 vs zq78 ra rb => ?_; (first | subst zq78 | cases zq78))
  obtain ⟨v2, vs, rfl, rb, rc⟩ := Reps.cons_inv rb
  obtain rfl := Reps.nil_inv rc
  (refine ex_4_8 (two_inv r) fun l1 l2 vs1 vs2 e1 e2 nX1 nX2 il1 il2 rs1 rs2 => ?_)
  subst e1 e2
  refine call_zip_2 il1 il2 fun h' z1 z2 z3 z4 z5 hsz hk => wpAny_pyIter_zip z1 ?_
  have q' : Kp g s' { s' with heap := h' } := .keeps (t := s'.toks) q.wd hk
  have fr : ∀ j : Nat, s'.heap.get? (s'.heap.objs.size + j : Nat) = Option.none := above rfl
  have zz : ZipSS s'.heap.objs.size l1 l2 0 h' := ⟨z1, z2, ⟨_, _, z3⟩, z4, z5⟩
  exact ⟨q.trans q', _, _, _, _, _, rfl, fun b hb => ⟨five_at (P := fun b => s.heap.get? b = Option.none) (fun j _ => q.none_of (fr j)) b hb, zz.al b hb⟩, r.mono (fun b o eb nb z => z.elim nb fun z => by
      rw [five_at (P := fun b => s'.heap.get? b = Option.none) (fun j _ => fr j) b z] at eb; cases eb) fun b o _ e => hk b o e, zz, zip_wk fun j _ => ⟨q.wd.hi (fr j), (F.kp q).xok.nlf (fr j)⟩⟩

theorem Mth.items {fs : List (Str × D)} : Mth g k (.sd fs) "items" (.builtin "dict.items") := by
  refine ⟨?_⟩
  intro A X s E u pl Q hR hw hX r h
  have inv := Rep.sd_inv r
  try clear r
  (refine ex_3_7 (inv) fun d o kvs eqv nX nS ho hd hk rs => ?_)
  (first | subst eqv | cases eqv)
  focus
    (refine ex_2_3 (hd) fun es ep q1 q2 q3 => ?_)
    exact getMethod_builtin ⟨o, ho, q1.1⟩ PySem.F.plainAttrs_dict PySem.F.slot_dict_items PySem.F.type_dict_items (fun b hb => by cases hb; exact ⟨o, ho, q1.2.1⟩) (h s (.refl hw))

theorem sd_at {X : Addr → Prop} {h : Heap} {d : Addr} {fs : List (Str × D)} {kvs : List (Str × Value)} {ep i : Nat} {f : Str × D} (r : Rep g X h (.ref d) (.sd fs)) (hd : h.DictAt (PySem.strKind pg g.w) d kvs ep)
    (hk : kvs.map (·.1) = fs.map (·.1)) (hf : fs[i]? = some f) : ∃ v, kvs[i]? = some (f.1, v) ∧ Rep g X h v f.2 := by
  (refine ex_2_6 (hd) fun o es ho q1 q2 q3 q4 q5 => ?_)
  (refine ex_3_7 (Rep.sd_inv r) fun a o' kvs' e nX nS ho' hd' hk' rs => ?_)
  cases e
  rw [ho] at ho'; cases ho'
  (refine ex_2_5 (hd') fun es' ep' c1 c2 c3 c4 c5 => ?_)
  rw [q2] at c2; cases c2
  obtain ⟨v, hv⟩ := keys_get hk hf
  obtain ⟨v', hv'⟩ := keys_get hk' hf
  have he := List.getElem?_eq_getElem (l := es.toList) (i := i) (by rw [q4.length]; exact (List.getElem?_eq_some_iff.mp hv).1)
  have e1 := (q4.get? he hv).2.symm.trans (c4.get? he hv').2
  (refine ex_1_2 (rs.get (i := i) (d := f.2) (by rw [List.getElem?_map, hf]; rfl)) fun u hu ru => ?_)
  rw [List.getElem?_map, hv'] at hu
  cases hu
  exact ⟨v, hv, e1 ▸ ru⟩
theorem one_wd {n : Addr} {s : Shared} {h' : Heap} (hw : Wd g s) (hn : g.s₁.heap.get? n = none) (nl : n ≠ g.lf)
    (hkk : ∀ b o, b ∉ [n] → s.heap.get? b = some o → h'.get? b = some o) : Wd g { s with heap := h' } :=
  hw.ext' (t := s.toks) (fun b o he e => hkk b o (fun hb => by obtain ⟨o', e'⟩ := he; rw [List.mem_singleton.mp hb, hn] at e'; cases e') e) (hw.la' fun o e => hkk _ o (fun hb => nl (List.mem_singleton.mp hb).symm) e)
theorem items_wk {d n : Addr} {o : Obj} {fs : List (Str × D)} {kvs : List (Str × Value)} {ep : Nat} (hn : g.s₁.heap.get? n = none) (nl : n ≠ g.lf)
    (dat : ∀ {h : Heap}, h.get? d = some o → h.DictAt (PySem.strKind pg g.w) d kvs ep) (hk : kvs.map (·.1) = fs.map (·.1)) :
    Wk g [.ref d, .ref d] [.sd fs, .obj o] (fs.map fun f => .tup [.str f.1, f.2]) n [n] (fun i h => ∃ ok ov, IsItemIter h n d i kvs.length ep ok ov) TTup where
  hi := fun b hb => (List.mem_singleton.mp hb).symm ▸ hn
  frame := fun i h h' z hk => by (refine ex_2_1 (z) fun ok ov x => ?_); exact ⟨ok, ov, hk _ (.head _) _ x⟩
  self := fun z => by (refine ex_3_1 (z default) fun _ _ _ h => ?_); cases h
  item := by
    intro A X i e t s E Q hT hh hw hX hwX hdi z hr h
    (refine ex_3_1 (hT) fun elts x1 tpos zq79 => ?_; (first | subst zq79 | cases zq79))
    (refine ex_2_1 (z) fun ok ov x => ?_)
    rw [List.getElem?_map, Option.map_eq_some_iff] at hdi
    (refine ex_1_2 (hdi) fun f hf zq80 => ?_; (first | subst zq80 | cases zq80))
    obtain ⟨_, _, e1, r1, hr⟩ := Reps.cons_inv hr
    cases e1
    (refine ex_1_3 (Rep.obj_inv hr.hd) fun _ e2 nX ho => ?_)
    cases e2
    (refine ex_1_2 (sd_at r1 (dat ho) hk hf) fun v hv rv => ?_)
    refine wpAny_pyNext_items_item x (dat ho) hv fun key h' hkey hit hT hsz hk' => ?_
    obtain ⟨t, rfl⟩ := Value.isStrOf_shape hkey
    have fT := get_size s.heap
    refine wpAny_letOwnedTupleGo_items (s := { s with heap := h' }) hit fun h'' x'' hs'' => ?_
    have hkk : ∀ b o, b ∉ [n] → s.heap.get? b = some o → h''.get? b = some o := fun b o hb e =>
      have hb' : b ≠ n := fun z => hb (List.mem_singleton.mpr z)
      (hs''.2 b hb').trans (hk' b o hb' e)
    exact h _ { s with heap := h'' } (one_wd hw hn nl hkk) hkk (fun b hb => (List.mem_singleton.mp hb).symm ▸ ⟨_, x''⟩) ⟨_, _, x''⟩
      (.tup (vs := [.str f.1 t, v]) (hX.fresh fT) ((hs''.2 _ fun z : s.heap.objs.size = n => hX.fresh fT (z.symm ▸ hwX _ (.head _))).trans hT) rfl rfl (.cons (.str _ _) (.one (rv.mono (fun _ _ _ x => x) fun b o nb e => hkk b o (fun hb => nb (hwX b hb)) e))))
  done := by
    intro A X s E Q hh hw hX hwX z hr h
    (refine ex_2_1 (z) fun ok ov x => ?_)
    obtain ⟨_, _, e1, r1, hr⟩ := Reps.cons_inv hr
    cases e1
    (refine ex_1_3 (Rep.obj_inv hr.hd) fun _ e2 nX ho => ?_)
    cases e2
    refine wpAny_pyNext_items_end hh x (dat ho) ?_ fun h' hx' => ?_
    · rw [List.length_map, ← keys_len hk]; exact List.getElem?_eq_none (Nat.le_refl _)
    · exact h { s with heap := h' } (hw.extB (t := s.toks) ⟨hn, nl⟩ hx') fun b o hb e => hx' b o (fun z => hb (List.mem_singleton.mpr z)) e
theorem It.items {env : Env} {X : Addr → Prop} {u : Value} {fs : List (Str × D)} {A : Around} {s₀ s : Shared} {E : Value → Shared → Prop} (q : Kp g s₀ s) (F : Fm g env X σ s.heap) (r : Rep g X s.heap u (.sd fs)) :
    wpAny g.M A (call (.builtin "dict.items") [u]) (fun x s₁ => wpAny g.M A (pyIter x) (fun it s₂ => Kp g s₀ s₂ ∧ ∃ I wr SS vs₀ ds₀, it = .ref I ∧ (∀ b ∈ wr, s₀.heap.get? b = none ∧ ∃ o, s₂.heap.get? b = some o) ∧
      Reps g (fun a => X a ∨ a ∈ wr) s₂.heap vs₀ ds₀ ∧ SS 0 s₂.heap ∧ Wk g vs₀ ds₀ (fs.map fun f => .tup [.str f.1, f.2]) I wr SS TTup) E s₁) E s := by
  (refine ex_3_7 (Rep.sd_inv r) fun d o kvs e1 nX nS ho hd hk rs => ?_)
  subst e1
  have hd' := hd
  (refine ex_2_3 (hd) fun es ep q1 q2 q3 => ?_)
  have dat : ∀ {h : Heap}, h.get? d = some o → h.DictAt (PySem.strKind pg g.w) d kvs ep := fun e => ⟨o, es, e, q1, q2, q3⟩
  refine call_meetsIn PySem.F.slot_dict_items ⟨o, ho, q1.1⟩ PySem.F.entry_dict_items (PySem.F.args_dict_items_1 _) (meets_dict_items (PySem.strKind pg g.w) d (beq_eq_false_iff_ne.mpr nS)) ⟨⟨kvs, Heap.dictOf_iff.mpr ⟨o, ho, hd'⟩⟩, ?_⟩
  generalize hV : ({ cls := .type "dict_items", data := .fields #[.ref d] } : Obj) = V
  have q3 : Kp g s { s with heap := s.heap.push V } := .push q.wd
  have v3 : ({ s with heap := s.heap.push V } : Shared).heap.IsItemsView s.heap.objs.size d := hV ▸ ⟨_, Heap.get?_push_size _ rfl, rfl, rfl⟩
  have h3 : ({ s with heap := s.heap.push V } : Shared).heap.get? d = some o := Heap.get?_push_of_some _ ho
  have F3 := F.kp q3
  have r3 := r.ext F.pl q3.ext
  have q03 := q.trans q3
  generalize ({ s with heap := s.heap.push V } : Shared) = s₃ at v3 h3 F3 r3 q03 ⊢
  refine wpAny_pyIter_items v3 (dat h3) ?_
  have w3 := q03.wd
  have mv : ∀ {o' v d'}, Rep g X s₃.heap v d' → Rep g (fun a => X a ∨ a ∈ [s₃.heap.objs.size]) (s₃.heap.push o') v d' := fun r => (new_wr F3.xok r).hd
  exact ⟨q03.trans (.push w3), s₃.heap.objs.size, [s₃.heap.objs.size], _, [.ref d, .ref d], [.sd fs, .obj o], rfl, fun b hb => (List.mem_singleton.mp hb).symm ▸ ⟨q03.none_of (get_size _), _, Heap.get?_push_size _ rfl⟩,
    .cons (mv r3) (.one (mv (.obj nX h3))), ⟨_, _, Heap.get?_push_size _ rfl⟩, items_wk (w3.hi (get_size _)) (F3.xok.nlf (get_size _)) dat hk⟩
theorem ItE.items {o : Expr} {apos pos : Pos} {fs : List (Str × D)} (ho : Ev g sc k σ o (.sd fs)) (hbase : ∀ env, attributeBase o "items" env (eval o env) = eval o env := by walk_at "w1") (hline : (apos.endLine == pos.line) = true := by kernel_rfl) :
    ItE g sc k σ (.Call (.Attribute o "items" apos) [] [] pos) (fs.map fun f => .tup [.str f.1, f.2]) TTup := by
  refine ⟨?_⟩
  intro env A X s E hE hR hw F
  refine method_wp (hbase env) rfl hline (wpAny_mono (ho.run env A X s E hE hR hw F) (fun u s₁ h₁ => ?_) fun _ _ e => e)
  have F₁ := F.kp h₁.1
  refine Mth.items.run A X s₁ E u _ _ hR h₁.1.wd F₁.xok h₁.2 fun s₂ q => ?_
  exact args_wp0 q.wd (fun h _ => keeps_machine (by intro _ h; cases h) h) (It.items (h₁.1.trans q) (F₁.kp q) (h₁.2.ext F.pl q.ext))
end
section
variable {g : Gw} {k : Nat} {sc : Scope} {σ σ' : Sto}
theorem SubL.nil : SubL σ' [] := trivial
theorem SubL.cons {x : Str} {b : B} (h : Lk σ' x b) (t : SubL σ' σ) : SubL σ' ((x, b) :: σ) := ⟨h, t⟩
local macro_rules | `(tactic| walk_at "sub") => `(tactic| first | exact SubL.nil | (refine SubL.cons (by walk_at "lk") ?_; walk_at "sub"))
theorem Sub.cons {x : Str} {b : B} (q : Sub σ σ') : Sub ((x, b) :: σ) ((x, b) :: σ') := fun y c hy => by
  rcases lookup_cons hy with ⟨rfl, rfl⟩ | ⟨hne, hy⟩
  · exact Lk.h
  · rw [List.lookup_cons, beq_eq_false_iff_ne.mpr hne]; exact q y c hy
theorem Lp.sub1 {x : Str} {body rest : List Stmt} {Q : Fl → Prop} {l : List D} (h : Lp g sc k (bnd1 x) body (Kq g sc k rest Q) l σ) (q : SubL σ' σ) : Lp g sc k (bnd1 x) body (Kq g sc k rest Q) l σ' :=
  Lp.sub (bnd := bnd1 x) (fun d _ _ hs => Sub.cons (x := x) (b := .v d) hs) (fun _ _ hs h => Ex.sub h hs) h (Sub.of q)
theorem Ev.b1 {x : Str} {np pos : Pos} {e : Expr} {d r : D} (f : Value) (h : Ev g sc k σ e d) (hc : Cl g k f [d] r) (hb : bootBuiltins x = some f := by kernel_rfl) (e' : nsIn (KK g.w) mainGlobals x = some Option.none := by kernel_rfl) (hf : ∀ a, f ≠ .ref a := by walk_at "wn")
    (hx : sc.names.lookup x = some .globalImplicit := by kernel_rfl) (hst : ∀ env, starEach [e] env = [(false, eval e env)] := by walk_at "w1")
    (hd : (x == ("__debug__" : Str)) = false := by kernel_rfl) (hn : x ≠ "__name__" := by decide) : Ev g sc k σ (.Call (.Name x np) [e] [] pos) r :=
  Ev.callB (Evs.cons h Evs.nil hst) hb hc e' hf hx (fun env pos => by rw [hst]; rfl) hst hd hn
theorem Ev.b2 {x : Str} {np pos : Pos} {e e2 : Expr} {d d2 r : D} (f : Value) (h : Ev g sc k σ e d) (h2 : Ev g sc k σ e2 d2) (hc : Cl g k f [d, d2] r) (hb : bootBuiltins x = some f := by kernel_rfl) (e' : nsIn (KK g.w) mainGlobals x = some Option.none := by kernel_rfl) (hf : ∀ a, f ≠ .ref a := by walk_at "wn")
    (hx : sc.names.lookup x = some .globalImplicit := by kernel_rfl) (hst : ∀ env, starEach [e, e2] env = [(false, eval e env), (false, eval e2 env)] := by walk_at "w1") (hst2 : ∀ env, starEach [e2] env = [(false, eval e2 env)] := by walk_at "w1")
    (hd : (x == ("__debug__" : Str)) = false := by kernel_rfl) (hn : x ≠ "__name__" := by decide) : Ev g sc k σ (.Call (.Name x np) [e, e2] [] pos) r :=
  Ev.callB (Evs.cons h (Evs.cons h2 Evs.nil hst2) (fun env => by rw [hst, hst2])) hb hc e' hf hx (fun env pos => by rw [hst]; rfl) (fun env => by rw [hst, hst2]) hd hn
theorem Ev.b3 {x : Str} {np pos : Pos} {e e2 e3 : Expr} {d d2 d3 r : D} (f : Value) (h : Ev g sc k σ e d) (h2 : Ev g sc k σ e2 d2) (h3 : Ev g sc k σ e3 d3) (hc : Cl g k f [d, d2, d3] r) (hb : bootBuiltins x = some f := by kernel_rfl) (e' : nsIn (KK g.w) mainGlobals x = some Option.none := by kernel_rfl) (hf : ∀ a, f ≠ .ref a := by walk_at "wn")
    (hx : sc.names.lookup x = some .globalImplicit := by kernel_rfl) (hst : ∀ env, starEach [e, e2, e3] env = [(false, eval e env), (false, eval e2 env), (false, eval e3 env)] := by walk_at "w1") (hst2 : ∀ env, starEach [e2, e3] env = [(false, eval e2 env), (false, eval e3 env)] := by walk_at "w1") (hst3 : ∀ env, starEach [e3] env = [(false, eval e3 env)] := by walk_at "w1")
    (hd : (x == ("__debug__" : Str)) = false := by kernel_rfl) (hn : x ≠ "__name__" := by decide) : Ev g sc k σ (.Call (.Name x np) [e, e2, e3] [] pos) r :=
  Ev.callB (Evs.cons h (Evs.cons h2 (Evs.cons h3 Evs.nil hst3) (fun env => by rw [hst2, hst3])) (fun env => by rw [hst, hst2])) hb hc e' hf hx (fun env pos => by rw [hst]; rfl) (fun env => by rw [hst, hst2]) hd hn

structure Ws where
  raw : Str
  n : Int
  nt : Int
  count : List Int
  b : Int
noncomputable def Ws.norm (w : Ws) : D := .tup [.tup (w.count.map .int), .int w.b]
noncomputable def Ws.fs (w : Ws) : List (Str × D) := [("raw", .str w.raw), ("n", .int w.n), ("nt", .int w.nt), ("norm", w.norm), ("is_simple", .bool (decide ((w.count.length : Int) ≤ 1)))]
noncomputable abbrev Ws.d (w : Ws) : D := .inst w.fs

theorem Ev.at {x attr : Str} {xp pos : Pos} {fs : List (Str × D)} {d : D} (hx : Lk σ x (.v (.inst fs))) (hd : fs.lookup attr = some d) (ha : findIn (KK g.w) (.ref 76) attr = some Option.none := by kernel_rfl)
    (hd1 : (x == ("__debug__" : Str)) = false := by kernel_rfl) (hcd : (x == ("__classdict__" : Str)) = false := by kernel_rfl) : Ev g sc k σ (.Attribute (.Name x xp) attr pos) d :=
  Ev.attr (at' := Option.none) (Ev.nm hx hd1 hcd) hd (.inr trivial) (ha := ha)
theorem Cl.lenT' {ds : List D} {n : Nat} (e : ds.length = n) (hz : n ≤ sizeLine) : Cl g k (.builtin "len") [.tup ds] (.int n) := by subst e; exact Cl.lenT hz
theorem Cl.lenL' {ds : List D} {n : Nat} (e : ds.length = n) (hz : n ≤ sizeLine) : Cl g k (.builtin "len") [.lst ds] (.int n) := by subst e; exact Cl.lenL hz
theorem h38 (w : World) : FH w 38 (stC 2) (scC 2) := by walk_at "fh"
theorem h45 (w : World) : FH w 45 (stC 3) (scC 3) := by walk_at "fh"
theorem h52 (w : World) : FH w 52 (stC 4) (scC 4) := by walk_at "fh"
theorem h59 (w : World) : FH w 59 (stC 5) (scC 5) := by walk_at "fh"
theorem h66 (w : World) : FH w 66 (stC 6) (scC 6) := by walk_at "fh"
theorem h73 (w : World) : FH w 73 (stC 7) (scC 7) := by walk_at "fh"

noncomputable def Ws.longest (w : Ws) : Int := if w.b > (w.count.length : Int) - 1 then w.b else (w.count.length : Int) - 1
structure Ws.Ok (w : Ws) : Prop where
  cl : w.count.length ≤ 900
  cr : ∀ c ∈ w.count, 0 ≤ c ∧ c ≤ 1000
  b0 : 0 ≤ w.b
  b1 : w.b ≤ 900
  nt0 : 0 ≤ w.nt
  nt1 : w.nt ≤ 1000

theorem fn_longest {w : Ws} (hw : w.Ok) : Fn g (k + 1) 38 [w.d] (.int w.longest) := by
  refine Fn.of1 (x := "self") (h38 g.w) (fun _ => by kernel_rfl) (.inl (by kernel_rfl)) ?_
  refine Ex.tupT (ds := [.tup (w.count.map .int), .int w.b]) (Ev.at (by walk_at "lk") rfl) (Ass.cons (Ass.cons Ass.nil)) ?_
  refine Ex.ret ?_ rfl
  refine Ev.b2 (.builtin "max") (Ev.bin (Ev.b1 (.builtin "len") (by walk_at "nm") (Cl.lenT' (n := w.count.length) (by simp) (Nat.le_trans hw.cl (by decide)))) Ev.int Bin.subI) (by walk_at "nm") Cl.max2

set_option tactic.hygienic true in
theorem mulOk {a b : Int} (h : a.natAbs < 2 ^ 20) : IntMulOk a b := by
  refine IntMulOk.of_left ?_
  unfold Builtin.Int.intBits
  split
  · (exact Nat.zero_le _)
  · rename_i h0
    have : a.natAbs.log2 < 20 := (Nat.log2_lt (by simpa using h0)).mpr h
    (exact Nat.le_trans ‹_› (Nat.le_of_ble_eq_true rfl))
theorem rngD_nil (a c : Int) : rngD a c 0 = [] := rfl
theorem rngD_succ (a c : Int) (n : Nat) : rngD a c (n + 1) = .int a :: rngD (a + c) c n := by
  unfold rngD
  rw [List.range_succ_eq_map, List.map_cons, List.map_map]
  congr 1
  · simp
  · refine List.map_congr_left fun i _ => ?_
    simp only [Function.comp_apply]
    congr 1
    have : ((i.succ : Nat) : Int) = (i : Int) + 1 := by simp
    rw [this, Int.add_mul]; lia
noncomputable def ilGo (ts : Int) (count : List Int) : Nat → Nat → Int → Int
  | _, 0, acc => acc
  | i, m + 1, acc => ilGo ts count (i + 1) m (acc + (i : Int).fdiv ts * count.getD i 0)
noncomputable def Ws.lvl (w : Ws) (ts : Int) : Int := w.b + ts * (ilGo ts w.count ts.toNat (w.count.length - ts.toNat) 0 + w.nt)

theorem seqIndex_nat {i n : Nat} (h : i < n) : seqIndex? (i : Int) n = some i := by
  unfold seqIndex?
  simp
  lia
theorem il_loop {w : Ws} {ts : Int} {rest : List Stmt} {Q : Fl → Prop} {body : List Stmt} (hw : w.Ok) (ht : 1 ≤ ts ∧ ts ≤ 1000)
    (hbody : body = match stC 3 with | [_, _, .For _ _ body _ _, _] => body | _ => []) :
    ∀ (m i : Nat) (acc : Int), (m = 0 ∨ i + m ≤ w.count.length) → (∀ r : Int, r = ilGo ts w.count i m acc → Ex g (scC 3) k [("il", .v (.int r)), ("trailing", .v (.int w.b)), ("count", .v (.tup (w.count.map .int))), ("self", .v w.d), ("tabsize", .v (.int ts))] rest Q) →
    Lp g (scC 3) k (bnd1 "i") body (Kq g (scC 3) k rest Q) (rngD i 1 m) [("il", .v (.int acc)), ("trailing", .v (.int w.b)), ("count", .v (.tup (w.count.map .int))), ("self", .v w.d), ("tabsize", .v (.int ts))]
  | 0, i, acc, _, h => h _ rfl
  | m + 1, i, acc, hle, h => by
    rw [rngD_succ]
    have hlt : i < w.count.length := by omega
    subst hbody
    have hget : (w.count.map D.int)[i]? = some (.int (w.count.getD i 0)) := by simp [hlt]
    have hfd : ((i : Int).fdiv ts).natAbs < 2 ^ 20 := by
      have := hw.cl
      rw [Int.fdiv_eq_ediv_of_nonneg _ (by omega)]
      have h1 : (i : Int) / ts ≤ i := Int.ediv_le_self _ (by (exact Int.ofNat_zero_le _))
      have h2 : 0 ≤ (i : Int) / ts := Int.ediv_nonneg (by (exact Int.ofNat_zero_le _)) (by omega)
      omega
    refine Ex.assign (d := .int (acc + (i : Int).fdiv ts * w.count.getD i 0)) (Ev.bin (by walk_at "nm") (Ev.bin (Ev.bin (by walk_at "nm") (by walk_at "nm") (Bin.divI (by omega) (by omega))) (Ev.sub (by walk_at "nm") (by walk_at "nm") (Itm.tup (j := i) ?_ hget ?_ ?_)) (Bin.mulI (mulOk hfd))) Bin.addI) ?_
    · rw [List.length_map]; exact seqIndex_nat hlt
    · (exact Int.ofNat_zero_le _)
    · have := hw.cl; omega
    · refine Ex.nil ?_
      have := il_loop hw ht rfl m (i + 1) (acc + (i : Int).fdiv ts * w.count.getD i 0) (by omega) (fun r hr => h r hr)
      have e : ((i + 1 : Nat) : Int) = (i : Int) + 1 := by rfl
      rw [e] at this
      exact Lp.sub1 this (by walk_at "sub")
theorem fn_level {w : Ws} {ts : Int} (hw : w.Ok) (ht : 1 ≤ ts ∧ ts ≤ 1000) : Fn g (k + 1) 45 [w.d, .int ts] (.int (w.lvl ts)) := by
  obtain ⟨t, rfl⟩ : ∃ t : Nat, ts = t := ⟨ts.toNat, by lia⟩
  refine Fn.of2 (x := "self") (y := "tabsize") (h45 g.w) (fun _ _ => by kernel_rfl) (.inl (by kernel_rfl)) (.inl (by kernel_rfl)) (by kernel_rfl) ?_
  refine Ex.tupT (ds := [.tup (w.count.map .int), .int w.b]) (Ev.at (by walk_at "lk") rfl) (Ass.cons (Ass.cons Ass.nil)) ?_
  refine Ex.assign Ev.int ?_
  have hcl := hw.cl
  refine Ex.for_ (bnd1 "i") ["i"] (ItE.of (Ev.b2 (.type "range") (by walk_at "nm") (Ev.b1 (.builtin "len") (by walk_at "nm") (Cl.lenT' (n := w.count.length) (by simp) (Nat.le_trans hw.cl (by decide)))) Cl.range2) (It.rng (n := w.count.length - t) (small_of (by lia) (by lia) (.inl rfl)) ?_)) trivial (fun d _ σ' => As.name) (fun d _ σ' x e h => ?_) ?_
  · unfold Builtin.Range.rangeSize
    rw [if_pos (by (exact Int.ofNat_zero_le _))]
    split <;> lia
  · rcases lookup_cons h with ⟨_, hb⟩ | ⟨hne, hy⟩
    · cases hb
    · exact ⟨hy, by simpa using hne⟩
  · refine il_loop hw ht rfl (w.count.length - t) t 0 (by lia) (fun r hr => ?_)
    refine Ex.ret ?_ ?_ (d := .int (w.b + t * (r + w.nt)))
    · exact Ev.bin (by walk_at "nm") (Ev.bin (by walk_at "nm") (Ev.bin (by walk_at "nm") (Ev.at (by walk_at "lk") rfl) Bin.addI) (Bin.mulI (mulOk (by omega)))) Bin.addI
    · rw [hr]; rfl
end
local macro_rules | `(tactic| walk_at "sub") => `(tactic| first | exact SubL.nil | (refine SubL.cons (by walk_at "lk") ?_; walk_at "sub"))
section
variable {g : Gw} {k : Nat} {sc : Scope} {σ σ' : Sto}

noncomputable def bodyC (j : Nat) : List Stmt := match stC j with
  | [_, _, .For _ _ body _ _, _] => body
  | _ => []
noncomputable def rowD (r : Int × Int × Int) : D := .tup [.int r.1, .int r.2.1, .int r.2.2]
noncomputable def tabGo (p : Int → Int → Bool) (w v : Ws) : Nat → Nat → List (Int × Int × Int)
  | _, 0 => []
  | i, m + 1 => bif p (w.lvl i) (v.lvl i) then ((i : Int), w.lvl i, v.lvl i) :: tabGo p w v (i + 1) m else tabGo p w v (i + 1) m
noncomputable def span (w v : Ws) : Int := (if v.longest > w.longest then v.longest else w.longest) + 1
noncomputable def table (p : Int → Int → Bool) (w v : Ws) : List (Int × Int × Int) := tabGo p w v 1 (span w v).toNat
noncomputable def pNe (a b : Int) : Bool := a != b
noncomputable def pGe (a b : Int) : Bool := decide (b ≤ a)
theorem Ex.for1 {x : Str} {px pos : Pos} {iter : Expr} {body rest : List Stmt} {Q : Fl → Prop} {ds : List D} (hi : ItE g sc k σ iter ds TAny) (h : Lp g sc k (bnd1 x) body (Kq g sc k rest Q) ds σ)
    (hx : sc.names.lookup x = some .local ∨ sc.names.lookup x = some .cell := by walk_at "wc")
    (hs : ∀ env x, foldedSetIterable iter env x = pure x := by walk_at "w2") : Ex g sc k σ (.For (.Name x px) iter body [] pos :: rest) Q :=
  Ex.for_ (bnd1 x) [x] hi trivial (fun d _ σ' => As.name hx) (fun d _ σ' y e h => by
    rcases lookup_cons h with ⟨_, hb⟩ | ⟨hne, hy⟩
    · cases hb
    · exact ⟨hy, by simpa using hne⟩) h hs

theorem span_bd {w v : Ws} (hw : w.Ok) (hv : v.Ok) : 0 ≤ span w v ∧ span w v ≤ 901 := by
  have h1 := hw.cl; have h2 := hv.cl; have h3 := hw.b0; have h4 := hw.b1; have h5 := hv.b0; have h6 := hv.b1
  unfold span Ws.longest
  split <;> split <;> (try split) <;> lia
theorem rng_size {a b : Int} {n : Nat} (h : b = a + n) : Builtin.Range.rangeSize a b 1 = n := by
  unfold Builtin.Range.rangeSize
  rw [if_pos (by (exact Int.ofNat_zero_le _))]
  split <;> lia
theorem neq_loop {w v : Ws} {rest : List Stmt} {Q : Fl → Prop} {n : Int} (hw : w.Ok) (hv : v.Ok) : ∀ (m i : Nat) (acc : List (Int × Int × Int)), 1 ≤ i → i + m ≤ 1001 → acc.length + m ≤ 3000 →
    Ex g (scC 5) (k + 1) [("a", .m (.lst ((acc ++ tabGo pNe w v i m).map rowD))), ("n", .v (.int n)), ("self", .v w.d), ("other", .v v.d)] rest Q →
    Lp g (scC 5) (k + 1) (bnd1 "ts") (bodyC 5) (Kq g (scC 5) (k + 1) rest Q) (rngD i 1 m) [("a", .m (.lst (acc.map rowD))), ("n", .v (.int n)), ("self", .v w.d), ("other", .v v.d)]
  | 0, i, acc, _, _, _, h => by
    unfold tabGo at h; rw [List.append_nil] at h; exact h
  | m + 1, i, acc, h1, h2, h3, h => by
    rw [rngD_succ]
    have hi : (1 : Int) ≤ i ∧ (i : Int) ≤ 1000 := by lia
    have lw := fn_level (g := g) (k := k) hw hi
    have lv := fn_level (g := g) (k := k) hv hi
    have e : ((i + 1 : Nat) : Int) = (i : Int) + 1 := by rfl
    refine Ex.if_ (Tr.cmp (Ev.methF (by walk_at "nm") (Mth.inst (by kernel_rfl)) (Evs.cons (by walk_at "nm") Evs.nil) lw) (Ev.methF (by walk_at "nm") (Mth.inst (by kernel_rfl)) (Evs.cons (by walk_at "nm") Evs.nil) lv) Cmp.neI) ?_
    unfold tabGo at h
    cases hp : pNe (w.lvl i) (v.lvl i) with
    | true =>
      rw [hp] at h
      have ih := neq_loop hw hv m (i + 1) (acc ++ [((i : Int), w.lvl i, v.lvl i)]) (by (exact Nat.zero_lt_succ _)) (by lia) (by simp; lia) (by rw [List.append_assoc]; exact h)
      rw [e] at ih
      rw [show (w.lvl i != v.lvl i) = pNe (w.lvl i) (v.lvl i) from rfl, hp]
      refine Ex.append (d := rowD ((i : Int), w.lvl i, v.lvl i)) (by walk_at "lk") (Ev.tup (Evs.cons (by walk_at "nm") (Evs.cons (Ev.methF (by walk_at "nm") (Mth.inst (by kernel_rfl)) (Evs.cons (by walk_at "nm") Evs.nil) lw) (Evs.cons (Ev.methF (by walk_at "nm") (Mth.inst (by kernel_rfl)) (Evs.cons (by walk_at "nm") Evs.nil) lv) Evs.nil)))) (by rw [List.length_map]; exact Nat.le_trans (by lia : acc.length ≤ 3000) (by decide)) ?_
      refine Ex.nil (Ex.nil ?_)
      rw [List.map_append, List.map_cons, List.map_nil] at ih
      exact Lp.sub1 ih (by walk_at "sub")
    | false =>
      rw [hp] at h
      have ih := neq_loop hw hv m (i + 1) acc (by (exact Nat.zero_lt_succ _)) (by lia) (by (exact Nat.le_of_lt ‹_›)) h
      rw [e] at ih
      rw [show (w.lvl i != v.lvl i) = pNe (w.lvl i) (v.lvl i) from rfl, hp]
      refine Ex.nil (Ex.nil ?_)
      exact Lp.sub1 ih (by walk_at "sub")
theorem fn_neq {w v : Ws} (hw : w.Ok) (hv : v.Ok) : Fn g (k + 2) 59 [w.d, v.d] (.lst ((table pNe w v).map rowD)) := by
  refine Fn.of2 (x := "self") (y := "other") (h59 g.w) (fun _ _ => by kernel_rfl) (.inl (by kernel_rfl)) (.inl (by kernel_rfl)) (by kernel_rfl) ?_
  refine Ex.assign (d := .int (span w v)) (Ev.bin (Ev.b2 (.builtin "max") (Ev.methF0 (by walk_at "nm") (Mth.inst (by kernel_rfl)) (fn_longest hw)) (Ev.methF0 (by walk_at "nm") (Mth.inst (by kernel_rfl)) (fn_longest hv)) Cl.max2) Ev.int Bin.addI) ?_
  refine Ex.newM (EvF.list Evs.nil) ?_
  have hs := span_bd hw hv
  obtain ⟨m, hm⟩ : ∃ m : Nat, span w v = m := ⟨(span w v).toNat, by lia⟩
  rw [hm] at hs ⊢
  refine Ex.for1 (ItE.of (Ev.b2 (.type "range") Ev.int (Ev.bin (by walk_at "nm") Ev.int Bin.addI) Cl.range2) (It.rng (n := m) (small_of (by decide) (by lia) (.inl rfl)) (rng_size (by lia)))) ?_
  refine neq_loop hw hv m 1 [] (by (exact Nat.le_refl _)) (by lia) (by simp; lia) ?_
  refine Ex.freeze (x := "a") (by walk_at "lk") ?_
  refine Ex.ret (by walk_at "nm") ?_
  show Rets _ _
  unfold table
  rw [hm]; rfl
theorem nless_loop {w v : Ws} {rest : List Stmt} {Q : Fl → Prop} {n : Int} (hw : w.Ok) (hv : v.Ok) : ∀ (m i : Nat) (acc : List (Int × Int × Int)), 1 ≤ i → i + m ≤ 1001 → acc.length + m ≤ 3000 →
    Ex g (scC 7) (k + 1) [("a", .m (.lst ((acc ++ tabGo pGe w v i m).map rowD))), ("n", .v (.int n)), ("self", .v w.d), ("other", .v v.d)] rest Q →
    Lp g (scC 7) (k + 1) (bnd1 "ts") (bodyC 7) (Kq g (scC 7) (k + 1) rest Q) (rngD i 1 m) [("a", .m (.lst (acc.map rowD))), ("n", .v (.int n)), ("self", .v w.d), ("other", .v v.d)]
  | 0, i, acc, _, _, _, h => by
    unfold tabGo at h; rw [List.append_nil] at h; exact h
  | m + 1, i, acc, h1, h2, h3, h => by
    rw [rngD_succ]
    have hi : (1 : Int) ≤ i ∧ (i : Int) ≤ 1000 := by lia
    have lw := fn_level (g := g) (k := k) hw hi
    have lv := fn_level (g := g) (k := k) hv hi
    have e : ((i + 1 : Nat) : Int) = (i : Int) + 1 := by rfl
    refine Ex.if_ (Tr.cmp (Ev.methF (by walk_at "nm") (Mth.inst (by kernel_rfl)) (Evs.cons (by walk_at "nm") Evs.nil) lw) (Ev.methF (by walk_at "nm") (Mth.inst (by kernel_rfl)) (Evs.cons (by walk_at "nm") Evs.nil) lv) Cmp.geI) ?_
    unfold tabGo at h
    cases hp : pGe (w.lvl i) (v.lvl i) with
    | true =>
      rw [hp] at h
      have ih := nless_loop hw hv m (i + 1) (acc ++ [((i : Int), w.lvl i, v.lvl i)]) (by (exact Nat.zero_lt_succ _)) (by lia) (by simp; lia) (by rw [List.append_assoc]; exact h)
      rw [e] at ih
      rw [show (decide (v.lvl i ≤ w.lvl i)) = pGe (w.lvl i) (v.lvl i) from rfl, hp]
      refine Ex.append (d := rowD ((i : Int), w.lvl i, v.lvl i)) (by walk_at "lk") (Ev.tup (Evs.cons (by walk_at "nm") (Evs.cons (Ev.methF (by walk_at "nm") (Mth.inst (by kernel_rfl)) (Evs.cons (by walk_at "nm") Evs.nil) lw) (Evs.cons (Ev.methF (by walk_at "nm") (Mth.inst (by kernel_rfl)) (Evs.cons (by walk_at "nm") Evs.nil) lv) Evs.nil)))) (by rw [List.length_map]; exact Nat.le_trans (by lia : acc.length ≤ 3000) (by decide)) ?_
      refine Ex.nil (Ex.nil ?_)
      rw [List.map_append, List.map_cons, List.map_nil] at ih
      exact Lp.sub1 ih (by walk_at "sub")
    | false =>
      rw [hp] at h
      have ih := nless_loop hw hv m (i + 1) acc (by (exact Nat.zero_lt_succ _)) (by lia) (by (exact Nat.le_of_lt ‹_›)) h
      rw [e] at ih
      rw [show (decide (v.lvl i ≤ w.lvl i)) = pGe (w.lvl i) (v.lvl i) from rfl, hp]
      refine Ex.nil (Ex.nil ?_)
      exact Lp.sub1 ih (by walk_at "sub")
theorem fn_nless {w v : Ws} (hw : w.Ok) (hv : v.Ok) : Fn g (k + 2) 73 [w.d, v.d] (.lst ((table pGe w v).map rowD)) := by
  refine Fn.of2 (x := "self") (y := "other") (h73 g.w) (fun _ _ => by kernel_rfl) (.inl (by kernel_rfl)) (.inl (by kernel_rfl)) (by kernel_rfl) ?_
  refine Ex.assign (d := .int (span w v)) (Ev.bin (Ev.b2 (.builtin "max") (Ev.methF0 (by walk_at "nm") (Mth.inst (by kernel_rfl)) (fn_longest hw)) (Ev.methF0 (by walk_at "nm") (Mth.inst (by kernel_rfl)) (fn_longest hv)) Cl.max2) Ev.int Bin.addI) ?_
  refine Ex.newM (EvF.list Evs.nil) ?_
  have hs := span_bd hw hv
  obtain ⟨m, hm⟩ : ∃ m : Nat, span w v = m := ⟨(span w v).toNat, by lia⟩
  rw [hm] at hs ⊢
  refine Ex.for1 (ItE.of (Ev.b2 (.type "range") Ev.int (Ev.bin (by walk_at "nm") Ev.int Bin.addI) Cl.range2) (It.rng (n := m) (small_of (by decide) (by lia) (.inl rfl)) (rng_size (by lia)))) ?_
  refine nless_loop hw hv m 1 [] (by (exact Nat.le_refl _)) (by lia) (by simp; lia) ?_
  refine Ex.freeze (x := "a") (by walk_at "lk") ?_
  refine Ex.ret (by walk_at "nm") ?_
  show Rets _ _
  unfold table
  rw [hm]; rfl

theorem D.oks_ints : ∀ (l : List Int) (n : Nat), D.oks (n + 1) (l.map .int) = true := by
  intro l n
  induction l with
  | nil => rfl
  | cons a l ih => simp only [List.map_cons, D.oks, D.ok, Bool.and_eq_true]; exact ⟨trivial, ih⟩
theorem Ws.norm_ok (w : Ws) : w.norm.ok 9 = true := by
  simp [Ws.norm, D.ok, D.oks, D.oks_ints]
theorem fn_equal {w v : Ws} : Fn g (k + 1) 52 [w.d, v.d] (.bool (PyData.eqv w.norm.py v.norm.py)) := by
  refine Fn.of2 (x := "self") (y := "other") (h52 g.w) (fun _ _ => by kernel_rfl) (.inl (by kernel_rfl)) (.inl (by kernel_rfl)) (by kernel_rfl) ?_
  refine Ex.ret (Ev.cmp (Ev.at (by walk_at "lk") rfl) (Ev.at (by walk_at "lk") rfl) (Cmp.eqD w.norm_ok v.norm_ok)) rfl
noncomputable def lessGo (w v : Ws) : Nat → Nat → Bool
  | _, 0 => true
  | i, m + 1 => bif pGe (w.lvl i) (v.lvl i) then false else lessGo w v (i + 1) m
noncomputable def Ws.simple (w : Ws) : Bool := decide ((w.count.length : Int) ≤ 1)
noncomputable def lessP (w v : Ws) : Bool := bif decide (v.n ≤ w.n) then false else bif w.simple && v.simple then decide (w.nt ≤ v.nt) else lessGo w v 2 ((span w v).toNat - 1)
noncomputable def bodyL : List Stmt := match stC 6 with
  | [_, _, _, .For _ _ body _ _, _] => body
  | _ => []
theorem less_loop {w v : Ws} {rest : List Stmt} {n : Int} {r : Bool} (hw : w.Ok) (hv : v.Ok) : ∀ (m i : Nat), 1 ≤ i → i + m ≤ 1001 → lessGo w v i m = r →
    Ex g (scC 6) (k + 1) [("n", .v (.int n)), ("self", .v w.d), ("other", .v v.d)] rest (Rets (.bool true)) →
    Lp g (scC 6) (k + 1) (bnd1 "ts") bodyL (Kq g (scC 6) (k + 1) rest (Rets (.bool r))) (rngD i 1 m) [("n", .v (.int n)), ("self", .v w.d), ("other", .v v.d)]
  | 0, i, _, _, hr, h => by
    unfold lessGo at hr; subst hr; exact h
  | m + 1, i, h1, h2, hr, h => by
    rw [rngD_succ]
    have hi : (1 : Int) ≤ i ∧ (i : Int) ≤ 1000 := by lia
    have lw := fn_level (g := g) (k := k) hw hi
    have lv := fn_level (g := g) (k := k) hv hi
    have e : ((i + 1 : Nat) : Int) = (i : Int) + 1 := by rfl
    refine Ex.if_ (Tr.cmp (Ev.methF (by walk_at "nm") (Mth.inst (by kernel_rfl)) (Evs.cons (by walk_at "nm") Evs.nil) lw) (Ev.methF (by walk_at "nm") (Mth.inst (by kernel_rfl)) (Evs.cons (by walk_at "nm") Evs.nil) lv) Cmp.geI) ?_
    unfold lessGo at hr
    cases hp : pGe (w.lvl i) (v.lvl i) with
    | true =>
      rw [hp] at hr
      rw [show (decide (v.lvl i ≤ w.lvl i)) = pGe (w.lvl i) (v.lvl i) from rfl, hp]
      exact Ex.ret Ev.bool (by rw [← hr]; rfl)
    | false =>
      rw [hp] at hr
      have ih := less_loop hw hv m (i + 1) (by (exact Nat.zero_lt_succ _)) (by lia) hr h
      rw [e] at ih
      rw [show (decide (v.lvl i ≤ w.lvl i)) = pGe (w.lvl i) (v.lvl i) from rfl, hp]
      refine Ex.nil (Ex.nil ?_)
      exact Lp.sub1 ih (by walk_at "sub")
theorem fn_less {w v : Ws} (hw : w.Ok) (hv : v.Ok) : Fn g (k + 2) 66 [w.d, v.d] (.bool (lessP w v)) := by
  refine Fn.of2 (x := "self") (y := "other") (h66 g.w) (fun _ _ => by kernel_rfl) (.inl (by kernel_rfl)) (.inl (by kernel_rfl)) (by kernel_rfl) ?_
  unfold lessP
  refine Ex.if_ (Tr.cmp (Ev.at (by walk_at "lk") rfl) (Ev.at (by walk_at "lk") rfl) Cmp.geI) ?_
  cases h1 : decide (v.n ≤ w.n) with
  | true => exact Ex.ret Ev.bool rfl
  | false =>
  refine Ex.nil ?_
  refine Ex.if_ (Tr.and2 (Tr.val (Ev.at (by walk_at "lk") rfl) Truth.bool) fun _ => Tr.val (Ev.at (by walk_at "lk") rfl) Truth.bool) ?_
  cases h2 : (w.simple && v.simple) with
  | true =>
    rw [show (decide ((w.count.length : Int) ≤ 1) && decide ((v.count.length : Int) ≤ 1)) = (w.simple && v.simple) from rfl, h2]
    exact Ex.ret (Ev.cmp (Ev.at (by walk_at "lk") rfl) (Ev.at (by walk_at "lk") rfl) Cmp.leI) rfl
  | false =>
    rw [show (decide ((w.count.length : Int) ≤ 1) && decide ((v.count.length : Int) ≤ 1)) = (w.simple && v.simple) from rfl, h2]
    refine Ex.nil ?_
    refine Ex.assign (d := .int (span w v)) (Ev.bin (Ev.b2 (.builtin "max") (Ev.methF0 (by walk_at "nm") (Mth.inst (by kernel_rfl)) (fn_longest hw)) (Ev.methF0 (by walk_at "nm") (Mth.inst (by kernel_rfl)) (fn_longest hv)) Cl.max2) Ev.int Bin.addI) ?_
    have hs := span_bd hw hv
    obtain ⟨m, hm⟩ : ∃ m : Nat, span w v = m := ⟨(span w v).toNat, by lia⟩
    rw [hm] at hs ⊢
    have hsz : Builtin.Range.rangeSize 2 ((m : Int) + 1) 1 = (m - 1 : Nat) := by
      unfold Builtin.Range.rangeSize
      rw [if_pos (by (exact Int.ofNat_zero_le _))]
      split <;> lia
    refine Ex.for1 (ItE.of (Ev.b2 (.type "range") Ev.int (Ev.bin (by walk_at "nm") Ev.int Bin.addI) Cl.range2) (It.rng (n := m - 1) (small_of (by decide) (by lia) (.inl rfl)) hsz)) ?_
    exact less_loop hw hv (m - 1) 2 (by (exact Nat.le_succ _)) (by omega) rfl (Ex.ret Ev.bool rfl)
end
section
variable {g : Gw} {k : Nat} {sc : Scope} {σ σ' : Sto}

inductive Cap (σ : Sto) (scope : Scope) : Sto → Prop
  | nil : Cap σ scope []
  | cons {x : Str} {d : D} {σc : Sto} (h : Lk σ x (.v d)) (f : scope.names.lookup x = some .free) (t : Cap σ scope σc) : Cap σ scope ((x, .v d) :: σc)
theorem Cap.of {scope : Scope} {σc : Sto} (h : Cap σ scope σc) : ∀ x b, σc.lookup x = some b → σ.lookup x = some b ∧ (∃ d, b = .v d) ∧ scope.names.lookup x = some .free := by
  induction h with
  | nil => intro x b h; simp at h
  | cons h f t ih =>
    intro y b hy
    rcases lookup_cons hy with ⟨rfl, rfl⟩ | ⟨_, hy⟩
    · exact ⟨h, ⟨_, rfl⟩, f⟩
    · exact ih y b hy
local macro_rules | `(tactic| walk_at "cap") => `(tactic| first | exact Cap.nil | exact Cap.cons (by walk_at "lk") (by kernel_rfl) (by walk_at "cap"))
theorem filter_map_enc {α : Type} {enc : α → D} {dec : D → α} (hd : ∀ a, dec (enc a) = a) (p : α → Bool) (f : α → D) (xs : List α) : (((xs.map enc).filter fun d => p (dec d)).map fun d => f (dec d)) = (xs.filter p).map f := by
  induction xs with
  | nil => rfl
  | cons a xs ih =>
    simp only [List.map_cons, List.filter_cons, hd]
    split
    · rw [List.map_cons, List.map_cons, hd, ih]
    · exact ih
theorem CompOk.m {α : Type} {scope : Scope} {σc : Sto} {elt iter : Expr} {ifs : List Expr} {x : Str} {px : Pos} {xs : List α} (enc : α → D) (dec : D → α) (hd : ∀ a, dec (enc a) = a) (p : α → Bool) (f : α → D)
    (it : ItE g sc k σ iter (xs.map enc) TAny) (cap : Cap σ scope σc) (size : xs.length ≤ sizeLine)
    (test : ∀ a ∈ xs, Trs g (relab scope sc) k ((x, .v (enc a)) :: σc) ifs (p a)) (helt : ∀ a ∈ xs, p a = true → Ev g (relab scope sc) k ((x, .v (enc a)) :: σc) elt (f a)) (hsc : scOkB scope sc = true := by kernel_rfl)
    (hx : (relab scope sc).names.lookup x = some .local ∨ (relab scope sc).names.lookup x = some .cell := by walk_at "wc") (hnf : scope.names.all (fun q => !(q.1 == x && q.2 == .free)) = true := by kernel_rfl)
    (fold : ∀ env x, foldedSetIterable iter env x = pure x := by walk_at "w2") :
    CompOk g sc scope k σ σc elt (.Name x px) iter ifs (xs.map enc) TAny (bnd1 x) [x] (fun d => p (dec d)) (fun d => f (dec d)) :=
  CompOk.one _ _ it cap.of (by rw [List.length_map]; exact size) (fun d hm => by (refine ex_1_2 (List.mem_map.mp hm) fun a ha zq81 => ?_; (first | subst zq81 | cases zq81)); rw [hd]; exact test a ha)
    (fun d hm hp => by (refine ex_1_2 (List.mem_map.mp hm) fun a ha zq82 => ?_; (first | subst zq82 | cases zq82)); rw [hd] at hp ⊢; exact helt a ha hp) hsc hx hnf fold
theorem Ev.compM {α : Type} {scope : Scope} {σc : Sto} {elt iter : Expr} {ifs : List Expr} {x : Str} {px pos : Pos} {xs : List α} (enc : α → D) (dec : D → α) (hd : ∀ a, dec (enc a) = a) (p : α → Bool) (f : α → D)
    (it : ItE g sc k σ iter (xs.map enc) TAny) (cap : Cap σ scope σc) (size : xs.length ≤ sizeLine)
    (test : ∀ a ∈ xs, Trs g (relab scope sc) k ((x, .v (enc a)) :: σc) ifs (p a)) (helt : ∀ a ∈ xs, p a = true → Ev g (relab scope sc) k ((x, .v (enc a)) :: σc) elt (f a)) (hsc : scOkB scope sc = true := by kernel_rfl)
    (hx : (relab scope sc).names.lookup x = some .local ∨ (relab scope sc).names.lookup x = some .cell := by walk_at "wc") (hnf : scope.names.all (fun q => !(q.1 == x && q.2 == .free)) = true := by kernel_rfl)
    (fold : ∀ env x, foldedSetIterable iter env x = pure x := by walk_at "w2") : Ev g sc k σ (.ListComp elt [⟨.Name x px, iter, ifs, 0⟩] scope pos) (.lst ((xs.filter p).map f)) := by
  have := Ev.comp (pos := pos) (CompOk.m (px := px) enc dec hd p f it cap size test helt hsc hx hnf fold)
  rw [filter_map_enc hd] at this
  exact this
theorem Ex.compM {α : Type} {scope : Scope} {σc : Sto} {elt iter : Expr} {ifs : List Expr} {x t : Str} {px pos spos pt : Pos} {xs : List α} {rest : List Stmt} {Q : Fl → Prop} (enc : α → D) (dec : D → α) (hd : ∀ a, dec (enc a) = a) (p : α → Bool) (f : α → D)
    (it : ItE g sc k σ iter (xs.map enc) TAny) (cap : Cap σ scope σc) (size : xs.length ≤ sizeLine)
    (test : ∀ a ∈ xs, Trs g (relab scope sc) k ((x, .v (enc a)) :: σc) ifs (p a)) (helt : ∀ a ∈ xs, p a = true → Ev g (relab scope sc) k ((x, .v (enc a)) :: σc) elt (f a))
    (hq : Ex g sc k ((t, .v (.lst ((xs.filter p).map f))) :: σ) rest Q) (hsw : swB sc scope t pt pos = true := by kernel_rfl) (hsc : scOkB scope sc = true := by kernel_rfl)
    (hx : (relab scope sc).names.lookup x = some .local ∨ (relab scope sc).names.lookup x = some .cell := by walk_at "wc") (hnf : scope.names.all (fun q => !(q.1 == x && q.2 == .free)) = true := by kernel_rfl)
    (fold : ∀ env x, foldedSetIterable iter env x = pure x := by walk_at "w2") : Ex g sc k σ (.Assign [.Name t pt] (.ListComp elt [⟨.Name x px, iter, ifs, 0⟩] scope pos) spos :: rest) Q :=
  Ex.assignC (CompOk.m (px := px) enc dec hd p f it cap size test helt hsc hx hnf fold) (by rw [filter_map_enc hd]; exact hq) hsw
theorem Ev.cast {e : Expr} {d d' : D} (h : Ev g sc k σ e d) (hd : d = d') : Ev g sc k σ e d' := hd ▸ h
theorem ItE.cast {e : Expr} {ds ds' : List D} {T : Expr → Prop} (h : ItE g sc k σ e ds T) (hd : ds = ds') : ItE g sc k σ e ds' T := hd ▸ h
theorem Ev.compA {α : Type} {scope : Scope} {σc : Sto} {elt iter : Expr} {x : Str} {px pos : Pos} {xs : List α} (enc : α → D) (dec : D → α) (hd : ∀ a, dec (enc a) = a) (f : α → D)
    (it : ItE g sc k σ iter (xs.map enc) TAny) (cap : Cap σ scope σc) (size : xs.length ≤ sizeLine)
    (helt : ∀ a ∈ xs, Ev g (relab scope sc) k ((x, .v (enc a)) :: σc) elt (f a)) (hsc : scOkB scope sc = true := by kernel_rfl)
    (hx : (relab scope sc).names.lookup x = some .local ∨ (relab scope sc).names.lookup x = some .cell := by walk_at "wc") (hnf : scope.names.all (fun q => !(q.1 == x && q.2 == .free)) = true := by kernel_rfl)
    (fold : ∀ env x, foldedSetIterable iter env x = pure x := by walk_at "w2") : Ev g sc k σ (.ListComp elt [⟨.Name x px, iter, [], 0⟩] scope pos) (.lst (xs.map f)) := by
  have := Ev.compM (pos := pos) (px := px) enc dec hd (fun _ => true) f it cap size (ifs := []) (fun _ _ => rfl) (fun a ha _ => helt a ha) hsc hx hnf fold
  rw [show xs.filter (fun _ => true) = xs by simp] at this
  exact this
theorem Ex.compA {α : Type} {scope : Scope} {σc : Sto} {elt iter : Expr} {x t : Str} {px pos spos pt : Pos} {xs : List α} {rest : List Stmt} {Q : Fl → Prop} (enc : α → D) (dec : D → α) (hd : ∀ a, dec (enc a) = a) (f : α → D)
    (it : ItE g sc k σ iter (xs.map enc) TAny) (cap : Cap σ scope σc) (size : xs.length ≤ sizeLine)
    (helt : ∀ a ∈ xs, Ev g (relab scope sc) k ((x, .v (enc a)) :: σc) elt (f a))
    (hq : Ex g sc k ((t, .v (.lst (xs.map f))) :: σ) rest Q) (hsw : swB sc scope t pt pos = true := by kernel_rfl) (hsc : scOkB scope sc = true := by kernel_rfl)
    (hx : (relab scope sc).names.lookup x = some .local ∨ (relab scope sc).names.lookup x = some .cell := by walk_at "wc") (hnf : scope.names.all (fun q => !(q.1 == x && q.2 == .free)) = true := by kernel_rfl)
    (fold : ∀ env x, foldedSetIterable iter env x = pure x := by walk_at "w2") : Ex g sc k σ (.Assign [.Name t pt] (.ListComp elt [⟨.Name x px, iter, [], 0⟩] scope pos) spos :: rest) Q :=
  Ex.compM (px := px) enc dec hd (fun _ => true) f it cap size (ifs := []) (fun _ _ => rfl) (fun a ha _ => helt a ha) (by rw [show xs.filter (fun _ => true) = xs by simp]; exact hq) hsw hsc hx hnf fold
noncomputable def decI : D → Int
  | .int i => i
  | _ => 0
noncomputable def decS : D → Str
  | .str i => i
  | _ => ""
theorem filter_tt {α : Type} (xs : List α) : xs.filter (fun _ => true) = xs := by simp
theorem Evs.nm1 {x : Str} {px : Pos} {d : D} (h : Lk σ x (.v d)) (hd : (x == ("__debug__" : Str)) = false := by kernel_rfl) (hcd : (x == ("__classdict__" : Str)) = false := by kernel_rfl) : Evs g sc k σ [.Name x px] [d] :=
  Evs.cons (Ev.nm h hd hcd) Evs.nil

theorem h104 (w : World) : FH w 104 (stB 7) (scB 7) := by walk_at "fh"
theorem rng_down (n : Nat) : Builtin.Range.rangeSize ((n : Int) - 1) (-1) (-1) = n := by
  unfold Builtin.Range.rangeSize
  rw [if_neg (by decide)]
  split
  · rw [show (-(-1) : Int) = 1 by rfl, Int.ediv_one]; lia
  · lia
theorem rngD_ints (a c : Int) (n : Nat) : rngD a c n = ((List.range n).map fun (i : Nat) => a + (i : Int) * c).map D.int := by
  unfold rngD; rw [List.map_map]; rfl
theorem turn_list {α : Type} (f : α → D) (xs : List α) (d0 : D) : (((List.range xs.length).map fun (i : Nat) => ((xs.length : Int) - 1) + (i : Int) * (-1)).map fun i : Int => ((xs.map f)[i.toNat]?).getD d0) = (xs.reverse).map f := by
  apply List.ext_getElem
  · simp
  · intro i h1 h2
    simp at h1 h2
    simp
    have e : ((xs.length : Int) - 1 + -(i : Int)).toNat = xs.length - 1 - i := by lia
    rw [e]
    rw [List.getElem?_eq_getElem (by omega)]
    simp
theorem fn_turned {α : Type} {f : α → D} {xs : List α} (hz : xs.length ≤ 100000) : Fn g (k + 1) 104 [.lst (xs.map f)] (.lst (xs.reverse.map f)) := by
  refine Fn.of1 (x := "row") (h104 g.w) (fun _ => by kernel_rfl) (.inr (by kernel_rfl)) ?_
  refine Ex.ret ?_ rfl
  refine Ev.cast (Ev.compA (σc := [("row", .v (.lst (xs.map f)))]) (xs := (List.range xs.length).map fun (i : Nat) => ((xs.length : Int) - 1) + (i : Int) * (-1)) D.int decI (fun _ => rfl) (fun i : Int => ((xs.map f)[i.toNat]?).getD .none) (ItE.cast (ItE.of (Ev.b3 (.type "range") (Ev.bin (Ev.b1 (.builtin "len") (by walk_at "nm") (Cl.lenL' (n := xs.length) (by simp) (Nat.le_trans hz (by decide)))) Ev.int Bin.subI) (Ev.neg Ev.int) (Ev.neg Ev.int) (Cl.range3 (by decide) (by (exact Nat.le_add_left _ _)))) (It.rng (n := xs.length) (small_of (by lia) (by decide) (.inr rfl)) (rng_down _))) (rngD_ints _ _ _)) (by walk_at "cap") (by simp; exact Nat.le_trans hz (by decide)) (fun a ha => ?_)) (by rw [turn_list])
  (refine ex_1_2 (List.mem_map.mp ha) fun i hi zq83 => ?_; (first | subst zq83 | cases zq83))
  rw [List.mem_range] at hi
  have hn : ((xs.length : Int) - 1 + (i : Int) * (-1)).toNat < (xs.map f).length := by rw [List.length_map]; lia
  refine Ev.sub (by walk_at "nm") (by walk_at "nm") (Itm.lst (j := ((xs.length : Int) - 1 + (i : Int) * (-1)).toNat) ?_ ?_ (by rw [List.length_map]; exact Nat.le_trans hz (by decide)))
  · have := seqIndex_nat hn
    rwa [show ((((xs.length : Int) - 1 + (i : Int) * (-1)).toNat : Nat) : Int) = (xs.length : Int) - 1 + (i : Int) * (-1) by lia] at this
  · rw [List.getElem?_eq_getElem hn]; rfl
end
noncomputable def S (l : List Nat) : Str := ⟨l.toArray⟩
noncomputable abbrev ch (c : Nat) : Str := ⟨#[c]⟩
theorem S_len (l : List Nat) : (S l).length = l.length := by simp [S, Str.length]
theorem S_app (a b : List Nat) : S a ++ S b = S (a ++ b) := by
  show Str.append (S a) (S b) = _
  simp [Str.append, S]
theorem S_cps (l : List Nat) : (S l).cps.toList = l := rfl
theorem S_inj {a b : List Nat} (h : S a = S b) : a = b := by
  have := congrArg (fun x : Str => x.cps.toList) h
  exact this
theorem S_beq (a b : List Nat) : (S a == S b) = (a == b) := by
  rw [Bool.eq_iff_iff, beq_iff_eq, beq_iff_eq]
  exact ⟨S_inj, fun h => by rw [h]⟩
theorem S_ch (c : Nat) : S [c] = ch c := rfl
theorem S_signs (l : List Nat) : signsD (S l) = l.map fun c => D.str (ch c) := rfl
noncomputable def joinL (sep : List Nat) : List (List Nat) → List Nat
  | [] => []
  | [x] => x
  | x :: y :: r => x ++ sep ++ joinL sep (y :: r)
theorem S_join (sep : List Nat) : ∀ (xs : List (List Nat)), Txt.join (S sep) (xs.map S) = S (joinL sep xs)
  | [] => by show Builtin.Str.glued _ _ = _; rw [StrLaws.glued_eq_join]; rfl
  | [x] => by show Builtin.Str.glued _ _ = _; rw [StrLaws.glued_eq_join]; rfl
  | x :: y :: r => by
    have ih := S_join sep (y :: r)
    change Builtin.Str.glued _ _ = _ at ih ⊢
    rw [StrLaws.glued_eq_join] at ih ⊢
    show S x ++ S sep ++ Str.join (S sep) (List.map S (y :: r)) = _
    rw [ih, S_app, S_app]; rfl
theorem foldl_rep (c : Nat) : ∀ (n : Nat) (acc : Array Nat), (List.replicate n #[c]).foldl (· ++ ·) acc = (acc.toList ++ List.replicate n c).toArray
  | 0, acc => by simp
  | n + 1, acc => by rw [List.replicate_succ, List.foldl_cons, foldl_rep c n]; simp [List.replicate_succ]
set_option tactic.hygienic true in
theorem S_mul (c : Nat) (n : Int) : Txt.mul (ch c) n = S (List.replicate n.toNat c) := by
  unfold Txt.mul
  split
  · rw [show n.toNat = 0 by lia]; rfl
  · split
    · rename_i h0 h
      simp [Str.length] at h
      subst h; rfl
    · simp only [foldl_rep]; simp [S]
theorem S_cut (l : List Nat) (lo hi : Option Int) : cutS (S l) lo hi = S (cut l lo hi) := rfl
noncomputable def leadL (runs : List Int) : List Nat := joinL [9] (runs.map fun n => List.replicate n.toNat 32)
theorem leadS_eq (runs : List Int) : leadS runs = S (leadL runs) := by
  unfold leadS leadL
  rw [← S_join, List.map_map]
  congr 1
  refine List.map_congr_left fun n _ => ?_
  exact S_mul 32 n
theorem joinL_len (sep : List Nat) : ∀ (xs : List (List Nat)), (joinL sep xs).length ≤ (xs.map (·.length)).sum + xs.length * sep.length
  | [] => by simp [joinL]
  | [x] => by simp [joinL]
  | x :: y :: r => by
    have ih := joinL_len sep (y :: r)
    simp only [joinL, List.length_append, List.map_cons, List.sum_cons, List.length_cons] at ih ⊢
    have : (r.length + 1 + 1) * sep.length = sep.length + (r.length + 1) * sep.length := by rw [Nat.add_mul (r.length + 1) 1]; lia
    lia
theorem sum_le {α : Type} (f : α → Nat) (b : Nat) : ∀ (xs : List α), (∀ x ∈ xs, f x ≤ b) → (xs.map f).sum ≤ xs.length * b
  | [], _ => by simp
  | x :: xs, h => by
    have := sum_le f b xs fun y hy => h y (.tail _ hy)
    have := h x (.head _)
    simp only [List.map_cons, List.sum_cons, List.length_cons]
    rw [Nat.add_mul]; lia
local macro_rules | `(tactic| walk_at "cap") => `(tactic| first | exact Cap.nil | exact Cap.cons (by walk_at "lk") (by kernel_rfl) (by walk_at "cap"))
section
variable {g : Gw} {k : Nat} {sc : Scope} {σ σ' : Sto}

theorem Ev.strS {x : Str} {n : Nat} {pos : Pos} (l : List Nat) (h : x = S l := by kernel_rfl) : Ev g sc k σ (.Constant (.str x) n pos) (.str (S l)) := by subst h; exact Ev.str
theorem Cl.joinS {sep : List Nat} {ys : List (List Nat)} (hok : (ys.map (·.length)).sum + ys.length * sep.length ≤ 16777216) : Cl g k (.builtin "str.join") [.str (S sep), .lst (ys.map fun y => .str (S y))] (.str (S (joinL sep ys))) := by
  rw [← S_join]
  have := Cl.join (g := g) (k := k) (x := S sep) (ys := ys.map S) (by simpa [S_len, Function.comp_def] using hok)
  rw [List.map_map] at this
  exact this
theorem Cmp.inC {l : List Nat} {c : Nat} : Cmp g k .In (.str (ch c)) (.str (S l)) (decide (c ∈ l)) := by
  have := Cmp.inS (g := g) (k := k) (x := S l) (y := ch c)
  rw [StrLaws.found_one] at this
  exact this
noncomputable def decC : D → Nat
  | .str x => x.cps[0]?.getD 0
  | _ => 0
theorem decC_ch (c : Nat) : decC (.str (ch c)) = c := rfl
noncomputable abbrev chD (c : Nat) : D := .str (ch c)
theorem joinL_nil : ∀ (ys : List (List Nat)), joinL [] ys = ys.flatten
  | [] => rfl
  | [x] => by simp [joinL]
  | x :: y :: r => by rw [joinL, joinL_nil (y :: r)]; simp

theorem fn_lead {runs : List Int} (hr : ∀ n ∈ runs, 0 ≤ n ∧ n ≤ 100) (hl : runs.length ≤ 100) : Fn g (k + 1) 116 [.lst (runs.map .int)] (.str (S (leadL runs))) := by
  refine Fn.of1 (x := "runs") (h116 g.w) (fun _ => by kernel_rfl) (.inl (by kernel_rfl)) ?_
  refine Ex.ret ?_ rfl
  refine Ev.meth (a := .str (S [9])) (f := .builtin "str.join") (ds := [.lst ((runs.map fun n => List.replicate n.toNat 32).map fun y => .str (S y))]) (Ev.strS [9]) Mth.join (Evs.cons ?_ Evs.nil) (Cl.joinS ?_)
  · rw [List.map_map]
    refine Ev.compA (σc := []) D.int decI (fun _ => rfl) _ (ItE.of (d := .lst (runs.map .int)) (by walk_at "nm") It.lst) (by walk_at "cap") (Nat.le_trans hl (by decide)) fun n hn => ?_
    have := hr n hn
    refine Ev.cast (Ev.bin (Ev.strS [32]) (by walk_at "nm") (Bin.mulS (mulOk_of 1 100 (by decide) (by lia) (by lia) (by decide) (by decide)))) ?_
    rw [S_ch, S_mul]; rfl
  · have := sum_le (fun n : Int => (List.replicate n.toNat 32).length) 100 runs (fun n hn => by have := hr n hn; simp; lia)
    rw [List.map_map]
    simp only [Function.comp_def, List.length_map, List.length_cons, List.length_nil] at this ⊢
    lia

theorem fn_turnedS {l : List Nat} (hz : l.length ≤ 100000) : Fn g (k + 1) 104 [.str (S l)] (.lst (l.reverse.map chD)) := by
  refine Fn.of1 (x := "row") (h104 g.w) (fun _ => by kernel_rfl) (.inr (by kernel_rfl)) ?_
  refine Ex.ret ?_ rfl
  have hz' : (S l).length ≤ sizeLine := by rw [S_len]; exact Nat.le_trans hz (by decide)
  refine Ev.cast (Ev.compA (σc := [("row", .v (.str (S l)))]) (xs := (List.range l.length).map fun (i : Nat) => ((l.length : Int) - 1) + (i : Int) * (-1)) D.int decI (fun _ => rfl) (fun i : Int => ((l.map chD)[i.toNat]?).getD .none) (ItE.cast (ItE.of (Ev.b3 (.type "range") (Ev.bin (Ev.b1 (.builtin "len") (by walk_at "nm") (Cl.lenS hz')) Ev.int Bin.subI) (Ev.neg Ev.int) (Ev.neg Ev.int) (Cl.range3 (by decide) (by (exact Nat.le_add_left _ _)))) (It.rng (n := l.length) (small_of (by rw [S_len]; lia) (by decide) (.inr rfl)) (by rw [S_len]; exact rng_down _))) (by rw [S_len, rngD_ints])) (by walk_at "cap") (by simp; exact Nat.le_trans hz (by decide)) (fun a ha => ?_)) (by rw [turn_list])
  (refine ex_1_2 (List.mem_map.mp ha) fun i hi zq84 => ?_; (first | subst zq84 | cases zq84))
  rw [List.mem_range] at hi
  have hn : ((l.length : Int) - 1 + (i : Int) * (-1)).toNat < l.length := by lia
  have hg : ((l.map chD)[((l.length : Int) - 1 + (i : Int) * (-1)).toNat]?).getD .none = chD (l[((l.length : Int) - 1 + (i : Int) * (-1)).toNat]'hn) := by rw [List.getElem?_map, List.getElem?_eq_getElem hn]; rfl
  rw [hg]
  refine Ev.sub (by walk_at "nm") (by walk_at "nm") (Itm.str ?_ (by lia) (by lia))
  have := seqIndex_nat hn
  rw [show ((((l.length : Int) - 1 + (i : Int) * (-1)).toNat : Nat) : Int) = (l.length : Int) - 1 + (i : Int) * (-1) by omega] at this
  rw [S_len, this]
  show (some ((l.length : Int) - 1 + (i : Int) * (-1)).toNat).bind (fun j => (S l).cps[j]?) = _
  rw [Option.bind_some]
  show l.toArray[_]? = _
  rw [List.getElem?_toArray, List.getElem?_eq_getElem hn]

noncomputable def escC (c : Nat) : List Nat := if c ∈ [92, 34, 61] then [92, c] else [c]
noncomputable def escL (l : List Nat) : List Nat := (l.map escC).flatten
noncomputable def quotedL (name text : List Nat) : List Nat := name ++ [61, 34] ++ escL text ++ [34]
theorem h126 (w : World) : FH w 126 (stB 11) (scB 11) := by walk_at "fh"
theorem escL_len (l : List Nat) : ((l.map escC).map List.length).sum ≤ l.length * 2 := by
  rw [List.map_map]
  exact sum_le _ 2 l fun c _ => by simp only [Function.comp_apply, escC]; split <;> simp
theorem fn_quoted {name text : List Nat} (hn : name.length ≤ 100000) (ht : text.length ≤ 100000) : Fn g (k + 1) 126 [.str (S name), .str (S text)] (.str (S (quotedL name text))) := by
  refine Fn.of2 (x := "name") (y := "text") (h126 g.w) (fun _ _ => by kernel_rfl) (.inl (by kernel_rfl)) (.inl (by kernel_rfl)) (by kernel_rfl) ?_
  refine Ex.ret ?_ rfl
  have hl := escL_len text
  have hfl : (escL text).length ≤ 200000 := by unfold escL; rw [List.length_flatten]; lia
  refine Ev.cast (d := .str (S name ++ S [61, 34] ++ S (joinL [] (text.map escC)) ++ S [34])) (Ev.bin (Ev.bin (Ev.bin (by walk_at "nm") (Ev.strS [61, 34]) (Bin.addS ?_)) ?_ (Bin.addS ?_)) (Ev.strS [34]) (Bin.addS ?_)) ?_
  · simp only [S_len]; exact Nat.le_trans (by simp; omega : _ ≤ 100002) (by decide)
  · refine Ev.meth (a := .str (S [])) (f := .builtin "str.join") (ds := [.lst ((text.map escC).map fun y => .str (S y))]) (Ev.strS []) Mth.join (Evs.cons ?_ Evs.nil) (Cl.joinS (by show ((text.map escC).map List.length).sum + _ * 0 ≤ _; lia))
    rw [List.map_map]
    refine Ev.compA (σc := []) chD decC decC_ch _ (ItE.of (d := .str (S text)) (by walk_at "nm") It.str) (by walk_at "cap") (Nat.le_trans ht (by decide)) fun c hc => ?_
    refine Ev.ifExp (Tr.cmp (by walk_at "nm") (Ev.strS [92, 34, 61]) Cmp.inC) (fun h => ?_) (fun h => ?_)
    · have h' : c ∈ [92, 34, 61] := by simpa using h
      refine Ev.cast (Ev.bin (Ev.strS [92]) (by walk_at "nm") (Bin.addS (Nat.le_of_ble_eq_true rfl))) ?_
      show D.str (S [92] ++ S [c]) = .str (S (escC c))
      rw [S_app, escC, if_pos h']; rfl
    · have h' : ¬ c ∈ [92, 34, 61] := by simpa using h
      refine Ev.cast (Ev.nm (by walk_at "lk")) ?_
      show D.str (S [c]) = .str (S (escC c))
      rw [escC, if_neg h']
  · simp only [S_len, S_app, joinL_nil]; rw [show (text.map escC).flatten = escL text from rfl]; exact Nat.le_trans (by simp; lia : _ ≤ 400000) (by decide)
  · simp only [S_len, S_app, joinL_nil]; rw [show (text.map escC).flatten = escL text from rfl]; exact Nat.le_trans (by simp; lia : _ ≤ 400000) (by decide)
  · simp only [S_app, joinL_nil]; rfl
end
section
variable {g : Gw} {k : Nat} {sc : Scope} {σ σ' : Sto}

theorem Pt.no : Pt g sc k σ none none := trivial
theorem Pt.yes {e : Expr} {i : Int} (h : Ev g sc k σ e (.int i)) : Pt g sc k σ (some e) (some i) := h
theorem h138 (w : World) : FH w 138 (stB 13) (scB 13) := by walk_at "fh"
noncomputable def numGo : List Nat → Int → Int
  | [], v => v
  | c :: l, v => numGo l (if 0 ≤ v ∧ c ∈ [48, 49, 50, 51, 52, 53, 54, 55, 56, 57] then 10 * v + c - 48 else -1)
noncomputable def numL (l : List Nat) : Int := numGo l (if l = [] then -1 else 0)
noncomputable def bodyN : List Stmt := match stB 13 with
  | [_, .For _ _ body _ _, _] => body
  | _ => []
theorem num_loop {rest : List Stmt} {Q : Fl → Prop} {t : Str} : ∀ (l : List Nat) (v : Int), Ex g (scB 13) k [("value", .v (.int (numGo l v))), ("text", .v (.str t))] rest Q →
    Lp g (scB 13) k (bnd1 "sign") bodyN (Kq g (scB 13) k rest Q) (l.map chD) [("value", .v (.int v)), ("text", .v (.str t))]
  | [], v, h => h
  | c :: l, v, h => by
    refine Ex.assign (d := .int (if 0 ≤ v ∧ c ∈ [48, 49, 50, 51, 52, 53, 54, 55, 56, 57] then 10 * v + c - 48 else -1)) (Ev.ifExp (Tr.and2 (Tr.cmp (by walk_at "nm") Ev.int Cmp.geI) fun _ => Tr.cmp (by walk_at "nm") (Ev.strS [48, 49, 50, 51, 52, 53, 54, 55, 56, 57]) Cmp.inC) (fun hb => ?_) (fun hb => ?_)) ?_
    · have hb' : 0 ≤ v ∧ c ∈ [48, 49, 50, 51, 52, 53, 54, 55, 56, 57] := by simpa using hb
      rw [if_pos hb']
      exact Ev.bin (Ev.bin (Ev.bin Ev.int (by walk_at "nm") (Bin.mulI (mulOk (by decide)))) (Ev.b1 (.builtin "ord") (by walk_at "nm") Cl.ord) Bin.addI) Ev.int Bin.subI
    · have hb' : ¬ (0 ≤ v ∧ c ∈ [48, 49, 50, 51, 52, 53, 54, 55, 56, 57]) := by
        intro z
        simp [z.1] at hb
        simp [hb] at z
      rw [if_neg hb']
      exact Ev.neg Ev.int
    · exact Ex.nil (Lp.sub1 (num_loop l _ h) (by walk_at "sub"))
theorem fn_number {l : List Nat} : Fn g (k + 1) 138 [.str (S l)] (.int (numL l)) := by
  refine Fn.of1 (x := "text") (h138 g.w) (fun _ => by kernel_rfl) (.inl (by kernel_rfl)) ?_
  refine Ex.assign (d := .int (if l = [] then -1 else 0)) (Ev.ifExp (Tr.cmp (by walk_at "nm") (Ev.strS []) Cmp.eqS) (fun hb => ?_) (fun hb => ?_)) ?_
  · have : l = [] := by rw [S_beq] at hb; simpa using hb
    rw [if_pos this]; exact Ev.neg Ev.int
  · have : ¬ l = [] := by rw [S_beq] at hb; simpa using hb
    rw [if_neg this]; exact Ev.int
  · refine Ex.for1 (ItE.of (d := .str (S l)) (by walk_at "nm") It.str) ?_
    refine num_loop l _ ?_
    refine Ex.ret (by walk_at "nm") ?_
    rfl

theorem h121 (w : World) : FH w 121 (stB 10) (scB 10) := by walk_at "fh"
noncomputable def maxI (l : List Int) : Int := l.foldl max (-1)
noncomputable def countL (closed : List Int) : List Int := (List.range (1 + maxI closed).toNat).map fun (i : Nat) => ((closed.filter fun r => r == (i : Int)).length : Int)
noncomputable def membersD (text : List Nat) (runs : List Int) : D :=
  .tup [.str (S text), .int (runs.sum + runs.dropLast.length), .int runs.dropLast.length, .tup [.tup ((countL runs.dropLast).map .int), .int (runs.getLastD 0)], .bool (runs.dropLast.sum == 0), .bool (!(runs.dropLast.sum == 0))]
theorem cut_last {α : Type} (l : List α) : cut l none (some (-1)) = l.dropLast := by
  unfold cut clipN
  rw [List.dropLast_eq_take]
  simp only [List.drop_zero]
  congr 1
  simp; omega
theorem map_dropLast' {α β : Type} (f : α → β) (l : List α) : (l.map f).dropLast = l.dropLast.map f := by rw [List.map_dropLast]
theorem foldl_max_le : ∀ (l : List Int) (a b : Int), a ≤ b → (∀ x ∈ l, x ≤ b) → l.foldl max a ≤ b
  | [], a, b, h, _ => h
  | x :: l, a, b, h, hl => foldl_max_le l _ b (by have := hl x (.head _); lia) fun y hy => hl y (.tail _ hy)
theorem le_foldl_max : ∀ (l : List Int) (a : Int), a ≤ l.foldl max a ∧ ∀ x ∈ l, x ≤ l.foldl max a
  | [], a => ⟨Int.le_refl _, fun _ h => by cases h⟩
  | x :: l, a => by
    have := le_foldl_max l (max a x)
    refine ⟨by simp only [List.foldl_cons]; omega, fun y hy => ?_⟩
    rcases List.mem_cons.mp hy with rfl | hy
    · simp only [List.foldl_cons]; omega
    · exact this.2 y hy
theorem foldl_max_mem : ∀ (l : List Int) (a : Int), l.foldl max a ∈ a :: l
  | [], a => by simp
  | x :: l, a => by
    have := foldl_max_mem l (max a x)
    simp only [List.foldl_cons]
    rcases List.mem_cons.mp this with h | h
    · rw [h]; rcases Int.le_total a x with h1 | h1
      · rw [show max a x = x by lia]; exact .tail _ (.head _)
      · rw [show max a x = a by lia]; exact .head _
    · exact .tail _ (.tail _ h)
theorem take_sum_le : ∀ (l : List Int) (n : Nat), (∀ x ∈ l, 0 ≤ x) → 0 ≤ (l.take n).sum ∧ (l.take n).sum ≤ l.sum
  | [], n, _ => by simp
  | x :: l, 0, h => by
    have := take_sum_le l 0 fun y hy => h y (.tail _ hy)
    have := h x (.head _)
    simp at *; lia
  | x :: l, n + 1, h => by
    have := take_sum_le l n fun y hy => h y (.tail _ hy)
    have := h x (.head _)
    simp at *; lia
theorem sum_bd : ∀ (l : List Int) (b : Int), (∀ x ∈ l, 0 ≤ x ∧ x ≤ b) → 0 ≤ l.sum ∧ l.sum ≤ l.length * b
  | [], b, _ => by simp
  | x :: l, b, h => by
    have := sum_bd l b fun y hy => h y (.tail _ hy)
    have := h x (.head _)
    have e : ((l.length + 1 : Nat) : Int) * b = l.length * b + b := by rw [show ((l.length + 1 : Nat) : Int) = (l.length : Int) + 1 by rfl, Int.add_mul]; lia
    simp only [List.sum_cons, List.length_cons, e]; lia
theorem Cl.sumS {ns : List Int} (h : ∀ x ∈ ns, 0 ≤ x ∧ x ≤ 100000) (hl : ns.length ≤ 100000) : Cl g k (.builtin "sum") [.lst (ns.map .int)] (.int ns.sum) := by
  refine Cl.sumL fun j hj => ?_
  have h1 : 0 ≤ ns.getD j 0 ∧ ns.getD j 0 ≤ 100000 := by
    rw [List.getD_eq_getElem?_getD, List.getElem?_eq_getElem hj]; exact h _ (List.getElem_mem hj)
  have h2 := take_sum_le ns (j + 1) fun x hx => (h x hx).1
  have h3 := sum_bd ns 100000 h
  have h4 : (ns.length : Int) * 100000 ≤ 10000000000 := by lia
  unfold InLong
  lia
theorem fn_members {text : List Nat} {runs : List Int} (hr : ∀ n ∈ runs, 0 ≤ n ∧ n ≤ 100) (hl : runs.length ≤ 100) (hne : runs ≠ []) : Fn g (k + 1) 121 [.str (S text), .lst (runs.map .int)] (membersD text runs) := by
  refine Fn.of2 (x := "text") (y := "runs") (h121 g.w) (fun _ _ => by kernel_rfl) (.inl (by kernel_rfl)) (.inl (by kernel_rfl)) (by kernel_rfl) ?_
  have hrc : ∀ n ∈ runs.dropLast, 0 ≤ n ∧ n ≤ 100 := fun n hn => hr n (List.dropLast_subset _ hn)
  have hlc : runs.dropLast.length ≤ 100 := by rw [List.length_dropLast]; omega
  have hL : runs.dropLast.length ≤ sizeLine := Nat.le_trans hlc (by decide)
  refine Ex.assign (d := .lst (runs.dropLast.map .int)) (Ev.cast (Ev.sliceL (hi := some (-1)) (lo := none) (by walk_at "nm") Pt.no (Pt.yes (Ev.neg Ev.int)) (by rw [List.length_map]; exact Nat.le_trans hl (by decide))) (by rw [cut_last, map_dropLast'])) ?_ (hx := .inr (by kernel_rfl))
  have hmax : -1 ≤ maxI runs.dropLast ∧ maxI runs.dropLast ≤ 100 := ⟨(le_foldl_max _ _).1, foldl_max_le _ _ _ (by (exact Int.ofNat_zero_le _)) fun x hx => (hrc x hx).2⟩
  refine Ex.compA (σc := [("closed", .v (.lst (runs.dropLast.map .int)))]) (xs := (List.range (1 + maxI runs.dropLast).toNat).map fun (i : Nat) => (0 : Int) + (i : Int) * 1) D.int decI (fun _ => rfl) (fun s : Int => .int ((runs.dropLast.filter fun r => r == s).length))
    (ItE.cast (ItE.of (Ev.b1 (.type "range") (Ev.bin Ev.int (Ev.b1 (.builtin "max") (Ev.bin (Ev.list (Evs.cons (Ev.neg Ev.int) Evs.nil)) (by walk_at "nm") (Bin.addL ?_)) (Cl.maxL (ns := -1 :: runs.dropLast) (m := maxI runs.dropLast) (foldl_max_mem _ _) ?_)) Bin.addI) Cl.range1) (It.rng (n := (1 + maxI runs.dropLast).toNat) (small_of (by decide) (by lia) (.inl rfl)) (rng_size (by lia)))) (rngD_ints _ _ _)) (by walk_at "cap") ?_ (fun s hs => ?_) ?_ (hx := .inr (by kernel_rfl))
  · rw [List.length_map]; exact Nat.le_trans (by show 1 + _ ≤ 101; lia) (by decide : 101 ≤ sizeLine)
  · intro x hx
    rcases List.mem_cons.mp hx with rfl | hx
    · exact hmax.1
    · exact (le_foldl_max _ _).2 x hx
  · rw [List.length_map, List.length_range]; exact Nat.le_trans (by lia : _ ≤ 101) (by decide)
  · refine Ev.b1 (.builtin "len") (Ev.compM (σc := [("size", .v (.int s))]) D.int decI (fun _ => rfl) (fun r => r == s) D.int (ItE.of (d := .lst (runs.dropLast.map .int)) (by walk_at "nm") It.lst) (by walk_at "cap") hL (fun r hr => ?_) (fun r _ _ => by walk_at "nm")) (Cl.lenL' (by rw [List.length_map]) ?_)
    · exact Tr.cmp (by walk_at "nm") (by walk_at "nm") Cmp.eqI
    · exact Nat.le_trans (List.length_filter_le _ _) hL
  · have eC : ((List.range (1 + maxI runs.dropLast).toNat).map fun (i : Nat) => (0 : Int) + (i : Int) * 1).map (fun s : Int => D.int ((runs.dropLast.filter fun r => r == s).length)) = (countL runs.dropLast).map .int := by
      unfold countL
      rw [List.map_map, List.map_map]
      refine List.map_congr_left fun i _ => ?_
      simp
    rw [eC]
    refine Ex.assign (Ev.cmp (Ev.b1 (.builtin "sum") (by walk_at "nm") (Cl.sumS (fun x hx => by have := hrc x hx; lia) (by lia))) Ev.int Cmp.eqI) ?_
    refine Ex.ret ?_ rfl
    have hcl : (countL runs.dropLast).length ≤ 101 := by unfold countL; rw [List.length_map, List.length_range]; lia
    refine Ev.tup (Evs.cons (by walk_at "nm") (Evs.cons (Ev.bin (Ev.b1 (.builtin "sum") (by walk_at "nm") (Cl.sumS (fun x hx => by have := hr x hx; lia) (by (exact Nat.le_trans ‹_› (Nat.le_of_ble_eq_true rfl))))) (Ev.b1 (.builtin "len") (by walk_at "nm") (Cl.lenL' (by rw [List.length_map]) hL)) Bin.addI) (Evs.cons (Ev.b1 (.builtin "len") (by walk_at "nm") (Cl.lenL' (by rw [List.length_map]) hL))
      (Evs.cons (Ev.tup (Evs.cons (Ev.b1 (.type "tuple") (by walk_at "nm") (Cl.tupleL (by rw [List.length_map]; exact Nat.le_trans hcl (by decide)))) (Evs.cons (Ev.sub (by walk_at "nm") (Ev.neg Ev.int) (Itm.lst (j := runs.length - 1) ?_ ?_ (by rw [List.length_map]; exact Nat.le_trans hl (by decide)))) Evs.nil))) (Evs.cons (by walk_at "nm") (Evs.cons (Ev.not (by walk_at "nm") Truth.bool) Evs.nil))))))
    · have : 0 < runs.length := List.length_pos_iff.mpr hne
      unfold seqIndex?
      simp only [List.length_map]
      simp; lia
    · rw [List.getElem?_map, ← List.getLast?_eq_getElem?, List.getLastD_eq_getLast?]
      rw [List.getLast?_eq_some_getLast hne]; rfl
end
section
variable {g : Gw} {k : Nat} {sc : Scope} {σ σ' : Sto}

theorem h111 (w : World) : FH w 111 (stB 8) (scB 8) := by walk_at "fh"
theorem map_cut {α β : Type} (f : α → β) (l : List α) (lo hi : Option Int) : cut (l.map f) lo hi = (cut l lo hi).map f := by
  unfold cut
  rw [List.length_map, List.map_take, List.map_drop]
theorem cut_le {α : Type} (l : List α) (lo hi : Option Int) : (cut l lo hi).length ≤ l.length := by
  rw [cut_len]
  have := clip_le hi l.length l.length (Nat.le_refl _)
  omega
structure Ld where
  one : List Int
  two : List Int
  total : Int
noncomputable def runOf (cell : Int) : Int := (cell.fdiv 4).fmod 5
noncomputable def Ld.step (s : Ld) (number : Int) : Ld :=
  let cell := number.fmod 60
  let run := runOf cell
  let total := s.total + cell
  bif cell.fmod 4 == 0 then ⟨run :: s.one, s.two, total⟩
  else bif cell.fmod 4 == 1 then ⟨s.one, run :: s.two, total⟩
  else bif cell.fmod 4 == 2 then ⟨run :: s.one, s.two.dropLast ++ [run] ++ cut s.two (some (-1)) none, total⟩
  else ⟨bif decide (cell < 40) then s.one.dropLast ++ [run] else s.one, bif decide (20 ≤ cell) then s.two.dropLast ++ [run] else s.two, total⟩
noncomputable def Ld.fin (s : Ld) : List Int × List Int :=
  let kind := (s.total.fdiv 4).fmod 4
  (s.one, bif kind == 1 then s.one.dropLast.reverse ++ [s.one.getLastD 0 + 1] else bif kind == 2 then [(s.total.fdiv 16).fmod 5] else bif kind == 3 then s.one.dropLast.reverse ++ cut s.one (some (-1)) none else s.two)
noncomputable def leads (script : List Int) : List Int × List Int := ((script.take 5).foldl Ld.step ⟨[0, 0], [1, 0], 0⟩).fin
noncomputable def bodyD : List Stmt := match stB 8 with
  | _ :: _ :: _ :: .For _ _ body _ _ :: _ => body
  | _ => []
noncomputable abbrev ldS (s : Ld) (script : List Int) : Sto := [("total", .v (.int s.total)), ("two", .v (.lst (s.two.map .int))), ("one", .v (.lst (s.one.map .int))), ("script", .v (.lst (script.map .int)))]
theorem Ev.cutI {value : Expr} {lower upper : Option Expr} {lo hi : Option Int} {p pos : Pos} {l : List Int} (hv : Ev g sc k σ value (.lst (l.map .int))) (hl : Pt g sc k σ lower lo) (hu : Pt g sc k σ upper hi) (hz : l.length ≤ 1000) (ht : ∀ o r, letTemporaryGo value o r = pure () := by walk_at "w2") :
    Ev g sc k σ (.Subscript value (.Slice lower upper Option.none p) pos) (.lst ((cut l lo hi).map .int)) :=
  Ev.cast (Ev.sliceL hv hl hu (by rw [List.length_map]; exact Nat.le_trans hz (by decide)) ht) (by rw [map_cut])
theorem Bin.addII {xs ys : List Int} (hx : xs.length ≤ 1000) (hy : ys.length ≤ 1000) : Bin g k .Add (.lst (xs.map .int)) (.lst (ys.map .int)) (.lst ((xs ++ ys).map .int)) := by
  rw [List.map_append]
  exact Bin.addL (by rw [List.length_map, List.length_map]; exact Nat.le_trans (by lia : _ ≤ 2000) (by decide))
theorem leads_loop {rest : List Stmt} {Q : Fl → Prop} {script : List Int} : ∀ (l : List Int) (s : Ld), s.one.length + l.length ≤ 500 → s.two.length + l.length ≤ 500 → Ex g (scB 8) k (ldS (l.foldl Ld.step s) script) rest Q →
    Lp g (scB 8) k (bnd1 "number") bodyD (Kq g (scB 8) k rest Q) (l.map .int) (ldS s script)
  | [], s, _, _, h => h
  | number :: l, s, h1, h2, h => by
    simp only [List.length_cons] at h1 h2
    refine Ex.assign (d := .int (number.fmod 60)) (Ev.bin (by walk_at "nm") Ev.int (Bin.modI (by decide))) ?_
    refine Ex.assign (d := .int (runOf (number.fmod 60))) (Ev.bin (Ev.bin (by walk_at "nm") Ev.int (Bin.divI (by decide) (by (exact Nat.le_add_left _ _)))) Ev.int (Bin.modI (by decide))) ?_
    refine Ex.assign (d := .int (s.total + number.fmod 60)) (Ev.bin (by walk_at "nm") (by walk_at "nm") Bin.addI) ?_
    rw [List.foldl_cons] at h
    generalize hs' : s.step number = s' at h
    unfold Ld.step at hs'
    simp only at hs'
    generalize number.fmod 60 = cell at hs' ⊢
    refine Ex.if_ (Tr.cmp (Ev.bin (by walk_at "nm") Ev.int (Bin.modI (by decide))) Ev.int Cmp.eqI) ?_
    cases c0 : (cell.fmod 4 == 0) with
    | true =>
      rw [c0] at hs'
      simp only [cond_true] at hs'
      subst hs'
      refine Ex.assign (d := .lst ((runOf cell :: s.one).map .int)) (Ev.bin (Ev.list (Evs.cons (by walk_at "nm") Evs.nil)) (by walk_at "nm") (Bin.addII (xs := [runOf cell]) (by simp) (by lia))) ?_
      exact Ex.nil (Ex.nil (Lp.sub1 (leads_loop l _ (by simp; lia) (by simp; (exact Nat.le_of_lt ‹_›)) h) (by walk_at "sub")))
    | false =>
      rw [c0] at hs'
      simp only [cond_false] at hs'
      refine Ex.if_ (Tr.cmp (Ev.bin (by walk_at "nm") Ev.int (Bin.modI (by decide))) Ev.int Cmp.eqI) ?_
      cases c1 : (cell.fmod 4 == 1) with
      | true =>
        rw [c1] at hs'
        simp only [cond_true] at hs'
        subst hs'
        refine Ex.assign (d := .lst ((runOf cell :: s.two).map .int)) (Ev.bin (Ev.list (Evs.cons (by walk_at "nm") Evs.nil)) (by walk_at "nm") (Bin.addII (xs := [runOf cell]) (by simp) (by lia))) ?_
        exact Ex.nil (Ex.nil (Ex.nil (Lp.sub1 (leads_loop l _ (by simp; (exact Nat.le_of_lt ‹_›)) (by simp; lia) h) (by walk_at "sub"))))
      | false =>
        rw [c1] at hs'
        simp only [cond_false] at hs'
        refine Ex.if_ (Tr.cmp (Ev.bin (by walk_at "nm") Ev.int (Bin.modI (by decide))) Ev.int Cmp.eqI) ?_
        cases c2 : (cell.fmod 4 == 2) with
        | true =>
          rw [c2] at hs'
          simp only [cond_true] at hs'
          subst hs'
          have hc1 := cut_le s.two none (some (-1))
          have hc2 := cut_le s.two (some (-1)) none
          refine Ex.assign (d := .lst ((runOf cell :: s.one).map .int)) (Ev.bin (Ev.list (Evs.cons (by walk_at "nm") Evs.nil)) (by walk_at "nm") (Bin.addII (xs := [runOf cell]) (by simp) (by lia))) ?_
          refine Ex.assign (d := .lst ((s.two.dropLast ++ [runOf cell] ++ cut s.two (some (-1)) none).map .int)) ?_ ?_
          · rw [← cut_last]
            exact Ev.bin (Ev.bin (Ev.cutI (by walk_at "nm") Pt.no (Pt.yes (Ev.neg Ev.int)) (by lia)) (Ev.list (Evs.cons (by walk_at "nm") Evs.nil)) (Bin.addII (xs := cut s.two none (some (-1))) (ys := [runOf cell]) (by lia) (by simp))) (Ev.cutI (by walk_at "nm") (Pt.yes (Ev.neg Ev.int)) Pt.no (by lia)) (Bin.addII (by simp; lia) (by lia))
          · have hl : (cut s.two (some (-1)) none).length ≤ 1 := by
              rw [cut_len]; unfold clipN; simp; omega
            exact Ex.nil (Ex.nil (Ex.nil (Ex.nil (Lp.sub1 (leads_loop l _ (by simp; lia) (by simp; lia) h) (by walk_at "sub")))))
        | false =>
          rw [c2] at hs'
          simp only [cond_false] at hs'
          subst hs'
          have hc1 := cut_le s.two none (some (-1))
          have hc2 := cut_le s.one none (some (-1))
          refine Ex.if_ (Tr.cmp (by walk_at "nm") Ev.int Cmp.ltI) ?_
          cases c3 : decide (cell < 40) with
          | true =>
            simp only [c3, cond_true, cond_false] at h
            refine Ex.assign (d := .lst ((s.one.dropLast ++ [runOf cell]).map .int)) (by rw [← cut_last s.one]; exact Ev.bin (Ev.cutI (by walk_at "nm") Pt.no (Pt.yes (Ev.neg Ev.int)) (by lia)) (Ev.list (Evs.cons (by walk_at "nm") Evs.nil)) (Bin.addII (xs := cut s.one none (some (-1))) (ys := [runOf cell]) (by lia) (by simp))) ?_
            refine Ex.nil (Ex.if_ (Tr.cmp (by walk_at "nm") Ev.int Cmp.geI) ?_)
            cases c4 : decide (20 ≤ cell) with
            | true =>
              simp only [c4, cond_true, cond_false] at h
              refine Ex.assign (d := .lst ((s.two.dropLast ++ [runOf cell]).map .int)) (by rw [← cut_last s.two]; exact Ev.bin (Ev.cutI (by walk_at "nm") Pt.no (Pt.yes (Ev.neg Ev.int)) (by lia)) (Ev.list (Evs.cons (by walk_at "nm") Evs.nil)) (Bin.addII (xs := cut s.two none (some (-1))) (ys := [runOf cell]) (by lia) (by simp))) ?_
              exact Ex.nil (Ex.nil (Ex.nil (Ex.nil (Ex.nil (Lp.sub1 (leads_loop l _ (by simp; lia) (by simp; lia) h) (by walk_at "sub"))))))
            | false =>
              simp only [c4, cond_true, cond_false] at h
              exact Ex.nil (Ex.nil (Ex.nil (Ex.nil (Ex.nil (Lp.sub1 (leads_loop l _ (by simp; lia) (by simp; (exact Nat.le_of_lt ‹_›)) h) (by walk_at "sub"))))))
          | false =>
            simp only [c3, cond_true, cond_false] at h
            refine Ex.nil (Ex.if_ (Tr.cmp (by walk_at "nm") Ev.int Cmp.geI) ?_)
            cases c4 : decide (20 ≤ cell) with
            | true =>
              simp only [c4, cond_true, cond_false] at h
              refine Ex.assign (d := .lst ((s.two.dropLast ++ [runOf cell]).map .int)) (by rw [← cut_last s.two]; exact Ev.bin (Ev.cutI (by walk_at "nm") Pt.no (Pt.yes (Ev.neg Ev.int)) (by lia)) (Ev.list (Evs.cons (by walk_at "nm") Evs.nil)) (Bin.addII (xs := cut s.two none (some (-1))) (ys := [runOf cell]) (by lia) (by simp))) ?_
              exact Ex.nil (Ex.nil (Ex.nil (Ex.nil (Ex.nil (Lp.sub1 (leads_loop l _ (by simp; (exact Nat.le_of_lt ‹_›)) (by simp; lia) h) (by walk_at "sub"))))))
            | false =>
              simp only [c4, cond_true, cond_false] at h
              exact Ex.nil (Ex.nil (Ex.nil (Ex.nil (Ex.nil (Lp.sub1 (leads_loop l _ (by simp; (exact Nat.le_of_lt ‹_›)) (by simp; (exact Nat.le_of_lt ‹_›)) h) (by walk_at "sub"))))))

structure LdOk (s : Ld) (n : Nat) : Prop where
  n1 : s.one ≠ []
  n2 : s.two ≠ []
  l1 : s.one.length ≤ n
  l2 : s.two.length ≤ n
  r1 : ∀ x ∈ s.one, 0 ≤ x ∧ x ≤ 4
  r2 : ∀ x ∈ s.two, 0 ≤ x ∧ x ≤ 4
theorem runOf_bd (c : Int) : 0 ≤ runOf c ∧ runOf c ≤ 4 := by
  unfold runOf
  rw [Int.fmod_eq_emod_of_nonneg _ (by (exact Int.ofNat_zero_le _))]
  lia
theorem cut_sub {α : Type} {l : List α} {lo hi : Option Int} {x : α} (h : x ∈ cut l lo hi) : x ∈ l := List.mem_of_mem_drop (List.mem_of_mem_take h)
theorem cut_one {α : Type} (l : List α) : (cut l (some (-1)) none).length ≤ 1 := by
  rw [cut_len]; unfold clipN; simp; omega
theorem step_ok {s : Ld} {n : Nat} {c : Int} (h : LdOk s n) : LdOk (s.step c) (n + 1) := by
  obtain ⟨n1, n2, l1, l2, r1, r2⟩ := h
  have hr := runOf_bd (c.fmod 60)
  have p1 := List.length_pos_iff.mpr n1
  have p2 := List.length_pos_iff.mpr n2
  have hc := cut_one s.two
  unfold Ld.step
  simp only
  generalize c.fmod 60 = cell at *
  cases (cell.fmod 4 == 0)
  · cases (cell.fmod 4 == 1)
    · cases (cell.fmod 4 == 2)
      · cases decide (cell < 40) <;> cases decide (20 ≤ cell) <;> simp only [cond_true, cond_false] <;> refine ⟨by simp [n1], by simp [n2], by simp; lia, by simp; lia, fun x hx => ?_, fun x hx => ?_⟩
        all_goals (first
          | exact r1 x hx
          | exact r2 x hx
          | (rcases List.mem_append.mp hx with hx | hx
             · first | exact r1 x (List.dropLast_subset _ hx) | exact r2 x (List.dropLast_subset _ hx)
             · rw [List.mem_singleton] at hx; subst hx; exact hr))
      · simp only [cond_true, cond_false]
        refine ⟨by simp, by simp, by simp; omega, by simp; lia, fun x hx => ?_, fun x hx => ?_⟩
        · rcases List.mem_cons.mp hx with rfl | hx
          · exact hr
          · exact r1 x hx
        · rcases List.mem_append.mp hx with hx | hx
          · rcases List.mem_append.mp hx with hx | hx
            · exact r2 x (List.dropLast_subset _ hx)
            · rw [List.mem_singleton] at hx; subst hx; exact hr
          · exact r2 x (cut_sub hx)
    · simp only [cond_true, cond_false]
      refine ⟨n1, by simp, by simp; lia, by simp; omega, r1, fun x hx => ?_⟩
      rcases List.mem_cons.mp hx with rfl | hx
      · exact hr
      · exact r2 x hx
  · simp only [cond_true]
    refine ⟨by simp, n2, by simp; omega, by simp; lia, fun x hx => ?_, r2⟩
    rcases List.mem_cons.mp hx with rfl | hx
    · exact hr
    · exact r1 x hx
theorem leads_ok : ∀ (l : List Int) (s : Ld) (n : Nat), LdOk s n → LdOk (l.foldl Ld.step s) (n + l.length)
  | [], s, n, h => h
  | c :: l, s, n, h => by
    have := leads_ok l (s.step c) (n + 1) (step_ok h)
    rw [List.foldl_cons, List.length_cons, show n + (l.length + 1) = n + 1 + l.length by lia]
    exact this
theorem fn_leads {script : List Int} (hs : script.length ≤ 1000) : Fn g (k + 2) 111 [.lst (script.map .int)] (.tup [.lst ((leads script).1.map .int), .lst ((leads script).2.map .int)]) := by
  refine Fn.of1 (x := "script") (h111 g.w) (fun _ => by kernel_rfl) (.inl (by kernel_rfl)) ?_
  refine Ex.assign (d := .lst (([0, 0] : List Int).map .int)) (Ev.list (Evs.cons Ev.int (Evs.cons Ev.int Evs.nil))) ?_
  refine Ex.assign (d := .lst (([1, 0] : List Int).map .int)) (Ev.list (Evs.cons Ev.int (Evs.cons Ev.int Evs.nil))) ?_
  refine Ex.assign Ev.int ?_
  have hcut : cut script none (some 5) = script.take 5 := by
    unfold cut clipN
    simp only [List.drop_zero]
    rw [List.take_eq_take_iff]
    simp; lia
  refine Ex.for1 (ItE.of (Ev.cutI (by walk_at "nm") Pt.no (Pt.yes Ev.int) hs) It.lst) ?_
  rw [hcut]
  refine leads_loop (script := script) (script.take 5) ⟨[0, 0], [1, 0], 0⟩ (by simp; lia) (by simp; lia) ?_
  have ok := leads_ok (script.take 5) ⟨[0, 0], [1, 0], 0⟩ 2 ⟨by simp, by simp, by simp, by simp, by simp, by simp⟩
  unfold leads
  generalize (script.take 5).foldl Ld.step ⟨[0, 0], [1, 0], 0⟩ = s at ok ⊢
  have hl1 : s.one.length ≤ 7 := Nat.le_trans ok.l1 (by rw [List.length_take]; lia)
  have hd := cut_le s.one none (some (-1))
  have hd2 := cut_le s.one (some (-1)) none
  have hpos : 0 < s.one.length := List.length_pos_iff.mpr ok.n1
  have hlast : seqIndex? (-1) (s.one.map D.int).length = some (s.one.length - 1) := by
    unfold seqIndex?
    simp only [List.length_map]
    simp; lia
  have hget : (s.one.map D.int)[s.one.length - 1]? = some (.int (s.one.getLastD 0)) := by
    rw [List.getElem?_map, ← List.getLast?_eq_getElem?, List.getLastD_eq_getLast?, List.getLast?_eq_some_getLast ok.n1]; rfl
  refine Ex.assign (d := .int ((s.total.fdiv 4).fmod 4)) (Ev.bin (Ev.bin (by walk_at "nm") Ev.int (Bin.divI (by decide) (by (exact Nat.le_add_left _ _)))) Ev.int (Bin.modI (by decide))) ?_
  unfold Ld.fin
  simp only
  generalize hk : (s.total.fdiv 4).fmod 4 = kind
  have tl : (s.one.map D.int).length ≤ sizeLine := by rw [List.length_map]; exact Nat.le_trans hl1 (by decide)
  refine Ex.if_ (Tr.cmp (by walk_at "nm") Ev.int Cmp.eqI) ?_
  cases c1 : (kind == 1) with
  | true =>
    refine Ex.assign (d := .lst ((s.one.dropLast.reverse ++ [s.one.getLastD 0 + 1]).map .int)) (Ev.bin (Ev.callG (Evs.cons (by rw [← cut_last s.one]; exact Ev.cutI (by walk_at "nm") Pt.no (Pt.yes (Ev.neg Ev.int)) (by (exact Nat.le_trans ‹_› (Nat.le_of_ble_eq_true rfl)))) Evs.nil) (fn_turned (by simp; (exact Nat.le_trans ‹_› (Nat.le_of_ble_eq_true rfl))))) (Ev.list (Evs.cons (Ev.bin (Ev.sub (by walk_at "nm") (Ev.neg Ev.int) (Itm.lst hlast hget tl)) Ev.int Bin.addI) Evs.nil)) (Bin.addII (ys := [s.one.getLastD 0 + 1]) (by simp; (exact Nat.le_trans ‹_› (Nat.le_of_ble_eq_true rfl))) (by simp))) ?_
    refine Ex.nil (Ex.ret (d := .tup [.lst (s.one.map .int), .lst ((s.one.dropLast.reverse ++ [s.one.getLastD 0 + 1]).map .int)]) (Ev.tup (Evs.cons (by walk_at "nm") (Evs.cons (by walk_at "nm") Evs.nil))) ?_)
    rfl
  | false =>
    refine Ex.if_ (Tr.cmp (by walk_at "nm") Ev.int Cmp.eqI) ?_
    cases c2 : (kind == 2) with
    | true =>
      refine Ex.assign (d := .lst (([(s.total.fdiv 16).fmod 5] : List Int).map .int)) (Ev.list (Evs.cons (Ev.bin (Ev.bin (by walk_at "nm") Ev.int (Bin.divI (by decide) (by (exact Nat.le_add_left _ _)))) Ev.int (Bin.modI (by decide))) Evs.nil)) ?_
      refine Ex.nil (Ex.nil (Ex.ret (d := .tup [.lst (s.one.map .int), .lst (([(s.total.fdiv 16).fmod 5] : List Int).map .int)]) (Ev.tup (Evs.cons (by walk_at "nm") (Evs.cons (by walk_at "nm") Evs.nil))) ?_))
      rfl
    | false =>
      refine Ex.if_ (Tr.cmp (by walk_at "nm") Ev.int Cmp.eqI) ?_
      cases c3 : (kind == 3) with
      | true =>
        refine Ex.assign (d := .lst ((s.one.dropLast.reverse ++ cut s.one (some (-1)) none).map .int)) (Ev.bin (Ev.callG (Evs.cons (by rw [← cut_last s.one]; exact Ev.cutI (by walk_at "nm") Pt.no (Pt.yes (Ev.neg Ev.int)) (by (exact Nat.le_trans ‹_› (Nat.le_of_ble_eq_true rfl)))) Evs.nil) (fn_turned (by simp; (exact Nat.le_trans ‹_› (Nat.le_of_ble_eq_true rfl))))) (Ev.cutI (by walk_at "nm") (Pt.yes (Ev.neg Ev.int)) Pt.no (by (exact Nat.le_trans ‹_› (Nat.le_of_ble_eq_true rfl)))) (Bin.addII (by simp; (exact Nat.le_trans ‹_› (Nat.le_of_ble_eq_true rfl))) (by lia))) ?_
        refine Ex.nil (Ex.nil (Ex.nil (Ex.ret (d := .tup [.lst (s.one.map .int), .lst ((s.one.dropLast.reverse ++ cut s.one (some (-1)) none).map .int)]) (Ev.tup (Evs.cons (by walk_at "nm") (Evs.cons (by walk_at "nm") Evs.nil))) ?_)))
        rfl
      | false =>
        refine Ex.nil (Ex.nil (Ex.nil (Ex.ret (d := .tup [.lst (s.one.map .int), .lst (s.two.map .int)]) (Ev.tup (Evs.cons (by walk_at "nm") (Evs.cons (by walk_at "nm") Evs.nil))) ?_)))
        rfl
end
section
variable {g : Gw} {k : Nat} {sc : Scope} {σ σ' : Sto}

theorem Ex.two {x y : Str} {px py pos : Pos} {value : Expr} {rest : List Stmt} {Q : Fl → Prop} {d : D} (h : Ev g sc k σ value d) (hq : Ex g sc k ((y, .v d) :: (x, .v d) :: σ) rest Q)
    (hx : sc.names.lookup x = some .local ∨ sc.names.lookup x = some .cell := by walk_at "wc")
    (hy : sc.names.lookup y = some .local ∨ sc.names.lookup y = some .cell := by walk_at "wc")
    (hs : ∀ env, EnvOk sc env → swapsWithSole [.Name x px, .Name y py] value pos.line env = pure false := by walk_at "w2")
    (hw : ∀ env, EnvOk sc env → swappedStores [.Name x px, .Name y py] value env = pure none := by walk_at "w2") : Ex g sc k σ (.Assign [.Name x px, .Name y py] value pos :: rest) Q :=
  Ex.all (xs := [(x, px), (y, py)]) h rfl hq (fun p hp => by
    rcases List.mem_cons.mp hp with rfl | hp
    · exact hx
    · rw [List.mem_singleton] at hp; subst hp; exact hy) hs hw (fun _ => rfl)
theorem Ex.three {x y z : Str} {px py pz pos : Pos} {value : Expr} {rest : List Stmt} {Q : Fl → Prop} {d : D} (h : Ev g sc k σ value d) (hq : Ex g sc k ((z, .v d) :: (y, .v d) :: (x, .v d) :: σ) rest Q)
    (hx : sc.names.lookup x = some .local ∨ sc.names.lookup x = some .cell := by walk_at "wc")
    (hy : sc.names.lookup y = some .local ∨ sc.names.lookup y = some .cell := by walk_at "wc")
    (hz : sc.names.lookup z = some .local ∨ sc.names.lookup z = some .cell := by walk_at "wc")
    (hs : ∀ env, EnvOk sc env → swapsWithSole [.Name x px, .Name y py, .Name z pz] value pos.line env = pure false := by walk_at "w2")
    (hw : ∀ env, EnvOk sc env → swappedStores [.Name x px, .Name y py, .Name z pz] value env = pure none := by walk_at "w2") : Ex g sc k σ (.Assign [.Name x px, .Name y py, .Name z pz] value pos :: rest) Q :=
  Ex.all (xs := [(x, px), (y, py), (z, pz)]) h rfl hq (fun p hp => by
    rcases List.mem_cons.mp hp with rfl | hp
    · exact hx
    · rcases List.mem_cons.mp hp with rfl | hp
      · exact hy
      · rw [List.mem_singleton] at hp; subst hp; exact hz) hs hw (fun _ => rfl)
theorem ch_beq (c d : Nat) : (ch c == S [d]) = (c == d) := by
  rw [show ch c = S [c] from rfl, S_beq]
  simp
theorem Cmp.eqC {c d : Nat} : Cmp g k .Eq (.str (ch c)) (.str (S [d])) (c == d) := by
  rw [← ch_beq]; exact Cmp.eqS

structure Hp where
  res : List (List Nat)
  part : List Nat
  esc : Bool
  quo : Bool
noncomputable def Hp.step (h : Hp) (c : Nat) : Hp :=
  bif h.esc then ⟨h.res, h.part ++ [c], false, h.quo⟩
  else bif h.quo then (bif c == 92 then ⟨h.res, h.part, true, h.quo⟩ else bif c == 34 then ⟨h.res, h.part ++ [c], h.esc, false⟩ else ⟨h.res, h.part ++ [c], h.esc, h.quo⟩)
  else bif c == 44 then ⟨h.res ++ [h.part], [], h.esc, h.quo⟩
  else bif c == 34 then ⟨h.res, h.part ++ [c], h.esc, true⟩ else ⟨h.res, h.part ++ [c], h.esc, h.quo⟩
noncomputable def Hp.fin (h : Hp) : List (List Nat) := bif h.part.length != 0 then h.res ++ [h.part] else h.res
noncomputable def httpL (l : List Nat) : List (List Nat) := (l.foldl Hp.step ⟨[], [], false, false⟩).fin
noncomputable abbrev strD (l : List Nat) : D := .str (S l)
theorem h99 (w : World) : FH w 99 (stB 5) (scB 5) := by walk_at "fh"
noncomputable def bodyH : List Stmt := match stB 5 with
  | _ :: _ :: _ :: .For _ _ body _ _ :: _ => body
  | _ => []
noncomputable abbrev hpS (h : Hp) (t : Str) : Sto := [("quote", .v (.bool h.quo)), ("escape", .v (.bool h.esc)), ("part", .v (.str (S h.part))), ("res", .m (.lst (h.res.map strD))), ("s", .v (.str t))]
theorem fit1 {a : List Nat} {c : Nat} (h : a.length ≤ 100000) : (S a).length + (ch c).length ≤ sizeLine := by
  rw [S_len]; exact Nat.le_trans (by show a.length + 1 ≤ 100001; (exact Nat.succ_le_succ ‹_›)) (by decide)
theorem app1 (a : List Nat) (c : Nat) : S a ++ ch c = S (a ++ [c]) := S_app a [c]
theorem http_loop {rest : List Stmt} {Q : Fl → Prop} {t : Str} : ∀ (l : List Nat) (h : Hp), h.part.length + l.length ≤ 100000 → h.res.length + l.length ≤ 100000 → Ex g (scB 5) k (hpS (l.foldl Hp.step h) t) rest Q →
    Lp g (scB 5) k (bnd1 "cur") bodyH (Kq g (scB 5) k rest Q) (l.map chD) (hpS h t)
  | [], h, _, _, hq => hq
  | c :: l, h, h1, h2, hq => by
    simp only [List.length_cons] at h1 h2
    rw [List.foldl_cons] at hq
    obtain ⟨res, part, esc, quo⟩ := h
    simp only at h1 h2
    have e2 : S part ++ ch c = S (part ++ [c]) := app1 part c
    refine Ex.if_ (Tr.val (by walk_at "nm") Truth.bool) ?_
    cases esc with
    | true =>
      have hst : Hp.step ⟨res, part, true, quo⟩ c = ⟨res, part ++ [c], false, quo⟩ := by simp [Hp.step]
      rw [hst] at hq
      refine Ex.augS (by walk_at "lk") (by walk_at "nm") (fit1 (a := part) (by lia)) ?_
      rw [e2]
      refine Ex.assign Ev.bool (Ex.cont ?_)
      exact Lp.sub1 (http_loop l _ (by show (part ++ [c]).length + _ ≤ _; simp; lia) (by show res.length + _ ≤ _; (exact Nat.le_of_lt ‹_›)) hq) (by walk_at "sub")
    | false =>
      refine Ex.nil (Ex.if_ (Tr.val (by walk_at "nm") Truth.bool) ?_)
      cases quo with
      | true =>
        refine Ex.if_ (Tr.cmp (by walk_at "nm") (Ev.strS [92]) Cmp.eqC) ?_
        cases c1 : (c == 92) with
        | true =>
          have hst : Hp.step ⟨res, part, false, true⟩ c = ⟨res, part, true, true⟩ := by simp [Hp.step, c1]
          rw [hst] at hq
          refine Ex.assign Ev.bool (Ex.cont ?_)
          exact Lp.sub1 (http_loop l _ (by show part.length + _ ≤ _; (exact Nat.le_of_lt ‹_›)) (by show res.length + _ ≤ _; (exact Nat.le_of_lt ‹_›)) hq) (by walk_at "sub")
        | false =>
          refine Ex.if_ (Tr.cmp (by walk_at "nm") (Ev.strS [34]) Cmp.eqC) ?_
          cases c2 : (c == 34) with
          | true =>
            have hst : Hp.step ⟨res, part, false, true⟩ c = ⟨res, part ++ [c], false, false⟩ := by simp [Hp.step, c1, c2]
            rw [hst] at hq
            refine Ex.assign Ev.bool (Ex.nil (Ex.nil ?_))
            refine Ex.augS (by walk_at "lk") (by walk_at "nm") (fit1 (a := part) (by lia)) ?_
            rw [e2]
            refine Ex.cont ?_
            exact Lp.sub1 (http_loop l _ (by show (part ++ [c]).length + _ ≤ _; simp; lia) (by show res.length + _ ≤ _; (exact Nat.le_of_lt ‹_›)) hq) (by walk_at "sub")
          | false =>
            have hst : Hp.step ⟨res, part, false, true⟩ c = ⟨res, part ++ [c], false, true⟩ := by simp [Hp.step, c1, c2]
            rw [hst] at hq
            refine Ex.nil (Ex.nil ?_)
            refine Ex.augS (by walk_at "lk") (by walk_at "nm") (fit1 (a := part) (by lia)) ?_
            rw [e2]
            refine Ex.cont ?_
            exact Lp.sub1 (http_loop l _ (by show (part ++ [c]).length + _ ≤ _; simp; lia) (by show res.length + _ ≤ _; (exact Nat.le_of_lt ‹_›)) hq) (by walk_at "sub")
      | false =>
        refine Ex.nil (Ex.if_ (Tr.cmp (by walk_at "nm") (Ev.strS [44]) Cmp.eqC) ?_)
        cases c1 : (c == 44) with
        | true =>
          have hst : Hp.step ⟨res, part, false, false⟩ c = ⟨res ++ [part], [], false, false⟩ := by simp [Hp.step, c1]
          rw [hst] at hq
          refine Ex.append (x := "res") (d := strD part) (by walk_at "lk") (by walk_at "nm") (by rw [List.length_map]; exact Nat.le_trans (by lia : res.length ≤ 100000) (by decide)) ?_
          refine Ex.assign (Ev.strS []) (Ex.cont ?_)
          have ih := http_loop l ⟨res ++ [part], [], false, false⟩ (by show ([] : List Nat).length + _ ≤ _; simp; lia) (by show (res ++ [part]).length + _ ≤ _; simp; lia) hq
          unfold hpS at ih
          rw [List.map_append, List.map_cons, List.map_nil] at ih
          exact Lp.sub1 ih (by walk_at "sub")
        | false =>
          refine Ex.nil (Ex.if_ (Tr.cmp (by walk_at "nm") (Ev.strS [34]) Cmp.eqC) ?_)
          cases c2 : (c == 34) with
          | true =>
            have hst : Hp.step ⟨res, part, false, false⟩ c = ⟨res, part ++ [c], false, true⟩ := by simp [Hp.step, c1, c2]
            rw [hst] at hq
            refine Ex.assign Ev.bool (Ex.nil ?_)
            refine Ex.augS (by walk_at "lk") (by walk_at "nm") (fit1 (a := part) (by lia)) ?_
            rw [e2]
            refine Ex.nil ?_
            exact Lp.sub1 (http_loop l _ (by show (part ++ [c]).length + _ ≤ _; simp; lia) (by show res.length + _ ≤ _; (exact Nat.le_of_lt ‹_›)) hq) (by walk_at "sub")
          | false =>
            have hst : Hp.step ⟨res, part, false, false⟩ c = ⟨res, part ++ [c], false, false⟩ := by simp [Hp.step, c1, c2]
            rw [hst] at hq
            refine Ex.nil ?_
            refine Ex.augS (by walk_at "lk") (by walk_at "nm") (fit1 (a := part) (by lia)) ?_
            rw [e2]
            refine Ex.nil ?_
            exact Lp.sub1 (http_loop l _ (by show (part ++ [c]).length + _ ≤ _; simp; lia) (by show res.length + _ ≤ _; (exact Nat.le_of_lt ‹_›)) hq) (by walk_at "sub")
theorem bif_ind {α : Type} {P : α → Prop} {b : Bool} {x y : α} (h1 : P x) (h2 : P y) : P (bif b then x else y) := by cases b <;> assumption
theorem len1 (l : List Nat) (c : Nat) : (l ++ [c]).length ≤ l.length + 1 := Nat.le_of_eq List.length_append
theorem hp_mk {P : Hp → Prop} {h : Hp} {c : Nat} (a : ∀ p e q, p.length ≤ h.part.length + 1 → P ⟨h.res, p, e, q⟩) (b : P ⟨h.res ++ [h.part], [], h.esc, h.quo⟩) : P (h.step c) :=
  have w := a (h.part ++ [c])
  have l := len1 h.part c
  bif_ind (w _ _ l) (bif_ind (bif_ind (a _ _ _ (Nat.le_succ _)) (bif_ind (w _ _ l) (w _ _ l))) (bif_ind b (bif_ind (w _ _ l) (w _ _ l))))
theorem hp_len (N : Nat) (l : List Nat) : ∀ (h : Hp), (∀ p ∈ h.res, p.length ≤ N) → h.part.length + l.length ≤ N →
    (l.foldl Hp.step h).res.length ≤ h.res.length + l.length ∧ (l.foldl Hp.step h).part.length ≤ N ∧ ∀ p ∈ (l.foldl Hp.step h).res, p.length ≤ N := by
  induction l with
  | nil => exact fun h h1 h2 => ⟨Nat.le_refl _, h2, h1⟩
  | cons c l ih =>
    intro h h1 h2
    rw [List.length_cons] at h2 ⊢
    have s1 : (h.step c).res.length ≤ h.res.length + 1 ∧ (h.step c).part.length ≤ h.part.length + 1 ∧ ∀ p ∈ (h.step c).res, p.length ≤ N :=
      hp_mk (P := fun h' => h'.res.length ≤ h.res.length + 1 ∧ h'.part.length ≤ h.part.length + 1 ∧ ∀ p ∈ h'.res, p.length ≤ N) (fun p e q hp => ⟨Nat.le_succ _, hp, h1⟩) ⟨Nat.le_of_eq List.length_append, Nat.zero_le _, fun p hp => (List.mem_append.mp hp).elim (h1 p) fun e => by cases List.mem_singleton.mp e; lia⟩
    have ih := ih (h.step c) s1.2.2 (by lia)
    exact ⟨Nat.le_trans ih.1 (by lia), ih.2⟩
theorem http_len (N : Nat) (l : List Nat) (h : l.length ≤ N) : (httpL l).length ≤ l.length + 1 ∧ ∀ p ∈ httpL l, p.length ≤ N := by
  have := hp_len N l ⟨[], [], false, false⟩ (by simp) (by simpa using h)
  unfold httpL Hp.fin
  generalize l.foldl Hp.step ⟨[], [], false, false⟩ = s at this
  cases (s.part.length != 0) with
  | true =>
    simp at this ⊢
    refine ⟨by lia, fun p hp => ?_⟩
    rcases hp with hp | rfl
    · exact this.2.2 p hp
    · exact this.2.1
  | false => simp at this ⊢; exact ⟨by lia, this.2.2⟩
theorem fn_http {l : List Nat} (hl : l.length ≤ 90000) : Fn g (k + 1) 99 [.str (S l)] (.lst ((httpL l).map fun p => .str (Txt.strip (S p)))) := by
  refine Fn.of1 (x := "s") (h99 g.w) (fun _ => by kernel_rfl) (.inl (by kernel_rfl)) ?_
  refine Ex.newM (EvF.list Evs.nil) ?_
  refine Ex.assign (Ev.strS []) ?_
  refine Ex.two Ev.bool ?_
  refine Ex.for1 (ItE.of (d := .str (S l)) (by walk_at "nm") It.str) ?_
  refine http_loop l ⟨[], [], false, false⟩ (by simp; (exact Nat.le_trans ‹_› (Nat.le_of_ble_eq_true rfl))) (by simp; (exact Nat.le_trans ‹_› (Nat.le_of_ble_eq_true rfl))) ?_
  have hlen := hp_len 90000 l ⟨[], [], false, false⟩ (by simp) (by simpa using hl)
  have hL := (http_len 90000 l hl).1
  have hparts := (http_len 90000 l hl).2
  unfold httpL at hparts hL ⊢
  generalize l.foldl Hp.step ⟨[], [], false, false⟩ = h at hlen hL hparts ⊢
  have hz : (S h.part).length ≤ sizeLine := by rw [S_len]; exact Nat.le_trans (by simp at hlen; omega : _ ≤ 90000) (by decide)
  refine Ex.if_ (Tr.val (by walk_at "nm") (Truth.str hz)) ?_
  rw [S_len]
  have hfin : ∀ {σ' : Sto} {rs : List (List Nat)}, rs = h.fin → Lk σ' "res" (.m (.lst (rs.map strD))) → Ex g (scB 5) k σ' (match stB 5 with | [_, _, _, _, _, r] => [r] | _ => []) (Rets (.lst (h.fin.map fun p => .str (Txt.strip (S p))))) := by
    intro σ' rs e hlk
    subst e
    refine Ex.freeze (x := "res") hlk ?_
    refine Ex.ret (Ev.compA (σc := []) strD (fun d => (decS d).cps.toList) (fun _ => rfl) _ (ItE.of (d := .lst (h.fin.map strD)) (by walk_at "nm") It.lst) (by walk_at "cap") ?_ fun p hp => ?_) rfl
    · exact Nat.le_trans (by omega : _ ≤ 90001) (by decide)
    · exact Ev.meth0 (by walk_at "nm") Mth.strip (Cl.strip (by rw [S_len]; exact Nat.le_trans (hparts p hp) (by decide)))
  unfold Hp.fin at hfin ⊢
  cases hb : (h.part.length != 0) with
  | true =>
    rw [hb] at hfin
    refine Ex.append (x := "res") (d := strD h.part) (by walk_at "lk") (by walk_at "nm") (by rw [List.length_map]; exact Nat.le_trans (by simp at hlen; omega : _ ≤ 90000) (by decide)) ?_
    refine Ex.nil (hfin (rs := h.res ++ [h.part]) rfl ?_)
    rw [List.map_append, List.map_cons, List.map_nil]
    walk_at "lk"
  | false =>
    rw [hb] at hfin
    exact Ex.nil (hfin (rs := h.res) rfl (by walk_at "lk"))
end
section
variable {g : Gw} {k : Nat} {sc : Scope} {σ σ' : Sto}

theorem h148 (w : World) : FH w 148 (stB 15) (scB 15) := by walk_at "fh"
noncomputable def trim (l : List Int) : List Int := (l.reverse.dropWhile (· == 0)).reverse
noncomputable def longer (cs : List Int) (size : Nat) : Int := ((List.range (cs.length - (size + 1))).map fun (i : Nat) => ((size + 1 + i : Nat) : Int).fdiv size * cs.getD (size + 1 + i) 0).sum
structure Rk (levels cs : List Int) (tabs behind : Int) : Prop where
  len : levels.length = cs.length
  pos : 0 < cs.length
  bd : cs.length ≤ 900
  rng : ∀ c ∈ cs, 0 ≤ c ∧ c ≤ 100
  dv : (levels.getD (cs.length - 1) 0).fdiv cs.length = tabs
  md : (levels.getD (cs.length - 1) 0).fmod cs.length = behind
  over : ∀ size : Nat, 1 ≤ size → size < cs.length → (levels.getD (size - 1) 0 - behind).fmod size = 0
  step : ∀ size : Nat, 1 ≤ size → size < cs.length → (levels.getD (size - 1) 0 - behind).fdiv size - tabs - longer cs size = cs.getD size 0
  zero : tabs - (cs.drop 1).sum = cs.getD 0 0
noncomputable def bodyR : List Stmt := match stB 15 with
  | _ :: _ :: .For _ _ body _ _ :: _ => body
  | _ => []
theorem eqv_nil (l : List Int) : PyData.eqv (D.lst (l.map .int)).py (D.lst []).py = l.isEmpty := by cases l <;> rfl
theorem last_idx {l : List Int} (hne : l ≠ []) : seqIndex? (-1) (l.map D.int).length = some (l.length - 1) ∧ (l.map D.int)[l.length - 1]? = some (.int (l.getLastD 0)) := by
  have hpos : 0 < l.length := List.length_pos_iff.mpr hne
  constructor
  · unfold seqIndex?
    simp only [List.length_map]
    simp; lia
  · rw [List.getElem?_map, ← List.getLast?_eq_getElem?, List.getLastD_eq_getLast?, List.getLast?_eq_some_getLast hne]; rfl
theorem trim_zero {l : List Int} (hne : l ≠ []) (h : l.getLastD 0 = 0) : trim l = trim l.dropLast := by
  obtain ⟨xs, x, rfl⟩ : ∃ xs x, l = xs ++ [x] := ⟨l.dropLast, l.getLast hne, (List.dropLast_concat_getLast hne).symm⟩
  simp at h
  subst h
  unfold trim
  simp
theorem trim_nz {l : List Int} (hne : l ≠ []) (h : l.getLastD 0 ≠ 0) : trim l = l := by
  obtain ⟨xs, x, rfl⟩ : ∃ xs x, l = xs ++ [x] := ⟨l.dropLast, l.getLast hne, (List.dropLast_concat_getLast hne).symm⟩
  simp at h
  unfold trim
  simp [h]
theorem EvF.cast {e : Expr} {d d' : D} (h : EvF g sc k σ e d) (hd : d = d') : EvF g sc k σ e d' := hd ▸ h
theorem Tr.cast {e : Expr} {b b' : Bool} (h : Tr g sc k σ e b) (hb : b = b') : Tr g sc k σ e b' := hb ▸ h
theorem okI (l : List Int) : (D.lst (l.map .int)).ok 9 = true := by simp [D.ok, D.oks_ints]
set_option tactic.hygienic true in
theorem reck_while {cs : List Int} {behind : Int} (hb : cs.length ≤ 900) (σ₀ : Sto) (hσ : Lk σ₀ "behind" (.v (.int behind))) :
    ∀ (l : List Int), trim l = trim cs → l.length ≤ 900 → Ex g (scB 15) k (("count", .v (.lst (l.map .int))) :: σ₀) (match stB 15 with | [_, _, _, _, w, r] => [w, r] | _ => []) (Rets (.tup [.tup ((trim cs).map .int), .int behind])) := by
  intro l hl hlen
  refine Ex.while_ (fun n σ => ∃ (l : List Int) (σ₁ : Sto), n = l.length ∧ trim l = trim cs ∧ l.length ≤ 900 ∧ σ = ((("count", .v (.lst (l.map .int))) :: σ₁ : Sto)) ∧ Lk σ₁ "behind" (.v (.int behind))) ?_ l.length ⟨l, σ₀, rfl, hl, hlen, rfl, hσ⟩
  rintro n σ ⟨l, σ₁, rfl, hl, hlen, rfl, hσ⟩
  refine ⟨!l.isEmpty && (l.getLastD 0 == 0), Tr.and2 (Tr.cast (Tr.cmp (by walk_at "nm") (Ev.list Evs.nil) (Cmp.neD (okI l) rfl)) (by rw [eqv_nil])) (fun hne => ?_), ?_⟩
  · have hne' : l ≠ [] := by simpa using hne
    exact Tr.cmp (Ev.sub (by walk_at "nm") (Ev.neg Ev.int) (Itm.lst (last_idx hne').1 (last_idx hne').2 (by rw [List.length_map]; exact Nat.le_trans hlen (by decide)))) Ev.int Cmp.eqI
  · split
    · rename_i hc
      rw [Bool.and_eq_true, beq_iff_eq] at hc
      have hne' : l ≠ [] := by simpa using hc.1
      refine Ex.assign (d := .lst (l.dropLast.map .int)) (by rw [← cut_last]; exact Ev.cutI (by walk_at "nm") Pt.no (Pt.yes (Ev.neg Ev.int)) (by (exact Nat.le_trans ‹_› (Nat.le_of_ble_eq_true rfl)))) (Ex.nil ?_) (hx := .inr (by kernel_rfl))
      refine ⟨l.dropLast.length, ?_, l.dropLast, _, rfl, ?_, by simp; (exact Nat.le_trans ‹_› (Nat.le_of_ble_eq_true rfl)), rfl, Lk.n (by kernel_rfl) hσ⟩
      · have := List.length_pos_iff.mpr hne'
        simp; (exact Nat.sub_lt_sub_left ‹_› (Nat.lt_succ_self _))
      · rw [← trim_zero hne' hc.2]; exact hl
    · rename_i hc
      have htr : trim cs = l := by
        rw [← hl]
        by_cases hne : l = []
        · subst hne; rfl
        · refine trim_nz hne fun h0 => hc ?_
          rw [h0, Bool.and_eq_true]
          exact ⟨by simp [hne], rfl⟩
      refine Ex.ret (Ev.tup (Evs.cons (Ev.b1 (.type "tuple") (by walk_at "nm") (Cl.tupleL (by rw [List.length_map]; exact Nat.le_trans hlen (by decide)))) (Evs.cons (Ev.nm (Lk.n (by kernel_rfl) hσ)) Evs.nil))) ?_
      rw [htr]; rfl

noncomputable def cnt (cs : List Int) (m : Nat) : List Int := List.replicate m 0 ++ cs.drop m
theorem cnt_len {cs : List Int} {m : Nat} (h : m ≤ cs.length) : (cnt cs m).length = cs.length := by simp [cnt]; lia
theorem cnt_get {cs : List Int} {m j : Nat} (h : m ≤ cs.length) (hj : m ≤ j) : (cnt cs m).getD j 0 = cs.getD j 0 := by
  unfold cnt
  rw [List.getD_eq_getElem?_getD, List.getD_eq_getElem?_getD, List.getElem?_append_right (by simp; omega), List.getElem?_drop]
  congr 2
  simp; lia
theorem cnt_set {cs : List Int} {m : Nat} (h : m < cs.length) : (cnt cs (m + 1)).set m (cs.getD m 0) = cnt cs m := by
  unfold cnt
  rw [List.set_append_left _ _ (by simp)]
  rw [List.replicate_succ']
  rw [List.set_append_right _ _ (by simp)]
  simp only [List.length_replicate, Nat.sub_self, List.set_cons_zero]
  rw [List.append_assoc]
  congr 1
  rw [List.getD_eq_getElem?_getD, List.getElem?_eq_getElem h, List.drop_eq_getElem_cons h]
  rfl
noncomputable abbrev rkS (cs levels : List Int) (tabs behind : Int) (m : Nat) : Sto := [("count", .m (.lst ((cnt cs m).map .int))), ("behind", .v (.int behind)), ("tabs", .v (.int tabs)), ("levels", .v (.lst (levels.map .int)))]
theorem getI {l : List Int} {i : Nat} (h : i < l.length) : (l.map D.int)[i]? = some (.int (l.getD i 0)) := by
  rw [List.getElem?_map, List.getElem?_eq_getElem h, List.getD_eq_getElem?_getD, List.getElem?_eq_getElem h]; rfl
theorem getBd {cs : List Int} (h : ∀ c ∈ cs, 0 ≤ c ∧ c ≤ 100) (i : Nat) : 0 ≤ cs.getD i 0 ∧ cs.getD i 0 ≤ 100 := by
  rw [List.getD_eq_getElem?_getD]
  cases e : cs[i]? with
  | none => simp
  | some c => exact h c (List.mem_of_getElem? e)
theorem reck_loop {cs levels : List Int} {tabs behind : Int} {rest : List Stmt} {Q : Fl → Prop} (R : Rk levels cs tabs behind) (hrest : Ex g (scB 15) k (rkS cs levels tabs behind 1) rest Q) : ∀ (m : Nat), m < cs.length →
    Lp g (scB 15) k (bnd1 "size") bodyR (Kq g (scB 15) k rest Q) (rngD m (-1) m) (rkS cs levels tabs behind (m + 1))
  | 0, _ => hrest
  | m + 1, hm => by
    rw [rngD_succ]
    have hbd := R.bd
    have hlen := R.len
    have hov := R.over (m + 1) (by (exact Nat.zero_lt_succ _)) hm
    have hst := R.step (m + 1) (by (exact Nat.zero_lt_succ _)) hm
    rw [Nat.add_sub_cancel] at hov hst
    have hcl : (cnt cs (m + 1 + 1)).length = cs.length := cnt_len (by assumption)
    have hcz : (cnt cs (m + 1 + 1)).length ≤ sizeLine := by rw [hcl]; exact Nat.le_trans hbd (by decide)
    refine Ex.tupT (ds := [.int ((levels.getD m 0 - behind).fdiv ((m + 1 : Nat) : Int)), .int ((levels.getD m 0 - behind).fmod ((m + 1 : Nat) : Int))]) (Ev.b2 (.builtin "divmod") (Ev.bin (Ev.sub (by walk_at "nm") (Ev.bin (by walk_at "nm") Ev.int Bin.subI) (Itm.lst (j := m) ?_ (getI (by lia)) (by rw [List.length_map]; exact Nat.le_trans (by lia : _ ≤ 900) (by decide)))) (by walk_at "nm") Bin.subI) (by walk_at "nm") (Cl.divmod (by lia) (by lia))) (Ass.cons (Ass.cons Ass.nil)) ?_
    · have := seqIndex_nat (i := m) (n := (levels.map D.int).length) (by rw [List.length_map]; lia)
      rw [show (((m + 1 : Nat) : Int) - 1) = (m : Int) by lia]; exact this
    rw [hov]
    refine Ex.if_ (Tr.cmp (by walk_at "nm") Ev.int Cmp.neI) ?_
    refine Ex.nil ?_
    refine Ex.assign (d := .int (longer cs (m + 1))) (Ev.thaw (x := "count") (d := .lst ((cnt cs (m + 1 + 1)).map .int)) (by walk_at "lk") ?_ rfl) ?_
    · have hb1 : ∀ x ∈ ((List.range (cs.length - (m + 1 + 1))).map fun (i : Nat) => ((m + 1 + 1 + i : Nat) : Int).fdiv ((m + 1 : Nat) : Int) * cs.getD (m + 1 + 1 + i) 0), 0 ≤ x ∧ x ≤ 100000 := by
        intro x hx
        (refine ex_1_2 (List.mem_map.mp hx) fun i hi zq85 => ?_; (first | subst zq85 | cases zq85))
        rw [List.mem_range] at hi
        have h1 := getBd R.rng (m + 1 + 1 + i)
        rw [Int.fdiv_eq_ediv_of_nonneg _ (by (exact Int.ofNat_zero_le _))]
        have h2 : ((m + 1 + 1 + i : Nat) : Int) / ((m + 1 : Nat) : Int) ≤ 900 := Int.le_trans (Int.ediv_le_self _ (by (exact Int.ofNat_zero_le _))) (by omega)
        have h3 : 0 ≤ ((m + 1 + 1 + i : Nat) : Int) / ((m + 1 : Nat) : Int) := Int.ediv_nonneg (by (exact Int.ofNat_zero_le _)) (by (exact Int.ofNat_zero_le _))
        refine ⟨Int.mul_nonneg h3 h1.1, ?_⟩
        have := Int.mul_le_mul h2 h1.2 h1.1 (by (exact Int.ofNat_zero_le _))
        omega
      have hl1 : (List.range (cs.length - (m + 1 + 1))).length ≤ 900 := by rw [List.length_range]; lia
      unfold longer
      refine Ev.b1 (.builtin "sum") (d := .lst (((List.range (cs.length - (m + 1 + 1))).map fun (i : Nat) => ((m + 1 + 1 + i : Nat) : Int).fdiv ((m + 1 : Nat) : Int) * cs.getD (m + 1 + 1 + i) 0).map .int)) (Ev.cast (Ev.compA (σc := [("size", .v (.int ((m + 1 : Nat) : Int))), ("count", .v (.lst ((cnt cs (m + 1 + 1)).map .int)))]) (xs := (List.range (cs.length - (m + 1 + 1))).map fun (i : Nat) => (((m + 1 : Nat) : Int) + 1) + (i : Int) * 1) D.int decI (fun _ => rfl) (fun r => .int (r.fdiv ((m + 1 : Nat) : Int) * cs.getD r.toNat 0))
        (ItE.cast (ItE.of (Ev.b2 (.type "range") (Ev.bin (by walk_at "nm") Ev.int Bin.addI) (Ev.b1 (.builtin "len") (by walk_at "nm") (Cl.lenL' (n := levels.length) (by rw [List.length_map]) (Nat.le_trans (by lia : _ ≤ 900) (by decide)))) Cl.range2) (It.rng (n := cs.length - (m + 1 + 1)) (small_of (by lia) (by lia) (.inl rfl)) (rng_size (by omega)))) (rngD_ints _ _ _)) (by walk_at "cap") (by rw [List.length_map, List.length_range]; exact Nat.le_trans (by lia : _ ≤ 900) (by decide)) (fun r hr => ?_)) ?_) (Cl.sumS hb1 (by simp; lia))
      · (refine ex_1_2 (List.mem_map.mp hr) fun i hi zq86 => ?_; (first | subst zq86 | cases zq86))
        rw [List.mem_range] at hi
        have e1 : ((((m + 1 : Nat) : Int) + 1) + (i : Int) * 1) = ((m + 1 + 1 + i : Nat) : Int) := by lia
        rw [e1]
        have h1 := getBd R.rng (m + 1 + 1 + i)
        have hfd : (((m + 1 + 1 + i : Nat) : Int).fdiv ((m + 1 : Nat) : Int)).natAbs < 2 ^ 20 := by
          rw [Int.fdiv_eq_ediv_of_nonneg _ (by (exact Int.ofNat_zero_le _))]
          have h2 : ((m + 1 + 1 + i : Nat) : Int) / ((m + 1 : Nat) : Int) ≤ 900 := Int.le_trans (Int.ediv_le_self _ (by (exact Int.ofNat_zero_le _))) (by omega)
          have h3 : 0 ≤ ((m + 1 + 1 + i : Nat) : Int) / ((m + 1 : Nat) : Int) := Int.ediv_nonneg (by (exact Int.ofNat_zero_le _)) (by (exact Int.ofNat_zero_le _))
          omega
        have hg : (List.map D.int (cnt cs (m + 1 + 1)))[m + 1 + 1 + i]? = some (.int (cs.getD (m + 1 + 1 + i) 0)) := by
          rw [getI (by rw [hcl]; lia), cnt_get (by assumption) (by (exact Nat.le_add_right _ _))]
        rw [Int.toNat_natCast]
        exact Ev.bin (Ev.bin (by walk_at "nm") (by walk_at "nm") (Bin.divI (by lia) (by lia))) (Ev.sub (by walk_at "nm") (by walk_at "nm") (Itm.lst (j := m + 1 + 1 + i) (seqIndex_nat (by rw [List.length_map, hcl]; lia)) hg (by rw [List.length_map]; exact hcz))) (Bin.mulI (mulOk hfd))
      · congr 1
        rw [List.map_map, List.map_map]
        refine List.map_congr_left fun i hi => ?_
        simp only [Function.comp_apply]
        have e1 : ((((m + 1 : Nat) : Int) + 1) + (i : Int) * 1) = ((m + 1 + 1 + i : Nat) : Int) := by lia
        rw [e1, Int.toNat_natCast]
    · refine Ex.setL (ds := (cnt cs (m + 1 + 1)).map .int) (i := ((m + 1 : Nat) : Int)) (d := .int (cs.getD (m + 1) 0)) (by walk_at "lk") (Ev.cast (Ev.bin (Ev.bin (by walk_at "nm") (by walk_at "nm") Bin.subI) (by walk_at "nm") Bin.subI) (by rw [hst])) (by walk_at "nm") (by (exact Int.ofNat_zero_le _)) (by rw [List.length_map, hcl]; (exact Int.ofNat_lt.mpr ‹_›)) (by rw [List.length_map]; exact Nat.le_trans hcz (by decide)) ?_
      refine Ex.nil ?_
      have ih := reck_loop R hrest m (by (exact Nat.lt_of_succ_lt ‹_›))
      have e : (List.map D.int (cnt cs (m + 1 + 1))).set (((m + 1 : Nat) : Int)).toNat (.int (cs.getD (m + 1) 0)) = (cnt cs (m + 1)).map .int := by
        have h0 := cnt_set (cs := cs) (m := m + 1) (by omega)
        rw [← h0, List.map_set]; rfl
      rw [e]
      have e2 : (((m + 1 : Nat) : Int) + -1) = (m : Int) := by lia
      rw [e2]
      exact Lp.sub1 ih (by walk_at "sub")
theorem fn_reckoned {cs levels : List Int} {tabs behind : Int} (R : Rk levels cs tabs behind) : Fn g (k + 1) 148 [.lst (levels.map .int)] (.tup [.tup ((trim cs).map .int), .int behind]) := by
  refine Fn.of1 (x := "levels") (h148 g.w) (fun _ => by kernel_rfl) (.inl (by kernel_rfl)) ?_
  have hbd := R.bd
  have hlen := R.len
  have hpos := R.pos
  have hlz : levels.length ≤ sizeLine := Nat.le_trans (by lia : _ ≤ 900) (by decide)
  have hne : levels ≠ [] := List.length_pos_iff.mp (by lia)
  have hlast : levels.getLastD 0 = levels.getD (cs.length - 1) 0 := by
    rw [List.getLastD_eq_getLast?, List.getLast?_eq_getElem?, List.getD_eq_getElem?_getD, hlen]
  refine Ex.tupT (ds := [.int tabs, .int behind]) (Ev.cast (Ev.b2 (.builtin "divmod") (Ev.sub (by walk_at "nm") (Ev.neg Ev.int) (Itm.lst (last_idx hne).1 (last_idx hne).2 (by rw [List.length_map]; exact hlz))) (Ev.b1 (.builtin "len") (by walk_at "nm") (Cl.lenL' (n := levels.length) (by rw [List.length_map]) hlz)) (Cl.divmod (by lia) (by lia))) (by rw [hlast, hlen, R.dv, R.md])) (Ass.cons (Ass.cons Ass.nil)) ?_
  refine Ex.newM (d := .lst ((cnt cs cs.length).map .int)) ?_ ?_ (hx := .inr (by kernel_rfl))
  · have h0 : cnt cs cs.length = List.replicate cs.length 0 := by simp [cnt]
    rw [h0, List.map_replicate]
    exact EvF.cast (EvF.mul (d := .int 0) (n := cs.length) (EvF.list (Evs.cons Ev.int Evs.nil)) (Ev.b1 (.builtin "len") (by walk_at "nm") (Cl.lenL' (n := cs.length) (by rw [List.length_map, hlen]) (by rw [← hlen]; exact hlz))) (by lia) (by (exact Int.ofNat_zero_le _))) (by rw [Int.toNat_natCast])
  · have hsz : Builtin.Range.rangeSize ((cs.length : Int) - 1) 0 (-1) = (cs.length - 1 : Nat) := by
      unfold Builtin.Range.rangeSize
      rw [if_neg (by decide)]
      split
      · rw [show (-(-1) : Int) = 1 by rfl, Int.ediv_one]; lia
      · lia
    refine Ex.for1 (ItE.of (Ev.b3 (.type "range") (Ev.bin (Ev.b1 (.builtin "len") (by walk_at "nm") (Cl.lenL' (n := cs.length) (by rw [List.length_map, hlen]) (by rw [← hlen]; exact hlz))) Ev.int Bin.subI) Ev.int (Ev.neg Ev.int) (Cl.range3 (by decide) (by (exact Nat.le_add_left _ _)))) (It.rng (n := cs.length - 1) (small_of (by lia) (by decide) (.inr rfl)) hsz)) ?_ (hx := .inr (by kernel_rfl))
    have e1 : ((cs.length : Int) - 1) = ((cs.length - 1 : Nat) : Int) := by lia
    have e2 : cs.length = cs.length - 1 + 1 := by lia
    rw [e1]
    have hloop := reck_loop (g := g) (k := k) (Q := Rets (.tup [.tup ((trim cs).map .int), .int behind])) (rest := match stB 15 with | [_, _, _, a, w, r] => [a, w, r] | _ => []) R ?_ (cs.length - 1) (by (exact Nat.sub_lt_sub_left ‹_› (Nat.lt_succ_self _)))
    · rw [← e2] at hloop
      exact hloop
    · have hc1 : (cnt cs 1).length = cs.length := cnt_len (by assumption)
      have hc1z : (cnt cs 1).length ≤ 900 := by lia
      have hsum : (cnt cs 1).sum = (cs.drop 1).sum := by simp [cnt]
      have hbd1 : ∀ x ∈ cnt cs 1, 0 ≤ x ∧ x ≤ 100000 := by
        intro x hx
        unfold cnt at hx
        rcases List.mem_append.mp hx with hx | hx
        · rw [List.eq_of_mem_replicate hx]; decide
        · have := R.rng x (List.mem_of_mem_drop hx); lia
      have e3 : (List.map D.int (cnt cs 1)).set (Int.toNat 0) (.int (cs.getD 0 0)) = cs.map .int := by
        have h0 := cnt_set (cs := cs) (m := 0) (by omega)
        have h1 : cnt cs 0 = cs := by simp [cnt]
        rw [h1] at h0
        rw [← h0, List.map_set]; congr 1
      refine Ex.setL (ds := (cnt cs 1).map .int) (i := 0) (d := .int (cs.getD 0 0)) (by walk_at "lk") (Ev.thaw (x := "count") (d := .lst ((cnt cs 1).map .int)) (by walk_at "lk") (Ev.cast (Ev.bin (by walk_at "nm") (Ev.b1 (.builtin "sum") (by walk_at "nm") (Cl.sumS hbd1 (by (exact Nat.le_trans ‹_› (Nat.le_of_ble_eq_true rfl))))) Bin.subI) (by rw [hsum, R.zero])) rfl) Ev.int (by (exact Int.ofNat_zero_le _)) (by rw [List.length_map]; lia) (by rw [List.length_map]; (exact Nat.le_trans ‹_› (Nat.le_of_ble_eq_true rfl))) ?_
      rw [e3]
      refine Ex.freeze (x := "count") (by walk_at "lk") ?_
      exact reck_while hbd _ (by walk_at "lk") cs rfl hbd
end
section
variable {g : Gw} {k : Nat} {sc : Scope} {σ σ' : Sto}

theorem h153 (w : World) : FH w 153 (stB 16) (scB 16) := by walk_at "fh"
noncomputable abbrev Row := Int × Int × Int
noncomputable def putL {K V : Type} [DecidableEq K] (fs : List (K × V)) (k : K) (v : V) : List (K × V) :=
  if fs.any (fun f => f.1 = k) then fs.map (fun f => if f.1 = k then (f.1, v) else f) else fs ++ [(k, v)]
theorem put_map {K V : Type} [DecidableEq K] (f : V → D) (fs : List (K × V)) (k : K) (v : V) : put (fs.map fun p => (p.1, f p.2)) k (f v) = (putL fs k v).map fun p => (p.1, f p.2) := by
  unfold put putL
  have ha : (fs.map fun p => (p.1, f p.2)).any (fun g => decide (g.1 = k)) = fs.any (fun g => decide (g.1 = k)) := by rw [List.any_map]; rfl
  rw [ha]
  split
  · rw [List.map_map, List.map_map]
    refine List.map_congr_left fun p _ => ?_
    simp only [Function.comp_apply]
    split <;> rfl
  · simp
theorem putL_len {K V : Type} [DecidableEq K] (fs : List (K × V)) (k : K) (v : V) : (putL fs k v).length ≤ fs.length + 1 := by
  unfold putL; split <;> simp
noncomputable abbrev rowsS (both : List (Int × Row)) (there back : List Row) : Sto := [("both", .m (.idd (both.map fun p => (p.1, rowD p.2)))), ("there", .v (.lst (there.map rowD))), ("back", .v (.lst (back.map rowD)))]
noncomputable def bodyW (i : Nat) : List Stmt := match (stB 16)[i]? with
  | some (.For _ _ body _ _) => body
  | _ => []
theorem Sub.cons3 {x y z : Str} {d : D} (q : Sub σ σ') : Sub (bnd3 x y z d σ) (bnd3 x y z d σ') := by
  unfold bnd3
  split
  · exact Sub.cons (Sub.cons (Sub.cons q))
  · exact q
theorem Lp.sub3 {x y z : Str} {body rest : List Stmt} {Q : Fl → Prop} {l : List D} (h : Lp g sc k (bnd3 x y z) body (Kq g sc k rest Q) l σ) (q : SubL σ' σ) : Lp g sc k (bnd3 x y z) body (Kq g sc k rest Q) l σ' :=
  Lp.sub (bnd := bnd3 x y z) (fun d _ _ hs => Sub.cons3 hs) (fun _ _ hs h => Ex.sub h hs) h (Sub.of q)
theorem Ex.for3 {x y z : Str} {px py pz : Pos} {x1} {pt pos : Pos} {iter : Expr} {body rest : List Stmt} {Q : Fl → Prop} {rs : List Row} {T : Expr → Prop} (hi : ItE g sc k σ iter (rs.map rowD) T) (hT : T (.Tuple [.Name x px, .Name y py, .Name z pz] x1 pt)) (h : Lp g sc k (bnd3 x y z) body (Kq g sc k rest Q) (rs.map rowD) σ)
    (hx : sc.names.lookup x = some .local ∨ sc.names.lookup x = some .cell := by walk_at "wc")
    (hy : sc.names.lookup y = some .local ∨ sc.names.lookup y = some .cell := by walk_at "wc")
    (hz : sc.names.lookup z = some .local ∨ sc.names.lookup z = some .cell := by walk_at "wc")
    (hs : ∀ env x, foldedSetIterable iter env x = pure x := by walk_at "w2") : Ex g sc k σ (.For (.Tuple [.Name x px, .Name y py, .Name z pz] x1 pt) iter body [] pos :: rest) Q := by
  have ha : ∀ (r : Row) (σ' : Sto), Ass g sc k [.Name x px, .Name y py, .Name z pz] [.int r.1, .int r.2.1, .int r.2.2] σ' (bnd3 x y z (rowD r) σ') [x, y, z] := fun r σ' => Ass.cons (Ass.cons (Ass.cons Ass.nil hz) hy) hx
  refine Ex.for_ (bnd3 x y z) [x, y, z] hi hT (fun d hd σ' => ?_) (fun d hd σ' w e h => ?_) h hs
  · (refine ex_1_2 (List.mem_map.mp hd) fun r _ zq87 => ?_; (first | subst zq87 | cases zq87))
    exact As.tup (ha r σ')
  · (refine ex_1_2 (List.mem_map.mp hd) fun r _ zq88 => ?_; (first | subst zq88 | cases zq88))
    exact (ha r σ').mm w e h
theorem fold_len {there : List Row} (f : Row → Row) : ∀ (l : List Row) (b : List (Int × Row)), (l.foldl (fun b r => putL b r.1 (f r)) b).length ≤ b.length + l.length := by
  intro l
  induction l with
  | nil => intro b; simp
  | cons r l ih =>
    intro b
    have h1 := ih (putL b r.1 (f r))
    have h2 := putL_len b r.1 (f r)
    rw [List.foldl_cons, List.length_cons]
    lia
theorem rows_loop1 {rest : List Stmt} {Q : Fl → Prop} {there back : List Row} : ∀ (l : List Row) (both : List (Int × Row)), both.length + l.length ≤ 10000 → Ex g (scB 16) k (rowsS (l.foldl (fun b r => putL b r.1 r) both) there back) rest Q →
    Lp g (scB 16) k (bnd3 "size" "mine" "other") (bodyW 1) (Kq g (scB 16) k rest Q) (l.map rowD) (rowsS both there back)
  | [], both, _, h => h
  | r :: l, both, hl, h => by
    simp only [List.length_cons] at hl
    obtain ⟨a, b, c⟩ := r
    have hp := putL_len both a (a, b, c)
    refine Ex.setID (fs := both.map fun p => (p.1, rowD p.2)) (i := a) (d := rowD (a, b, c)) (σ := bnd3 "size" "mine" "other" (rowD (a, b, c)) (rowsS both there back)) ?_ ?_ ?_ (by rw [List.length_map]; exact Nat.le_trans (by lia : _ ≤ 10000) (by decide)) ?_
    · show Lk (("other", .v (.int c)) :: ("mine", .v (.int b)) :: ("size", .v (.int a)) :: rowsS both there back) _ _
      walk_at "lk"
    · show Ev g _ k (("other", .v (.int c)) :: ("mine", .v (.int b)) :: ("size", .v (.int a)) :: rowsS both there back) _ _
      exact Ev.tup (Evs.cons (by walk_at "nm") (Evs.cons (by walk_at "nm") (Evs.cons (by walk_at "nm") Evs.nil)))
    · show Ev g _ k (("other", .v (.int c)) :: ("mine", .v (.int b)) :: ("size", .v (.int a)) :: rowsS both there back) _ _
      walk_at "nm"
    · refine Ex.nil ?_
      rw [put_map rowD]
      have ih := rows_loop1 l (putL both a (a, b, c)) (by lia) h
      refine Lp.sub3 ih ?_
      show SubL (("both", _) :: ("other", .v (.int c)) :: ("mine", .v (.int b)) :: ("size", .v (.int a)) :: rowsS both there back) _
      walk_at "sub"
theorem rows_loop2 {rest : List Stmt} {Q : Fl → Prop} {there back : List Row} : ∀ (l : List Row) (both : List (Int × Row)), both.length + l.length ≤ 10000 → Ex g (scB 16) k (rowsS (l.foldl (fun b r => putL b r.1 (r.1, r.2.2, r.2.1)) both) there back) rest Q →
    Lp g (scB 16) k (bnd3 "size" "other" "mine") (bodyW 2) (Kq g (scB 16) k rest Q) (l.map rowD) (rowsS both there back)
  | [], both, _, h => h
  | r :: l, both, hl, h => by
    simp only [List.length_cons] at hl
    obtain ⟨a, b, c⟩ := r
    have hp := putL_len both a (a, c, b)
    refine Ex.setID (fs := both.map fun p => (p.1, rowD p.2)) (i := a) (d := rowD (a, c, b)) (σ := bnd3 "size" "other" "mine" (rowD (a, b, c)) (rowsS both there back)) ?_ ?_ ?_ (by rw [List.length_map]; exact Nat.le_trans (by lia : _ ≤ 10000) (by decide)) ?_
    · show Lk (("mine", .v (.int c)) :: ("other", .v (.int b)) :: ("size", .v (.int a)) :: rowsS both there back) _ _
      walk_at "lk"
    · show Ev g _ k (("mine", .v (.int c)) :: ("other", .v (.int b)) :: ("size", .v (.int a)) :: rowsS both there back) _ _
      exact Ev.tup (Evs.cons (by walk_at "nm") (Evs.cons (by walk_at "nm") (Evs.cons (by walk_at "nm") Evs.nil)))
    · show Ev g _ k (("mine", .v (.int c)) :: ("other", .v (.int b)) :: ("size", .v (.int a)) :: rowsS both there back) _ _
      walk_at "nm"
    · refine Ex.nil ?_
      rw [put_map rowD]
      have ih := rows_loop2 l (putL both a (a, c, b)) (by lia) h
      refine Lp.sub3 ih ?_
      show SubL (("both", _) :: ("mine", .v (.int c)) :: ("other", .v (.int b)) :: ("size", .v (.int a)) :: rowsS both there back) _
      walk_at "sub"
noncomputable def bothL (there back : List Row) : List (Int × Row) := back.foldl (fun b r => putL b r.1 (r.1, r.2.2, r.2.1)) (there.foldl (fun b r => putL b r.1 r) [])
theorem find_row : ∀ {rows : List Row}, rows.Pairwise (fun a b => a.1 < b.1) → ∀ r ∈ rows, rows.find? (fun q => q.1 == r.1) = some r
  | [], _, r, h => by cases h
  | q :: rows, hp, r, h => by
    rw [List.pairwise_cons] at hp
    rcases List.mem_cons.mp h with rfl | h
    · simp
    · have := hp.1 r h
      have hne : (q.1 == r.1) = false := by simp; lia
      rw [List.find?_cons, hne]
      exact find_row hp.2 r h
theorem fn_rows {there back rows : List Row} (h1 : there.length ≤ 1000) (h2 : back.length ≤ 1000) (hp : (rows.map (·.1)).Perm ((bothL there back).map (·.1))) (hs : rows.Pairwise (fun a b => a.1 < b.1)) (hin : ∀ r ∈ rows, (r.1, r) ∈ bothL there back) (hz : rows.length < 64) :
    Fn g (k + 1) 153 [.lst (there.map rowD), .lst (back.map rowD)] (.lst (rows.map rowD)) := by
  refine Fn.of2 (x := "there") (y := "back") (h153 g.w) (fun _ _ => by kernel_rfl) (.inl (by kernel_rfl)) (.inl (by kernel_rfl)) (by kernel_rfl) ?_
  refine Ex.newM (EvF.idd) ?_ (hx := .inr (by kernel_rfl))
  have l1 := fold_len (there := there) (fun r => r) there []
  refine Ex.for3 (rs := there) (ItE.of (d := .lst (there.map rowD)) (by walk_at "nm") It.lst) trivial ?_
  refine rows_loop1 there [] (by simp; (exact Nat.le_trans ‹_› (Nat.le_of_ble_eq_true rfl))) ?_
  refine Ex.for3 (rs := back) (ItE.of (d := .lst (back.map rowD)) (by walk_at "nm") It.lst) trivial ?_
  refine rows_loop2 back _ (by simp at l1; lia) ?_
  refine Ex.freeze (x := "both") (by walk_at "lk") ?_
  show Ex g _ k ((("both", .v (.idd ((bothL there back).map fun p => (p.1, rowD p.2)))) :: _)) _ _
  have hl : (bothL there back).length = rows.length := by have := hp.length_eq; simpa using this.symm
  refine Ex.ret ?_ rfl
  refine Ev.cast (Ev.compA (σc := [("both", .v (.idd ((bothL there back).map fun p => (p.1, rowD p.2))))]) (xs := rows.map (·.1)) D.int decI (fun _ => rfl) (fun s => ((rows.find? fun r => r.1 == s).map rowD).getD .none)
    (ItE.of (Ev.b1 (.builtin "sorted") (Ev.compA (σc := []) (xs := (bothL there back).map (·.1)) D.int decI (fun _ => rfl) D.int (ItE.cast (ItE.of (d := .idd ((bothL there back).map fun p => (p.1, rowD p.2))) (by walk_at "nm") It.idd) (by rw [List.map_map, List.map_map]; rfl)) (by walk_at "cap") (by rw [List.length_map, hl]; exact Nat.le_trans (Nat.le_of_lt hz) (by decide)) (fun a _ => by walk_at "nm")) (Cl.sortedI hp (List.pairwise_map.mpr (hs.imp fun h => Int.le_of_lt h)) (by rw [List.length_map, hl]; exact hz))) It.lst) (by walk_at "cap") (by rw [List.length_map]; exact Nat.le_trans (Nat.le_of_lt hz) (by decide)) (fun s hm => ?_)) ?_
  · (refine ex_1_2 (List.mem_map.mp hm) fun r hr zq89 => ?_; (first | subst zq89 | cases zq89))
    rw [find_row hs r hr]
    obtain ⟨i, hi, e⟩ := List.getElem_of_mem (hin r hr)
    refine Ev.sub (by walk_at "nm") (by walk_at "nm") (Itm.idd (i := i) ?_)
    rw [List.getElem?_map, List.getElem?_eq_getElem hi, e]; rfl
  · congr 1
    rw [List.map_map]
    refine List.map_congr_left fun r hr => ?_
    simp only [Function.comp_apply]
    rw [find_row hs r hr]; rfl
end
section
variable {g : Gw} {k : Nat} {sc : Scope} {σ σ' : Sto}

theorem Gw.Ok.nlp (ok : g.Ok) : g.lf ≠ PF := fun z => by
  (refine ex_0_3 (ok.code) fun _ _ h2 => ?_)
  have := ok.lfn; rw [z, h2] at this; cases this
theorem Xt.ofBut {h h' : Heap} (ok : g.Ok) (hx : Heap.ExtBut PF h h') : Xt g h h' := ⟨fun b o hb _ e => hx b o hb e, fun o e => ⟨o.slots, hx _ o ok.nlp e⟩⟩
theorem gen_code {env : Env} {A : Around} {E : Value → Shared → Prop} {s : Shared} {pos : Pos} {qn : Str} {scope : Scope} {Q : Value → Shared → Prop} (hw : Wd g s) (hc : env.code = .ref cF)
    (h : ∀ code s', Kp g s s' → s'.gens = s.gens → s'.os = s.os → Q code s') : wpAny g.M A (genexprCode env pos qn scope) Q E s := by
  (refine ex_1_2 (hw.tab) fun ps hcode htab => ?_)
  cases hnf : codeAmong pos ps.toList with
  | some c' => exact wpAny_genexprCode_hit hc hcode hnf (h c' s (.refl hw) rfl rfl)
  | none =>
    refine wpAny_genexprCodeX hc hcode htab hnf fun c' h' tk hx _ _ hcode' _ htab' _ => h _ _ ⟨.ofBut hw.ok hx, ?_⟩ rfl rfl
    exact ⟨hw.ok, hw.ext.trans hx, hw.old.step_table hw.ok.code.2 htab htab' hx (by decide), ⟨_, hcode', htab'⟩, hw.bare, hw.os, hw.la' fun o e => hx _ o hw.ok.nlp e⟩

noncomputable def hdStr : D → Str
  | .tup (.int i :: _) => toString i
  | .tup (.str x :: _) => x
  | _ => ""
noncomputable def HdOk (d : D) : Prop := (∃ i ds, d = .tup (.int i :: ds) ∧ i.natAbs < 2 ^ 64) ∨ ∃ x ds, d = .tup (.str x :: ds)

noncomputable def genE : Expr := match stB 2 with
  | .Assign _ e _ :: _ => e
  | _ => default
noncomputable def genElt : Expr := match genE with
  | .GeneratorExp e _ _ _ => e
  | _ => default
noncomputable def genSc : Scope := match genE with
  | .GeneratorExp _ _ sc _ => sc
  | _ => default
theorem genE_eq : ∃ px pi pos, genE = .GeneratorExp genElt [⟨.Name "tup" px, .Name "w" pi, [], 0⟩] genSc pos := ⟨_, _, _, rfl⟩
theorem genElt_eq : ∃ pn pt pc ps pos, genElt = .Call (.Name "str" pn) [.Subscript (.Name "tup" pt) (.Constant (.int 0) 0 pc) ps] [] pos := ⟨_, _, _, _, _, rfl⟩

theorem elt_wp {cenv : Env} {A : Around} {E : Value → Shared → Prop} {t : Shared} {m₂ : Str → Option Value} {v : Value} {d : D} {X : Addr → Prop} (hsc : cenv.scope = genSc) (hgl : cenv.globals = mainGlobals) (hbi : cenv.builtins = builtinsNs)
    (kin : (KK g.w).In t.heap) (hmb : t.heap.Ns builtinsNs g.mb) (ok : g.Ok) (hn : t.heap.Ns cenv.locals m₂) (hm : m₂ "tup" = some v) (r : Rep g X t.heap v d) (hd : HdOk d) :
    wpAny g.M A (eval genElt cenv) (fun y s₃ => (∃ u, y = .str (hdStr d) u) ∧ Keeps t s₃) E t := by
  (refine ex_5_1 (genElt_eq) fun pn pt pc ps pos e => ?_)
  rw [e]
  have hk : cenv.scope.kind = .function := by rw [hsc]; rfl
  refine wpAny_Call_NameR ?_
  refine Name_function_global hk (by unfold Env.kindOf; rw [hsc]; kernel_rfl) ?_ (by kernel_rfl)
  unfold loadGlobal
  rw [hgl, hbi]
  have e0 : nsIn (KK g.w) mainGlobals ("str" : Str) = some Option.none := by kernel_rfl
  refine wpAny_bind ((looks_nsIn kin e0).here ?_)
  refine wpAny_bind (wpAny_nsGet hmb ?_)
  rw [ok.bi "str" (by decide), show bootBuiltins ("str" : Str) = some (.type "str") by rfl]
  refine wpAny_pure ?_
  refine callWith_of (P := fun h => True) (by rfl) (fun h _ => keeps_machine (by intro _ h; cases h) h) ?_
  refine evalArgs_plain ?_
  have key : ∀ Q : Value → Shared → Prop, (∀ u t' , (∃ y, u = .str y t' ∧ y = hdStr d) ∨ (∃ i, u = .int i t' ∧ hdStr d = toString i ∧ i.natAbs < 2 ^ 64) → ∀ tk, Q u { t with toks := tk }) → wpAny g.M A (eval (.Subscript (.Name "tup" pt) (.Constant (.int 0) 0 pc) ps) cenv) Q E t := by
    intro Q h
    refine Subscript_ (wpAny_Name (wpAny_loadName_local hk (by unfold Env.kindOf; rw [hsc]; kernel_rfl) hn hm ?_) (by kernel_rfl))
    refine wpAny_Constant_int ?_
    rcases hd with ⟨i, ds, rfl, hi⟩ | ⟨x, ds, rfl⟩
    · cases r with
      | @tup l o vs n _ nX ho hc hd' rs =>
        have inv := Reps.cons_inv rs
        try clear rs
        (refine ex_2_3 (inv) fun v' vs' eqv ra rs => ?_)
        (first | subst eqv | cases eqv)
        focus
          have inv := Rep.int_inv ra
          try clear ra
          obtain ⟨tt, eqv⟩ := inv
          (first | subst eqv | cases eqv)
          exact item_tupleT (s := { t with toks := t.toks + 1 }) ⟨o, ho, hc, n, hd'⟩ (by (exact Int.ofNat_zero_le _)) (by (exact Int.ofNat_zero_le _)) (j := 0) (by simp [seqIndex?]) rfl (h _ tt (.inr ⟨i, rfl, rfl, hi⟩) _) rfl
    · cases r with
      | @tup l o vs n _ nX ho hc hd' rs =>
        have inv := Reps.cons_inv rs
        try clear rs
        (refine ex_2_3 (inv) fun v' vs' eqv ra rs => ?_)
        (first | subst eqv | cases eqv)
        focus
          have inv := Rep.str_inv ra
          try clear ra
          obtain ⟨tt, eqv⟩ := inv
          (first | subst eqv | cases eqv)
          exact item_tupleT (s := { t with toks := t.toks + 1 }) ⟨o, ho, hc, n, hd'⟩ (by (exact Int.ofNat_zero_le _)) (by (exact Int.ofNat_zero_le _)) (j := 0) (by simp [seqIndex?]) rfl (h _ tt (.inl ⟨x, rfl, rfl⟩) _) rfl
  refine spliced_cons (key _ fun u t' hu tk => ?_)
  refine spliced_nil ⟨trivial, ?_⟩
  rcases hu with ⟨y, rfl, rfl⟩ | ⟨i, rfl, e1, hi⟩
  · exact PySem.P.str_of_str ⟨⟨_, rfl⟩, t.heap, _, rfl, fun _ _ e => e⟩
  · rw [e1]
    refine PySem.P.str_of_int ?_ ⟨⟨_, rfl⟩, t.heap, _, rfl, fun _ _ e => e⟩
    by_cases h0 : i.natAbs = 0
    · rw [h0]; decide
    · have : i.natAbs.log2 < 64 := (Nat.log2_lt h0).mpr hi
      (exact Nat.le_trans ‹_› (Nat.le_of_ble_eq_true rfl))

theorem passing_all (n : Nat) : passing (fun _ => true) n 0 = List.range n := by simp [passing]
noncomputable def GenP (rows : List D) (j : Nat) (y : Value) : Prop := ∃ d u, rows[j]? = some d ∧ y = .str (hdStr d) u
theorem gen_make {env : Env} {A : Around} {X : Addr → Prop} {s : Shared} {E : Value → Shared → Prop} {Q : Value → Shared → Prop} (hE : EnvOk (scB 2) env) (hc : env.code = .ref cF) (hR : Room g k A) (hw : Wd g s) (F : Fm g env X σ s.heap) {l : Addr} (hat : At env s.heap "w" (.ref l)) {rows : List D}
    (r : Rep g X s.heap (.ref l) (.lst rows)) (hrows : ∀ d ∈ rows, HdOk d)
    (h : ∀ a s₅ fp wr gi St, Kp g s s₅ → WalksS pg g.w A.in4 a fp wr (GenOnlyQ gi) rows.length (GenP rows) St → St 0 s₅ → (∀ i s', St i s' → s'.TypeIs (.ref a) "generator") → a ∈ fp → (∀ b ∈ fp, b < s₅.heap.objs.size) → env.locals ∉ fp → (∀ b ∈ wr, s.heap.get? b = none) → (∀ s' h' tk, St 0 s' → (∀ b ∈ fp, ∀ o, s'.heap.get? b = some o → h'.get? b = some o) → St 0 { s' with heap := h', toks := tk }) → Q (.ref a) s₅) :
    wpAny g.M A (eval genE env) Q E s := by
  (refine ex_3_1 (genE_eq) fun px pi pos e => ?_)
  rw [e]
  have hnofree : ∀ q ∈ genSc.names, q.2 = NameKind.free → ∃ c, env.cells.lookup q.1 = some c := fun q hq hf => by
    have : genSc.names.all (fun q => q.2 != .free) = true := by kernel_rfl
    have := List.all_eq_true.mp this q hq
    rw [hf] at this; simp at this
  have hnocell : ∀ y ∈ genSc.names, y.2 ≠ NameKind.cell := fun y hy hf => by
    have : genSc.names.all (fun q => q.2 != .cell) = true := by kernel_rfl
    have := List.all_eq_true.mp this y hy
    rw [hf] at this; simp at this
  refine wpAny_GeneratorExp_make (by rfl) (closureFor_eq hnofree) hnocell (by kernel_rfl) (by rfl) hR.lt ?_ (fun _ => rfl)
  refine name_at hE hat ?_ (by kernel_rfl) (by kernel_rfl)
  have r0 := r
  have inv := Rep.lst_inv r
  try clear r
  (refine ex_4_6 (inv) fun _ o vs n eqv nX ho hcl hd rs => ?_)
  (first | subst eqv | cases eqv)
  focus
    refine wpAny_pyIter_list ⟨o, ho, hcl, n, hd⟩ ?_
    have q2 : Kp g s { s with heap := s.heap.push { cls := .type "list_iterator", data := .fields #[.ref l, .int 0 0] } } := .push hw
    refine ⟨q2.wd.nolimit, gen_code q2.wd hc fun code s₃ q3 hg3 ho3 => ?_⟩
    (refine ex_2_1 (hw.ok.bmod) fun bm ob M => ?_)
    have M₃ := M.extBut hw.ok.code.2 q3.wd.ext
    rw [hE.gl]
    refine wpAny_builtinsFor M₃.ns M₃.name M₃.ne M₃.obj M₃.cls M₃.dict M₃.data ?_
    intro h' hn' hs'
    have q03 := q2.trans q3
    have fI := get_size s.heap
    have hIC : s.heap.objs.size < s₃.heap.objs.size := Heap.lt_size (q3.ext.at_ s.heap.objs.size _ (hw.nPF fI) (F.xok.nlf fI) (Heap.get?_push_size _ rfl))
    have hsz : h'.objs.size = s₃.heap.objs.size + 1 := by rw [hs'.1, Heap.size_push]
    have keep' : ∀ b o, s₃.heap.get? b = some o → h'.get? b = some o := fun b o e => hs'.extBut b o (Nat.ne_of_lt (Heap.lt_size e)) (Heap.get?_push_of_some _ e)
    generalize hgo : ({ cls := .type "generator", data := .fields #[.int s₃.gens.size 0, .str "<genexpr>" (s₃.toks + 1), .str (env.qual ++ "<genexpr>") (s₃.toks + 1 + 1)] } : Obj) = go
    have keep₅ : ∀ b o, s₃.heap.get? b = some o → (h'.push go).get? b = some o := fun b o e => Heap.get?_push_of_some _ (keep' b o e)
    have hLlt : env.locals < s₃.heap.objs.size := by
      obtain ⟨o, ho⟩ := F.al _ F.loc
      (refine ex_1_2 (q03.ext.there F.nPF ho) fun o' ho' _ => ?_)
      exact Heap.lt_size ho'
    have hfp : ∀ b, b ∈ (List.range s₃.heap.objs.size).filter (fun b => !(b == env.locals)) ↔ b < s₃.heap.objs.size ∧ b ≠ env.locals := fun b => by simp [List.mem_filter]
    generalize hfpe : (List.range s₃.heap.objs.size).filter (fun b => !(b == env.locals)) = fp at hfp
    have hlI : l ≠ s.heap.objs.size := Nat.ne_of_lt (Heap.lt_size ho)
    have hlC : l < s₃.heap.objs.size := Nat.lt_trans (Heap.lt_size ho) hIC
    have hLI : env.locals ≠ s.heap.objs.size := fun z => by obtain ⟨o, ho⟩ := F.al _ F.loc; rw [z, fI] at ho; cases ho
    have hcs : cStatics < s₃.heap.objs.size := let ⟨_, hn, _⟩ := q3.wd.nolimit; hn.lt
    have hcsL : cStatics ≠ env.locals := fun z => by
      (refine ex_1_2 (hw.ok.lim) fun mc zq90 _ => ?_; obtain ⟨o, _, _, e, _⟩ := zq90)
      rw [z, F.hiL] at e; cases e
    have hcsI : cStatics ≠ s.heap.objs.size := fun z => by
      (refine ex_1_2 (hw.ok.lim) fun mc zq91 _ => ?_; obtain ⟨o, _, _, e, _⟩ := zq91)
      have := hw.ext cStatics o (by decide) e
      rw [z, fI] at this; cases this
    have W₀ : ∀ A' : Around, A'.handled = none → Walks pg g.w A' s.heap.objs.size fp [s.heap.objs.size] vs.toArray.size (fun i v => vs.toArray[i]? = some v) (fun i h => h.IsListIter s.heap.objs.size l i ∧ h.IsList l vs.toArray) := fun A' hA =>
      (Walks.list hA s.heap.objs.size l hlI vs.toArray).mono_fp fun b hb => by
        rw [hfp]
        rcases List.mem_cons.mp hb with rfl | hb
        · exact ⟨hIC, hLI.symm⟩
        · rw [List.mem_singleton] at hb; subst hb
          exact ⟨hlC, fun z => nX (z ▸ F.loc)⟩
    have hlen : vs.toArray.size = rows.length := by rw [List.size_toArray, rs.length]
    have hst₀ : (h'.push go).IsListIter s.heap.objs.size l 0 ∧ (h'.push go).IsList l vs.toArray := by
      refine ⟨⟨_, keep₅ _ _ (q3.ext.at_ _ _ (hw.nPF fI) (F.xok.nlf fI) (Heap.get?_push_size _ rfl)), rfl, rfl⟩, ⟨o, keep₅ _ _ (q03.ext.at_ _ _ (fun z => nX (z ▸ F.pf)) (fun z => nX (z ▸ F.lf)) ho), hcl, n, hd⟩⟩
    have hCfp : s₃.heap.objs.size ∉ fp := fun hm => Nat.lt_irrefl _ ((hfp _).mp hm).1
    have haC : h'.objs.size ≠ s₃.heap.objs.size := by rw [hsz]; exact Nat.succ_ne_self _
    have haf : h'.objs.size ∉ fp := fun hm => by
      have := ((hfp _).mp hm).1
      rw [hsz] at this
      exact absurd this (Nat.not_lt.mpr (Nat.le_succ _))
    have hgen : (h'.push go).IsGen h'.objs.size s₃.gens.size := by rw [← hgo]; exact ⟨_, _, _, Heap.get?_push_size _ rfl, rfl, rfl, rfl⟩
    have hq : QuietGen pg g.w (genEnv genSc (closL env genSc.names []) s₃.heap.objs.size code builtinsNs env) "tup" [] genElt fp [s.heap.objs.size] (fun i v => vs.toArray[i]? = some v) (fun _ => true) (GenP rows) (h'.push go) :=
      ⟨fun A' E' i v t m₂ hA hP hn hm hkp => wpAny_pure ⟨rfl, t.heap, t.toks, rfl, fun _ _ e => e⟩, fun A' E' i v t m₂ hA hP _ hn hm hkp => by
        have up : ∀ b o, b ≠ env.locals → b ≠ s.heap.objs.size → s₃.heap.get? b = some o → t.heap.get? b = some o := fun b o h1 h2 e =>
          hkp b ((hfp b).mpr ⟨Heap.lt_size e, h1⟩) (by simpa using h2) o (keep₅ b o e)
        have old : ∀ b o, g.s₁.heap.get? b = some o → b ≠ PF → t.heap.get? b = some o := fun b o e hb => by
          refine up b o (fun z => by rw [z, F.hiL] at e; cases e) (fun z => ?_) (q3.wd.ext b o hb e)
          have := hw.ext b o hb e
          rw [z, fI] at this; cases this
        have hv : vs[i]? = some v := by simpa using hP
        obtain ⟨d, hdi⟩ : ∃ d, rows[i]? = some d := by
          have hi : i < rows.length := by rw [← rs.length]; exact (List.getElem?_eq_some_iff.mp hv).1
          exact ⟨_, List.getElem?_eq_getElem hi⟩
        (refine ex_1_2 (rs.get hdi) fun v' hv' rv => ?_)
        rw [hv] at hv'; cases hv'
        have rt : Rep g X t.heap v d := rv.mono (fun _ _ _ x => x) fun b o nb eb => up b o (fun z => nb (z ▸ F.loc)) (fun z => by rw [z, fI] at eb; cases eb) (q03.ext.at_ b o (fun z => nb (z ▸ F.pf)) (fun z => nb (z ▸ F.lf)) eb)
        refine wpAny_mono (elt_wp (g := g) (cenv := genEnv genSc (closL env genSc.names []) s₃.heap.objs.size code builtinsNs env) (m₂ := m₂) (v := v) (d := d) (X := X) rfl hE.gl rfl (fun b o e => old b o (hw.ok.kin b o e) (fun z => by subst z; rw [KK_PF] at e; cases e)) (hw.ok.bn.at' fun o e => old _ o e (by decide)) hw.ok hn hm rt (hrows d (List.mem_of_getElem? hdi))) (fun y s' hy => ?_) fun _ _ e => e
        obtain ⟨⟨u, hu⟩, hk⟩ := hy
        exact ⟨⟨d, u, hdi, hu⟩, hk⟩⟩
    have hWS := WalksS.genexpQ (prog := pg) (w := g.w) (A := A.in4) hR.hd h'.objs.size s₃.gens.size s₃.heap.objs.size fp [s.heap.objs.size] (fun _ => true) vs.toArray.size (GenP rows) haC haf (fun b hb => by rw [List.mem_singleton] at hb; subst hb; exact (hfp _).mpr ⟨hIC, hLI.symm⟩) hR.lt ((hfp _).mpr ⟨hcs, hcsL⟩) (Nat.ne_of_lt hcs) (by simpa using hcsI)
    have hP : (fun j y => ∃ i, (passing (fun _ => true) vs.toArray.size 0)[j]? = some i ∧ GenP rows i y) = GenP rows := by
      funext j y
      rw [passing_all, hlen]
      refine propext ⟨fun ⟨i, hi, hp⟩ => ?_, fun hp => ?_⟩
      · obtain ⟨h1, h2⟩ := List.getElem?_eq_some_iff.mp hi
        rw [List.getElem_range] at h2; subst h2; exact hp
      · (refine ex_2_2 (hp) fun d u hd hy => ?_)
        exact ⟨j, List.getElem?_range (List.getElem?_eq_some_iff.mp hd).1, d, u, hd, hy⟩
    rw [hP, passing_all, List.length_range, hlen] at hWS
    refine h h'.objs.size _ _ _ s₃.gens.size _ ⟨q03.ext.then fun b o _ e => keep₅ b o e, ?_⟩ hWS ?_ (fun i s' st => st.1.typeIs) (.head _) (fun b hb => ?_) (fun hm => ?_) (fun b hb => ?_) fun s' h'' tk st hk => hWS.frame 0 { s' with toks := 0 } h'' tk st (Nat.zero_le _) hk
    · exact ⟨hw.ok, fun b o hb e => keep₅ b o (q3.wd.ext b o hb e), q3.wd.old.step_keeps keep₅, q3.wd.tab.keeps keep₅, q3.wd.bare.push rfl, q3.wd.os, q3.wd.la' fun o e => keep₅ _ o e⟩
    · have := GenAt.fresh (prog := pg) (w := g.w) (A := A.in4) (a := h'.objs.size) (g := s₃.gens.size) (s := { s₃ with gens := s₃.gens.push (.fresh (.compStart (.GeneratorExp genElt [⟨.Name "tup" px, .Name "w" pi, [], 0⟩] genSc pos) 0 (.ref s.heap.objs.size) .none (genEnv genSc (closL env genSc.names []) s₃.heap.objs.size code builtinsNs env))), toks := s₃.toks + 1 + 1 + 1, heap := h'.push go })
        (cenv := genEnv genSc (closL env genSc.names []) s₃.heap.objs.size code builtinsNs env) (m := fun y => if y = ".0" then some (.ref s.heap.objs.size) else none) hR.hd W₀ (fun _ => true) (GenP rows) (x := "tup") (by kernel_rfl) (by rfl) (by rfl) hCfp hq hgen (Array.getElem?_push_size ..) hst₀ (hn'.push _) (q3.wd.nolimit.keeps keep₅)
      rw [hlen] at this
      exact this
    · show b < (h'.push go).objs.size
      rw [Heap.size_push, hsz]
      rcases List.mem_cons.mp hb with rfl | hb
      · rw [hsz]; exact Nat.lt_succ_self _
      · rcases List.mem_cons.mp hb with rfl | hb
        · exact Nat.lt_succ_of_lt (Nat.lt_succ_self _)
        · exact Nat.lt_succ_of_lt (Nat.lt_succ_of_lt ((hfp b).mp hb).1)
    · rcases List.mem_cons.mp hm with z | hm
      · rw [z, hsz] at hLlt; exact absurd hLlt (Nat.not_lt.mpr (Nat.le_succ _))
      · rcases List.mem_cons.mp hm with z | hm
        · rw [z] at hLlt; exact absurd hLlt (Nat.lt_irrefl _)
        · exact ((hfp _).mp hm).2 rfl
    · rcases List.mem_cons.mp hb with rfl | hb
      · exact q03.none_of (get_size _)
      · rw [List.mem_singleton] at hb; subst hb; exact fI

theorem h87 (w : World) : FH w 87 (stB 2) (scB 2) := by walk_at "fh"
theorem c87 (w : World) : (fdAt w 87).code = .ref cF := by kernel_rfl
theorem Fn.raw1 {f : Addr} {body : List Stmt} {sc : Scope} {x : Str} {d e : D} (H : FH g.w f body sc)
    (hbind : ∀ v, bindArgs (fdAt g.w f) ⟨[v], []⟩ = pure [(x, v)]) (hx : sc.names.lookup x = some .local)
    (h : ∀ (env : Env) (A : Around) (s₀ : Shared) (X₀ : Addr → Prop) (s : Shared) (E : Value → Shared → Prop), EnvOk sc env → env.code = (fdAt g.w f).code → env.locals ≠ g.lf → Room g k A → XAl X₀ s₀.heap → Stt g env s₀ X₀ [] [] [] [(x, .v e)] s →
      wpAny g.M A (execs body env) (Post g env s₀ X₀ [] [] [] (Rets d)) E s) : Fn g (k + 1) f [e] d := by
  refine ⟨?_⟩
  intro A X s E vals hR hw hX hr
  have inv := Reps.cons_inv hr
  try clear hr
  (refine ex_2_3 (inv) fun v _ eqv r rs => ?_)
  (first | subst eqv | cases eqv)
  (first | obtain ⟨_, rfl⟩ := Rep.int_inv rs | obtain ⟨_, rfl⟩ := Rep.str_inv rs | obtain rfl := Rep.bool_inv rs | obtain rfl := Reps.nil_inv rs | obtain rfl := Rep.none_inv rs)
  (refine ex_1_2 (H.at_) fun o ho hdat => ?_)
  have kin := hw.kin
  have hco := H.co
  have hgen := H.gen
  have hkd := H.kd
  have hsc' := H.scp
  refine wpAny_call (codeAny_call_cells hR.lt (kin _ _ ho) hdat hw.nolimit (codeRec_of kin H.cd) H.bd (hbind v) H.clo (fun y hy => ?_) (fun s₁ C => ?_) (by rw [hsc']; exact hco) (by rw [hsc']; exact hgen) (by rw [hsc']; exact hkd))
  · rw [List.mem_singleton] at hy; subst hy
    exact .inl (by rw [hsc']; exact hx)
  · generalize hE : callEnvC (fdAt g.w f) s.heap.objs.size f = env at C ⊢
    have hsc : env.scope = sc := by rw [← hE]; exact H.scp
    have hkof : env.kindOf = fun y => sc.names.lookup y := by funext y; unfold Env.kindOf; rw [hsc]
    have hcel : ∀ n, sc.names.lookup n = some .cell → ∃ c, env.cells.lookup n = some c := fun n hn => by rw [← hE]; exact cellsFrom_has (fdAt g.w f).scope.names _ [] (.inr (by rw [hsc']; exact hn))
    have he : EnvOk sc env := ⟨hsc, hkd, by rw [← hE]; exact H.gl, by rw [← hE]; exact H.bi, hcel⟩
    have S : Stt g env s X [] [] [] [(x, .v e)] s₁ := start hw hX (by rw [← hE]; rfl) C fun y b hy => by
      rcases lookup_cons hy with ⟨rfl, rfl⟩ | ⟨_, h⟩
      · refine ⟨v, e, rfl, r, .inl ⟨by rw [hkof]; exact hx, ?_⟩⟩
        rw [hkof]; simp [bindL, hx]
      · simp at h
    refine wpAny_mono (h env _ s X s₁ _ he (by rw [← hE]; rfl) (by rw [← hE]; exact hX.nlf (get_size _)) hR.deeper hX.xal S) (fun fl s' p => ?_) fun _ _ e => e
    cases fl with
    | ret v => (refine ex_1_3 (p) fun e zq92 q r => ?_; (first | subst zq92 | cases zq92)); exact ⟨q, r⟩
    | next => (refine ex_1_2 (p) fun σ' q zq93 => ?_; refine ex_1_1 (zq93) fun Y S' => ?_); cases q; exact ⟨⟨S'.ext, S'.wd⟩, .none⟩
    | brk => (refine ex_1_2 (p) fun σ' q _ => ?_); exact q.elim
    | cont => (refine ex_1_2 (p) fun σ' q _ => ?_); exact q.elim
end
section
variable {g : Gw} {k : Nat} {sc : Scope} {σ σ' : Sto}

noncomputable def pfxL (n : Nat) : List Nat := [97, 116, 32, 116, 97, 98, 32, 115, 105, 122, 101] ++ (if 1 < n then [115] else [])
noncomputable def fmtS (rows : List D) : Str := S (pfxL rows.length) ++ S [32] ++ Txt.join (S [44, 32]) (rows.map hdStr)
theorem stB2 : ∃ p1 q1 p2 x2 n2 c2 q2 pl pw pc n3 p3 pcm p4 p5 x4 n4 p6 p7 p8 q8 p9 p10 x10 n10 p11 p12 x12 n12 p13 p14 p15 p16 p17 p18,
    stB 2 = [.Assign [.Name "firsts" p1] genE q1, .Assign [.Name "prefix" p2] (.Constant (.str x2) n2 c2) q2,
      .If (.Compare (.Call (.Name "len" pl) [.Name "w" pw] [] pc) [.Gt] [.Constant (.int 1) n3 p3] pcm) [.Assign [.Name "prefix" p4] (.BinOp (.Name "prefix" p5) .Add (.Constant (.str x4) n4 p6) p7) p8] [] q8,
      .Return (some (.BinOp (.BinOp (.Name "prefix" p9) .Add (.Constant (.str x10) n10 p10) p11) .Add (.Call (.Attribute (.Constant (.str x12) n12 p12) "join" p13) [.Name "firsts" p14] [] p15) p16)) p17] ∧
    x2 = S [97, 116, 32, 116, 97, 98, 32, 115, 105, 122, 101] ∧ x4 = S [115] ∧ x10 = S [32] ∧ x12 = S [44, 32] ∧ p18 = p17 ∧ (p13.endLine == p15.line) = true :=
  ⟨_, _, _, _, _, _, _, _, _, _, _, _, _, _, _, _, _, _, _, _, _, _, _, _, _, _, _, _, _, _, _, _, _, _, _, rfl, by kernel_rfl, by kernel_rfl, by kernel_rfl, by kernel_rfl, rfl, by kernel_rfl⟩
noncomputable def Rw (L : Addr) (s s' : Shared) : Prop := ∃ h' tk, s' = { s with heap := h', toks := tk } ∧ h'.objs.size = s.heap.objs.size ∧ ∀ b o, b ≠ L → s.heap.get? b = some o → h'.get? b = some o
theorem Rw.refl (L : Addr) (s : Shared) : Rw L s s := ⟨s.heap, s.toks, rfl, rfl, fun _ _ _ e => e⟩
theorem Rw.toks {L : Addr} {s s' : Shared} (x : Rw L s s') (tk : Nat) : Rw L s { s' with toks := tk } := by
  (refine ex_2_3 (x) fun h' t zq94 a b => ?_; (first | subst zq94 | cases zq94)); exact ⟨h', tk, rfl, a, b⟩
theorem Rw.store {L : Addr} {s s' : Shared} (x : Rw L s s') {h'' : Heap} {tk : Nat} (hs : Heap.SameBut L s'.heap h'') : Rw L s { s' with heap := h'', toks := tk } := by
  (refine ex_2_3 (x) fun h' t zq95 a b => ?_; (first | subst zq95 | cases zq95))
  exact ⟨h'', tk, rfl, hs.1.trans a, fun c o hc e => (hs.2 c hc).trans (b c o hc e)⟩
set_option maxHeartbeats 2000000 in
theorem fmt_wp {rows : List D} (hl : rows.length ≤ 10000) (hrows : ∀ d ∈ rows, HdOk d) (hz : (rows.map fun d => (hdStr d).length).sum + rows.length * 2 ≤ 100000)
    (env : Env) (A : Around) (s₀ : Shared) (X₀ : Addr → Prop) (s : Shared) (E : Value → Shared → Prop) (hE : EnvOk (scB 2) env) (hc : env.code = .ref cF) (hnl : env.locals ≠ g.lf) (hR : Room g k A) (hX : XAl X₀ s₀.heap) (S : Stt g env s₀ X₀ [] [] [] [("w", .v (.lst rows))] s) :
    wpAny g.M A (execs (stB 2) env) (Post g env s₀ X₀ [] [] [] (Rets (.str (fmtS rows)))) E s := by
  obtain ⟨X, S⟩ := S
  (refine ex_1_2 (S.F.var "w" _ Lk.h) fun v hat r => ?_)
  have r' : Rep g X s.heap v (.lst rows) := r
  have inv := Rep.lst_inv r'
  try clear r'
  (refine ex_4_6 (inv) fun l o vs n eqv nX ho hcl hd rs => ?_)
  (first | subst eqv | cases eqv)
  obtain ⟨p1, q1, p2, x2, n2, c2, q2, pl, pw, pc, n3, p3, pcm, p4, p5, x4, n4, p6, p7, p8, q8, p9, p10, x10, n10, p11, p12, x12, n12, p13, p14, p15, p16, p17, p18, e, e2, e4, e10, e12, -, hline⟩ := stB2
  rw [e]
  subst e2 e4 e10 e12
  have hk : env.scope.kind = .function := hE.scp ▸ hE.kind
  have kof : ∀ y, env.kindOf y = (scB 2).names.lookup y := fun y => by unfold Env.kindOf; rw [hE.scp]
  have kf : env.kindOf "firsts" = some .local := (kof _).trans (by kernel_rfl)
  have kp : env.kindOf "prefix" = some .local := (kof _).trans (by kernel_rfl)
  have kw : env.kindOf "w" = some .local := (kof _).trans (by kernel_rfl)
  have ncl : (env.scope.kind == .class || (env.scope.kind == .module && env.locals != env.globals)) = false := by rw [hk]; rfl
  refine wpAny_execs_cons (wpAny_Assign_stores (gen_make hE hc hR S.wd S.F hat (.lst nX ho hcl hd rs) hrows fun a s₅ fp wr gi St q W hst hT haf hfp hLf hwr hfr => ?_) (by rfl) rfl)
  show wpAny _ A (PySem.assign (.Name "firsts" p1) env (.ref a)) _ _ _
  have S₅ := S.kp q
  have nll : g.lf ≠ env.locals := fun z => hnl z.symm
  obtain ⟨m, hn⟩ := S₅.F.ns
  have hmw : m "w" = some (.ref l) := by
    have h5 := hat.ext q.ext S.F.nPF fun n c hc => (S.F.cPF n c hc).1
    rcases h5 with ⟨_, m', hn', e'⟩ | ⟨kd, _⟩
    · rw [Heap.Ns.fn hn hn']; exact e'
    · rw [kw] at kd; rcases kd with kd | kd <;> cases kd
  have ld : ∀ {x : Str} {pos : Pos} {s' : Shared} {m' : Str → Option Value} {v : Value} {Q : Value → Shared → Prop}, env.kindOf x = some .local → (x == ("__debug__" : Str)) = false → s'.heap.Ns env.locals m' → m' x = some v → Q v s' → wpAny g.M A (eval (.Name x pos) env) Q E s' := fun kx hd hn hm h => wpAny_Name (wpAny_loadName_local hk kx hn hm h) hd
  have fpL : ∀ b ∈ fp, b ≠ env.locals := fun b hb z => hLf (z ▸ hb)
  have Lall : ∀ s₇ (o : Obj), Rw env.locals s₅ s₇ → ∀ b, b ≠ env.locals → s₅.heap.get? b = some o → s₇.heap.get? b = some o := fun s₇ o hr b hb e => by
    (refine ex_2_3 (hr) fun h' tk zq96 _ hk => ?_; (first | subst zq96 | cases zq96)); exact hk b o hb e
  have tail : ∀ s₇ m₇ t, Rw env.locals s₅ s₇ → s₇.heap.Ns env.locals m₇ → m₇ "firsts" = some (.ref a) → m₇ "prefix" = some (.str (Mine.S (pfxL rows.length)) t) →
      wpAny g.M A (execs [.Return (some (.BinOp (.BinOp (.Name "prefix" p9) .Add (.Constant (.str (Mine.S [32])) n10 p10) p11) .Add (.Call (.Attribute (.Constant (.str (Mine.S [44, 32])) n12 p12) "join" p13) [.Name "firsts" p14] [] p15) p16)) p17] env) (Post g env s₀ X₀ [] [] [] (Rets (.str (fmtS rows)))) E s₇ := by
    intro s₇ m₇ t hr hn₇ hmf hmp
    have hpl : (pfxL rows.length).length ≤ 12 := by unfold pfxL; split <;> simp
    refine wpAny_execs_cons (wpAny_Return_some (wpAny_BinOp (wpAny_BinOp (ld kp (by kernel_rfl) hn₇ hmp ?_))))
    refine wpAny_Constant_str ?_
    refine add_str (fun t8 tk8 => ?_) (by rw [S_len, S_len]; exact Nat.le_trans (by simp; omega : _ ≤ 13) (by decide))
    refine method_wp (by rfl) (by rfl) hline (wpAny_Constant_str (PySem.GM.join ?_))
    refine callWith_of (P := fun h => True) (by rfl) (fun h _ => keeps_machine (by intro _ h; cases h) h) ?_
    refine evalArgs_plain (spliced_cons (ld kf (by kernel_rfl) (m' := m₇) hn₇ hmf ?_))
    refine spliced_nil ⟨trivial, ?_⟩
    (refine ex_2_3 (hr) fun h' tk zq97 hsz' hk' => ?_; (first | subst zq97 | cases zq97))
    have hkL : Xt g s₀.heap h' := (S.ext.trans q.ext).then fun b o he e' => hk' b o (fun z => by obtain ⟨o', e⟩ := he; rw [z, S.fl] at e; cases e) e'
    refine SC.joinGen (I := a) W.of_in1.of_in1 hT (hfr s₅ h' _ hst fun b hb o e => hk' b o (fpL b hb) e) (fun b hb => by show b < h'.objs.size; rw [hsz']; exact hfp b hb) haf (fun i v hv => by (refine ex_2_2 (hv) fun d u _ e => ?_); exact ⟨_, u, e⟩) (fun s' lv hm hacc => ?_) (Nat.le_trans hl (by decide))
    have htx : lv.map (·.1) = rows.map hdStr := by
      apply List.ext_getElem?
      intro j
      have hlen : lv.length = rows.length := by have := hacc.1; simpa [strValues] using this
      by_cases hj : j < lv.length
      · have hv : (strValues lv).toArray[j]? = some (.str lv[j].1 lv[j].2) := by simp [strValues, hj]
        (refine ex_2_2 (hacc.2 j _ hv) fun d u hd e => ?_)
        rw [List.getElem?_map, List.getElem?_map, hd, List.getElem?_eq_getElem hj]
        simp only [Option.map_some]
        rw [(Value.str.inj e).1]
      · rw [List.getElem?_eq_none (by simpa using Nat.le_of_not_lt hj), List.getElem?_eq_none (by rw [List.length_map, ← hlen]; exact Nat.le_of_not_lt hj)]
    rw [htx]
    have hbnd : ((rows.map hdStr).map (·.length)).sum + (rows.map hdStr).length * (Mine.S [44, 32]).length ≤ 16777216 := by
      rw [List.map_map, List.length_map, S_len]
      show (rows.map fun d => (hdStr d).length).sum + rows.length * 2 ≤ _
      (exact Nat.le_trans ‹_› (Nat.le_of_ble_eq_true rfl))
    refine ⟨joinOk_of hbnd, fun t9 tk9 => ?_⟩
    have hjl : (Txt.join (Mine.S [44, 32]) (rows.map hdStr)).length ≤ 100000 := by
      have := StrLaws.join_length_le (Mine.S [44, 32]) (rows.map hdStr)
      rw [← StrLaws.glued_eq_join] at this
      rw [List.map_map, List.length_map, S_len] at this
      refine Nat.le_trans this ?_
      show (rows.map fun d => (hdStr d).length).sum + rows.length * 2 ≤ _
      omega
    refine add_str (fun t10 tk10 => ?_) (by rw [S_app, S_len]; exact Nat.le_trans (by simp; lia : _ ≤ 200000) (by decide))
    have w7 : Wd g { s₅ with heap := h', toks := 0 } := q.wd.ext' (fun b o ⟨o', e'⟩ e => hk' b o (fun z => by rw [z, S.F.hiL] at e'; cases e') e) (q.wd.la' fun o e => hk' _ o nll e)
    have hwr' : ∀ b o, g.s₁.heap.get? b = some o → b ∉ wr := fun b o e hb => by
      have := S.wd.hi (hwr b hb); rw [e] at this; cases this
    have w8 : Wd g { s₅ with heap := s'.heap, toks := 0 } := w7.ext' (s := { s₅ with heap := h', toks := 0 }) (fun b o ⟨o', e'⟩ e => hm.heap b o (hwr' b o' e') e) (w7.la' fun o e => hm.heap _ o (fun hb => S.F.xok.nlf (hwr _ hb) rfl) e)
    refine ⟨.str (fmtS rows), rfl, ⟨hkL.then fun b o he e' => hm.heap b o (fun hbw => ?_) e', ⟨w8.ok, w8.ext, w8.old, w8.tab, ?_, ?_, w8.la⟩⟩, .str _ _⟩
    · obtain ⟨o', e⟩ := he
      have := hwr b hbw
      rw [S.ext.none (S.wd.nPF this) this] at e; cases e
    · exact AllBare.moved (x := q.wd.bare) hm.gens
    · exact hm.os.trans q.wd.os
  refine wpAny_assign_Name (wpAny_storeName_local kf hn (fun h₆ hn₆ hs₆ => ?_) ncl)
  show wpAny g.M A (execs _ env) _ _ _
  have r6 : Rw env.locals s₅ { s₅ with heap := h₆, toks := s₅.toks + 1 } := (Rw.refl env.locals s₅).store hs₆
  refine wpAny_execs_cons (wpAny_Assign_stores (wpAny_Constant_str ?_) (by rfl) rfl)
  show wpAny _ A (PySem.assign (.Name "prefix" p2) env _) _ _ _
  refine wpAny_assign_Name (wpAny_storeName_local kp (m := fun x => if x = "firsts" then some (.ref a) else m x) hn₆ (fun h₇ hn₇ hs₇ => ?_) ncl)
  show wpAny g.M A (execs _ env) _ _ _
  have r7 : Rw env.locals s₅ { s₅ with heap := h₇, toks := s₅.toks + 1 + 1 + 1 } := by
    have := (r6.toks (s₅.toks + 1 + 1)).store (tk := s₅.toks + 1 + 1 + 1) hs₇
    exact this
  have m7w : (fun x => if x = ("prefix" : Str) then some (Value.str (Mine.S [97, 116, 32, 116, 97, 98, 32, 115, 105, 122, 101]) (s₅.toks + 1)) else (fun x => if x = ("firsts" : Str) then some (.ref a) else m x) x) ("w" : Str) = some (.ref l) := by
    simp only
    rw [if_neg (by decide), if_neg (by decide)]; exact hmw
  have wd7 : ∀ tk, Wd g { s₅ with heap := h₇, toks := tk } := fun tk => q.wd.ext' (fun b o ⟨o', e'⟩ e => by
    (refine ex_2_3 (r7) fun h' tk' e1 _ hk' => ?_)
    cases e1
    exact hk' b o (fun z => by rw [z, S.F.hiL] at e'; cases e') e) (q.wd.la' fun o e => by
    (refine ex_2_3 (r7) fun h' tk' e1 _ hk' => ?_)
    cases e1
    exact hk' _ o nll e)
  have hl7 : h₇.IsList l vs.toArray := by
    (refine ex_2_3 (r7) fun h' tk' e1 _ hk' => ?_)
    cases e1
    exact ⟨o, hk' l o (fun z => nX (z ▸ S.F.loc)) (q.ext.at_ l o (fun z => nX (z ▸ S.F.pf)) (fun z => nX (z ▸ S.F.lf)) ho), hcl, n, hd⟩
  have hsz : vs.toArray.size = rows.length := by rw [List.size_toArray, rs.length]
  refine wpAny_execs_cons (wpAny_If (wpAny_isTrue_Compare1 ?_ (by rfl)))
  refine wpAny_Call_NameR (builtin_wp (v := .builtin "len") hE (wd7 _) (by kernel_rfl) (by kernel_rfl) (by kernel_rfl) ?_ (by kernel_rfl) (by decide))
  refine callWith_of (P := fun h => True) (by rfl) (fun h _ => keeps_machine (by intro _ h; cases h) h) ?_
  refine evalArgs_plain (spliced_cons (ld kw (by kernel_rfl) hn₇ m7w ?_))
  refine spliced_nil ⟨trivial, ?_⟩
  refine PyProof.Rows.len_list hl7 (by rw [hsz]; lia) ?_
  refine wpAny_Constant_int ?_
  refine PyProof.Rows.gt_int ?_
  refine wpAny_pure ?_
  rw [hsz]
  by_cases h1 : 1 < rows.length
  · have h1' : decide ((1 : Int) < (rows.length : Int)) = true := by simp; (exact Int.ofNat_lt.mpr ‹_›)
    rw [h1']
    show wpAny g.M A (execs _ env) _ _ _
    refine wpAny_execs_cons (wpAny_Assign_stores (wpAny_BinOp (ld kp (by kernel_rfl) hn₇ (if_pos rfl) ?_)) (by rfl) rfl)
    refine wpAny_Constant_str ?_
    refine add_str (fun t8 tk8 => ?_) (Nat.le_of_ble_eq_true rfl)
    show wpAny _ A (PySem.assign (.Name "prefix" p4) env _) _ _ _
    refine wpAny_assign_Name (wpAny_storeName_local kp hn₇ (fun h₈ hn₈ hs₈ => ?_) ncl)
    refine wpAny_pure ?_
    refine tail _ _ t8 ((r7.toks tk8).store hs₈) hn₈ ((if_neg (by decide)).trans ((if_neg (by decide)).trans (if_pos rfl))) ((if_pos rfl).trans ?_)
    rw [S_app, pfxL, if_pos h1]
  · have h1' : decide ((1 : Int) < (rows.length : Int)) = false := by simp; lia
    rw [h1']
    refine wpAny_pure ?_
    refine tail _ _ (s₅.toks + 1) (r7.toks _) hn₇ ((if_neg (by decide)).trans (if_pos rfl)) ((if_pos rfl).trans ?_)
    rw [pfxL, if_neg h1, List.append_nil]
theorem fn_format {rows : List D} (hl : rows.length ≤ 10000) (hrows : ∀ d ∈ rows, HdOk d) (hz : (rows.map fun d => (hdStr d).length).sum + rows.length * 2 ≤ 100000) : Fn g (k + 1) 87 [.lst rows] (.str (fmtS rows)) :=
  Fn.raw1 (x := "w") (h87 g.w) (fun _ => by kernel_rfl) (by kernel_rfl) fun env A s₀ X₀ s E hE hc hnl hR hX S => fmt_wp hl hrows hz env A s₀ X₀ s E hE (hc.trans (c87 g.w)) hnl hR hX S
end
section
variable {g : Gw} {k : Nat} {sc : Scope} {σ σ' : Sto}

theorem h131 (w : World) : FH w 131 (stB 12) (scB 12) := by walk_at "fh"
noncomputable def numS (i : Int) : List Nat := (Str.ofString (toString i)).cps.toList
theorem S_num (i : Int) : S (numS i) = Str.ofString (toString i) := rfl
theorem numS_nat (n : Nat) : numS (n : Int) = (Nat.toDigits 10 n).map Char.toNat := by
  unfold numS
  rw [signs_ofString]
  show ((toString n : String).toList).map _ = _
  rw [Nat.toString_eq_ofList_toDigits, String.toList_ofList]
theorem numS_len (i : Nat) (h : i ≤ 1000) : (numS (i : Int)).length ≤ 4 := by
  rw [numS_nat, List.length_map]
  exact (Nat.length_toDigits_le_iff (by decide) (by decide)).mpr (Nat.lt_of_le_of_lt h (by decide))
noncomputable def RowOk (r : Row) : Prop := (0 ≤ r.1 ∧ r.1 ≤ 1000) ∧ (0 ≤ r.2.1 ∧ r.2.1 ≤ 1000) ∧ (0 ≤ r.2.2 ∧ r.2.2 ≤ 1000)
theorem numI_len {i : Int} (h : 0 ≤ i ∧ i ≤ 1000) : (numS i).length ≤ 4 := by
  obtain ⟨n, rfl⟩ := Int.eq_ofNat_of_zero_le h.1
  exact numS_len n (by lia)
noncomputable def quotedRow (r : Row) : List Nat := quotedL (numS r.1) (numS r.2.1 ++ [44, 32] ++ numS r.2.2)
noncomputable def wordsL (table : List Row) : List Nat := pfxL table.length ++ [32] ++ joinL [44, 32] (table.map quotedRow)
noncomputable def decR : D → Row
  | .tup [.int a, .int b, .int c] => (a, b, c)
  | _ => (0, 0, 0)
theorem decR_row (r : Row) : decR (rowD r) = r := rfl
theorem quoted_len {r : Row} (h : RowOk r) : (quotedRow r).length ≤ 40 := by
  have h1 := numI_len h.1
  have h2 := numI_len h.2.1
  have h3 := numI_len h.2.2
  have h4 := escL_len (numS r.2.1 ++ [44, 32] ++ numS r.2.2)
  unfold quotedRow quotedL
  simp only [List.length_append, escL, List.length_flatten, List.length_cons, List.length_nil] at h4 ⊢
  lia
theorem small_log {i : Int} (h : 0 ≤ i ∧ i ≤ 1000) : i.natAbs.log2 < 1920 := by
  by_cases h0 : i.natAbs = 0
  · rw [h0]; decide
  · have : i.natAbs.log2 < 10 := (Nat.log2_lt h0).mpr (by lia)
    (exact Nat.le_trans ‹_› (Nat.le_of_ble_eq_true rfl))
theorem fn_words {table : List Row} (hl : table.length ≤ 1000) (hr : ∀ r ∈ table, RowOk r) : Fn g (k + 2) 131 [.lst (table.map rowD)] (.str (S (wordsL table))) := by
  refine Fn.of1 (x := "table") (h131 g.w) (fun _ => by kernel_rfl) (.inl (by kernel_rfl)) ?_
  refine Ex.ret ?_ rfl
  have hsum : ((table.map fun r => D.tup [.str (S (quotedRow r))]).map fun d => (hdStr d).length).sum + (table.map fun r => D.tup [.str (S (quotedRow r))]).length * 2 ≤ 100000 := by
    rw [List.map_map, List.length_map]
    have := sum_le (fun r : Row => (S (quotedRow r)).length) 40 table (fun r h => by rw [S_len]; exact quoted_len (hr r h))
    simp only [Function.comp_def, hdStr]
    lia
  have he : fmtS (table.map fun r => D.tup [.str (S (quotedRow r))]) = S (wordsL table) := by
    unfold fmtS wordsL
    rw [List.length_map, List.map_map]
    have : (table.map (hdStr ∘ fun r => D.tup [.str (S (quotedRow r))])) = (table.map quotedRow).map S := by rw [List.map_map]; rfl
    rw [this, S_join, S_app, S_app]
  rw [← he]
  refine Ev.callG (Evs.cons (Ev.compA (σc := []) rowD decR decR_row _ (ItE.of (d := .lst (table.map rowD)) (by walk_at "nm") It.lst) (by walk_at "cap") (Nat.le_trans hl (by decide)) (fun r h => ?_)) Evs.nil) (fn_format (by rw [List.length_map]; (exact Nat.le_trans ‹_› (Nat.le_of_ble_eq_true rfl))) (fun d hd => ?_) hsum)
  · (refine ex_0_3 (hr r h) fun b0 b1 b2 => ?_)
    have l0 := numI_len b0
    have l1 := numI_len b1
    have l2 := numI_len b2
    have s1 : (S (numS r.2.1)).length + (S [44, 32]).length ≤ sizeLine := by rw [S_len, S_len]; exact Nat.le_trans (by simp; omega : _ ≤ 6) (by decide)
    have s2 : (S (numS r.2.1) ++ S [44, 32]).length + (S (numS r.2.2)).length ≤ sizeLine := by rw [S_app, S_len, S_len]; exact Nat.le_trans (by simp; lia : _ ≤ 10) (by decide)
    refine Ev.tup (Evs.cons (Ev.callG (Evs.cons (d := .str (S (numS r.1))) (Ev.b1 (.type "str") (Ev.sub (Ev.nm (d := rowD r) (by walk_at "lk")) Ev.int (Itm.tup (ds := [.int r.1, .int r.2.1, .int r.2.2]) (j := 0) (by rfl) rfl (by (exact Int.ofNat_zero_le _)) (by (exact Int.ofNat_zero_le _)))) (Cl.strI (small_log b0))) (Evs.cons (d := .str (S (numS r.2.1 ++ [44, 32] ++ numS r.2.2))) (Ev.cast (Ev.bin (Ev.bin (Ev.b1 (.type "str") (Ev.sub (Ev.nm (d := rowD r) (by walk_at "lk")) Ev.int (Itm.tup (ds := [.int r.1, .int r.2.1, .int r.2.2]) (j := 1) (by rfl) rfl (by (exact Int.ofNat_zero_le _)) (by (exact Int.ofNat_zero_le _)))) (Cl.strI (small_log b1))) (Ev.strS [44, 32]) (Bin.addS s1)) (Ev.b1 (.type "str") (Ev.sub (Ev.nm (d := rowD r) (by walk_at "lk")) Ev.int (Itm.tup (ds := [.int r.1, .int r.2.1, .int r.2.2]) (j := 2) (by rfl) rfl (by (exact Int.ofNat_zero_le _)) (by (exact Int.ofNat_zero_le _)))) (Cl.strI (small_log b2))) (Bin.addS s2)) (by rw [← S_num, ← S_num, S_app, S_app])) Evs.nil)) (fn_quoted (by (exact Nat.le_trans ‹_› (Nat.le_of_ble_eq_true rfl))) (by simp; lia))) Evs.nil)
  · (refine ex_1_2 (List.mem_map.mp hd) fun r h zq98 => ?_; (first | subst zq98 | cases zq98))
    exact .inr ⟨_, _, rfl⟩
end
section
variable {g : Gw} {k : Nat} {sc : Scope} {σ σ' : Sto}

theorem occ_at {c : Nat} {k v : List Nat} (h : c ∉ k) (limit : Nat) (hl : 1 ≤ limit) : ∃ r, Builtin.Str.occurrences (S (k ++ c :: v)) (ch c) 0 (S (k ++ c :: v)).length limit = k.length :: r := by
  have hat : ∀ i, StrLaws.At (S (k ++ c :: v)) (ch c) (S (k ++ c :: v)).length i ↔ (k ++ c :: v)[i]? = some c := fun i => StrLaws.subAt_one (S (k ++ c :: v)) c i
  have hk : (k ++ c :: v)[k.length]? = some c := by simp
  have hno : ∀ i, i < k.length → (k ++ c :: v)[i]? ≠ some c := fun i hi he => by
    rw [List.getElem?_append_left hi] at he
    exact h (List.mem_of_getElem? he)
  rcases StrLaws.occ_head (S (k ++ c :: v)) (ch c) limit hl with ⟨_, hn⟩ | ⟨i, r, e, ha, hf⟩
  · exact absurd ((hat _).mpr hk) (hn _)
  · have : i = k.length := by
      rcases Nat.lt_trichotomy i k.length with h1 | h1 | h1
      · exact absurd ((hat i).mp ha) (hno i h1)
      · exact h1
      · exact absurd ((hat _).mpr hk) (hf _ h1)
    subst this
    exact ⟨r, e⟩
theorem not_few {c : Nat} {l : List Nat} (h : c ∈ l) : (decide ((S l).length < (ch c).length) || decide (Builtin.Str.strKind (S l) < Builtin.Str.strKind (ch c))) = false := by
  rw [Bool.or_eq_false_iff, decide_eq_false_iff_not, decide_eq_false_iff_not]
  refine ⟨?_, fun hk => StrLaws.kind_free (S l) c hk h⟩
  rw [S_len]
  have := List.length_pos_of_mem h
  show ¬ l.length < 1
  lia
theorem sub_S (l : List Nat) (i j : Nat) : Builtin.Str.strSub (S l) i j = S ((l.drop i).take (j - i)) := by
  have := StrLaws.strSub_toList (S l) i j
  generalize Builtin.Str.strSub (S l) i j = x at this
  obtain ⟨a⟩ := x
  simp only at this
  show Str.mk a = ⟨_⟩
  congr 1
  have h2 : a.toList = (l.drop i).take (j - i) := this
  rw [← h2]
theorem split_two {c : Nat} {k v : List Nat} (h : c ∉ k) : Txt.splitMax (S (k ++ c :: v)) (ch c) 1 = [S k, S v] := by
  obtain ⟨r, e⟩ := occ_at (v := v) h 1 (Nat.le_refl 1)
  have hl1 := StrLaws.occ_length_le (S (k ++ c :: v)) (ch c) 0 (S (k ++ c :: v)).length 1
  rw [e] at hl1
  have hr : r = [] := by cases r with | nil => rfl | cons _ _ => simp at hl1
  subst hr
  have hlim : limitOf (S (k ++ c :: v)) 1 = 1 := rfl
  unfold Txt.splitMax
  rw [not_few (by simp), if_neg Bool.false_ne_true, hlim, e, if_neg (by simp), StrLaws.partsBetween_eq]
  show [Builtin.Str.strSub _ 0 _, Builtin.Str.strSub _ _ _] = _
  rw [sub_S, sub_S, S_len]
  congr 2
  · simp
  · have h1 : (ch c).length = 1 := rfl
    rw [h1]
    simp
    rw [List.take_of_length_le (by lia)]
theorem split_hd {c : Nat} {k v : List Nat} (h : c ∉ k) : ∃ r, Txt.split (S (k ++ c :: v)) (ch c) = S k :: r := by
  obtain ⟨r, e⟩ := occ_at (v := v) h ((S (k ++ c :: v)).length + 1) (by (exact Nat.zero_lt_succ _))
  unfold Txt.split
  rw [not_few (by simp), if_neg Bool.false_ne_true, e, if_neg (by simp), StrLaws.partsBetween_eq]
  refine ⟨StrLaws.partsFrom (S (k ++ c :: v)) (ch c).length (k.length + (ch c).length) r, ?_⟩
  show Builtin.Str.strSub _ 0 _ :: _ = _
  rw [sub_S]
  congr 2
  simp
theorem occ_no {c : Nat} {l : List Nat} (h : c ∉ l) (limit : Nat) (hl : 1 ≤ limit) : Builtin.Str.occurrences (S l) (ch c) 0 (S l).length limit = [] := by
  rcases StrLaws.occ_head (S l) (ch c) limit hl with ⟨e, _⟩ | ⟨i, r, e, ha, hf⟩
  · exact e
  · exact absurd (List.mem_of_getElem? ((StrLaws.subAt_one (S l) c i).mp ha)) h
theorem split_no {c : Nat} {l : List Nat} (h : c ∉ l) : Txt.split (S l) (ch c) = [S l] := by
  unfold Txt.split
  split
  · rfl
  · rw [occ_no h _ (by (exact Nat.zero_lt_succ _))]; rfl
theorem splitMax_no {c : Nat} {l : List Nat} (h : c ∉ l) : Txt.splitMax (S l) (ch c) 1 = [S l] := by
  unfold Txt.splitMax
  split
  · rfl
  · rw [show limitOf (S l) 1 = 1 from rfl, occ_no h 1 (Nat.le_refl 1)]; rfl

theorem h94 (w : World) : FH w 94 (stB 4) (scB 4) := by walk_at "fh"
noncomputable def unq (v : List Nat) : List Nat := if v.head? = some 34 ∧ v.getLast? = some 34 then cut v (some 1) (some (-1)) else v
noncomputable def bodyK : List Stmt := match stB 4 with
  | [_, .For _ _ body _ _, _] => body
  | _ => []
noncomputable abbrev kqS (fs : List (List Nat × List Nat)) (t : D) : Sto := [("parsed", .m (.sd (fs.map fun p => (S p.1, strD p.2)))), ("l", .v t)]
noncomputable def kqPut (fs : List (List Nat × List Nat)) (p : List Nat × List Nat) : List (List Nat × List Nat) := putL fs p.1 (unq p.2)
theorem put_S (fs : List (List Nat × List Nat)) (k v : List Nat) : put (fs.map fun p => (S p.1, strD p.2)) (S k) (strD v) = (putL fs k v).map fun p => (S p.1, strD p.2) := by
  have hs : ∀ a : List Nat, decide (S a = S k) = decide (a = k) := fun a => by
    by_cases h : a = k
    · simp [h]
    · rw [decide_eq_false h, decide_eq_false fun e => h (S_inj e)]
  unfold put putL
  have ha : (fs.map fun p => (S p.1, strD p.2)).any (fun g => decide (g.1 = S k)) = fs.any (fun g => decide (g.1 = k)) := by
    rw [List.any_map]; congr 1; funext p; exact hs p.1
  rw [ha]
  split
  · rw [List.map_map, List.map_map]
    refine List.map_congr_left fun p _ => ?_
    simp only [Function.comp_apply]
    by_cases h : p.1 = k
    · rw [if_pos h, if_pos (by rw [h])]
    · rw [if_neg h, if_neg (fun e => h (S_inj e))]
  · simp

noncomputable abbrev eltD (p : List Nat × List Nat) : D := .str (S (p.1 ++ 61 :: p.2))
structure KvOk (p : List Nat × List Nat) : Prop where
  no : 61 ∉ p.1
  ne : p.2 ≠ []
  l1 : p.1.length ≤ 100000
  l2 : p.2.length ≤ 100000
theorem keqv_loop {rest : List Stmt} {Q : Fl → Prop} {t : D} : ∀ (l fs : List (List Nat × List Nat)), (∀ p ∈ l, KvOk p) → fs.length + l.length ≤ 100000 → Ex g (scB 4) k (kqS (l.foldl kqPut fs) t) rest Q →
    Lp g (scB 4) k (bnd1 "elt") bodyK (Kq g (scB 4) k rest Q) (l.map eltD) (kqS fs t)
  | [], fs, _, _, h => h
  | p :: l, fs, hp, hl, h => by
    obtain ⟨kk, v⟩ := p
    obtain ⟨hno, hne, l1, l2⟩ := hp _ (.head _)
    simp only at hno hne l1 l2
    simp only [List.length_cons] at hl
    have hpl := putL_len fs kk (unq v)
    have hsz : (S (kk ++ 61 :: v)).length + 2 ≤ sizeLine := by rw [S_len]; exact Nat.le_trans (by simp; lia : _ ≤ 300000) (by decide)
    refine Ex.tupL (ds := [.str (S kk), .str (S v)]) (Ev.cast (Ev.meth (by walk_at "nm") Mth.split (Evs.cons (Ev.strS [61]) (Evs.cons Ev.int Evs.nil)) (Cl.split2 (by rfl) hsz)) (by rw [show S [61] = ch 61 from rfl, split_two hno]; rfl)) (Ass.cons (Ass.cons Ass.nil)) ?_
    have hpos : 0 < v.length := List.length_pos_iff.mpr hne
    have h0 : (seqIndex? 0 (S v).length).bind ((S v).cps[·]?) = some (v.head hne) := by
      have := seqIndex_nat (i := 0) (n := (S v).length) (by rw [S_len]; exact hpos)
      rw [show ((0 : Nat) : Int) = 0 from rfl] at this
      rw [this, Option.bind_some]
      show v.toArray[0]? = _
      rw [List.getElem?_toArray, List.head_eq_getElem, List.getElem?_eq_getElem hpos]
    have h1 : (seqIndex? (-1) (S v).length).bind ((S v).cps[·]?) = some (v.getLast hne) := by
      have : seqIndex? (-1) (S v).length = some (v.length - 1) := by
        rw [S_len]; unfold seqIndex?; simp; lia
      rw [this, Option.bind_some]
      show v.toArray[_]? = _
      rw [List.getElem?_toArray, ← List.getLast?_eq_getElem?, List.getLast?_eq_some_getLast hne]
    refine Ex.if_ (Tr.and2 (Tr.cmp (Ev.sub (by walk_at "nm") Ev.int (Itm.str h0 (by (exact Int.ofNat_zero_le _)) (by (exact Int.ofNat_zero_le _)))) (Ev.strS [34]) Cmp.eqC) fun _ => Tr.cmp (Ev.sub (by walk_at "nm") (Ev.neg Ev.int) (Itm.str h1 (by (exact Int.ofNat_zero_le _)) (by (exact Int.ofNat_zero_le _)))) (Ev.strS [34]) Cmp.eqC) ?_
    have hfin : ∀ {σ' : Sto}, Lk σ' "k" (.v (.str (S kk))) → Lk σ' "v" (.v (.str (S (unq v)))) → Lk σ' "parsed" (.m (.sd (fs.map fun p => (S p.1, strD p.2)))) → Lk σ' "l" (.v t) →
        Ex g (scB 4) k σ' (match bodyK with | [_, _, b] => [b] | _ => []) (fun fl => match fl with
          | .next σ' => Lp g (scB 4) k (bnd1 "elt") bodyK (Kq g (scB 4) k rest Q) (l.map eltD) σ'
          | .cont σ' => Lp g (scB 4) k (bnd1 "elt") bodyK (Kq g (scB 4) k rest Q) (l.map eltD) σ'
          | .brk σ' => Kq g (scB 4) k rest Q (.next σ')
          | .ret d => Kq g (scB 4) k rest Q (.ret d)) := by
      intro σ' a1 a2 a3 a4
      refine Ex.setSD (fs := fs.map fun p => (S p.1, strD p.2)) (i := S kk) (d := strD (unq v)) a3 (Ev.nm a2) (Ev.nm a1) (by rw [List.length_map]; exact Nat.le_trans (by lia : _ ≤ 100000) (by decide)) ?_
      refine Ex.nil ?_
      rw [put_S]
      refine Lp.sub1 (keqv_loop l (kqPut fs (kk, v)) (fun p hm => hp p (.tail _ hm)) (by unfold kqPut; simp only; lia) h) (SubL.cons Lk.h (SubL.cons (Lk.n (by kernel_rfl) a4) SubL.nil))
    cases hb : (v.head hne == 34 && v.getLast hne == 34) with
    | true =>
      rw [Bool.and_eq_true, beq_iff_eq, beq_iff_eq] at hb
      have hu : unq v = cut v (some 1) (some (-1)) := by
        unfold unq
        rw [List.head?_eq_some_head hne, List.getLast?_eq_some_getLast hne, hb.1, hb.2, if_pos ⟨rfl, rfl⟩]
      refine Ex.assign (d := .str (S (unq v))) (by rw [hu, ← S_cut]; exact Ev.sliceS (by walk_at "nm") (Pt.yes Ev.int) (Pt.yes (Ev.neg Ev.int)) (by rw [S_len]; exact Nat.le_trans l2 (by decide))) ?_
      exact Ex.nil (hfin (by walk_at "lk") (by walk_at "lk") (by walk_at "lk") (by walk_at "lk"))
    | false =>
      have hu : unq v = v := by
        unfold unq
        rw [List.head?_eq_some_head hne, List.getLast?_eq_some_getLast hne, if_neg]
        rintro ⟨e1, e2⟩
        simp at e1 e2
        rw [e1, e2] at hb
        simp at hb
      rw [hu] at hfin
      exact Ex.nil (hfin (by walk_at "lk") (by walk_at "lk") (by walk_at "lk") (by walk_at "lk"))
theorem fn_keqv {l : List (List Nat × List Nat)} (hp : ∀ p ∈ l, KvOk p) (hl : l.length ≤ 100000) : Fn g (k + 1) 94 [.lst (l.map eltD)] (.sd ((l.foldl kqPut []).map fun p => (S p.1, strD p.2))) := by
  refine Fn.of1 (x := "l") (h94 g.w) (fun _ => by kernel_rfl) (.inl (by kernel_rfl)) ?_
  refine Ex.newM EvF.sd ?_
  refine Ex.for1 (ItE.of (d := .lst (l.map eltD)) (by walk_at "nm") It.lst) ?_
  refine keqv_loop l [] hp (by simp; omega) ?_
  refine Ex.freeze (x := "parsed") (by walk_at "lk") ?_
  refine Ex.ret (by walk_at "nm") ?_
  rfl
end
section
variable {g : Gw} {k : Nat} {sc : Scope} {σ σ' : Sto}

theorem Stt.earlier {env : Env} {s₀ s₁ s : Shared} {X₀ : Addr → Prop} {tv : List Value} {td : List D} (S : Stt g env s₁ X₀ [] tv td σ s) (q : Kp g s₀ s₁) : Stt g env s₀ X₀ [] tv td σ s := by
  obtain ⟨X, S⟩ := S
  refine ⟨X, { wd := S.wd, ext := q.ext.trans S.ext, sub := S.sub, new := fun a xa => (S.new a xa).imp id fun h => q.none_of h, fl := q.none_of S.fl, fc := fun n c hc => q.none_of (S.fc n c hc), fm := fun x d a hx ha => ⟨q.none_of (S.fm x d a hx ha).1, (S.fm x d a hx ha).2⟩, pr := S.pr, tm := S.tm, F := S.F }⟩

mutual
theorem Rep.avoid {X : Addr → Prop} {h : Heap} {dx : Addr} {o' : Obj} (hdx : h.get? dx = some o') (h1 : o'.cls ≠ .type "tuple") (h2 : o'.cls ≠ .type "list") : ∀ {v : Value} {d : D} {n : Nat}, Rep g X h v d → d.ok n = true → Rep g (fun a => X a ∨ a = dx) h v d
  | _, _, _, .none, _ => .none
  | _, _, _, .bool b, _ => .bool b
  | _, _, _, .int i t, _ => .int i t
  | _, _, _, .str x t, _ => .str x t
  | _, _, 0, .tup _ _ _ _ _, hk => by simp [D.ok] at hk
  | _, _, 0, .lst _ _ _ _ _, hk => by simp [D.ok] at hk
  | _, _, n + 1, .tup a b c e r, hk => by
    have q := Reps.avoid hdx h1 h2 r (n := n) (by simpa [D.ok] using hk)
    exact .tup (fun z => z.elim a fun z => h1 (by rw [z, hdx] at b; cases b; exact c)) b c e q
  | _, _, n + 1, .lst a b c e r, hk => by
    have q := Reps.avoid hdx h1 h2 r (n := n) (by simpa [D.ok] using hk)
    exact .lst (fun z => z.elim a fun z => h2 (by rw [z, hdx] at b; cases b; exact c)) b c e q
  | _, _, n, .sd .., hk => by cases n <;> simp [D.ok] at hk
  | _, _, n, .idd .., hk => by cases n <;> simp [D.ok] at hk
  | _, _, n, .inst .., hk => by cases n <;> simp [D.ok] at hk
  | _, _, n, .rng .., hk => by cases n <;> simp [D.ok] at hk
  | _, _, n, .obj .., hk => by cases n <;> simp [D.ok] at hk
theorem Reps.avoid {X : Addr → Prop} {h : Heap} {dx : Addr} {o' : Obj} (hdx : h.get? dx = some o') (h1 : o'.cls ≠ .type "tuple") (h2 : o'.cls ≠ .type "list") : ∀ {vs : List Value} {ds : List D} {n : Nat}, Reps g X h vs ds → D.oks n ds = true → Reps g (fun a => X a ∨ a = dx) h vs ds
  | _, _, _, .nil, _ => .nil
  | _, _, n, .cons a r, hk => by
    rw [D.oks, Bool.and_eq_true] at hk
    exact .cons (Rep.avoid hdx h1 h2 a hk.1) (Reps.avoid hdx h1 h2 r hk.2)
end

theorem putL_len' (name : Str) (hsh : Int) (key v : Value) : ∀ es : List DictEntry, (PySem.W.putL name hsh key v es).length ≤ es.length + 1
  | [] => by simp [PySem.W.putL]
  | e :: r => by
    have := putL_len' name hsh key v r
    unfold PySem.W.putL
    split <;> simp
    omega
set_option tactic.hygienic true in
theorem osa_raw {A : Around} {R : Result → Shared → Prop} {s : Shared} {x dx : Addr} {es : List DictEntry} {n : Nat} {name : Str} {tk : Tok} {v : Value} (X : (KK g.w).In s.heap) (hx : s.heap.get? x = some (instObj 76 dx)) (hdx : s.heap.get? dx = some (dictOf es n)) (hz : es.length ≤ 100)
    (hl : (lookIn name (dictOf es n)).isSome = true)
    (h : ∀ h', Heap.SameBut dx s.heap h' → h'.get? dx = some (dictOf (PySem.W.putL name (PyData.keyHash g.w.params name) (.str name s.toks) v es) (putN name es n)) → R (.ok (.ret .none)) { s with heap := h', toks := s.toks + 1 })
    (hp : plainOver (KK g.w) 76 = true) (ht : takerIn (KK g.w) 76 name = some Option.none) (hh : (clsIn (KK g.w) 76).any (·.hasDict) = true) :
    codeAny g.M A (.call (.builtin "object.__setattr__") ⟨[.ref x, .str name tk, v], []⟩) R s := by
  have I : InstAt s.heap x (instObj 76 dx) 76 (some (dictOf es n)) := ⟨hx, rfl, rfl, hdx⟩
  refine osa_open X I hp ht fun b => ?_
  (refine ex_1_2 (any_some hh) fun cd hc hd' => ?_)
  refine wpAny_bind (wpAny_pure (wpAny_bind (wpAny_bind (wpAny_loadPart hx (wpAny_bind ((looks_clsIn X hc).here ?_))))))
  rw [hd']
  refine wpAny_pure (a := some dx) (wpAny_bind (wpAny_pure (wpAny_bind ?_)))
  unfold nsSet
  refine wpAny_bind (wpAny_bind (wpAny_askSetting (wpAny_pure (wpAny_bind (wpAny_mkText (wpAny_bind (wpAny_loadPart hdx ?_)))))))
  have c : (!es.toArray.any (·.key.isStr name) && es.toArray.any (·.refKey)) = false := by
    rw [← Array.any_toList, ← Array.any_toList]
    rw [lookIn_dict] at hl
    unfold getL at hl
    split at hl
    · rename_i en he
      rw [List.any_eq_true.mpr ⟨en, List.mem_of_find?_eq_some he, List.find?_some he⟩]; rfl
    · split at hl
      · cases hl
      · rename_i z; rw [Bool.not_eq_true] at z
        show (_ && es.any (·.refKey)) = false
        rw [z, Bool.and_false]
  dsimp only
  rw [aRefKeyMayBeTheName_at, c]
  have hget : (s.heap.update dx (Obj.putName name (PyData.keyHash g.w.params name) (.str name s.toks) v)).get? dx = some (dictOf (PySem.W.putL name (PyData.keyHash g.w.params name) (.str name s.toks) v es) (putN name es n)) := by
    have := Heap.get?_update_self (h := s.heap) (Obj.putName name (PyData.keyHash g.w.params name) (.str name s.toks) v) hdx (by rw [putName_dict]; rfl)
    rw [putName_dict] at this
    exact this
  refine wpAny_updatePart hdx ?_
  refine wpAny_bind (wpAny_lookBehind hget ?_ ?_)
  · refine pastItsLine_dict ?_
    have := putL_len' name (PyData.keyHash g.w.params name) (.str name s.toks) v es
    rw [List.size_toArray, sizeLine_eq]; lia
  · exact wpAny_pure (h _ (Heap.SameBut.update ..) hget)
theorem setAttr_raw {A : Around} {E : Value → Shared → Prop} {s : Shared} {x dx : Addr} {es : List DictEntry} {n : Nat} {name : Str} {v : Value} {Q : Unit → Shared → Prop} (X : (KK g.w).In s.heap) (hx : s.heap.get? x = some (instObj 76 dx)) (hdx : s.heap.get? dx = some (dictOf es n)) (hz : es.length ≤ 100)
    (hl : (lookIn name (dictOf es n)).isSome = true)
    (h : ∀ h' tk t, Heap.SameBut dx s.heap h' → h'.get? dx = some (dictOf (PySem.W.putL name (PyData.keyHash g.w.params name) (.str name t) v es) (putN name es n)) → Q () { s with heap := h', toks := tk })
    (hs : findIn (KK g.w) (.ref 76) "__setattr__" = some (some (.builtin "object.__setattr__")) := by kernel_rfl) (hp : plainOver (KK g.w) 76 = true := by kernel_rfl) (ht : takerIn (KK g.w) 76 name = some Option.none := by kernel_rfl)
    (hh : (clsIn (KK g.w) 76).any (·.hasDict) = true := by kernel_rfl) : wpAny g.M A (setAttr (.ref x) name v) Q E s :=
  set_plain X (⟨hx, rfl, rfl, hdx⟩ : InstAt s.heap x (instObj 76 dx) 76 (some (dictOf es n))) hs (osa_raw (s := { s with toks := s.toks + 1 }) X hx hdx hz hl (fun h' a b => h h' _ _ a b) hp ht hh)

noncomputable def clsStr (K : Frag) (name : Str) (l : List Nat) : Bool := match findCls K (.ref 76) (.type "type") name with
  | some (.val (.str x _)) => x == S l
  | _ => false
set_option tactic.hygienic true in
theorem clsStr_of {K : Frag} {name : Str} {l : List Nat} (h : clsStr K name l = true) : ∃ t, findCls K (.ref 76) (.type "type") name = some (.val (.str (S l) t)) := by
  unfold clsStr at h
  split at h
  · rename_i x t e
    rw [beq_iff_eq] at h; subst h
    exact ⟨t, e⟩
  · cases h
theorem Ev.clsAt {name : Str} {np pos : Pos} (l : List Nat) (hc : clsStr (KK g.w) name l = true := by kernel_rfl) (hr : readsIn (KK g.w) 76 (.type "type") = true := by kernel_rfl) (e : nsIn (KK g.w) mainGlobals "Whitespace" = some (some (.ref 76)) := by kernel_rfl)
    (hx : sc.names.lookup ("Whitespace" : Str) = some .globalImplicit := by kernel_rfl) : Ev g sc k σ (.Attribute (.Name "Whitespace" np) name pos) (.str (S l)) := by
  refine ⟨?_⟩
  intro env A X s E hE hR hw F
  obtain ⟨t, ht⟩ := clsStr_of hc
  refine Attribute_Name_ (glob_wp hE hw hx e ?_ (by kernel_rfl))
  exact cls_value hw.kin hr ht rfl ⟨.toks hw, .str _ _⟩

theorem bind_wp {env : Env} {A : Around} {X : Addr → Prop} {s₀ s : Shared} {X₀ : Addr → Prop} {pr : List (Addr × Obj)} {tv : List Value} {td : List D} {E : Value → Shared → Prop} {x : Str} {v : Value} {d : D} {Q : Unit → Shared → Prop} (hE : EnvOk sc env) (hx : sc.names.lookup x = some .local)
    (S : StX g env s₀ X₀ pr tv td X σ s) (r : Rep g X s.heap v d) (h : ∀ s', StX g env s₀ X₀ pr tv td X ((x, .v d) :: σ) s' → (∀ a o, ¬ X a → s.heap.get? a = some o → s'.heap.get? a = some o) → Q () s') : wpAny g.M A (bindName env x v) Q E s := by
  refine wpAny_bindName (store_wp S.wd S.F (hE.scp ▸ hE.kind) (.inl (by unfold Env.kindOf; rw [hE.scp]; exact hx)) (b := .v d) r (fun d h => by cases h) fun s' w' F' hk hat _ => ?_)
  refine h s' (S.put w' F' (fun b o hp e => hk b o (Place.not_of hp).1 ((Place.not_of hp).2 x) e) fun y e hy => ?_) fun a o na e => hk a o (fun z => na (z ▸ S.F.loc)) (fun z => na (S.F.cel x a z)) e
  rcases lookup_cons hy with ⟨_, hb⟩ | ⟨hne, hy⟩
  · cases hb
  · refine ⟨hy, fun a ha => ?_⟩
    (refine ex_1_2 (S.F.var y _ hy) fun u au _ => ?_)
    have := (hat y u hne au).fn ha
    subst this
    exact au
theorem Ex.swap2 {x y : Str} {elts : List Expr} {x1} {pt pos : Pos} {value : Expr} {rest : List Stmt} {Q : Fl → Prop} {d e : D} (h : Ev g sc k σ value (.tup [d, e])) (hq : Ex g sc k ((x, .v d) :: (y, .v e) :: σ) rest Q)
    (hs : ∀ env, EnvOk sc env → swapsWithSole [.Tuple elts x1 pt] value pos.line env = pure false) (hw : ∀ env, EnvOk sc env → swappedStores [.Tuple elts x1 pt] value env = pure (some [x, y]))
    (hx : sc.names.lookup x = some .local := by kernel_rfl) (hy : sc.names.lookup y = some .local := by kernel_rfl) : Ex g sc k σ (.Assign [.Tuple elts x1 pt] value pos :: rest) Q := by
  refine Ex.go ⟨?_⟩
  intro env A s₀ X₀ pr tv td s E hE hR hX S
  obtain ⟨X, S⟩ := S
  refine Assign_Tuple_swapped (names := [x, y]) (wpAny_mono (h.run env A X s E hE hR S.wd S.F) (fun v s₁ hv => ?_) fun _ _ e => e) (hs env hE) (hw env hE)
  obtain ⟨q, r⟩ := hv
  have inv := Rep.tup_inv r
  try clear r
  (refine ex_4_6 (inv) fun a o vs n eqv na ho hc hd rs => ?_)
  (first | subst eqv | cases eqv)
  focus
    have hl : vs.toArray.size = 2 := by rw [List.size_toArray, rs.length]; rfl
    have key := wpAny_unpackItems_tuple (prog := pg) (w := g.w) (s := s₁) (A := A) (E := E) (t := a) (items := vs.toArray) (Q := fun items s₂ => wpAny g.M A (assignInOrder ([x, y].reverse.map fun n => bindName env n) items.reverse) (fun _ => Post g env s₀ X₀ pr tv td (Kq g sc k rest Q) .next) E s₂) hR.hd ⟨o, ho, hc, n, hd⟩ ?_
    · rw [hl] at key
      exact key
    intro h' hx'
    have hk := ext_of_size hx'
    have q' := Kp.keeps (t := s₁.toks) q.wd hk
    have S₁ := (S.kp q).kp q'
    have rs' := rs.ext S.F.pl q'.ext
    have inv := Reps.cons_inv rs'
    try clear rs'
    (refine ex_2_3 (inv) fun v1 _ eqv r1 rs2 => ?_)
    (first | subst eqv | cases eqv)
    focus
      have inv := Reps.cons_inv rs2
      try clear rs2
      (refine ex_2_3 (inv) fun v2 _ eqv r2 rs3 => ?_)
      (first | subst eqv | cases eqv)
      focus
        (first | obtain ⟨_, rfl⟩ := Rep.int_inv rs3 | obtain ⟨_, rfl⟩ := Rep.str_inv rs3 | obtain rfl := Rep.bool_inv rs3 | obtain rfl := Reps.nil_inv rs3 | obtain rfl := Rep.none_inv rs3)
        show wpAny g.M A (assignInOrder [bindName env y, bindName env x] [v2, v1]) _ E _
        refine wpAny_assignInOrder_more (bind_wp hE hy S₁ r2 fun s₂ S₂ k₂ => ?_)
        refine wpAny_assignInOrder_more (bind_wp hE hx S₂ (r1.mono (fun _ _ _ x => x) k₂) fun s₃ S₃ _ => ?_)
        exact wpAny_assignInOrder_none ⟨_, hq, X, S₃⟩
end
section
variable {g : Gw} {k : Nat} {sc : Scope} {σ σ' : Sto}

structure Wg where
  count : List Int
  b : Nat
  n : Int
  nt : Int
noncomputable def bump (count : List Int) (b : Nat) : List Int :=
  let c := if count.length ≤ b then count ++ List.replicate (b - count.length + 1) 0 else count
  c.set b (c.getD b 0 + 1)
noncomputable def wgGo : List Nat → Wg → Wg
  | [], w => w
  | c :: l, w => bif c == 32 then wgGo l ⟨w.count, w.b + 1, w.n + 1, w.nt⟩ else bif c == 9 then wgGo l ⟨bump w.count w.b, 0, w.n + 1, w.nt + 1⟩ else w
noncomputable def bodyI : List Stmt := match stC 1 with
  | [_, _, _, _, .For _ _ body _ _, _, _, _, _] => body
  | _ => []
noncomputable abbrev wgS (w : Wg) (sb : B) : Sto := [("nt", .v (.int w.nt)), ("n", .v (.int w.n)), ("b", .v (.int w.b)), ("count", .m (.lst (w.count.map .int))), ("S", .v (.str (S [32]))), ("T", .v (.str (S [9]))), ("self", sb)]
theorem bump_len (count : List Int) (b : Nat) : (bump count b).length ≤ max count.length (b + 1) := by
  unfold bump
  simp only [List.length_set]
  split
  · simp; lia
  · lia
noncomputable def okF (w : Wg) (sb : B) : Fl → Prop
  | .next σ' => Sub (wgS w sb) σ'
  | _ => False
theorem cmp_ch {c d : Nat} : Cmp g k .Eq (.str (ch c)) (.str (S [d])) (c == d) := Cmp.eqC
theorem init_loop {sb : B} : ∀ (l : List Nat) (w : Wg), w.count.length + w.b + l.length ≤ 100000 →
    Lp g (scC 1) k (bnd1 "ch") bodyI (okF (wgGo l w) sb) (l.map chD) (wgS w sb)
  | [], w, _ => fun _ _ h => h
  | c :: l, w, hl => by
    obtain ⟨count, b, n, nt⟩ := w
    simp only [List.length_cons] at hl
    have sub : ∀ {w : Wg} {σ' : Sto}, w.count.length + w.b + l.length ≤ 100000 → SubL σ' (wgS w sb) → Lp g (scC 1) k (bnd1 "ch") bodyI (okF (wgGo l w) sb) (l.map chD) σ' := fun hw hs =>
      Lp.sub (bnd := bnd1 "ch") (fun d _ _ hs => Sub.cons (x := "ch") (b := .v d) hs) (fun σ σ' hs h x b hb => hs x b (h x b hb)) (init_loop l _ hw) (Sub.of hs)
    refine Ex.if_ (Tr.cmp (by walk_at "nm") (by walk_at "nm") cmp_ch) ?_
    unfold wgGo
    cases c1 : (c == 32) with
    | true =>
      refine Ex.assign (Ev.bin (by walk_at "nm") Ev.int Bin.addI) ?_
      refine Ex.assign (d := .int ((b + 1 : Nat) : Int)) (Ev.bin (by walk_at "nm") Ev.int Bin.addI) ?_
      exact Ex.nil (Ex.nil (sub (w := ⟨count, b + 1, n + 1, nt⟩) (by simp only; omega) (by walk_at "sub")))
    | false =>
      refine Ex.if_ (Tr.cmp (by walk_at "nm") (by walk_at "nm") cmp_ch) ?_
      cases c2 : (c == 9) with
      | false =>
        refine Ex.brk ?_
        show Sub (wgS ⟨count, b, n, nt⟩ sb) _
        exact Sub.of (by walk_at "sub")
      | true =>
        have hcl : (count.map D.int).length = count.length := List.length_map ..
        have hbl := bump_len count b
        refine Ex.assign (Ev.bin (by walk_at "nm") Ev.int Bin.addI) ?_
        refine Ex.assign (Ev.bin (by walk_at "nm") Ev.int Bin.addI) ?_
        refine Ex.if_ (b := decide ((count.length : Int) ≤ b)) (Tr.thaw (x := "count") (d := .lst (count.map .int)) (by walk_at "lk") (Tr.cmp (by walk_at "nm") (Ev.b1 (.builtin "len") (by walk_at "nm") (Cl.lenL' hcl (Nat.le_trans (by omega : _ ≤ 100000) (by decide)))) Cmp.geI)) ?_
        have fin : ∀ {σ' : Sto} (Q : Fl → Prop) (c' : List Int), c' = (if count.length ≤ b then count ++ List.replicate (b - count.length + 1) 0 else count) → Lk σ' "nt" (.v (.int (nt + 1))) → Lk σ' "n" (.v (.int (n + 1))) → Lk σ' "b" (.v (.int b)) → Lk σ' "count" (.m (.lst (c'.map .int))) → Lk σ' "S" (.v (.str (S [32]))) → Lk σ' "T" (.v (.str (S [9]))) → Lk σ' "self" sb →
            (∀ σ'', SubL σ'' (wgS ⟨bump count b, 0, n + 1, nt + 1⟩ sb) → Q (.next σ'')) →
            Ex g (scC 1) k σ' (match bodyI with | [.If _ _ [.If _ [_, _, _, s1, s2] _ _] _] => [s1, s2] | _ => []) Q := by
          intro σ' Q c' hc' a1 a2 a3 a4 a5 a6 a7 hQ
          have hbc : b < c'.length := by rw [hc']; split <;> (try simp) <;> omega
          have hcz : c'.length ≤ 200000 := by rw [hc']; split <;> (try simp) <;> omega
          refine Ex.setL (ds := c'.map .int) (i := (b : Int)) (d := .int (c'.getD b 0 + 1)) a4 (Ev.thaw (x := "count") a4 (Ev.bin (Ev.sub (Ev.nm Lk.h) (Ev.nm (Lk.n (by kernel_rfl) a3)) (Itm.lst (j := b) (seqIndex_nat (by rw [List.length_map]; exact hbc)) (getI hbc) (by rw [List.length_map]; exact Nat.le_trans hcz (by decide)))) Ev.int Bin.addI) rfl) (Ev.nm a3) (by omega) (by rw [List.length_map]; omega) (by rw [List.length_map]; omega) ?_
          refine Ex.assign Ev.int (Ex.nil (hQ _ ?_))
          have e : (c'.map D.int).set ((b : Int)).toNat (.int (c'.getD b 0 + 1)) = (bump count b).map .int := by
            unfold bump
            simp only
            rw [← hc', List.map_set, Int.toNat_natCast]
          rw [e]
          exact SubL.cons (Lk.n (by kernel_rfl) (Lk.n (by kernel_rfl) a1)) (SubL.cons (Lk.n (by kernel_rfl) (Lk.n (by kernel_rfl) a2)) (SubL.cons Lk.h (SubL.cons (Lk.n (by kernel_rfl) Lk.h) (SubL.cons (Lk.n (by kernel_rfl) (Lk.n (by kernel_rfl) a5)) (SubL.cons (Lk.n (by kernel_rfl) (Lk.n (by kernel_rfl) a6)) (SubL.cons (Lk.n (by kernel_rfl) (Lk.n (by kernel_rfl) a7)) SubL.nil))))))
        have fin2 : ∀ σ'', SubL σ'' (wgS ⟨bump count b, 0, n + 1, nt + 1⟩ sb) → Lp g (scC 1) k (bnd1 "ch") bodyI (okF (wgGo l ⟨bump count b, 0, n + 1, nt + 1⟩) sb) (l.map chD) σ'' := fun σ'' hs => sub (w := ⟨bump count b, 0, n + 1, nt + 1⟩) (by simp only; omega) hs
        by_cases hlb : count.length ≤ b
        · rw [decide_eq_true (by omega : (count.length : Int) ≤ b)]
          refine Ex.newM (d := .lst ((count ++ List.replicate (b - count.length + 1) 0).map .int)) (EvF.cast (EvF.addM (xs := count.map .int) (ys := List.replicate (((b - count.length + 1 : Nat) : Int)).toNat (.int 0)) (by walk_at "lk") (Ev.ofF (EvF.mul (n := ((b - count.length + 1 : Nat) : Int)) (EvF.list (Evs.cons Ev.int Evs.nil)) (Ev.cast (Ev.bin (Ev.bin (by walk_at "nm") (Ev.thaw (x := "count") (d := .lst (count.map .int)) (by walk_at "lk") (Ev.b1 (.builtin "len") (by walk_at "nm") (Cl.lenL' hcl (Nat.le_trans (by omega : _ ≤ 100000) (by decide)))) rfl) Bin.subI) Ev.int Bin.addI) (by show D.int ((b : Int) - count.length + 1) = _; congr 1; omega)) (by omega) (by omega))) ?_) (by simp)) ?_
          · rw [List.length_map, List.length_replicate]; exact Nat.le_trans (by omega : _ ≤ 200000) (by decide)
          refine Ex.nil (fin _ _ (by rw [if_pos hlb]) (by walk_at "lk") (by walk_at "lk") (by walk_at "lk") (by walk_at "lk") (by walk_at "lk") (by walk_at "lk") (by walk_at "lk") fun σ'' hs => Ex.nil (Ex.nil (fin2 σ'' hs)))
        · rw [decide_eq_false (by omega : ¬ (count.length : Int) ≤ b)]
          refine Ex.nil (fin _ count (by rw [if_neg hlb]) (by walk_at "lk") (by walk_at "lk") (by walk_at "lk") (by walk_at "lk") (by walk_at "lk") (by walk_at "lk") (by walk_at "lk") fun σ'' hs => Ex.nil (Ex.nil (fin2 σ'' hs)))
end
section
variable {g : Gw} {k : Nat} {sc : Scope} {σ σ' : Sto}

theorem execs_append (a b : List Stmt) (env : Env) : execs (a ++ b) env = (do match ← execs a env with | .next => execs b env | f => pure f) := by
  induction a with
  | nil => rfl
  | cons st a ih =>
    rw [List.cons_append, execs_cons, execs_cons, ih]
    simp only [bind_assoc]
    congr 1
    funext f
    cases f <;> rfl
theorem wp_append {M : Model} {A : Around} {E : Value → Shared → Prop} {s : Shared} {env : Env} {a b : List Stmt} {Q : Flow → Shared → Prop} (h : wpAny M A (execs a env) (fun f s' => match f with | .next => wpAny M A (execs b env) Q E s' | f => Q f s') E s) : wpAny M A (execs (a ++ b) env) Q E s := by
  rw [execs_append]
  refine wpAny_bind (wpAny_mono h (fun f s' h' => ?_) fun _ _ e => e)
  cases f <;> first | exact h' | exact wpAny_pure h'
theorem Lp.mono {bnd : D → Sto → Sto} {body : List Stmt} {Q Q' : Fl → Prop} (hn : ∀ σ, Q (.next σ) → Q' (.next σ)) (hr : ∀ d, Q (.ret d) → Q' (.ret d)) : ∀ {l : List D} {σ : Sto}, Lp g sc k bnd body Q l σ → Lp g sc k bnd body Q' l σ
  | [], _, h => hn _ h
  | _ :: _, _, h => Ex.mono h fun f hf => by
    cases f with
    | next σ => exact Lp.mono hn hr (l := _) hf
    | cont σ => exact Lp.mono hn hr (l := _) hf
    | brk σ => exact hn _ hf
    | ret d => exact hr _ hf

noncomputable def SafeB (dx : Addr) : B → Prop
  | .v d => (d.flat = true ∨ d.ok 9 = true) ∨ d = .obj (instObj 76 dx)
  | .m (.lst ds) => D.oks 9 ds = true
  | .m _ => False
theorem BRep.addDx {env : Env} {X : Addr → Prop} {h : Heap} {v : Value} {b : B} {dx : Addr} {o' : Obj} (hdx : h.get? dx = some o') (h1 : o'.cls = .type "dict") (r : BRep g env X h v b) (safe : SafeB dx b) : BRep g env (fun a => X a ∨ a = dx) h v b := by
  have n1 : o'.cls ≠ .type "tuple" := by rw [h1]; decide
  have n2 : o'.cls ≠ .type "list" := by rw [h1]; decide
  cases b with
  | v d =>
    rcases safe with (fl | ok) | rfl
    · exact Rep.flat r fl
    · exact Rep.avoid hdx n1 n2 r ok
    · have r' : Rep g X h v (.obj (instObj 76 dx)) := r
      have inv := Rep.obj_inv r'
      try clear r'
      (refine ex_1_3 (inv) fun _ eqv na ho => ?_)
      (first | subst eqv | cases eqv)
      exact Rep.obj (fun z => z.elim na fun z => by subst z; rw [hdx] at ho; cases ho; cases h1) ho
  | m d =>
    cases d with
    | lst ds => (refine ex_1_6 (r) fun a e xa m1 m2 m3 zq99 => ?_; refine ex_1_2 (zq99) fun vs z q => ?_); exact ⟨a, e, .inl xa, m1, m2, m3, vs, z, q.avoid hdx n1 n2 safe⟩
    | _ => exact safe.elim
theorem StX.addPr {env : Env} {s₀ s : Shared} {X₀ X : Addr → Prop} {tv tv' : List Value} {td td' : List D} {dx : Addr} {o' : Obj} (S : StX g env s₀ X₀ [] tv td X σ s) (hdx : s.heap.get? dx = some o') (h1 : o'.cls = .type "dict") (ndx : ¬ X dx) (h0 : s₀.heap.get? dx = none)
    (safe : ∀ x b, σ.lookup x = some b → SafeB dx b) (htm : Reps g (fun a => X a ∨ a = dx) s.heap tv' td') : StX g env s₀ X₀ [(dx, o')] tv' td' (fun a => X a ∨ a = dx) σ s where
  wd := S.wd
  ext := S.ext
  sub := fun a x => .inl (S.sub a x)
  new := fun a x => x.elim (S.new a) fun z => .inr (z ▸ h0)
  fl := S.fl
  fc := S.fc
  fm := fun x d a hx ha => ⟨(S.fm x d a hx ha).1, fun p hp => by
    rw [List.mem_singleton] at hp; subst hp
    (refine ex_1_2 (S.F.var x _ hx) fun v av r => ?_)
    have := av.fn ha; subst this
    (refine ex_1_3 (r) fun a' e xa _ => ?_)
    cases e
    exact fun z => ndx (by have z' : dx = _ := z; rw [z']; exact xa)⟩
  pr := fun p hp => by
    rw [List.mem_singleton] at hp; subst hp
    exact ⟨hdx, .inr rfl, ⟨fun z => ndx (by show X dx; rw [show dx = PF from z]; exact S.F.pf), fun z => ndx (by show X dx; rw [show dx = g.lf from z]; exact S.F.lf)⟩, fun pl => ndx (S.F.placeX pl)⟩
  tm := htm
  F := { pf := .inl S.F.pf, lf := .inl S.F.lf, loc := .inl S.F.loc, cel := fun n c hc => .inl (S.F.cel n c hc), al := fun a xa => xa.elim (S.F.al a) fun z => ⟨o', z ▸ hdx⟩, nPF := S.F.nPF, hiL := S.F.hiL, cPF := S.F.cPF, cinj := S.F.cinj, ns := S.F.ns,
         var := fun x b hb => let ⟨v, a, r⟩ := S.F.var x b hb; ⟨v, a, r.addDx hdx h1 (safe x b hb)⟩, sole := S.F.sole }

theorem keys_new {name : Str} : ∀ {es : List DictEntry} {names : List Str}, es.map (fun e => keyStr e.key) = names.map some → name ∉ names →
    (∀ h key v, PySem.W.putL name h key v es = es ++ [⟨h, key, v⟩]) ∧ PySem.W.getL name es = some none ∧ es.any (·.refKey) = false
  | [], [], _, _ => ⟨fun _ _ _ => rfl, rfl, rfl⟩
  | [], _ :: _, h, _ => by simp at h
  | _ :: _, [], h, _ => by simp at h
  | e :: es, m :: names, h, hn => by
    simp only [List.map_cons, List.cons.injEq] at h
    obtain ⟨h1, h2⟩ := h
    (refine ex_0_3 (keys_new h2 (fun z => hn (.tail _ z))) fun a1 a2 a3 => ?_)
    obtain ⟨hsh, key, val⟩ := e
    have hne : m ≠ name := fun z => hn (z ▸ .head _)
    cases key with
    | str x t =>
      simp only [keyStr, Option.some.injEq] at h1
      subst h1
      have hs : (Value.str x t).isStr name = false := by unfold Value.isStr; simpa using hne
      refine ⟨fun hh key v => ?_, ?_, ?_⟩
      · unfold PySem.W.putL
        simp only [hs, Bool.false_eq_true, if_false, List.cons_append, a1]
      · unfold PySem.W.getL at a2 ⊢
        rw [List.find?_cons, List.any_cons]
        simp only [hs]
        exact a2
      · rw [List.any_cons, a3]; rfl
    | _ => simp [keyStr] at h1

theorem keys_more {es : List DictEntry} {names : List Str} {name : Str} {h : Int} {t : Tok} {v : Value} (e : es.map (fun e => keyStr e.key) = names.map some) : (es ++ [(⟨h, .str name t, v⟩ : DictEntry)]).map (fun e => keyStr e.key) = (names ++ [name]).map some := by
  rw [List.map_append, e, List.map_append]; rfl

theorem pw_one {pw : List (Addr × Obj)} {dx : Addr} (e : pw.map (·.1) = [dx]) : ∃ o, pw = [(dx, o)] := by
  cases pw with
  | nil => cases e
  | cons p r =>
    obtain ⟨a, b⟩ := p
    cases r with
    | nil => simp only [List.map_cons, List.map_nil, List.cons.injEq, and_true] at e; subst e; exact ⟨b, rfl⟩
    | cons _ _ => simp at e
theorem attr_store {env : Env} {A : Around} {s₀ s : Shared} {X₀ X : Addr → Prop} {E : Value → Shared → Prop} {x dx : Addr} {es : List DictEntry} {n : Nat} {ds : List D} {names : List Str} {name : Str} {d : D} {value : Expr} {p1 p2 pos : Pos} {Q : Flow → Shared → Prop}
    (hE : EnvOk sc env) (hR : Room g k A) (S : StX g env s₀ X₀ [(dx, dictOf es n)] (.ref x :: es.map (·.val)) (.obj (instObj 76 dx) :: ds) X σ s) (h0 : s₀.heap.get? dx = none) (hg : g.s₁.heap.get? dx = none)
    (hself : Lk σ "self" (.v (.obj (instObj 76 dx)))) (h : Ev g sc k σ value d) (hk : es.map (fun e => keyStr e.key) = names.map some) (hn : name ∉ names) (hz : es.length ≤ 100)
    (hq : ∀ es' n' s', es'.map (fun e => keyStr e.key) = (names ++ [name]).map some → es'.length = es.length + 1 → StX g env s₀ X₀ [(dx, dictOf es' n')] (.ref x :: es'.map (·.val)) (.obj (instObj 76 dx) :: (ds ++ [d])) X σ s' → Q .next s')
    (hs : swapsWith value (some (.Attribute (.Name "self" p1) name p2)) pos.line env = pure false := by rfl) (ht : takerIn (KK g.w) 76 name = some Option.none := by kernel_rfl) :
    wpAny g.M A (exec (.Assign [.Attribute (.Name "self" p1) name p2] value pos) env) Q E s := by
  refine plainObj_wpAny_Assign_Attribute (wpAny_mono (h.run env A X s E hE hR S.wd S.F) (fun v s₁ hv => ?_) fun _ _ e => e) hs
  obtain ⟨q, r⟩ := hv
  have S₁ := S.kp q
  (refine ex_1_2 (S₁.F.var "self" _ hself) fun u au ru => ?_)
  refine name_at hE au ?_ (by kernel_rfl) (by kernel_rfl)
  have ru' : Rep g X s₁.heap u (.obj (instObj 76 dx)) := ru
  have inv := Rep.obj_inv ru'
  try clear ru'
  (refine ex_1_3 (inv) fun a eqv na ho => ?_)
  (first | subst eqv | cases eqv)
  focus
    (refine ex_0_3 (S₁.pr (dx, dictOf es n) (.head _)) fun hd hXd _ => ?_)
    (refine ex_0_3 (keys_new hk hn) fun kput kget _ => ?_)
    refine setAttr_raw S₁.wd.kin ho hd hz (by rw [lookIn_dict, kget]; rfl) (fun h' tk t hs' hdx' => ?_) (ht := ht)
    rw [kput] at hdx'
    obtain ⟨pw', e1, S₂⟩ := StX.turn (pw := [(dx, dictOf es n)]) (pr := []) (s' := { s₁ with heap := h', toks := tk }) S₁ (S₁.wd.same ⟨hg, ((S₁.pr (dx, dictOf es n) (.head _)).2.2.1).2⟩ hs') (fun b o hb e => (hs'.2 b fun z => hb (by rw [z]; exact .head _)).trans e) (fun b hb => by
      rw [List.map_cons, List.map_nil, List.mem_singleton] at hb; subst hb; exact ⟨_, hdx'⟩) (fun p hp => nomatch hp) (fun b hb => by
      rw [List.map_cons, List.map_nil, List.mem_singleton] at hb; subst hb; exact h0)
    obtain ⟨o', rfl⟩ := pw_one (dx := dx) e1
    have hc : dictOf (es ++ [⟨PyData.keyHash g.w.params name, .str name t, v⟩]) (putN name es n) = o' := Option.some.inj (hdx'.symm.trans (S₂.pr (dx, o') (.head _)).1)
    subst hc
    rw [List.append_nil] at S₂
    refine hq (es ++ [⟨PyData.keyHash g.w.params name, .str name t, v⟩]) (putN name es n) _ (keys_more hk) (by simp) { S₂ with tm := ?_ }
    rw [List.map_append, ← List.cons_append, ← List.cons_append]
    exact S₂.tm.append (.one (r.mono (fun _ _ _ x => x) fun b o nb e => (hs'.2 b fun z => nb (z ▸ hXd)).trans e))
end
section
variable {g : Gw} {k : Nat} {sc : Scope} {σ σ' : Sto}

theorem h31 (w : World) : FH w 31 (stC 1) (scC 1) := by walk_at "fh"
noncomputable def midI : List Stmt := ((stC 1).drop 1).take 3
noncomputable def forI : Stmt := ((stC 1)[4]?).getD (.Pass default)
noncomputable def endI : List Stmt := (stC 1).drop 5
noncomputable def rawI : Stmt := (stC 1).headD (.Pass default)
theorem stC1_eq : stC 1 = rawI :: (midI ++ forI :: endI) := by kernel_rfl

noncomputable def wg0 : Wg := ⟨[], 0, 0, 0⟩
noncomputable def wsOf (l : List Nat) : Ws := ⟨S l, (wgGo l wg0).n, (wgGo l wg0).nt, (wgGo l wg0).count, (wgGo l wg0).b⟩
noncomputable def okM (sb : B) : Fl → Prop
  | .next σ' => SubL σ' (wgS wg0 sb)
  | _ => False
theorem init_mid {sb : B} {ws : B} : Ex g (scC 1) k [("self", sb), ("ws", ws)] midI (okM sb) := by
  refine Ex.swap2 (x := "S") (y := "T") (d := .str (S [32])) (e := .str (S [9])) (Ev.tup (Evs.cons (Ev.clsAt [32]) (Evs.cons (Ev.clsAt [9]) Evs.nil))) ?_ (fun _ _ => rfl) (fun env hE => ?_)
  rotate_left
  · have hk : ∀ y, env.kindOf y = (scC 1).names.lookup y := fun y => by unfold Env.kindOf; rw [hE.scp]
    have hb : env.blockKind = .function := by unfold Env.blockKind; rw [hE.scp]; kernel_rfl
    have k1 : env.kindOf ("S" : Str) = some .local := (hk _).trans (by kernel_rfl)
    have k2 : env.kindOf ("T" : Str) = some .local := (hk _).trans (by kernel_rfl)
    unfold swappedStores
    rw [hb]
    simp only [List.filterMap_cons, List.filterMap_nil, k1, k2]
    rfl
  refine Ex.newM (d := .lst []) (EvF.list Evs.nil) ?_
  refine Ex.three (d := .int 0) Ev.int (Ex.nil ?_)
  · have e : ∀ {σ' : Sto} {x y : Str} {b c : B}, (x == y) = false → Lk σ' x b → Lk ((y, c) :: σ') x b := fun h q => Lk.n h q
    exact SubL.cons Lk.h (SubL.cons (e (by kernel_rfl) Lk.h) (SubL.cons (e (by kernel_rfl) (e (by kernel_rfl) Lk.h)) (SubL.cons (e (by kernel_rfl) (e (by kernel_rfl) (e (by kernel_rfl) Lk.h))) (SubL.cons (e (by kernel_rfl) (e (by kernel_rfl) (e (by kernel_rfl) (e (by kernel_rfl) Lk.h)))) (SubL.cons (e (by kernel_rfl) (e (by kernel_rfl) (e (by kernel_rfl) (e (by kernel_rfl) (e (by kernel_rfl) Lk.h))))) (SubL.cons (e (by kernel_rfl) (e (by kernel_rfl) (e (by kernel_rfl) (e (by kernel_rfl) (e (by kernel_rfl) (e (by kernel_rfl) Lk.h)))))) SubL.nil))))))
end
section
variable {g : Gw} {k : Nat} {sc : Scope} {σ σ' : Sto}

theorem StX.redesc {env : Env} {s₀ s : Shared} {X₀ X : Addr → Prop} {pr : List (Addr × Obj)} {tv : List Value} {td : List D} {x : Str} {v : Value} {d : D} (S : StX g env s₀ X₀ pr tv td X σ s) (ha : At env s.heap x v) (r : Rep g X s.heap v d) : StX g env s₀ X₀ pr tv td X ((x, .v d) :: σ) s :=
  { S with
    fm := fun y e b hy hb => by
      rcases lookup_cons hy with ⟨_, h⟩ | ⟨_, hy⟩
      · cases h
      · exact S.fm y e b hy hb
    F := { S.F with
      var := fun y b hy => by
        rcases lookup_cons hy with ⟨rfl, rfl⟩ | ⟨_, hy⟩
        · exact ⟨v, ha, r⟩
        · exact S.F.var y b hy
      sole := fun y z e f a h1 h2 h3 h4 => by
        rcases lookup_cons h1 with ⟨_, h⟩ | ⟨_, h1⟩
        · cases h
        rcases lookup_cons h2 with ⟨_, h⟩ | ⟨_, h2⟩
        · cases h
        exact S.F.sole y z e f a h1 h2 h3 h4 } }
theorem StX.sub' {env : Env} {s₀ s : Shared} {X₀ X : Addr → Prop} {pr : List (Addr × Obj)} {tv : List Value} {td : List D} (S : StX g env s₀ X₀ pr tv td X σ' s) (q : Sub σ σ') : StX g env s₀ X₀ pr tv td X σ s :=
  ⟨S.wd, S.ext, S.sub, S.new, S.fl, S.fc, fun x d a hx ha => S.fm x d a (q _ _ hx) ha, S.pr, S.tm, S.F.sub q⟩
theorem rootI : ∃ p1 p2 p3 p4, rawI = .Assign [.Attribute (.Name "self" p1) "raw" p2] (.Name "ws" p3) p4 := ⟨_, _, _, _, rfl⟩
theorem instRep {X : Addr → Prop} {h : Heap} {x dx : Addr} {es : List DictEntry} {n : Nat} {names : List Str} {ds : List D} (nx : ¬ X x) (ndx : ¬ X dx) (hx : h.get? x = some (instObj 76 dx)) (hdx : h.get? dx = some (dictOf es n)) (hk : es.map (fun e => keyStr e.key) = names.map some) (hl : names.length = ds.length) (r : Reps g X h (es.map (·.val)) ds) :
    Rep g X h (.ref x) (.inst (names.zip ds)) := by
  refine .inst nx ndx hx hdx ?_ ?_
  · rw [hk, show (fun f : Str × D => some f.1) = some ∘ Prod.fst from rfl, ← List.map_map, List.map_fst_zip (by (exact Nat.le_of_eq ‹_›))]
  · rw [List.map_snd_zip (by lia)]; exact r
theorem Reps.flat1 {X X' : Addr → Prop} {h h' : Heap} {vs : List Value} {d : D} (r : Reps g X h vs [d]) (hd : d.flat = true) : Reps g X' h' vs [d] := by
  have inv := Reps.cons_inv r
  try clear r
  (refine ex_2_3 (inv) fun _ _ eqv a r => ?_)
  (first | subst eqv | cases eqv)
  (first | obtain ⟨_, rfl⟩ := Rep.int_inv r | obtain ⟨_, rfl⟩ := Rep.str_inv r | obtain rfl := Rep.bool_inv r | obtain rfl := Reps.nil_inv r | obtain rfl := Rep.none_inv r); exact .one (a.flat hd)
theorem wg_len : ∀ (l : List Nat) (w : Wg), (wgGo l w).count.length + (wgGo l w).b ≤ w.count.length + w.b + l.length
  | [], w => by simp [wgGo]
  | c :: l, w => by
    unfold wgGo
    cases c == 32 with
    | true => have := wg_len l ⟨w.count, w.b + 1, w.n + 1, w.nt⟩; simp only [cond_true, List.length_cons] at this ⊢; lia
    | false =>
      cases c == 9 with
      | true => have := wg_len l ⟨bump w.count w.b, 0, w.n + 1, w.nt + 1⟩; have := bump_len w.count w.b; simp only [cond_true, cond_false, List.length_cons] at *; lia
      | false => simp
theorem forI_eq : ∃ p1 p2 p3 p4, forI = .For (.Name "ch" p1) (.Attribute (.Name "self" p2) "raw" p3) bodyI [] p4 := ⟨_, _, _, _, rfl⟩
noncomputable abbrev endS (w : Wg) (sb : B) : Sto := [("nt", .v (.int w.nt)), ("n", .v (.int w.n)), ("b", .v (.int w.b)), ("count", .v (.lst (w.count.map .int))), ("self", sb)]
noncomputable def okE (w : Wg) (sb : B) : Fl → Prop
  | .next σ' => SubL σ' (endS w sb)
  | _ => False
theorem init_run {l : List Nat} (hl : l.length ≤ 90000) (env : Env) (A : Around) (s₀ : Shared) (X₀ X : Addr → Prop) (x dx : Addr) (s : Shared) (E : Value → Shared → Prop) (hE : EnvOk (scC 1) env) (hR : Room g k A) (hX : XAl X₀ s₀.heap) (h0 : s₀.heap.get? dx = none) (h0x : s₀.heap.get? x = none) (hg : g.s₁.heap.get? dx = none)
    (ndx : ¬ X dx) (nx : ¬ X x) (hdx : s.heap.get? dx = some (dictOf [] 0)) (hx : s.heap.get? x = some (instObj 76 dx)) (S : StX g env s₀ X₀ [] [] [] X [("self", .v (.obj (instObj 76 dx))), ("ws", .v (.str (S l)))] s) :
    wpAny g.M A (execs (stC 1) env) (fun f s' => f = .next ∧ Kp g s₀ s' ∧ Rep g X₀ s'.heap (.ref x) (wsOf l).d) E s := by
  rw [stC1_eq]
  (refine ex_4_1 (rootI) fun p1 p2 p3 p4 er => ?_)
  rw [er]
  have T1 := S.addPr (tv' := .ref x :: ([] : List DictEntry).map (·.val)) (td' := [.obj (instObj 76 dx)]) hdx rfl ndx h0 (fun y b hy => by
    rcases lookup_cons hy with ⟨rfl, rfl⟩ | ⟨_, hy⟩
    · exact .inr rfl
    rcases lookup_cons hy with ⟨rfl, rfl⟩ | ⟨_, hy⟩
    · exact .inl (.inl rfl)
    · simp at hy) (.one (.obj (fun z => z.elim nx fun z => by rw [z, hdx] at hx; cases hx) hx))
  refine wpAny_execs_cons (attr_store (names := []) (name := "raw") (d := .str (Mine.S l)) (ds := []) hE hR T1 h0 hg (by walk_at "lk") (by walk_at "nm") rfl (by simp) (by simp) fun es1 n1 s1 hk1 hl1 S1 => ?_)
  have D1 := S1.drop (pw := [(dx, dictOf es1 n1)]) (pr := []) (s' := s1) hX S1.wd (fun _ _ _ e => e) (fun p hp => nomatch hp) (fun b hb => by
    rw [List.map_cons, List.map_nil, List.mem_singleton] at hb; subst hb; exact h0)
  simp only [List.map_cons, List.map_nil] at D1
  have hd1 := (S1.pr _ (.head _)).1
  have ndx1 : ¬ ((X dx ∨ dx = dx) ∧ dx ∉ [dx]) := fun z => z.2 (.head _)
  have tm1 := D1.tm
  have inv := Reps.cons_inv tm1
  try clear tm1
  (refine ex_2_3 (inv) fun _ _ eqv rx rv => ?_)
  (first | subst eqv | cases eqv)
  have inv := Rep.obj_inv rx
  try clear rx
  (refine ex_1_3 (inv) fun _ eqv nx1 hx1 => ?_)
  (first | subst eqv | cases eqv)
  have D3 : StX g env s₀ X₀ [] [.ref x, .ref dx] [.obj (instObj 76 dx), .obj (dictOf es1 n1)] (fun a => (X a ∨ a = dx) ∧ a ∉ [dx]) [("self", .v (.obj (instObj 76 dx))), ("ws", .v (.str (Mine.S l)))] s1 := { D1 with tm := .cons (.obj nx1 hx1) (.one (.obj ndx1 hd1)) }
  refine wp_append (wpAny_mono (init_mid.run env A s₀ X₀ [] _ _ s1 E hE hR hX ⟨_, D3⟩) (fun f s2 p => ?_) fun _ _ e => e)
  cases f with
  | ret v => (refine ex_1_2 (p) fun d q _ => ?_); exact q.elim
  | brk => (refine ex_1_2 (p) fun σ' q _ => ?_); exact q.elim
  | cont => (refine ex_1_2 (p) fun σ' q _ => ?_); exact q.elim
  | next =>
  (refine ex_1_2 (p) fun σ' q zq100 => ?_; refine ex_1_1 (zq100) fun X2 S2 => ?_)
  have S2 := S2.sub' (Sub.of (show SubL σ' (wgS wg0 (.v (.obj (instObj 76 dx)))) from q))
  have tm2 := S2.tm
  have inv := Reps.cons_inv tm2
  try clear tm2
  (refine ex_2_3 (inv) fun _ _ eqv rx2 rr => ?_)
  (first | subst eqv | cases eqv)
  have inv := Reps.cons_inv rr
  try clear rr
  (refine ex_2_3 (inv) fun _ _ eqv rd2 _ => ?_)
  (first | subst eqv | cases eqv)
  have inv := Rep.obj_inv rd2
  try clear rd2
  (refine ex_1_3 (inv) fun _ eqv nd2 hd2 => ?_)
  (first | subst eqv | cases eqv)
  (refine ex_1_2 (S2.F.var "self" _ (show Lk _ _ _ by walk_at "lk")) fun u au ru => ?_)
  have ru' : Rep g X2 s2.heap u (.obj (instObj 76 dx)) := ru
  have inv := Rep.obj_inv ru'
  try clear ru'
  (refine ex_1_3 (inv) fun a eqv na ho => ?_)
  (first | subst eqv | cases eqv)
  have R2 : Rep g X2 s2.heap (.ref a) (.inst [("raw", .str (Mine.S l))]) := instRep (names := ["raw"]) (ds := [.str (Mine.S l)]) na nd2 ho hd2 hk1 rfl (rv.flat1 rfl)
  (refine ex_4_1 (forI_eq) fun f1 f2 f3 f4 ef => ?_)
  rw [ef]
  refine wpAny_execs_cons (wpAny_mono (for_wp (Q := okF (wgGo l wg0) (.v (.obj (instObj 76 dx)))) (ds := l.map chD) (bnd1 "ch") ["ch"] hE hR hX S2 ((ItE.of (Ev.at Lk.h rfl) (It.str (x := Mine.S l))).run env A X2 s2 E hE hR S2.wd (S2.redesc au R2).F) trivial (fun d _ σ' => As.name) (fun d _ σ' y e h => ?_) (init_loop l wg0 (by show 0 + 0 + l.length ≤ _; omega)) (fun _ => rfl)) (fun f s3 p => ?_) fun _ _ e => e)
  · rcases lookup_cons h with ⟨_, hb⟩ | ⟨hne, hy⟩
    · cases hb
    · exact ⟨hy, by simpa using hne⟩
  cases f with
  | ret v => (refine ex_1_2 (p) fun d q _ => ?_); exact q.elim
  | brk => (refine ex_1_2 (p) fun σ' q _ => ?_); exact q.elim
  | cont => (refine ex_1_2 (p) fun σ' q _ => ?_); exact q.elim
  | next =>
  (refine ex_1_2 (p) fun σ3 q3 zq101 => ?_; refine ex_1_1 (zq101) fun X3 S3 => ?_)
  have S3 := S3.sub' (σ := wgS (wgGo l wg0) (.v (.obj (instObj 76 dx)))) q3
  show wpAny g.M A (execs ([] ++ endI) env) _ E s3
  refine wp_append (wpAny_mono ((Ex.freeze (Q := okE (wgGo l wg0) (.v (.obj (instObj 76 dx)))) (x := "count") (d := .lst ((wgGo l wg0).count.map .int)) (by walk_at "lk") (Ex.nil (show SubL _ _ by walk_at "sub"))).run env A s₀ X₀ [] _ _ s3 E hE hR hX ⟨_, S3⟩) (fun f s4 p => ?_) fun _ _ e => e)
  cases f with
  | ret v => (refine ex_1_2 (p) fun d q _ => ?_); exact q.elim
  | brk => (refine ex_1_2 (p) fun σ' q _ => ?_); exact q.elim
  | cont => (refine ex_1_2 (p) fun σ' q _ => ?_); exact q.elim
  | next =>
  (refine ex_1_2 (p) fun σ4 q4 zq102 => ?_; refine ex_1_1 (zq102) fun X4 S4 => ?_)
  have S4 := S4.sub' (Sub.of (show SubL σ4 (endS (wgGo l wg0) (.v (.obj (instObj 76 dx)))) from q4))
  have tm4 := S4.tm
  have inv := Reps.cons_inv tm4
  try clear tm4
  (refine ex_2_3 (inv) fun _ _ eqv rx4 rr4 => ?_)
  (first | subst eqv | cases eqv)
  have inv := Reps.cons_inv rr4
  try clear rr4
  (refine ex_2_3 (inv) fun _ _ eqv rd4 _ => ?_)
  (first | subst eqv | cases eqv)
  have inv := Rep.obj_inv rx4
  try clear rx4
  (refine ex_1_3 (inv) fun _ eqv nx4 hx4 => ?_)
  (first | subst eqv | cases eqv)
  have inv := Rep.obj_inv rd4
  try clear rd4
  (refine ex_1_3 (inv) fun _ eqv nd4 hd4 => ?_)
  (first | subst eqv | cases eqv)
  have T4 := S4.addPr (tv' := .ref x :: es1.map (·.val)) (td' := [.obj (instObj 76 dx), .str (Mine.S l)]) hd4 rfl nd4 h0 (fun y b hy => by
    rcases lookup_cons hy with ⟨rfl, rfl⟩ | ⟨_, hy⟩
    · exact .inl (.inl rfl)
    rcases lookup_cons hy with ⟨rfl, rfl⟩ | ⟨_, hy⟩
    · exact .inl (.inl rfl)
    rcases lookup_cons hy with ⟨rfl, rfl⟩ | ⟨_, hy⟩
    · exact .inl (.inl rfl)
    rcases lookup_cons hy with ⟨rfl, rfl⟩ | ⟨_, hy⟩
    · exact .inl (.inr (okI _))
    rcases lookup_cons hy with ⟨rfl, rfl⟩ | ⟨_, hy⟩
    · exact .inr rfl
    · simp at hy) (.cons (.obj (fun z => z.elim nx4 fun z => by rw [z, hd4] at hx4; cases hx4) hx4) (rv.flat1 rfl))
  have hcl : ((wgGo l wg0).count.map D.int).length = (wgGo l wg0).count.length := List.length_map ..
  have hcz : (wgGo l wg0).count.length ≤ 90000 := by have := wg_len l wg0; have e : wg0.count.length + wg0.b = 0 := rfl; lia
  refine wpAny_execs_cons (attr_store (names := ["raw"]) (name := "n") (d := .int (wgGo l wg0).n) (ds := [.str (Mine.S l)]) hE hR T4 h0 hg (by walk_at "lk") (by walk_at "nm") hk1 (by decide) (by simp only [List.length_nil] at hl1; lia) fun es2 n2 s5 hk2 hl2 S5 => ?_)
  refine wpAny_execs_cons (attr_store (name := "nt") (d := .int (wgGo l wg0).nt) hE hR S5 h0 hg (by walk_at "lk") (by walk_at "nm") hk2 (by decide) (by simp only [List.length_nil] at hl1; lia) fun es3 n3 s6 hk3 hl3 S6 => ?_)
  refine wpAny_execs_cons (attr_store (name := "norm") (d := .tup [.tup ((wgGo l wg0).count.map .int), .int (wgGo l wg0).b]) hE hR S6 h0 hg (by walk_at "lk") (Ev.tup (Evs.cons (Ev.b1 (.type "tuple") (by walk_at "nm") (Cl.tupleL (by rw [hcl]; exact Nat.le_trans hcz (by decide)))) (Evs.cons (by walk_at "nm") Evs.nil))) hk3 (by decide) (by simp only [List.length_nil] at hl1; lia) fun es4 n4 s7 hk4 hl4 S7 => ?_)
  refine wpAny_execs_cons (attr_store (name := "is_simple") (d := .bool (decide (((wgGo l wg0).count.length : Int) ≤ 1))) hE hR S7 h0 hg (by walk_at "lk") (Ev.cmp (Ev.b1 (.builtin "len") (by walk_at "nm") (Cl.lenL' hcl (Nat.le_trans hcz (by decide)))) Ev.int Cmp.leI) hk4 (by decide) (by simp only [List.length_nil] at hl1; lia) fun es5 n5 s8 hk5 hl5 S8 => ?_)
  refine wpAny_execs_nil ⟨rfl, ⟨S8.ext, S8.wd⟩, ?_⟩
  have tm8 := S8.tm
  have nd0 : ¬ X₀ dx := hX.fresh h0
  have nx0 : ¬ X₀ x := hX.fresh h0x
  have inv := Reps.cons_inv tm8
  try clear tm8
  (refine ex_2_3 (inv) fun _ _ eqv rx8 rv8 => ?_)
  (first | subst eqv | cases eqv)
  have inv := Rep.obj_inv rx8
  try clear rx8
  (refine ex_1_3 (inv) fun _ eqv nx8 hx8 => ?_)
  (first | subst eqv | cases eqv)
  exact instRep (names := ["raw", "n", "nt", "norm", "is_simple"]) nx0 nd0 hx8 (S8.pr _ (.head _)).1 hk5 rfl (rv8.mono (fun a _ _ na z => na (S8.sub a z)) fun _ _ _ e => e)
end
section
variable {g : Gw} {k : Nat} {sc : Scope} {σ σ' : Sto}

theorem Room.under {A : Around} {C : Addr} {vals : List Value} (r : Room g (k + 1) A) : Room g k (A.under (.builtin "type.__call__" ⟨.ref C :: vals, []⟩)) :=
  ⟨r.hd, by have := r.top; (exact Nat.le_of_lt ‹_›), fun z => by have := r.top; lia, by rw [depth_under_kw]; have := r.depth; lia, by show A.units + 1 + _ < _; have := r.units; lia⟩
theorem cl_ws {l : List Nat} (hl : l.length ≤ 90000) : Cl g (k + 2) (.ref 76) [.str (S l)] (wsOf l).d := by
  refine ⟨?_⟩
  intro A X₀ s E vals hR hw hX hr
  have inv := Reps.cons_inv hr
  try clear hr
  (refine ex_2_3 (inv) fun v _ eqv r rs => ?_)
  (first | subst eqv | cases eqv)
  (first | obtain ⟨_, rfl⟩ := Rep.int_inv rs | obtain ⟨_, rfl⟩ := Rep.str_inv rs | obtain rfl := Rep.bool_inv rs | obtain rfl := Reps.nil_inv rs | obtain rfl := Rep.none_inv rs)
  have inv := Rep.str_inv r
  try clear r
  obtain ⟨tk, eqv⟩ := inv
  (first | subst eqv | cases eqv)
  refine wpAny_call ?_
  obtain ⟨hh, gg, dd, tt, os⟩ := s
  have kin := hw.kin
  refine make_core (makes_of kin (by kernel_rfl)) (looks_findIn kin (show findIn (KK g.w) (.ref 76) "__init__" = some (some (.ref 31)) by kernel_rfl)) (fun self => bind_fn kin self (by kernel_rfl)) (.inl rfl) ?_
  generalize hs1 : (⟨(hh.push emptyDict).push (instObj 76 hh.objs.size), gg, dd, tt, os⟩ : Shared) = s1
  have f1 : hh.get? hh.objs.size = none := get_size _
  have q1 : Kp g ⟨hh, gg, dd, tt, os⟩ s1 := by rw [← hs1]; exact Kp.keeps (s := ⟨hh, gg, dd, tt, os⟩) (t := tt) hw fun b o e => Heap.get?_push_of_some _ (Heap.get?_push_of_some _ e)
  have f2 : hh.get? (hh.objs.size + 1) = none := by
    cases e : hh.get? (hh.objs.size + 1) with
    | none => rfl
    | some o => have h3 : hh.objs.size + 1 < hh.objs.size := Heap.lt_size e; exact absurd h3 (by lia)
  have hx1 : s1.heap.get? (hh.objs.size + 1) = some (instObj 76 hh.objs.size) := by rw [← hs1]; heap_get
  have hd1 : s1.heap.get? hh.objs.size = some (dictOf [] 0) := by rw [← hs1]; heap_get
  have X1 : XOk g X₀ s1.heap := hX.kp q1
  have H := h31 g.w
  (refine ex_1_2 (H.at_) fun o ho hdat => ?_)
  have hco := H.co
  have hgen := H.gen
  have hkd := H.kd
  have hsc' := H.scp
  have hR' : Room g (k + 1) (A.under (.builtin "type.__call__" ⟨.ref 76 :: [.str (S l) tk], []⟩)) := hR.under
  refine codeAny_call_cells hR'.lt (q1.wd.kin _ _ ho) hdat q1.wd.nolimit (codeRec_of q1.wd.kin H.cd) H.bd (show bindArgs (fdAt g.w 31) ⟨[.ref (hh.objs.size + 1), .str (S l) tk], []⟩ = pure [(("self" : Str), Value.ref (hh.objs.size + 1)), (("ws" : Str), Value.str (S l) tk)] by kernel_rfl) H.clo (fun y hy => ?_) (fun s₂ C => ?_) (by rw [hsc']; exact hco) (by rw [hsc']; exact hgen) (by rw [hsc']; exact hkd)
  · rw [hsc']
    rcases List.mem_cons.mp hy with rfl | hy
    · exact .inl (by kernel_rfl)
    · rw [List.mem_singleton] at hy; subst hy; exact .inl (by kernel_rfl)
  · generalize hE : callEnvC (fdAt g.w 31) s1.heap.objs.size 31 = env at C ⊢
    have hsc : env.scope = scC 1 := by rw [← hE]; exact H.scp
    have hkof : env.kindOf = fun y => (scC 1).names.lookup y := by funext y; unfold Env.kindOf; rw [hsc]
    have hcel : ∀ n, (scC 1).names.lookup n = some .cell → ∃ c, env.cells.lookup n = some c := fun n hn => by rw [← hE]; exact cellsFrom_has (fdAt g.w 31).scope.names (s1.heap.objs.size + 1) [] (.inr (by rw [hsc']; exact hn))
    have he : EnvOk (scC 1) env := ⟨hsc, hkd, by rw [← hE]; exact H.gl, by rw [← hE]; exact H.bi, hcel⟩
    have nx0 : ¬ X₀ (hh.objs.size + 1) := hX.fresh f2
    have nd0 : ¬ X₀ hh.objs.size := hX.fresh f1
    have S : Stt g env s1 X₀ [] [] [] [("self", .v (.obj (instObj 76 hh.objs.size))), ("ws", .v (.str (S l)))] s₂ := start q1.wd X1 (by rw [← hE]; rfl) C fun y b hy => by
      rcases lookup_cons hy with ⟨rfl, rfl⟩ | ⟨_, hy⟩
      · refine ⟨.ref (hh.objs.size + 1), _, rfl, .obj nx0 hx1, .inl ⟨by rw [hkof]; kernel_rfl, ?_⟩⟩
        rw [hkof]; kernel_rfl
      rcases lookup_cons hy with ⟨rfl, rfl⟩ | ⟨_, hy⟩
      · refine ⟨.str (Mine.S l) tk, _, rfl, .str _ _, .inl ⟨by rw [hkof]; kernel_rfl, ?_⟩⟩
        rw [hkof]; kernel_rfl
      · simp at hy
    obtain ⟨X, S⟩ := S
    have hx2 : s₂.heap.get? (hh.objs.size + 1) = some (instObj 76 hh.objs.size) := S.ext.at_ _ _ (hw.nPF f2) (hX.nlf f2) hx1
    have hd2 : s₂.heap.get? hh.objs.size = some (dictOf [] 0) := S.ext.at_ _ _ (hw.nPF f1) (hX.nlf f1) hd1
    have nx : ¬ X (hh.objs.size + 1) := fun z => (S.new _ z).elim nx0 fun z => by rw [hx1] at z; cases z
    have nd : ¬ X hh.objs.size := fun z => (S.new _ z).elim nd0 fun z => by rw [hd1] at z; cases z
    have S' : StX g env ⟨hh, gg, dd, tt, os⟩ X₀ [] [] [] X [("self", .v (.obj (instObj 76 hh.objs.size))), ("ws", .v (.str (Mine.S l)))] s₂ :=
      { wd := S.wd, ext := q1.ext.trans S.ext, sub := S.sub, new := fun a xa => (S.new a xa).imp id fun h => q1.none_of h, fl := q1.none_of S.fl, fc := fun n c hc => q1.none_of (S.fc n c hc), fm := fun x d a hx ha => ⟨q1.none_of (S.fm x d a hx ha).1, (S.fm x d a hx ha).2⟩, pr := S.pr, tm := S.tm, F := S.F }
    refine wpAny_mono (init_run hl env _ ⟨hh, gg, dd, tt, os⟩ X₀ X (hh.objs.size + 1) hh.objs.size s₂ _ he hR'.deeper hX.xal f1 f2 (hw.hi f1) nd nx hd2 hx2 S') (fun f s' p => ?_) fun _ _ e => e
    (refine ex_0_3 (p) fun zq103 q rr => ?_; (first | subst zq103 | cases zq103))
    exact ⟨rfl, q, rr⟩
end
section
variable {g : Gw} {k : Nat} {sc : Scope} {σ σ' : Sto}

theorem unpackItems_few {A : Around} {E : Value → Shared → Prop} {s : Shared} {t : Addr} {v : Value} {Q : List Value → Shared → Prop} (hh : A.handled = none) (ht : s.heap.IsList t #[v])
    (hE : ∀ h₁ h' tk e, Heap.ExtBut s.heap.objs.size s.heap h₁ → Heap.NewExc h₁ h' e "ValueError" → E (.ref e) { s with heap := h', toks := tk }) : wpAny g.M A (unpackItems (.ref t) 2 none) Q E s := by
  have hlt : t ≠ s.heap.objs.size := by (refine ex_1_2 (ht) fun o ho _ => ?_); exact Nat.ne_of_lt (Heap.lt_size ho)
  unfold unpackItems
  refine wpAny_bind ?_
  · unfold notIterableAtAll
    refine wpAny_bind (wpAny_specialOf ht.typeIs PySem.F.slot_list_iter.lookup ?_)
    refine wpAny_pure ?_
    simp only [Bool.false_eq_true, if_false]
    refine wpAny_bind (wpAny_holding (wpAny_pyIter_list ht ?_))
    refine wpAny_bind (wpAny_holding ?_)
    show wpAny _ _ (pyNext (.ref s.heap.objs.size) >>= _) _ E _
    refine wpAny_bind (wpAny_pyNext_list_item (i := 0) ⟨_, Heap.get?_push_size _ rfl, rfl, rfl⟩ (ht.push _) (x := v) rfl fun h₁ hit₁ hs₁ => ?_)
    have ht₁ : h₁.IsList t #[v] := (ht.push _).extBut hs₁.extBut hlt
    refine wpAny_bind (wpAny_holding ?_)
    show wpAny _ _ (pyNext (.ref s.heap.objs.size) >>= _) _ E _
    refine wpAny_bind (wpAny_pyNext_list_end hh hit₁ ht₁ rfl fun h₂ he₂ => ?_)
    refine wpAny_pure (wpAny_pure ?_)
    rw [if_pos (by simp)]
    refine wpAny_bind (wpAny_rule ?_)
    have hx : Heap.ExtBut s.heap.objs.size s.heap h₂ := fun b o hb e => he₂ b o hb (hs₁.extBut b o hb (Heap.get?_push_of_some _ e))
    refine wpAny_bind (wpAny_raiseErrorMade plainExc_ValueError hh (fun h' tk e hx' => hE h₂ h' tk e hx hx') ?_)
    rw [show [v].length = 1 from rfl]
    decide +kernel

theorem assign_few {A : Around} {E : Value → Shared → Prop} {s : Shared} {env : Env} {elts : List Expr} {x1} {pos : Pos} {t : Addr} {v : Value} {Q : Unit → Shared → Prop} (hh : A.handled = none) (ht : s.heap.IsList t #[v])
    (hn : (assignEach elts env).length = 2) (hstar : (assignEach elts env).findIdx? (·.1) = none)
    (hE : ∀ h₁ h' tk e, Heap.ExtBut s.heap.objs.size s.heap h₁ → Heap.NewExc h₁ h' e "ValueError" → E (.ref e) { s with heap := h', toks := tk }) :
    wpAny g.M A (assign (.Tuple elts x1 pos) env (.ref t)) Q E s := by
  rw [arm_assign_Tuple]
  refine wpAny_bind (wpAny_standAt ?_)
  unfold unpack
  rw [hn, hstar]
  exact wpAny_bind (wpAny_holding (unpackItems_few hh ht hE))

noncomputable def forK : Stmt := ((stB 4)[1]?).getD (.Pass default)
noncomputable def retK : List Stmt := (stB 4).drop 2
theorem stB4_eq : ∃ p1 p2 p3, stB 4 = .Assign [.Name "parsed" p1] (.Dict [] [] p2) p3 :: forK :: retK := ⟨_, _, _, rfl⟩
theorem forK_eq : ∃ p1 p2 p3, forK = .For (.Name "elt" p1) (.Name "l" p2) bodyK [] p3 := ⟨_, _, _, rfl⟩
end
section
variable {g : Gw} {k : Nat} {sc : Scope} {σ σ' : Sto}

noncomputable def base3 (h : Heap) (a b c : Addr) : Heap := ((h.hide a).hide b).hide c
theorem base3_of {h : Heap} {a b c x : Addr} {o : Obj} (e : (base3 h a b c).get? x = some o) : h.get? x = some o := Heap.of_hide (Heap.of_hide (Heap.of_hide e))
theorem base3_at {h : Heap} {a b c x : Addr} {o : Obj} (e : h.get? x = some o) (ha : x ≠ a) (hb : x ≠ b) (hc : x ≠ c) : (base3 h a b c).get? x = some o := by
  unfold base3; rw [Heap.hide_ne _ hc, Heap.hide_ne _ hb, Heap.hide_ne _ ha]; exact e
theorem base3_c {h : Heap} {a b c : Addr} : (base3 h a b c).get? c = none := Heap.hide_self _ _
theorem base3_b {h : Heap} {a b c : Addr} : (base3 h a b c).get? b = none := by
  cases e : (base3 h a b c).get? b with
  | none => rfl
  | some o => have := Heap.of_hide e; rw [Heap.hide_self] at this; cases this
theorem base3_a {h : Heap} {a b c : Addr} : (base3 h a b c).get? a = none := by
  cases e : (base3 h a b c).get? a with
  | none => rfl
  | some o => have := Heap.of_hide (Heap.of_hide e); rw [Heap.hide_self] at this; cases this

noncomputable def tgtK : Expr := match bodyK with
  | .Assign [t] _ _ :: _ => t
  | _ => .Name "" default
theorem tgtK_eq : ∃ e1 e2 n p, tgtK = .Tuple [.Name "k" e1, .Name "v" e2] n p := ⟨_, _, _, _, rfl⟩
structure Thrown (g : Gw) (LT : Addr) (eT : Env) (s s1 : Shared) (e : Addr) (h' : Heap) (base : Heap) (a0 : Value) : Prop where
  wd : Wd g s1
  ext : Xt g s.heap s1.heap
  bs : ∀ b o, s.heap.get? b = some o → b ≠ PF → b ≠ LT → b ≠ g.lf → base.get? b = some o
  b1 : ∀ b o, (∃ o', g.s₁.heap.get? b = some o') → s1.heap.get? b = some o → b ≠ LT → base.get? b = some o
  nT : base.get? LT = none
  nL : base.get? g.lf = none
  fly : Heap.FlyingW base [eT, g.le] e (.type "ValueError") a0 h'
  up : s1.heap.UpToSlots h'

theorem keqv_raise {l : List Nat} (hno : 61 ∉ l) (hl : l.length ≤ 90000) {A : Around} {X : Addr → Prop} {s : Shared} {E : Value → Shared → Prop} {Q : Value → Shared → Prop} {v : Value} {eT : Env} {LT : Addr} (hR : Room g (k + 1) A) (hfr : A.frames = some [eT, g.le])
    (hw : Wd g s) (hX : XOk g X s.heap) (r : Rep g X s.heap v (.lst [.str (S l)])) (hTk : eT.scope.kind ≠ .module) (hTf : eT.frame = some LT) (hTo : ∃ o, s.heap.get? LT = some o ∧ ∀ vs, o.data ≠ .fields vs) (hTP : LT ≠ PF)
    (hE : ∀ s1 e h' base a0 tk, Thrown g LT eT s s1 e h' base a0 → E (.ref e) { s1 with heap := h', toks := tk }) : wpAny g.M A (call (.ref 94) [v]) Q E s := by
  have H := h94 g.w
  (refine ex_1_2 (H.at_) fun o ho hdat => ?_)
  have kin := hw.kin
  have hco := H.co
  have hgen := H.gen
  have hkd := H.kd
  have hsc' := H.scp
  refine wpAny_call (codeAny_call_cells hR.lt (kin _ _ ho) hdat hw.nolimit (codeRec_of kin H.cd) H.bd (show bindArgs (fdAt g.w 94) ⟨[v], []⟩ = pure [(("l" : Str), v)] by kernel_rfl) H.clo (fun y hy => ?_) (fun s₁ C => ?_) (by rw [hsc']; exact hco) (by rw [hsc']; exact hgen) (by rw [hsc']; exact hkd))
  · rw [List.mem_singleton] at hy; subst hy
    exact .inl (by rw [hsc']; kernel_rfl)
  generalize hEn : callEnvC (fdAt g.w 94) s.heap.objs.size 94 = env at C ⊢
  have hsc : env.scope = scB 4 := by rw [← hEn]; exact H.scp
  have hkof : env.kindOf = fun y => (scB 4).names.lookup y := by funext y; unfold Env.kindOf; rw [hsc]
  have hcel : ∀ n, (scB 4).names.lookup n = some .cell → ∃ c, env.cells.lookup n = some c := fun n hn => by rw [← hEn]; exact cellsFrom_has (fdAt g.w 94).scope.names (s.heap.objs.size + 1) [] (.inr (by rw [hsc']; exact hn))
  have he : EnvOk (scB 4) env := ⟨hsc, hkd, by rw [← hEn]; exact H.gl, by rw [← hEn]; exact H.bi, hcel⟩
  have hLK : env.locals = s.heap.objs.size := by rw [← hEn]; rfl
  have hfK : env.frame = some env.locals := by rw [← hEn]; rfl
  have S : Stt g env s X [] [] [] [("l", .v (.lst [.str (S l)]))] s₁ := start hw hX hLK C fun y b hy => by
    rcases lookup_cons hy with ⟨rfl, rfl⟩ | ⟨_, h⟩
    · refine ⟨v, _, rfl, r, .inl ⟨by rw [hkof]; kernel_rfl, ?_⟩⟩
      rw [hkof]; kernel_rfl
    · simp at h
  have fK : s.heap.get? env.locals = none := by rw [hLK]; exact get_size _
  have hR' : Room g k (A.deeper env) := hR.deeper
  have hfr' : (A.deeper env).frames = some [env, eT, g.le] := Around.frames_deeper hfr
  generalize A.deeper env = A' at hR' hfr' ⊢
  (refine ex_3_1 (stB4_eq) fun p1 p2 p3 e4 => ?_)
  rw [e4]
  show wpAny g.M A' (execs ([.Assign [.Name "parsed" p1] (.Dict [] [] p2) p3] ++ forK :: retK) env) _ _ s₁
  refine wp_append (wpAny_mono ((Ex.newM (d := .sd []) (EvF.sd (g := g) (sc := scB 4) (k := k)) (Ex.nil (Q := fun fl => match fl with | .next σ' => SubL σ' [("l", .v (.lst [.str (Mine.S l)]))] | _ => False) (by walk_at "sub"))).run env A' s X [] [] [] s₁ _ he hR' hX.xal S) (fun f s2 p => ?_) fun _ _ e => e)
  cases f with
  | ret v => (refine ex_1_2 (p) fun d q _ => ?_); exact q.elim
  | brk => (refine ex_1_2 (p) fun σ' q _ => ?_); exact q.elim
  | cont => (refine ex_1_2 (p) fun σ' q _ => ?_); exact q.elim
  | next =>
  (refine ex_1_2 (p) fun σ' q zq104 => ?_; refine ex_1_1 (zq104) fun X2 S2 => ?_)
  have S2 := S2.sub' (Sub.of (show SubL σ' [("l", .v (.lst [.str (Mine.S l)]))] from q))
  (refine ex_3_1 (forK_eq) fun f1 f2 f3 ef => ?_)
  rw [ef]
  refine wpAny_execs_cons (wpAny_For (wpAny_mono ((ItE.of (Ev.nm (g := g) (sc := scB 4) (k := k) Lk.h) It.lst).run env A' X2 s2 _ he hR' S2.wd S2.F) (fun x s₁ h₁ => wpAny_mono h₁ (fun it s₂ h₂ => ?_) fun _ _ e => e) fun _ _ e => e) (fun _ => rfl))
  (refine ex_0_2 (h₂) fun q zq105 => ?_; refine ex_5_5 (zq105) fun I wr SS vs₀ ds₀ zq106 hfr2 hreps hss W => ?_; (first | subst zq106 | cases zq106))
  (refine ex_1_2 (S2.grow q hfr2 hreps) fun pw e1 S₂ => ?_)
  have hf : ∀ b ∈ wr, s.heap.get? b = none := fun b hb => by
    cases e : s.heap.get? b with
    | none => rfl
    | some o => have z := (hfr2 b hb).1; rw [S2.ext.none (S2.wd.nPF z) z] at e; cases e
  refine codeAny_forLoop_any (fun n s' => s' = s₂) ?_ 0 rfl
  rintro n s' rfl
  have hXw : ∀ b ∈ wr, X2 b ∨ b ∈ wr := fun b hb => .inr hb
  have hr₀ : Reps g (fun a => X2 a ∨ a ∈ wr) s'.heap vs₀ ds₀ := hreps
  refine wpAny_mono (W.item A' (fun a => X2 a ∨ a ∈ wr) 0 (.str (Mine.S l)) (.Name "elt" f1) s' _ ?_ trivial hR'.hd S₂.wd S₂.F.xok hXw rfl hss hr₀ ?_) (fun r s₁ hr => ?_) fun _ _ e => e
  rotate_left
  rotate_left
  · cases r with
    | none => exact hr.elim
    | some v => exact hr
  intro u s₃ w₃ hk hal hss₃ hu
  (refine ex_1_2 (S₂.turn (pw := pw) (pr := []) w₃ (e1 ▸ hk) (e1 ▸ hal) (fun p hp => nomatch hp) (e1 ▸ hf)) fun pw₃ e3 S₃ => ?_)
  refine wpAny_mono ((As.name (g := g) (sc := scB 4) (k := k) (x := "elt") (pos := f1) (d := .str (Mine.S l))).run env A' _ s₃ _ u he hR' w₃ S₃.F hu) (fun _ s₄ h₄ => ?_) fun _ _ e => e
  (refine ex_0_4 (h₄) fun w₄ F₄ hk₄ hat₄ => ?_)
  have ext₄ : Xt g s.heap s₄.heap := S₃.ext.then fun b o he' e => hk₄ b o (fun z => by obtain ⟨o', e'⟩ := he'; rw [z, fK] at e'; cases e') (fun n _ z => by obtain ⟨o', e'⟩ := he'; rw [S₃.fc n b z] at e'; cases e') e
  have hsz : (Mine.S l).length + 2 ≤ sizeLine := by rw [S_len]; exact Nat.le_trans (by lia : _ ≤ 300000) (by decide)
  refine wpAny_execs_cons (wpAny_Assign_stores (wpAny_mono ((Ev.cast (d' := .lst [.str (Mine.S l)]) (Ev.meth (g := g) (sc := scB 4) (k := k) (by walk_at "nm") Mth.split (Evs.cons (Ev.strS [61]) (Evs.cons Ev.int Evs.nil)) (Cl.split2 (by rfl) hsz)) (by rw [show Mine.S [61] = ch 61 from rfl, splitMax_no hno]; rfl)).run env A' _ s₄ _ he hR' w₄ F₄) (fun v5 s₅ h₅ => ?_) fun _ _ e => e) rfl rfl)
  obtain ⟨q₅, r₅⟩ := h₅
  show wpAny g.M A' (PySem.assign tgtK env v5) _ _ s₅
  (refine ex_4_1 (tgtK_eq) fun t1 t2 t3 t4 et => ?_)
  rw [et]
  have inv := Rep.lst_inv r₅
  try clear r₅
  (refine ex_4_6 (inv) fun t ot vs nn eqv nXt hot hct hdt rs => ?_)
  (first | subst eqv | cases eqv)
  have inv := Reps.cons_inv rs
  try clear rs
  (refine ex_2_3 (inv) fun v6 _ eqv r6 rs' => ?_)
  (first | subst eqv | cases eqv)
  (first | obtain ⟨_, rfl⟩ := Rep.int_inv rs' | obtain ⟨_, rfl⟩ := Rep.str_inv rs' | obtain rfl := Rep.bool_inv rs' | obtain rfl := Reps.nil_inv rs' | obtain rfl := Rep.none_inv rs')
  refine assign_few hR'.hd ⟨ot, hot, hct, nn, hdt⟩ rfl rfl fun h₁ h' tk e hx hne => ?_
  refine PassesOwn.leaving (.ref e) _ ?_
  have F₅ := F₄.kp q₅
  have ext₅ := ext₄.trans q₅.ext
  have keepH : ∀ b o, s₅.heap.get? b = some o → h₁.get? b = some o := ext_of_size hx
  have keep' : ∀ b o, s₅.heap.get? b = some o → h'.get? b = some o := fun b o z => hne.keeps b o (keepH b o z)
  (refine ex_4_3 (F₅.ns) fun mK oK esK epK hoK hdK _ => ?_)
  (refine ex_1_2 (hTo) fun oT hoT hnT => ?_)
  (refine ex_1_3 (ext₅.there hTP hoT) fun oT' hoT' hdT' _ => ?_)
  (refine ex_1_2 (q₅.wd.la) fun oL hoL hnL => ?_)
  (refine ex_2_3 (hne.there) fun oe tp hoe hce hde => ?_)
  have hkb : (base3 h₁ env.locals LT g.lf).StaysIn h' := fun b o z => hne.keeps b o (base3_of z)
  have hFF : h'.FunFrames (base3 h₁ env.locals LT g.lf) [env, eT, g.le] :=
    ⟨by rw [hsc, hkd]; decide, ⟨env.locals, oK, hfK, base3_a, keep' _ _ hoK, fun vs z => by rw [hdK] at z; cases z⟩, hTk, ⟨LT, oT', hTf, base3_b, keep' _ _ hoT', fun vs z => hnT vs (hdT'.symm.trans z)⟩, by rw [w₃.ok.lfk]; decide, ⟨g.lf, oL, w₃.ok.lff, base3_c, keep' _ _ hoL, hnL⟩, trivial⟩
  have hbe : (base3 h₁ env.locals LT g.lf).get? e = none := by
    cases z : (base3 h₁ env.locals LT g.lf).get? e with
    | none => rfl
    | some o => have := base3_of z; rw [hne.new] at this; cases this
  refine wpAny_leaving_firstW (a0 := tp) hfr' hFF hfK hoe hkb hbe hde rfl rfl fun h'' hL => ?_
  (refine ex_0_4 (hL) fun k1 zq107 k3 k4 => ?_; obtain ⟨_, _, k2⟩ := zq107)
  rw [hce] at k3
  refine hE { s₅ with toks := tk } e h'' (base3 h₁ env.locals LT g.lf) tp tk { wd := (Kp.toks q₅.wd).wd, ext := ext₅, bs := fun b o z n1 n2 n3 => base3_at (keepH b o (ext₅.at_ b o n1 n3 z)) (fun z' => by rw [z', fK] at z; cases z) n2 n3, b1 := fun b o hs1 z n2 => ?_, nT := base3_b, nL := base3_c, fly := ⟨k1, hbe, k2, k3⟩, up := fun b o z hn => k4 b o (keep' b o z) hn }
  obtain ⟨o', hs1⟩ := hs1
  refine base3_at (keepH b o z) (fun z' => ?_) n2 fun z' => by rw [z', hw.ok.lfn] at hs1; cases hs1
  rw [z', hw.hi fK] at hs1; cases hs1
end
section
variable {g : Gw} {k : Nat} {sc : Scope} {σ σ' : Sto}

theorem h143 (w : World) : FH w 143 (stB 14) (scB 14) := by walk_at "fh"
noncomputable def preT : List Stmt := (stB 14).take 2
noncomputable def tryT : Stmt := ((stB 14)[2]?).getD (.Pass default)
noncomputable def postT : List Stmt := (stB 14).drop 3
theorem stB14_eq : stB 14 = preT ++ tryT :: postT := by kernel_rfl

theorem partsFrom_len (x : Str) (n : Nat) : ∀ (occs : List Nat) (i : Nat), (StrLaws.partsFrom x n i occs).length = occs.length + 1
  | [], _ => rfl
  | o :: r, i => by
    show (_ :: StrLaws.partsFrom x n _ r).length = _
    rw [List.length_cons, partsFrom_len x n r, List.length_cons]
theorem split_hd' {c : Nat} {k v : List Nat} (h : c ∉ k) : ∃ r, Txt.split (S (k ++ c :: v)) (ch c) = S k :: r ∧ r.length ≤ (k ++ c :: v).length + 2 := by
  obtain ⟨r, e⟩ := occ_at (v := v) h ((S (k ++ c :: v)).length + 1) (by (exact Nat.zero_lt_succ _))
  have hl1 := StrLaws.occ_length_le (S (k ++ c :: v)) (ch c) 0 (S (k ++ c :: v)).length ((S (k ++ c :: v)).length + 1)
  rw [e] at hl1
  unfold Txt.split
  rw [not_few (by simp), if_neg Bool.false_ne_true, e, if_neg (by simp), StrLaws.partsBetween_eq]
  refine ⟨StrLaws.partsFrom (S (k ++ c :: v)) (ch c).length (k.length + (ch c).length) r, ?_, ?_⟩
  · show Builtin.Str.strSub _ 0 _ :: _ = _
    rw [sub_S]
    congr 2
    simp
  · rw [partsFrom_len]
    rw [S_len, List.length_cons] at hl1
    lia
noncomputable def keyL (l : List Nat) : List Nat := l.takeWhile (· != 61)
theorem keyL_cons (c : Nat) (l : List Nat) : keyL (c :: l) = if c = 61 then [] else c :: keyL l := by
  unfold keyL
  rw [List.takeWhile_cons]
  by_cases h : c = 61
  · subst h; rfl
  · rw [if_neg h, if_pos (by simpa using h)]
set_option tactic.hygienic true in
theorem keyL_no : ∀ (l : List Nat), 61 ∉ keyL l
  | [] => by simp [keyL]
  | c :: l => by
    rw [keyL_cons]
    split
    · simp
    · rename_i h
      intro hm
      rcases List.mem_cons.mp hm with e | e
      · exact h e.symm
      · exact keyL_no l e
theorem keyL_all : ∀ (l : List Nat), 61 ∉ l → keyL l = l
  | [], _ => rfl
  | c :: l, h => by
    have hc : ¬ c = 61 := fun e => h (by rw [e]; exact .head _)
    rw [keyL_cons, if_neg hc, keyL_all l fun m => h (.tail _ m)]
theorem keyL_cut : ∀ (l : List Nat), 61 ∈ l → ∃ v, l = keyL l ++ 61 :: v
  | [], h => by simp at h
  | c :: l, h => by
    rw [keyL_cons]
    by_cases e : c = 61
    · subst e; exact ⟨l, by simp⟩
    · rw [if_neg e]
      obtain ⟨v, hv⟩ := keyL_cut l ((List.mem_cons.mp h).resolve_left fun z => e z.symm)
      exact ⟨v, by rw [List.cons_append, ← hv]⟩
theorem keyL_app {k : List Nat} (v : List Nat) (h : 61 ∉ k) : keyL (k ++ 61 :: v) = k := by
  induction k with
  | nil => rw [List.nil_append, keyL_cons, if_pos rfl]
  | cons c k ih =>
    have hc : ¬ c = 61 := fun e => h (by rw [e]; exact .head _)
    rw [List.cons_append, keyL_cons, if_neg hc, ih fun m => h (.tail _ m)]
theorem split_key (l : List Nat) : ∃ r, Txt.split (S l) (ch 61) = S (keyL l) :: r ∧ r.length ≤ l.length + 2 := by
  by_cases h : 61 ∈ l
  · obtain ⟨v, hv⟩ := keyL_cut l h
    have := split_hd' (v := v) (keyL_no l)
    rw [← hv] at this
    exact this
  · exact ⟨[], by rw [split_no h, keyL_all l h], by simp⟩
noncomputable def decL : D → List Nat
  | .str x => x.cps.toList
  | _ => []
theorem decL_str (l : List Nat) : decL (strD l) = l := rfl
theorem S_ok {l : List Nat} (h : ∀ c ∈ l, c < 1114112) : PyData.strOk (S l) = true := by
  unfold PyData.strOk S
  rw [Array.all_eq_true]
  intro i hi
  simpa using h _ (by simp)
theorem strs_ok {ls : List (List Nat)} (h : ∀ l ∈ ls, ∀ c ∈ l, c < 1114112) : (D.lst (ls.map strD)).ok 9 = true := by
  have : D.oks 8 (ls.map strD) = true := by
    induction ls with
    | nil => simp [D.oks]
    | cons l ls ih =>
      rw [List.map_cons, D.oks, Bool.and_eq_true]
      exact ⟨by simp only [D.ok]; exact S_ok (h l (.head _)), ih fun l' hl' => h l' (.tail _ hl')⟩
  simpa [D.ok] using this
noncomputable def okP (items : List (List Nat)) (words : List Nat) : Fl → Prop
  | .next σ' => SubL σ' [("items", .v (.lst (items.map strD))), ("words", .v (.str (S words)))]
  | _ => False
theorem pre_table {words plain : List Nat} {items : List (List Nat)} (h1 : words.length ≤ 90000) (h2 : plain.length ≤ 90000) (hi : (httpL words).map (fun p => Txt.strip (S p)) = items.map S) (hp : (httpL plain).map (fun p => Txt.strip (S p)) = (items.map keyL).map S)
    (hn : items.length ≤ 1000) (hz : ∀ l ∈ items, l.length ≤ 90000 ∧ ∀ c ∈ l, c < 1114112) : Ex g (scB 14) (k + 1) [("words", .v (.str (S words))), ("plain", .v (.str (S plain)))] preT (okP items words) := by
  have e1 : (httpL words).map (fun p => D.str (Txt.strip (S p))) = items.map strD := by
    have := congrArg (List.map D.str) hi
    rw [List.map_map, List.map_map] at this
    exact this
  have e2 : (httpL plain).map (fun p => D.str (Txt.strip (S p))) = (items.map keyL).map strD := by
    have := congrArg (List.map D.str) hp
    rw [List.map_map, List.map_map] at this
    exact this
  refine Ex.assign (Ev.cast (Ev.callG (Evs.nm1 (by walk_at "lk")) (fn_http h1)) (by rw [e1])) ?_
  refine Ex.if_ (Tr.cmp (Ev.compA (σc := []) strD decL decL_str (fun l => strD (keyL l)) (ItE.of (d := .lst (items.map strD)) (by walk_at "nm") It.lst) (by walk_at "cap") (Nat.le_trans hn (by decide)) (fun l hl => ?_)) (Ev.cast (Ev.callG (Evs.nm1 (by walk_at "lk")) (fn_http h2)) (by rw [e2, List.map_map]; rfl)) (Cmp.neRefl ?_)) ?_
  · (refine ex_1_2 (split_key l) fun r hr hrl => ?_)
    have hsz : (S l).length + 2 ≤ sizeLine := by rw [S_len]; exact Nat.le_trans (by have := (hz l hl).1; lia : _ ≤ 300000) (by decide)
    refine Ev.sub (Ev.meth (by walk_at "nm") Mth.split (Evs.cons (Ev.strS [61]) Evs.nil) (Cl.split1 (by rfl) hsz)) Ev.int (Itm.lst (j := 0) ?_ ?_ ?_)
    · rw [show S [61] = ch 61 from rfl, hr, List.map_cons, List.length_cons]; exact seqIndex_nat (i := 0) (by (exact Nat.zero_lt_succ _))
    · rw [show S [61] = ch 61 from rfl, hr]; rfl
    · rw [show S [61] = ch 61 from rfl, hr, List.length_map, List.length_cons]; exact Nat.le_trans (by have := (hz l hl).1; lia : _ ≤ 300000) (by decide)
  · have : (items.map fun l => strD (keyL l)) = (items.map keyL).map strD := by rw [List.map_map]; rfl
    rw [this]
    refine strs_ok fun l hl c hc => ?_
    (refine ex_1_2 (List.mem_map.mp hl) fun l' hl' zq108 => ?_; (first | subst zq108 | cases zq108))
    exact (hz l' hl').2 c (List.takeWhile_sublist _ |>.subset hc)
  · exact Ex.nil (Ex.nil (by walk_at "sub"))
end
section
variable {g : Gw} {k : Nat} {sc : Scope} {σ σ' : Sto}

noncomputable def l0 : List Nat := [97, 116, 32, 116, 97, 98, 32, 115, 105, 122, 101, 32]
noncomputable def l1 : List Nat := [97, 116, 32, 116, 97, 98, 32, 115, 105, 122, 101]
theorem tryT_eq : ∃ p1 p2 p3 p4 p5 p6 p7 n8 p8 p9 p10 e11 p12 p13 p14 p15 x8, tryT = .Try [.Assign [.Name "told" p1] (.Call (.Name "parse_keqv_list" p2) [.Name "items" p3] [] p4) p5]
    [.ExceptHandler (some (.Name "ValueError" p6)) none [.Return (some (.IfExp (.Compare (.Name "words" p7) [.Eq] [.Constant (.str x8) n8 p8] p9) (.List [] p10) e11 p12)) p13] p14] [] [] p15 ∧ x8 = S l0 := ⟨_, _, _, _, _, _, _, _, _, _, _, _, _, _, _, _, _, rfl, by kernel_rfl⟩
theorem http_l0 : (httpL l0).map (fun p => Txt.strip (S p)) = [l1].map S := by kernel_rfl
theorem key_l1 : keyL l1 = l1 := by decide
theorem Thrown.wd3 {LT : Addr} {eT : Env} {s s1 : Shared} {e : Addr} {h' base : Heap} {a0 : Value} (T : Thrown g LT eT s s1 e h' base a0) (hLT : g.s₁.heap.get? LT = none) {h3 : Heap} {tk : Nat} (hs : base.StaysIn h3) (hu : s1.heap.UpToSlots h3) : Wd g { s1 with heap := h3, toks := tk } := by
  (refine ex_1_2 (T.wd.la) fun o ho hn => ?_)
  obtain ⟨sl, e3⟩ := hu _ o ho hn
  exact T.wd.ext' (fun b o ⟨o', e1⟩ e2 => hs b o (T.b1 b o ⟨o', e1⟩ e2 fun z => by rw [z, hLT] at e1; cases e1)) ⟨_, e3, hn⟩
theorem exc_ve : isSubtype (.type "ValueError") (.type "BaseException") = pure true := by rw [isSubtype_type]; kernel_rfl
theorem sub_ve : isSubtype (.type "ValueError") (.type "ValueError") = pure true := by rw [isSubtype_type]; kernel_rfl
theorem tup_ve : isSubtype (.type ((Manifest.find? "ValueError").elim "type" fun x => x.metatype)) (.type "tuple") = pure false := by rw [isSubtype_type]; kernel_rfl

theorem table_empty : Fn g 9 143 [.str (S l0), .str (S l0)] (.lst []) := by
  refine ⟨?_⟩
  intro A X s E vals hR hw hX hr
  have inv := Reps.cons_inv hr
  try clear hr
  (refine ex_2_3 (inv) fun v1 _ eqv r1 rs => ?_)
  (first | subst eqv | cases eqv)
  have inv := Reps.cons_inv rs
  try clear rs
  (refine ex_2_3 (inv) fun v2 _ eqv r2 rs => ?_)
  (first | subst eqv | cases eqv)
  (first | obtain ⟨_, rfl⟩ := Rep.int_inv rs | obtain ⟨_, rfl⟩ := Rep.str_inv rs | obtain rfl := Rep.bool_inv rs | obtain rfl := Reps.nil_inv rs | obtain rfl := Rep.none_inv rs)
  have H := h143 g.w
  (refine ex_1_2 (H.at_) fun o ho hdat => ?_)
  have kin := hw.kin
  have hco := H.co
  have hgen := H.gen
  have hkd := H.kd
  have hsc' := H.scp
  refine wpAny_call (codeAny_call_cells hR.lt (kin _ _ ho) hdat hw.nolimit (codeRec_of kin H.cd) H.bd (show bindArgs (fdAt g.w 143) ⟨[v1, v2], []⟩ = pure [(("words" : Str), v1), (("plain" : Str), v2)] by kernel_rfl) H.clo (fun y hy => ?_) (fun s₁ C => ?_) (by rw [hsc']; exact hco) (by rw [hsc']; exact hgen) (by rw [hsc']; exact hkd))
  · rw [hsc']
    rcases List.mem_cons.mp hy with rfl | hy
    · exact .inl (by kernel_rfl)
    · rw [List.mem_singleton] at hy; subst hy; exact .inl (by kernel_rfl)
  generalize hEn : callEnvC (fdAt g.w 143) s.heap.objs.size 143 = env at C ⊢
  have hsc : env.scope = scB 14 := by rw [← hEn]; exact H.scp
  have hkof : env.kindOf = fun y => (scB 14).names.lookup y := by funext y; unfold Env.kindOf; rw [hsc]
  have hcel : ∀ n, (scB 14).names.lookup n = some .cell → ∃ c, env.cells.lookup n = some c := fun n hn => by rw [← hEn]; exact cellsFrom_has (fdAt g.w 143).scope.names (s.heap.objs.size + 1) [] (.inr (by rw [hsc']; exact hn))
  have he : EnvOk (scB 14) env := ⟨hsc, hkd, by rw [← hEn]; exact H.gl, by rw [← hEn]; exact H.bi, hcel⟩
  have hLT : env.locals = s.heap.objs.size := by rw [← hEn]; rfl
  have hfT : env.frame = some env.locals := by rw [← hEn]; rfl
  have S : Stt g env s X [] [] [] [("words", .v (.str (S l0))), ("plain", .v (.str (S l0)))] s₁ := start hw hX hLT C fun y b hy => by
    rcases lookup_cons hy with ⟨rfl, rfl⟩ | ⟨_, hy⟩
    · refine ⟨v1, _, rfl, r1, .inl ⟨by rw [hkof]; kernel_rfl, ?_⟩⟩
      rw [hkof]; kernel_rfl
    rcases lookup_cons hy with ⟨rfl, rfl⟩ | ⟨_, hy⟩
    · refine ⟨v2, _, rfl, r2, .inl ⟨by rw [hkof]; kernel_rfl, ?_⟩⟩
      rw [hkof]; kernel_rfl
    · simp at hy
  have fT : s.heap.get? env.locals = none := by rw [hLT]; exact get_size _
  have hR' : Room g 8 (A.deeper env) := hR.deeper
  have hfr' : (A.deeper env).frames = some [env, g.le] := Around.frames_deeper (hR.fr rfl)
  generalize A.deeper env = A' at hR' hfr' ⊢
  rw [stB14_eq]
  have hpre : Ex g (scB 14) 8 [("words", .v (.str (Mine.S l0))), ("plain", .v (.str (Mine.S l0)))] preT (okP [l1] l0) := pre_table (by decide) (by decide) http_l0 (by rw [http_l0]; rfl) (by decide) (fun l hl => by rw [List.mem_singleton] at hl; subst hl; exact ⟨by decide, by decide⟩)
  refine wp_append (wpAny_mono (hpre.run env A' s X [] [] [] s₁ _ he hR' hX.xal S) (fun f s2 p => ?_) fun _ _ e => e)
  cases f with
  | ret v => (refine ex_1_2 (p) fun d q _ => ?_); exact q.elim
  | brk => (refine ex_1_2 (p) fun σ' q _ => ?_); exact q.elim
  | cont => (refine ex_1_2 (p) fun σ' q _ => ?_); exact q.elim
  | next =>
  (refine ex_1_2 (p) fun σ' q zq109 => ?_; refine ex_1_1 (zq109) fun X2 S2 => ?_)
  have S2 := S2.sub' (Sub.of (show SubL σ' [("items", .v (.lst ([l1].map strD))), ("words", .v (.str (Mine.S l0)))] from q))
  (refine ex_17_2 (tryT_eq) fun p1 p2 p3 p4 p5 p6 p7 n8 p8 p9 p10 e11 p12 p13 p14 p15 x8 ef ex8 => ?_)
  subst ex8
  rw [ef]
  refine wpAny_execs_cons (wpAny_Try_except ?_)
  refine wpAny_execs_cons (wpAny_Assign_stores ?_ rfl rfl)
  refine wpAny_Call_NameR (glob_wp he S2.wd (by kernel_rfl) (by kernel_rfl : nsIn (KK g.w) mainGlobals "parse_keqv_list" = some (some (.ref 94))) ?_ (by kernel_rfl))
  refine args_wp (k := 8) he hR' S2.wd S2.F (keeps_K (by kernel_rfl)) (Evs.nm1 (by walk_at "lk")) (fun _ _ => rfl) (fun _ => rfl) fun vs s3 q3 r3 => ?_
  have inv := Reps.cons_inv r3
  try clear r3
  (refine ex_2_3 (inv) fun v3 _ eqv r3 rs3 => ?_)
  (first | subst eqv | cases eqv)
  (first | obtain ⟨_, rfl⟩ := Rep.int_inv rs3 | obtain ⟨_, rfl⟩ := Rep.str_inv rs3 | obtain rfl := Rep.bool_inv rs3 | obtain rfl := Reps.nil_inv rs3 | obtain rfl := Rep.none_inv rs3)
  have S3 := S2.kp q3
  obtain ⟨mT, hnT⟩ := S3.F.ns
  (refine ex_3_3 (id hnT) fun oT esT epT hoT hdT _ => ?_)
  have hiT := S3.F.hiL
  have nPT := S3.F.nPF
  refine keqv_raise (k := 7) (l := l1) (by decide) (by decide) hR' hfr' q3.wd S3.F.xok r3 (by rw [hsc, hkd]; decide) hfT ⟨oT, hoT, fun vs z => by rw [hdT] at z; cases z⟩ nPT fun s1 e h' base a0 tk T => ?_
  refine wpAny_looks_onW hfr' hfT T.fly fun h₂ hheld up2 => ?_
  refine wpAny_landsW hheld fun h₃ hfl3 up3 => ?_
  have up03 : s1.heap.UpToSlots h₃ := (T.up.trans up2).trans up3
  have W3 : Wd g { s1 with heap := h₃, toks := tk } := T.wd3 hiT hfl3.1 up03
  refine wpAny_handleBy_builtin (X := "ValueError") (T := "ValueError") (b := true) exc_ve tup_ve sub_ve ?_
  (refine ex_1_2 (hfl3.there) fun ob hob hobc => ?_)
  refine builtin_wp he W3 (by kernel_rfl) (by kernel_rfl) (by kernel_rfl) ⟨rfl, ⟨ob, hob, hobc⟩, ?_⟩ (by kernel_rfl) (by decide)
  rw [if_pos rfl]
  refine wpAny_setFlight_noneW hfl3.1 hfl3.2.2.1 hfl3.2.2.2 fun h₄ st4 _ _ k4 => ?_
  have up04 : s1.heap.UpToSlots h₄ := up03.trans fun b o z hn => ⟨o.slots, k4 b o z hn⟩
  have W4 : Wd g { s1 with heap := h₄, toks := tk } := T.wd3 hiT st4 up04
  have hn1 := T.ext.ns nPT hnT
  have hn4 : h₄.Ns env.locals mT := up04.ns hn1
  (refine ex_1_2 (S3.F.var "words" _ (show Lk _ _ _ by walk_at "lk")) fun u au ru => ?_)
  have kw : env.kindOf "words" = some .local := by rw [hkof]; kernel_rfl
  have hmw : mT "words" = some u := by
    rcases au with ⟨_, m', hn', e'⟩ | ⟨kd, _⟩
    · rw [Heap.Ns.fn hnT hn']; exact e'
    · rw [kw] at kd; rcases kd with kd | kd <;> cases kd
  have ru' : Rep g X2 s3.heap u (.str (Mine.S l0)) := ru
  have inv := Rep.str_inv ru'
  try clear ru'
  obtain ⟨tw, eqv⟩ := inv
  (first | subst eqv | cases eqv)
  refine wpAny_execs_cons (wpAny_Return_some (wpAny_IfExp (wpAny_isTrue_Compare1 (wpAny_Name (wpAny_loadName_local (he.scp ▸ he.kind) kw hn4 hmw ?_) (by kernel_rfl)) (by kernel_rfl))))
  refine wpAny_Constant_str (PyProof.Rows.eq_str (wpAny_pure ?_))
  rw [if_pos (beq_self_eq_true _)]
  refine List_ (wpAny_pure (wpAny_newObj_type ?_ (by show (#[] : Array Value).size ≤ sizeLine; decide)))
  have Kp4 : Kp g s { s1 with heap := h₄, toks := tk } := by
    refine ⟨⟨fun b o n1 n2 e1 => ?_, fun o e1 => ?_⟩, W4⟩
    · exact st4 b o (T.bs b o ((S2.ext.trans q3.ext).at_ b o n1 n2 e1) n1 (fun z => by rw [z, fT] at e1; cases e1) n2)
    · obtain ⟨sl, e2⟩ := ((S2.ext.trans q3.ext).trans T.ext).lf o e1
      (refine ex_1_2 (T.wd.la) fun o2 e3 hn2 => ?_)
      rw [e2] at e3; cases e3
      obtain ⟨sl', e4⟩ := up04 _ _ e2 hn2
      exact ⟨sl', e4⟩
  have Kp5 : Kp g s { s1 with heap := h₄, toks := tk + 1 } := Kp4.trans (.toks Kp4.wd)
  exact ⟨Kp5.trans (.push Kp5.wd), .newLst (hX.kp Kp5) .nil⟩
end
section
variable {g : Gw} {k : Nat} {sc : Scope} {σ σ' : Sto}

noncomputable def sp (c : Nat) : Bool := Unicode.isSpace c
noncomputable def stripL (l : List Nat) : List Nat := ((l.dropWhile sp).reverse.dropWhile sp).reverse
theorem tw_drop {α : Type} (p : α → Bool) (l : List α) : l.drop (l.takeWhile p).length = l.dropWhile p := by
  induction l with
  | nil => rfl
  | cons a l ih =>
    rw [List.takeWhile_cons, List.dropWhile_cons]
    split
    · simpa using ih
    · rfl
theorem rev_take {α : Type} (l : List α) (n : Nat) : l.take (l.length - n) = (l.reverse.drop n).reverse := by
  rw [List.drop_reverse, List.reverse_reverse]
theorem strip_S (l : List Nat) : Txt.strip (S l) = S (stripL l) := by
  unfold Txt.strip
  rw [PySem.W.stripBy_eq]
  unfold PySem.W.stripped
  simp only [if_true]
  rw [show (S l).cps.toList = l from rfl, S_len, tw_drop]
  show Builtin.Str.strSub (S l) _ _ = _
  rw [sub_S, tw_drop]
  congr 1
  unfold stripL
  have h := tw_drop sp (l.dropWhile sp).reverse
  rw [← h, ← rev_take]
  have h1 : (l.dropWhile sp).length = l.length - (l.takeWhile sp).length := by rw [← tw_drop, List.length_drop]
  have h2 : ((l.dropWhile sp).reverse.takeWhile sp).length ≤ (l.dropWhile sp).length := by
    have := (List.takeWhile_sublist sp (l := (l.dropWhile sp).reverse)).length_le
    simpa using this
  show (l.dropWhile sp).take (l.length - ((l.dropWhile sp).reverse.takeWhile sp).length - (l.takeWhile sp).length) = _
  rw [show l.length - ((l.dropWhile sp).reverse.takeWhile sp).length - (l.takeWhile sp).length = (l.dropWhile sp).length - ((l.dropWhile sp).reverse.takeWhile sp).length by lia]
theorem dropWhile_all {l m : List Nat} (h : ∀ c ∈ l, sp c = true) : (l ++ m).dropWhile sp = m.dropWhile sp := by
  induction l with
  | nil => rfl
  | cons a l ih => rw [List.cons_append, List.dropWhile_cons, if_pos (h a (.head _)), ih fun c hc => h c (.tail _ hc)]
theorem stripL_mid {a m b : List Nat} (ha : ∀ c ∈ a, sp c = true) (hb : ∀ c ∈ b, sp c = true) {x y : Nat} (h1 : m.head? = some x) (h2 : m.getLast? = some y) (hx : sp x = false) (hy : sp y = false) : stripL (a ++ m ++ b) = m := by
  unfold stripL
  have hd : m.dropWhile sp = m := by
    cases m with
    | nil => simp at h1
    | cons c m => simp only [List.head?_cons, Option.some.injEq] at h1; subst h1; rw [List.dropWhile_cons, hx]; rfl
  have hm : m ≠ [] := by rintro rfl; simp at h1
  have hd2 : (m ++ b).dropWhile sp = m ++ b := by
    cases m with
    | nil => simp at h1
    | cons c m => simp only [List.head?_cons, Option.some.injEq] at h1; subst h1; rw [List.cons_append, List.dropWhile_cons, hx]; rfl
  rw [List.append_assoc, dropWhile_all ha, hd2, List.reverse_append, dropWhile_all (fun c hc => hb c (by simpa using hc))]
  have hr : m.reverse.dropWhile sp = m.reverse := by
    have : m.reverse.head? = some y := by rw [List.head?_reverse]; exact h2
    generalize m.reverse = q at this
    cases q with
    | nil => simp at this
    | cons c q => simp only [List.head?_cons, Option.some.injEq] at this; subst this; rw [List.dropWhile_cons, hy]; rfl
  rw [hr, List.reverse_reverse]

noncomputable def Seg (w r : List Nat) : Prop := ∀ res part, w.foldl Hp.step ⟨res, part, false, false⟩ = ⟨res, part ++ r, false, false⟩
theorem Seg.nil : Seg [] [] := fun res part => by simp
theorem Seg.app {w r w' r' : List Nat} (a : Seg w r) (b : Seg w' r') : Seg (w ++ w') (r ++ r') := fun res part => by
  rw [List.foldl_append, a, b, List.append_assoc]
theorem Seg.plain {w : List Nat} (h : ∀ c ∈ w, c ≠ 44 ∧ c ≠ 34) : Seg w w := by
  induction w with
  | nil => exact Seg.nil
  | cons c w ih =>
    intro res part
    have h1 := h c (.head _)
    rw [List.foldl_cons]
    have : Hp.step ⟨res, part, false, false⟩ c = ⟨res, part ++ [c], false, false⟩ := by
      unfold Hp.step
      simp [beq_false_of_ne h1.1, beq_false_of_ne h1.2]
    rw [this, ih (fun c hc => h c (.tail _ hc)) res (part ++ [c])]
    simp
set_option tactic.hygienic true in
theorem esc_fold (text : List Nat) : ∀ res part, (escL text).foldl Hp.step ⟨res, part, false, true⟩ = ⟨res, part ++ text, false, true⟩ := by
  induction text with
  | nil => intro res part; simp [escL]
  | cons c t ih =>
    intro res part
    have e : escL (c :: t) = escC c ++ escL t := by simp [escL]
    rw [e, List.foldl_append]
    have : (escC c).foldl Hp.step ⟨res, part, false, true⟩ = ⟨res, part ++ [c], false, true⟩ := by
      unfold escC
      split
      · simp [Hp.step]
      · rename_i hc
        simp only [List.mem_cons, List.not_mem_nil, or_false, not_or] at hc
        simp [Hp.step, beq_false_of_ne hc.1, beq_false_of_ne hc.2.1]
    rw [this, ih]
    simp
theorem Seg.quoted (text : List Nat) : Seg (34 :: (escL text ++ [34])) (34 :: (text ++ [34])) := fun res part => by
  rw [List.foldl_cons, List.foldl_append]
  have : Hp.step ⟨res, part, false, false⟩ 34 = ⟨res, part ++ [34], false, true⟩ := by simp [Hp.step]
  rw [this, esc_fold]
  simp [Hp.step]
noncomputable def commas : List (List Nat) → List Nat
  | [] => []
  | w :: ws => 44 :: (w ++ commas ws)
theorem http_fold : ∀ (ps : List (List Nat × List Nat)), (∀ p ∈ ps, Seg p.1 p.2) → ∀ res part, (commas (ps.map (·.1))).foldl Hp.step ⟨res, part, false, false⟩ = ⟨res ++ (part :: ps.map (·.2)).dropLast, (part :: ps.map (·.2)).getLast (by simp), false, false⟩
  | [], _, res, part => by simp [commas]
  | p :: ps, h, res, part => by
    show (44 :: (p.1 ++ commas (ps.map (·.1)))).foldl Hp.step _ = _
    rw [List.foldl_cons, List.foldl_append]
    have : Hp.step ⟨res, part, false, false⟩ 44 = ⟨res ++ [part], [], false, false⟩ := by simp [Hp.step]
    rw [this, h p (.head _), http_fold ps (fun q hq => h q (.tail _ hq))]
    simp
theorem httpL_segs {w r : List Nat} {ps : List (List Nat × List Nat)} (h0 : Seg w r) (h : ∀ p ∈ ps, Seg p.1 p.2) (hne : (r :: ps.map (·.2)).getLast (by simp) ≠ []) : httpL (w ++ commas (ps.map (·.1))) = r :: ps.map (·.2) := by
  unfold httpL
  rw [List.foldl_append, h0, http_fold ps h, List.nil_append]
  unfold Hp.fin
  have : (((r :: ps.map (·.2)).getLast (by simp)).length != 0) = true := by
    simp only [bne_iff_ne, ne_eq, List.length_eq_zero_iff]; exact hne
  simp only [List.nil_append]
  rw [this]
  exact List.dropLast_concat_getLast _
theorem join_commas (x : List Nat) (xs : List (List Nat)) : joinL [44, 32] (x :: xs) = x ++ commas (xs.map fun y => 32 :: y) := by
  induction xs generalizing x with
  | nil => simp [joinL, commas]
  | cons y ys ih =>
    show x ++ [44, 32] ++ joinL [44, 32] (y :: ys) = _
    rw [ih]
    simp [commas]
end
section
variable {g : Gw} {k : Nat} {sc : Scope} {σ σ' : Sto}

theorem digit_val : ∀ d < 10, (Nat.digitChar d).toNat = 48 + d := by decide
theorem digit_in (d : Nat) (h : d < 10) : 48 + d ∈ [48, 49, 50, 51, 52, 53, 54, 55, 56, 57] := by
  match d, h with
  | 0, _ | 1, _ | 2, _ | 3, _ | 4, _ | 5, _ | 6, _ | 7, _ | 8, _ | 9, _ => decide
theorem numGo_app (l m : List Nat) : ∀ v, numGo (l ++ m) v = numGo m (numGo l v) := by
  induction l with
  | nil => exact fun _ => rfl
  | cons c l ih => exact fun v => ih _
theorem numGo_one {d : Nat} (h : d < 10) (v : Nat) : numGo [48 + d] (v : Int) = 10 * v + d := by
  show (if (0 : Int) ≤ v ∧ 48 + d ∈ [48, 49, 50, 51, 52, 53, 54, 55, 56, 57] then 10 * (v : Int) + ((48 + d : Nat) : Int) - 48 else -1) = _
  rw [if_pos ⟨Int.natCast_nonneg v, digit_in d h⟩]
  omega
theorem numGo_digits (n : Nat) : numGo ((Nat.toDigits 10 n).map Char.toNat) 0 = n := by
  induction n using Nat.strongRecOn with
  | _ n ih =>
    by_cases h : n < 10
    · rw [Nat.toDigits_of_lt_base h, List.map_singleton, digit_val n h]
      exact (numGo_one h 0).trans (by omega)
    · rw [Nat.toDigits_of_base_le (by decide) (by omega), List.map_append, numGo_app, ih _ (by omega), List.map_singleton, digit_val _ (by omega), numGo_one (by omega)]
      omega
theorem numOk_of {i : Int} (h : 0 ≤ i ∧ i ≤ 1000) : (∀ c ∈ numS i, 48 ≤ c ∧ c ≤ 57) ∧ numS i ≠ [] ∧ numL (numS i) = i := by
  obtain ⟨n, rfl⟩ := Int.eq_ofNat_of_zero_le h.1
  rw [numS_nat]
  have hn : (Nat.toDigits 10 n).map Char.toNat ≠ [] := fun e => Nat.toDigits_ne_nil (List.map_eq_nil_iff.mp e)
  refine ⟨fun c hc => ?_, hn, ?_⟩
  · obtain ⟨x, hx, rfl⟩ := List.mem_map.mp hc
    have := Nat.isDigit_of_mem_toDigits (by decide) (by decide) hx
    simp only [Char.isDigit, Bool.and_eq_true, decide_eq_true_eq] at this
    exact ⟨this.1, this.2⟩
  · unfold numL
    rw [if_neg hn]
    exact numGo_digits n
noncomputable def textR (r : Row) : List Nat := numS r.2.1 ++ [44, 32] ++ numS r.2.2
theorem esc_id {l : List Nat} (h : ∀ c ∈ l, c ≠ 92 ∧ c ≠ 34 ∧ c ≠ 61) : escL l = l := by
  induction l with
  | nil => rfl
  | cons c l ih =>
    have h1 := h c (.head _)
    have e : escL (c :: l) = escC c ++ escL l := by simp [escL]
    rw [e, ih fun c hc => h c (.tail _ hc)]
    unfold escC
    rw [if_neg (by simp [h1.1, h1.2.1, h1.2.2])]
    rfl
theorem textR_chars {r : Row} (h : RowOk r) : ∀ c ∈ textR r, (48 ≤ c ∧ c ≤ 57) ∨ c = 44 ∨ c = 32 := by
  intro c hc
  unfold textR at hc
  simp only [List.mem_append, List.mem_cons, List.not_mem_nil, or_false] at hc
  rcases hc with (hc | hc) | hc
  · exact .inl ((numOk_of h.2.1).1 c hc)
  · exact .inr hc
  · exact .inl ((numOk_of h.2.2).1 c hc)
theorem quotedRow_eq {r : Row} (h : RowOk r) : quotedRow r = numS r.1 ++ 61 :: (34 :: (textR r ++ [34])) := by
  unfold quotedRow quotedL
  rw [show numS r.2.1 ++ [44, 32] ++ numS r.2.2 = textR r from rfl, esc_id]
  · simp
  · intro c hc
    rcases textR_chars h c hc with h | rfl | rfl
    · lia
    · decide
    · decide
theorem digits_seg {i : Int} (h : 0 ≤ i ∧ i ≤ 1000) : Seg (numS i) (numS i) := Seg.plain fun c hc => by have := (numOk_of h).1 c hc; lia
theorem quotedRow_seg {r : Row} (h : RowOk r) : Seg (quotedRow r) (quotedRow r) := by
  have h1 : quotedRow r = numS r.1 ++ ([61] ++ 34 :: (escL (textR r) ++ [34])) := by unfold quotedRow quotedL textR; simp
  have h2 : quotedRow r = numS r.1 ++ ([61] ++ 34 :: (textR r ++ [34])) := by rw [quotedRow_eq h]; simp
  have := (digits_seg h.1).app ((Seg.plain (w := [61]) (by simp)).app (Seg.quoted (textR r)))
  rw [← h1, ← h2] at this
  exact this
noncomputable def headL (n : Nat) : List Nat := pfxL n ++ [32]
theorem headL_seg (n : Nat) : Seg (headL n) (headL n) := Seg.plain fun c hc => by
  unfold headL pfxL at hc
  split at hc <;> (simp at hc; omega)
noncomputable def itemsL : List Row → List (List Nat)
  | [] => []
  | r :: rs => (headL (rs.length + 1) ++ quotedRow r) :: rs.map quotedRow
noncomputable def keysL : List Row → List (List Nat)
  | [] => []
  | r :: rs => (headL (rs.length + 1) ++ numS r.1) :: rs.map fun r => numS r.1
theorem sp_digit {c : Nat} (h : 48 ≤ c ∧ c ≤ 57) : sp c = false := by
  have : (List.range 58).all (fun c => decide (48 ≤ c) == false || sp c == false) = true := by decide +kernel
  have := List.all_eq_true.mp this c (by simp; lia)
  simpa [h.1] using this
theorem sp32 : sp 32 = true := by decide +kernel
theorem sp34 : sp 34 = false := by decide +kernel
theorem sp97 : sp 97 = false := by decide +kernel
theorem headL_hd (n : Nat) (l : List Nat) : (headL n ++ l).head? = some 97 := by unfold headL pfxL; rfl
theorem num_hd {i : Int} (h : 0 ≤ i ∧ i ≤ 1000) (l : List Nat) : ∃ c, (numS i ++ l).head? = some c ∧ sp c = false := by
  (refine ex_0_3 (numOk_of h) fun h1 h2 _ => ?_)
  cases e : numS i with
  | nil => exact absurd e h2
  | cons c r => exact ⟨c, rfl, sp_digit (h1 c (by rw [e]; exact .head _))⟩
theorem num_last {i : Int} (h : 0 ≤ i ∧ i ≤ 1000) (l : List Nat) : ∃ c, (l ++ numS i).getLast? = some c ∧ sp c = false := by
  (refine ex_0_3 (numOk_of h) fun h1 h2 _ => ?_)
  refine ⟨(numS i).getLast h2, by rw [List.getLast?_append, List.getLast?_eq_some_getLast h2]; rfl, sp_digit (h1 _ (List.getLast_mem h2))⟩
theorem stripL_id {m : List Nat} {x y : Nat} (h1 : m.head? = some x) (h2 : m.getLast? = some y) (hx : sp x = false) (hy : sp y = false) : stripL m = m := by
  have := stripL_mid (a := []) (b := []) (m := m) (by simp) (by simp) h1 h2 hx hy
  simpa using this
theorem stripL_32 {m : List Nat} {x y : Nat} (h1 : m.head? = some x) (h2 : m.getLast? = some y) (hx : sp x = false) (hy : sp y = false) : stripL (32 :: m) = m := by
  have := stripL_mid (a := [32]) (b := []) (m := m) (by simp [sp32]) (by simp) h1 h2 hx hy
  simpa using this
theorem quotedRow_ends {r : Row} (h : RowOk r) (l : List Nat) : (∃ c, (quotedRow r ++ l).head? = some c ∧ sp c = false) ∧ (l ++ quotedRow r).getLast? = some 34 := by
  rw [quotedRow_eq h]
  refine ⟨?_, ?_⟩
  · rw [List.append_assoc]; exact num_hd h.1 _
  · have : l ++ (numS r.1 ++ 61 :: 34 :: (textR r ++ [34])) = (l ++ numS r.1 ++ 61 :: 34 :: textR r) ++ [34] := by simp
    rw [this, List.getLast?_append]; rfl
theorem http_words {t : List Row} (hne : t ≠ []) (h : ∀ r ∈ t, RowOk r) : (httpL (wordsL t)).map stripL = itemsL t := by
  cases t with
  | nil => exact absurd rfl hne
  | cons r rs =>
    have e : wordsL (r :: rs) = (headL (rs.length + 1) ++ quotedRow r) ++ commas ((rs.map fun q => (32 :: quotedRow q, 32 :: quotedRow q)).map (·.1)) := by
      unfold wordsL
      rw [List.map_cons, join_commas, List.map_map, List.map_map, List.length_cons]
      unfold headL
      simp [Function.comp_def]
    have hseg : ∀ p ∈ rs.map (fun q => (32 :: quotedRow q, 32 :: quotedRow q)), Seg p.1 p.2 := fun p hp => by
      (refine ex_1_2 (List.mem_map.mp hp) fun q hq zq110 => ?_; (first | subst zq110 | cases zq110))
      exact (Seg.plain (w := [32]) (by simp)).app (quotedRow_seg (h q (.tail _ hq)))
    rw [e, httpL_segs ((headL_seg _).app (quotedRow_seg (h r (.head _)))) hseg]
    · rw [List.map_cons, List.map_map, List.map_map]
      unfold itemsL
      congr 1
      · exact stripL_id (headL_hd _ _) (quotedRow_ends (h r (.head _)) _).2 sp97 sp34
      · refine List.map_congr_left fun q hq => ?_
        obtain ⟨⟨c, h1, h2⟩, h3⟩ := quotedRow_ends (h q (.tail _ hq)) []
        rw [List.append_nil] at h1
        rw [List.nil_append] at h3
        exact stripL_32 h1 h3 h2 sp34
    · intro z
      have hm := List.getLast_mem (l := ((headL (rs.length + 1) ++ quotedRow r) :: (rs.map fun q => (32 :: quotedRow q, 32 :: quotedRow q)).map (·.2))) (by simp)
      rw [z] at hm
      simp only [List.map_map, List.mem_cons, List.mem_map, Function.comp_apply] at hm
      rcases hm with hm | ⟨q, _, hm⟩
      · unfold headL at hm; simp at hm
      · cases hm
theorem http_plain {t : List Row} (hne : t ≠ []) (h : ∀ r ∈ t, RowOk r) : (httpL (headL t.length ++ joinL [44, 32] (t.map fun r => numS r.1))).map stripL = keysL t := by
  cases t with
  | nil => exact absurd rfl hne
  | cons r rs =>
    have e : headL (r :: rs).length ++ joinL [44, 32] ((r :: rs).map fun r => numS r.1) = (headL (rs.length + 1) ++ numS r.1) ++ commas ((rs.map fun q => (32 :: numS q.1, 32 :: numS q.1)).map (·.1)) := by
      rw [List.map_cons, join_commas, List.map_map, List.map_map, List.length_cons]
      simp [Function.comp_def]
    have hseg : ∀ p ∈ rs.map (fun q => (32 :: numS q.1, 32 :: numS q.1)), Seg p.1 p.2 := fun p hp => by
      (refine ex_1_2 (List.mem_map.mp hp) fun q hq zq111 => ?_; (first | subst zq111 | cases zq111))
      exact (Seg.plain (w := [32]) (by simp)).app (digits_seg (h q (.tail _ hq)).1)
    rw [e, httpL_segs ((headL_seg _).app (digits_seg (h r (.head _)).1)) hseg]
    · rw [List.map_cons, List.map_map, List.map_map]
      unfold keysL
      congr 1
      · (refine ex_1_2 (num_last (h r (.head _)).1 (headL (rs.length + 1))) fun c h1 h2 => ?_)
        exact stripL_id (headL_hd _ _) h1 sp97 h2
      · refine List.map_congr_left fun q hq => ?_
        (refine ex_1_2 (num_hd (h q (.tail _ hq)).1 []) fun c h1 h2 => ?_)
        (refine ex_1_2 (num_last (h q (.tail _ hq)).1 []) fun c' h3 h4 => ?_)
        rw [List.append_nil] at h1
        rw [List.nil_append] at h3
        exact stripL_32 h1 h3 h2 h4
    · intro z
      have hm := List.getLast_mem (l := ((headL (rs.length + 1) ++ numS r.1) :: (rs.map fun q => (32 :: numS q.1, 32 :: numS q.1)).map (·.2))) (by simp)
      rw [z] at hm
      simp only [List.map_map, List.mem_cons, List.mem_map, Function.comp_apply] at hm
      rcases hm with hm | ⟨q, _, hm⟩
      · unfold headL at hm; simp at hm
      · cases hm
theorem keys_of_items {t : List Row} (h : ∀ r ∈ t, RowOk r) : (itemsL t).map keyL = keysL t := by
  have hk : ∀ {r : Row}, RowOk r → 61 ∉ numS r.1 := fun hr hc => by have := (numOk_of hr.1).1 61 hc; lia
  have hh : ∀ n, 61 ∉ headL n := fun n hc => by unfold headL pfxL at hc; split at hc <;> simp at hc
  cases t with
  | nil => rfl
  | cons r rs =>
    unfold itemsL keysL
    rw [List.map_cons, List.map_map]
    congr 1
    · rw [quotedRow_eq (h r (.head _)), ← List.append_assoc]
      exact keyL_app _ fun hc => (List.mem_append.mp hc).elim (hh _) (hk (h r (.head _)))
    · refine List.map_congr_left fun q hq => ?_
      simp only [Function.comp_apply]
      rw [quotedRow_eq (h q (.tail _ hq))]
      exact keyL_app _ (hk (h q (.tail _ hq)))
end
section
variable {g : Gw} {k : Nat} {sc : Scope} {σ σ' : Sto}

noncomputable def valR (r : Row) : List Nat := 34 :: (textR r ++ [34])
noncomputable def kvsL : List Row → List (List Nat × List Nat)
  | [] => []
  | r :: rs => (headL (rs.length + 1) ++ numS r.1, valR r) :: rs.map fun r => (numS r.1, valR r)
noncomputable def pairsL : List Row → List (List Nat × List Nat)
  | [] => []
  | r :: rs => (headL (rs.length + 1) ++ numS r.1, textR r) :: rs.map fun r => (numS r.1, textR r)
theorem clip_nat (v d n : Nat) (h : v ≤ n) : clipN (some (v : Int)) d n = v := by
  simp [clipN]; lia
theorem unq_val (t : List Nat) : unq (34 :: (t ++ [34])) = t := by
  unfold unq
  have h1 : (34 :: (t ++ [34])).head? = some 34 := rfl
  have h2 : (34 :: (t ++ [34])).getLast? = some 34 := by
    rw [show 34 :: (t ++ [34]) = (34 :: t) ++ [34] by simp, List.getLast?_append]; rfl
  rw [if_pos ⟨h1, h2⟩]
  unfold cut
  have hl : (34 :: (t ++ [34])).length = t.length + 2 := by simp
  have a : clipN (some 1) 0 (34 :: (t ++ [34])).length = 1 := by rw [hl]; simp [clipN]; lia
  have b : clipN (some (-1)) (34 :: (t ++ [34])).length (34 :: (t ++ [34])).length = t.length + 1 := by rw [hl]; simp [clipN]; lia
  rw [a, b]
  simp
theorem items_kvs {t : List Row} (h : ∀ r ∈ t, RowOk r) : itemsL t = (kvsL t).map fun p => p.1 ++ 61 :: p.2 := by
  cases t with
  | nil => rfl
  | cons r rs =>
    show (headL (rs.length + 1) ++ quotedRow r) :: rs.map quotedRow = ((headL (rs.length + 1) ++ numS r.1, valR r) :: rs.map fun r => (numS r.1, valR r)).map _
    rw [List.map_cons, List.map_map]
    congr 1
    · rw [quotedRow_eq (h r (.head _))]; simp [valR]
    · refine List.map_congr_left fun q hq => ?_
      rw [quotedRow_eq (h q (.tail _ hq))]; rfl
theorem putL_new {K V : Type} [DecidableEq K] (fs : List (K × V)) (k : K) (v : V) (h : k ∉ fs.map (·.1)) : putL fs k v = fs ++ [(k, v)] := by
  unfold putL
  rw [if_neg]
  intro ha
  rw [List.any_eq_true] at ha
  (refine ex_1_2 (ha) fun p hp he => ?_)
  rw [decide_eq_true_eq] at he
  exact h (List.mem_map.mpr ⟨p, hp, he⟩)
theorem kq_fold : ∀ (l fs : List (List Nat × List Nat)), ((fs ++ l).map (·.1)).Nodup → l.foldl kqPut fs = fs ++ l.map fun p => (p.1, unq p.2)
  | [], fs, _ => by simp
  | p :: l, fs, h => by
    have hn : p.1 ∉ fs.map (·.1) := by
      rw [List.map_append, List.map_cons] at h
      have := (List.nodup_append.mp h).2.2
      intro hm
      exact this p.1 hm p.1 (.head _) rfl
    rw [List.foldl_cons]
    unfold kqPut
    rw [putL_new _ _ _ hn]
    have := kq_fold l (fs ++ [(p.1, unq p.2)]) (by
      simp only [List.map_append, List.map_cons, List.map_nil, List.append_assoc, List.cons_append, List.nil_append] at h ⊢
      exact h)
    unfold kqPut at this
    rw [this]
    simp
theorem num_inj {i j : Int} (hi : 0 ≤ i ∧ i ≤ 1000) (hj : 0 ≤ j ∧ j ≤ 1000) (h : numS i = numS j) : i = j := by
  rw [← (numOk_of hi).2.2, ← (numOk_of hj).2.2, h]
theorem nodup_keys : ∀ {t : List Row}, (∀ r ∈ t, RowOk r) → (t.map (·.1)).Nodup → (t.map fun r => numS r.1).Nodup
  | [], _, _ => by simp
  | r :: t, h, hd => by
    rw [List.map_cons, List.nodup_cons] at hd ⊢
    refine ⟨fun hm => hd.1 ?_, nodup_keys (fun q hq => h q (.tail _ hq)) hd.2⟩
    (refine ex_1_2 (List.mem_map.mp hm) fun q hq e => ?_)
    exact List.mem_map.mpr ⟨q, hq, num_inj (h q (.tail _ hq)).1 (h r (.head _)).1 e⟩
theorem kvs_fold {t : List Row} (h : ∀ r ∈ t, RowOk r) (hd : (t.map (·.1)).Nodup) : (kvsL t).foldl kqPut [] = pairsL t := by
  cases t with
  | nil => rfl
  | cons r rs =>
    rw [List.map_cons, List.nodup_cons] at hd
    rw [kq_fold]
    · unfold kvsL pairsL
      simp only [List.nil_append, List.map_cons, List.map_map]
      congr 1
      · rw [valR, unq_val]
      · refine List.map_congr_left fun q _ => ?_
        simp only [Function.comp_apply]
        rw [valR, unq_val]
    · rw [List.nil_append]
      unfold kvsL
      rw [List.map_cons, List.map_map, List.nodup_cons]
      refine ⟨fun hm => ?_, nodup_keys (fun q hq => h q (.tail _ hq)) hd.2⟩
      (refine ex_1_2 (List.mem_map.mp hm) fun q hq e => ?_)
      have h1 := headL_hd (rs.length + 1) (numS r.1)
      have h2 : (numS q.1).head? = some 97 := by simp only [Function.comp_apply] at e; rw [e]; exact h1
      have h3 := List.mem_of_mem_head? h2
      have := (numOk_of (h q (.tail _ hq)).1).1 97 h3
      lia
theorem words_join {t : List Row} (hne : t ≠ []) : joinL [44, 32] (itemsL t) = wordsL t := by
  cases t with
  | nil => exact absurd rfl hne
  | cons r rs =>
    unfold itemsL wordsL
    rw [join_commas, List.map_cons, join_commas, List.length_cons]
    unfold headL
    simp
theorem words_head {t : List Row} : cut (wordsL t) none (some ((headL t.length).length : Int)) = headL t.length := by
  have e : wordsL t = headL t.length ++ joinL [44, 32] (t.map quotedRow) := by unfold wordsL headL; simp
  rw [e]
  unfold cut
  rw [clip_nat _ _ _ (by simp)]
  simp [clipN]
theorem key_cut (n : Nat) (l : List Nat) : cut (headL n ++ l) (some ((headL n).length : Int)) none = l := by
  unfold cut
  rw [clip_nat _ _ _ (by simp)]
  simp [clipN]
theorem http_text {r : Row} (h : RowOk r) : (httpL (textR r)).map stripL = [numS r.2.1, numS r.2.2] := by
  have e : textR r = numS r.2.1 ++ commas ([(32 :: numS r.2.2, 32 :: numS r.2.2)].map (·.1)) := by unfold textR; simp [commas]
  rw [e, httpL_segs (digits_seg h.2.1) (fun p hp => by
    rw [List.mem_singleton] at hp; subst hp
    exact (Seg.plain (w := [32]) (by simp)).app (digits_seg h.2.2)) (by simp)]
  simp only [List.map_cons, List.map_nil]
  (refine ex_1_2 (num_hd h.2.1 []) fun c1 a1 b1 => ?_)
  (refine ex_1_2 (num_last h.2.1 []) fun c2 a2 b2 => ?_)
  (refine ex_1_2 (num_hd h.2.2 []) fun c3 a3 b3 => ?_)
  (refine ex_1_2 (num_last h.2.2 []) fun c4 a4 b4 => ?_)
  rw [List.append_nil] at a1 a3
  rw [List.nil_append] at a2 a4
  rw [stripL_id a1 a2 b1 b2, stripL_32 a3 a4 b3 b4]
theorem head_one (n : Nat) : headL n = if n = 1 ∨ n = 0 then l0 else [97, 116, 32, 116, 97, 98, 32, 115, 105, 122, 101, 115, 32] := by
  unfold headL pfxL l0
  by_cases h : 1 < n
  · rw [if_pos h, if_neg (by lia)]; rfl
  · rw [if_neg h, if_pos (by lia)]; rfl
theorem items_len (t : List Row) : (itemsL t).length = t.length := by
  cases t with
  | nil => rfl
  | cons r rs => simp [itemsL]
theorem pairs_len (t : List Row) : (pairsL t).length = t.length := by
  cases t with
  | nil => rfl
  | cons r rs => simp [pairsL]
theorem words_len {t : List Row} (hl : t.length ≤ 1000) (h : ∀ r ∈ t, RowOk r) : (wordsL t).length ≤ 50000 := by
  unfold wordsL
  have h1 := joinL_len [44, 32] (t.map quotedRow)
  have h2 := sum_le (fun r : Row => (quotedRow r).length) 40 t (fun r hr => quoted_len (h r hr))
  have h3 : (pfxL t.length).length ≤ 12 := by unfold pfxL; split <;> simp
  rw [List.map_map, List.length_map] at h1
  simp only [List.length_append, List.length_cons, List.length_nil, Function.comp_def] at h1 ⊢
  lia
end
section
variable {g : Gw} {k : Nat} {sc : Scope} {σ σ' : Sto}

theorem Ex.try_ {body rest : List Stmt} {h₀ : ExceptHandler} {hs : List ExceptHandler} {pos : Pos} {Q : Fl → Prop} (h : Ex g sc k σ body (Kq g sc k rest Q)) : Ex g sc k σ (.Try body (h₀ :: hs) [] [] pos :: rest) Q := by
  refine Ex.go ⟨fun env A s₀ X₀ pr tv td s E hE hR hX S => wpAny_Try_except (wpAny_mono (h.run env A s₀ X₀ pr tv td s _ hE hR hX S) (fun f s' p => ?_) fun _ _ e => e)⟩
  cases f with
  | next => exact wpAny_execs_nil p
  | brk => exact p
  | cont => exact p
  | ret v => exact p
theorem Lp.sub2 {x y : Str} {body rest : List Stmt} {Q : Fl → Prop} {l : List D} (h : Lp g sc k (bnd2 x y) body (Kq g sc k rest Q) l σ) (q : SubL σ' σ) : Lp g sc k (bnd2 x y) body (Kq g sc k rest Q) l σ' :=
  Lp.sub (bnd := bnd2 x y) (fun d _ _ hs => by
    unfold bnd2
    split
    · exact Sub.cons (Sub.cons hs)
    · exact hs) (fun _ _ hs h => Ex.sub h hs) h (Sub.of q)
theorem Ex.for2 {x y : Str} {px py : Pos} {x1} {pt pos : Pos} {iter : Expr} {body rest : List Stmt} {Q : Fl → Prop} {rs : List (D × D)} {T : Expr → Prop} (hi : ItE g sc k σ iter (rs.map fun r => .tup [r.1, r.2]) T) (hT : T (.Tuple [.Name x px, .Name y py] x1 pt)) (h : Lp g sc k (bnd2 x y) body (Kq g sc k rest Q) (rs.map fun r => .tup [r.1, r.2]) σ)
    (hx : sc.names.lookup x = some .local ∨ sc.names.lookup x = some .cell := by walk_at "wc")
    (hy : sc.names.lookup y = some .local ∨ sc.names.lookup y = some .cell := by walk_at "wc")
    (hs : ∀ env x, foldedSetIterable iter env x = pure x := by walk_at "w2") : Ex g sc k σ (.For (.Tuple [.Name x px, .Name y py] x1 pt) iter body [] pos :: rest) Q := by
  have ha : ∀ (r : D × D) (σ' : Sto), Ass g sc k [.Name x px, .Name y py] [r.1, r.2] σ' (bnd2 x y (.tup [r.1, r.2]) σ') [x, y] := fun r σ' => Ass.cons (Ass.cons Ass.nil hy) hx
  refine Ex.for_ (bnd2 x y) [x, y] hi hT (fun d hd σ' => ?_) (fun d hd σ' w e h => ?_) h hs
  · (refine ex_1_2 (List.mem_map.mp hd) fun r _ zq112 => ?_; (first | subst zq112 | cases zq112))
    exact As.tup (ha r σ')
  · (refine ex_1_2 (List.mem_map.mp hd) fun r _ zq113 => ?_; (first | subst zq113 | cases zq113))
    exact (ha r σ').mm w e h
noncomputable def bodyQ : List Stmt := match postT with
  | [_, _, _, .For _ _ body _ _, _] => body
  | _ => []
theorem Cl.cast {f : Value} {ds : List D} {d d' : D} (h : Cl g k f ds d) (hd : d = d') : Cl g k f ds d' := hd ▸ h
theorem rows_ok (l : List Row) : (D.lst (l.map rowD)).ok 9 = true := by
  have : D.oks 8 (l.map rowD) = true := by
    induction l with
    | nil => simp [D.oks]
    | cons r l ih => rw [List.map_cons, D.oks, Bool.and_eq_true]; exact ⟨by simp [rowD, D.ok, D.oks], ih⟩
  simpa [D.ok] using this
theorem eqv_nilR (l : List Row) : PyData.eqv (D.lst (l.map rowD)).py (D.lst []).py = l.isEmpty := by cases l <;> rfl
noncomputable abbrev tbS (acc : List Row) (n : Nat) : Sto := [("rows", .m (.lst (acc.map rowD))), ("head", .v (.str (S (headL n))))]
noncomputable abbrev pairD (p : List Nat × List Nat) : D × D := (.str (S p.1), strD p.2)
theorem tab_turn {rest : List Stmt} {n : Nat} {acc : List Row} {r : Row} {key : List Nat} {Q : Fl → Prop} (h : RowOk r) (hk : key = if acc = [] then headL n ++ numS r.1 else numS r.1) (hacc : acc.length ≤ 1000)
    (hq : ∀ σ', SubL σ' (tbS (acc ++ [r]) n) → Q (.next σ')) : Ex g (scB 14) (k + 1) (("value", .v (strD (textR r))) :: ("key", .v (.str (S key))) :: tbS acc n) bodyQ Q := by
  have hnl := numI_len h.1
  have hhl : (headL n).length ≤ 13 := by rw [head_one]; split <;> decide
  have hkl : key.length ≤ 20 := by rw [hk]; split <;> (try rw [List.length_append]) <;> lia
  have htl : (textR r).length ≤ 20 := by unfold textR; have := numI_len h.2.1; have := numI_len h.2.2; simp; lia
  have eh : (httpL (textR r)).map (fun p => D.str (Txt.strip (S p))) = [strD (numS r.2.1), strD (numS r.2.2)] := by
    have := congrArg (List.map strD) (http_text h)
    rw [List.map_map] at this
    rw [show (fun p => D.str (Txt.strip (S p))) = strD ∘ stripL from funext fun p => by rw [strip_S]; rfl]
    exact this
  refine Ex.assign (d := .lst ([numS r.1, numS r.2.1, numS r.2.2].map strD)) (Ev.bin (a := .lst [strD (numS r.1)]) (Ev.list (Evs.cons (Ev.ifExp (b := acc.isEmpty) (Tr.thaw (x := "rows") (d := .lst (acc.map rowD)) (by walk_at "lk") (Tr.cast (Tr.cmp (by walk_at "nm") (Ev.list Evs.nil) (Cmp.eqD (rows_ok acc) (by simp [D.ok, D.oks]))) (eqv_nilR acc))) (fun he => ?_) (fun he => ?_)) Evs.nil)) (Ev.cast (Ev.callG (Evs.nm1 (by walk_at "lk")) (fn_http (by (exact Nat.le_trans ‹_› (Nat.le_of_ble_eq_true rfl))))) (by rw [eh]; rfl)) (Bin.addL (show 3 ≤ sizeLine by decide))) ?_
  · rw [List.isEmpty_iff] at he
    rw [if_pos he] at hk
    refine Ev.cast (Ev.sliceS (lo := some ((headL n).length : Int)) (hi := none) (x := S key) (by walk_at "nm") (Pt.yes (Ev.cast (Ev.b1 (.builtin "len") (by walk_at "nm") (Cl.lenS (by rw [S_len]; exact Nat.le_trans hhl (by decide)))) (by rw [S_len]))) Pt.no (by rw [S_len]; exact Nat.le_trans hkl (by decide))) ?_
    rw [S_cut, hk, key_cut]
  · rw [if_neg (by rw [← List.isEmpty_iff, he]; decide)] at hk
    refine Ev.cast (d := .str (S key)) (by walk_at "nm") (by rw [hk])
  refine Ex.append (d := rowD r) (by walk_at "lk") (Ev.b1 (.type "tuple") (Ev.compA (σc := []) strD decL decL_str (fun l => .int (numL l)) (ItE.of (d := .lst ([numS r.1, numS r.2.1, numS r.2.2].map strD)) (by walk_at "nm") It.lst) (by walk_at "cap") (show 3 ≤ sizeLine by decide) (fun l hl => Ev.callG (Evs.nm1 (by walk_at "lk")) fn_number)) (Cl.cast (Cl.tupleL (show 3 ≤ sizeLine by decide)) ?_)) (by rw [List.length_map]; exact Nat.le_trans hacc (by decide)) ?_
  · simp only [List.map_cons, List.map_nil]
    rw [(numOk_of h.1).2.2, (numOk_of h.2.1).2.2, (numOk_of h.2.2).2.2]
    rfl
  · refine Ex.nil (hq _ ?_)
    rw [show acc.map rowD ++ [rowD r] = (acc ++ [r]).map rowD by simp]
    walk_at "sub"
end
section
variable {g : Gw} {k : Nat} {sc : Scope} {σ σ' : Sto}

theorem Ex.app {a b : List Stmt} {Q : Fl → Prop} (h : Ex g sc k σ a (Kq g sc k b Q)) : Ex g sc k σ (a ++ b) Q :=
  ⟨fun env A s₀ X₀ pr tv td s E hE hR hX S => wp_append (wpAny_mono (h.run env A s₀ X₀ pr tv td s E hE hR hX S) (fun f s' p => by
    cases f with
    | next => (refine ex_1_2 (p) fun σ' q S' => ?_); exact Ex.run q env A s₀ X₀ pr tv td s' E hE hR hX S'
    | brk => exact p
    | cont => exact p
    | ret v => exact p) fun _ _ e => e)⟩
noncomputable abbrev tupP (p : List Nat × List Nat) : D := .tup [.str (S p.1), strD p.2]
theorem tab_loop {n : Nat} {rest : List Stmt} {Q : Fl → Prop} : ∀ (l acc : List Row), acc ≠ [] → (∀ r ∈ l, RowOk r) → acc.length + l.length ≤ 1000 → Ex g (scB 14) (k + 1) (tbS (acc ++ l) n) rest Q →
    Lp g (scB 14) (k + 1) (bnd2 "key" "value") bodyQ (Kq g (scB 14) (k + 1) rest Q) ((l.map fun r => (numS r.1, textR r)).map tupP) (tbS acc n)
  | [], acc, _, _, _, h => by rw [List.append_nil] at h; exact h
  | r :: l, acc, hne, hr, hl, h => by
    simp only [List.length_cons] at hl
    have ih := tab_loop (n := n) (rest := rest) (Q := Q) l (acc ++ [r]) (by simp) (fun q hq => hr q (.tail _ hq)) (by simp; lia) (by rw [List.append_assoc]; exact h)
    exact tab_turn (rest := rest) (hr r (.head _)) (by rw [if_neg hne]) (by lia) fun σ' hs => Lp.sub2 ih hs
theorem http_D {l : List Nat} {ls : List (List Nat)} (h : (httpL l).map stripL = ls) : (httpL l).map (fun p => Txt.strip (S p)) = ls.map S := by
  rw [← h, List.map_map]
  refine List.map_congr_left fun p _ => ?_
  rw [strip_S]; rfl
theorem head_len (n : Nat) : (headL n).length ≤ 13 := by rw [head_one]; split <;> decide
theorem items_chars {t : List Row} (hr : ∀ r ∈ t, RowOk r) : ∀ l ∈ itemsL t, l.length ≤ 60 ∧ ∀ c ∈ l, c < 1114112 := by
  have hd : ∀ {i : Int}, 0 ≤ i ∧ i ≤ 1000 → ∀ c ∈ numS i, c < 1114112 := fun hi c hc => by have := (numOk_of hi).1 c hc; lia
  have hq : ∀ {r : Row}, RowOk r → ∀ c ∈ quotedRow r, c < 1114112 := fun {r} h c hc => by
    rw [quotedRow_eq h] at hc
    simp only [List.mem_append, List.mem_cons, List.not_mem_nil, or_false] at hc
    rcases hc with hc | hc | hc | hc | hc
    · exact hd h.1 c hc
    · lia
    · lia
    · rcases textR_chars h c hc with h | h | h <;> lia
    · lia
  have hh : ∀ n, ∀ c ∈ headL n, c < 1114112 := fun n c hc => by
    rw [head_one] at hc
    split at hc
    · unfold l0 at hc; simp at hc; omega
    · simp at hc; omega
  intro l hl
  cases t with
  | nil => simp [itemsL] at hl
  | cons r rs =>
    unfold itemsL at hl
    rcases List.mem_cons.mp hl with rfl | hl
    · refine ⟨?_, fun c hc => ?_⟩
      · have := quoted_len (hr r (.head _)); have := head_len (rs.length + 1); rw [List.length_append]; lia
      · rcases List.mem_append.mp hc with hc | hc
        · exact hh _ c hc
        · exact hq (hr r (.head _)) c hc
    · (refine ex_1_2 (List.mem_map.mp hl) fun q hq' zq114 => ?_; (first | subst zq114 | cases zq114))
      exact ⟨by have := quoted_len (hr q (.tail _ hq')); (exact Nat.le_trans ‹_› (Nat.le_of_ble_eq_true rfl)), hq (hr q (.tail _ hq'))⟩
theorem kvs_ok {t : List Row} (hr : ∀ r ∈ t, RowOk r) : ∀ p ∈ kvsL t, KvOk p := by
  have hk : ∀ {r : Row}, RowOk r → 61 ∉ numS r.1 := fun hr hc => by have := (numOk_of hr.1).1 61 hc; lia
  have hh : ∀ n, 61 ∉ headL n := fun n hc => by unfold headL pfxL at hc; split at hc <;> simp at hc
  have htl : ∀ {r : Row}, RowOk r → (valR r).length ≤ 20 := fun {r} h => by unfold valR textR; have := numI_len h.2.1; have := numI_len h.2.2; simp; lia
  intro p hp
  cases t with
  | nil => simp [kvsL] at hp
  | cons r rs =>
    unfold kvsL at hp
    rcases List.mem_cons.mp hp with rfl | hp
    · have h1 := hr r (.head _)
      exact ⟨fun hc => (List.mem_append.mp hc).elim (hh _) (hk h1), by simp [valR], by have := numI_len h1.1; have := head_len (rs.length + 1); simp only [List.length_append]; lia, by have := htl h1; simp only; (exact Nat.le_trans ‹_› (Nat.le_of_ble_eq_true rfl))⟩
    · (refine ex_1_2 (List.mem_map.mp hp) fun q hq zq115 => ?_; (first | subst zq115 | cases zq115))
      have h1 := hr q (.tail _ hq)
      exact ⟨hk h1, by simp [valR], by have := numI_len h1.1; simp only; (exact Nat.le_trans ‹_› (Nat.le_of_ble_eq_true rfl)), by have := htl h1; simp only; (exact Nat.le_trans ‹_› (Nat.le_of_ble_eq_true rfl))⟩
theorem table_full {t : List Row} (hne : t ≠ []) (hl : t.length ≤ 900) (hr : ∀ r ∈ t, RowOk r) (hd : (t.map (·.1)).Nodup) : Fn g (k + 2) 143 [.str (S (wordsL t)), .str (S (headL t.length ++ joinL [44, 32] (t.map fun r => numS r.1)))] (.lst (t.map rowD)) := by
  refine Fn.of2 (x := "words") (y := "plain") (h143 g.w) (fun _ _ => by kernel_rfl) (.inl (by kernel_rfl)) (.inl (by kernel_rfl)) (by kernel_rfl) ?_
  have hwl := words_len (by (exact Nat.le_trans ‹_› (Nat.le_of_ble_eq_true rfl))) hr
  have hpl : (headL t.length ++ joinL [44, 32] (t.map fun r => numS r.1)).length ≤ 90000 := by
    have h1 := joinL_len [44, 32] (t.map fun r => numS r.1)
    have h2 := sum_le (fun r : Row => (numS r.1).length) 4 t (fun r h => numI_len (hr r h).1)
    have h3 := head_len t.length
    rw [List.map_map, List.length_map] at h1
    simp only [List.length_append, List.length_cons, List.length_nil, Function.comp_def] at h1 ⊢
    lia
  have hpre := pre_table (g := g) (k := k) (by (exact Nat.le_trans ‹_› (Nat.le_of_ble_eq_true rfl))) hpl (http_D (http_words hne hr)) (by rw [keys_of_items hr]; exact http_D (http_plain hne hr)) (by rw [items_len]; (exact Nat.le_trans ‹_› (Nat.le_of_ble_eq_true rfl))) (fun l hl => ⟨Nat.le_trans (items_chars hr l hl).1 (by decide), (items_chars hr l hl).2⟩)
  rw [stB14_eq]
  refine Ex.app (Ex.mono hpre fun f hf => ?_)
  cases f with
  | ret d => exact hf.elim
  | brk σ' => exact hf.elim
  | cont σ' => exact hf.elim
  | next σ' =>
  refine Ex.sub ?_ (Sub.of (show SubL σ' [("items", .v (.lst ((itemsL t).map strD))), ("words", .v (.str (S (wordsL t))))] from hf))
  have hil := items_len t
  have ei : (itemsL t).map strD = (kvsL t).map eltD := by rw [items_kvs hr, List.map_map]; rfl
  have hkl : (kvsL t).length ≤ 100000 := by
    have := congrArg List.length ei
    rw [List.length_map, List.length_map] at this
    lia
  refine Ex.try_ (Ex.assign (d := .sd ((pairsL t).map fun p => (S p.1, strD p.2))) (Ev.cast (Ev.callG (Evs.cons (d := .lst ((kvsL t).map eltD)) (Ev.cast (Ev.nm (by walk_at "lk")) (by rw [ei])) Evs.nil) (fn_keqv (kvs_ok hr) hkl)) (by rw [kvs_fold hr hd])) (Ex.nil ?_))
  have hhl := head_len t.length
  refine Ex.assign (d := .str (S (headL t.length))) (Ev.ifExp (Tr.cmp (Ev.b1 (.builtin "len") (by walk_at "nm") (Cl.lenL' (by rw [List.length_map]; exact hil) (Nat.le_trans hl (by decide)))) Ev.int Cmp.eqI) (fun h => ?_) (fun h => ?_)) ?_
  · rw [head_one, if_pos (by left; have h' : ((t.length : Int) == 1) = true := h; simp at h'; lia)]; exact Ev.strS _
  · rw [head_one, if_neg (by
      have h1 : ¬ t.length = 1 := fun z => by have h' : ((t.length : Int) == 1) = false := h; rw [z] at h'; simp at h'
      have h2 : ¬ t.length = 0 := fun z => hne (List.length_eq_zero_iff.mp z)
      lia)]
    exact Ev.strS _
  have hjl : ((itemsL t).map (·.length)).sum + (itemsL t).length * ([44, 32] : List Nat).length ≤ 16777216 := by
    have := sum_le (fun l : List Nat => l.length) 60 (itemsL t) (fun l hl => (items_chars hr l hl).1)
    simp only [List.length_cons, List.length_nil]
    lia
  refine Ex.if_ (b := false) (Tr.cast (Tr.or2 (a := false) (b := false) (Tr.cast (Tr.cmp (Ev.sliceS (lo := none) (hi := some ((headL t.length).length : Int)) (by walk_at "nm") Pt.no (Pt.yes (Ev.cast (Ev.b1 (.builtin "len") (by walk_at "nm") (Cl.lenS (by rw [S_len]; exact Nat.le_trans hhl (by decide)))) (by rw [S_len]))) (by rw [S_len]; exact Nat.le_trans hwl (by decide))) (by walk_at "nm") Cmp.neS) (by rw [S_cut, words_head]; simp)) fun _ => Tr.cast (Tr.cmp (Ev.meth (Ev.strS [44, 32]) Mth.join (Evs.nm1 (by walk_at "lk")) (Cl.joinS hjl)) (by walk_at "nm") Cmp.neS) (by rw [words_join hne]; simp)) rfl) ?_
  refine Ex.nil ?_
  refine Ex.newM (d := .lst []) (EvF.list Evs.nil) ?_
  refine Ex.for2 (rs := (pairsL t).map pairD) (ItE.cast (ItE.items (by walk_at "nm")) (by rw [List.map_map, List.map_map]; rfl)) TTup.of ?_
  cases t with
  | nil => exact absurd rfl hne
  | cons r rs =>
    rw [show (((pairsL (r :: rs)).map pairD).map fun r => D.tup [r.1, r.2]) = tupP (headL (rs.length + 1) ++ numS r.1, textR r) :: ((rs.map fun r => (numS r.1, textR r)).map tupP) by
        unfold pairsL; rw [List.map_cons, List.map_cons, List.map_map, List.map_map, List.map_map]; rfl]
    show Ex g (scB 14) (k + 1) (("value", .v (strD (textR r))) :: ("key", .v (.str (S (headL (rs.length + 1) ++ numS r.1)))) :: _) bodyQ _
    refine Ex.sub (tab_turn (rest := []) (n := rs.length + 1) (acc := []) (r := r) (key := headL (rs.length + 1) ++ numS r.1) (hr r (.head _)) rfl (by simp) fun σ' hs => Lp.sub2 (tab_loop rs [r] (by simp) (fun q hq => hr q (.tail _ hq)) (by simp only [List.length_cons, List.length_nil] at hl ⊢; lia) ?_) hs) (Sub.of ?_)
    · refine Ex.freeze (x := "rows") Lk.h (Ex.ret (Ev.nm Lk.h) rfl)
    · exact SubL.cons Lk.h (SubL.cons (Lk.n (by kernel_rfl) Lk.h) (SubL.cons (Lk.n (by kernel_rfl) (Lk.n (by kernel_rfl) Lk.h)) (SubL.cons (Lk.n (by kernel_rfl) (Lk.n (by kernel_rfl) (Lk.n (by kernel_rfl) Lk.h))) SubL.nil)))
end
section
variable {g : Gw} {k : Nat} {sc : Scope} {σ σ' : Sto}

theorem Cl.fn {f : Addr} {ds : List D} {d : D} (h : Cl g k (.ref f) ds d) : Fn g k f ds d := ⟨h.run⟩
noncomputable def segA : List Stmt := (stB 17).take 5
noncomputable def decT : D → List Row
  | .lst l => l.map decR
  | _ => []
noncomputable abbrev tabD (t : List Row) : D := .lst (t.map rowD)
theorem decT_tab (t : List Row) : decT (tabD t) = t := by
  show (t.map rowD).map decR = t
  rw [List.map_map, show decR ∘ rowD = id from funext decR_row, List.map_id]
structure RunsOk (runs : List Int) : Prop where
  r : ∀ n ∈ runs, 0 ≤ n ∧ n ≤ 100
  l : runs.length ≤ 100
  ne : runs ≠ []
noncomputable def okA (one two : List Int) (ts : List (List Row)) : Fl → Prop
  | .next σ' => SubL σ' [("words", .v (.lst (ts.map fun t => strD (wordsL t)))), ("tables", .v (.lst (ts.map tabD))), ("two", .v (.lst (two.map .int))), ("one", .v (.lst (one.map .int)))]
  | _ => False
theorem law_A {script one two : List Int} (hs : script.length ≤ 1000) (e : leads script = (one, two)) (h1 : RunsOk one) (h2 : RunsOk two) (hz1 : (leadL one).length ≤ 90000) (hz2 : (leadL two).length ≤ 90000) (o1 : (wsOf (leadL one)).Ok) (o2 : (wsOf (leadL two)).Ok)
    (ht : ∀ t ∈ [table pGe (wsOf (leadL one)) (wsOf (leadL two)), table pGe (wsOf (leadL two)) (wsOf (leadL one)), table pNe (wsOf (leadL one)) (wsOf (leadL two))], t.length ≤ 900 ∧ ∀ r ∈ t, RowOk r) :
    Ex g (scB 17) 9 [("script", .v (.lst (script.map .int)))] segA (okA one two [table pGe (wsOf (leadL one)) (wsOf (leadL two)), table pGe (wsOf (leadL two)) (wsOf (leadL one)), table pNe (wsOf (leadL one)) (wsOf (leadL two))]) := by
  refine Ex.tupT (ds := [.lst (one.map .int), .lst (two.map .int)]) (Ev.cast (Ev.callG (Evs.nm1 (by walk_at "lk")) (fn_leads hs)) (by rw [e])) (Ass.cons (Ass.cons Ass.nil)) ?_
  refine Ex.assign (Ev.callG (Evs.cons (Ev.callG (Evs.nm1 (by walk_at "lk")) (fn_lead h1.r h1.l)) Evs.nil) (cl_ws hz1).fn) ?_
  refine Ex.assign (Ev.callG (Evs.cons (Ev.callG (Evs.nm1 (by walk_at "lk")) (fn_lead h2.r h2.l)) Evs.nil) (cl_ws hz2).fn) ?_
  refine Ex.assign (d := .lst ([table pGe (wsOf (leadL one)) (wsOf (leadL two)), table pGe (wsOf (leadL two)) (wsOf (leadL one)), table pNe (wsOf (leadL one)) (wsOf (leadL two))].map tabD)) (Ev.list (Evs.cons (Ev.methF (by walk_at "nm") (Mth.inst (f := 73) (by rfl)) (Evs.nm1 (by walk_at "lk")) (fn_nless o1 o2)) (Evs.cons (Ev.methF (by walk_at "nm") (Mth.inst (f := 73) (by rfl)) (Evs.nm1 (by walk_at "lk")) (fn_nless o2 o1)) (Evs.cons (Ev.methF (by walk_at "nm") (Mth.inst (f := 59) (by rfl)) (Evs.nm1 (by walk_at "lk")) (fn_neq o1 o2)) Evs.nil))) (show 3 ≤ sizeLine by decide)) ?_
  refine Ex.compA (σc := []) tabD decT decT_tab (fun t => strD (wordsL t)) (ItE.of (d := .lst ([table pGe (wsOf (leadL one)) (wsOf (leadL two)), table pGe (wsOf (leadL two)) (wsOf (leadL one)), table pNe (wsOf (leadL one)) (wsOf (leadL two))].map tabD)) (by walk_at "nm") It.lst) (by walk_at "cap") (show 3 ≤ sizeLine by decide) (fun t h => Ev.callG (Evs.nm1 (by walk_at "lk")) (fn_words (by have := (ht t h).1; (exact Nat.le_trans ‹_› (Nat.le_of_ble_eq_true rfl))) (ht t h).2)) ?_
  exact Ex.nil (show SubL _ _ by walk_at "sub")
end
section
variable {g : Gw} {k : Nat} {sc : Scope} {σ σ' : Sto}

noncomputable def dec2 : D → D × D
  | .tup [a, b] => (a, b)
  | _ => (.none, .none)
theorem CompOk.two {scope : Scope} {σc : Sto} {elt iter : Expr} {x y : Str} {px py : Pos} {x1} {pt : Pos} {rs : List (D × D)} (f : D × D → D) (it : ItE g sc k σ iter (rs.map fun r => .tup [r.1, r.2]) TSeq) (cap : Cap σ scope σc) (size : rs.length ≤ sizeLine)
    (helt : ∀ r ∈ rs, Ev g (relab scope sc) k ((y, .v r.2) :: (x, .v r.1) :: σc) elt (f r)) (hsc : scOkB scope sc = true := by kernel_rfl)
    (hx : (relab scope sc).names.lookup x = some .local ∨ (relab scope sc).names.lookup x = some .cell := by walk_at "wc") (hnx : scope.names.all (fun q => !(q.1 == x && q.2 == .free)) = true := by kernel_rfl)
    (hy : (relab scope sc).names.lookup y = some .local ∨ (relab scope sc).names.lookup y = some .cell := by walk_at "wc") (hny : scope.names.all (fun q => !(q.1 == y && q.2 == .free)) = true := by kernel_rfl)
    (fold : ∀ env x, foldedSetIterable iter env x = pure x := by walk_at "w2") :
    CompOk g sc scope k σ σc elt (.Tuple [.Name x px, .Name y py] x1 pt) iter [] (rs.map fun r => .tup [r.1, r.2]) TSeq (bnd2 x y) [x, y] (fun _ => true) (fun d => f (dec2 d)) where
  ok := ScOk.of hsc
  cap := cap.of
  it := it
  tgt := .inl TTup.of
  tl := fun p => .inr ⟨_, _, rfl⟩
  as := fun d hd => by
    (refine ex_1_2 (List.mem_map.mp hd) fun r _ zq116 => ?_; (first | subst zq116 | cases zq116))
    exact As.tup (Ass.cons (Ass.cons Ass.nil hy) hx)
  no := fun d z e h => by
    unfold bnd2 at h
    split at h
    · rcases lookup_cons h with ⟨_, h⟩ | ⟨_, h⟩
      · cases h
      rcases lookup_cons h with ⟨_, h⟩ | ⟨_, h⟩
      · cases h
      (refine ex_0_3 (cap.of z _ h) fun _ zq117 _ => ?_; obtain ⟨d', h'⟩ := zq117); cases h'
    · (refine ex_0_3 (cap.of z _ h) fun _ zq118 _ => ?_; obtain ⟨d', h'⟩ := zq118); cases h'
  sub := fun d hd z b h => by
    (refine ex_1_2 (List.mem_map.mp hd) fun r _ zq119 => ?_; (first | subst zq119 | cases zq119))
    (refine ex_0_3 (cap.of z b h) fun _ _ hf => ?_)
    have n1 : z ≠ x := fun e => by have := List.all_eq_true.mp hnx _ (mem_of_lookup' hf); simp [e] at this
    have n2 : z ≠ y := fun e => by have := List.all_eq_true.mp hny _ (mem_of_lookup' hf); simp [e] at this
    show ((y, B.v r.2) :: (x, B.v r.1) :: σc).lookup z = some b
    rw [List.lookup_cons, beq_eq_false_iff_ne.mpr n2]
    show ((x, B.v r.1) :: σc).lookup z = some b
    rw [List.lookup_cons, beq_eq_false_iff_ne.mpr n1]; exact h
  ns := fun n hn hm => by
    rcases List.mem_cons.mp hn with rfl | hn
    · have := List.all_eq_true.mp hnx _ hm; simp at this
    · rw [List.mem_singleton] at hn; subst hn
      have := List.all_eq_true.mp hny _ hm; simp at this
  test := fun _ _ => rfl
  elt := fun d hd _ => by
    (refine ex_1_2 (List.mem_map.mp hd) fun r hr zq120 => ?_; (first | subst zq120 | cases zq120))
    exact helt r hr
  size := by rw [List.length_map]; exact size
  fold := fold
theorem two_list (f : D × D → D) (rs : List (D × D)) : (((rs.map fun r => D.tup [r.1, r.2]).filter fun _ => true).map fun d => f (dec2 d)) = rs.map f := by
  rw [filter_true, List.map_map]; rfl

noncomputable def segB : List Stmt := ((stB 17).drop 5).take 5
noncomputable def nThere : List Nat := [116, 104, 101, 114, 101]
noncomputable def nBack : List Nat := [98, 97, 99, 107]
noncomputable def nUnlike : List Nat := [117, 110, 108, 105, 107, 101]
noncomputable def itMark : List Nat := [109, 97, 114, 107, 61, 34, 97, 34, 92]
noncomputable def itFore : List Nat := [102, 111, 114, 101, 61, 39, 34, 97, 44, 98, 34]
noncomputable def itBack : List Nat := [98, 97, 99, 107, 61, 120, 44, 44, 115, 105, 100, 101, 32, 61, 32, 121]
noncomputable def itemsOf (ws : List (List Nat)) : List (List Nat) := [itMark, itFore, itBack] ++ (([nThere, nBack, nUnlike].zip ws).map fun p => quotedL p.1 p.2)
noncomputable def lineOf (one two : List Int) (ws : List (List Nat)) : List Nat := leadL one ++ (headL 6 ++ joinL [44, 32] (itemsOf ws)) ++ (leadL two).reverse
noncomputable def okB (one two : List Int) (ts : List (List Row)) (line : List Nat) : Fl → Prop
  | .next σ' => SubL σ' [("texts", .v (.lst ([line, line.reverse].map strD))), ("line", .v (strD line)), ("names", .v (.lst ([nThere, nBack, nUnlike].map strD))), ("words", .v (.lst (ts.map fun t => strD (wordsL t)))), ("tables", .v (.lst (ts.map tabD))), ("two", .v (.lst (two.map .int))), ("one", .v (.lst (one.map .int)))]
  | _ => False
theorem turned_join {l : List Nat} (hz : l.length ≤ 90000) {e : Expr} {p1 p2 : Pos} {np ap : Pos} (he : Ev g sc (k + 1) σ e (strD l)) (hx : sc.names.lookup ("_law_turned" : Str) = some .globalImplicit) {x0 : Str} {n0 : Nat} {q0 : Pos} (h0 : x0 = S []) (hline : (ap.endLine == p2.line) = true) (hst : ∀ env, starEach [e] env = [(false, eval e env)]) :
    Ev g sc (k + 1) σ (.Call (.Attribute (.Constant (.str x0) n0 q0) "join" ap) [.Call (.Name "_law_turned" np) [e] [] p1] [] p2) (strD l.reverse) := by
  have hl : (l.reverse.map fun c => [c]).flatten = l.reverse := by
    induction l.reverse with
    | nil => rfl
    | cons c r ih => rw [List.map_cons, List.flatten_cons, ih]; rfl
  have hs : ((l.reverse.map fun c => [c]).map (·.length)).sum + (l.reverse.map fun c => [c]).length * ([] : List Nat).length ≤ 16777216 := by
    have := sum_le (fun l : List Nat => l.length) 1 (l.reverse.map fun c => [c]) (fun x hx => by (refine ex_1_2 (List.mem_map.mp hx) fun c _ zq121 => ?_; (first | subst zq121 | cases zq121)); simp)
    rw [List.length_map, List.length_reverse] at this
    simp only [List.length_nil, Nat.mul_zero, Nat.add_zero]
    lia
  have key : Ev g sc (k + 1) σ (.Call (.Name "_law_turned" np) [e] [] p1) (.lst ((l.reverse.map fun c => [c]).map fun y => .str (S y))) := by
    rw [List.map_map]
    exact Ev.callG (Evs.cons he Evs.nil (fun env => by rw [hst]; rfl)) (fn_turnedS (by (exact Nat.le_trans ‹_› (Nat.le_of_ble_eq_true rfl)))) (hx := hx) (hplain := fun env pos => by rw [hst]; rfl) (hst := fun env => by rw [hst]; rfl)
  subst h0
  refine Ev.cast (Ev.meth Ev.str Mth.join (Evs.cons key Evs.nil) (Cl.joinS hs) (hline := hline)) ?_
  rw [joinL_nil, hl]
end
section
variable {g : Gw} {k : Nat} {sc : Scope} {σ σ' : Sto}

theorem fmt_items (items : List (List Nat)) (h : items.length = 6) : fmtS (items.map fun l => D.tup [strD l]) = S (headL 6 ++ joinL [44, 32] items) := by
  unfold fmtS
  rw [List.length_map, h, List.map_map]
  have : (items.map (hdStr ∘ fun l => D.tup [strD l])) = items.map S := rfl
  rw [this, S_join, S_app, S_app]
  rfl
theorem lead_len {runs : List Int} (h : RunsOk runs) : (leadL runs).length ≤ 10200 := by
  unfold leadL
  have h1 := joinL_len [9] (runs.map fun n => List.replicate n.toNat 32)
  have h2 := sum_le (fun n : Int => (List.replicate n.toNat 32).length) 100 runs (fun n hn => by have := h.r n hn; simp; lia)
  have h3 := h.l
  rw [List.map_map, List.length_map] at h1
  simp only [Function.comp_def, List.length_cons, List.length_nil] at h1
  lia
theorem quotedL_len (name text : List Nat) : (quotedL name text).length ≤ name.length + 2 * text.length + 3 := by
  have := escL_len text
  unfold quotedL escL
  simp only [List.length_append, List.length_flatten, List.length_cons, List.length_nil]
  lia
theorem items_of_len {t0 t1 t2 : List Nat} : (itemsOf [t0, t1, t2]).length = 6 := by simp [itemsOf]
theorem items_of_le {ws : List (List Nat)} (hw : ∀ w ∈ ws, w.length ≤ 2000) : ∀ l ∈ itemsOf ws, l.length ≤ 4100 := by
  intro l hl
  unfold itemsOf at hl
  rcases List.mem_append.mp hl with hl | hl
  · have : ∀ l ∈ [itMark, itFore, itBack], l.length ≤ 4100 := by decide
    exact this l hl
  · (refine ex_1_2 (List.mem_map.mp hl) fun p hp zq122 => ?_; (first | subst zq122 | cases zq122))
    obtain ⟨a, b⟩ := p
    have h1 := List.of_mem_zip hp
    have h2 := hw b h1.2
    have h3 : ∀ l ∈ [nThere, nBack, nUnlike], l.length ≤ 10 := by decide
    have h4 := h3 a h1.1
    have := quotedL_len a b
    simp only
    lia
theorem line_len {one two : List Int} {t0 t1 t2 : List Nat} (h1 : RunsOk one) (h2 : RunsOk two) (hw : ∀ w ∈ [t0, t1, t2], w.length ≤ 2000) : (lineOf one two [t0, t1, t2]).length ≤ 50000 := by
  have a := lead_len h1
  have b := lead_len h2
  have c := joinL_len [44, 32] (itemsOf [t0, t1, t2])
  have d := sum_le (fun l : List Nat => l.length) 4100 (itemsOf [t0, t1, t2]) (items_of_le hw)
  have e := head_len 6
  rw [items_of_len] at c d
  unfold lineOf
  simp only [List.length_append, List.length_reverse, List.length_cons, List.length_nil] at c ⊢
  lia
theorem law_B {one two : List Int} {t0 t1 t2 : List Row} (h1 : RunsOk one) (h2 : RunsOk two) (hw : ∀ w ∈ [wordsL t0, wordsL t1, wordsL t2], w.length ≤ 2000) :
    Ex g (scB 17) 9 [("words", .v (.lst ([t0, t1, t2].map fun t => strD (wordsL t)))), ("tables", .v (.lst ([t0, t1, t2].map tabD))), ("two", .v (.lst (two.map .int))), ("one", .v (.lst (one.map .int)))] segB (okB one two [t0, t1, t2] (lineOf one two [wordsL t0, wordsL t1, wordsL t2])) := by
  have b1 := lead_len h1
  have b2 := lead_len h2
  have b3 := line_len h1 h2 hw
  have hil := items_of_le hw
  have hil6 := items_of_len (t0 := wordsL t0) (t1 := wordsL t1) (t2 := wordsL t2)
  refine Ex.assign (d := .lst ([nThere, nBack, nUnlike].map strD)) (Ev.list (Evs.cons (Ev.strS nThere) (Evs.cons (Ev.strS nBack) (Evs.cons (Ev.strS nUnlike) Evs.nil))) (show 3 ≤ sizeLine by decide)) ?_
  refine Ex.assign (d := .lst ([itMark, itFore, itBack].map strD)) (Ev.list (Evs.cons (Ev.strS itMark) (Evs.cons (Ev.strS itFore) (Evs.cons (Ev.strS itBack) Evs.nil))) (show 3 ≤ sizeLine by decide)) ?_
  refine Ex.assign (d := .lst ((itemsOf [wordsL t0, wordsL t1, wordsL t2]).map strD)) (Ev.cast (Ev.bin (a := .lst ([itMark, itFore, itBack].map strD)) (b := .lst ((([nThere, nBack, nUnlike].map strD).zip ([t0, t1, t2].map fun t => strD (wordsL t))).map fun r => strD (quotedL (decL r.1) (decL r.2)))) (by walk_at "nm") (Ev.cast (Ev.comp (CompOk.two (σc := []) (rs := ([nThere, nBack, nUnlike].map strD).zip ([t0, t1, t2].map fun t => strD (wordsL t))) (fun r => strD (quotedL (decL r.1) (decL r.2))) (ItE.zip (Evs.cons (by walk_at "nm") (Evs.cons (by walk_at "nm") Evs.nil))) (by walk_at "cap") (show 3 ≤ sizeLine by decide) (fun r hr => ?_))) (congrArg D.lst (two_list (fun r => strD (quotedL (decL r.1) (decL r.2))) _))) (Bin.addL (show 6 ≤ sizeLine by decide))) ?_) ?_
  · have hr' : ∃ a b, r = (strD a, strD b) ∧ a.length ≤ 10 ∧ b.length ≤ 2000 := by
      rcases List.mem_cons.mp hr with rfl | hr
      · exact ⟨_, _, rfl, by decide, hw _ (.head _)⟩
      rcases List.mem_cons.mp hr with rfl | hr
      · exact ⟨_, _, rfl, by decide, hw _ (.tail _ (.head _))⟩
      rcases List.mem_cons.mp hr with rfl | hr
      · exact ⟨_, _, rfl, by decide, hw _ (.tail _ (.tail _ (.head _)))⟩
      · cases hr
    (refine ex_2_3 (hr') fun a b zq123 la lb => ?_; (first | subst zq123 | cases zq123))
    show Ev g _ 9 [("text", .v (strD b)), ("name", .v (strD a))] _ (strD (quotedL a b))
    exact Ev.callG (Evs.cons (by walk_at "nm") (Evs.cons (by walk_at "nm") Evs.nil)) (fn_quoted (by (exact Nat.le_trans ‹_› (Nat.le_of_ble_eq_true rfl))) (by (exact Nat.le_trans ‹_› (Nat.le_of_ble_eq_true rfl))))
  · rfl
  have hsum : (((itemsOf [wordsL t0, wordsL t1, wordsL t2]).map fun l => D.tup [strD l]).map fun d => (hdStr d).length).sum + ((itemsOf [wordsL t0, wordsL t1, wordsL t2]).map fun l => D.tup [strD l]).length * 2 ≤ 100000 := by
    rw [List.map_map, List.length_map, hil6]
    have := sum_le (fun l : List Nat => (S l).length) 4100 (itemsOf [wordsL t0, wordsL t1, wordsL t2]) (fun l hl => by rw [S_len]; exact hil l hl)
    rw [hil6] at this
    simp only [Function.comp_def, hdStr]
    lia
  have hfl : (headL 6 ++ joinL [44, 32] (itemsOf [wordsL t0, wordsL t1, wordsL t2])).length ≤ 50000 := by unfold lineOf at b3; simp only [List.length_append] at b3 ⊢; omega
  refine Ex.assign (d := strD (lineOf one two [wordsL t0, wordsL t1, wordsL t2])) (Ev.cast (Ev.bin (Ev.bin (Ev.callG (Evs.nm1 (by walk_at "lk")) (fn_lead h1.r h1.l)) (Ev.cast (Ev.callG (Evs.cons (Ev.compA (σc := []) strD decL decL_str (fun l => .tup [strD l]) (ItE.of (d := .lst ((itemsOf [wordsL t0, wordsL t1, wordsL t2]).map strD)) (by walk_at "nm") It.lst) (by walk_at "cap") (by rw [hil6]; decide) (fun l hl => Ev.tup (Evs.cons (by walk_at "nm") Evs.nil))) Evs.nil) (fn_format (by rw [List.length_map, hil6]; decide) (fun d hd => by (refine ex_1_2 (List.mem_map.mp hd) fun l _ zq124 => ?_; (first | subst zq124 | cases zq124)); exact .inr ⟨_, _, rfl⟩) hsum)) (by rw [fmt_items _ hil6])) (Bin.addS (by rw [S_len, S_len]; exact Nat.le_trans (by omega : _ ≤ 200000) (by decide)))) (turned_join (k := 8) (l := leadL two) (by omega) (Ev.callG (Evs.nm1 (by walk_at "lk")) (fn_lead h2.r h2.l)) (by kernel_rfl) (by kernel_rfl) (by kernel_rfl) (fun _ => rfl)) (Bin.addS (by rw [S_app, S_len, S_len]; exact Nat.le_trans (by simp only [List.length_append, List.length_reverse] at *; omega : _ ≤ 200000) (by decide)))) (by rw [S_app, S_app]; rfl)) ?_
  refine Ex.assign (d := .lst ([lineOf one two [wordsL t0, wordsL t1, wordsL t2], (lineOf one two [wordsL t0, wordsL t1, wordsL t2]).reverse].map strD)) (Ev.list (Evs.cons (by walk_at "nm") (Evs.cons (turned_join (k := 8) (l := lineOf one two [wordsL t0, wordsL t1, wordsL t2]) (by omega) (by walk_at "nm") (by kernel_rfl) (by kernel_rfl) (by kernel_rfl) (fun _ => rfl)) Evs.nil)) (show 2 ≤ sizeLine by decide)) ?_
  exact Ex.nil (show SubL _ _ by walk_at "sub")
end
section
variable {g : Gw} {k : Nat} {sc : Scope} {σ σ' : Sto}

noncomputable def segC : List Stmt := ((stB 17).drop 10).take 3
noncomputable def decW : D → List Nat
  | .inst ((_, .str x) :: _) => x.cps.toList
  | _ => []
noncomputable abbrev wsD (l : List Nat) : D := (wsOf l).d
theorem decW_ws (l : List Nat) : decW (wsD l) = l := rfl
noncomputable def memD (l : List Nat) : D := .tup [.str (S l), .int (wsOf l).n, .int (wsOf l).nt, (wsOf l).norm, .bool ((wsOf l).simple == true), .bool ((wsOf l).simple == false)]
noncomputable abbrev preS (one two : List Int) (ts : List (List Row)) (line : List Nat) : Sto := [("line", .v (strD line)), ("names", .v (.lst ([nThere, nBack, nUnlike].map strD))), ("words", .v (.lst (ts.map fun t => strD (wordsL t)))), ("tables", .v (.lst (ts.map tabD))), ("two", .v (.lst (two.map .int))), ("one", .v (.lst (one.map .int)))]
noncomputable def okC (one two : List Int) (ts : List (List Row)) (line : List Nat) : Fl → Prop
  | .next σ' => SubL σ' (("ends", .v (.lst ([line, line.reverse].map wsD))) :: preS one two ts line)
  | _ => False
theorem mem_ok {l : List Nat} {runs : List Int} (h : ∀ c ∈ l, c < 1114112) : (membersD l runs).ok 8 = true := by
  unfold membersD
  simp [D.ok, D.oks, S_ok h, D.oks_ints]
theorem law_C {one two : List Int} {ts : List (List Row)} {line : List Nat} (h1 : RunsOk one) (h2 : RunsOk two) (hl : line.length ≤ 50000) (hc : ∀ c ∈ line, c < 1114112) (m1 : memD line = membersD line one) (m2 : memD line.reverse = membersD line.reverse two) :
    Ex g (scB 17) 9 (("texts", .v (.lst ([line, line.reverse].map strD))) :: preS one two ts line) segC (okC one two ts line) := by
  have hlr : line.reverse.length ≤ 50000 := by rw [List.length_reverse]; exact hl
  refine Ex.compA (σc := []) strD decL decL_str wsD (ItE.of (d := .lst ([line, line.reverse].map strD)) (by walk_at "nm") It.lst) (by walk_at "cap") (show 2 ≤ sizeLine by decide) (fun l h => Ev.callG (Evs.nm1 (by walk_at "lk")) (cl_ws ?_).fn) ?_
  · rcases List.mem_cons.mp h with rfl | h
    · (exact Nat.le_trans ‹_› (Nat.le_of_ble_eq_true rfl))
    · rw [List.mem_singleton] at h; subst h; (exact Nat.le_trans ‹_› (Nat.le_of_ble_eq_true rfl))
  refine Ex.compA (σc := []) wsD decW decW_ws memD (ItE.of (d := .lst ([line, line.reverse].map wsD)) (by walk_at "nm") It.lst) (by walk_at "cap") (show 2 ≤ sizeLine by decide) (fun l h => Ev.tup (Evs.cons (Ev.at (by walk_at "lk") rfl) (Evs.cons (Ev.at (by walk_at "lk") rfl) (Evs.cons (Ev.at (by walk_at "lk") rfl) (Evs.cons (Ev.at (by walk_at "lk") rfl) (Evs.cons (Ev.cmp (Ev.at (by walk_at "lk") rfl) Ev.bool Cmp.isB) (Evs.cons (Ev.cmp (Ev.at (by walk_at "lk") rfl) Ev.bool Cmp.isB) Evs.nil)))))) (show 6 ≤ sizeLine by decide)) ?_
  have tx : ∀ {σ : Sto} {i : Nat} {l : List Nat} {px pc ps : Pos} {n : Nat}, Lk σ "texts" (.v (.lst ([line, line.reverse].map strD))) → ([line, line.reverse].map strD)[i]? = some (strD l) → i < 2 → Ev g (scB 17) 9 σ (.Subscript (.Name "texts" px) (.Constant (.int (i : Int)) n pc) ps) (strD l) := fun hk hi h2 => Ev.sub (Ev.nm hk) Ev.int (Itm.lst (seqIndex_nat (by simpa using h2)) hi (show 2 ≤ sizeLine by decide))
  refine Ex.if_ (b := false) (Tr.cmp (by walk_at "nm") (Ev.cast (d' := .lst ([line, line.reverse].map memD)) (Ev.list (Evs.cons (Ev.callG (Evs.cons (tx (i := 0) (by walk_at "lk") rfl (by decide)) (Evs.cons (by walk_at "nm") Evs.nil)) (fn_members h1.r h1.l h1.ne)) (Evs.cons (Ev.callG (Evs.cons (tx (i := 1) (by walk_at "lk") rfl (by decide)) (Evs.cons (by walk_at "nm") Evs.nil)) (fn_members h2.r h2.l h2.ne)) Evs.nil)) (show 2 ≤ sizeLine by decide)) (by simp only [List.map_cons, List.map_nil]; rw [m1, m2])) (Cmp.neRefl ?_)) ?_
  · simp only [List.map_cons, List.map_nil]
    rw [m1, m2]
    have a := mem_ok (l := line) (runs := one) hc
    have b := mem_ok (l := line.reverse) (runs := two) (fun c h => hc c (by simpa using h))
    simp [D.ok, D.oks, a, b]
  · exact Ex.nil (Ex.nil (show SubL _ _ by walk_at "sub"))
end
section
variable {g : Gw} {k : Nat} {sc : Scope} {σ σ' : Sto}

noncomputable def segD : List Stmt := ((stB 17).drop 13).take 6
noncomputable def kMark : List Nat := headL 6 ++ [109, 97, 114, 107]
noncomputable def vMark : List Nat := [34, 97, 34, 92]
noncomputable def kFore : List Nat := [102, 111, 114, 101]
noncomputable def vFore : List Nat := [39, 34, 97, 44, 98, 34]
noncomputable def kSide : List Nat := [115, 105, 100, 101, 32]
noncomputable def vSide : List Nat := [32, 121]
noncomputable def kvLine (w0 w1 w2 : List Nat) : List (List Nat × List Nat) := [(kMark, vMark), (kFore, vFore), (nBack, [120]), (kSide, vSide), (nThere, 34 :: (w0 ++ [34])), (nBack, 34 :: (w1 ++ [34])), (nUnlike, 34 :: (w2 ++ [34]))]
noncomputable def readL (w0 w1 w2 : List Nat) : List (List Nat) := [kMark ++ 61 :: vMark, kFore ++ 61 :: vFore, nBack ++ 61 :: [120], [], kSide ++ 61 :: vSide, nThere ++ 61 :: (34 :: (w0 ++ [34])), nBack ++ 61 :: (34 :: (w1 ++ [34])), nUnlike ++ 61 :: (34 :: (w2 ++ [34]))]
noncomputable def dueL (w0 w1 w2 : List Nat) : List (List Nat × List Nat) := [(kMark, vMark), (kFore, vFore), (nBack, w1), (kSide, vSide), (nThere, w0), (nUnlike, w2)]
theorem line_fold (w0 w1 w2 : List Nat) : (kvLine w0 w1 w2).foldl kqPut [] = dueL w0 w1 w2 := by
  unfold kvLine
  simp only [List.foldl_cons, List.foldl_nil]
  unfold kqPut
  simp only [unq_val]
  rfl
noncomputable abbrev toldD (w0 w1 w2 : List Nat) : D := .sd ((dueL w0 w1 w2).map fun p => (S p.1, strD p.2))
noncomputable abbrev tupL (p : List Nat × List Nat) : D := .tup [strD p.1, strD p.2]
noncomputable def okD (one two : List Int) (t0 t1 t2 : List Row) (line : List Nat) : Fl → Prop
  | .next σ' => SubL σ' [("told", .v (toldD (wordsL t0) (wordsL t1) (wordsL t2))), ("ends", .v (.lst ([line, line.reverse].map wsD))), ("names", .v (.lst ([nThere, nBack, nUnlike].map strD))), ("tables", .v (.lst ([t0, t1, t2].map tabD))), ("two", .v (.lst (two.map .int))), ("one", .v (.lst (one.map .int)))]
  | _ => False
theorem law_D {one two : List Int} {t0 t1 t2 : List Row} {line : List Nat} (hl : line.length ≤ 50000) (hw : ∀ w ∈ [wordsL t0, wordsL t1, wordsL t2], w.length ≤ 2000) (hc : ∀ w ∈ [wordsL t0, wordsL t1, wordsL t2], ∀ c ∈ w, c < 1114112) (hr : (httpL line).map stripL = readL (wordsL t0) (wordsL t1) (wordsL t2)) :
    Ex g (scB 17) 9 (("ends", .v (.lst ([line, line.reverse].map wsD))) :: preS one two [t0, t1, t2] line) segD (okD one two t0 t1 t2 line) := by
  have er : (httpL line).map (fun p => D.str (Txt.strip (S p))) = (readL (wordsL t0) (wordsL t1) (wordsL t2)).map strD := by
    rw [← hr, List.map_map]
    refine List.map_congr_left fun p _ => ?_
    rw [strip_S]; rfl
  have s0 := hw _ (.head _)
  have s1 := hw _ (.tail _ (.head _))
  have s2 := hw _ (.tail _ (.tail _ (.head _)))
  refine Ex.assign (d := .lst ((readL (wordsL t0) (wordsL t1) (wordsL t2)).map strD)) (Ev.cast (Ev.callG (Evs.nm1 (by walk_at "lk")) (fn_http (by (exact Nat.le_trans ‹_› (Nat.le_of_ble_eq_true rfl))))) (by rw [er])) ?_
  refine Ex.if_ (b := false) (Tr.cmp (a := .lst [strD []]) (b := .lst [strD []]) (Ev.cast (Ev.sliceL (ds := (readL (wordsL t0) (wordsL t1) (wordsL t2)).map strD) (lo := some 3) (hi := some 4) (by walk_at "nm") (Pt.yes Ev.int) (Pt.yes Ev.int) (show 8 ≤ sizeLine by decide)) rfl) (Ev.list (Evs.cons (Ev.strS []) Evs.nil)) (Cmp.neRefl (by decide +kernel))) ?_
  refine Ex.nil ?_
  refine Ex.assign (d := toldD (wordsL t0) (wordsL t1) (wordsL t2)) (Ev.cast (Ev.callG (Evs.cons (d := .lst ((kvLine (wordsL t0) (wordsL t1) (wordsL t2)).map eltD)) (Ev.cast (Ev.bin (a := .lst (((readL (wordsL t0) (wordsL t1) (wordsL t2)).take 3).map strD)) (b := .lst (((readL (wordsL t0) (wordsL t1) (wordsL t2)).drop 4).map strD)) (Ev.cast (Ev.sliceL (ds := (readL (wordsL t0) (wordsL t1) (wordsL t2)).map strD) (lo := none) (hi := some 3) (by walk_at "nm") Pt.no (Pt.yes Ev.int) (show 8 ≤ sizeLine by decide)) rfl) (Ev.cast (Ev.sliceL (ds := (readL (wordsL t0) (wordsL t1) (wordsL t2)).map strD) (lo := some 4) (hi := none) (by walk_at "nm") (Pt.yes Ev.int) Pt.no (show 8 ≤ sizeLine by decide)) rfl) (Bin.addL (show 7 ≤ sizeLine by decide))) rfl) Evs.nil) (fn_keqv (fun p hp => ?_) (show 7 ≤ 100000 by decide))) (by rw [line_fold])) ?_ (hx := .inr (by kernel_rfl))
  · unfold kvLine at hp
    simp only [List.mem_cons, List.not_mem_nil, or_false] at hp
    rcases hp with rfl | rfl | rfl | rfl | rfl | rfl | rfl
    · exact ⟨by decide, by decide, by decide, by decide⟩
    · exact ⟨by decide, by decide, by decide, by decide⟩
    · exact ⟨by decide, by decide, by decide, by decide⟩
    · exact ⟨by decide, by decide, by decide, by decide⟩
    · exact ⟨show 61 ∉ nThere by decide, by simp, show nThere.length ≤ 100000 by decide, by simp; (exact Nat.le_trans ‹_› (Nat.le_of_ble_eq_true rfl))⟩
    · exact ⟨show 61 ∉ nBack by decide, by simp, show nBack.length ≤ 100000 by decide, by simp; (exact Nat.le_trans ‹_› (Nat.le_of_ble_eq_true rfl))⟩
    · exact ⟨show 61 ∉ nUnlike by decide, by simp, show nUnlike.length ≤ 100000 by decide, by simp; (exact Nat.le_trans ‹_› (Nat.le_of_ble_eq_true rfl))⟩
  have wd : ∀ {σ : Sto} {i : Nat} {l : List Nat} {px pc ps : Pos} {n : Nat}, Lk σ "words" (.v (.lst ([t0, t1, t2].map fun t => strD (wordsL t)))) → ([t0, t1, t2].map fun t => strD (wordsL t))[i]? = some (strD l) → i < 3 → Ev g (scB 17) 9 σ (.Subscript (.Name "words" px) (.Constant (.int (i : Int)) n pc) ps) (strD l) := fun hk hi h2 => Ev.sub (Ev.nm hk) Ev.int (Itm.lst (seqIndex_nat (by simpa using h2)) hi (show 3 ≤ sizeLine by decide))
  refine Ex.assign (d := .lst (((dueL (wordsL t0) (wordsL t1) (wordsL t2)).take 4).map tupL)) (Ev.list (Evs.cons (Ev.tup (Evs.cons (Ev.strS kMark) (Evs.cons (Ev.strS vMark) Evs.nil))) (Evs.cons (Ev.tup (Evs.cons (Ev.strS kFore) (Evs.cons (Ev.strS vFore) Evs.nil))) (Evs.cons (Ev.tup (Evs.cons (Ev.strS nBack) (Evs.cons (wd (i := 1) (by walk_at "lk") rfl (by decide)) Evs.nil)) (show 2 ≤ sizeLine by decide)) (Evs.cons (Ev.tup (Evs.cons (Ev.strS kSide) (Evs.cons (Ev.strS vSide) Evs.nil))) Evs.nil)))) (show 4 ≤ sizeLine by decide)) ?_
  refine Ex.assign (d := .lst ((dueL (wordsL t0) (wordsL t1) (wordsL t2)).map tupL)) (Ev.cast (Ev.bin (a := .lst (((dueL (wordsL t0) (wordsL t1) (wordsL t2)).take 4).map tupL)) (b := .lst (((dueL (wordsL t0) (wordsL t1) (wordsL t2)).drop 4).map tupL)) (by walk_at "nm") (Ev.list (Evs.cons (Ev.tup (Evs.cons (Ev.strS nThere) (Evs.cons (wd (i := 0) (by walk_at "lk") rfl (by decide)) Evs.nil)) (show 2 ≤ sizeLine by decide)) (Evs.cons (Ev.tup (Evs.cons (Ev.strS nUnlike) (Evs.cons (wd (i := 2) (by walk_at "lk") rfl (by decide)) Evs.nil)) (show 2 ≤ sizeLine by decide)) Evs.nil)) (show 2 ≤ sizeLine by decide)) (Bin.addL (show 6 ≤ sizeLine by decide))) rfl) ?_
  refine Ex.if_ (b := false) (Tr.cmp (a := .lst ((dueL (wordsL t0) (wordsL t1) (wordsL t2)).map tupL)) (Ev.cast (Ev.compA (σc := [("told", .v (toldD (wordsL t0) (wordsL t1) (wordsL t2)))]) (xs := (dueL (wordsL t0) (wordsL t1) (wordsL t2)).map (·.1)) strD decL decL_str (fun key => .tup [strD key, strD (((dueL (wordsL t0) (wordsL t1) (wordsL t2)).lookup key).getD [])]) (ItE.cast (ItE.of (d := toldD (wordsL t0) (wordsL t1) (wordsL t2)) (by walk_at "nm") It.sd) rfl) (by walk_at "cap") (show 6 ≤ sizeLine by decide) (fun key h => ?_)) rfl) (by walk_at "nm") (Cmp.neRefl ?_)) ?_
  · have hi : ∃ (i : Nat) (v : List Nat), (dueL (wordsL t0) (wordsL t1) (wordsL t2))[i]? = some (key, v) ∧ ((dueL (wordsL t0) (wordsL t1) (wordsL t2)).lookup key).getD [] = v := by
      unfold dueL at h
      simp only [List.map_cons, List.map_nil, List.mem_cons, List.not_mem_nil, or_false] at h
      rcases h with rfl | rfl | rfl | rfl | rfl | rfl
      · exact ⟨0, _, rfl, rfl⟩
      · exact ⟨1, _, rfl, rfl⟩
      · exact ⟨2, _, rfl, rfl⟩
      · exact ⟨3, _, rfl, rfl⟩
      · exact ⟨4, _, rfl, rfl⟩
      · exact ⟨5, _, rfl, rfl⟩
    (refine ex_2_2 (hi) fun i v h1 h2 => ?_)
    rw [h2]
    exact Ev.tup (Evs.cons (by walk_at "nm") (Evs.cons (Ev.sub (by walk_at "nm") (by walk_at "nm") (Itm.sd (i := i) (x := S key) (by rw [List.getElem?_map, h1]; rfl))) Evs.nil)) (show 2 ≤ sizeLine by decide)
  · have c0 := hc _ (.head _)
    have c1 := hc _ (.tail _ (.head _))
    have c2 := hc _ (.tail _ (.tail _ (.head _)))
    have k1 : PyData.strOk (S kMark) = true := by decide +kernel
    have k2 : PyData.strOk (S vMark) = true := by decide +kernel
    have k3 : PyData.strOk (S kFore) = true := by decide +kernel
    have k4 : PyData.strOk (S vFore) = true := by decide +kernel
    have k5 : PyData.strOk (S nBack) = true := by decide +kernel
    have k6 : PyData.strOk (S kSide) = true := by decide +kernel
    have k7 : PyData.strOk (S vSide) = true := by decide +kernel
    have k8 : PyData.strOk (S nThere) = true := by decide +kernel
    have k9 : PyData.strOk (S nUnlike) = true := by decide +kernel
    simp [dueL, D.ok, D.oks, S_ok c0, S_ok c1, S_ok c2, k1, k2, k3, k4, k5, k6, k7, k8, k9]
  · exact Ex.nil (Ex.nil (show SubL _ _ by walk_at "sub"))
end
section
variable {g : Gw} {k : Nat} {sc : Scope} {σ σ' : Sto}

noncomputable def segE : List Stmt := ((stB 17).drop 19).take 4
structure TabOk' (t : List Row) : Prop where
  l : t.length ≤ 900
  r : ∀ r ∈ t, RowOk r
  d : (t.map (·.1)).Nodup
theorem fmt_tab (t : List Row) : fmtS (t.map rowD) = S (headL t.length ++ joinL [44, 32] (t.map fun r => numS r.1)) := by
  unfold fmtS
  rw [List.length_map, List.map_map]
  have : (t.map (hdStr ∘ rowD)) = (t.map fun r => numS r.1).map S := by rw [List.map_map]; rfl
  rw [this, S_join, S_app, S_app]
  rfl
theorem fn_table {t : List Row} (h : TabOk' t) : Fn g 9 143 [strD (wordsL t), .str (fmtS (t.map rowD))] (tabD t) := by
  by_cases he : t = []
  · subst he
    have e : fmtS (([] : List Row).map rowD) = S l0 := by rw [fmt_tab]; rfl
    rw [e]
    exact table_empty
  · rw [fmt_tab]
    exact table_full he h.l h.r h.d
theorem fn_fmt_tab {t : List Row} (h : TabOk' t) : Fn g (k + 1) 87 [tabD t] (.str (fmtS (t.map rowD))) := by
  refine fn_format (by rw [List.length_map]; have := h.l; (exact Nat.le_trans ‹_› (Nat.le_of_ble_eq_true rfl))) (fun d hd => ?_) ?_
  · (refine ex_1_2 (List.mem_map.mp hd) fun r hr zq125 => ?_; (first | subst zq125 | cases zq125))
    exact .inl ⟨r.1, _, rfl, by have := (h.r r hr).1; lia⟩
  · rw [List.map_map, List.length_map]
    have := sum_le (fun r : Row => (numS r.1).length) 4 t (fun r hr => numI_len (h.r r hr).1)
    have e : (fun d => (hdStr d).length) ∘ rowD = fun r : Row => (numS r.1).length := funext fun r => by
      show (Str.ofString (toString r.1)).length = (numS r.1).length
      rw [← S_num, S_len]
    rw [e]
    have := h.l
    lia
noncomputable def okEE (one two : List Int) (t0 t1 t2 rows : List Row) (line : List Nat) : Fl → Prop
  | .next σ' => SubL σ' [("rows", .v (tabD rows)), ("there", .v (tabD t0)), ("back", .v (tabD t1)), ("unlike", .v (tabD t2)), ("ends", .v (.lst ([line, line.reverse].map wsD))), ("two", .v (.lst (two.map .int))), ("one", .v (.lst (one.map .int)))]
  | _ => False
theorem tabs_ok (ts : List (List Row)) : (D.lst (ts.map tabD)).ok 9 = true := by
  have h8 : ∀ t : List Row, (tabD t).ok 8 = true := fun l => by
    have : D.oks 7 (l.map rowD) = true := by
      induction l with
      | nil => simp [D.oks]
      | cons r l ih => rw [List.map_cons, D.oks, Bool.and_eq_true]; exact ⟨by simp [rowD, D.ok, D.oks], ih⟩
    simpa [D.ok] using this
  have : D.oks 8 (ts.map tabD) = true := by
    induction ts with
    | nil => simp [D.oks]
    | cons t ts ih => rw [List.map_cons, D.oks, Bool.and_eq_true]; exact ⟨h8 t, ih⟩
  simpa [D.ok] using this
theorem law_E {one two : List Int} {t0 t1 t2 rows : List Row} {line : List Nat} (h0 : TabOk' t0) (h1 : TabOk' t1) (h2 : TabOk' t2) (hrows : Fn g 9 153 [tabD t0, tabD t1] (tabD rows)) :
    Ex g (scB 17) 9 [("told", .v (toldD (wordsL t0) (wordsL t1) (wordsL t2))), ("ends", .v (.lst ([line, line.reverse].map wsD))), ("names", .v (.lst ([nThere, nBack, nUnlike].map strD))), ("tables", .v (.lst ([t0, t1, t2].map tabD))), ("two", .v (.lst (two.map .int))), ("one", .v (.lst (one.map .int)))] segE (okEE one two t0 t1 t2 rows line) := by
  refine Ex.assignC (CompOk.two (σc := [("told", .v (toldD (wordsL t0) (wordsL t1) (wordsL t2)))]) (rs := ([nThere, nBack, nUnlike].map strD).zip ([t0, t1, t2].map tabD)) (fun r => r.2) (ItE.zip (Evs.cons (by walk_at "nm") (Evs.cons (by walk_at "nm") Evs.nil))) (by walk_at "cap") (show 3 ≤ sizeLine by decide) (fun r hr => ?_)) ?_
  · have hr' : ∃ (i : Nat) (a : List Nat) (t : List Row), r = (strD a, tabD t) ∧ (dueL (wordsL t0) (wordsL t1) (wordsL t2))[i]? = some (a, wordsL t) ∧ TabOk' t := by
      rcases List.mem_cons.mp hr with rfl | hr
      · exact ⟨4, _, _, rfl, rfl, h0⟩
      rcases List.mem_cons.mp hr with rfl | hr
      · exact ⟨2, _, _, rfl, rfl, h1⟩
      rcases List.mem_cons.mp hr with rfl | hr
      · exact ⟨5, _, _, rfl, rfl, h2⟩
      · cases hr
    (refine ex_3_3 (hr') fun i a t zq126 hi ht => ?_; (first | subst zq126 | cases zq126))
    show Ev g _ 9 [("table", .v (tabD t)), ("name", .v (strD a)), ("told", .v (toldD (wordsL t0) (wordsL t1) (wordsL t2)))] _ (tabD t)
    exact Ev.callG (Evs.cons (Ev.sub (by walk_at "nm") (by walk_at "nm") (Itm.sd (i := i) (x := S a) (by rw [List.getElem?_map, hi]; rfl))) (Evs.cons (Ev.callG (Evs.nm1 (by walk_at "lk")) (fn_fmt_tab ht)) Evs.nil)) (fn_table ht)
  rw [two_list]
  refine Ex.if_ (b := false) (Tr.cmp (a := .lst ([t0, t1, t2].map tabD)) (Ev.cast (Ev.nm Lk.h) rfl) (by walk_at "nm") (Cmp.neRefl (tabs_ok _))) ?_
  refine Ex.nil ?_
  refine Ex.tupL (ds := [tabD t0, tabD t1, tabD t2]) (Ev.cast (Ev.nm Lk.h) rfl) (Ass.cons (Ass.cons (Ass.cons Ass.nil))) ?_
  refine Ex.assign (Ev.callG (Evs.cons (by walk_at "nm") (Evs.cons (by walk_at "nm") Evs.nil)) hrows) ?_ (hx := .inr (by kernel_rfl))
  exact Ex.nil (show SubL _ _ by walk_at "sub")
end
section
variable {g : Gw} {k : Nat} {sc : Scope} {σ σ' : Sto}

noncomputable def segF : List Stmt := ((stB 17).drop 23).take 4
theorem row0 {σ : Sto} {x : Str} {px pc ps : Pos} {n : Nat} {r : Row} (h : Lk σ x (.v (rowD r))) (hd : (x == ("__debug__" : Str)) = false) (hcd : (x == ("__classdict__" : Str)) = false) : Ev g sc k σ (.Subscript (.Name x px) (.Constant (.int 0) n pc) ps) (.int r.1) :=
  Ev.sub (Ev.nm h hd hcd) Ev.int (Itm.tup (ds := [.int r.1, .int r.2.1, .int r.2.2]) (j := 0) (by rfl) rfl (by (exact Int.ofNat_zero_le _)) (by (exact Int.ofNat_zero_le _)))
theorem row1 {σ : Sto} {x : Str} {px pc ps : Pos} {n : Nat} {r : Row} (h : Lk σ x (.v (rowD r))) (hd : (x == ("__debug__" : Str)) = false) (hcd : (x == ("__classdict__" : Str)) = false) : Ev g sc k σ (.Subscript (.Name x px) (.Constant (.int 1) n pc) ps) (.int r.2.1) :=
  Ev.sub (Ev.nm h hd hcd) Ev.int (Itm.tup (ds := [.int r.1, .int r.2.1, .int r.2.2]) (j := 1) (by rfl) rfl (by (exact Int.ofNat_zero_le _)) (by (exact Int.ofNat_zero_le _)))
theorem row2 {σ : Sto} {x : Str} {px pc ps : Pos} {n : Nat} {r : Row} (h : Lk σ x (.v (rowD r))) (hd : (x == ("__debug__" : Str)) = false) (hcd : (x == ("__classdict__" : Str)) = false) : Ev g sc k σ (.Subscript (.Name x px) (.Constant (.int 2) n pc) ps) (.int r.2.2) :=
  Ev.sub (Ev.nm h hd hcd) Ev.int (Itm.tup (ds := [.int r.1, .int r.2.1, .int r.2.2]) (j := 2) (by rfl) rfl (by (exact Int.ofNat_zero_le _)) (by (exact Int.ofNat_zero_le _)))
noncomputable def sideOf (s : Int) (r : Row) : Int := if s = 1 then r.2.1 else r.2.2
noncomputable def okFF (t0 t1 t2 : List Row) (line : List Nat) : Fl → Prop
  | .next σ' => SubL σ' [("there", .v (tabD t0)), ("back", .v (tabD t1)), ("unlike", .v (tabD t2)), ("ends", .v (.lst ([line, line.reverse].map wsD)))]
  | _ => False
theorem norms_ok (ls : List (List Nat)) : (D.lst (ls.map fun l => (wsOf l).norm)).ok 9 = true := by
  have : D.oks 8 (ls.map fun l => (wsOf l).norm) = true := by
    induction ls with
    | nil => simp [D.oks]
    | cons l ls ih => rw [List.map_cons, D.oks, Bool.and_eq_true]; exact ⟨by simp [Ws.norm, D.ok, D.oks, D.oks_ints], ih⟩
  simpa [D.ok] using this
theorem law_F {one two : List Int} {t0 t1 t2 rows : List Row} {line : List Nat} {m : Nat} {cs1 cs2 : List Int} {tb1 tb2 b1 b2 : Int} (ho : one.length ≤ 100) (ht : two.length ≤ 100) (hmem : (m : Int) ∈ one ++ two) (hmax : ∀ x ∈ one ++ two, x ≤ (m : Int)) (hm : m ≤ 100) (hrl : rows.length ≤ 900)
    (hs : rows.map (·.1) = (List.range (m + 1)).map fun (i : Nat) => (1 : Int) + i) (e0 : t0 = rows.filter fun r => decide (r.2.2 ≤ r.2.1)) (e2 : t2 = rows.filter fun r => r.2.1 != r.2.2) (e1 : t1 = (rows.filter fun r => decide (r.2.1 ≤ r.2.2)).map fun r => (r.1, r.2.2, r.2.1))
    (R1 : Rk (rows.map fun r => r.2.1) cs1 tb1 b1) (R2 : Rk (rows.map fun r => r.2.2) cs2 tb2 b2) (n1 : (wsOf line).norm = .tup [.tup ((trim cs1).map .int), .int b1]) (n2 : (wsOf line.reverse).norm = .tup [.tup ((trim cs2).map .int), .int b2]) :
    Ex g (scB 17) 9 [("rows", .v (tabD rows)), ("there", .v (tabD t0)), ("back", .v (tabD t1)), ("unlike", .v (tabD t2)), ("ends", .v (.lst ([line, line.reverse].map wsD))), ("two", .v (.lst (two.map .int))), ("one", .v (.lst (one.map .int)))] segF (okFF t0 t1 t2 line) := by
  have hz : rows.length ≤ sizeLine := Nat.le_trans hrl (by decide)
  have it : ∀ {sc' : Scope} {σ' : Sto} {px : Pos}, Lk σ' "rows" (.v (tabD rows)) → ItE g sc' 9 σ' (.Name "rows" px) (rows.map rowD) TAny := fun h => ItE.of (d := tabD rows) (Ev.nm h) It.lst
  refine Ex.if_ (b := false) (Tr.cmp (a := .lst (rows.map fun r => .int r.1)) (Ev.compA (σc := []) rowD decR decR_row (fun r => .int r.1) (it (by walk_at "lk")) (by walk_at "cap") hz (fun r _ => row0 (by walk_at "lk") (by kernel_rfl) (by kernel_rfl)))
    (Ev.cast (Ev.b1 (.type "list") (Ev.cast (d' := .rng 1 (1 + ((m + 1 : Nat) : Int)) 1) (Ev.b2 (.type "range") Ev.int (Ev.bin Ev.int (Ev.b1 (.builtin "max") (Ev.bin (by walk_at "nm") (by walk_at "nm") (Bin.addII (by (exact Nat.le_trans ‹_› (Nat.le_of_ble_eq_true rfl))) (by (exact Nat.le_trans ‹_› (Nat.le_of_ble_eq_true rfl))))) (Cl.maxL (m := (m : Int)) hmem hmax)) Bin.addI) Cl.range2) (by congr 1; lia)) (Cl.listRng (by decide) (by lia))) ?_) (Cmp.neRefl ?_)) ?_
  · have := congrArg (List.map D.int) hs
    rw [List.map_map, List.map_map] at this
    exact congrArg D.lst this.symm
  · have := okI (rows.map (·.1))
    rw [List.map_map] at this
    exact this
  refine Ex.nil ?_
  refine Ex.if_ (b := false) (Tr.cast (Tr.or2 (a := false) (b := false) (Tr.cmp (by walk_at "nm") (Ev.cast (Ev.compM (σc := []) rowD decR decR_row (fun r => decide (r.2.2 ≤ r.2.1)) rowD (it (by walk_at "lk")) (by walk_at "cap") hz (fun r _ => Tr.cmp (row1 (by walk_at "lk") (by kernel_rfl) (by kernel_rfl)) (row2 (by walk_at "lk") (by kernel_rfl) (by kernel_rfl)) Cmp.geI) (fun r _ _ => by walk_at "nm")) (by rw [← e0])) (Cmp.neRefl (rows_ok _)))
    (fun _ => Tr.cmp (by walk_at "nm") (Ev.cast (Ev.compM (σc := []) rowD decR decR_row (fun r => r.2.1 != r.2.2) rowD (it (by walk_at "lk")) (by walk_at "cap") hz (fun r _ => Tr.cmp (row1 (by walk_at "lk") (by kernel_rfl) (by kernel_rfl)) (row2 (by walk_at "lk") (by kernel_rfl) (by kernel_rfl)) Cmp.neI) (fun r _ _ => by walk_at "nm")) (by rw [← e2])) (Cmp.neRefl (rows_ok _)))) rfl) ?_
  refine Ex.nil ?_
  refine Ex.if_ (b := false) (Tr.cmp (by walk_at "nm") (Ev.cast (Ev.compM (σc := []) rowD decR decR_row (fun r => decide (r.2.1 ≤ r.2.2)) (fun r => rowD (r.1, r.2.2, r.2.1)) (it (by walk_at "lk")) (by walk_at "cap") hz (fun r _ => Tr.cmp (row2 (by walk_at "lk") (by kernel_rfl) (by kernel_rfl)) (row1 (by walk_at "lk") (by kernel_rfl) (by kernel_rfl)) Cmp.geI) (fun r _ _ => Ev.tup (ds := [.int r.1, .int r.2.2, .int r.2.1]) (Evs.cons (row0 (r := r) (by walk_at "lk") (by kernel_rfl) (by kernel_rfl)) (Evs.cons (row2 (r := r) (by walk_at "lk") (by kernel_rfl) (by kernel_rfl)) (Evs.cons (row1 (r := r) (by walk_at "lk") (by kernel_rfl) (by kernel_rfl)) Evs.nil))) (show 3 ≤ sizeLine by decide))) ?_) (Cmp.neRefl (rows_ok _))) ?_
  · rw [e1, List.map_map]; rfl
  refine Ex.nil ?_
  refine Ex.if_ (b := false) (Tr.cmp (a := .lst ([line, line.reverse].map fun l => (wsOf l).norm)) (Ev.cast (Ev.compA (σc := [("rows", .v (tabD rows))]) (xs := [(1 : Int), 2]) D.int decI (fun _ => rfl) (fun s => if s = 1 then (wsOf line).norm else (wsOf line.reverse).norm) (ItE.of (d := .tup [.int 1, .int 2]) (Ev.tup (Evs.cons Ev.int (Evs.cons Ev.int Evs.nil))) It.tup) (by walk_at "cap") (show 2 ≤ sizeLine by decide) (fun s h => ?_) (hx := .inr (by kernel_rfl))) rfl)
    (Ev.compA (σc := []) wsD decW decW_ws (fun l => (wsOf l).norm) (ItE.of (d := .lst ([line, line.reverse].map wsD)) (by walk_at "nm") It.lst) (by walk_at "cap") (show 2 ≤ sizeLine by decide) (fun l h => Ev.at (by walk_at "lk") rfl)) (Cmp.neRefl (norms_ok _))) ?_
  · have hs12 : s = 1 ∨ s = 2 := by simpa using h
    refine Ev.callG (Evs.cons (d := .lst ((rows.map (sideOf s)).map .int)) (Ev.cast (Ev.compA (σc := [("side", .v (.int s))]) rowD decR decR_row (fun r => .int (sideOf s r)) (it (by walk_at "lk")) (by walk_at "cap") hz (fun r _ => ?_)) (by rw [List.map_map]; rfl)) Evs.nil) (f := 148) ?_
    · rcases hs12 with rfl | rfl
      · exact Ev.sub (Ev.nm (d := rowD r) Lk.h) (Ev.nm (d := .int 1) (by walk_at "lk")) (Itm.tup (ds := [.int r.1, .int r.2.1, .int r.2.2]) (j := 1) (by rfl) rfl (by (exact Int.ofNat_zero_le _)) (by (exact Int.ofNat_zero_le _)))
      · exact Ev.sub (Ev.nm (d := rowD r) Lk.h) (Ev.nm (d := .int 2) (by walk_at "lk")) (Itm.tup (ds := [.int r.1, .int r.2.1, .int r.2.2]) (j := 2) (by rfl) rfl (by (exact Int.ofNat_zero_le _)) (by (exact Int.ofNat_zero_le _)))
    · rcases hs12 with rfl | rfl
      · rw [if_pos rfl, n1]; exact fn_reckoned R1
      · rw [if_neg (by decide), n2]; exact fn_reckoned R2
  · exact Ex.nil (Ex.nil (show SubL _ _ by walk_at "sub"))
end
section
variable {g : Gw} {k : Nat} {sc : Scope} {σ σ' : Sto}

noncomputable def segG : List Stmt := (stB 17).drop 27
theorem bools_ok (l : List Bool) : (D.lst (l.map .bool)).ok 9 = true := by
  have : D.oks 8 (l.map .bool) = true := by
    induction l with
    | nil => simp [D.oks]
    | cons b l ih => rw [List.map_cons, D.oks, Bool.and_eq_true]; exact ⟨by simp [D.ok], ih⟩
  simpa [D.ok] using this
noncomputable def decB : D → Bool
  | .bool b => b
  | _ => false
theorem law_G {t0 t1 t2 : List Row} {line : List Nat} (o1 : (wsOf line).Ok) (o2 : (wsOf line.reverse).Ok) (a0 : lessP (wsOf line) (wsOf line.reverse) = t0.isEmpty) (a1 : lessP (wsOf line.reverse) (wsOf line) = t1.isEmpty)
    (a2 : PyData.eqv (wsOf line).norm.py (wsOf line.reverse).norm.py = t2.isEmpty) (a3 : PyData.eqv (wsOf line.reverse).norm.py (wsOf line).norm.py = t2.isEmpty) :
    Ex g (scB 17) 9 [("there", .v (tabD t0)), ("back", .v (tabD t1)), ("unlike", .v (tabD t2)), ("ends", .v (.lst ([line, line.reverse].map wsD)))] segG (Rets (.bool true)) := by
  have en : ∀ {σ : Sto} {i : Nat} {l : List Nat} {px pc ps : Pos} {n : Nat}, Lk σ "ends" (.v (.lst ([line, line.reverse].map wsD))) → ([line, line.reverse].map wsD)[i]? = some (wsD l) → i < 2 → Ev g (scB 17) 9 σ (.Subscript (.Name "ends" px) (.Constant (.int (i : Int)) n pc) ps) (wsD l) := fun hk hi h2 => Ev.sub (Ev.nm hk) Ev.int (Itm.lst (seqIndex_nat (by simpa using h2)) hi (show 2 ≤ sizeLine by decide))
  refine Ex.assign (d := .lst ([t0.isEmpty, t1.isEmpty, t2.isEmpty, t2.isEmpty].map .bool)) (Ev.list (Evs.cons (Ev.methF (en (i := 0) (l := line) (by walk_at "lk") rfl (by decide)) (Mth.inst (f := 66) (by rfl)) (Evs.cons (en (i := 1) (l := line.reverse) (by walk_at "lk") rfl (by decide)) Evs.nil) (by rw [← a0]; exact fn_less o1 o2))
    (Evs.cons (Ev.methF (en (i := 1) (l := line.reverse) (by walk_at "lk") rfl (by decide)) (Mth.inst (f := 66) (by rfl)) (Evs.cons (en (i := 0) (l := line) (by walk_at "lk") rfl (by decide)) Evs.nil) (by rw [← a1]; exact fn_less o2 o1))
    (Evs.cons (Ev.methF (en (i := 0) (l := line) (by walk_at "lk") rfl (by decide)) (Mth.inst (f := 52) (by rfl)) (Evs.cons (en (i := 1) (l := line.reverse) (by walk_at "lk") rfl (by decide)) Evs.nil) (by rw [← a2]; exact fn_equal))
    (Evs.cons (Ev.methF (en (i := 1) (l := line.reverse) (by walk_at "lk") rfl (by decide)) (Mth.inst (f := 52) (by rfl)) (Evs.cons (en (i := 0) (l := line) (by walk_at "lk") rfl (by decide)) Evs.nil) (by rw [← a3]; exact fn_equal)) Evs.nil)))) (show 4 ≤ sizeLine by decide)) ?_
  have eq0 : ∀ {σ : Sto} {x : Str} {t : List Row} {px pl ps : Pos}, Lk σ x (.v (tabD t)) → (x == ("__debug__" : Str)) = false → (x == ("__classdict__" : Str)) = false → Ev g (scB 17) 9 σ (.Compare (.Name x px) [.Eq] [.List [] pl] ps) (.bool t.isEmpty) := fun {σ x t px pl ps} h hd hcd => by
    rw [← eqv_nilR t]
    exact Ev.cmp (Ev.nm h hd hcd) (Ev.list Evs.nil) (Cmp.eqD (rows_ok t) (by simp [D.ok, D.oks]))
  refine Ex.assign (d := .lst ([t0.isEmpty, t1.isEmpty, t2.isEmpty, t2.isEmpty].map .bool)) (Ev.list (Evs.cons (eq0 (by walk_at "lk") (by kernel_rfl) (by kernel_rfl)) (Evs.cons (eq0 (by walk_at "lk") (by kernel_rfl) (by kernel_rfl)) (Evs.cons (eq0 (by walk_at "lk") (by kernel_rfl) (by kernel_rfl)) (Evs.cons (eq0 (by walk_at "lk") (by kernel_rfl) (by kernel_rfl)) Evs.nil)))) (show 4 ≤ sizeLine by decide)) ?_
  refine Ex.ret (d := .bool true) (Ev.cmp (a := .lst ([true, true, true, true].map .bool)) (b := .lst ([true, true, true, true].map .bool)) (Ev.cast (Ev.comp (CompOk.two (σc := []) (rs := ([t0.isEmpty, t1.isEmpty, t2.isEmpty, t2.isEmpty].map D.bool).zip ([t0.isEmpty, t1.isEmpty, t2.isEmpty, t2.isEmpty].map D.bool)) (fun r => .bool (decB r.1 == decB r.2)) (ItE.zip (Evs.cons (by walk_at "nm") (Evs.cons (by walk_at "nm") Evs.nil))) (by walk_at "cap") (show 4 ≤ sizeLine by decide) (fun r hr => ?_))) ((congrArg D.lst (two_list (fun r => .bool (decB r.1 == decB r.2)) _)).trans ?_)) (Ev.list (Evs.cons Ev.bool (Evs.cons Ev.bool (Evs.cons Ev.bool (Evs.cons Ev.bool Evs.nil)))) (show 4 ≤ sizeLine by decide)) (Cmp.eqRefl (bools_ok _))) rfl
  · have hr' : ∃ a b, r = (D.bool a, D.bool b) := by
      have := List.of_mem_zip hr
      (refine ex_1_2 (List.mem_map.mp this.1) fun a _ ha => ?_)
      (refine ex_1_2 (List.mem_map.mp this.2) fun b _ hb => ?_)
      exact ⟨a, b, by rw [ha, hb]⟩
    (refine ex_2_1 (hr') fun a b zq127 => ?_; (first | subst zq127 | cases zq127))
    show Ev g _ 9 [("want", .v (.bool b)), ("answer", .v (.bool a))] _ (.bool (a == b))
    exact Ev.cmp (by walk_at "nm") (by walk_at "nm") Cmp.isB
  · simp [decB]
end
section
variable {g : Gw} {k : Nat} {sc : Scope} {σ σ' : Sto}

theorem h158 (w : World) : FH w 158 (stB 17) (scB 17) := by walk_at "fh"
set_option tactic.hygienic true in
theorem ns_of_in {w : World} {h : Heap} {a : Addr} {m : Str → Option Value} {x : Str} {r : Option Value} (K : (KK w).In h) (hn : h.Ns a m) (e : nsIn (KK w) a x = some r) : m x = r := by
  (refine ex_3_4 (hn) fun o es ep ho hd _ hf => ?_)
  unfold nsIn at e
  split at e
  · rename_i c d es' n sl hl
    have := K _ _ hl
    rw [ho] at this
    cases this
    cases hd
    rw [← hf x]
    unfold nsFind findBy
    rw [← Array.find?_toList]
    split at e
    · rename_i en he
      rw [he]; cases e; rfl
    · rename_i he
      rw [he]
      split at e
      · cases e
      · cases e; rfl
  · cases e
theorem gw_ok {w : World} {s₀ s₁ : Shared} {mg mb : Str → Option Value} {le : Env} {p : Program} {loose : List Str} (K : (KK w).In s₁.heap) (T : Top p loose (ExcName.means s₀.heap) mg mb s₁.heap) (hp : ∃ d ∈ recsOf p, d.name = "format_witnesses") (lfn : s₁.heap.get? le.locals = none) (lff : le.frame = some le.locals) (lfk : le.scope.kind = .function) : (⟨w, s₁, mg, mb, le⟩ : Gw).Ok where
  kin := K
  gl := T.g
  bn := T.b
  lim := T.nolimit
  dig := T.nodigits
  bi := T.builtins
  bmod := bmod_of_top T
  code := by
    (refine ex_1_2 (hp) fun d hd hn => ?_)
    (refine ex_5_6 (T.tab d hd) fun a o fd c P h1 h2 h3 h4 h5 h6 => ?_)
    rw [hn] at h1
    have e := ns_of_in K T.g (by kernel_rfl : nsIn (KK w) mainGlobals "format_witnesses" = some (some (.ref 87)))
    rw [e] at h1
    cases h1
    (refine ex_1_2 ((h87 w).at_) fun o' ho' hd' => ?_)
    have := K _ _ ho'
    rw [h2] at this
    cases this
    rw [hd'] at h3
    cases h3
    rw [c87 w] at h4
    cases h4
    have hP : P = PF := by
      (refine ex_2_4 (h6.1) fun oc vs hc _ hdc h11 => ?_)
      have hk : ∃ oc', (KK w).lookup cF = some oc' ∧ ∃ vs', oc'.data = .fields vs' ∧ vs'[11]? = some (.ref PF) := ⟨_, rfl, _, rfl, rfl⟩
      (refine ex_1_2 (hk) fun oc' l1 zq128 => ?_; refine ex_1_2 (zq128) fun vs' l2 l3 => ?_)
      have := K _ _ l1
      rw [hc] at this
      cases this
      rw [hdc] at l2
      cases l2
      rw [h11] at l3
      cases l3
      rfl
    subst hP
    exact ⟨h5, h6⟩
  lfn := lfn
  lff := lff
  lfk := lfk
end
section
variable {g : Gw} {k : Nat} {sc : Scope} {σ σ' : Sto}

theorem law_call {w : World} {s₀ s₁ : Shared} {mg mb : Str → Option Value} {p : Program} {loose : List Str} {l : Addr} {vs : List Value} {script : List Int} {E : Value → Shared → Prop} (K : (KK w).In s₁.heap) (T : Top p loose (ExcName.means s₀.heap) mg mb s₁.heap) (hp : ∃ d ∈ recsOf p, d.name = "format_witnesses") (hg : s₁.gens = #[])
    (hL : s₁.heap.IsList l vs.toArray) (hI : IntsAre vs script) (law : ∀ g : Gw, Ex g (scB 17) 9 [("script", .v (.lst (script.map .int)))] (stB 17) (Rets (.bool true))) :
    wpAny (model pg w) callerA (call (.ref 158) [.ref l]) (fun v s' => v = .bool true ∧ OldK s₁.heap s'.heap ∧ s'.os = s₁.os ∧ AllBare s'.gens) E s₁ := by
  have H := h158 w
  (refine ex_1_2 (H.at_) fun o ho hdat => ?_)
  have hco := H.co
  have hgen := H.gen
  have hkd := H.kd
  have hsc' := H.scp
  refine wpAny_call (codeAny_call_cells (show callerA.depth < recursionLimit by decide) (K _ _ ho) hdat T.nolimit (codeRec_of K H.cd) H.bd (show bindArgs (fdAt w 158) ⟨[.ref l], []⟩ = pure [(("script" : Str), Value.ref l)] by kernel_rfl) H.clo (fun y hy => ?_) (fun s₂ C => ?_) (by rw [hsc']; exact hco) (by rw [hsc']; exact hgen) (by rw [hsc']; exact hkd))
  · rw [List.mem_singleton] at hy; subst hy
    exact .inl (by rw [hsc']; kernel_rfl)
  generalize hEn : callEnvC (fdAt w 158) s₁.heap.objs.size 158 = env at C ⊢
  have hsc : env.scope = scB 17 := by rw [← hEn]; exact H.scp
  have hkof : env.kindOf = fun y => (scB 17).names.lookup y := by funext y; unfold Env.kindOf; rw [hsc]
  have hcel : ∀ n, (scB 17).names.lookup n = some .cell → ∃ c, env.cells.lookup n = some c := fun n hn => by rw [← hEn]; exact cellsFrom_has (fdAt w 158).scope.names (s₁.heap.objs.size + 1) [] (.inr (by rw [hsc']; exact hn))
  have he : EnvOk (scB 17) env := ⟨hsc, hkd, by rw [← hEn]; exact H.gl, by rw [← hEn]; exact H.bi, hcel⟩
  have hLL : env.locals = s₁.heap.objs.size := by rw [← hEn]; rfl
  have hfL : env.frame = some env.locals := by rw [← hEn]; rfl
  have freshL : s₁.heap.get? env.locals = none := by rw [hLL]; exact get_size _
  let g : Gw := ⟨w, s₁, mg, mb, env⟩
  have ok : g.Ok := gw_ok K T hp freshL hfL (by rw [hsc]; exact hkd)
  have keep := C.toInCall.keep
  obtain ⟨mL, hmL⟩ : ∃ m, s₂.heap.Ns env.locals m := ⟨_, C.toInCall.ns⟩
  (refine ex_2_1 (C.toInCall.same) fun h₂ tk zq129 => ?_; (first | subst zq129 | cases zq129))
  have hPF : s₁.heap.get? PF = some { cls := .none, data := .fields #[] } := ok.code.2.2
  have freshC : ∀ n c, env.cells.lookup n = some c → s₁.heap.get? c = none := fun n c hc => by
    have := C.above n c (PySem.mem_of_lookup hc)
    cases e : s₁.heap.get? c with
    | none => rfl
    | some o => have h2 := Heap.lt_size e; rw [hLL] at this; exact absurd h2 (Nat.not_lt.mpr (Nat.le_of_lt this))
  have nP : ∀ {q}, s₁.heap.get? q = none → q ≠ PF := fun h z => by rw [z, hPF] at h; cases h
  have W2 : Wd g { s₁ with heap := h₂, toks := tk } :=
    { ok := ok, ext := fun b o _ e => keep b o e, old := (OldK.of_keep fun _ _ e => e).step_keeps keep, tab := ⟨#[], ok.code.1.keeps keep, ok.code.2.keeps keep⟩, bare := .of_eq hg, os := rfl, la := by
        (refine ex_3_3 (hmL) fun oL es ep hoL hdL _ => ?_)
        exact ⟨oL, hoL, fun vs z => by rw [hdL] at z; cases z⟩ }
  have fresh : ∀ q, Place env q → s₁.heap.get? q = none := by
    rintro q (rfl | ⟨n, hn⟩)
    · exact freshL
    · exact freshC n q hn
  (refine ex_1_3 (hL) fun ol hol hcl zq130 => ?_; refine ex_1_1 (zq130) fun nl hdl => ?_)
  have rl : Rep g (fun a => a = PF ∨ Place env a) h₂ (.ref l) (.lst (script.map .int)) := .lst (fun z => by
    rcases z with z | z
    · rw [z, hPF] at hol; cases hol; cases hcl
    · rw [fresh l z] at hol; cases hol) (keep _ _ hol) hcl hdl (reps_ints hI)
  have S : StX g env s₁ (fun a => a = PF) [] [] [] (fun a => a = PF ∨ Place env a) [("script", .v (.lst (script.map .int)))] { s₁ with heap := h₂, toks := tk } :=
    { wd := W2, ext := .keeps keep, sub := fun a x => .inl x, new := fun a => by
        rintro (x | p)
        · exact .inl x
        · exact .inr (fresh a p)
      fl := freshL, fc := freshC, fm := fun x d a hx => by
        rcases lookup_cons hx with ⟨_, h⟩ | ⟨_, h⟩
        · cases h
        · simp at h
      pr := fun p hp => (nomatch hp), tm := .nil
      F := { pf := .inl rfl, lf := .inr (.inl rfl), loc := .inr (.inl rfl), cel := fun n c hc => .inr (.inr ⟨n, hc⟩), al := fun a => by
              rintro (x | rfl | ⟨n, hn⟩)
              · exact ⟨_, x ▸ keep _ _ hPF⟩
              · (refine ex_3_2 (hmL) fun o _ _ ho _ => ?_); exact ⟨o, ho⟩
              · (refine ex_1_2 (C.cell n a hn) fun o ho _ => ?_); exact ⟨o, ho⟩
             nPF := nP freshL, hiL := freshL, cPF := fun n c hc => by
              have h3 := C.above n c (PySem.mem_of_lookup hc)
              exact ⟨⟨nP (freshC n c hc), Nat.ne_of_gt h3⟩, Nat.ne_of_gt h3, freshC n c hc, _, C.cell n c hc⟩
             cinj := fun n n' c h1 h2 => name_of_addr C.apart (PySem.mem_of_lookup h1) (PySem.mem_of_lookup h2), ns := ⟨_, hmL⟩, var := fun x b hx => by
              rcases lookup_cons hx with ⟨rfl, rfl⟩ | ⟨_, h⟩
              · refine ⟨.ref l, .inl ⟨by rw [hkof]; kernel_rfl, _, C.toInCall.ns, ?_⟩, rl⟩
                rw [hkof]; kernel_rfl
              · simp at h
             sole := fun x y d e a h1 => by
              rcases lookup_cons h1 with ⟨_, h⟩ | ⟨_, h⟩
              · cases h
              · simp at h } }
  have hR : Room g 9 (callerA.deeper env) := ⟨rfl, Nat.le_refl _, fun _ => rfl, show 302 + 10 * 9 < 990 by decide, show 7 + 100 * 9 < 9600 by decide⟩
  refine wpAny_mono ((law g).run env (callerA.deeper env) s₁ (fun a => a = PF) [] [] [] _ _ he hR ⟨fun a z => ⟨_, z ▸ hPF⟩⟩ ⟨_, S⟩) (fun fl s' q => ?_) fun _ _ e => e
  cases fl with
  | ret v =>
    obtain ⟨d, rfl, q, r⟩ := q
    (first | obtain ⟨_, rfl⟩ := Rep.int_inv r | obtain ⟨_, rfl⟩ := Rep.str_inv r | obtain rfl := Rep.bool_inv r | obtain rfl := Reps.nil_inv r | obtain rfl := Rep.none_inv r)
    exact ⟨rfl, q.wd.old, q.wd.os, q.wd.bare⟩
  | next => obtain ⟨σ', q, _⟩ := q; cases q
  | brk => obtain ⟨σ', q, _⟩ := q; exact q.elim
  | cont => obtain ⟨σ', q, _⟩ := q; exact q.elim
end
section
variable {g : Gw} {k : Nat} {sc : Scope} {σ σ' : Sto}

structure LawOk (one two : List Int) (t0 t1 t2 rows : List Row) (line : List Nat) (m : Nat) (cs1 cs2 : List Int) (tb1 tb2 b1 b2 : Int) : Prop where
  h1 : RunsOk one
  h2 : RunsOk two
  o1 : (wsOf (leadL one)).Ok
  o2 : (wsOf (leadL two)).Ok
  e0 : t0 = table pGe (wsOf (leadL one)) (wsOf (leadL two))
  e1 : t1 = table pGe (wsOf (leadL two)) (wsOf (leadL one))
  e2 : t2 = table pNe (wsOf (leadL one)) (wsOf (leadL two))
  k0 : TabOk' t0
  k1 : TabOk' t1
  k2 : TabOk' t2
  kl : ∀ t ∈ [t0, t1, t2], t.length ≤ 20
  el : line = lineOf one two [wordsL t0, wordsL t1, wordsL t2]
  lc : ∀ c ∈ line, c < 1114112
  wc : ∀ w ∈ [wordsL t0, wordsL t1, wordsL t2], ∀ c ∈ w, c < 1114112
  m1 : memD line = membersD line one
  m2 : memD line.reverse = membersD line.reverse two
  hr : (httpL line).map stripL = readL (wordsL t0) (wordsL t1) (wordsL t2)
  rp : (rows.map (·.1)).Perm ((bothL t0 t1).map (·.1))
  rs : rows.Pairwise (fun a b => a.1 < b.1)
  ri : ∀ r ∈ rows, (r.1, r) ∈ bothL t0 t1
  rl : rows.length < 64
  hmem : (m : Int) ∈ one ++ two
  hmax : ∀ x ∈ one ++ two, x ≤ (m : Int)
  hm : m ≤ 100
  sz : rows.map (·.1) = (List.range (m + 1)).map fun (i : Nat) => (1 : Int) + i
  f0 : t0 = rows.filter fun r => decide (r.2.2 ≤ r.2.1)
  f2 : t2 = rows.filter fun r => r.2.1 != r.2.2
  f1 : t1 = (rows.filter fun r => decide (r.2.1 ≤ r.2.2)).map fun r => (r.1, r.2.2, r.2.1)
  R1 : Rk (rows.map fun r => r.2.1) cs1 tb1 b1
  R2 : Rk (rows.map fun r => r.2.2) cs2 tb2 b2
  n1 : (wsOf line).norm = .tup [.tup ((trim cs1).map .int), .int b1]
  n2 : (wsOf line.reverse).norm = .tup [.tup ((trim cs2).map .int), .int b2]
  p1 : (wsOf line).Ok
  p2 : (wsOf line.reverse).Ok
  a0 : lessP (wsOf line) (wsOf line.reverse) = t0.isEmpty
  a1 : lessP (wsOf line.reverse) (wsOf line) = t1.isEmpty
  a2 : PyData.eqv (wsOf line).norm.py (wsOf line.reverse).norm.py = t2.isEmpty
  a3 : PyData.eqv (wsOf line.reverse).norm.py (wsOf line).norm.py = t2.isEmpty
theorem words20 {t : List Row} (hl : t.length ≤ 20) (h : ∀ r ∈ t, RowOk r) : (wordsL t).length ≤ 2000 := by
  unfold wordsL
  have h1 := joinL_len [44, 32] (t.map quotedRow)
  have h2 := sum_le (fun r : Row => (quotedRow r).length) 40 t (fun r hr => quoted_len (h r hr))
  have h3 : (pfxL t.length).length ≤ 12 := by unfold pfxL; split <;> simp
  rw [List.map_map, List.length_map] at h1
  simp only [List.length_append, List.length_cons, List.length_nil, Function.comp_def] at h1 ⊢
  lia
theorem stB17_eq : stB 17 = segA ++ (segB ++ (segC ++ (segD ++ (segE ++ (segF ++ segG))))) := by kernel_rfl
theorem Ex.seg {a b : List Stmt} {Q Q1 : Fl → Prop} {τ : Sto} (h : Ex g sc k σ a Q1) (hn : ∀ σ', Q1 (.next σ') → SubL σ' τ) (hb : ∀ σ', ¬ Q1 (.brk σ')) (hc : ∀ σ', ¬ Q1 (.cont σ')) (hr : ∀ d, ¬ Q1 (.ret d)) (hq : Ex g sc k τ b Q) : Ex g sc k σ (a ++ b) Q :=
  Ex.app (Ex.mono h fun f hf => by
    cases f with
    | next σ' => exact Ex.sub hq (Sub.of (hn σ' hf))
    | brk σ' => exact absurd hf (hb σ')
    | cont σ' => exact absurd hf (hc σ')
    | ret d => exact absurd hf (hr d))
theorem law_all {script one two : List Int} {t0 t1 t2 rows : List Row} {line : List Nat} {m : Nat} {cs1 cs2 : List Int} {tb1 tb2 b1 b2 : Int} (hs : script.length ≤ 1000) (e : leads script = (one, two)) (L : LawOk one two t0 t1 t2 rows line m cs1 cs2 tb1 tb2 b1 b2) :
    Ex g (scB 17) 9 [("script", .v (.lst (script.map .int)))] (stB 17) (Rets (.bool true)) := by
  rw [stB17_eq]
  have l1 := lead_len L.h1
  have l2 := lead_len L.h2
  have w0 := words20 (L.kl _ (.head _)) L.k0.r
  have w1 := words20 (L.kl _ (.tail _ (.head _))) L.k1.r
  have w2 := words20 (L.kl _ (.tail _ (.tail _ (.head _)))) L.k2.r
  have hw : ∀ w ∈ [wordsL t0, wordsL t1, wordsL t2], w.length ≤ 2000 := fun w hw => by
    simp only [List.mem_cons, List.not_mem_nil, or_false] at hw
    rcases hw with rfl | rfl | rfl <;> assumption
  have hll : line.length ≤ 50000 := by rw [L.el]; exact line_len L.h1 L.h2 hw
  have A := law_A (g := g) hs e L.h1 L.h2 (by (exact Nat.le_trans ‹_› (Nat.le_of_ble_eq_true rfl))) (by (exact Nat.le_trans ‹_› (Nat.le_of_ble_eq_true rfl))) L.o1 L.o2 (by
    rw [← L.e0, ← L.e1, ← L.e2]
    intro t ht
    simp only [List.mem_cons, List.not_mem_nil, or_false] at ht
    rcases ht with rfl | rfl | rfl
    · exact ⟨L.k0.l, L.k0.r⟩
    · exact ⟨L.k1.l, L.k1.r⟩
    · exact ⟨L.k2.l, L.k2.r⟩)
  rw [← L.e0, ← L.e1, ← L.e2] at A
  refine Ex.seg A (fun _ h => h) (fun _ h => h) (fun _ h => h) (fun _ h => h) ?_
  have B := law_B (g := g) (t0 := t0) (t1 := t1) (t2 := t2) L.h1 L.h2 hw
  rw [← L.el] at B
  refine Ex.seg B (fun _ h => h) (fun _ h => h) (fun _ h => h) (fun _ h => h) ?_
  refine Ex.seg (law_C L.h1 L.h2 hll L.lc L.m1 L.m2) (fun _ h => h) (fun _ h => h) (fun _ h => h) (fun _ h => h) ?_
  refine Ex.seg (law_D hll hw L.wc L.hr) (fun _ h => h) (fun _ h => h) (fun _ h => h) (fun _ h => h) ?_
  refine Ex.seg (law_E (rows := rows) L.k0 L.k1 L.k2 (fn_rows (by have := L.k0.l; omega) (by have := L.k1.l; omega) L.rp L.rs L.ri L.rl)) (fun _ h => h) (fun _ h => h) (fun _ h => h) (fun _ h => h) ?_
  refine Ex.seg (law_F L.h1.l L.h2.l L.hmem L.hmax L.hm (by have := L.rl; omega) L.sz L.f0 L.f2 L.f1 L.R1 L.R2 L.n1 L.n2) (fun _ h => h) (fun _ h => h) (fun _ h => h) (fun _ h => h) ?_
  exact law_G L.p1 L.p2 L.a0 L.a1 L.a2 L.a3
theorem hasFmt : ∃ d ∈ recsOf viewQ, d.name = "format_witnesses" := ⟨⟨"format_witnesses", stA 2, stB 2, scB 2, stP 2⟩, List.mem_of_getElem? (i := 0) (by kernel_rfl), rfl⟩
noncomputable def PlainLaw : Prop := ∀ script : List Int, ∃ t0 t1 t2 rows line m cs1 cs2 tb1 tb2 b1 b2, LawOk (leads script).1 (leads script).2 t0 t1 t2 rows line m cs1 cs2 tb1 tb2 b1 b2
set_option tactic.hygienic true in
theorem walk (P : PlainLaw) : WalkO viewQ ["Whitespace"] (XL viewQ []) hookK.says rwL.row.toRowW lawD [] fun f vs => call f vs := by
  intro w s₀ s₁ mg mb G Y fa o pm cd doc dV kV ho hd hcd hD hmg hg args vals as hpre hlay hrd hwl hlo
  have KX : (KK w).In s₁.heap := kIn_of Y
  refine Ground.open G ?_
  intro T B D TE TW
  w_on
  wrow_args hpre hlay hrd hwl hlo
  rename_i script hs hlay0 hL1 hr1 hl2 w4 w3 l vs w0 hL ra w1 r0 hI hr hlen hc
  have ef : fa = 158 := by
    have := ns_of_in KX T.g (by kernel_rfl : nsIn (KK w) mainGlobals "law" = some (some (.ref 158)))
    have h2 : mg "law" = some (.ref fa) := hmg
    rw [this] at h2
    cases h2; rfl
  subst ef
  have hl : script.length ≤ 63 := by lia
  (refine ex_12_1 (P script) fun t0 t1 t2 rows line m cs1 cs2 tb1 tb2 b1 b2 L => ?_)
  refine wpAny_mono (law_call KX T hasFmt hg hL hI fun g => law_all (by (exact Nat.le_trans ‹_› (Nat.le_of_ble_eq_true rfl))) rfl L) (fun v s' q => ?_) fun _ _ e => e
  (refine ex_0_4 (q) fun zq131 q1 q2 q3 => ?_; (first | subst zq131 | cases zq131))
  refine ⟨.inl ⟨.bool true, .bool true, [], rfl, fun cls => ?_, .bool true, ?_, fun _ => ⟨List.nodup_nil, fun a ha => nomatch ha⟩⟩, q1, q2, q3⟩
  · rfl
  · kernel_rfl
end
section
variable {g : Gw} {k : Nat} {sc : Scope} {σ σ' : Sto}

noncomputable abbrev cI (l : List Nat) : List Int := l.map fun (n : Nat) => (n : Int)
noncomputable def rep (n : Nat) : List Nat := List.replicate n 32
noncomputable def blk (cl : List Nat) : List Nat := (cl.map fun n => rep n ++ [9]).flatten
theorem leadL_cI (ns : List Nat) : leadL (cI ns) = joinL [9] (ns.map rep) := by
  unfold leadL cI
  rw [List.map_map]
  rfl
theorem lead_app (cl : List Nat) (b : Nat) : leadL (cI (cl ++ [b])) = blk cl ++ rep b := by
  rw [leadL_cI]
  induction cl with
  | nil => rfl
  | cons c cl ih =>
    have : ∃ y ys, (cl ++ [b]).map rep = y :: ys := by cases cl <;> exact ⟨_, _, rfl⟩
    (refine ex_2_1 (this) fun y ys hy => ?_)
    rw [List.cons_append, List.map_cons, hy]
    show rep c ++ [9] ++ joinL [9] (y :: ys) = _
    rw [← hy, ih]
    simp [blk]
theorem wg_rep (k : Nat) (rest : List Nat) : ∀ (w : Wg), wgGo (rep k ++ rest) w = wgGo rest ⟨w.count, w.b + k, w.n + k, w.nt⟩ := by
  induction k with
  | zero => intro w; simp [rep]
  | succ k ih =>
    intro w
    have h1 : wgGo (32 :: (rep k ++ rest)) w = wgGo (rep k ++ rest) ⟨w.count, w.b + 1, w.n + 1, w.nt⟩ := by
      conv => lhs; unfold wgGo
      rfl
    show wgGo (32 :: (rep k ++ rest)) w = _
    rw [h1, ih]
    simp only
    rw [show w.b + 1 + k = w.b + (k + 1) by lia, show w.n + 1 + (k : Int) = w.n + ((k + 1 : Nat) : Int) by lia]
noncomputable def cnF (c : List Int) (cl : List Nat) : List Int := cl.foldl bump c
theorem wg_blk (rest : List Nat) : ∀ (cl : List Nat) (c : List Int) (n nt : Int), wgGo (blk cl ++ rest) ⟨c, 0, n, nt⟩ = wgGo rest ⟨cnF c cl, 0, n + (cI cl).sum + cl.length, nt + cl.length⟩
  | [], c, n, nt => by simp [blk, cnF]
  | k :: cl, c, n, nt => by
    have e : blk (k :: cl) ++ rest = rep k ++ (9 :: (blk cl ++ rest)) := by simp [blk]
    rw [e, wg_rep]
    have h9 : wgGo (9 :: (blk cl ++ rest)) ⟨c, 0 + k, n + k, nt⟩ = wgGo (blk cl ++ rest) ⟨bump c k, 0, n + k + 1, nt + 1⟩ := by
      rw [Nat.zero_add]
      conv => lhs; unfold wgGo
      rfl
    rw [h9, wg_blk rest cl]
    have e1 : n + (k : Int) + 1 + (cI cl).sum + cl.length = n + (cI (k :: cl)).sum + ((k :: cl).length : Int) := by simp only [cI, List.map_cons, List.sum_cons, List.length_cons]; lia
    have e2 : nt + 1 + (cl.length : Int) = nt + ((k :: cl).length : Int) := by simp only [List.length_cons]; lia
    rw [e1, e2]
    rfl
theorem wg_stop {rest : List Nat} (h : ∀ c, rest.head? = some c → c ≠ 32 ∧ c ≠ 9) (w : Wg) : wgGo rest w = w := by
  cases rest with
  | nil => rfl
  | cons c r =>
    have := h c rfl
    unfold wgGo
    rw [beq_false_of_ne this.1, beq_false_of_ne this.2]; rfl
theorem wg_lead {cl : List Nat} {b : Nat} {rest : List Nat} (h : ∀ c, rest.head? = some c → c ≠ 32 ∧ c ≠ 9) : wgGo (leadL (cI (cl ++ [b])) ++ rest) wg0 = ⟨cnF [] cl, b, (cI cl).sum + cl.length + b, cl.length⟩ := by
  rw [lead_app, List.append_assoc]
  show wgGo _ ⟨[], 0, 0, 0⟩ = _
  rw [wg_blk, wg_rep, wg_stop h]
  simp
theorem bump_length (c : List Int) (b : Nat) : (bump c b).length = max c.length (b + 1) := by
  unfold bump
  simp only [List.length_set]
  split
  · simp; lia
  · lia
set_option tactic.hygienic true in
theorem bump_get (c : List Int) (b i : Nat) : (bump c b).getD i 0 = c.getD i 0 + if i = b then 1 else 0 := by
  unfold bump
  simp only
  generalize hc : (if c.length ≤ b then c ++ List.replicate (b - c.length + 1) 0 else c) = c'
  have hg : ∀ j, c'.getD j 0 = c.getD j 0 := by
    intro j
    rw [← hc]
    split
    · rename_i h
      simp only [List.getD_eq_getElem?_getD, List.getElem?_append]
      split
      · rfl
      · rename_i hj
        rw [List.getElem?_eq_none (Nat.le_of_not_lt hj), List.getElem?_replicate]
        split <;> rfl
    · rfl
  have hl : b < c'.length := by rw [← hc]; split <;> (try simp) <;> lia
  rw [← hg i, hg b, ← hg b]
  simp only [List.getD_eq_getElem?_getD, List.getElem?_set]
  by_cases e : b = i
  · subst e; rw [if_pos rfl, if_pos hl, if_pos rfl]; rfl
  · rw [if_neg e, if_neg (fun z => e z.symm)]; simp
noncomputable def mlen (cl : List Nat) : Nat := cl.foldl (fun m r => max m (r + 1)) 0
theorem cnF_facts : ∀ (cl : List Nat) (c : List Int), (cnF c cl).length = cl.foldl (fun m r => max m (r + 1)) c.length ∧ ∀ i, (cnF c cl).getD i 0 = c.getD i 0 + (cl.filter fun r => r == i).length
  | [], c => ⟨rfl, fun i => by simp [cnF]⟩
  | r :: cl, c => by
    have := cnF_facts cl (bump c r)
    rw [bump_length] at this
    refine ⟨this.1, fun i => ?_⟩
    show (cnF (bump c r) cl).getD i 0 = _
    rw [this.2 i, bump_get, List.filter_cons]
    by_cases e : i = r
    · subst e; simp; lia
    · rw [if_neg e, if_neg (by simp; exact fun z => e z.symm)]; lia
theorem mlen_spec : ∀ (cl : List Nat) (a : Nat), (∀ r ∈ cl, r + 1 ≤ cl.foldl (fun m r => max m (r + 1)) a) ∧ a ≤ cl.foldl (fun m r => max m (r + 1)) a ∧ (cl.foldl (fun m r => max m (r + 1)) a = a ∨ ∃ r ∈ cl, cl.foldl (fun m r => max m (r + 1)) a = r + 1)
  | [], a => ⟨by simp, Nat.le_refl _, .inl rfl⟩
  | r :: cl, a => by
    (refine ex_0_3 (mlen_spec cl (max a (r + 1))) fun h1 h2 h3 => ?_)
    refine ⟨fun q hq => ?_, by show a ≤ cl.foldl (fun m r => max m (r + 1)) (max a (r + 1)); lia, ?_⟩
    · rcases List.mem_cons.mp hq with rfl | hq
      · show q + 1 ≤ cl.foldl _ (max a (q + 1)); lia
      · exact h1 q hq
    · show cl.foldl _ (max a (r + 1)) = a ∨ _
      rcases h3 with h3 | ⟨q, hq, h3⟩
      · by_cases hm : r + 1 ≤ a
        · left; rw [h3]; lia
        · right; exact ⟨r, .head _, by show cl.foldl _ (max a (r + 1)) = _; rw [h3]; lia⟩
      · right; exact ⟨q, .tail _ hq, h3⟩
theorem mlen_max (cl : List Nat) : (mlen cl : Int) = 1 + maxI (cI cl) := by
  (refine ex_0_3 (mlen_spec cl 0) fun h1 _ h3 => ?_)
  have a := le_foldl_max (cI cl) (-1)
  have b := foldl_max_mem (cI cl) (-1)
  show _ = 1 + (cI cl).foldl max (-1)
  unfold mlen
  generalize (cI cl).foldl max (-1) = M at a b
  generalize cl.foldl (fun m r => max m (r + 1)) 0 = N at h1 h3
  have u : (N : Int) ≤ 1 + M := by
    rcases h3 with h3 | ⟨r, hr, h3⟩
    · have := a.1; lia
    · have := a.2 (r : Int) (List.mem_map.mpr ⟨r, hr, rfl⟩); lia
  have l : 1 + M ≤ (N : Int) := by
    rcases List.mem_cons.mp b with e | e
    · lia
    · obtain ⟨r, hr, e⟩ := List.mem_map.mp e
      have := h1 r hr; lia
  lia
theorem cnF_count (cl : List Nat) : cnF [] cl = countL (cI cl) := by
  obtain ⟨h1, h2⟩ := cnF_facts cl []
  have hm := mlen_max cl
  have hl : (cnF [] cl).length = (1 + maxI (cI cl)).toNat := by rw [h1, ← hm]; rfl
  unfold countL
  apply List.ext_getElem?
  intro i
  by_cases hi : i < (cnF [] cl).length
  · have := h2 i
    rw [List.getD_eq_getElem?_getD, List.getElem?_eq_getElem hi] at this
    rw [List.getElem?_eq_getElem hi, List.getElem?_map, List.getElem?_range (by lia)]
    simp only [Option.getD_some] at this
    rw [Option.map_some, this]
    congr 1
    have e : ((cI cl).filter fun r => r == (i : Int)).length = (cl.filter fun r => r == i).length := by
      unfold cI
      rw [List.filter_map, List.length_map]
      congr 2
      funext r
      simp only [Function.comp_apply]
      by_cases hr : r = i
      · subst hr; simp
      · rw [beq_false_of_ne hr, beq_false_of_ne (by lia)]
    rw [e]
    simp
  · rw [List.getElem?_eq_none (Nat.le_of_not_lt hi), List.getElem?_eq_none (by rw [List.length_map, List.length_range]; lia)]
end
section
variable {g : Gw} {k : Nat} {sc : Scope} {σ σ' : Sto}

noncomputable def SS (N : Nat) (f : Nat → Int) : Int := ((List.range N).map f).sum
theorem SS_zero (f : Nat → Int) : SS 0 f = 0 := rfl
theorem SS_succ (N : Nat) (f : Nat → Int) : SS (N + 1) f = SS N f + f N := by
  unfold SS; rw [List.range_succ, List.map_append, List.sum_append]; simp
theorem SS_add (f g : Nat → Int) : ∀ N, SS N (fun j => f j + g j) = SS N f + SS N g
  | 0 => rfl
  | N + 1 => by rw [SS_succ, SS_succ, SS_succ, SS_add f g N]; lia
theorem SS_congr {f g : Nat → Int} : ∀ N, (∀ j, j < N → f j = g j) → SS N f = SS N g
  | 0, _ => rfl
  | N + 1, h => by rw [SS_succ, SS_succ, SS_congr N (fun j hj => h j (by lia)), h N (by (exact Nat.lt_succ_self _))]
theorem SS_none {f : Nat → Int} : ∀ N, (∀ j, j < N → f j = 0) → SS N f = 0
  | 0, _ => rfl
  | N + 1, h => by rw [SS_succ, SS_none N (fun j hj => h j (by lia)), h N (by (exact Nat.lt_succ_self _))]; rfl
theorem SS_ind (b : Nat) (v : Int) : ∀ N, SS N (fun j => if j = b then v else 0) = if b < N then v else 0
  | 0 => rfl
  | N + 1 => by
    rw [SS_succ, SS_ind b v N]
    by_cases h : b < N
    · rw [if_pos h, if_neg (by (exact Nat.ne_of_gt ‹_›)), if_pos (by lia)]; lia
    · rw [if_neg h]
      by_cases e : N = b
      · rw [if_pos e, if_pos (by lia)]; lia
      · rw [if_neg e, if_neg (by lia)]; rfl
theorem SS_more {f : Nat → Int} (M : Nat) : ∀ k, (∀ j, M ≤ j → f j = 0) → SS (M + k) f = SS M f
  | 0, _ => rfl
  | k + 1, h => by rw [← Nat.add_assoc, SS_succ, SS_more M k h, h (M + k) (by (exact Nat.le_add_right _ _))]; lia
theorem ilGo_SS (ts : Int) (c : List Int) : ∀ (m i : Nat) (acc : Int), ilGo ts c i m acc = acc + (SS (i + m) (fun j => (j : Int).fdiv ts * c.getD j 0) - SS i (fun j => (j : Int).fdiv ts * c.getD j 0))
  | 0, i, acc => by simp [ilGo]
  | m + 1, i, acc => by
    unfold ilGo
    rw [ilGo_SS ts c m (i + 1), SS_succ, show i + 1 + m = i + (m + 1) by lia]
    lia
theorem fdiv_nat (a b : Nat) : (a : Int).fdiv b = ((a / b : Nat) : Int) := by
  rw [Int.fdiv_eq_ediv_of_nonneg _ (by (exact Int.ofNat_zero_le _))]; rfl
theorem il_all {ts N : Nat} {c : List Int} (h1 : 1 ≤ ts) (hN : c.length ≤ N) (hN2 : ts ≤ N) : ilGo ts c ts (c.length - ts) 0 = SS N (fun j => ((j / ts : Nat) : Int) * c.getD j 0) := by
  have e : ∀ M, SS M (fun j => (j : Int).fdiv (ts : Int) * c.getD j 0) = SS M (fun j => ((j / ts : Nat) : Int) * c.getD j 0) := fun M => SS_congr M fun j _ => by rw [fdiv_nat]
  rw [ilGo_SS, e, e]
  have z : SS ts (fun j => ((j / ts : Nat) : Int) * c.getD j 0) = 0 := SS_none ts fun j hj => by rw [Nat.div_eq_of_lt hj]; simp
  rw [z]
  have tail : ∀ j, c.length ≤ j → ((j / ts : Nat) : Int) * c.getD j 0 = 0 := fun j hj => by rw [List.getD_eq_getElem?_getD, List.getElem?_eq_none hj]; simp
  by_cases h : ts ≤ c.length
  · rw [show ts + (c.length - ts) = c.length by lia]
    have := SS_more c.length (N - c.length) tail
    rw [show c.length + (N - c.length) = N by lia] at this
    rw [this]; lia
  · rw [show ts + (c.length - ts) = ts by lia, z]
    have hz : SS c.length (fun j => ((j / ts : Nat) : Int) * c.getD j 0) = 0 := SS_none _ fun j hj => by rw [Nat.div_eq_of_lt (by lia)]; simp
    have := SS_more c.length (N - c.length) tail
    rw [show c.length + (N - c.length) = N by lia] at this
    rw [this, hz]; rfl
theorem SS_counts (ts N : Nat) : ∀ (cl : List Nat), (∀ r ∈ cl, r < N) → SS N (fun j => ((j / ts : Nat) : Int) * ((cl.filter fun r => r == j).length : Int)) = (((cl.map (· / ts)).sum : Nat) : Int)
  | [], _ => SS_none N fun j _ => by simp
  | r :: cl, h => by
    have ih := SS_counts ts N cl fun q hq => h q (.tail _ hq)
    have e : SS N (fun j => ((j / ts : Nat) : Int) * (((r :: cl).filter fun r => r == j).length : Int)) = SS N (fun j => (if j = r then ((r / ts : Nat) : Int) else 0) + ((j / ts : Nat) : Int) * ((cl.filter fun r => r == j).length : Int)) := SS_congr N fun j _ => by
      rw [List.filter_cons]
      by_cases z : j = r
      · subst z; simp only [beq_self_eq_true, if_true, List.length_cons]; rw [Int.natCast_add, Int.mul_add]; simp; lia
      · rw [if_neg z, if_neg (by simpa using fun q => z q.symm)]; lia
    rw [e, SS_add, SS_ind, if_pos (h r (.head _)), ih]
    simp
noncomputable def lev (cl : List Nat) (b ts : Nat) : Nat := b + ts * ((cl.map (· / ts)).sum + cl.length)
structure WsIs (w : Ws) (cl : List Nat) (b : Nat) : Prop where
  cc : w.count = cnF [] cl
  bb : w.b = (b : Int)
  n : w.n = (cI cl).sum + (cl.length : Int) + (b : Int)
  nt : w.nt = (cl.length : Int)
theorem ws_is {cl : List Nat} {b : Nat} {rest : List Nat} (h : ∀ c, rest.head? = some c → c ≠ 32 ∧ c ≠ 9) : WsIs (wsOf (leadL (cI (cl ++ [b])) ++ rest)) cl b := by
  unfold wsOf
  rw [wg_lead h]
  exact ⟨rfl, rfl, rfl, rfl⟩
theorem cnF_len (cl : List Nat) : (cnF [] cl).length = mlen cl := (cnF_facts cl []).1
theorem lvl_eq {w : Ws} {cl : List Nat} {b ts : Nat} (W : WsIs w cl b) (h1 : 1 ≤ ts) : w.lvl ts = (lev cl b ts : Int) := by
  unfold Ws.lvl
  obtain ⟨f1, f2⟩ := cnF_facts cl []
  have hN : ∀ r ∈ cl, r < mlen cl + ts := fun r hr => by have := (mlen_spec cl 0).1 r hr; show r < cl.foldl _ 0 + ts; lia
  rw [Int.toNat_natCast, W.bb, W.nt, W.cc, il_all (N := mlen cl + ts) h1 (by rw [cnF_len]; (exact Nat.le_add_right _ _)) (by (exact Nat.le_add_left _ _))]
  have : SS (mlen cl + ts) (fun j => ((j / ts : Nat) : Int) * (cnF [] cl).getD j 0) = (((cl.map (· / ts)).sum : Nat) : Int) := by
    rw [← SS_counts ts (mlen cl + ts) cl hN]
    refine SS_congr _ fun j _ => ?_
    rw [f2 j]; simp
  rw [this]
  unfold lev
  push_cast
  rfl
noncomputable def mxN (cl : List Nat) (b : Nat) : Nat := max b (mlen cl - 1)
theorem longest_eq {w : Ws} {cl : List Nat} {b : Nat} (W : WsIs w cl b) : w.longest = (mxN cl b : Int) := by
  unfold Ws.longest mxN
  rw [W.bb, W.cc, cnF_len]
  split <;> lia
theorem span_eq {w v : Ws} {cl1 cl2 : List Nat} {b1 b2 : Nat} (W : WsIs w cl1 b1) (V : WsIs v cl2 b2) : span w v = ((max (mxN cl1 b1) (mxN cl2 b2) + 1 : Nat) : Int) := by
  unfold span
  rw [longest_eq W, longest_eq V]
  split <;> lia
end
section
variable {g : Gw} {k : Nat} {sc : Scope} {σ σ' : Sto}

noncomputable def rowsOf (m : Nat) (f h : Nat → Nat) : List Row := (List.range (m + 1)).map fun (i : Nat) => ((1 : Int) + i, ((f (i + 1) : Nat) : Int), ((h (i + 1) : Nat) : Int))
theorem tabGo_eq (p : Int → Int → Bool) (w v : Ws) : ∀ (n i : Nat), tabGo p w v i n = ((List.range n).map fun (j : Nat) => (((i + j : Nat) : Int), w.lvl ((i + j : Nat) : Int), v.lvl ((i + j : Nat) : Int))).filter fun r => p r.2.1 r.2.2
  | 0, _ => rfl
  | n + 1, i => by
    unfold tabGo
    rw [List.range_succ_eq_map, List.map_cons, List.filter_cons, List.map_map, tabGo_eq p w v n (i + 1)]
    have e : (fun (j : Nat) => (((i + 1 + j : Nat) : Int), w.lvl ((i + 1 + j : Nat) : Int), v.lvl ((i + 1 + j : Nat) : Int))) = (fun (j : Nat) => (((i + j : Nat) : Int), w.lvl ((i + j : Nat) : Int), v.lvl ((i + j : Nat) : Int))) ∘ Nat.succ := funext fun j => by
      simp only [Function.comp_apply, show i + j.succ = i + 1 + j by lia]
    rw [e]
    simp only [Nat.add_zero]
    cases p (w.lvl i) (v.lvl i) <;> rfl
theorem table_rows {p : Int → Int → Bool} {w v : Ws} {cl1 cl2 : List Nat} {b1 b2 : Nat} (W : WsIs w cl1 b1) (V : WsIs v cl2 b2) : table p w v = (rowsOf (max (mxN cl1 b1) (mxN cl2 b2)) (lev cl1 b1) (lev cl2 b2)).filter fun r => p r.2.1 r.2.2 := by
  unfold table
  rw [tabGo_eq, span_eq W V, Int.toNat_natCast]
  congr 1
  unfold rowsOf
  refine List.map_congr_left fun i _ => ?_
  rw [lvl_eq W (by (exact Nat.le_add_right _ _)), lvl_eq V (by (exact Nat.le_add_right _ _)), Nat.add_comm 1 i]
  congr 1
  lia
theorem rows_pair (m : Nat) (f h : Nat → Nat) : (rowsOf m f h).Pairwise fun a b => a.1 < b.1 := by
  unfold rowsOf
  rw [List.pairwise_map]
  exact List.pairwise_lt_range.imp fun hab => by show (1 : Int) + _ < 1 + _; lia
theorem rows_keys (m : Nat) (f h : Nat → Nat) : (rowsOf m f h).map (·.1) = (List.range (m + 1)).map fun (i : Nat) => (1 : Int) + i := by
  unfold rowsOf; rw [List.map_map]; rfl
noncomputable def swR (r : Row) : Row := (r.1, r.2.2, r.2.1)
theorem rows_swap (m : Nat) (f h : Nat → Nat) : rowsOf m h f = (rowsOf m f h).map swR := by
  unfold rowsOf; rw [List.map_map]; rfl
theorem table_back {w v : Ws} {cl1 cl2 : List Nat} {b1 b2 : Nat} (W : WsIs w cl1 b1) (V : WsIs v cl2 b2) : table pGe v w = ((rowsOf (max (mxN cl1 b1) (mxN cl2 b2)) (lev cl1 b1) (lev cl2 b2)).filter fun r => decide (r.2.1 ≤ r.2.2)).map swR := by
  rw [table_rows V W, Nat.max_comm, rows_swap, List.filter_map]
  rfl
theorem pair_nodup {rows : List Row} (h : rows.Pairwise fun a b => a.1 < b.1) : (rows.map (·.1)).Nodup := by
  unfold List.Nodup
  rw [List.pairwise_map]
  exact h.imp fun hab => by lia
theorem pair_inj {rows : List Row} (h : rows.Pairwise fun a b => a.1 < b.1) {r q : Row} (hr : r ∈ rows) (hq : q ∈ rows) (e : r.1 = q.1) : r = q := by
  have a := find_row h r hr
  have b := find_row h q hq
  rw [e, b] at a
  exact (Option.some.inj a).symm
structure BothOk (rows : List Row) (b : List (Int × Row)) : Prop where
  nd : (b.map (·.1)).Nodup
  at_ : ∀ e ∈ b, e.1 = e.2.1 ∧ e.2 ∈ rows
theorem put_row {rows : List Row} (h : rows.Pairwise fun a b => a.1 < b.1) {b : List (Int × Row)} (B : BothOk rows b) {r : Row} (hr : r ∈ rows) : BothOk rows (putL b r.1 r) ∧ (r.1, r) ∈ putL b r.1 r ∧ (∀ e ∈ b, e ∈ putL b r.1 r) := by
  by_cases hk : r.1 ∈ b.map (·.1)
  · have e : putL b r.1 r = b := by
      unfold putL
      rw [if_pos (by rw [List.any_eq_true]; (refine ex_1_2 (List.mem_map.mp hk) fun x hx ex => ?_); exact ⟨x, hx, by simpa using ex⟩)]
      rw [List.map_congr_left (g := id), List.map_id]
      intro x hx
      by_cases z : x.1 = r.1
      · rw [if_pos z]
        obtain ⟨a1, a2⟩ := B.at_ x hx
        have := pair_inj h a2 hr (a1.symm.trans z)
        obtain ⟨x1, x2⟩ := x
        simp only at this z ⊢
        rw [this]; rfl
      · rw [if_neg z]; rfl
    rw [e]
    refine ⟨B, ?_, fun e he => he⟩
    (refine ex_1_2 (List.mem_map.mp hk) fun x hx ex => ?_)
    obtain ⟨a1, a2⟩ := B.at_ x hx
    have := pair_inj h a2 hr (a1.symm.trans ex)
    obtain ⟨x1, x2⟩ := x
    simp only at this ex
    rw [this, ex] at hx
    exact hx
  · rw [putL_new _ _ _ hk]
    refine ⟨⟨?_, fun e he => ?_⟩, by simp, fun e he => List.mem_append_left _ he⟩
    · rw [List.map_append, List.nodup_append]
      exact ⟨B.nd, by simp, fun a ha c hc => by simp at hc; subst hc; rintro rfl; exact hk ha⟩
    · rcases List.mem_append.mp he with he | he
      · exact B.at_ e he
      · rw [List.mem_singleton] at he; subst he; exact ⟨rfl, hr⟩
theorem fold_rows {rows : List Row} (h : rows.Pairwise fun a b => a.1 < b.1) : ∀ (l : List Row) (b : List (Int × Row)), BothOk rows b → (∀ r ∈ l, r ∈ rows) → BothOk rows (l.foldl (fun b r => putL b r.1 r) b) ∧ (∀ r ∈ l, (r.1, r) ∈ l.foldl (fun b r => putL b r.1 r) b) ∧ ∀ e ∈ b, e ∈ l.foldl (fun b r => putL b r.1 r) b
  | [], b, B, _ => ⟨B, by simp, fun e he => he⟩
  | r :: l, b, B, hl => by
    (refine ex_0_3 (put_row h B (hl r (.head _))) fun B1 m1 k1 => ?_)
    (refine ex_0_3 (fold_rows h l _ B1 fun q hq => hl q (.tail _ hq)) fun B2 m2 k2 => ?_)
    refine ⟨B2, fun q hq => ?_, fun e he => k2 e (k1 e he)⟩
    rcases List.mem_cons.mp hq with rfl | hq
    · exact k2 _ m1
    · exact m2 q hq
theorem both_ok {rows : List Row} (h : rows.Pairwise fun a b => a.1 < b.1) : (rows.map (·.1)).Perm ((bothL (rows.filter fun r => decide (r.2.2 ≤ r.2.1)) ((rows.filter fun r => decide (r.2.1 ≤ r.2.2)).map swR)).map (·.1)) ∧ ∀ r ∈ rows, (r.1, r) ∈ bothL (rows.filter fun r => decide (r.2.2 ≤ r.2.1)) ((rows.filter fun r => decide (r.2.1 ≤ r.2.2)).map swR) := by
  have e : bothL (rows.filter fun r => decide (r.2.2 ≤ r.2.1)) ((rows.filter fun r => decide (r.2.1 ≤ r.2.2)).map swR) = (rows.filter fun r => decide (r.2.1 ≤ r.2.2)).foldl (fun b r => putL b r.1 r) ((rows.filter fun r => decide (r.2.2 ≤ r.2.1)).foldl (fun b r => putL b r.1 r) []) := by
    unfold bothL
    rw [List.foldl_map]
    rfl
  rw [e]
  (refine ex_0_3 (fold_rows h (rows.filter fun r => decide (r.2.2 ≤ r.2.1)) [] ⟨by simp, by simp⟩ fun r hr => (List.mem_filter.mp hr).1) fun B1 m1 _ => ?_)
  (refine ex_0_3 (fold_rows h (rows.filter fun r => decide (r.2.1 ≤ r.2.2)) _ B1 fun r hr => (List.mem_filter.mp hr).1) fun B2 m2 k2 => ?_)
  have all : ∀ r ∈ rows, (r.1, r) ∈ (rows.filter fun r => decide (r.2.1 ≤ r.2.2)).foldl (fun b r => putL b r.1 r) ((rows.filter fun r => decide (r.2.2 ≤ r.2.1)).foldl (fun b r => putL b r.1 r) []) := fun r hr => by
    by_cases z : r.2.1 ≤ r.2.2
    · exact m2 r (List.mem_filter.mpr ⟨hr, by simpa using z⟩)
    · exact k2 _ (m1 r (List.mem_filter.mpr ⟨hr, by simp; lia⟩))
  refine ⟨(List.perm_ext_iff_of_nodup (pair_nodup h) B2.nd).mpr fun a => ⟨fun ha => ?_, fun ha => ?_⟩, all⟩
  · (refine ex_1_2 (List.mem_map.mp ha) fun r hr zq132 => ?_; (first | subst zq132 | cases zq132))
    exact List.mem_map.mpr ⟨_, all r hr, rfl⟩
  · (refine ex_1_2 (List.mem_map.mp ha) fun x hx zq133 => ?_; (first | subst zq133 | cases zq133))
    obtain ⟨a1, a2⟩ := B2.at_ x hx
    exact List.mem_map.mpr ⟨x.2, a2, a1.symm⟩
end
section
variable {g : Gw} {k : Nat} {sc : Scope} {σ σ' : Sto}

noncomputable def ctN (cl : List Nat) (j : Nat) : Int := ((cl.filter fun r => r == j).length : Int)
noncomputable def csOf (cl : List Nat) (N : Nat) : List Int := (List.range N).map (ctN cl)
theorem csOf_len (cl : List Nat) (N : Nat) : (csOf cl N).length = N := by simp [csOf]
theorem csOf_get (cl : List Nat) {N j : Nat} (h : j < N) : (csOf cl N).getD j 0 = ctN cl j := by
  unfold csOf
  rw [List.getD_eq_getElem?_getD, List.getElem?_map, List.getElem?_range h]; rfl
theorem SS_split (f : Nat → Int) (a : Nat) : ∀ k, SS (a + k) f = SS a f + SS k (fun i => f (a + i))
  | 0 => by simp [SS]
  | k + 1 => by rw [← Nat.add_assoc, SS_succ, SS_split f a k, SS_succ]; lia
theorem cl_total {cl : List Nat} {N : Nat} (h : ∀ r ∈ cl, r < N) : SS N (ctN cl) = cl.length := by
  induction cl with
  | nil => exact SS_none N fun j _ => rfl
  | cons r cl ih =>
    have e : SS N (ctN (r :: cl)) = SS N (fun j => (if j = r then 1 else 0) + ctN cl j) := SS_congr N fun j _ => by
      unfold ctN
      rw [List.filter_cons]
      by_cases z : j = r
      · subst z; simp; lia
      · rw [if_neg z, if_neg (by simpa using fun q => z q.symm)]; lia
    rw [e, SS_add, SS_ind, if_pos (h r (.head _)), ih fun q hq => h q (.tail _ hq)]
    simp; lia
theorem mlen_lt {cl : List Nat} {b N : Nat} (h : mxN cl b < N) : (∀ r ∈ cl, r < N) ∧ b < N ∧ mlen cl ≤ N := by
  unfold mxN at h
  refine ⟨fun r hr => ?_, by lia, by lia⟩
  have := (mlen_spec cl 0).1 r hr
  show r < N
  have e : mlen cl = cl.foldl (fun m r => max m (r + 1)) 0 := rfl
  lia
theorem div_zero_sum {cl : List Nat} {N : Nat} (h : ∀ r ∈ cl, r < N) : (cl.map (· / N)).sum = 0 := by
  induction cl with
  | nil => rfl
  | cons r cl ih => rw [List.map_cons, List.sum_cons, ih fun q hq => h q (.tail _ hq), Nat.div_eq_of_lt (h r (.head _))]
theorem rk_ok {cl : List Nat} {b N : Nat} {f : Nat → Int} (h : mxN cl b < N) (hN : N ≤ 101) (hl : cl.length ≤ 100) (hf : ∀ i, f i = ((lev cl b (i + 1) : Nat) : Int)) : Rk ((List.range N).map f) (csOf cl N) cl.length b := by
  (refine ex_0_3 (mlen_lt h) fun hr hb hm => ?_)
  have hpos : 0 < N := by lia
  have get : ∀ j, j < N → ((List.range N).map f).getD j 0 = ((lev cl b (j + 1) : Nat) : Int) := fun j hj => by
    rw [List.getD_eq_getElem?_getD, List.getElem?_map, List.getElem?_range hj]; exact hf j
  have top : lev cl b N = b + N * cl.length := by unfold lev; rw [div_zero_sum hr]; simp
  have key : ∀ size, 1 ≤ size → size < N → ((List.range N).map f).getD (size - 1) 0 - (b : Int) = (size : Int) * ((((cl.map (· / size)).sum + cl.length : Nat)) : Int) := fun size h1 h2 => by
    rw [get (size - 1) (by lia), show size - 1 + 1 = size by lia]
    unfold lev
    push_cast
    lia
  refine { len := by rw [csOf_len]; simp, pos := by rw [csOf_len]; exact hpos, bd := by rw [csOf_len]; (exact Nat.le_trans ‹_› (Nat.le_of_ble_eq_true rfl)), rng := fun c hc => ?_, dv := ?_, md := ?_, over := fun size h1 h2 => ?_, step := fun size h1 h2 => ?_, zero := ?_ }
  · (refine ex_1_2 (List.mem_map.mp hc) fun j _ zq134 => ?_; (first | subst zq134 | cases zq134))
    unfold ctN
    have := List.length_filter_le (fun r => r == j) cl
    lia
  · rw [csOf_len, get (N - 1) (by (exact Nat.sub_lt_sub_left ‹_› (Nat.lt_succ_self _))), show N - 1 + 1 = N by lia, top, fdiv_nat, Nat.add_mul_div_left _ _ hpos, Nat.div_eq_of_lt hb]
    simp
  · rw [csOf_len, get (N - 1) (by (exact Nat.sub_lt_sub_left ‹_› (Nat.lt_succ_self _))), show N - 1 + 1 = N by lia, top, Int.fmod_eq_emod_of_nonneg _ (by (exact Int.ofNat_zero_le _))]
    have := Nat.add_mul_mod_self_left b N cl.length
    rw [Nat.mod_eq_of_lt hb] at this
    exact congrArg (fun n : Nat => (n : Int)) this
  · rw [csOf_len] at h2
    rw [key size h1 h2, Int.fmod_eq_emod_of_nonneg _ (by (exact Int.ofNat_zero_le _)), Int.mul_emod_right]
  · rw [csOf_len] at h2
    rw [key size h1 h2, Int.fdiv_eq_ediv_of_nonneg _ (by (exact Int.ofNat_zero_le _)), Int.mul_ediv_cancel_left _ (by lia), csOf_get cl h2]
    have hs := SS_counts size N cl hr
    have hl2 : longer (csOf cl N) size = SS (N - (size + 1)) (fun i => (((size + 1 + i) / size : Nat) : Int) * ctN cl (size + 1 + i)) := by
      unfold longer SS
      rw [csOf_len]
      congr 1
      refine List.map_congr_left fun i hi => ?_
      rw [List.mem_range] at hi
      rw [fdiv_nat, csOf_get cl (by omega)]
    rw [hl2]
    have sp := SS_split (fun j => ((j / size : Nat) : Int) * ctN cl j) (size + 1) (N - (size + 1))
    rw [show size + 1 + (N - (size + 1)) = N by omega, SS_succ] at sp
    have z : SS size (fun j => ((j / size : Nat) : Int) * ctN cl j) = 0 := SS_none size fun j hj => by rw [Nat.div_eq_of_lt hj]; simp
    rw [z, Nat.div_self (by assumption)] at sp
    have hs' : SS N (fun j => ((j / size : Nat) : Int) * ctN cl j) = (((cl.map (· / size)).sum : Nat) : Int) := hs
    push_cast
    rw [hs'] at sp
    push_cast at sp
    lia
  · rw [csOf_get cl hpos]
    have t := cl_total hr
    obtain ⟨M, rfl⟩ : ∃ M, N = M + 1 := ⟨N - 1, by lia⟩
    have sp := SS_split (ctN cl) 1 M
    rw [Nat.add_comm 1 M, t, SS_succ, SS_zero] at sp
    have e : ((csOf cl (M + 1)).drop 1).sum = SS M (fun i => ctN cl (1 + i)) := by
      unfold csOf SS
      rw [List.range_succ_eq_map, List.map_cons, List.drop_one, List.tail_cons, List.map_map]
      congr 1
      refine List.map_congr_left fun i _ => ?_
      simp only [Function.comp_apply]
      rw [Nat.add_comm 1 i]
    rw [e]
    lia
set_option tactic.hygienic true in
theorem cs_pad {cl : List Nat} {N : Nat} (h : mlen cl ≤ N) : csOf cl N = cnF [] cl ++ List.replicate (N - mlen cl) 0 := by
  obtain ⟨h1, h2⟩ := cnF_facts cl []
  have hl : (cnF [] cl).length = mlen cl := cnF_len cl
  apply List.ext_getElem?
  intro i
  by_cases hi : i < N
  · have e1 : (csOf cl N)[i]? = some (ctN cl i) := by unfold csOf; rw [List.getElem?_map, List.getElem?_range hi]; rfl
    rw [e1, List.getElem?_append]
    have hg : (cnF [] cl).getD i 0 = ctN cl i := by rw [h2 i]; simp [ctN]
    split
    · rename_i hlt
      rw [List.getD_eq_getElem?_getD, List.getElem?_eq_getElem hlt] at hg
      rw [List.getElem?_eq_getElem hlt, ← hg]; rfl
    · rename_i hlt
      rw [List.getElem?_replicate, if_pos (by lia)]
      rw [List.getD_eq_getElem?_getD, List.getElem?_eq_none (Nat.le_of_not_lt hlt)] at hg
      rw [← hg]; rfl
  · rw [List.getElem?_eq_none (by rw [csOf_len]; (exact Nat.not_lt.mp ‹_›)), List.getElem?_eq_none (by rw [List.length_append, List.length_replicate, hl]; lia)]
theorem trim_zeros (l : List Int) : ∀ k, trim (l ++ List.replicate k 0) = trim l := by
  intro k
  unfold trim
  rw [List.reverse_append, List.reverse_replicate]
  congr 1
  induction k with
  | zero => rfl
  | succ k ih => rw [List.replicate_succ, List.cons_append, List.dropWhile_cons, if_pos (by decide), ih]
theorem cnF_last {cl : List Nat} (h : cl ≠ []) : ∃ c, (cnF [] cl).getLast? = some c ∧ c ≠ 0 := by
  obtain ⟨f1, f2⟩ := cnF_facts cl []
  have hl : (cnF [] cl).length = mlen cl := cnF_len cl
  (refine ex_0_3 (mlen_spec cl 0) fun s1 _ s3 => ?_)
  have hm : ∃ r ∈ cl, mlen cl = r + 1 := by
    rcases s3 with s3 | s3
    · cases cl with
      | nil => exact absurd rfl h
      | cons r cl => have := s1 r (.head _); lia
    · exact s3
  (refine ex_1_2 (hm) fun r hr em => ?_)
  have hg := f2 r
  have hlt : r < (cnF [] cl).length := by lia
  rw [List.getD_eq_getElem?_getD, List.getElem?_eq_getElem hlt] at hg
  refine ⟨(cnF [] cl)[r], ?_, ?_⟩
  · rw [List.getLast?_eq_getElem?, hl, em]; exact List.getElem?_eq_getElem hlt
  · simp only [Option.getD_some] at hg
    rw [hg]
    have : 0 < (cl.filter fun q => q == r).length := List.length_pos_of_mem (List.mem_filter.mpr ⟨hr, by simp⟩)
    simp; omega
theorem trim_cs {cl : List Nat} {N : Nat} (h : mlen cl ≤ N) : trim (csOf cl N) = cnF [] cl := by
  rw [cs_pad h, trim_zeros]
  by_cases e : cl = []
  · subst e; rfl
  · (refine ex_1_2 (cnF_last e) fun c h1 h2 => ?_)
    refine trim_nz (fun z => by rw [z] at h1; simp at h1) ?_
    rw [List.getLastD_eq_getLast?, h1]; exact h2
end
section
variable {g : Gw} {k : Nat} {sc : Scope} {σ σ' : Sto}

theorem filter_empty {α : Type} (l : List α) (p : α → Bool) : (l.filter p).isEmpty = true ↔ ∀ x ∈ l, p x = false := by
  rw [List.isEmpty_iff, List.filter_eq_nil_iff]
  exact ⟨fun h x hx => by simpa using h x hx, fun h x hx => by rw [h x hx]; decide⟩
theorem mem_rows {m : Nat} {f h : Nat → Nat} {P : Row → Prop} : (∀ r ∈ rowsOf m f h, P r) ↔ ∀ i, i ≤ m → P ((1 : Int) + i, ((f (i + 1) : Nat) : Int), ((h (i + 1) : Nat) : Int)) := by
  unfold rowsOf
  constructor
  · intro H i hi
    exact H _ (List.mem_map.mpr ⟨i, by simp; (exact Nat.succ_le_succ ‹_›), rfl⟩)
  · intro H r hr
    (refine ex_1_2 (List.mem_map.mp hr) fun i hi zq135 => ?_; (first | subst zq135 | cases zq135))
    exact H i (by simp at hi; (exact Nat.le_of_lt_succ ‹_›))
theorem lessGo_iff {w v : Ws} {cl1 cl2 : List Nat} {b1 b2 : Nat} (W : WsIs w cl1 b1) (V : WsIs v cl2 b2) : ∀ (n i : Nat), 1 ≤ i → (lessGo w v i n = true ↔ ∀ j, j < n → lev cl1 b1 (i + j) < lev cl2 b2 (i + j))
  | 0, i, _ => by simp [lessGo]
  | n + 1, i, hi => by
    unfold lessGo
    rw [lvl_eq W hi, lvl_eq V hi]
    have ih := lessGo_iff W V n (i + 1) (by (exact Nat.zero_lt_succ _))
    cases hp : pGe ((lev cl1 b1 i : Nat) : Int) ((lev cl2 b2 i : Nat) : Int) with
    | true =>
      rw [cond_true]
      have h1 : lev cl2 b2 i ≤ lev cl1 b1 i := by unfold pGe at hp; simp at hp; omega
      refine ⟨fun h => absurd h (by decide), fun h => ?_⟩
      have := h 0 (by (exact Nat.zero_lt_succ _))
      rw [Nat.add_zero] at this; lia
    | false =>
      rw [cond_false, ih]
      have h1 : lev cl1 b1 i < lev cl2 b2 i := by unfold pGe at hp; simp at hp; omega
      constructor
      · intro h j hj
        cases j with
        | zero => exact h1
        | succ j => have := h j (by (exact Nat.le_of_lt_succ ‹_›)); rw [show i + 1 + j = i + (j + 1) by lia] at this; exact this
      · intro h j hj
        have := h (j + 1) (by (exact Nat.succ_lt_succ ‹_›))
        rw [show i + (j + 1) = i + 1 + j by lia] at this; exact this
theorem div_one_sum (cl : List Nat) : (((cl.map (· / 1)).sum : Nat) : Int) = (cI cl).sum := by
  induction cl with
  | nil => rfl
  | cons r cl ih => simp only [List.map_cons, List.sum_cons, cI] at ih ⊢; push_cast; rw [ih]; simp
theorem n_lev {w : Ws} {cl : List Nat} {b : Nat} (W : WsIs w cl b) : w.n = (lev cl b 1 : Int) := by
  rw [W.n]
  unfold lev
  push_cast
  have := div_one_sum cl
  push_cast at this
  rw [this]; lia
theorem simple_lev {cl : List Nat} {b ts : Nat} (h : mlen cl ≤ 1) : lev cl b ts = b + ts * cl.length := by
  unfold lev
  have hz : ∀ r ∈ cl, r = 0 := fun r hr => by have := (mlen_spec cl 0).1 r hr; have e : mlen cl = cl.foldl (fun m r => max m (r + 1)) 0 := rfl; lia
  have : (cl.map (· / ts)).sum = 0 := by
    clear h
    induction cl with
    | nil => rfl
    | cons r cl ih => rw [List.map_cons, List.sum_cons, ih fun q hq => hz q (.tail _ hq), hz r (.head _)]; simp
  rw [this]; simp
theorem simple_iff {w : Ws} {cl : List Nat} {b : Nat} (W : WsIs w cl b) : w.simple = true ↔ mlen cl ≤ 1 := by
  unfold Ws.simple
  rw [W.cc, cnF_len, decide_eq_true_eq]; omega
theorem less_eq {w v : Ws} {cl1 cl2 : List Nat} {b1 b2 : Nat} (W : WsIs w cl1 b1) (V : WsIs v cl2 b2) : lessP w v = ((rowsOf (max (mxN cl1 b1) (mxN cl2 b2)) (lev cl1 b1) (lev cl2 b2)).filter fun r => decide (r.2.2 ≤ r.2.1)).isEmpty := by
  rw [Bool.eq_iff_iff, filter_empty, mem_rows]
  have hrow : (∀ i, i ≤ max (mxN cl1 b1) (mxN cl2 b2) → decide (((lev cl2 b2 (i + 1) : Nat) : Int) ≤ ((lev cl1 b1 (i + 1) : Nat) : Int)) = false) ↔ ∀ i, i ≤ max (mxN cl1 b1) (mxN cl2 b2) → lev cl1 b1 (i + 1) < lev cl2 b2 (i + 1) := by
    constructor
    · intro h i hi; have := h i hi; simp at this; omega
    · intro h i hi; have := h i hi; simp; omega
  rw [show (∀ i, i ≤ max (mxN cl1 b1) (mxN cl2 b2) → decide ((((1 : Int) + i, ((lev cl1 b1 (i + 1) : Nat) : Int), ((lev cl2 b2 (i + 1) : Nat) : Int)) : Row).2.2 ≤ (((1 : Int) + i, ((lev cl1 b1 (i + 1) : Nat) : Int), ((lev cl2 b2 (i + 1) : Nat) : Int)) : Row).2.1) = false) ↔ _ from hrow]
  unfold lessP
  rw [n_lev W, n_lev V]
  cases hn : decide (((lev cl2 b2 1 : Nat) : Int) ≤ ((lev cl1 b1 1 : Nat) : Int)) with
  | true =>
    rw [cond_true]
    rw [decide_eq_true_eq] at hn
    refine ⟨fun h => absurd h (by decide), fun h => ?_⟩
    have := h 0 (by (exact Nat.zero_le _))
    rw [Nat.zero_add] at this
    lia
  | false =>
    rw [cond_false]
    rw [decide_eq_false_iff_not] at hn
    cases hsm : w.simple && v.simple with
    | true =>
      rw [cond_true, decide_eq_true_eq, W.nt, V.nt]
      rw [Bool.and_eq_true, simple_iff W, simple_iff V] at hsm
      have l1 : ∀ ts, lev cl1 b1 ts = b1 + ts * cl1.length := fun ts => simple_lev hsm.1
      have l2 : ∀ ts, lev cl2 b2 ts = b2 + ts * cl2.length := fun ts => simple_lev hsm.2
      rw [l1, l2] at hn
      constructor
      · intro h i _
        rw [l1, l2]
        have h' : cl1.length ≤ cl2.length := by lia
        have h2 : i * cl1.length ≤ i * cl2.length := Nat.mul_le_mul_left _ h'
        rw [Nat.add_mul, Nat.add_mul]
        lia
      · intro h
        by_cases h' : cl1.length ≤ cl2.length
        · (exact Int.ofNat_le.mpr ‹_›)
        · exfalso
          have hm : b2 ≤ max (mxN cl1 b1) (mxN cl2 b2) := by unfold mxN; omega
          have := h (max (mxN cl1 b1) (mxN cl2 b2)) (Nat.le_refl _)
          rw [l1, l2] at this
          generalize max (mxN cl1 b1) (mxN cl2 b2) = M at this hm
          have h2 : (M + 1) * (cl2.length + 1) ≤ (M + 1) * cl1.length := Nat.mul_le_mul_left _ (by (exact Nat.lt_of_not_le ‹_›))
          rw [Nat.mul_add] at h2
          lia
    | false =>
      rw [cond_false, span_eq W V, Int.toNat_natCast, Nat.add_sub_cancel, lessGo_iff W V _ 2 (by (exact Nat.le_succ _))]
      constructor
      · intro h i hi
        cases i with
        | zero => rw [Nat.zero_add]; lia
        | succ i => have := h i (by assumption); rw [show 2 + i = i + 1 + 1 by (exact Nat.add_comm _ _)] at this; exact this
      · intro h j hj
        have := h (j + 1) (by assumption)
        rw [show j + 1 + 1 = 2 + j by lia] at this; exact this
theorem less_back {w v : Ws} {cl1 cl2 : List Nat} {b1 b2 : Nat} (W : WsIs w cl1 b1) (V : WsIs v cl2 b2) : lessP v w = (((rowsOf (max (mxN cl1 b1) (mxN cl2 b2)) (lev cl1 b1) (lev cl2 b2)).filter fun r => decide (r.2.1 ≤ r.2.2)).map swR).isEmpty := by
  rw [less_eq V W, Nat.max_comm, rows_swap, List.filter_map, List.isEmpty_map, List.isEmpty_map]
  rfl
end
section
variable {g : Gw} {k : Nat} {sc : Scope} {σ σ' : Sto}

theorem eqv_ints : ∀ (a b : List Int), PyData.eqvAll (D.pys (a.map .int)) (D.pys (b.map .int)) = (a == b)
  | [], [] => rfl
  | [], _ :: _ => rfl
  | _ :: _, [] => rfl
  | x :: a, y :: b => by
    have ih := eqv_ints a b
    simp only [List.map_cons, D.pys, D.py, PyData.eqvAll, PyData.eqv, ih]
    rfl
theorem eqv_norm (w v : Ws) : PyData.eqv w.norm.py v.norm.py = true ↔ w.count = v.count ∧ w.b = v.b := by
  unfold Ws.norm
  simp only [D.py, D.pys, PyData.eqv, PyData.eqvAll, eqv_ints]
  simp
theorem csOf_eq_of {cl1 cl2 : List Nat} {b1 b2 N : Nat} (h1 : mxN cl1 b1 < N) (h2 : mxN cl2 b2 < N) (hN : N ≤ 101) (hl1 : cl1.length ≤ 100) (hl2 : cl2.length ≤ 100) (h : ∀ i, i < N → lev cl1 b1 (i + 1) = lev cl2 b2 (i + 1)) : csOf cl1 N = csOf cl2 N ∧ b1 = b2 := by
  have R1 := rk_ok (f := fun i => ((lev cl1 b1 (i + 1) : Nat) : Int)) h1 hN hl1 (fun _ => rfl)
  have R2 := rk_ok (f := fun i => ((lev cl2 b2 (i + 1) : Nat) : Int)) h2 hN hl2 (fun _ => rfl)
  have eL : (List.range N).map (fun i => ((lev cl1 b1 (i + 1) : Nat) : Int)) = (List.range N).map (fun i => ((lev cl2 b2 (i + 1) : Nat) : Int)) := List.map_congr_left fun i hi => by rw [h i (by simpa using hi)]
  rw [eL] at R1
  generalize (List.range N).map (fun i => ((lev cl2 b2 (i + 1) : Nat) : Int)) = L at R1 R2
  have n1 := csOf_len cl1 N
  have n2 := csOf_len cl2 N
  have hb : (b1 : Int) = b2 := by have a := R1.md; have b := R2.md; rw [n1] at a; rw [n2] at b; rw [← a, ← b]
  have ht : (cl1.length : Int) = cl2.length := by have a := R1.dv; have b := R2.dv; rw [n1] at a; rw [n2] at b; rw [← a, ← b]
  have down : ∀ k, ∀ j, N - k ≤ j → j < N → 1 ≤ j → (csOf cl1 N).getD j 0 = (csOf cl2 N).getD j 0 := by
    intro k
    induction k with
    | zero => intro j a b; lia
    | succ k ih =>
      intro j hj hjN h1j
      have s1 := R1.step j h1j (by lia)
      have s2 := R2.step j h1j (by lia)
      have el : longer (csOf cl1 N) j = longer (csOf cl2 N) j := by
        unfold longer
        rw [n1, n2]
        congr 1
        refine List.map_congr_left fun i hi => ?_
        rw [List.mem_range] at hi
        rw [ih (j + 1 + i) (by lia) (by lia) (by lia)]
      rw [← s1, ← s2, hb, ht, el]
  have all : ∀ j, j < N → 1 ≤ j → (csOf cl1 N).getD j 0 = (csOf cl2 N).getD j 0 := fun j a b => down N j (by lia) a b
  have e1 : (csOf cl1 N).drop 1 = (csOf cl2 N).drop 1 := by
    apply List.ext_getElem?
    intro i
    rw [List.getElem?_drop, List.getElem?_drop]
    by_cases hi : 1 + i < N
    · have := all (1 + i) hi (by (exact Nat.le_add_right _ _))
      rw [List.getD_eq_getElem?_getD, List.getD_eq_getElem?_getD, List.getElem?_eq_getElem (by lia), List.getElem?_eq_getElem (by lia)] at this
      rw [List.getElem?_eq_getElem (by lia), List.getElem?_eq_getElem (by lia)]
      simpa using this
    · rw [List.getElem?_eq_none (by lia), List.getElem?_eq_none (by lia)]
  have e0 : (csOf cl1 N).getD 0 0 = (csOf cl2 N).getD 0 0 := by rw [← R1.zero, ← R2.zero, e1, ht]
  refine ⟨?_, by lia⟩
  have hp : 0 < N := by lia
  have c1 : csOf cl1 N = (csOf cl1 N).getD 0 0 :: (csOf cl1 N).drop 1 := by
    cases hc : csOf cl1 N with
    | nil => rw [hc] at n1; simp at n1; lia
    | cons a l => rfl
  have c2 : csOf cl2 N = (csOf cl2 N).getD 0 0 :: (csOf cl2 N).drop 1 := by
    cases hc : csOf cl2 N with
    | nil => rw [hc] at n2; simp at n2; lia
    | cons a l => rfl
  rw [c1, c2, e0, e1]
theorem lev_of_cs {cl1 cl2 : List Nat} {b N ts : Nat} (h1 : ∀ r ∈ cl1, r < N) (h2 : ∀ r ∈ cl2, r < N) (h : cnF [] cl1 = cnF [] cl2) : lev cl1 b ts = lev cl2 b ts := by
  have ct : ∀ j, ctN cl1 j = ctN cl2 j := fun j => by
    have a := (cnF_facts cl1 []).2 j
    have b := (cnF_facts cl2 []).2 j
    rw [h] at a
    rw [a] at b
    unfold ctN
    lia
  have s1 := SS_counts ts N cl1 h1
  have s2 := SS_counts ts N cl2 h2
  have e : SS N (fun j => ((j / ts : Nat) : Int) * ctN cl1 j) = SS N (fun j => ((j / ts : Nat) : Int) * ctN cl2 j) := SS_congr N fun j _ => by rw [ct j]
  have t1 := cl_total h1
  have t2 := cl_total h2
  have e2 : SS N (ctN cl1) = SS N (ctN cl2) := SS_congr N fun j _ => ct j
  have hs : (cl1.map (· / ts)).sum = (cl2.map (· / ts)).sum := by
    have : (((cl1.map (· / ts)).sum : Nat) : Int) = ((cl2.map (· / ts)).sum : Nat) := by rw [← s1, ← s2]; exact e
    lia
  have hl : cl1.length = cl2.length := by lia
  unfold lev
  rw [hs, hl]
theorem equal_eq {w v : Ws} {cl1 cl2 : List Nat} {b1 b2 : Nat} (W : WsIs w cl1 b1) (V : WsIs v cl2 b2) (hm : max (mxN cl1 b1) (mxN cl2 b2) ≤ 100) (hl1 : cl1.length ≤ 100) (hl2 : cl2.length ≤ 100) : PyData.eqv w.norm.py v.norm.py = ((rowsOf (max (mxN cl1 b1) (mxN cl2 b2)) (lev cl1 b1) (lev cl2 b2)).filter fun r => r.2.1 != r.2.2).isEmpty := by
  rw [Bool.eq_iff_iff, filter_empty, mem_rows, eqv_norm, W.cc, V.cc, W.bb, V.bb]
  generalize hM : max (mxN cl1 b1) (mxN cl2 b2) = M at hm
  have q1 : mxN cl1 b1 < M + 1 := by lia
  have q2 : mxN cl2 b2 < M + 1 := by lia
  (refine ex_0_3 (mlen_lt q1) fun r1 _ m1 => ?_)
  (refine ex_0_3 (mlen_lt q2) fun r2 _ m2 => ?_)
  constructor
  · rintro ⟨hc, hb⟩ i _
    have hb' : b1 = b2 := by lia
    subst hb'
    have := lev_of_cs (b := b1) (ts := i + 1) r1 r2 hc
    simp [this]
  · intro h
    obtain ⟨e1, e2⟩ := csOf_eq_of q1 q2 (by (exact Nat.succ_le_succ ‹_›)) hl1 hl2 fun i hi => by
      have := h i (by (exact Nat.le_of_lt_succ ‹_›))
      simp only [bne_eq_false_iff_eq] at this
      lia
    refine ⟨?_, by lia⟩
    rw [← trim_cs m1, ← trim_cs m2, e1]
theorem equal_back {w v : Ws} {cl1 cl2 : List Nat} {b1 b2 : Nat} (W : WsIs w cl1 b1) (V : WsIs v cl2 b2) (hm : max (mxN cl1 b1) (mxN cl2 b2) ≤ 100) (hl1 : cl1.length ≤ 100) (hl2 : cl2.length ≤ 100) : PyData.eqv v.norm.py w.norm.py = ((rowsOf (max (mxN cl1 b1) (mxN cl2 b2)) (lev cl1 b1) (lev cl2 b2)).filter fun r => r.2.1 != r.2.2).isEmpty := by
  rw [← equal_eq W V hm hl1 hl2, Bool.eq_iff_iff, eqv_norm, eqv_norm]
  exact ⟨fun h => ⟨h.1.symm, h.2.symm⟩, fun h => ⟨h.1.symm, h.2.symm⟩⟩
end
section
variable {g : Gw} {k : Nat} {sc : Scope} {σ σ' : Sto}

theorem joinL_mem (sep : List Nat) : ∀ (xs : List (List Nat)) (c : Nat), c ∈ joinL sep xs → c ∈ sep ∨ ∃ x ∈ xs, c ∈ x
  | [], c, h => by simp [joinL] at h
  | [x], c, h => .inr ⟨x, .head _, h⟩
  | x :: y :: r, c, h => by
    have h' : c ∈ x ++ sep ++ joinL sep (y :: r) := h
    rcases List.mem_append.mp h' with h' | h'
    · rcases List.mem_append.mp h' with h' | h'
      · exact .inr ⟨x, .head _, h'⟩
      · exact .inl h'
    · rcases joinL_mem sep (y :: r) c h' with h' | ⟨z, hz, h'⟩
      · exact .inl h'
      · exact .inr ⟨z, .tail _ hz, h'⟩
theorem lead_chars (runs : List Int) : ∀ c ∈ leadL runs, c = 32 ∨ c = 9 := fun c hc => by
  unfold leadL at hc
  rcases joinL_mem _ _ c hc with h | ⟨x, hx, h⟩
  · simp at h; exact .inr h
  · (refine ex_1_2 (List.mem_map.mp hx) fun n _ zq136 => ?_; (first | subst zq136 | cases zq136))
    exact .inl (List.eq_of_mem_replicate h)
theorem sp9 : sp 9 = true := by decide +kernel
theorem lead_seg (runs : List Int) : Seg (leadL runs) (leadL runs) := Seg.plain fun c hc => by rcases lead_chars runs c hc with rfl | rfl <;> decide
theorem lead_rev_seg (runs : List Int) : Seg (leadL runs).reverse (leadL runs).reverse := Seg.plain fun c hc => by rcases lead_chars runs c (by simpa using hc) with rfl | rfl <;> decide
theorem quotedL_seg {name : List Nat} (h : ∀ c ∈ name, c ≠ 44 ∧ c ≠ 34) (w : List Nat) : Seg (quotedL name w) (name ++ 61 :: (34 :: (w ++ [34]))) := by
  have := (Seg.plain h).app ((Seg.plain (w := [61]) (by simp)).app (Seg.quoted w))
  have e : quotedL name w = name ++ ([61] ++ 34 :: (escL w ++ [34])) := by unfold quotedL; simp
  rw [e]
  exact this
theorem mark_seg : Seg itMark itMark := by
  have := (Seg.plain (w := [109, 97, 114, 107, 61]) (by decide)).app ((Seg.quoted [97]).app (Seg.plain (w := [92]) (by decide)))
  exact this
theorem fore_seg : Seg itFore itFore := (Seg.plain (w := [102, 111, 114, 101, 61, 39]) (by decide)).app (Seg.quoted [97, 44, 98])
noncomputable def bkL : List Nat := [98, 97, 99, 107, 61, 120]
noncomputable def sdL : List Nat := [115, 105, 100, 101, 32, 61, 32, 121]
theorem line_commas (one two : List Int) (w0 w1 w2 : List Nat) : lineOf one two [w0, w1, w2] = (leadL one ++ (headL 6 ++ itMark)) ++ commas [32 :: itFore, 32 :: bkL, [], sdL, 32 :: quotedL nThere w0, 32 :: quotedL nBack w1, 32 :: quotedL nUnlike w2 ++ (leadL two).reverse] := by
  unfold lineOf itemsOf
  simp only [List.zip_cons_cons, List.zip_nil_right, List.map_cons, List.map_nil, List.cons_append, List.nil_append]
  rw [join_commas]
  have e : itBack = bkL ++ (44 :: 44 :: sdL) := rfl
  simp [commas, e]
theorem stripL_q {name w : List Nat} {c : Nat} (hc : sp c = false) (hn : name.head? = some c) (b : List Nat) (hb : ∀ c ∈ b, sp c = true) : stripL (32 :: (name ++ 61 :: (34 :: (w ++ [34]))) ++ b) = name ++ 61 :: (34 :: (w ++ [34])) := by
  have h1 : (name ++ 61 :: (34 :: (w ++ [34]))).head? = some c := by
    cases name with
    | nil => simp at hn
    | cons a r => exact hn
  have h2 : (name ++ 61 :: (34 :: (w ++ [34]))).getLast? = some 34 := by
    rw [show name ++ 61 :: 34 :: (w ++ [34]) = (name ++ 61 :: 34 :: w) ++ [34] by simp, List.getLast?_append]; rfl
  exact stripL_mid (a := [32]) (b := b) (by simp [sp32]) hb h1 h2 hc sp34
theorem line_read (one two : List Int) (w0 w1 w2 : List Nat) : (httpL (lineOf one two [w0, w1, w2])).map stripL = readL w0 w1 w2 := by
  have rv : ∀ c ∈ (leadL two).reverse, sp c = true := fun c hc => by rcases lead_chars two c (by simpa using hc) with rfl | rfl <;> first | exact sp32 | exact sp9
  have ld : ∀ c ∈ leadL one, sp c = true := fun c hc => by rcases lead_chars one c hc with rfl | rfl <;> first | exact sp32 | exact sp9
  have s32 : Seg [32] [32] := Seg.plain (by simp)
  have hk := httpL_segs (w := leadL one ++ (headL 6 ++ itMark)) (r := leadL one ++ (headL 6 ++ itMark))
    (ps := [(32 :: itFore, 32 :: itFore), (32 :: bkL, 32 :: bkL), ([], []), (sdL, sdL), (32 :: quotedL nThere w0, 32 :: (nThere ++ 61 :: (34 :: (w0 ++ [34])))), (32 :: quotedL nBack w1, 32 :: (nBack ++ 61 :: (34 :: (w1 ++ [34])))), (32 :: quotedL nUnlike w2 ++ (leadL two).reverse, 32 :: (nUnlike ++ 61 :: (34 :: (w2 ++ [34]))) ++ (leadL two).reverse)])
    ((lead_seg one).app ((headL_seg 6).app mark_seg)) (fun p hp => by
      simp only [List.mem_cons, List.not_mem_nil, or_false] at hp
      rcases hp with rfl | rfl | rfl | rfl | rfl | rfl | rfl
      · exact s32.app fore_seg
      · exact Seg.plain (by decide)
      · exact Seg.nil
      · exact Seg.plain (by decide)
      · exact s32.app (quotedL_seg (by decide) w0)
      · exact s32.app (quotedL_seg (by decide) w1)
      · exact (s32.app (quotedL_seg (by decide) w2)).app (lead_rev_seg two)) (by simp)
  have e := line_commas one two w0 w1 w2
  rw [e]
  have hk' : httpL ((leadL one ++ (headL 6 ++ itMark)) ++ commas [32 :: itFore, 32 :: bkL, [], sdL, 32 :: quotedL nThere w0, 32 :: quotedL nBack w1, 32 :: quotedL nUnlike w2 ++ (leadL two).reverse]) = _ := hk
  rw [hk']
  unfold readL
  simp only [List.map_cons, List.map_nil]
  have a1 : stripL (leadL one ++ (headL 6 ++ itMark)) = kMark ++ 61 :: vMark := by
    have := stripL_mid (a := leadL one) (b := []) (m := headL 6 ++ itMark) ld (by simp) (headL_hd _ _) (y := 92) (by decide) sp97 (by decide +kernel)
    rw [List.append_nil] at this
    rw [this]; rfl
  have a2 : stripL (32 :: itFore) = kFore ++ 61 :: vFore := by decide +kernel
  have a3 : stripL (32 :: bkL) = nBack ++ 61 :: [120] := by decide +kernel
  have a4 : stripL ([] : List Nat) = [] := rfl
  have a5 : stripL sdL = kSide ++ 61 :: vSide := by decide +kernel
  have a6 := stripL_q (name := nThere) (w := w0) (c := 116) (by decide +kernel) rfl [] (by simp)
  have a7 := stripL_q (name := nBack) (w := w1) (c := 98) (by decide +kernel) rfl [] (by simp)
  have a8 := stripL_q (name := nUnlike) (w := w2) (c := 117) (by decide +kernel) rfl (leadL two).reverse rv
  rw [List.append_nil] at a6 a7
  rw [a1, a2, a3, a4, a5, a6, a7, a8]
end
section
variable {g : Gw} {k : Nat} {sc : Scope} {σ σ' : Sto}

structure Small (cl : List Nat) (b : Nat) : Prop where
  r : ∀ r ∈ cl, r ≤ 5
  b5 : b ≤ 5
  l : cl.length ≤ 7
theorem runs_nat {runs : List Int} (hne : runs ≠ []) (hl : runs.length ≤ 8) (h : ∀ x ∈ runs, 0 ≤ x ∧ x ≤ 5) : ∃ cl b, runs = cI (cl ++ [b]) ∧ Small cl b := by
  have e : runs = cI (runs.map Int.toNat) := by
    unfold cI
    rw [List.map_map]
    have : runs.map id = runs.map ((fun (n : Nat) => (n : Int)) ∘ Int.toNat) := List.map_congr_left fun x hx => by
      have := h x hx; simp only [id, Function.comp_apply]; lia
    rw [List.map_id] at this
    exact this
  have hm : ∀ x ∈ runs.map Int.toNat, x ≤ 5 := fun x hx => by
    (refine ex_1_2 (List.mem_map.mp hx) fun y hy zq137 => ?_; (first | subst zq137 | cases zq137))
    have := h y hy; lia
  have hn : runs.map Int.toNat ≠ [] := by simpa using hne
  have hd := List.dropLast_concat_getLast hn
  have hll : (runs.map Int.toNat).length ≤ 8 := by rw [List.length_map]; exact hl
  generalize runs.map Int.toNat = ns at e hm hn hd hll
  refine ⟨ns.dropLast, ns.getLast hn, by rw [hd]; exact e, fun r hr => hm r (List.dropLast_subset _ hr), hm _ (List.getLast_mem hn), by rw [List.length_dropLast]; omega⟩
theorem leads_small (script : List Int) : (∃ cl b, (leads script).1 = cI (cl ++ [b]) ∧ Small cl b) ∧ ∃ cl b, (leads script).2 = cI (cl ++ [b]) ∧ Small cl b := by
  have ok := leads_ok (script.take 5) ⟨[0, 0], [1, 0], 0⟩ 2 ⟨by simp, by simp, by simp, by simp, by simp, by simp⟩
  unfold leads
  generalize (script.take 5).foldl Ld.step ⟨[0, 0], [1, 0], 0⟩ = s at ok ⊢
  have h5 : 2 + (script.take 5).length ≤ 7 := by rw [List.length_take]; lia
  have l1 := ok.l1
  have l2 := ok.l2
  have r1 := ok.r1
  have r2 := ok.r2
  refine ⟨runs_nat ok.n1 (by show s.one.length ≤ 8; lia) fun x hx => by have := r1 x hx; lia, ?_⟩
  have last : ∀ x ∈ cut s.one (some (-1)) none, 0 ≤ x ∧ x ≤ 5 := fun x hx => by have := r1 x (cut_sub hx); lia
  have hc1 := cut_one s.one
  have hdl : s.one.dropLast.length ≤ 6 := by rw [List.length_dropLast]; omega
  have hpos := List.length_pos_iff.mpr ok.n1
  have hlast : 0 ≤ s.one.getLastD 0 ∧ s.one.getLastD 0 ≤ 4 := by
    rw [List.getLastD_eq_getLast?, List.getLast?_eq_some_getLast ok.n1]
    exact r1 _ (List.getLast_mem ok.n1)
  unfold Ld.fin
  simp only
  cases ((s.total.fdiv 4).fmod 4 == 1) with
  | true =>
    rw [cond_true]
    refine runs_nat (by simp) (by simp only [List.length_append, List.length_reverse, List.length_cons, List.length_nil]; lia) fun x hx => ?_
    rcases List.mem_append.mp hx with hx | hx
    · have := r1 x (List.dropLast_subset _ (by simpa using hx)); lia
    · rw [List.mem_singleton] at hx; lia
  | false =>
    rw [cond_false]
    cases ((s.total.fdiv 4).fmod 4 == 2) with
    | true =>
      rw [cond_true]
      refine runs_nat (by simp) (by simp) fun x hx => ?_
      rw [List.mem_singleton] at hx
      subst hx
      rw [Int.fmod_eq_emod_of_nonneg _ (by (exact Int.ofNat_zero_le _))]
      lia
    | false =>
      rw [cond_false]
      cases ((s.total.fdiv 4).fmod 4 == 3) with
      | true =>
        rw [cond_true]
        refine runs_nat (fun z => ?_) (by simp only [List.length_append, List.length_reverse]; lia) fun x hx => ?_
        · have := congrArg List.length z
          rw [List.length_append, cut_len, List.length_reverse, List.length_dropLast] at this
          unfold clipN at this
          simp at this
          omega
        · rcases List.mem_append.mp hx with hx | hx
          · have := r1 x (List.dropLast_subset _ (by simpa using hx)); lia
          · exact last x hx
      | false =>
        rw [cond_false]
        exact runs_nat ok.n2 (by lia) fun x hx => by have := r2 x hx; lia
theorem small_runs {cl : List Nat} {b : Nat} (h : Small cl b) : RunsOk (cI (cl ++ [b])) := by
  refine ⟨fun n hn => ?_, by simp [cI]; have := h.l; (exact Nat.le_trans ‹_› (Nat.le_of_ble_eq_true rfl)), by simp [cI]⟩
  (refine ex_1_2 (List.mem_map.mp hn) fun x hx zq138 => ?_; (first | subst zq138 | cases zq138))
  rcases List.mem_append.mp hx with hx | hx
  · have := h.r x hx; lia
  · rw [List.mem_singleton] at hx; subst hx; have := h.b5; lia
theorem small_mlen {cl : List Nat} {b : Nat} (h : Small cl b) : mlen cl ≤ 6 ∧ mxN cl b ≤ 5 := by
  have : mlen cl ≤ 6 := by
    rcases (mlen_spec cl 0).2.2 with e | ⟨r, hr, e⟩
    · show cl.foldl _ 0 ≤ 6; lia
    · have := h.r r hr; show cl.foldl _ 0 ≤ 6; lia
  refine ⟨this, ?_⟩
  unfold mxN
  have := h.b5
  omega
theorem small_ok {w : Ws} {cl : List Nat} {b : Nat} (W : WsIs w cl b) (h : Small cl b) : w.Ok := by
  have hm := (small_mlen h).1
  have hl := h.l
  have hb := h.b5
  refine ⟨by rw [W.cc, cnF_len]; (exact Nat.le_trans ‹_› (Nat.le_of_ble_eq_true rfl)), fun c hc => ?_, by rw [W.bb]; (exact Int.ofNat_zero_le _), by rw [W.bb]; lia, by rw [W.nt]; (exact Int.ofNat_zero_le _), by rw [W.nt]; lia⟩
  rw [W.cc] at hc
  obtain ⟨i, hi, e⟩ := List.mem_iff_getElem.mp hc
  have := (cnF_facts cl []).2 i
  rw [List.getD_eq_getElem?_getD, List.getElem?_eq_getElem hi] at this
  simp only [Option.getD_some] at this
  rw [e] at this
  have hf := List.length_filter_le (fun r => r == i) cl
  simp at this
  lia
theorem mul_div_sum (ts : Nat) : ∀ (cl : List Nat), ts * (cl.map (· / ts)).sum ≤ cl.sum
  | [] => by simp
  | r :: cl => by
    rw [List.map_cons, List.sum_cons, List.sum_cons, Nat.mul_add]
    have := mul_div_sum ts cl
    have := Nat.mul_div_le r ts
    lia
theorem sum_small : ∀ (cl : List Nat), (∀ r ∈ cl, r ≤ 5) → cl.sum ≤ 5 * cl.length
  | [], _ => by simp
  | r :: cl, h => by
    rw [List.sum_cons, List.length_cons]
    have := sum_small cl fun q hq => h q (.tail _ hq)
    have := h r (.head _)
    lia
theorem lev_small {cl : List Nat} {b ts : Nat} (h : Small cl b) (ht : ts ≤ 10) : lev cl b ts ≤ 1000 := by
  unfold lev
  have a := mul_div_sum ts cl
  have c := sum_small cl h.r
  have d := h.l
  have e := h.b5
  have f : ts * cl.length ≤ 10 * 7 := Nat.mul_le_mul ht d
  rw [Nat.mul_add]
  lia
theorem rows_rowok {m : Nat} {cl1 cl2 : List Nat} {b1 b2 : Nat} (hm : m ≤ 5) (h1 : Small cl1 b1) (h2 : Small cl2 b2) : ∀ r ∈ rowsOf m (lev cl1 b1) (lev cl2 b2), RowOk r := by
  intro r hr
  unfold rowsOf at hr
  (refine ex_1_2 (List.mem_map.mp hr) fun i hi zq139 => ?_; (first | subst zq139 | cases zq139))
  rw [List.mem_range] at hi
  have a := lev_small (ts := i + 1) h1 (by lia)
  have b := lev_small (ts := i + 1) h2 (by lia)
  exact ⟨by simp only; lia, by simp only; lia, by simp only; lia⟩
theorem rows_len (m : Nat) (f h : Nat → Nat) : (rowsOf m f h).length = m + 1 := by simp [rowsOf]
theorem tab_filter {rows : List Row} (p : Row → Bool) (hl : rows.length ≤ 20) (hr : ∀ r ∈ rows, RowOk r) (hp : rows.Pairwise fun a b => a.1 < b.1) : TabOk' (rows.filter p) := by
  have := List.length_filter_le p rows
  exact ⟨by lia, fun r h => hr r (List.mem_filter.mp h).1, pair_nodup (hp.filter p)⟩
theorem tab_swap {t : List Row} (h : TabOk' t) : TabOk' (t.map swR) := by
  refine ⟨by rw [List.length_map]; exact h.l, fun r hr => ?_, ?_⟩
  · (refine ex_1_2 (List.mem_map.mp hr) fun q hq zq140 => ?_; (first | subst zq140 | cases zq140))
    (refine ex_0_3 (h.r q hq) fun a b c => ?_)
    exact ⟨a, c, b⟩
  · rw [List.map_map]; exact h.d
theorem words_chars {t : List Row} (h : ∀ r ∈ t, RowOk r) : ∀ c ∈ wordsL t, c < 1114112 := by
  intro c hc
  have e : wordsL t = headL t.length ++ joinL [44, 32] (t.map quotedRow) := by unfold wordsL headL; simp
  rw [e] at hc
  rcases List.mem_append.mp hc with hc | hc
  · rw [head_one] at hc
    split at hc
    · unfold l0 at hc; simp at hc; omega
    · simp at hc; omega
  · rcases joinL_mem _ _ c hc with hc | ⟨x, hx, hc⟩
    · simp at hc; lia
    · (refine ex_1_2 (List.mem_map.mp hx) fun r hr zq141 => ?_; (first | subst zq141 | cases zq141))
      have h1 := h r hr
      rw [quotedRow_eq h1] at hc
      simp only [List.mem_append, List.mem_cons, List.not_mem_nil, or_false] at hc
      rcases hc with hc | hc | hc | hc | hc
      · have := (numOk_of h1.1).1 c hc; lia
      · lia
      · lia
      · rcases textR_chars h1 c hc with h | h | h <;> lia
      · lia
theorem esc_chars {l : List Nat} (h : ∀ c ∈ l, c < 1114112) : ∀ c ∈ escL l, c < 1114112 := by
  intro c hc
  unfold escL at hc
  obtain ⟨x, hx, hc⟩ := List.mem_flatten.mp hc
  (refine ex_1_2 (List.mem_map.mp hx) fun a ha zq142 => ?_; (first | subst zq142 | cases zq142))
  unfold escC at hc
  have := h a ha
  split at hc
  · simp at hc; lia
  · simp at hc; lia
theorem line_chars {one two : List Int} {w0 w1 w2 : List Nat} (h : ∀ w ∈ [w0, w1, w2], ∀ c ∈ w, c < 1114112) : ∀ c ∈ lineOf one two [w0, w1, w2], c < 1114112 := by
  intro c hc
  unfold lineOf at hc
  rcases List.mem_append.mp hc with hc | hc
  · rcases List.mem_append.mp hc with hc | hc
    · rcases lead_chars one c hc with h | h <;> lia
    · rcases List.mem_append.mp hc with hc | hc
      · have : ∀ c ∈ headL 6, c < 1114112 := by decide
        exact this c hc
      · rcases joinL_mem _ _ c hc with hc | ⟨x, hx, hc⟩
        · simp at hc; lia
        · unfold itemsOf at hx
          rcases List.mem_append.mp hx with hx | hx
          · have : ∀ x ∈ [itMark, itFore, itBack], ∀ c ∈ x, c < 1114112 := by decide
            exact this x hx c hc
          · (refine ex_1_2 (List.mem_map.mp hx) fun p hp zq143 => ?_; (first | subst zq143 | cases zq143))
            obtain ⟨a, b⟩ := p
            have hz := List.of_mem_zip hp
            have hn : ∀ x ∈ [nThere, nBack, nUnlike], ∀ c ∈ x, c < 1114112 := by decide
            unfold quotedL at hc
            simp only [List.mem_append, List.mem_cons, List.not_mem_nil, or_false] at hc
            rcases hc with ((hc | hc) | hc) | hc
            · exact hn a hz.1 c hc
            · lia
            · exact esc_chars (h b hz.2) c hc
            · lia
  · rcases lead_chars two c (by simpa using hc) with h | h <;> lia
end
section
variable {g : Gw} {k : Nat} {sc : Scope} {σ σ' : Sto}

theorem mem_eq {l : List Nat} {cl : List Nat} {b : Nat} (W : WsIs (wsOf l) cl b) : memD l = membersD l (cI (cl ++ [b])) := by
  have e1 : (cI (cl ++ [b])).dropLast = cI cl := by unfold cI; rw [List.map_append, List.map_cons, List.map_nil, List.dropLast_concat]
  have e2 : (cI (cl ++ [b])).getLastD 0 = (b : Int) := by unfold cI; rw [List.map_append, List.map_cons, List.map_nil]; simp
  have e3 : (cI (cl ++ [b])).sum = (cI cl).sum + b := by unfold cI; rw [List.map_append, List.sum_append]; simp
  have hs : ((wsOf l).simple == true) = ((cI cl).sum == 0) := by
    have h1 := simple_iff W
    have nn : ∀ x ∈ cI cl, 0 ≤ x := fun x hx => by (refine ex_1_2 (List.mem_map.mp hx) fun n _ zq144 => ?_; (first | subst zq144 | cases zq144)); (exact Int.ofNat_zero_le _)
    have h2 : mlen cl ≤ 1 ↔ (cI cl).sum = 0 := by
      clear h1 W e1 e2 e3
      constructor
      · intro h
        have hz : ∀ r ∈ cl, r = 0 := fun r hr => by have := (mlen_spec cl 0).1 r hr; have e : mlen cl = cl.foldl (fun m r => max m (r + 1)) 0 := rfl; lia
        clear h nn
        induction cl with
        | nil => rfl
        | cons r cl ih => unfold cI at ih ⊢; rw [List.map_cons, List.sum_cons, ih fun q hq => hz q (.tail _ hq), hz r (.head _)]; rfl
      · intro h
        have hz : ∀ r ∈ cl, r = 0 := by
          clear nn
          induction cl with
          | nil => simp
          | cons r cl ih =>
            have hp : ∀ l : List Nat, 0 ≤ (cI l).sum := fun l => by
              induction l with
              | nil => simp [cI]
              | cons a l ih => unfold cI at ih ⊢; rw [List.map_cons, List.sum_cons]; lia
            have := hp cl
            unfold cI at h this ih
            rw [List.map_cons, List.sum_cons] at h
            intro q hq
            rcases List.mem_cons.mp hq with rfl | hq
            · lia
            · exact ih (by lia) q hq
        rcases (mlen_spec cl 0).2.2 with e | ⟨r, hr, e⟩
        · show cl.foldl _ 0 ≤ 1; lia
        · have := hz r hr; show cl.foldl _ 0 ≤ 1; lia
    rw [Bool.eq_iff_iff, beq_iff_eq, beq_iff_eq, h1, h2]
  have hs2 : ((wsOf l).simple == false) = !((cI cl).sum == 0) := by
    rw [← hs]; cases (wsOf l).simple <;> rfl
  have hc : (wsOf l).norm = .tup [.tup ((countL (cI cl)).map .int), .int (b : Int)] := by
    unfold Ws.norm
    rw [W.cc, W.bb, cnF_count]
  unfold memD membersD
  rw [e1, e2, e3, hs, hs2, hc, W.n, W.nt]
  have e4 : (cI cl).length = cl.length := by simp [cI]
  rw [e4, show (cI cl).sum + (cl.length : Int) + (b : Int) = (cI cl).sum + (b : Int) + (cl.length : Int) by lia]
theorem line_rev (one two : List Int) (w0 w1 w2 : List Nat) : ∃ rest, (lineOf one two [w0, w1, w2]).reverse = leadL two ++ 34 :: rest := by
  rw [line_commas]
  refine ⟨((leadL one ++ (headL 6 ++ itMark)) ++ commas [32 :: itFore, 32 :: bkL, [], sdL, 32 :: quotedL nThere w0, 32 :: quotedL nBack w1] ++ 44 :: 32 :: (nUnlike ++ [61, 34] ++ escL w2)).reverse, ?_⟩
  have : (leadL one ++ (headL 6 ++ itMark)) ++ commas [32 :: itFore, 32 :: bkL, [], sdL, 32 :: quotedL nThere w0, 32 :: quotedL nBack w1, 32 :: quotedL nUnlike w2 ++ (leadL two).reverse] = ((leadL one ++ (headL 6 ++ itMark)) ++ commas [32 :: itFore, 32 :: bkL, [], sdL, 32 :: quotedL nThere w0, 32 :: quotedL nBack w1] ++ 44 :: 32 :: (nUnlike ++ [61, 34] ++ escL w2)) ++ [34] ++ (leadL two).reverse := by
    have eq : ∀ n w, quotedL n w = n ++ [61, 34] ++ escL w ++ [34] := fun n w => rfl
    rw [eq nUnlike w2]
    simp [commas]
  rw [this, List.reverse_append, List.reverse_append, List.reverse_reverse]
  simp
theorem line_fwd (one two : List Int) (w0 w1 w2 : List Nat) : ∃ rest, lineOf one two [w0, w1, w2] = leadL one ++ 97 :: rest := by
  refine ⟨(headL 6).tail ++ joinL [44, 32] (itemsOf [w0, w1, w2]) ++ (leadL two).reverse, ?_⟩
  unfold lineOf
  rw [List.append_assoc]
  rfl
theorem mx_mem {cl : List Nat} {b : Nat} : mxN cl b ∈ cl ++ [b] ∨ mxN cl b = 0 ∧ b = 0 := by
  unfold mxN
  rcases (mlen_spec cl 0).2.2 with e | ⟨r, hr, e⟩
  · have e' : mlen cl = 0 := e
    left
    rw [e', show max b (0 - 1) = b by lia]
    simp
  · have e' : mlen cl = r + 1 := e
    rw [e', Nat.add_sub_cancel]
    left
    by_cases h : b ≤ r
    · rw [Nat.max_eq_right h]; exact List.mem_append_left _ hr
    · rw [Nat.max_eq_left (by lia)]; simp
theorem mx_le {cl : List Nat} {b : Nat} : ∀ r ∈ cl ++ [b], r ≤ mxN cl b := by
  intro r hr
  unfold mxN
  rcases List.mem_append.mp hr with hr | hr
  · have := (mlen_spec cl 0).1 r hr
    have e' : mlen cl = cl.foldl (fun m r => max m (r + 1)) 0 := rfl
    lia
  · rw [List.mem_singleton] at hr; lia
theorem plain_law : PlainLaw := by
  intro script
  (refine ex_0_2 (leads_small script) fun zq145 zq146 => ?_; refine ex_2_2 (zq146) fun cl2 b2 e2 s2 => ?_; obtain ⟨cl1, b1, e1, s1⟩ := zq145)
  rw [e1, e2]
  have m1 := small_mlen s1
  have m2 := small_mlen s2
  generalize hM : max (mxN cl1 b1) (mxN cl2 b2) = M
  have hM5 : M ≤ 5 := by lia
  have W : WsIs (wsOf (leadL (cI (cl1 ++ [b1])))) cl1 b1 := by have := ws_is (cl := cl1) (b := b1) (rest := []) (by simp); rwa [List.append_nil] at this
  have V : WsIs (wsOf (leadL (cI (cl2 ++ [b2])))) cl2 b2 := by have := ws_is (cl := cl2) (b := b2) (rest := []) (by simp); rwa [List.append_nil] at this
  generalize hrows : rowsOf M (lev cl1 b1) (lev cl2 b2) = rows
  have f0 : table pGe (wsOf (leadL (cI (cl1 ++ [b1])))) (wsOf (leadL (cI (cl2 ++ [b2])))) = rows.filter fun r => decide (r.2.2 ≤ r.2.1) := by rw [table_rows W V, hM, hrows]; rfl
  have f2 : table pNe (wsOf (leadL (cI (cl1 ++ [b1])))) (wsOf (leadL (cI (cl2 ++ [b2])))) = rows.filter fun r => r.2.1 != r.2.2 := by rw [table_rows W V, hM, hrows]; rfl
  have f1 : table pGe (wsOf (leadL (cI (cl2 ++ [b2])))) (wsOf (leadL (cI (cl1 ++ [b1])))) = (rows.filter fun r => decide (r.2.1 ≤ r.2.2)).map swR := by rw [table_back W V, hM, hrows]
  have rp : rows.Pairwise fun a b => a.1 < b.1 := by rw [← hrows]; exact rows_pair _ _ _
  have rl : rows.length = M + 1 := by rw [← hrows]; exact rows_len _ _ _
  have rok : ∀ r ∈ rows, RowOk r := by rw [← hrows]; exact rows_rowok hM5 s1 s2
  have k0 := tab_filter (fun r => decide (r.2.2 ≤ r.2.1)) (by lia) rok rp
  have k2 := tab_filter (fun r => r.2.1 != r.2.2) (by lia) rok rp
  have k1 := tab_swap (tab_filter (fun r => decide (r.2.1 ≤ r.2.2)) (by lia) rok rp)
  have q0 := List.length_filter_le (fun r : Row => decide (r.2.2 ≤ r.2.1)) rows
  have q1 := List.length_filter_le (fun r : Row => decide (r.2.1 ≤ r.2.2)) rows
  have q2 := List.length_filter_le (fun r : Row => r.2.1 != r.2.2) rows
  generalize ht0 : (rows.filter fun r => decide (r.2.2 ≤ r.2.1)) = t0 at f0 k0 q0
  generalize ht2 : (rows.filter fun r => r.2.1 != r.2.2) = t2 at f2 k2 q2
  generalize ht1 : ((rows.filter fun r => decide (r.2.1 ≤ r.2.2)).map swR) = t1 at f1 k1
  have l1 : t1.length ≤ rows.length := by rw [← ht1, List.length_map]; exact q1
  obtain ⟨rest1, hl1⟩ := line_fwd (cI (cl1 ++ [b1])) (cI (cl2 ++ [b2])) (wordsL t0) (wordsL t1) (wordsL t2)
  obtain ⟨rest2, hl2⟩ := line_rev (cI (cl1 ++ [b1])) (cI (cl2 ++ [b2])) (wordsL t0) (wordsL t1) (wordsL t2)
  have hrd := line_read (cI (cl1 ++ [b1])) (cI (cl2 ++ [b2])) (wordsL t0) (wordsL t1) (wordsL t2)
  have wc : ∀ w ∈ [wordsL t0, wordsL t1, wordsL t2], ∀ c ∈ w, c < 1114112 := fun w hw => by
    simp only [List.mem_cons, List.not_mem_nil, or_false] at hw
    rcases hw with rfl | rfl | rfl
    · exact words_chars k0.r
    · exact words_chars k1.r
    · exact words_chars k2.r
  have lc := line_chars (one := cI (cl1 ++ [b1])) (two := cI (cl2 ++ [b2])) wc
  generalize hline : lineOf (cI (cl1 ++ [b1])) (cI (cl2 ++ [b2])) [wordsL t0, wordsL t1, wordsL t2] = line at hl1 hl2 hrd lc
  have W' : WsIs (wsOf line) cl1 b1 := by rw [hl1]; exact ws_is fun c hc => by simp only [List.head?_cons, Option.some.injEq] at hc; lia
  have V' : WsIs (wsOf line.reverse) cl2 b2 := by rw [hl2]; exact ws_is fun c hc => by simp only [List.head?_cons, Option.some.injEq] at hc; lia
  have bo := both_ok rp
  rw [ht0, ht1] at bo
  have mem1 : ∀ x ∈ cI (cl1 ++ [b1]) ++ cI (cl2 ++ [b2]), x ≤ (M : Int) := fun x hx => by
    rcases List.mem_append.mp hx with hx | hx
    · (refine ex_1_2 (List.mem_map.mp hx) fun r hr zq147 => ?_; (first | subst zq147 | cases zq147))
      have := mx_le r hr; lia
    · (refine ex_1_2 (List.mem_map.mp hx) fun r hr zq148 => ?_; (first | subst zq148 | cases zq148))
      have := mx_le r hr; lia
  have hmem : (M : Int) ∈ cI (cl1 ++ [b1]) ++ cI (cl2 ++ [b2]) := by
    have in1 : ∀ {cl : List Nat} {b : Nat}, mxN cl b ∈ cl ++ [b] := fun {cl b} => by
      rcases mx_mem (cl := cl) (b := b) with h | ⟨h, h'⟩
      · exact h
      · rw [h, h']; simp
    by_cases z : mxN cl1 b1 ≤ mxN cl2 b2
    · refine List.mem_append_right _ (List.mem_map.mpr ⟨mxN cl2 b2, in1, by lia⟩)
    · refine List.mem_append_left _ (List.mem_map.mpr ⟨mxN cl1 b1, in1, by lia⟩)
  have eR1 : rows.map (fun r => r.2.1) = (List.range (M + 1)).map fun i => ((lev cl1 b1 (i + 1) : Nat) : Int) := by rw [← hrows]; unfold rowsOf; rw [List.map_map]; rfl
  have eR2 : rows.map (fun r => r.2.2) = (List.range (M + 1)).map fun i => ((lev cl2 b2 (i + 1) : Nat) : Int) := by rw [← hrows]; unfold rowsOf; rw [List.map_map]; rfl
  refine ⟨t0, t1, t2, rows, line, M, csOf cl1 (M + 1), csOf cl2 (M + 1), cl1.length, cl2.length, b1, b2, ?_⟩
  exact
    { h1 := small_runs s1, h2 := small_runs s2, o1 := small_ok W s1, o2 := small_ok V s2, e0 := f0.symm, e1 := f1.symm, e2 := f2.symm, k0 := k0, k1 := k1, k2 := k2
      kl := fun t ht => by
        simp only [List.mem_cons, List.not_mem_nil, or_false] at ht
        rcases ht with rfl | rfl | rfl <;> lia
      el := hline.symm, lc := lc, wc := wc, m1 := mem_eq W', m2 := mem_eq V', hr := hrd, rp := bo.1, rs := rp, ri := bo.2, rl := by lia, hmem := hmem, hmax := mem1, hm := by (exact Nat.le_trans ‹_› (Nat.le_of_ble_eq_true rfl))
      sz := by rw [← hrows]; exact rows_keys _ _ _
      f0 := ht0.symm, f2 := ht2.symm, f1 := ht1.symm
      R1 := by rw [eR1]; exact rk_ok (by lia) (by lia) (by have := s1.l; (exact Nat.le_trans ‹_› (Nat.le_of_ble_eq_true rfl))) (fun _ => rfl)
      R2 := by rw [eR2]; exact rk_ok (by lia) (by lia) (by have := s2.l; (exact Nat.le_trans ‹_› (Nat.le_of_ble_eq_true rfl))) (fun _ => rfl)
      n1 := by unfold Ws.norm; rw [W'.cc, W'.bb, trim_cs (mlen_lt (cl := cl1) (b := b1) (by lia)).2.2]
      n2 := by unfold Ws.norm; rw [V'.cc, V'.bb, trim_cs (mlen_lt (cl := cl2) (b := b2) (by lia)).2.2]
      p1 := small_ok W' s1, p2 := small_ok V' s2
      a0 := by rw [less_eq W' V', hM, hrows, ht0]
      a1 := by rw [less_back W' V', hM, hrows, ht1]
      a2 := by rw [equal_eq W' V' (by lia) (by have := s1.l; (exact Nat.le_trans ‹_› (Nat.le_of_ble_eq_true rfl))) (by have := s2.l; (exact Nat.le_trans ‹_› (Nat.le_of_ble_eq_true rfl))), hM, hrows, ht2]
      a3 := by rw [equal_back W' V' (by lia) (by have := s1.l; (exact Nat.le_trans ‹_› (Nat.le_of_ble_eq_true rfl))) (by have := s2.l; (exact Nat.le_trans ‹_› (Nat.le_of_ble_eq_true rfl))), hM, hrows, ht2] }
end
end Mine
theorem PySem.Challenge.cw_mr0249_01_holds : PySem.Challenge.rw_mr0249_01.Holds :=
  Mine.hd (Mine.walk Mine.plain_law)

import PyProof.Rows.All
import Wide.All
import OpenK.AllK
import Wide.FinOn
import PySem.Challenge.RW_dq0084_01
set_option Elab.async false
set_option linter.all false

section
open PySem PySem.W PySem.W.X PySem.W.ZRun PyProof.Rows
set_option maxRecDepth 100000
set_option maxHeartbeats 0
local macro_rules | `(tactic| k_head) => `(tactic| z_head)
namespace Mine
open_top hd for PySem.Challenge.rw_dq0084_01
end Mine
end
section
open PySem PySem.Calls PySem.W PyProof.Rows
set_option maxRecDepth 100000
set_option genInjectivity false
set_option genSizeOf false
set_option genSizeOfSpec false
namespace Mine
@[elab_as_elim] theorem rwR {α : Sort _} {a b : α} {p : α → Prop} (h : a = b) (e : p b) : p a := h ▸ e
@[elab_as_elim] theorem rwL {α : Sort _} {a b : α} {p : α → Prop} (h : a = b) (e : p a) : p b := h ▸ e
theorem el0_2 {A0 A1 : Prop} {P : Prop} (h : A0 ∧ A1) (k : A0 → A1 → P) : P := k h.1 h.2
theorem el0_3 {A0 A1 A2 : Prop} {P : Prop} (h : A0 ∧ A1 ∧ A2) (k : A0 → A1 → A2 → P) : P := k h.1 h.2.1 h.2.2
theorem el0_4 {A0 A1 A2 A3 : Prop} {P : Prop} (h : A0 ∧ A1 ∧ A2 ∧ A3) (k : A0 → A1 → A2 → A3 → P) : P := k h.1 h.2.1 h.2.2.1 h.2.2.2
theorem el0_5 {A0 A1 A2 A3 A4 : Prop} {P : Prop} (h : A0 ∧ A1 ∧ A2 ∧ A3 ∧ A4) (k : A0 → A1 → A2 → A3 → A4 → P) : P := k h.1 h.2.1 h.2.2.1 h.2.2.2.1 h.2.2.2.2
theorem el0_6 {A0 A1 A2 A3 A4 A5 : Prop} {P : Prop} (h : A0 ∧ A1 ∧ A2 ∧ A3 ∧ A4 ∧ A5) (k : A0 → A1 → A2 → A3 → A4 → A5 → P) : P := k h.1 h.2.1 h.2.2.1 h.2.2.2.1 h.2.2.2.2.1 h.2.2.2.2.2
theorem el0_7 {A0 A1 A2 A3 A4 A5 A6 : Prop} {P : Prop} (h : A0 ∧ A1 ∧ A2 ∧ A3 ∧ A4 ∧ A5 ∧ A6) (k : A0 → A1 → A2 → A3 → A4 → A5 → A6 → P) : P := k h.1 h.2.1 h.2.2.1 h.2.2.2.1 h.2.2.2.2.1 h.2.2.2.2.2.1 h.2.2.2.2.2.2
theorem el0_9 {A0 A1 A2 A3 A4 A5 A6 A7 A8 : Prop} {P : Prop} (h : A0 ∧ A1 ∧ A2 ∧ A3 ∧ A4 ∧ A5 ∧ A6 ∧ A7 ∧ A8) (k : A0 → A1 → A2 → A3 → A4 → A5 → A6 → A7 → A8 → P) : P := k h.1 h.2.1 h.2.2.1 h.2.2.2.1 h.2.2.2.2.1 h.2.2.2.2.2.1 h.2.2.2.2.2.2.1 h.2.2.2.2.2.2.2.1 h.2.2.2.2.2.2.2.2
theorem el1_1 {τ0 : Type} {A0 : τ0 → Prop} {P : Prop} (h : ∃ x0, A0 x0) (k : ∀ x0, A0 x0 → P) : P := h.elim fun x0 h => k x0 h
theorem el1_2 {τ0 : Type} {A0 A1 : τ0 → Prop} {P : Prop} (h : ∃ x0, A0 x0 ∧ A1 x0) (k : ∀ x0, A0 x0 → A1 x0 → P) : P := h.elim fun x0 h => k x0 h.1 h.2
theorem el1_3 {τ0 : Type} {A0 A1 A2 : τ0 → Prop} {P : Prop} (h : ∃ x0, A0 x0 ∧ A1 x0 ∧ A2 x0) (k : ∀ x0, A0 x0 → A1 x0 → A2 x0 → P) : P := h.elim fun x0 h => k x0 h.1 h.2.1 h.2.2
theorem el1_4 {τ0 : Type} {A0 A1 A2 A3 : τ0 → Prop} {P : Prop} (h : ∃ x0, A0 x0 ∧ A1 x0 ∧ A2 x0 ∧ A3 x0) (k : ∀ x0, A0 x0 → A1 x0 → A2 x0 → A3 x0 → P) : P := h.elim fun x0 h => k x0 h.1 h.2.1 h.2.2.1 h.2.2.2
theorem el1_10 {τ0 : Type} {A0 A1 A2 A3 A4 A5 A6 A7 A8 A9 : τ0 → Prop} {P : Prop} (h : ∃ x0, A0 x0 ∧ A1 x0 ∧ A2 x0 ∧ A3 x0 ∧ A4 x0 ∧ A5 x0 ∧ A6 x0 ∧ A7 x0 ∧ A8 x0 ∧ A9 x0) (k : ∀ x0, A0 x0 → A1 x0 → A2 x0 → A3 x0 → A4 x0 → A5 x0 → A6 x0 → A7 x0 → A8 x0 → A9 x0 → P) : P := h.elim fun x0 h => k x0 h.1 h.2.1 h.2.2.1 h.2.2.2.1 h.2.2.2.2.1 h.2.2.2.2.2.1 h.2.2.2.2.2.2.1 h.2.2.2.2.2.2.2.1 h.2.2.2.2.2.2.2.2.1 h.2.2.2.2.2.2.2.2.2
theorem el2_1 {τ0 τ1 : Type} {A0 : τ0 → τ1 → Prop} {P : Prop} (h : ∃ x0 x1, A0 x0 x1) (k : ∀ x0 x1, A0 x0 x1 → P) : P := h.elim fun x0 h => h.elim fun x1 h => k x0 x1 h
theorem el2_2 {τ0 τ1 : Type} {A0 A1 : τ0 → τ1 → Prop} {P : Prop} (h : ∃ x0 x1, A0 x0 x1 ∧ A1 x0 x1) (k : ∀ x0 x1, A0 x0 x1 → A1 x0 x1 → P) : P := h.elim fun x0 h => h.elim fun x1 h => k x0 x1 h.1 h.2
theorem el2_3 {τ0 τ1 : Type} {A0 A1 A2 : τ0 → τ1 → Prop} {P : Prop} (h : ∃ x0 x1, A0 x0 x1 ∧ A1 x0 x1 ∧ A2 x0 x1) (k : ∀ x0 x1, A0 x0 x1 → A1 x0 x1 → A2 x0 x1 → P) : P := h.elim fun x0 h => h.elim fun x1 h => k x0 x1 h.1 h.2.1 h.2.2
theorem el2_4 {τ0 τ1 : Type} {A0 A1 A2 A3 : τ0 → τ1 → Prop} {P : Prop} (h : ∃ x0 x1, A0 x0 x1 ∧ A1 x0 x1 ∧ A2 x0 x1 ∧ A3 x0 x1) (k : ∀ x0 x1, A0 x0 x1 → A1 x0 x1 → A2 x0 x1 → A3 x0 x1 → P) : P := h.elim fun x0 h => h.elim fun x1 h => k x0 x1 h.1 h.2.1 h.2.2.1 h.2.2.2
theorem el2_5 {τ0 τ1 : Type} {A0 A1 A2 A3 A4 : τ0 → τ1 → Prop} {P : Prop} (h : ∃ x0 x1, A0 x0 x1 ∧ A1 x0 x1 ∧ A2 x0 x1 ∧ A3 x0 x1 ∧ A4 x0 x1) (k : ∀ x0 x1, A0 x0 x1 → A1 x0 x1 → A2 x0 x1 → A3 x0 x1 → A4 x0 x1 → P) : P := h.elim fun x0 h => h.elim fun x1 h => k x0 x1 h.1 h.2.1 h.2.2.1 h.2.2.2.1 h.2.2.2.2
theorem el3_2 {τ0 τ1 τ2 : Type} {A0 A1 : τ0 → τ1 → τ2 → Prop} {P : Prop} (h : ∃ x0 x1 x2, A0 x0 x1 x2 ∧ A1 x0 x1 x2) (k : ∀ x0 x1 x2, A0 x0 x1 x2 → A1 x0 x1 x2 → P) : P := h.elim fun x0 h => h.elim fun x1 h => h.elim fun x2 h => k x0 x1 x2 h.1 h.2
theorem el3_3 {τ0 τ1 τ2 : Type} {A0 A1 A2 : τ0 → τ1 → τ2 → Prop} {P : Prop} (h : ∃ x0 x1 x2, A0 x0 x1 x2 ∧ A1 x0 x1 x2 ∧ A2 x0 x1 x2) (k : ∀ x0 x1 x2, A0 x0 x1 x2 → A1 x0 x1 x2 → A2 x0 x1 x2 → P) : P := h.elim fun x0 h => h.elim fun x1 h => h.elim fun x2 h => k x0 x1 x2 h.1 h.2.1 h.2.2
theorem el3_4 {τ0 τ1 τ2 : Type} {A0 A1 A2 A3 : τ0 → τ1 → τ2 → Prop} {P : Prop} (h : ∃ x0 x1 x2, A0 x0 x1 x2 ∧ A1 x0 x1 x2 ∧ A2 x0 x1 x2 ∧ A3 x0 x1 x2) (k : ∀ x0 x1 x2, A0 x0 x1 x2 → A1 x0 x1 x2 → A2 x0 x1 x2 → A3 x0 x1 x2 → P) : P := h.elim fun x0 h => h.elim fun x1 h => h.elim fun x2 h => k x0 x1 x2 h.1 h.2.1 h.2.2.1 h.2.2.2
theorem el3_5 {τ0 τ1 τ2 : Type} {A0 A1 A2 A3 A4 : τ0 → τ1 → τ2 → Prop} {P : Prop} (h : ∃ x0 x1 x2, A0 x0 x1 x2 ∧ A1 x0 x1 x2 ∧ A2 x0 x1 x2 ∧ A3 x0 x1 x2 ∧ A4 x0 x1 x2) (k : ∀ x0 x1 x2, A0 x0 x1 x2 → A1 x0 x1 x2 → A2 x0 x1 x2 → A3 x0 x1 x2 → A4 x0 x1 x2 → P) : P := h.elim fun x0 h => h.elim fun x1 h => h.elim fun x2 h => k x0 x1 x2 h.1 h.2.1 h.2.2.1 h.2.2.2.1 h.2.2.2.2
theorem el4_3 {τ0 τ1 τ2 τ3 : Type} {A0 A1 A2 : τ0 → τ1 → τ2 → τ3 → Prop} {P : Prop} (h : ∃ x0 x1 x2 x3, A0 x0 x1 x2 x3 ∧ A1 x0 x1 x2 x3 ∧ A2 x0 x1 x2 x3) (k : ∀ x0 x1 x2 x3, A0 x0 x1 x2 x3 → A1 x0 x1 x2 x3 → A2 x0 x1 x2 x3 → P) : P := h.elim fun x0 h => h.elim fun x1 h => h.elim fun x2 h => h.elim fun x3 h => k x0 x1 x2 x3 h.1 h.2.1 h.2.2
theorem el4_5 {τ0 τ1 τ2 τ3 : Type} {A0 A1 A2 A3 A4 : τ0 → τ1 → τ2 → τ3 → Prop} {P : Prop} (h : ∃ x0 x1 x2 x3, A0 x0 x1 x2 x3 ∧ A1 x0 x1 x2 x3 ∧ A2 x0 x1 x2 x3 ∧ A3 x0 x1 x2 x3 ∧ A4 x0 x1 x2 x3) (k : ∀ x0 x1 x2 x3, A0 x0 x1 x2 x3 → A1 x0 x1 x2 x3 → A2 x0 x1 x2 x3 → A3 x0 x1 x2 x3 → A4 x0 x1 x2 x3 → P) : P := h.elim fun x0 h => h.elim fun x1 h => h.elim fun x2 h => h.elim fun x3 h => k x0 x1 x2 x3 h.1 h.2.1 h.2.2.1 h.2.2.2.1 h.2.2.2.2
theorem el4_6 {τ0 τ1 τ2 τ3 : Type} {A0 A1 A2 A3 A4 A5 : τ0 → τ1 → τ2 → τ3 → Prop} {P : Prop} (h : ∃ x0 x1 x2 x3, A0 x0 x1 x2 x3 ∧ A1 x0 x1 x2 x3 ∧ A2 x0 x1 x2 x3 ∧ A3 x0 x1 x2 x3 ∧ A4 x0 x1 x2 x3 ∧ A5 x0 x1 x2 x3) (k : ∀ x0 x1 x2 x3, A0 x0 x1 x2 x3 → A1 x0 x1 x2 x3 → A2 x0 x1 x2 x3 → A3 x0 x1 x2 x3 → A4 x0 x1 x2 x3 → A5 x0 x1 x2 x3 → P) : P := h.elim fun x0 h => h.elim fun x1 h => h.elim fun x2 h => h.elim fun x3 h => k x0 x1 x2 x3 h.1 h.2.1 h.2.2.1 h.2.2.2.1 h.2.2.2.2.1 h.2.2.2.2.2
theorem el4_9 {τ0 τ1 τ2 τ3 : Type} {A0 A1 A2 A3 A4 A5 A6 A7 A8 : τ0 → τ1 → τ2 → τ3 → Prop} {P : Prop} (h : ∃ x0 x1 x2 x3, A0 x0 x1 x2 x3 ∧ A1 x0 x1 x2 x3 ∧ A2 x0 x1 x2 x3 ∧ A3 x0 x1 x2 x3 ∧ A4 x0 x1 x2 x3 ∧ A5 x0 x1 x2 x3 ∧ A6 x0 x1 x2 x3 ∧ A7 x0 x1 x2 x3 ∧ A8 x0 x1 x2 x3) (k : ∀ x0 x1 x2 x3, A0 x0 x1 x2 x3 → A1 x0 x1 x2 x3 → A2 x0 x1 x2 x3 → A3 x0 x1 x2 x3 → A4 x0 x1 x2 x3 → A5 x0 x1 x2 x3 → A6 x0 x1 x2 x3 → A7 x0 x1 x2 x3 → A8 x0 x1 x2 x3 → P) : P := h.elim fun x0 h => h.elim fun x1 h => h.elim fun x2 h => h.elim fun x3 h => k x0 x1 x2 x3 h.1 h.2.1 h.2.2.1 h.2.2.2.1 h.2.2.2.2.1 h.2.2.2.2.2.1 h.2.2.2.2.2.2.1 h.2.2.2.2.2.2.2.1 h.2.2.2.2.2.2.2.2
theorem el5_5 {τ0 τ1 τ2 τ3 τ4 : Type} {A0 A1 A2 A3 A4 : τ0 → τ1 → τ2 → τ3 → τ4 → Prop} {P : Prop} (h : ∃ x0 x1 x2 x3 x4, A0 x0 x1 x2 x3 x4 ∧ A1 x0 x1 x2 x3 x4 ∧ A2 x0 x1 x2 x3 x4 ∧ A3 x0 x1 x2 x3 x4 ∧ A4 x0 x1 x2 x3 x4) (k : ∀ x0 x1 x2 x3 x4, A0 x0 x1 x2 x3 x4 → A1 x0 x1 x2 x3 x4 → A2 x0 x1 x2 x3 x4 → A3 x0 x1 x2 x3 x4 → A4 x0 x1 x2 x3 x4 → P) : P := h.elim fun x0 h => h.elim fun x1 h => h.elim fun x2 h => h.elim fun x3 h => h.elim fun x4 h => k x0 x1 x2 x3 x4 h.1 h.2.1 h.2.2.1 h.2.2.2.1 h.2.2.2.2
theorem el5_7 {τ0 τ1 τ2 τ3 τ4 : Type} {A0 A1 A2 A3 A4 A5 A6 : τ0 → τ1 → τ2 → τ3 → τ4 → Prop} {P : Prop} (h : ∃ x0 x1 x2 x3 x4, A0 x0 x1 x2 x3 x4 ∧ A1 x0 x1 x2 x3 x4 ∧ A2 x0 x1 x2 x3 x4 ∧ A3 x0 x1 x2 x3 x4 ∧ A4 x0 x1 x2 x3 x4 ∧ A5 x0 x1 x2 x3 x4 ∧ A6 x0 x1 x2 x3 x4) (k : ∀ x0 x1 x2 x3 x4, A0 x0 x1 x2 x3 x4 → A1 x0 x1 x2 x3 x4 → A2 x0 x1 x2 x3 x4 → A3 x0 x1 x2 x3 x4 → A4 x0 x1 x2 x3 x4 → A5 x0 x1 x2 x3 x4 → A6 x0 x1 x2 x3 x4 → P) : P := h.elim fun x0 h => h.elim fun x1 h => h.elim fun x2 h => h.elim fun x3 h => h.elim fun x4 h => k x0 x1 x2 x3 x4 h.1 h.2.1 h.2.2.1 h.2.2.2.1 h.2.2.2.2.1 h.2.2.2.2.2.1 h.2.2.2.2.2.2
theorem el5_9 {τ0 τ1 τ2 τ3 τ4 : Type} {A0 A1 A2 A3 A4 A5 A6 A7 A8 : τ0 → τ1 → τ2 → τ3 → τ4 → Prop} {P : Prop} (h : ∃ x0 x1 x2 x3 x4, A0 x0 x1 x2 x3 x4 ∧ A1 x0 x1 x2 x3 x4 ∧ A2 x0 x1 x2 x3 x4 ∧ A3 x0 x1 x2 x3 x4 ∧ A4 x0 x1 x2 x3 x4 ∧ A5 x0 x1 x2 x3 x4 ∧ A6 x0 x1 x2 x3 x4 ∧ A7 x0 x1 x2 x3 x4 ∧ A8 x0 x1 x2 x3 x4) (k : ∀ x0 x1 x2 x3 x4, A0 x0 x1 x2 x3 x4 → A1 x0 x1 x2 x3 x4 → A2 x0 x1 x2 x3 x4 → A3 x0 x1 x2 x3 x4 → A4 x0 x1 x2 x3 x4 → A5 x0 x1 x2 x3 x4 → A6 x0 x1 x2 x3 x4 → A7 x0 x1 x2 x3 x4 → A8 x0 x1 x2 x3 x4 → P) : P := h.elim fun x0 h => h.elim fun x1 h => h.elim fun x2 h => h.elim fun x3 h => h.elim fun x4 h => k x0 x1 x2 x3 x4 h.1 h.2.1 h.2.2.1 h.2.2.2.1 h.2.2.2.2.1 h.2.2.2.2.2.1 h.2.2.2.2.2.2.1 h.2.2.2.2.2.2.2.1 h.2.2.2.2.2.2.2.2
theorem el6_8 {τ0 τ1 τ2 τ3 τ4 τ5 : Type} {A0 A1 A2 A3 A4 A5 A6 A7 : τ0 → τ1 → τ2 → τ3 → τ4 → τ5 → Prop} {P : Prop} (h : ∃ x0 x1 x2 x3 x4 x5, A0 x0 x1 x2 x3 x4 x5 ∧ A1 x0 x1 x2 x3 x4 x5 ∧ A2 x0 x1 x2 x3 x4 x5 ∧ A3 x0 x1 x2 x3 x4 x5 ∧ A4 x0 x1 x2 x3 x4 x5 ∧ A5 x0 x1 x2 x3 x4 x5 ∧ A6 x0 x1 x2 x3 x4 x5 ∧ A7 x0 x1 x2 x3 x4 x5) (k : ∀ x0 x1 x2 x3 x4 x5, A0 x0 x1 x2 x3 x4 x5 → A1 x0 x1 x2 x3 x4 x5 → A2 x0 x1 x2 x3 x4 x5 → A3 x0 x1 x2 x3 x4 x5 → A4 x0 x1 x2 x3 x4 x5 → A5 x0 x1 x2 x3 x4 x5 → A6 x0 x1 x2 x3 x4 x5 → A7 x0 x1 x2 x3 x4 x5 → P) : P := h.elim fun x0 h => h.elim fun x1 h => h.elim fun x2 h => h.elim fun x3 h => h.elim fun x4 h => h.elim fun x5 h => k x0 x1 x2 x3 x4 x5 h.1 h.2.1 h.2.2.1 h.2.2.2.1 h.2.2.2.2.1 h.2.2.2.2.2.1 h.2.2.2.2.2.2.1 h.2.2.2.2.2.2.2
theorem el6_11 {τ0 τ1 τ2 τ3 τ4 τ5 : Type} {A0 A1 A2 A3 A4 A5 A6 A7 A8 A9 A10 : τ0 → τ1 → τ2 → τ3 → τ4 → τ5 → Prop} {P : Prop} (h : ∃ x0 x1 x2 x3 x4 x5, A0 x0 x1 x2 x3 x4 x5 ∧ A1 x0 x1 x2 x3 x4 x5 ∧ A2 x0 x1 x2 x3 x4 x5 ∧ A3 x0 x1 x2 x3 x4 x5 ∧ A4 x0 x1 x2 x3 x4 x5 ∧ A5 x0 x1 x2 x3 x4 x5 ∧ A6 x0 x1 x2 x3 x4 x5 ∧ A7 x0 x1 x2 x3 x4 x5 ∧ A8 x0 x1 x2 x3 x4 x5 ∧ A9 x0 x1 x2 x3 x4 x5 ∧ A10 x0 x1 x2 x3 x4 x5) (k : ∀ x0 x1 x2 x3 x4 x5, A0 x0 x1 x2 x3 x4 x5 → A1 x0 x1 x2 x3 x4 x5 → A2 x0 x1 x2 x3 x4 x5 → A3 x0 x1 x2 x3 x4 x5 → A4 x0 x1 x2 x3 x4 x5 → A5 x0 x1 x2 x3 x4 x5 → A6 x0 x1 x2 x3 x4 x5 → A7 x0 x1 x2 x3 x4 x5 → A8 x0 x1 x2 x3 x4 x5 → A9 x0 x1 x2 x3 x4 x5 → A10 x0 x1 x2 x3 x4 x5 → P) : P := h.elim fun x0 h => h.elim fun x1 h => h.elim fun x2 h => h.elim fun x3 h => h.elim fun x4 h => h.elim fun x5 h => k x0 x1 x2 x3 x4 x5 h.1 h.2.1 h.2.2.1 h.2.2.2.1 h.2.2.2.2.1 h.2.2.2.2.2.1 h.2.2.2.2.2.2.1 h.2.2.2.2.2.2.2.1 h.2.2.2.2.2.2.2.2.1 h.2.2.2.2.2.2.2.2.2.1 h.2.2.2.2.2.2.2.2.2.2
theorem el8_7 {τ0 τ1 τ2 τ3 τ4 τ5 τ6 τ7 : Type} {A0 A1 A2 A3 A4 A5 A6 : τ0 → τ1 → τ2 → τ3 → τ4 → τ5 → τ6 → τ7 → Prop} {P : Prop} (h : ∃ x0 x1 x2 x3 x4 x5 x6 x7, A0 x0 x1 x2 x3 x4 x5 x6 x7 ∧ A1 x0 x1 x2 x3 x4 x5 x6 x7 ∧ A2 x0 x1 x2 x3 x4 x5 x6 x7 ∧ A3 x0 x1 x2 x3 x4 x5 x6 x7 ∧ A4 x0 x1 x2 x3 x4 x5 x6 x7 ∧ A5 x0 x1 x2 x3 x4 x5 x6 x7 ∧ A6 x0 x1 x2 x3 x4 x5 x6 x7) (k : ∀ x0 x1 x2 x3 x4 x5 x6 x7, A0 x0 x1 x2 x3 x4 x5 x6 x7 → A1 x0 x1 x2 x3 x4 x5 x6 x7 → A2 x0 x1 x2 x3 x4 x5 x6 x7 → A3 x0 x1 x2 x3 x4 x5 x6 x7 → A4 x0 x1 x2 x3 x4 x5 x6 x7 → A5 x0 x1 x2 x3 x4 x5 x6 x7 → A6 x0 x1 x2 x3 x4 x5 x6 x7 → P) : P := h.elim fun x0 h => h.elim fun x1 h => h.elim fun x2 h => h.elim fun x3 h => h.elim fun x4 h => h.elim fun x5 h => h.elim fun x6 h => h.elim fun x7 h => k x0 x1 x2 x3 x4 x5 x6 x7 h.1 h.2.1 h.2.2.1 h.2.2.2.1 h.2.2.2.2.1 h.2.2.2.2.2.1 h.2.2.2.2.2.2
theorem nosome {α : Type} {o : Option α} {x : α} {P : Prop} (h : o = none) (e : o = some x) : P := nomatch h.symm.trans e
theorem nosome2 {h : Heap} {a b : Addr} {o : Obj} {P : Prop} (q : a = b) (t : h.get? b = none) (x : h.get? a = some o) : P := by subst q; exact nosome t x
theorem nosome3 {h : Heap} {a b : Addr} {o : Obj} {P : Prop} (q : a = b) (t : h.get? b = some o) (x : h.get? a = none) : P := by subst q; exact nosome x t
theorem zi (i : Nat) : (0 : Int) + (i : Int) * 1 = (i : Int) := by simp only [Int.zero_add, Int.mul_one]
noncomputable abbrev Kp (h h' : Heap) : Prop := ∀ b o, h.get? b = some o → h'.get? b = some o
theorem Kp.refl (h : Heap) : Kp h h := fun _ _ e => e
theorem Kp.trans {a b c : Heap} (x : Kp a b) (y : Kp b c) : Kp a c := fun _ _ e => y _ _ (x _ _ e)
theorem Kp.push (h : Heap) (o : Obj) : Kp h (h.push o) := fun _ _ e => Heap.get?_push_of_some o e
theorem keeps_kp {s s' : Shared} (x : Keeps s s') : Kp s.heap s'.heap := by
  obtain ⟨h', tk, rfl, hk⟩ := x; exact hk
theorem keeps_refl (s : Shared) : Keeps s s := ⟨s.heap, s.toks, rfl, fun _ _ e => e⟩
theorem keeps_trans {a b c : Shared} (x : Keeps a b) (y : Keeps b c) : Keeps a c := by
  refine el2_2 x fun h1 t1 r1_ k1 => ?_
  try clear x
  obtain rfl := r1_
  refine el2_2 y fun h2 t2 r2_ k2 => ?_
  try clear y
  obtain rfl := r2_
  exact ⟨h2, t2, rfl, fun b o e => k2 b o (k1 b o e)⟩
structure Ok (n : Nat) (A : Around) : Prop where
  hd : A.handled = none
  dp : A.depth + n ≤ 900
  un : A.units + 10 * n ≤ 9000
theorem Ok.u64 {n : Nat} {A : Around} (x : Ok n A) : A.units + 64 < cLine := by have := x.un; unfold cLine; lia
theorem Ok.mono {n m : Nat} {A : Around} (x : Ok n A) (h : m ≤ n) : Ok m A := ⟨x.hd, by have := x.dp; lia, by have := x.un; lia⟩
theorem Ok.deeper {n : Nat} {A : Around} {env : Env} (x : Ok (n + 1) A) : Ok n (A.deeper env) := ⟨x.hd, by have := x.dp; simp only [Around.deeper]; lia, by have := x.un; simp only [Around.deeper]; lia⟩
theorem Ok.room {n : Nat} {A : Around} (x : Ok n A) : A.depth < recursionLimit := by have := x.dp; unfold recursionLimit; lia
theorem Ok.units {n : Nat} {A : Around} (x : Ok n A) : A.units < cLine := by have := x.un; unfold cLine; lia
noncomputable def Gives {α : Type} (prog : Program) (w : World) (A : Around) (h : Heap) (t : Sem α) (R : α → Heap → Prop) : Prop :=
  ∀ (s : Shared) (E : Value → Shared → Prop), Kp h s.heap → wpAny (model prog w) A t (fun y s' => R y s'.heap ∧ Keeps s s') E s
section
variable {α β : Type} {prog : Program} {w : World} {A : Around} {h : Heap} {t : Sem α} {R : α → Heap → Prop}
theorem Gives.use {h0 : Heap} {gn : Array GenState} {dr : Drawn} {t0 : Nat} {os : OsState} {E : Value → Shared → Prop} {Q : α → Shared → Prop} (G : Gives prog w A h t R) (hk : Kp h h0)
    (k : ∀ v h' tk, Kp h0 h' → R v h' → Q v ⟨h', gn, dr, tk, os⟩) : wpAny (model prog w) A t Q E ⟨h0, gn, dr, t0, os⟩ :=
  wpAny_mono (G ⟨h0, gn, dr, t0, os⟩ E hk) (fun v s' x => by obtain ⟨hR, h', tk, rfl, hk'⟩ := x; exact k v h' tk hk' hR) fun _ _ x => x
theorem Gives.up {h' : Heap} (G : Gives prog w A h t R) (hk : Kp h h') : Gives prog w A h' t R := fun s E hs => G s E (hk.trans hs)
theorem Gives.mono {R' : α → Heap → Prop} (G : Gives prog w A h t R) (hR : ∀ v h', Kp h h' → R v h' → R' v h') : Gives prog w A h t R' :=
  fun s E hs => wpAny_mono (G s E hs) (fun v s' x => ⟨hR v s'.heap (hs.trans (keeps_kp x.2)) x.1, x.2⟩) fun _ _ x => x
theorem Gives.bind {f : α → Sem β} {R' : β → Heap → Prop} (x : Gives prog w A h t R) (y : ∀ v h1, Kp h h1 → R v h1 → Gives prog w A h1 (f v) R') :
    Gives prog w A h (t >>= f) R' := fun s E hs =>
  wpAny_bind (wpAny_mono (x s E hs) (fun v s1 z => wpAny_mono (y v s1.heap (hs.trans (keeps_kp z.2)) z.1 s1 E (Kp.refl _)) (fun v' s2 z' => ⟨z'.1, keeps_trans z.2 z'.2⟩) fun _ _ e => e) fun _ _ e => e)
theorem Gives.useV {x : α} {h0 : Heap} {gn : Array GenState} {dr : Drawn} {t0 : Nat} {os : OsState} {E : Value → Shared → Prop} {Q : α → Shared → Prop} (G : Gives prog w A h t (fun v _ => v = x)) (hk : Kp h h0)
    (k : ∀ h' tk, Kp h0 h' → Q x ⟨h', gn, dr, tk, os⟩) : wpAny (model prog w) A t Q E ⟨h0, gn, dr, t0, os⟩ :=
  G.use hk fun v h' tk hk' hv => by subst hv; exact k h' tk hk'
end
noncomputable def isI (i : Int) (v : Value) : Prop := ∃ t, v = .int i t
noncomputable def isB (b : Bool) (v : Value) : Prop := v = .bool b
noncomputable abbrev GI (prog : Program) (w : World) (A : Around) (h : Heap) (t : Sem Value) (i : Int) : Prop := Gives prog w A h t (fun v _ => isI i v)
noncomputable abbrev GV (prog : Program) (w : World) (A : Around) (h : Heap) (t : Sem Value) (x : Value) : Prop := Gives prog w A h t (fun v _ => v = x)
noncomputable abbrev GB (prog : Program) (w : World) (A : Around) (h : Heap) (t : Sem Bool) (b : Bool) : Prop := Gives prog w A h t (fun v _ => v = b)
theorem Gives.useI {prog : Program} {w : World} {A : Around} {h : Heap} {t : Sem Value} {i : Int} {h0 : Heap} {gn : Array GenState} {dr : Drawn} {t0 : Nat} {os : OsState} {E : Value → Shared → Prop} {Q : Value → Shared → Prop} (G : GI prog w A h t i) (hk : Kp h h0)
    (k : ∀ u h' tk, Kp h0 h' → Q (.int i u) ⟨h', gn, dr, tk, os⟩) : wpAny (model prog w) A t Q E ⟨h0, gn, dr, t0, os⟩ :=
  G.use hk fun v h' tk hk' hv => by obtain ⟨u, rfl⟩ := hv; exact k u h' tk hk'
section
variable {prog : Program} {w : World} {A : Around} {h : Heap} {env : Env}
theorem g_int {i k pos} : GI prog w A h (eval (.Constant (.int i) k pos) env) i := fun s E _ => wpAny_Constant_int ⟨⟨_, rfl⟩, s.heap, s.toks + 1, rfl, fun _ _ e => e⟩
theorem g_none {k pos} : GV prog w A h (eval (.Constant .none k pos) env) .none := fun s E _ => wpAny_Constant_none ⟨rfl, keeps_refl s⟩
theorem g_bool {b k pos} : GV prog w A h (eval (.Constant (.bool b) k pos) env) (.bool b) := fun s E _ => wpAny_Constant_bool ⟨rfl, keeps_refl s⟩
theorem g_local {x pos v m} (hk : env.scope.kind = .function) (hl : env.kindOf x = some .local) (hn : h.Ns env.locals m) (hv : m x = some v) (hd : (x == ("__debug__" : Str)) = false := by decide) :
    GV prog w A h (eval (.Name x pos) env) v := fun s E hs => wpAny_Name (wpAny_loadName_local hk hl (hn.keeps hs) hv ⟨rfl, keeps_refl s⟩) hd
theorem g_cell {x pos v c} (hk : env.scope.kind = .function) (hl : env.kindOf x = some .cell) (hc : env.cells.lookup x = some c) (hv : h.IsCell c (some v)) (hd : (x == ("__debug__" : Str)) = false := by decide) :
    GV prog w A h (eval (.Name x pos) env) v := fun s E hs => wpAny_Name (wpAny_loadName_cell hk hl hc (hv.keeps hs) ⟨rfl, keeps_refl s⟩) hd
theorem g_binop {l op r pos} {R1 R2 R : Value → Heap → Prop} (x : Gives prog w A h (eval l env) R1) (y : Gives prog w A h (eval r env) R2)
    (m1 : ∀ v a b, Kp a b → R1 v a → R1 v b)
    (z : ∀ a b h', Kp h h' → R1 a h' → R2 b h' → Gives prog w A h' (binaryOp op a b) R) : Gives prog w A h (eval (.BinOp l op r pos) env) R := fun s E hs =>
  wpAny_BinOp (wpAny_mono (x s E hs) (fun a s1 za => wpAny_mono (y s1 E (hs.trans (keeps_kp za.2))) (fun b s2 zb =>
    wpAny_mono (z a b s2.heap ((hs.trans (keeps_kp za.2)).trans (keeps_kp zb.2)) (m1 _ _ _ (keeps_kp zb.2) za.1) zb.1 s2 E (Kp.refl _)) (fun v s3 zc => ⟨zc.1, keeps_trans za.2 (keeps_trans zb.2 zc.2)⟩) fun _ _ e => e) fun _ _ e => e) fun _ _ e => e)
theorem g_cmp {l op r pos} {R1 R2 R : Value → Heap → Prop} (x : Gives prog w A h (eval l env) R1) (y : Gives prog w A h (eval r env) R2)
    (m1 : ∀ v a b, Kp a b → R1 v a → R1 v b)
    (z : ∀ a b h', Kp h h' → R1 a h' → R2 b h' → Gives prog w A h' (compareOp op a b) R)
    (hm : behindInMarks op r = false := by with_unfolding_all rfl) : Gives prog w A h (eval (.Compare l [op] [r] pos) env) R := fun s E hs =>
  wpAny_Compare1 (wpAny_mono (x s E hs) (fun a s1 za => wpAny_mono (y s1 E (hs.trans (keeps_kp za.2))) (fun b s2 zb =>
    wpAny_mono (z a b s2.heap ((hs.trans (keeps_kp za.2)).trans (keeps_kp zb.2)) (m1 _ _ _ (keeps_kp zb.2) za.1) zb.1 s2 E (Kp.refl _)) (fun v s3 zc => ⟨zc.1, keeps_trans za.2 (keeps_trans zb.2 zc.2)⟩) fun _ _ e => e) fun _ _ e => e) fun _ _ e => e) hm
theorem g_test {l op r pos whole} {R1 R2 : Value → Heap → Prop} {b : Bool} (x : Gives prog w A h (eval l env) R1) (y : Gives prog w A h (eval r env) R2)
    (m1 : ∀ v a b, Kp a b → R1 v a → R1 v b)
    (z : ∀ a b' h', Kp h h' → R1 a h' → R2 b' h' → Gives prog w A h' (compareOp op a b') (fun v _ => v = .bool b))
    (hm : behindInMarks op r = false := by with_unfolding_all rfl) : GB prog w A h (isTrue (.Compare l [op] [r] pos) env whole) b := fun s E hs =>
  wpAny_isTrue_Compare1 (wpAny_mono (x s E hs) (fun a s1 za => wpAny_mono (y s1 E (hs.trans (keeps_kp za.2))) (fun b' s2 zb =>
    wpAny_mono (z a b' s2.heap ((hs.trans (keeps_kp za.2)).trans (keeps_kp zb.2)) (m1 _ _ _ (keeps_kp zb.2) za.1) zb.1 s2 E (Kp.refl _)) (fun v s3 zc => by
      refine el0_2 zc fun r3_ t4_ => ?_
      try clear zc
      revert t4_
      intro zc
      obtain rfl := r3_
      exact wpAny_truthy_bool ⟨rfl, keeps_trans za.2 (keeps_trans zb.2 zc)⟩) fun _ _ e => e) fun _ _ e => e) fun _ _ e => e) hm
end
end Mine
end
section
open PySem PySem.Calls PySem.W PyProof.Rows
set_option maxRecDepth 100000
set_option genInjectivity false
set_option genSizeOf false
set_option genSizeOfSpec false
namespace Mine
section
variable {prog : Program} {w : World} {A : Around} {h : Heap} {env : Env}
theorem gi_op {l op r pos} {i j k : Int} (x : GI prog w A h (eval l env) i) (y : GI prog w A h (eval r env) j)
    (z : ∀ t u (s : Shared) (E : Value → Shared → Prop) (Q : Value → Shared → Prop), Q (.int k s.toks) { s with toks := s.toks + 1 } → wpAny (model prog w) A (binaryOp op (.int i t) (.int j u)) Q E s) :
    GI prog w A h (eval (.BinOp l op r pos) env) k :=
  g_binop x y (fun _ _ _ _ e => e) fun a b h' _ ha hb => by
    refine el1_1 ha fun t r1_ => ?_
    try clear ha
    obtain rfl := r1_
    refine el1_1 hb fun u r2_ => ?_
    try clear hb
    obtain rfl := r2_
    exact fun s E hs => z t u s E _ ⟨⟨_, rfl⟩, s.heap, s.toks + 1, rfl, fun _ _ e => e⟩
theorem gi_add {l r pos} {i j : Int} (x : GI prog w A h (eval l env) i) (y : GI prog w A h (eval r env) j) : GI prog w A h (eval (.BinOp l .Add r pos) env) (i + j) :=
  gi_op x y fun _ _ _ _ _ q => P.add_int q
theorem gi_sub {l r pos} {i j : Int} (x : GI prog w A h (eval l env) i) (y : GI prog w A h (eval r env) j) : GI prog w A h (eval (.BinOp l .Sub r pos) env) (i - j) :=
  gi_op x y fun _ _ _ _ _ q => P.sub_int q
theorem gi_mod {l r pos} {i j : Int} (hj : 0 < j) (hj' : j < 1000000) (x : GI prog w A h (eval l env) i) (y : GI prog w A h (eval r env) j) : GI prog w A h (eval (.BinOp l .Mod r pos) env) (i % j) :=
  gi_op x y fun _ _ _ _ _ q => AutoIntOps.mod_1 (by simp; lia) (by (refine rwR (Int.fmod_eq_emod_of_nonneg _ (by lia)) ?_); exact q)
theorem gi_div {l r pos} {i j : Int} (hj : 0 < j) (hj' : j < 1000000) (x : GI prog w A h (eval l env) i) (y : GI prog w A h (eval r env) j) : GI prog w A h (eval (.BinOp l .FloorDiv r pos) env) (i / j) :=
  gi_op x y fun _ _ _ _ _ q => AutoIntOps.floordiv_1 (by simp; lia) (by (refine rwR (PyProof.noPylong_small (by omega)) ?_); simp) (by (refine rwR (Int.fdiv_eq_ediv_of_nonneg _ (by lia)) ?_); exact q)
theorem gi_pow2 {l r pos} {j : Nat} (hj : j ≤ 64) (x : GI prog w A h (eval l env) 2) (y : GI prog w A h (eval r env) j) : GI prog w A h (eval (.BinOp l .Pow r pos) env) (2 ^ j) := by
  refine gi_op x y fun t u s E Q q => ?_
  cases j with
  | zero => exact AutoIntOps.pow_0 (by decide) (by decide) q
  | succ j =>
    refine AutoIntOps.pow_4 (by lia) (by simp; lia) (by decide) (by decide) ?_ ?_
    · have : Builtin.Int.intBits 2 = 2 := by decide +kernel
      (refine rwR this ?_)
      unfold Builtin.Int.intTooBig
      simp only [decide_eq_true_eq]
      intro hh
      have hl : ((bitsLine : Nat) : Int) = 134217728 := by decide +kernel
      lia
    · exact q
theorem gi_neg {x pos} {i : Int} (y : GI prog w A h (eval x env) i) : GI prog w A h (eval (.UnaryOp .USub x pos) env) (-i) := fun s E hs =>
  wpAny_UnaryOp (wpAny_mono (y s E hs) (fun v s1 z => by
    refine el0_2 z fun q3_ t4_ => ?_
    try clear z
    revert t4_
    intro z
    refine el1_1 q3_ fun t r5_ => ?_
    try clear q3_
    obtain rfl := r5_
    exact P.neg_int ⟨⟨_, rfl⟩, keeps_trans z ⟨s1.heap, s1.toks + 1, rfl, fun _ _ e => e⟩⟩) fun _ _ e => e)
theorem gb_op {l op r pos whole} {i j : Int} {b : Bool} (x : GI prog w A h (eval l env) i) (y : GI prog w A h (eval r env) j)
    (z : ∀ t u (s : Shared) (E : Value → Shared → Prop) (Q : Value → Shared → Prop), Q (.bool b) s → wpAny (model prog w) A (compareOp op (.int i t) (.int j u)) Q E s)
    (hm : behindInMarks op r = false := by with_unfolding_all rfl) :
    GB prog w A h (isTrue (.Compare l [op] [r] pos) env whole) b :=
  g_test x y (fun _ _ _ _ e => e) (fun a b' h' _ ha hb => by
    refine el1_1 ha fun t r6_ => ?_
    try clear ha
    obtain rfl := r6_
    refine el1_1 hb fun u r7_ => ?_
    try clear hb
    obtain rfl := r7_
    exact fun s E hs => z t u s E _ ⟨rfl, keeps_refl s⟩) hm
theorem gb_lt {l r pos whole} {i j : Int} (x : GI prog w A h (eval l env) i) (y : GI prog w A h (eval r env) j) (hm : behindInMarks .Lt r = false := by with_unfolding_all rfl) :
    GB prog w A h (isTrue (.Compare l [.Lt] [r] pos) env whole) (decide (i < j)) := gb_op x y (fun _ _ _ _ _ q => P.lt_int q) hm
theorem gb_eq {l r pos whole} {i j : Int} (x : GI prog w A h (eval l env) i) (y : GI prog w A h (eval r env) j) (hm : behindInMarks .Eq r = false := by with_unfolding_all rfl) :
    GB prog w A h (isTrue (.Compare l [.Eq] [r] pos) env whole) (i == j) := gb_op x y (fun _ _ _ _ _ q => P.eq_int q) hm
theorem gb_ne {l r pos whole} {i j : Int} (x : GI prog w A h (eval l env) i) (y : GI prog w A h (eval r env) j) (hm : behindInMarks .NotEq r = false := by with_unfolding_all rfl) :
    GB prog w A h (isTrue (.Compare l [.NotEq] [r] pos) env whole) (i != j) := gb_op x y (fun _ _ _ _ _ q => P.ne_int q) hm
theorem gv_lt {l r pos} {i j : Int} (x : GI prog w A h (eval l env) i) (y : GI prog w A h (eval r env) j) (hm : behindInMarks .Lt r = false := by with_unfolding_all rfl) :
    GV prog w A h (eval (.Compare l [.Lt] [r] pos) env) (.bool (decide (i < j))) :=
  g_cmp x y (fun _ _ _ _ e => e) (fun a b' h' _ ha hb => by
    refine el1_1 ha fun t r8_ => ?_
    try clear ha
    obtain rfl := r8_
    refine el1_1 hb fun u r9_ => ?_
    try clear hb
    obtain rfl := r9_
    exact fun s E hs => P.lt_int ⟨rfl, keeps_refl s⟩) hm
theorem gb_plain {e : Expr} {b : Bool} (x : GV prog w A h (eval e env) (.bool b)) (he : isTrue e env (eval e env) = (do let v ← eval e env; standAt e.pos; holding [v] (truthy v))) :
    GB prog w A h (isTrue e env (eval e env)) b := by
  (refine rwR he ?_)
  refine x.bind fun v h1 hk hv => ?_
  subst hv
  exact fun s E hs => wpAny_bind (wpAny_standAt (wpAny_holding (wpAny_truthy_bool ⟨rfl, keeps_refl s⟩)))
end
end Mine
end
section
open PySem PySem.Calls PySem.W PyProof.Rows
set_option maxRecDepth 100000
set_option genInjectivity false
set_option genSizeOf false
set_option genSizeOfSpec false
namespace Mine
noncomputable abbrev K (w : World) : Frag := hd.heap_168 w.params
structure Sta (w : World) (h : Heap) : Prop where
  X : (K w).In h
  g : ∃ mg, h.Ns mainGlobals mg
  b : ∃ mb, h.Ns builtinsNs mb ∧ ∀ x : Str, x ≠ "__name__" → mb x = bootBuiltins x
  lim : h.NoLimit
theorem Sta.keeps {w : World} {h h' : Heap} (S : Sta w h) (hk : Kp h h') : Sta w h' :=
  ⟨S.X.keeps hk, let ⟨mg, x⟩ := S.g; ⟨mg, x.keeps hk⟩, let ⟨mb, x, y⟩ := S.b; ⟨mb, x.keeps hk, y⟩, S.lim.keeps hk⟩
section
variable {prog : Program} {w : World} {A : Around} {h : Heap} {env : Env}
theorem g_builtin {x pos v} (S : Sta w h) (e : nsIn (K w) mainGlobals x = some none) (hv : bootBuiltins x = some v) (hn : x ≠ "__name__")
    (hk : env.scope.kind = .function) (hx : env.kindOf x = some .globalImplicit) (hg : env.globals = mainGlobals) (hb : env.builtins = builtinsNs) (hd : (x == ("__debug__" : Str)) = false := by decide) :
    GV prog w A h (eval (.Name x pos) env) v := fun s E hs => by
  refine el1_1 S.g fun mg G => ?_
  refine el1_2 S.b fun mb B hB => ?_
  exact Name_function_global hk hx (loadGlobal_builtin (env := env) (hg ▸ G.keeps hs) (mg_none_of S.X G e) (hb ▸ B.keeps hs) ((hB x hn).trans hv) ⟨rfl, keeps_refl s⟩) hd
theorem g_global {x pos v} (S : Sta w h) (e : nsIn (K w) mainGlobals x = some (some v))
    (hk : env.scope.kind = .function) (hx : env.kindOf x = some .globalImplicit) (hg : env.globals = mainGlobals) (hd : (x == ("__debug__" : Str)) = false := by decide) :
    GV prog w A h (eval (.Name x pos) env) v := fun s E hs => by
  refine el1_1 S.g fun mg G => ?_
  exact Name_function_global hk hx (loadGlobal_global (env := env) (hg ▸ G.keeps hs) (mg_of S.X G e) ⟨rfl, keeps_refl s⟩) hd
theorem g_call1 {x p e pos id} {R1 R : Value → Heap → Prop} (f : GV prog w A h (eval (.Name x p) env) (.builtin id)) (a : Gives prog w A h (eval e env) R1)
    (c : ∀ v h', Kp h h' → R1 v h' → Gives prog w A h' (call (.builtin id) [v]) R) (hs : starEach [e] env = [(false, eval e env)] := by rfl) :
    Gives prog w A h (eval (.Call (.Name x p) [e] [] pos) env) R := fun s E hk =>
  PyProof.Rows.Call_Name1 (wpAny_mono (f s E hk) (fun v s1 z => by
    refine el0_2 z fun r1_ t2_ => ?_
    try clear z
    revert t2_
    intro z
    obtain rfl := r1_
    refine PySem.callWith_builtin1 (wpAny_mono (a s1 E (hk.trans (keeps_kp z))) (fun v s2 y => ?_) fun _ _ e => e)
    exact wpAny_mono (c v s2.heap ((hk.trans (keeps_kp z)).trans (keeps_kp y.2)) y.1 s2 E (Kp.refl _)) (fun v s3 x => ⟨x.1, keeps_trans z (keeps_trans y.2 x.2)⟩) fun _ _ e => e) fun _ _ e => e) hs
theorem g_call1t {x p e pos T} {R1 R : Value → Heap → Prop} (f : GV prog w A h (eval (.Name x p) env) (.type T)) (a : Gives prog w A h (eval e env) R1)
    (c : ∀ v h', Kp h h' → R1 v h' → Gives prog w A h' (call (.type T) [v]) R) (hs : starEach [e] env = [(false, eval e env)] := by rfl) :
    Gives prog w A h (eval (.Call (.Name x p) [e] [] pos) env) R := fun s E hk =>
  PyProof.Rows.Call_Name1 (wpAny_mono (f s E hk) (fun v s1 z => by
    refine el0_2 z fun r3_ t4_ => ?_
    try clear z
    revert t4_
    intro z
    obtain rfl := r3_
    refine PySem.callWith_type1 (wpAny_mono (a s1 E (hk.trans (keeps_kp z))) (fun v s2 y => ?_) fun _ _ e => e)
    exact wpAny_mono (c v s2.heap ((hk.trans (keeps_kp z)).trans (keeps_kp y.2)) y.1 s2 E (Kp.refl _)) (fun v s3 x => ⟨x.1, keeps_trans z (keeps_trans y.2 x.2)⟩) fun _ _ e => e) fun _ _ e => e) hs
theorem g_call2t {x p e1 e2 pos T} {R1 R2 R : Value → Heap → Prop} (f : GV prog w A h (eval (.Name x p) env) (.type T)) (a : Gives prog w A h (eval e1 env) R1) (b : Gives prog w A h (eval e2 env) R2)
    (m1 : ∀ v a b, Kp a b → R1 v a → R1 v b)
    (c : ∀ v u h', Kp h h' → R1 v h' → R2 u h' → Gives prog w A h' (call (.type T) [v, u]) R) (hs : starEach [e1, e2] env = [(false, eval e1 env), (false, eval e2 env)] := by rfl) :
    Gives prog w A h (eval (.Call (.Name x p) [e1, e2] [] pos) env) R := fun s E hk =>
  PyProof.Rows.Call_Name2 (wpAny_mono (f s E hk) (fun v s1 z => by
    refine el0_2 z fun r5_ t6_ => ?_
    try clear z
    revert t6_
    intro z
    obtain rfl := r5_
    refine PySem.callWith_type rfl (Calls.evalArgs_plain (Calls.spliced_cons (wpAny_mono (a s1 E (hk.trans (keeps_kp z))) (fun v s2 y => ?_) fun _ _ e => e)))
    refine Calls.spliced_cons (wpAny_mono (b s2 E ((hk.trans (keeps_kp z)).trans (keeps_kp y.2))) (fun u s3 y' => ?_) fun _ _ e => e)
    refine Calls.spliced_nil ?_
    exact wpAny_mono (c v u s3.heap (((hk.trans (keeps_kp z)).trans (keeps_kp y.2)).trans (keeps_kp y'.2)) (m1 _ _ _ (keeps_kp y'.2) y.1) y'.1 s3 E (Kp.refl _)) (fun v s4 x => ⟨x.1, keeps_trans z (keeps_trans y.2 (keeps_trans y'.2 x.2))⟩) fun _ _ e => e) fun _ _ e => e) hs
theorem toks_keeps (s : Shared) (t : Nat) : Keeps s { s with toks := t } := ⟨s.heap, t, rfl, fun _ _ e => e⟩
theorem gi_len {x p e pos l} {items : Array Value} (f : GV prog w A h (eval (.Name x p) env) (.builtin "len")) (a : GV prog w A h (eval e env) (.ref l)) (hl : h.IsList l items) (hz : items.size < 2 ^ 60)
    (hs : starEach [e] env = [(false, eval e env)] := by rfl) : GI prog w A h (eval (.Call (.Name x p) [e] [] pos) env) items.size :=
  g_call1 f a (fun v h' hk hv => by
    subst hv
    exact fun s E hs => call_len_list (hl.at fun o e => hs _ _ (hk _ _ e)) (by lia) ⟨⟨_, rfl⟩, toks_keeps s _⟩) hs
theorem gi_lenT {x p e pos l} {items : Array Value} (f : GV prog w A h (eval (.Name x p) env) (.builtin "len")) (a : GV prog w A h (eval e env) (.ref l)) (hl : IsTup h l items) (hz : items.size < 2 ^ 60)
    (hs : starEach [e] env = [(false, eval e env)] := by rfl) : GI prog w A h (eval (.Call (.Name x p) [e] [] pos) env) items.size :=
  g_call1 f a (fun v h' hk hv => by
    subst hv
    exact fun s E hs => len_tuple (hl.keeps (hk.trans hs)) (by lia) ⟨⟨_, rfl⟩, toks_keeps s _⟩) hs
theorem g_item {value slice pos l k v} {items : Array Value} (a : GV prog w A h (eval value env) (.ref l)) (b : GI prog w A h (eval slice env) k) (hl : h.IsList l items) (h0 : 0 ≤ k) (hhi : k < 2 ^ 60) (hx : items[k.toNat]? = some v)
    (hsl : ∀ o i, subscripted slice false o i = operate [o, i] (getItem o i)) :
    GV prog w A h (eval (.Subscript value slice pos) env) v := fun s E hs =>
  Subscript_ (wpAny_mono (a s E hs) (fun o s1 z => by
    refine el0_2 z fun r7_ t8_ => ?_
    try clear z
    revert t8_
    intro z
    obtain rfl := r7_
    refine wpAny_mono (b s1 E (hs.trans (keeps_kp z))) (fun i s2 y => ?_) fun _ _ e => e
    refine el0_2 y fun q9_ t10_ => ?_
    try clear y
    revert t10_
    intro y
    refine el1_1 q9_ fun t r11_ => ?_
    try clear q9_
    obtain rfl := r11_
    have hl' : s2.heap.IsList l items := hl.at fun o e => keeps_kp y _ _ (keeps_kp z _ _ (hs _ _ e))
    exact tail_any hl'.typeIs slot_list_getitem.lookup (wpAny_getItem_list hl' h0 (by lia) hx ⟨rfl, keeps_trans z y⟩) (hsl _ _)) fun _ _ e => e)
end
end Mine
end
section
open PySem PySem.Calls PySem.W PyProof.Rows
set_option maxRecDepth 100000
set_option genInjectivity false
set_option genSizeOf false
set_option genSizeOfSpec false
namespace Mine
noncomputable abbrev testsOf (ifs : List Expr) (env : Env) : Sem Bool :=
  forIn ifs true fun c r => if r = true then do let ok ← isTrue c env (eval c env); pure (ForInStep.yield ok) else pure (ForInStep.yield r)
section
variable {prog : Program} {w : World} {A : Around}
noncomputable def TurnRule (prog : Program) (w : World) (A : Around) (e : Expr) (d : Nat) (it acc : Value) (env : Env) (target : Expr) (ifs : List Expr) (act : (Shared → Prop) → (Value → Shared → Prop) → Shared → Prop) : Prop :=
  ∀ (s : Shared) (Q : PySem.Fin → Shared → Prop) (E : Value → Shared → Prop),
    wpAny (model prog w) A (pyNext it) (fun r s₁ => match r with
      | none => Q (.done .next) s₁
      | some v => wpAny (model prog w) A (letOwnedTupleGo target it v) (fun _ s₀ => wpAny (model prog w) A (assign target env v) (fun _ s₂ => wpAny (model prog w) A (testsOf ifs env) (fun ok s₃ =>
          if ok = true then act (fun s₄ => Q (.again (.compLoop e d it acc env)) s₄) E s₃ else Q (.again (.compLoop e d it acc env)) s₃) E s₂) E s₀) E s₁) E s →
    wpAny (model prog w) A (compTurn e d it acc env) Q E s
theorem gives_tests_nil {h : Heap} {env : Env} : Gives prog w A h (testsOf [] env) (fun b _ => b = true) := fun s E hs => wpAny_tests_nil ⟨rfl, keeps_refl s⟩
theorem gives_tests_one {h : Heap} {env : Env} {c : Expr} {b : Bool} (x : GB prog w A h (isTrue c env (eval c env)) b) : Gives prog w A h (testsOf [c] env) (fun r _ => r = b) := fun s E hs => wpAny_tests_one (x s E hs)
inductive All2 {α β : Type} (F : α → β → Prop) : List α → List β → Prop
  | nil : All2 F [] []
  | cons {a b l m} : F a b → All2 F l m → All2 F (a :: l) (b :: m)
theorem All2.snoc {α β : Type} {F : α → β → Prop} {a : α} {b : β} {l : List α} {m : List β} (x : All2 F l m) (h : F a b) : All2 F (l ++ [a]) (m ++ [b]) := by
  induction x with
  | nil => exact .cons h .nil
  | cons h1 _ ih => exact .cons h1 ih
theorem All2.mono {α β : Type} {F G : α → β → Prop} (hm : ∀ a b, F a b → G a b) {l : List α} {m : List β} (x : All2 F l m) : All2 G l m := by
  induction x with
  | nil => exact .nil
  | cons h _ ih => exact .cons (hm _ _ h) ih
theorem All2.length {α β : Type} {F : α → β → Prop} {l : List α} {m : List β} (x : All2 F l m) : l.length = m.length := by
  induction x with
  | nil => rfl
  | cons _ _ ih => exact congrArg Nat.succ ih
theorem All2.flat_len {α β : Type} {F : α → List β → Prop} {B : Nat} (hB : ∀ a z, F a z → z.length ≤ B) {l : List α} {m : List (List β)} (x : All2 F l m) : m.flatten.length ≤ l.length * B := by
  induction x with
  | nil => exact Nat.zero_le _
  | cons h _ ih =>
    (refine rwR List.flatten_cons ?_; refine rwR List.length_append ?_; refine rwR List.length_cons ?_; refine rwR (Nat.succ_mul _ _) ?_; refine rwR (Nat.add_comm _ _) ?_)
    exact Nat.add_le_add ih (hB _ _ h)
theorem loop_comp {elt : Expr} {gens : List Comprehension} {scope : Scope} {pos : Pos} {d : Nat} {env : Env} {target : Expr} {ifs : List Expr} {act : (Shared → Prop) → (Value → Shared → Prop) → Shared → Prop} {I D : Addr} {fp wr own : List Addr} {n : Nat} {P : Nat → Value → Prop} {St : Nat → Heap → Prop}
    {R : Result → Shared → Prop} {s : Shared} {Inv : Heap → Prop} {Bound : Value → Heap → Prop} {ys₀ : List Value} {B : Nat}
    (T : TurnRule prog w A (.ListComp elt gens scope pos) d (.ref I) (.ref D) env target ifs act) (W : Walks prog w A I fp wr n P St) (p : Value → Bool) (Out : Value → List Value → Heap → Prop)
    (hB : ∀ v zs h, Out v zs h → zs.length ≤ B) (wlive : ∀ i h, St i h → ∀ b ∈ wr, ∃ o, h.get? b = some o)
    (hDo : D ∉ own) (hDf : D ∉ fp) (hof : ∀ b ∈ own, b ∉ fp)
    (inv_frame : ∀ h h', Inv h → (∀ b ∈ own, ∀ o, h.get? b = some o → h'.get? b = some o) → Inv h')
    (bound_frame : ∀ v h h', Bound v h → (∀ b ∈ own, ∀ o, h.get? b = some o → h'.get? b = some o) → Bound v h')
    (out_frame : ∀ v zs h h', Out v zs h → (∀ b o, b ∉ own → b ∉ wr → b ≠ D → h.get? b = some o → h'.get? b = some o) → Out v zs h')
    (hst : St 0 s.heap) (hacc : s.heap.PlainList D ys₀.toArray) (hinv : Inv s.heap)
    (hassign : ∀ i v (s₁ : Shared) (E : Value → Shared → Prop) (Q : Unit → Shared → Prop), P i v → Inv s₁.heap → St (i + 1) s₁.heap → (∀ b o, b ∉ own → b ∉ wr → b ≠ D → s.heap.get? b = some o → s₁.heap.get? b = some o) →
      (∀ h' tk, Inv h' → Bound v h' → (∀ b o, b ∉ own → s₁.heap.get? b = some o → h'.get? b = some o) → Q () { s₁ with heap := h', toks := tk }) → wpAny (model prog w) A (letOwnedTupleGo target (.ref I) v) (fun _ s₀ => wpAny (model prog w) A (assign target env v) Q E s₀) E s₁)
    (htests : ∀ i v h', P i v → Bound v h' → (∀ b o, b ∉ own → b ∉ wr → b ≠ D → s.heap.get? b = some o → h'.get? b = some o) → Gives prog w A h' (testsOf ifs env) (fun ok _ => ok = p v))
    (hact : ∀ i v (s₂ : Shared) ys (E : Value → Shared → Prop) (Q : Shared → Prop), P i v → i < n → ys.length ≤ ys₀.length + i * B → (∀ b ∈ wr, ∃ o, s₂.heap.get? b = some o) → p v = true → Bound v s₂.heap → Inv s₂.heap → (∀ b o, b ∉ own → b ∉ wr → b ≠ D → s.heap.get? b = some o → s₂.heap.get? b = some o) →
      s₂.heap.PlainList D (List.toArray ys) →
      (∀ h' tk zs, h'.PlainList D (List.toArray (ys ++ zs)) → Out v zs h' → Inv h' → (∀ b o, b ∉ own → b ≠ D → s₂.heap.get? b = some o → h'.get? b = some o) → Q { s₂ with heap := h', toks := tk }) →
      act Q E s₂)
    (hR : ∀ h' tk (vs : List Value) (zss : List (List Value)), h'.PlainList D (List.toArray (ys₀ ++ zss.flatten)) → Inv h' → vs.length = n → (∀ j v, vs[j]? = some v → P j v) → All2 (fun v zs => Out v zs h') (vs.filter p) zss →
      (∀ b o, b ∉ own → b ∉ wr → b ≠ D → s.heap.get? b = some o → h'.get? b = some o) → R (.ok .next) { s with heap := h', toks := tk }) :
    codeAny (model prog w) A (.compLoop (.ListComp elt gens scope pos) d (.ref I) (.ref D) env) R s := by
  refine codeAny_loop rfl (fun k s' => ∃ h' tk, ∃ vs : List Value, ∃ zss : List (List Value), s' = { s with heap := h', toks := tk } ∧ St vs.length h' ∧ h'.PlainList D (List.toArray (ys₀ ++ zss.flatten)) ∧ Inv h' ∧
    (∀ j v, vs[j]? = some v → P j v) ∧ All2 (fun v zs => Out v zs h') (vs.filter p) zss ∧ vs.length ≤ n ∧ k = n + 1 - vs.length ∧ (∀ b o, b ∉ own → b ∉ wr → b ≠ D → s.heap.get? b = some o → h'.get? b = some o)) ?_ (n + 1)
    ⟨s.heap, s.toks, [], [], rfl, hst, by simpa using hacc, hinv, by simp, .nil, Nat.zero_le _, rfl, fun _ _ _ _ _ e => e⟩
  intro k s' z1_
  refine el4_9 z1_ fun H tk vs zss r2_ hst' hacc' hinv' hP hF hi r3_ hk => ?_
  try clear z1_
  obtain rfl := r2_
  obtain rfl := r3_
  show wpAny _ A ((compTurn (.ListComp elt gens scope pos) d (.ref I) (.ref D) env).onRaise (fun x => do noteFrame x env; theTreesLotGoes x)) _ _ _
  refine wpAny_noted (T _ _ _ ?_)
  have how : ∀ b ∈ own, b ∉ wr := fun b hb h => hof b hb (W.sub _ h)
  have hDw : D ∉ wr := fun h => hDf (W.sub _ h)
  by_cases hlt : vs.length < n
  · refine W.item vs.length _ _ _ hlt hst' fun v h₁ tk₁ hPv hst₁ hk₁ => ?_
    have inv₁ : Inv h₁ := inv_frame _ _ hinv' fun b hb o e => hk₁ b o (how b hb) e
    refine hassign vs.length v _ _ _ hPv inv₁ hst₁ (fun b o h1 h2 h3 e => hk₁ b o h2 (hk b o h1 h2 h3 e)) fun h₂ tk₂ inv₂ bd₂ hk₂ => ?_
    have KB₂ : ∀ b o, b ∉ own → b ∉ wr → b ≠ D → s.heap.get? b = some o → h₂.get? b = some o := fun b o h1 h2 h3 e => hk₂ b o h1 (hk₁ b o h2 (hk b o h1 h2 h3 e))
    have st₂ : St (vs.length + 1) h₂ := W.frame _ _ _ hst₁ fun b hb o e => hk₂ b o (fun h => hof b h hb) e
    have acc₂ : h₂.PlainList D (List.toArray (ys₀ ++ zss.flatten)) := hacc'.at fun o e => hk₂ _ o hDo (hk₁ _ o hDw e)
    refine (htests vs.length v h₂ hPv bd₂ KB₂).use (Kp.refl _) fun ok h₃ tk₃ hk₃ hok => ?_
    subst hok
    have hP' : ∀ j u, (vs ++ [v])[j]? = some u → P j u := fun j u hj => by
      refine Or.elim (Nat.lt_trichotomy j vs.length) (fun h => ?_) fun zo0 => Or.elim zo0 (fun h => ?_) fun h => ?_
      · exact hP j u (by rwa [List.getElem?_append_left h] at hj)
      · subst h; simp at hj; subst hj; exact hPv
      · have hnone : (vs ++ [v])[j]? = none := List.getElem?_eq_none (by (refine rwR List.length_append ?_; refine rwR List.length_singleton ?_); lia)
        (exact nosome (hnone) hj)
    have KB₃ : ∀ b o, b ∉ own → b ∉ wr → b ≠ D → s.heap.get? b = some o → h₃.get? b = some o := fun b o h1 h2 h3 e => hk₃ b o (KB₂ b o h1 h2 h3 e)
    have inv₃ : Inv h₃ := inv_frame _ _ inv₂ fun b _ o e => hk₃ b o e
    have up₃ : ∀ b o, b ∉ own → b ∉ wr → b ≠ D → H.get? b = some o → h₃.get? b = some o := fun b o h1 h2 _ e => hk₃ b o (hk₂ b o h1 (hk₁ b o h2 e))
    have F₃ : All2 (fun v zs => Out v zs h₃) (vs.filter p) zss := hF.mono fun a b x => out_frame _ _ _ _ x up₃
    cases hpv : p v with
    | false =>
      (refine rwR (if_neg (by simp)) ?_)
      refine ⟨rfl, n + 1 - (vs.length + 1), by (exact Nat.sub_lt_sub_left (Nat.lt_succ_of_lt (by assumption)) (Nat.lt_succ_self _)), h₃, tk₃, vs ++ [v], zss, rfl, by simpa using W.frame _ _ _ st₂ fun b _ o e => hk₃ b o e, acc₂.at fun o e => hk₃ _ o e, inv₃, hP', ?_, by (refine rwR List.length_append ?_; refine rwR List.length_singleton ?_); exact hlt, by (refine rwR List.length_append ?_; refine rwR List.length_singleton ?_; with_reducible rfl), KB₃⟩
      (refine rwR (List.filter_append _ _) ?_); simpa [hpv] using F₃
    | true =>
      (refine rwR (if_pos rfl) ?_)
      have hlen : (ys₀ ++ zss.flatten).length ≤ ys₀.length + vs.length * B := by
        have h1 := hF.flat_len (B := B) fun a z => hB a z _
        have h2 : (vs.filter p).length ≤ vs.length := List.length_filter_le _ _
        have h3 := Nat.mul_le_mul_right B h2
        (refine rwR List.length_append ?_); lia
      refine hact vs.length v _ (ys₀ ++ zss.flatten) _ _ hPv hlt hlen (fun b hb => let ⟨o, ho⟩ := wlive _ _ st₂ b hb; ⟨o, hk₃ _ _ ho⟩) hpv (bound_frame _ _ _ bd₂ fun b _ o e => hk₃ b o e) inv₃ KB₃ (acc₂.at fun o e => hk₃ _ o e) fun h₄ tk₄ zs acc₄ out₄ inv₄ hk₄ => ?_
      refine ⟨rfl, n + 1 - (vs.length + 1), by (exact Nat.sub_lt_sub_left (Nat.lt_succ_of_lt (by assumption)) (Nat.lt_succ_self _)), h₄, tk₄, vs ++ [v], zss ++ [zs], rfl, ?_, by simpa using acc₄, inv₄, hP', ?_, by (refine rwR List.length_append ?_; refine rwR List.length_singleton ?_); exact hlt, by (refine rwR List.length_append ?_; refine rwR List.length_singleton ?_; with_reducible rfl), fun b o h1 h2 h3 e => hk₄ b o h1 h3 (KB₃ b o h1 h2 h3 e)⟩
      · have := W.frame _ _ h₄ st₂ fun b hb o e => hk₄ b o (fun h => hof b h hb) (fun h => hDf (h ▸ hb)) (hk₃ b o e)
        simpa using this
      · (refine rwR (List.filter_append _ _) ?_)
        have : All2 (fun v zs => Out v zs h₄) (vs.filter p ++ [v]) (zss ++ [zs]) := (F₃.mono fun a b x => out_frame _ _ _ _ x fun b o h1 _ h3 e => hk₄ b o h1 h3 e).snoc out₄
        simpa [hpv] using this
  · have hin : vs.length = n := by (exact Nat.le_antisymm (by assumption) (Nat.le_of_not_lt (by assumption)))
    refine W.done _ _ _ (hin ▸ hst') fun h₁ tk₁ hk₁ => ?_
    refine hR h₁ tk₁ vs zss (hacc'.at fun o e => hk₁ _ o hDw e) (inv_frame _ _ hinv' fun b hb o e => hk₁ b o (how b hb) e) hin hP (hF.mono fun a b x => out_frame _ _ _ _ x fun b o _ h2 _ e => hk₁ b o h2 e) fun b o h1 h2 h3 e => hk₁ b o h2 (hk b o h1 h2 h3 e)
noncomputable def emitAct (prog : Program) (w : World) (A : Around) (elt : Expr) (acc : Value) (env : Env) (Q : Shared → Prop) (E : Value → Shared → Prop) (s : Shared) : Prop :=
  wpAny (model prog w) A (eval elt env) (fun x s₄ => wpAny (model prog w) A (call (.builtin "list.append") [acc, x]) (fun _ s₅ => Q s₅) E s₄) E s
noncomputable def innerAct (prog : Program) (w : World) (A : Around) (e : Expr) (d : Nat) (iter : Expr) (acc : Value) (env : Env) (Q : Shared → Prop) (E : Value → Shared → Prop) (s : Shared) : Prop :=
  wpAny (model prog w) A (eval iter env) (fun x s₄ => wpAny (model prog w) A (pyIter x) (fun it s₅ => codeAny (model prog w) A (.compStart e d it acc env) (fun r s₆ => match r with
    | .ok _ => Q s₆
    | .error e => cameBackBy (model prog w) A env E e s₆) s₅) E s₄) E s
theorem turn_last {elt target iter : Expr} {ifs : List Expr} {gens : List Comprehension} {scope : Scope} {pos : Pos} {d : Nat} {it acc : Value} {env : Env}
    (hT : compTurn (.ListComp elt gens scope pos) d it acc env = (do
      standAt iter.pos
      match ← pyNext it with
      | none => pure (.done .next)
      | some v =>
        letOwnedTupleGo target it v
        assign target env v
        let mut ok := true
        for c in ifs do
          if ok then ok ← isTrue c env (eval c env)
        if ok then
          (do let _ ← call (.builtin "list.append") [acc, ← eval elt env])
        again (.compLoop (.ListComp elt gens scope pos) d it acc env))) :
    TurnRule prog w A (.ListComp elt gens scope pos) d it acc env target ifs (emitAct prog w A elt acc env) := fun s Q E h => by
  (refine rwR hT ?_)
  refine wpAny_bind (wpAny_standAt (wpAny_bind (wpAny_mono h (fun r s₁ h₁ => ?_) fun _ _ h' => h')))
  cases r with
  | none => exact wpAny_pure h₁
  | some v =>
    refine wpAny_bind (wpAny_mono h₁ (fun _ s' h₁ => ?_) fun _ _ h' => h')
    refine wpAny_bind (wpAny_mono h₁ (fun _ s₂ h₂ => wpAny_bind (wpAny_mono h₂ (fun ok s₃ h₃ => ?_) fun _ _ h' => h')) fun _ _ h' => h')
    cases ok with
    | false => exact wpAny_pure h₃
    | true => exact wpAny_bind (wpAny_bind (wpAny_mono h₃ (fun x s₄ h₄ => wpAny_bind (wpAny_mono h₄ (fun _ s₅ h₅ => wpAny_pure (wpAny_pure h₅)) fun _ _ h' => h')) fun _ _ h' => h'))
theorem turn_inner {elt target iter iter' : Expr} {ifs : List Expr} {gens : List Comprehension} {scope : Scope} {pos : Pos} {d : Nat} {it acc : Value} {env : Env}
    (hT : compTurn (.ListComp elt gens scope pos) d it acc env = (do
      standAt iter.pos
      match ← pyNext it with
      | none => pure (.done .next)
      | some v =>
        letOwnedTupleGo target it v
        assign target env v
        let mut ok := true
        for c in ifs do
          if ok then ok ← isTrue c env (eval c env)
        if ok then
          let x ← eval iter' env
          standAt iter'.pos
          let x ← foldedSetIterable iter' env x
          let _ ← runOwn (.compStart (.ListComp elt gens scope pos) (d + 1) (← holding [x] (pyIter x)) acc env) env
        again (.compLoop (.ListComp elt gens scope pos) d it acc env)))
    (hs : ∀ x, foldedSetIterable iter' env x = pure x) :
    TurnRule prog w A (.ListComp elt gens scope pos) d it acc env target ifs (innerAct prog w A (.ListComp elt gens scope pos) (d + 1) iter' acc env) := fun s Q E h => by
  (refine rwR hT ?_)
  refine wpAny_bind (wpAny_standAt (wpAny_bind (wpAny_mono h (fun r s₁ h₁ => ?_) fun _ _ h' => h')))
  cases r with
  | none => exact wpAny_pure h₁
  | some v =>
    refine wpAny_bind (wpAny_mono h₁ (fun _ s' h₁ => ?_) fun _ _ h' => h')
    refine wpAny_bind (wpAny_mono h₁ (fun _ s₂ h₂ => wpAny_bind (wpAny_mono h₂ (fun ok s₃ h₃ => ?_) fun _ _ h' => h')) fun _ _ h' => h')
    cases ok with
    | false => exact wpAny_pure h₃
    | true =>
      refine wpAny_bind (wpAny_mono h₃ (fun x s₄ h₄ => wpAny_bind (wpAny_standAt (wpAny_bind (wpAny_of_eq (hs x) ?_)))) fun _ _ h' => h')
      refine wpAny_bind (wpAny_holding (wpAny_mono h₄ (fun it' s₅ h₅ => wpAny_bind (wpAny_runOwn (codeAny_mono h₅ fun r s₆ h₆ => ?_))) fun _ _ h' => h'))
      cases r with
      | ok f => exact wpAny_pure h₆
      | error e => exact h₆
end
end Mine
end
section
open PySem PySem.Calls PySem.W PyProof.Rows
set_option maxRecDepth 100000
set_option genInjectivity false
set_option genSizeOf false
set_option genSizeOfSpec false
namespace Mine
section
variable {prog : Program} {w : World} {A : Around}
noncomputable def PlainIt (I : Addr) (h : Heap) : Prop := ∃ o T, h.get? I = some o ∧ o.cls = .type T ∧ ["enumerate", "zip", "dict_itemiterator", "dict_reverseitemiterator", "odict_iterator", "itertools.zip_longest", "itertools.pairwise"].contains T = false
theorem letOwned_plain {target : Expr} {I : Addr} {v : Value} {s : Shared} {E : Value → Shared → Prop} {Q : Unit → Shared → Prop} (hp : PlainIt I s.heap) (h : Q () s) : wpAny (model prog w) A (letOwnedTupleGo target (.ref I) v) Q E s := by
  refine el2_3 hp fun q1_ T ho hc hT => ?_
  try clear hp
  obtain ⟨c, dd, dt, sl⟩ := q1_
  try clear q1_
  have hc : c = .type T := hc
  subst hc
  cases target
  all_goals try exact wpAny_pure h
  all_goals
    cases v
    all_goals try exact wpAny_pure h
    refine wpAny_bind (wpAny_load ho ?_)
    cases dt
    all_goals try exact wpAny_pure h
    dsimp only
    (refine rwR hT ?_)
    exact wpAny_pure h
noncomputable def ItrS (prog : Program) (w : World) (A : Around) (h : Heap) (x : Value) (n : Nat) (P : Nat → Value → Prop) (src : List Addr) : Prop :=
  ∀ (s : Shared) (E : Value → Shared → Prop) (Q : Value → Shared → Prop), Kp h s.heap →
    (∀ I fp wr St h' tk, Walks prog w A I fp wr n P St → St 0 h' → Kp s.heap h' → (∀ b ∈ fp, b < h'.objs.size) → (∀ b ∈ fp, s.heap.get? b = none ∨ b ∈ src) → (∀ b ∈ wr, s.heap.get? b = none) → (∀ i h, St i h → ∀ b ∈ fp, ∃ o, h.get? b = some o) → (∀ i h, St i h → PlainIt I h) → Q (.ref I) { s with heap := h', toks := tk }) →
    wpAny (model prog w) A (pyIter x) Q E s
noncomputable def Itr (prog : Program) (w : World) (A : Around) (h : Heap) (x : Value) (n : Nat) (P : Nat → Value → Prop) : Prop := ∃ src, ItrS prog w A h x n P src
theorem kp_size {h h' : Heap} {o : Obj} (b : Addr) (e : h.get? b = some o) : b < h.objs.size := Heap.lt_size e
theorem layEnv {scope : Scope} {cl : List (Str × Addr)} {env : Env} {s : Shared} {E : Value → Shared → Prop} {Q : Env → Shared → Prop}
    (h : Q { scope := scope, locals := s.heap.objs.size, globals := env.globals, cells := cellsFrom (s.heap.objs.size + 1) scope.names cl, qual := env.qual, func := none, code := env.code, frame := env.frame, builtins := env.builtins }
      { s with heap := pushCells (s.heap.push { cls := .type "dict", data := .dict #[] }) scope.names }) :
    wpAny (model prog w) A (newFunctionEnv scope env.globals cl [] env.qual none .none (some env)) Q E s := by
  unfold newFunctionEnv
  refine wpAny_bind (wpAny_alloc ?_)
  refine wpAny_bind (wpAny_layCells _ (fun name kind cells => ?_) scope.names cl _ _ ?_)
  · cases kind <;> rfl
  · have e : (s.heap.push { cls := .type (if (some env).isSome = true then "dict" else "frame"), data := .dict #[] }).objs.size = s.heap.objs.size + 1 := Heap.size_push ..
    show wpAny (model prog w) A (let cells := cellsFrom (s.heap.push { cls := .type (if (some env).isSome = true then "dict" else "frame"), data := .dict #[] }).objs.size scope.names cl; _) _ _ _
    (refine rwR e ?_)
    exact wpAny_bind (wpAny_pure (wpAny_pure h))
noncomputable def CompRun (prog : Program) (w : World) (A : Around) (h : Heap) (elt iter : Expr) (gens : List Comprehension) (scope : Scope) (pos : Pos) (cl : List (Str × Addr)) (env : Env) (Res : List Value → Heap → Prop) : Prop :=
  ∀ (s : Shared) (E : Value → Shared → Prop) (RR : Value → Addr → Result → Shared → Prop), Kp h s.heap →
    (∀ D C h' tk vs, s.heap.get? D = none → s.heap.get? C = none → D ≠ C → (∃ m, h'.Ns C m) → Kp s.heap h' →
      (∀ h'', (∀ b o, b ≠ C → s.heap.get? b = none → h'.get? b = some o → h''.get? b = some o) → h''.PlainList D (List.toArray vs) ∧ Res vs h'') → RR (.ref D) C (.ok .next) { s with heap := h', toks := tk }) →
    wpAny (model prog w) A (eval iter env) (fun x s₁ => wpAny (model prog w) A (pyIter x) (fun it s₂ => wpAny (model prog w) A (newList []) (fun acc s₃ =>
      wpAny (model prog w) A (newFunctionEnv scope env.globals cl [] env.qual none .none (some env)) (fun cenv s₄ =>
        codeAny (model prog w) A (.compStart (.ListComp elt gens scope pos) 0 it acc { cenv with scope := relabel scope env }) (RR acc cenv.locals) s₄) E s₃) E s₂) E s₁) E s
theorem comp_core {env : Env} {scope : Scope} {cl : List (Str × Addr)} {elt target iter : Expr} {ifs : List Expr} {rest : List Comprehension} {pos : Pos} {h : Heap} {Rit : Value → Heap → Prop} {n : Nat} {P : Value → Heap → Nat → Value → Prop} {Res : List Value → Heap → Prop}
    (hit : Gives prog w A h (eval iter env) Rit) (hI : ∀ x h1, Kp h h1 → Rit x h1 → Itr prog w A h1 x n (P x h1))
    (hloop : ∀ x h1 (s₄ : Shared) I D C fp wr St, Kp h h1 → Rit x h1 → Walks prog w A I fp wr n (P x h1) St → St 0 s₄.heap → Kp h1 s₄.heap → (∀ b, D ≤ b → h1.get? b = none) → C = D + 1 → s₄.heap.PlainList D #[] → (∀ b ∈ fp, b < D) → (∀ b ∈ wr, h1.get? b = none) → (∀ i h, St i h → ∀ b ∈ wr, ∃ o, h.get? b = some o) → (∀ i h, St i h → PlainIt I h) →
      s₄.heap.Ns C (fun _ => none) → CellsOk s₄.heap (C + 1) (cellsFrom (C + 1) scope.names []) →
      codeAny (model prog w) A (.compLoop (.ListComp elt (⟨target, iter, ifs, 0⟩ :: rest) scope pos) 0 (.ref I) (.ref D) (compEnvC scope (cellsFrom (C + 1) scope.names cl) C env))
        (fun r s' => match r with
          | .ok .next => ∃ h' tk vs, s' = { s₄ with heap := h', toks := tk } ∧ (∃ m, h'.Ns C m) ∧ Kp h1 h' ∧ ∀ h'', (∀ b o, b ≠ C → h1.get? b = none → h'.get? b = some o → h''.get? b = some o) → h''.PlainList D (List.toArray vs) ∧ Res vs h''
          | _ => False) s₄) :
    CompRun prog w A h elt iter (⟨target, iter, ifs, 0⟩ :: rest) scope pos cl env Res := fun s E RR hsk hRR => by
  refine hit.use hsk fun x h1 t1 hk1 hx => ?_
  refine el1_1 (hI x h1 (hsk.trans hk1) hx) fun src hIS => ?_
  refine hIS _ _ _ (Kp.refl _) fun I fp wr St h2 t2 W st0 hk2 hfp _ hwr hlive hpl => ?_
  refine wpAny_newObj_type ?_
  refine layEnv ?_
  dsimp only
  generalize hH3 : h2.push { cls := .type "list", dict := none, data := .seq ([] : List Value).toArray } = h3
  have k23 : Kp h2 h3 := hH3 ▸ Kp.push h2 _
  have size3 : h3.objs.size = h2.objs.size + 1 := by (refine rwL hH3 ?_; refine rwR (Heap.size_push _ _) ?_; with_reducible rfl)
  have hD3 : h3.PlainList h2.objs.size #[] := ⟨0, by (refine rwL hH3 ?_); exact Heap.get?_push_size _ rfl⟩
  generalize hH4 : pushCells (h3.push { cls := .type "dict", data := .dict #[] }) scope.names = h4
  have k34 : Kp h3 h4 := fun b o e => by (refine rwL hH4 ?_); exact pushCells_keeps _ _ _ _ (Heap.get?_push_of_some _ e)
  have hN4 : h4.Ns h3.objs.size (fun _ => none) := by
    (refine rwL hH4 ?_)
    exact (Heap.Ns.new h3 _).keeps fun b o e => pushCells_keeps _ _ _ _ e
  have e3 : h3.objs.size = h2.objs.size + 1 := size3
  have none_of : ∀ b, h2.objs.size ≤ b → h1.get? b = none := fun b hb => by
    cases e : h1.get? b with
    | none => rfl
    | some o => exact absurd (Heap.lt_size (hk2 _ _ e)) (Nat.not_lt.mpr hb)
  have cells4 : CellsOk h4 (h3.objs.size + 1) (cellsFrom (h3.objs.size + 1) scope.names []) := by
    have := cellsFrom_ok scope.names (h3.push { cls := .type "dict", data := .dict #[] }) (h3.objs.size + 1) [] ⟨fun _ _ hm => (nomatch hm), .nil⟩ (by (refine rwR (Heap.size_push _ _) ?_); exact Nat.le_refl _)
    (replace this := hH4 ▸ this; replace this := (Heap.size_push _ _) ▸ this)
    exact this
  have st4 : St 0 h4 := W.frame _ _ _ st0 fun b _ o e => k34 b o (k23 b o e)
  have k14 : Kp h1 h4 := hk2.trans (k23.trans k34)
  have main := hloop x h1 { s with heap := h4, toks := t2 } I h2.objs.size h3.objs.size fp wr St (hsk.trans hk1) hx W st4 k14 none_of e3 (hD3.at fun o e => k34 _ o e) hfp hwr (fun i h st b hb => hlive i h st b (W.sub b hb)) hpl hN4 cells4
  have back : ∀ b, h1.get? b = none → s.heap.get? b = none := fun b hb => by
    cases e : s.heap.get? b with
    | none => rfl
    | some o => (exact nosome hb (hk1 _ _ e))
  have main' := codeAny_mono main (R' := RR (.ref h2.objs.size) h3.objs.size) fun r s' hr => by
    cases r with
    | error e => exact hr.elim
    | ok f =>
      cases f with
      | next =>
        refine el3_4 hr fun h' tk vs r2_ hm hkk hq => ?_
        try clear hr
        obtain rfl := r2_
        exact hRR _ _ h' tk vs (back _ (none_of _ (Nat.le_refl _))) (back _ (none_of _ (by (refine rwR e3 ?_); exact Nat.le_succ _))) (by (refine rwR e3 ?_); exact Nat.ne_of_lt (Nat.lt_succ_self _)) hm (hk1.trans hkk) fun h'' hb => hq h'' fun b o h1' h2' h3' => hb b o h1' (back _ h2') h3'
      | _ => exact hr.elim
  exact codeAny_compStart_list main' (W.self 0 _ _ _ st4 main')
theorem CompRun.gives {env : Env} {scope : Scope} {cl : List (Str × Addr)} {elt target iter : Expr} {ifs : List Expr} {rest : List Comprehension} {pos : Pos} {h : Heap} {Res : List Value → Heap → Prop}
    (C : CompRun prog w A h elt iter (⟨target, iter, ifs, 0⟩ :: rest) scope pos cl env Res)
    (hclos : closureFor scope env = pure cl) (hkind : scope.kind = .function) (hnames : ∀ y ∈ scope.names, y.2 = .local → scope.names.lookup y.1 = some .local)
    (hs : ∀ x, foldedSetIterable iter env x = pure x) :
    Gives prog w A h (eval (.ListComp elt (⟨target, iter, ifs, 0⟩ :: rest) scope pos) env) (fun v h' => ∃ D vs, v = .ref D ∧ h.get? D = none ∧ h'.PlainList D (List.toArray vs) ∧ Res vs h') := fun s E hsk => by
  rw [eval_ListComp]
  refine wpAny_comprehension_free (g := ⟨target, iter, ifs, 0⟩) (gs := rest) (use := none) rfl hs hclos hkind hnames ?_
  refine C s E (fun acc c => compPost (model prog w) A E none (fun v s' => (∃ D vs, v = .ref D ∧ h.get? D = none ∧ s'.heap.PlainList D (List.toArray vs) ∧ Res vs s'.heap) ∧ Keeps s s') acc c) hsk ?_
  intro D c h' tk vs hD hC hDC ⟨m, hm⟩ hk hq
  refine ⟨m, hm, fun h'' hsb => ?_⟩
  obtain ⟨q2, q3⟩ := hq h'' fun b o h1 _ h3 => hsb.extBut b o h1 h3
  refine ⟨⟨D, vs, rfl, ?_, q2, q3⟩, h'', tk, rfl, fun b o e => hsb.extBut b o (fun hx => by subst hx; (exact nosome (hC) e)) (hk b o e)⟩
  cases e : h.get? D with
  | none => rfl
  | some o => (exact nosome hD (hsk _ _ e))
theorem CompRun.assign {env : Env} {scope : Scope} {cl : List (Str × Addr)} {elt target iter : Expr} {ifs : List Expr} {rest : List Comprehension} {pos spos py : Pos} {y : Str} {h : Heap} {Res : List Value → Heap → Prop} {s : Shared} {E : Value → Shared → Prop} {Q : Flow → Shared → Prop} {m : Str → Option Value}
    (C : CompRun prog w A h elt iter (⟨target, iter, ifs, 0⟩ :: rest) scope pos cl env Res)
    (hsw : swapsWith (.ListComp elt (⟨target, iter, ifs, 0⟩ :: rest) scope pos) (some (.Name y py)) spos.line env = pure true)
    (hclos : closureFor scope env = pure cl) (hkind : scope.kind = .function) (hnames : ∀ y ∈ scope.names, y.2 = .local → scope.names.lookup y.1 = some .local)
    (hs : ∀ x, foldedSetIterable iter env x = pure x) (hy : env.kindOf y = some .local) (hp : (env.scope.kind == .class || (env.scope.kind == .module && env.locals != env.globals)) = false)
    (hk : Kp h s.heap) (hn : s.heap.Ns env.locals m)
    (k : ∀ D vs h' tk, s.heap.get? D = none → D ≠ env.locals → h'.PlainList D (List.toArray vs) → Res vs h' → h'.Ns env.locals (fun z => if z = y then some (.ref D) else m z) → (∀ b o, b ≠ env.locals → s.heap.get? b = some o → h'.get? b = some o) → Q .next { s with heap := h', toks := tk }) :
    wpAny (model prog w) A (exec (.Assign [.Name y py] (.ListComp elt (⟨target, iter, ifs, 0⟩ :: rest) scope pos) spos) env) Q E s := by
  (refine rwR (exec_Assign_Name_used _ _ _ _ hsw) ?_)
  refine wpAny_bind (wpAny_standAt (wpAny_bind ?_))
  show wpAny _ A (do let _ ← comprehension (.ListComp elt (⟨target, iter, ifs, 0⟩ :: rest) scope pos) scope env _ (newList []) false (eval iter env) (some (PySem.assign (.Name y py) env))) _ _ s
  refine wpAny_bind (wpAny_mono (wpAny_comprehension_free (g := ⟨target, iter, ifs, 0⟩) (gs := rest) (use := some (PySem.assign (.Name y py) env)) (Q := fun _ s' => Q .next s') rfl hs hclos hkind hnames
    (C s E (fun acc c => compPost (model prog w) A E (some (PySem.assign (.Name y py) env)) (fun _ s' => Q .next s') acc c) hk ?_)) (fun _ s' hq => wpAny_pure (wpAny_pure hq)) fun _ _ e => e)
  intro D c h' tk vs hD hC hDC ⟨mc, hmc⟩ hkk hq
  obtain ⟨oL, hoL⟩ : ∃ o, s.heap.get? env.locals = some o := by obtain ⟨o, _, _, ho, _⟩ := hn; exact ⟨o, ho⟩
  have hLC : env.locals ≠ c := by rintro rfl; (exact nosome (hC) hoL)
  have hLD : env.locals ≠ D := by rintro rfl; (exact nosome (hD) hoL)
  show wpAny _ A (PySem.assign (.Name y py) env (.ref D)) _ _ _
  refine wpAny_assign_Name (wpAny_storeName_local hy (hn.keeps hkk) (fun h₂ hn₂ hs₂ => ?_) hp)
  refine ⟨mc, hmc.sameBut hs₂ (Ne.symm hLC), fun h₃ hs₃ => ?_⟩
  obtain ⟨q2, q3⟩ := hq h₃ fun b o h1 h2 h3 => hs₃.extBut b o h1 (hs₂.extBut b o (fun hx => by subst hx; (exact nosome (h2) hoL)) h3)
  exact k D vs h₃ _ hD (Ne.symm hLD) q2 q3 (hn₂.sameBut hs₃ hLC) fun b o hb e => hs₃.extBut b o (by rintro rfl; (exact nosome (hC) e)) (hs₂.extBut b o hb (hkk b o e))
end
end Mine
end
section
open PySem PySem.Calls PySem.W PyProof.Rows
set_option maxRecDepth 100000
set_option genInjectivity false
set_option genSizeOf false
set_option genSizeOfSpec false
namespace Mine
noncomputable abbrev Made1 (h₀ : Heap) (F : Value → Value → List (Addr × Obj) → Prop) (v y : Value) (h : Heap) : Prop :=
  ∃ as : List (Addr × Obj), (∀ q ∈ as, h₀.get? q.1 = none ∧ h.get? q.1 = some q.2) ∧ F v y as
inductive MadeL (h₀ : Heap) (n : Nat) (P : Nat → Value → Prop) (p : Value → Bool) (F : Value → Value → List (Addr × Obj) → Prop) (ys : List Value) (h : Heap) : Prop
  | mk (vs : List Value) (h1 : vs.length = n) (h2 : ∀ j v, vs[j]? = some v → P j v) (h3 : All2 (fun v y => Made1 h₀ F v y h) (vs.filter p) ys) : MadeL h₀ n P p F ys h
theorem cellsFrom_none : ∀ (names : List (Str × NameKind)) (k : Nat) (cl : List (Str × Addr)), (∀ y ∈ names, y.2 ≠ .cell) → cellsFrom k names cl = cl
  | [], _, _, _ => rfl
  | (n, kd) :: r, k, cl, hn => by
    unfold cellsFrom
    have : (kd == NameKind.cell) = false := by
      have := hn (n, kd) (by simp)
      cases kd <;> first | rfl | exact absurd rfl this
    (refine rwR this ?_)
    exact cellsFrom_none r k cl fun y hy => hn y (by simp [hy])
theorem flatten_singles {α β : Type} {F : α → β → Prop} {l : List α} {zss : List (List β)} (x : All2 (fun v zs => ∃ y, zs = [y] ∧ F v y) l zss) : All2 F l zss.flatten := by
  induction x with
  | nil => exact .nil
  | cons h _ ih => obtain ⟨y, rfl, hy⟩ := h; exact .cons hy ih
section
variable {prog : Program} {w : World} {A : Around}
theorem list_append_gives {D : Addr} {ys : List Value} {y : Value} {s : Shared} {E : Value → Shared → Prop} {Q : Value → Shared → Prop} (hl : s.heap.PlainList D (List.toArray ys)) (hz : ys.length ≤ 1000000)
    (h : ∀ h', h'.PlainList D (List.toArray (ys ++ [y])) → Heap.SameBut D s.heap h' → Q .none { s with heap := h' }) : wpAny (model prog w) A (call (.builtin "list.append") [.ref D, y]) Q E s :=
  wpAny_list_append_plain (hsz := by (refine rwR List.size_toArray ?_; refine rwR sizeLine_eq ?_); (exact Nat.le_trans (by assumption) (by decide))) hl fun h' hl' hs' => h h' (by simpa using hl') hs'
theorem comp_one {env : Env} {scope : Scope} {cl : List (Str × Addr)} {elt target iter : Expr} {ifs : List Expr} {pos : Pos} {h : Heap} {Rit : Value → Heap → Prop} {n : Nat} {P : Nat → Value → Prop}
    (own : Addr → List Addr) (Inv : Addr → Heap → Prop) (Bound : Addr → Value → Heap → Prop)
    (hn : n ≤ 1000000)
    (hown : ∀ D, ∀ b ∈ own D, D + 1 ≤ b) (hownC : ∀ D, D + 1 ∈ own D)
    (inv0 : ∀ D h, h.Ns (D + 1) (fun _ => none) → CellsOk h (D + 1 + 1) (cellsFrom (D + 1 + 1) scope.names []) → Inv D h)
    (inv_ns : ∀ D h, Inv D h → ∃ m, h.Ns (D + 1) m) (inv_live : ∀ D h, Inv D h → ∀ b ∈ own D, ∃ o, h.get? b = some o)
    (inv_frame : ∀ D h h', Inv D h → (∀ b ∈ own D, ∀ o, h.get? b = some o → h'.get? b = some o) → Inv D h')
    (bound_frame : ∀ D v h h', Bound D v h → (∀ b ∈ own D, ∀ o, h.get? b = some o → h'.get? b = some o) → Bound D v h')
    (hassign : ∀ D i v (s₁ : Shared) (E : Value → Shared → Prop) (Q : Unit → Shared → Prop), P i v → Kp h s₁.heap → Inv D s₁.heap →
      (∀ h' tk, Inv D h' → Bound D v h' → (∀ b o, b ∉ own D → s₁.heap.get? b = some o → h'.get? b = some o) → Q () { s₁ with heap := h', toks := tk }) →
      wpAny (model prog w) A (assign target (compEnvC scope (cellsFrom (D + 1 + 1) scope.names cl) (D + 1) env) v) Q E s₁)
    (hit : Gives prog w A h (eval iter env) Rit) (hI : ∀ x h1, Kp h h1 → Rit x h1 → Itr prog w A h1 x n P)
    (p : Value → Bool) (F : Value → Value → List (Addr × Obj) → Prop)
    (htests : ∀ D i v h', Kp h h' → P i v → Bound D v h' → Gives prog w A h' (testsOf ifs (compEnvC scope (cellsFrom (D + 1 + 1) scope.names cl) (D + 1) env)) (fun ok _ => ok = p v))
    (helt : ∀ D i v h', Kp h h' → P i v → p v = true → Bound D v h' → Gives prog w A h' (eval elt (compEnvC scope (cellsFrom (D + 1 + 1) scope.names cl) (D + 1) env)) (fun y h'' => Made1 h' F v y h'')) :
    CompRun prog w A h elt iter [⟨target, iter, ifs, 0⟩] scope pos cl env (MadeL h n P p F) := by
  refine comp_core (P := fun _ _ => P) hit hI ?_
  intro xv h1 s₄ I D C fp wr St hk1 hx1 W st0 k14 fresh hC hacc hfp hwr hlive hpl hNs hcells
  subst hC
  have hof : ∀ b ∈ own D, b ∉ fp := fun b hb hm => Nat.lt_irrefl _ (Nat.lt_of_lt_of_le (Nat.lt_of_lt_of_le (hfp _ hm) (Nat.le_succ D)) (hown D b hb))
  have hDf : D ∉ fp := fun hm => Nat.lt_irrefl _ (hfp _ hm)
  have hDo : D ∉ own D := fun hm => Nat.lt_irrefl _ (hown D D hm)
  have hDC : D ≠ D + 1 := Nat.ne_of_lt (Nat.lt_succ_self D)
  have freshO : ∀ b ∈ own D, h1.get? b = none := fun b hb => fresh _ (Nat.le_trans (Nat.le_succ D) (hown D b hb))
  have base : ∀ {hh : Heap}, (∀ b o, b ∉ own D → b ∉ wr → b ≠ D → s₄.heap.get? b = some o → hh.get? b = some o) → Kp h1 hh := fun hk b o e =>
    hk b o (fun hx => by (exact nosome (freshO b hx) e)) (fun hx => by (exact nosome (hwr _ hx) e)) (fun hx => by subst hx; (exact nosome (fresh _ (Nat.le_refl _)) e)) (k14 _ _ e)
  refine loop_comp (own := own D) (ys₀ := []) (B := 1) (Inv := Inv D) (Bound := Bound D)
    (turn_last (iter := iter) (target := target) (ifs := ifs) rfl) W p (fun v zs h' => ∃ y, zs = [y] ∧ ∃ as : List (Addr × Obj), (∀ q ∈ as, h1.get? q.1 = none ∧ q.1 ∉ own D ∧ q.1 ∉ wr ∧ q.1 ≠ D ∧ h'.get? q.1 = some q.2) ∧ F v y as)
    (fun v zs h x => by obtain ⟨y, rfl, _⟩ := x; simp) hlive hDo hDf hof (inv_frame D) (bound_frame D) ?_ st0 hacc (inv0 D _ hNs hcells) ?_ ?_ ?_ ?_
  · intro v zs a b z1_ hk
    obtain ⟨y, e, as, has, hf⟩ := z1_
    try clear z1_
    exact ⟨y, e, as, fun q hq => by
      refine el0_5 (has q hq) fun q1 q2 q3 q4 q5 => ?_
      exact ⟨q1, q2, q3, q4, hk _ _ q2 q3 q4 q5⟩, hf⟩
  · intro i v s₁ E Q hP hinv hst hk hQ
    exact letOwned_plain (hpl _ _ hst) (hassign D i v s₁ E Q hP (hk1.trans (base hk)) hinv hQ)
  · intro i v h' hP hb hk
    exact htests D i v h' (hk1.trans (base hk)) hP hb
  · intro i v s₂ ys E Q hP hi hlen hwl hp hb hinv hk hl hQ
    have hk' : Kp h s₂.heap := hk1.trans (base hk)
    refine (helt D i v s₂.heap hk' hP hp hb).use (Kp.refl _) fun y h₃ tk₃ hk₃ hy => ?_
    refine list_append_gives (hl.at fun o e => hk₃ _ o e) (by simp at hlen; lia) fun h₄ hl₄ hs₄ => ?_
    refine el1_2 hy fun as has hf => ?_
    try clear hy
    refine hQ h₄ tk₃ [y] hl₄ ⟨y, rfl, as, fun q hq => ?_, hf⟩ (inv_frame D _ _ hinv fun b hb o e => hs₄.extBut b o (fun e => hDo (e ▸ hb)) (hk₃ b o e)) fun b o hb hbD e => hs₄.extBut b o hbD (hk₃ b o e)
    refine el0_2 (has q hq) fun q1 q2 => ?_
    obtain ⟨oD, hoD⟩ : ∃ o, s₂.heap.get? D = some o := by obtain ⟨_, ho⟩ := hl; exact ⟨_, ho⟩
    have nD : q.1 ≠ D := fun e => by (exact nosome3 e (hoD) q1)
    refine ⟨?_, (fun e => by obtain ⟨o, ho⟩ := inv_live D _ hinv _ e; (exact nosome q1 (ho))), ?_, nD, hs₄.extBut _ _ nD q2⟩
    · cases e : h1.get? q.1 with
      | none => rfl
      | some o => (exact nosome q1 (base hk _ _ e))
    · intro hw; obtain ⟨o, ho⟩ := hwl _ hw; (exact nosome q1 (ho))
  · intro h' tk vs zss hl hinv hlen hP hall hk
    refine ⟨h', tk, zss.flatten, rfl, inv_ns D _ hinv, base hk, fun h'' hb => ⟨?_, vs, hlen, hP, ?_⟩⟩
    · exact (by simpa using hl : h'.PlainList D _).at fun o e => hb _ o hDC (fresh _ (Nat.le_refl _)) e
    · refine flatten_singles (hall.mono fun v zs hz => ?_)
      obtain ⟨y, e, as, has, hf⟩ := hz
      try clear hz
      refine ⟨y, e, as, ?_, hf⟩
      intro q hq
      refine el0_5 (has q hq) fun q1 q2 q3 q4 q5 => ?_
      refine ⟨?_, hb _ _ (fun hx => q2 (hx ▸ hownC D)) q1 q5⟩
      cases e : h.get? q.1 with
      | none => rfl
      | some o => (exact nosome q1 (hk1 _ _ e))
theorem comp_local {env : Env} {scope : Scope} {cl : List (Str × Addr)} {elt iter : Expr} {x : Str} {px : Pos} {ifs : List Expr} {pos : Pos} {h : Heap} {Rit : Value → Heap → Prop} {n : Nat} {P : Nat → Value → Prop}
    (hkind : scope.kind = .function) (hcell : ∀ y ∈ scope.names, y.2 ≠ .cell) (hx : scope.names.lookup x = some .local) (hn : n ≤ 1000000)
    (hit : Gives prog w A h (eval iter env) Rit) (hI : ∀ x h1, Kp h h1 → Rit x h1 → Itr prog w A h1 x n P)
    (p : Value → Bool) (F : Value → Value → List (Addr × Obj) → Prop)
    (htests : ∀ C i v h' m, Kp h h' → P i v → h'.Ns C m → m x = some v → Gives prog w A h' (testsOf ifs (compEnvC scope cl C env)) (fun ok _ => ok = p v))
    (helt : ∀ C i v h' m, Kp h h' → P i v → p v = true → h'.Ns C m → m x = some v → Gives prog w A h' (eval elt (compEnvC scope cl C env)) (fun y h'' => Made1 h' F v y h'')) :
    CompRun prog w A h elt iter [⟨.Name x px, iter, ifs, 0⟩] scope pos cl env (MadeL h n P p F) := by
  refine comp_one (fun D => [D + 1]) (fun D h => ∃ m, h.Ns (D + 1) m) (fun D v h => ∃ m, h.Ns (D + 1) m ∧ m x = some v) hn (fun D b hb => by simp at hb; subst hb; exact Nat.le_refl _) (fun D => by simp)
    (fun D h hn _ => ⟨_, hn⟩) (fun D h hi => hi) (fun D h hi b hb => ?_) ?_ ?_ ?_ hit hI p F ?_ ?_
  · simp at hb; subst hb; obtain ⟨m, o, _, _, ho, _⟩ := hi; exact ⟨o, ho⟩
  · rintro D a b ⟨m, hm⟩ hk; exact ⟨m, hm.at' fun o e => hk (D + 1) (by simp) o e⟩
  · rintro D v a b ⟨m, hm, hv⟩ hk; exact ⟨m, hm.at' (fun o e => hk (D + 1) (by simp) o e), hv⟩
  · intro D i v s₁ E Q hP hk z2_ hQ
    refine el1_1 z2_ fun m hm => ?_
    try clear z2_
    (refine rwR (cellsFrom_none _ _ _ hcell) ?_)
    refine wpAny_assign_Name (wpAny_storeName_local (env := compEnvC scope cl (D + 1) env) (lookup_relabel_local hx) hm (fun h' hn' hs' => ?_) (by simp [compEnvC, relabel, hkind]))
    exact hQ h' _ ⟨_, hn'⟩ ⟨_, hn', by simp⟩ fun b o hb e => hs'.extBut b o (by simpa [compEnvC] using hb) e
  · intro D i v h' hk hP z3_
    refine el1_2 z3_ fun m hm hv => ?_
    try clear z3_
    (refine rwR (cellsFrom_none _ _ _ hcell) ?_)
    exact htests _ i v h' m hk hP hm hv
  · intro D i v h' hk hP hp z4_
    refine el1_2 z4_ fun m hm hv => ?_
    try clear z4_
    (refine rwR (cellsFrom_none _ _ _ hcell) ?_)
    exact helt _ i v h' m hk hP hp hm hv
theorem lookup_relabel_cell {env : Env} : ∀ {names : List (Str × NameKind)} {x : Str}, names.lookup x = some .cell →
    (names.map fun (n, k) => if (k == NameKind.free && env.scope.kind == .function && env.kindOf n == some .cell) then (n, NameKind.cell) else (n, k)).lookup x = some .cell
  | [], _, h => by simp at h
  | (n, k) :: r, x, h => by
    have ih := @lookup_relabel_cell env r x
    show List.lookup x ((if (k == NameKind.free && env.scope.kind == .function && env.kindOf n == some .cell) = true then (n, NameKind.cell) else (n, k)) :: _) = _
    cases hx : x == n with
    | true =>
      simp only [List.lookup_cons, hx] at h
      cases h
      simp [List.lookup_cons, hx]
    | false =>
      simp only [List.lookup_cons, hx] at h
      by_cases hc : (k == NameKind.free && env.scope.kind == .function && env.kindOf n == some .cell) = true
      · (refine rwR (if_pos hc) ?_); simp only [List.lookup_cons, hx]; exact ih h
      · (refine rwR (if_neg hc) ?_); simp only [List.lookup_cons, hx]; exact ih h
theorem comp_cell {env : Env} {scope : Scope} {cl : List (Str × Addr)} {elt iter : Expr} {x : Str} {px : Pos} {ifs : List Expr} {pos : Pos} {h : Heap} {Rit : Value → Heap → Prop} {n : Nat} {P : Nat → Value → Prop}
    (hkind : scope.kind = .function) (hcell : ∀ k cl, cellsFrom k scope.names cl = (x, k) :: cl) (hx : scope.names.lookup x = some .cell) (hn : n ≤ 1000000)
    (hit : Gives prog w A h (eval iter env) Rit) (hI : ∀ x h1, Kp h h1 → Rit x h1 → Itr prog w A h1 x n P)
    (p : Value → Bool) (F : Value → Value → List (Addr × Obj) → Prop)
    (htests : ∀ C i v h', Kp h h' → P i v → h'.IsCell (C + 1) (some v) → Gives prog w A h' (testsOf ifs (compEnvC scope ((x, C + 1) :: cl) C env)) (fun ok _ => ok = p v))
    (helt : ∀ C i v h', Kp h h' → P i v → p v = true → h'.IsCell (C + 1) (some v) → Gives prog w A h' (eval elt (compEnvC scope ((x, C + 1) :: cl) C env)) (fun y h'' => Made1 h' F v y h'')) :
    CompRun prog w A h elt iter [⟨.Name x px, iter, ifs, 0⟩] scope pos cl env (MadeL h n P p F) := by
  refine comp_one (fun D => [D + 1, D + 1 + 1]) (fun D h => (∃ m, h.Ns (D + 1) m) ∧ ∃ v, h.IsCell (D + 1 + 1) v) (fun D v h => h.IsCell (D + 1 + 1) (some v)) hn ?_ (fun D => by simp)
    (fun D h hn hc => ⟨⟨_, hn⟩, none, ?_⟩) (fun D h hi => hi.1) (fun D h hi b hb => ?_) ?_ ?_ ?_ hit hI p F ?_ ?_
  · intro D b hb; simp at hb; rcases hb with rfl | rfl
    · exact Nat.le_refl _
    · exact Nat.le_succ _
  · exact (hc.empty x (D + 1 + 1) (by (refine rwR (hcell _ _) ?_); simp)).1
  · simp at hb; rcases hb with rfl | rfl
    · obtain ⟨m, o, _, _, ho, _⟩ := hi.1; exact ⟨o, ho⟩
    · obtain ⟨v, o, ho, _⟩ := hi.2; exact ⟨o, ho⟩
  · rintro D a b ⟨⟨m, hm⟩, v, o, ho, hd⟩ hk; exact ⟨⟨m, hm.at' fun o e => hk (D + 1) (by simp) o e⟩, v, o, hk _ (by simp) _ ho, hd⟩
  · rintro D v a b ⟨o, ho, hd⟩ hk; exact ⟨o, hk _ (by simp) _ ho, hd⟩
  · intro D i v s₁ E Q hP hk z5_ hQ
    obtain ⟨q6_, v₀, hv₀⟩ := z5_
    try clear z5_
    refine el1_1 q6_ fun m hm => ?_
    try clear q6_
    (refine rwR (hcell _ _) ?_)
    refine wpAny_assign_Name (wpAny_storeName_cell (env := compEnvC scope ((x, D + 1 + 1) :: cl) (D + 1) env) (by simp [compEnvC, relabel, hkind]) (lookup_relabel_cell hx) (by simp [compEnvC]) hv₀ fun h' hn' hs' => ?_)
    exact hQ h' _ ⟨⟨m, hm.sameBut hs' (Nat.ne_of_lt (Nat.lt_succ_self _))⟩, _, hn'⟩ hn' fun b o hb e => hs'.extBut b o (fun e => by subst e; simp at hb) e
  · rintro D i v h' hk hP hb
    (refine rwR (hcell _ _) ?_)
    exact htests _ i v h' hk hP hb
  · rintro D i v h' hk hP hp hb
    (refine rwR (hcell _ _) ?_)
    exact helt _ i v h' hk hP hp hb
end
end Mine
end
section
open PySem PySem.Calls PySem.W PyProof.Rows
set_option maxRecDepth 100000
set_option genInjectivity false
set_option genSizeOf false
set_option genSizeOfSpec false
namespace Mine
section
variable {prog : Program} {w : World} {A : Around} {h : Heap}
theorem ne_size {h : Heap} {a : Addr} {o : Obj} (e : h.get? a = some o) : a ≠ h.objs.size := Nat.ne_of_lt (Heap.lt_size e)
theorem none_size (h : Heap) : h.get? h.objs.size = none := by
  cases e : h.get? h.objs.size with
  | none => rfl
  | some o => exact absurd (Heap.lt_size e) (Nat.lt_irrefl _)
theorem itr_list {l : Addr} {items : Array Value} (hh : A.handled = none) (hl : h.IsList l items) : ItrS prog w A h (.ref l) items.size (fun i v => items[i]? = some v) [l] := fun s E Q hk k => by
  have hl' : s.heap.IsList l items := hl.at fun o e => hk _ o e
  refine el1_2 (id hl') fun ol hol _ => ?_
  refine wpAny_pyIter_list hl' ?_
  refine k _ _ _ _ _ _ (Walks.list hh s.heap.objs.size l (ne_size hol) items) ⟨⟨_, Heap.get?_push_size _ rfl, rfl, rfl⟩, hl'.push _⟩ (Kp.push _ _) ?_ ?_ ?_ ?_ ?_
  · intro b hb; (refine rwR (Heap.size_push _ _) ?_); simp at hb; rcases hb with rfl | rfl
    · exact Nat.lt_succ_self _
    · exact Nat.lt_succ_of_lt (Heap.lt_size hol)
  · intro b hb; simp at hb; rcases hb with rfl | rfl
    · exact .inl (none_size _)
    · exact .inr (by simp)
  · intro b hb; simp at hb; subst hb; exact none_size _
  · rintro i h' ⟨⟨o, ho, _⟩, ⟨o2, ho2, _⟩⟩ b hb; simp at hb; rcases hb with rfl | rfl
    · exact ⟨o, ho⟩
    · exact ⟨o2, ho2⟩
  · rintro i h' ⟨⟨o, ho, hc, _⟩, _⟩; exact ⟨o, _, ho, hc, by decide⟩
theorem itr_range {r : Addr} {a b c : Int} {n : Nat} {t u v : Tok} (hh : A.handled = none) (hr : IsRange h r a b c t u v) (hs : Builtin.Range.small a b c = true) (hn : Builtin.Range.rangeSize a b c = n) :
    ItrS prog w A h (.ref r) n (fun i v => i < n ∧ ∃ t, v = .int (a + i * c) t) [] := fun s E Q hk k => by
  have hr' : IsRange s.heap r a b c t u v := hk _ _ hr
  refine wpAny_pyIter_range hr' hs ?_
  (refine rwR hn ?_)
  refine k _ _ _ _ _ _ (Walks.range hh s.heap.objs.size a c n).bound ?_ (Kp.push _ _) ?_ ?_ ?_ ?_ ?_
  · show IsRangeIter _ _ _ _ _; simpa using Heap.get?_push_size _ rfl
  · intro b hb; (refine rwR (Heap.size_push _ _) ?_); simp at hb; subst hb; exact Nat.lt_succ_self _
  · intro b hb; simp at hb; subst hb; exact .inl (none_size _)
  · intro b hb; simp at hb; subst hb; exact none_size _
  · intro i h' ho b hb; simp at hb; subst hb; exact ⟨_, ho⟩
  · intro i h' ho; exact ⟨_, "range_iterator", ho, rfl, by decide⟩
theorem walks_tuple (hh : A.handled = none) (I ax : Addr) (hne : ax ≠ I) (items : Array Value) :
    Walks prog w A I [I, ax] [I] items.size (fun i v => items[i]? = some v) (fun i h => IsTupIter h I ax i ∧ IsTup h ax items) where
  sub := fun b hb => by simp at hb; simp [hb]
  frame := fun _ _ _ st hk => ⟨let ⟨o, ho, r⟩ := st.1; ⟨o, hk I (by simp) o ho, r⟩, let ⟨o, ho, r⟩ := st.2; ⟨o, hk ax (by simp) o ho, r⟩⟩
  item := fun i s Q E hi st hQ => by
    refine next_tuple_item st.1 st.2 (x := items[i]) (by simp [hi]) fun h' hit' hs' => ?_
    exact hQ _ h' s.toks (by simp [hi]) ⟨hit', st.2.extBut hs'.extBut hne⟩ fun b o hb e => hs'.extBut b o (fun h => hb (by simp [h])) e
  done := fun s Q E st hQ => next_tuple_end hh st.1 st.2 (by simp) fun h' he' => hQ h' s.toks fun b o hb e => he' b o (fun h => hb (by simp [h])) e
  self := fun i s Q E st hQ => wpAny_pyIter_tupleiter st.1 hQ
theorem itr_tuple {l : Addr} {items : Array Value} (hh : A.handled = none) (hl : IsTup h l items) : ItrS prog w A h (.ref l) items.size (fun i v => items[i]? = some v) [l] := fun s E Q hk k => by
  have hl' : IsTup s.heap l items := hl.keeps hk
  refine el1_2 (id hl') fun ol hol _ => ?_
  refine iter_tuple hl' ?_
  refine k _ _ _ _ _ _ (walks_tuple hh s.heap.objs.size l (ne_size hol) items) ⟨⟨_, Heap.get?_push_size _ rfl, rfl, rfl⟩, hl'.push _⟩ (Kp.push _ _) ?_ ?_ ?_ ?_ ?_
  · intro b hb; (refine rwR (Heap.size_push _ _) ?_); simp at hb; rcases hb with rfl | rfl
    · exact Nat.lt_succ_self _
    · exact Nat.lt_succ_of_lt (Heap.lt_size hol)
  · intro b hb; simp at hb; rcases hb with rfl | rfl
    · exact .inl (none_size _)
    · exact .inr (by simp)
  · intro b hb; simp at hb; subst hb; exact none_size _
  · rintro i h' ⟨⟨o, ho, _⟩, ⟨o2, ho2, _⟩⟩ b hb; simp at hb; rcases hb with rfl | rfl
    · exact ⟨o, ho⟩
    · exact ⟨o2, ho2⟩
  · rintro i h' ⟨⟨o, ho, hc, _⟩, _⟩; exact ⟨o, _, ho, hc, by decide⟩
end
end Mine
end
section
open PySem PySem.Calls PySem.W PyProof.Rows
set_option maxRecDepth 100000
set_option genInjectivity false
set_option genSizeOf false
set_option genSizeOfSpec false
namespace Mine
section
variable {prog : Program} {w : World} {A : Around}
theorem comp_pair {env : Env} {scope : Scope} {cl : List (Str × Addr)} {elt iter : Expr} {x1 x2 : Str} {p1 p2 pt : Pos} {kt : Nat} {ifs : List Expr} {pos : Pos} {h : Heap} {Rit : Value → Heap → Prop} {n : Nat} {P : Nat → Value → Prop}
    (hh : A.handled = none)
    (hkind : scope.kind = .function) (hcell : ∀ y ∈ scope.names, y.2 ≠ .cell) (hx1 : scope.names.lookup x1 = some .local) (hx2 : scope.names.lookup x2 = some .local) (hne : x1 ≠ x2) (hn : n ≤ 1000000)
    (hit : Gives prog w A h (eval iter env) Rit) (hI : ∀ x h1, Kp h h1 → Rit x h1 → Itr prog w A h1 x n P)
    (hP : ∀ i v, P i v → ∃ t a b, v = .ref t ∧ IsTup h t #[a, b])
    (p : Value → Bool) (F : Value → Value → List (Addr × Obj) → Prop)
    (htests : ∀ C i v h' m t a b, Kp h h' → P i v → v = .ref t → IsTup h t #[a, b] → h'.Ns C m → m x1 = some a → m x2 = some b → Gives prog w A h' (testsOf ifs (compEnvC scope cl C env)) (fun ok _ => ok = p v))
    (helt : ∀ C i v h' m t a b, Kp h h' → P i v → p v = true → v = .ref t → IsTup h t #[a, b] → h'.Ns C m → m x1 = some a → m x2 = some b → Gives prog w A h' (eval elt (compEnvC scope cl C env)) (fun y h'' => Made1 h' F v y h'')) :
    CompRun prog w A h elt iter [⟨.Tuple [.Name x1 p1, .Name x2 p2] kt pt, iter, ifs, 0⟩] scope pos cl env (MadeL h n P p F) := by
  refine comp_one (fun D => [D + 1]) (fun D h => ∃ m, h.Ns (D + 1) m) (fun D v h' => ∃ m t a b, v = .ref t ∧ IsTup h t #[a, b] ∧ h'.Ns (D + 1) m ∧ m x1 = some a ∧ m x2 = some b) hn (fun D b hb => by simp at hb; subst hb; exact Nat.le_refl _) (fun D => by simp)
    (fun D h hn _ => ⟨_, hn⟩) (fun D h hi => hi) (fun D h hi b hb => ?_) ?_ ?_ ?_ hit hI p F ?_ ?_
  · simp at hb; subst hb; obtain ⟨m, o, _, _, ho, _⟩ := hi; exact ⟨o, ho⟩
  · rintro D a b ⟨m, hm⟩ hk; exact ⟨m, hm.at' fun o e => hk (D + 1) (by simp) o e⟩
  · rintro D v a b ⟨m, t, u1, u2, e, ht, hm, hv⟩ hk; exact ⟨m, t, u1, u2, e, ht, hm.at' (fun o e => hk (D + 1) (by simp) o e), hv⟩
  · intro D i v s₁ E Q hPv hk z1_ hQ
    refine el1_1 z1_ fun m hm => ?_
    try clear z1_
    (refine rwR (cellsFrom_none _ _ _ hcell) ?_)
    refine el3_2 (hP i v hPv) fun t a b r2_ ht => ?_
    obtain rfl := r2_
    refine assign_Tuple_tuple hh (ht.keeps hk) rfl rfl fun h₁ he₁ => ?_
    have hk₁ : Kp s₁.heap h₁ := fun b o e => he₁ b o (ne_size e) e
    show wpAny (model prog w) A (assignInOrder [assign (.Name x1 p1) _, assign (.Name x2 p2) _] [a, b]) _ _ _
    refine assignInOrder_cons ?_
    refine wpAny_assign_Name (wpAny_storeName_local (env := compEnvC scope cl (D + 1) env) (lookup_relabel_local hx1) (hm.keeps hk₁) (fun h₂ hn₂ hs₂ => ?_) (by simp [compEnvC, relabel, hkind]))
    refine assignInOrder_cons ?_
    refine wpAny_assign_Name (wpAny_storeName_local (env := compEnvC scope cl (D + 1) env) (lookup_relabel_local hx2) hn₂ (fun h₃ hn₃ hs₃ => ?_) (by simp [compEnvC, relabel, hkind]))
    refine assignInOrder_nil ?_
    refine hQ h₃ _ ⟨_, hn₃⟩ ⟨_, t, a, b, rfl, ht, hn₃, ?_, ?_⟩ fun c o hb e => hs₃.extBut c o (by simpa [compEnvC] using hb) (hs₂.extBut c o (by simpa [compEnvC] using hb) (hk₁ c o e))
    · simp [hne]
    · simp
  · intro D i v h' hk hPv z3_
    refine el4_5 z3_ fun m t a b e ht hm h1 h2 => ?_
    try clear z3_
    (refine rwR (cellsFrom_none _ _ _ hcell) ?_)
    exact htests _ i v h' m t a b hk hPv e ht hm h1 h2
  · intro D i v h' hk hPv hp z4_
    refine el4_5 z4_ fun m t a b e ht hm h1 h2 => ?_
    try clear z4_
    (refine rwR (cellsFrom_none _ _ _ hcell) ?_)
    exact helt _ i v h' m t a b hk hPv hp e ht hm h1 h2
theorem compStart_1 {elt : Expr} {g0 : Comprehension} {target iter : Expr} {ifs : List Expr} {scope : Scope} {pos : Pos} {it acc : Value} {env : Env} {R : Result → Shared → Prop} {s : Shared}
    (h0 : codeAny (model prog w) A (.compLoop (.ListComp elt [g0, ⟨target, iter, ifs, 0⟩] scope pos) 1 it acc env) R s)
    (h : wpAny (model prog w) A (pyIter it) (fun it' s' => codeAny (model prog w) A (.compLoop (.ListComp elt [g0, ⟨target, iter, ifs, 0⟩] scope pos) 1 it' acc env) R s')
      (notedBy (model prog w) A env fun x s' => R (.error x) s') s) :
    codeAny (model prog w) A (.compStart (.ListComp elt [g0, ⟨target, iter, ifs, 0⟩] scope pos) 1 it acc env) R s := by
  refine codeAny_of_tree ?_
  show wpAny _ _ ((compStart (.ListComp elt [g0, ⟨target, iter, ifs, 0⟩] scope pos) 1 it acc env).onRaise (fun x => do noteFrame x env; standAt theWindowsPlace)) _ _ s
  refine wpAny_notedAt ?_
  unfold compStart
  show wpAny _ _ (ask >>= _) _ _ s
  refine wpAny_bind (wpAny_askSetting (wpAny_ite ?_))
  split
  · first
      | exact wpAny_bind (wpAny_pure (wpAny_pure (And.intro rfl h0)))
      | exact wpAny_pure (And.intro rfl h0)
  · first
      | exact wpAny_bind (wpAny_rule (wpAny_bind (wpAny_standAt (wpAny_bind (wpAny_mono h (fun it' s' h' => wpAny_pure (And.intro rfl h')) fun _ _ x => x)))))
      | (refine wpAny_bind (wpAny_rule ?_); show wpAny _ _ (standAt iter.pos >>= _) _ _ s; exact wpAny_bind (wpAny_standAt (wpAny_bind (wpAny_mono h (fun it' s' h' => wpAny_pure (And.intro rfl h')) fun _ _ x => x))))
noncomputable def Inner (n' : Value → Nat) (P' : Value → Nat → Value → Prop) (p' : Value → Value → Bool) (F : Value → Value → Value → Prop) (v : Value) (zs : List Value) : Prop :=
  ∃ us : List Value, us.length = n' v ∧ (∀ j u, us[j]? = some u → P' v j u) ∧ All2 (F v) (us.filter (p' v)) zs
theorem comp_two {env : Env} {scope : Scope} {cl : List (Str × Addr)} {elt iter iter' : Expr} {x y : Str} {px py : Pos} {ifs ifs' : List Expr} {pos : Pos} {h : Heap} {Rit : Value → Heap → Prop} {Rit' : Value → Value → Heap → Prop} {n B : Nat} {P : Nat → Value → Prop}
    (n' : Value → Nat) (P' : Value → Nat → Value → Prop) (p : Value → Bool) (p' : Value → Value → Bool) (F : Value → Value → Value → Prop)
    (hkind : scope.kind = .function) (hs' : ∀ C x, foldedSetIterable iter' (compEnvC scope cl C env) x = pure x)
    (hcell : ∀ y ∈ scope.names, y.2 ≠ .cell) (hx : scope.names.lookup x = some .local) (hy : scope.names.lookup y = some .local) (hxy : x ≠ y) (hn : n ≤ 1000) (hB : ∀ v, n' v ≤ B) (hB' : B ≤ 900)
    (hit : Gives prog w A h (eval iter env) Rit) (hI : ∀ x h1, Kp h h1 → Rit x h1 → Itr prog w A h1 x n P)
    (htests : ∀ C i v h' m, Kp h h' → P i v → h'.Ns C m → m x = some v → Gives prog w A h' (testsOf ifs (compEnvC scope cl C env)) (fun ok _ => ok = p v))
    (hit' : ∀ C i v h' m, Kp h h' → P i v → p v = true → h'.Ns C m → m x = some v → Gives prog w A h' (eval iter' (compEnvC scope cl C env)) (Rit' v))
    (hI' : ∀ i v xv h', Kp h h' → P i v → Rit' v xv h' → ∃ src, ItrS prog w A h' xv (n' v) (P' v) src ∧ ∀ b ∈ src, ∃ o, h.get? b = some o)
    (htests' : ∀ C i v j u h' m, Kp h h' → P i v → P' v j u → h'.Ns C m → m x = some v → m y = some u → Gives prog w A h' (testsOf ifs' (compEnvC scope cl C env)) (fun ok _ => ok = p' v u))
    (helt : ∀ C i v j u h' m, Kp h h' → P i v → P' v j u → p' v u = true → h'.Ns C m → m x = some v → m y = some u → Gives prog w A h' (eval elt (compEnvC scope cl C env)) (fun z _ => F v u z)) :
    CompRun prog w A h elt iter [⟨.Name x px, iter, ifs, 0⟩, ⟨.Name y py, iter', ifs', 0⟩] scope pos cl env
      (fun ys _ => ∃ (vs : List Value) (zss : List (List Value)), ys = zss.flatten ∧ vs.length = n ∧ (∀ j v, vs[j]? = some v → P j v) ∧ All2 (Inner n' P' p' F) (vs.filter p) zss) := by
  refine comp_core (P := fun _ _ => P) hit hI ?_
  intro xv h1 s₄ I D C fp wr St hk1 hx1 W st0 k14 fresh hC hacc hfp hwr hlive hpl hNs hcells
  subst hC
  (refine rwR (cellsFrom_none _ _ _ hcell) ?_)
  have hCf : D + 1 ∉ fp := fun hm => Nat.lt_irrefl _ (Nat.lt_of_succ_lt (hfp _ hm))
  have hDf : D ∉ fp := fun hm => Nat.lt_irrefl _ (hfp _ hm)
  have hDC : D ≠ D + 1 := Nat.ne_of_lt (Nat.lt_succ_self D)
  have freshC : h1.get? (D + 1) = none := fresh _ (Nat.le_succ D)
  have base : ∀ {hh : Heap}, (∀ b o, b ∉ [D + 1] → b ∉ wr → b ≠ D → s₄.heap.get? b = some o → hh.get? b = some o) → Kp h1 hh := fun hk b o e =>
    hk b o (by intro hx; simp at hx; subst hx; (exact nosome (freshC) e)) (fun hx => by (exact nosome (hwr _ hx) e)) (fun hx => by subst hx; (exact nosome (fresh _ (Nat.le_refl _)) e)) (k14 _ _ e)
  have innerB : ∀ v zs, Inner n' P' p' F v zs → zs.length ≤ B := fun v zs hz => by
    refine el1_3 hz fun us h1 _ h2 => ?_
    try clear hz
    have := h2.length
    have h3 : (us.filter (p' v)).length ≤ us.length := List.length_filter_le _ _
    have := hB v
    lia
  refine loop_comp (own := [D + 1]) (ys₀ := []) (B := B) (Inv := fun h => ∃ m, h.Ns (D + 1) m) (Bound := fun v h => ∃ m, h.Ns (D + 1) m ∧ m x = some v)
    (turn_inner (iter := iter) (iter' := iter') (target := .Name x px) (ifs := ifs) rfl (hs' _)) W p (fun v zs _ => Inner n' P' p' F v zs)
    (fun v zs _ hz => innerB v zs hz) hlive (by simpa using hDC) hDf (by simpa using hCf) ?_ ?_ (fun _ _ _ _ hz _ => hz) st0 hacc ⟨_, hNs⟩ ?_ ?_ ?_ ?_
  · rintro a b ⟨m, hm⟩ hk; exact ⟨m, hm.at' fun o e => hk (D + 1) (by simp) o e⟩
  · rintro v a b ⟨m, hm, hv⟩ hk; exact ⟨m, hm.at' (fun o e => hk (D + 1) (by simp) o e), hv⟩
  · intro i v s₁ E Q hP z5_ hst hk hQ
    refine el1_1 z5_ fun m hm => ?_
    try clear z5_
    refine wpAny_pure ?_
    refine wpAny_assign_Name (wpAny_storeName_local (env := compEnvC scope cl (D + 1) env) (lookup_relabel_local hx) hm (fun h' hn' hs' => ?_) (by simp [compEnvC, relabel, hkind]))
    exact hQ h' _ ⟨_, hn'⟩ ⟨_, hn', by simp⟩ fun b o hb e => hs'.extBut b o (by simpa [compEnvC] using hb) e
  · intro i v h' hP z6_ hk
    refine el1_2 z6_ fun m hm hv => ?_
    try clear z6_
    exact htests _ i v h' m (hk1.trans (base hk)) hP hm hv
  · intro i v s₂ ys E Q hP hi hlen hwl hp z7_ hinv hk hl hQ
    refine el1_2 z7_ fun m hm hv => ?_
    try clear z7_
    have hk' : Kp h s₂.heap := hk1.trans (base hk)
    refine (hit' _ i v s₂.heap m hk' hP hp hm hv).use (Kp.refl _) fun xv' h₃ tk₃ hk₃ hx₃ => ?_
    refine el1_2 (hI' i v xv' h₃ (hk'.trans hk₃) hP hx₃) fun src hIS hsrc => ?_
    refine hIS _ _ _ (Kp.refl _) fun I' fp' wr' St' h₄ tk₄ W' st' hk₄ _ hfp' hwr' hlive'' hpl' => ?_
    have hlive' : ∀ i h, St' i h → ∀ b ∈ wr', ∃ o, h.get? b = some o := fun i h st b hb => hlive'' i h st b (W'.sub b hb)
    have hm₄ : h₄.Ns (D + 1) m := (hm.keeps hk₃).keeps hk₄
    have hl₄ : h₄.PlainList D (List.toArray ys) := hl.at fun o e => hk₄ _ o (hk₃ _ o e)
    have off : ∀ b, (∃ o, s₂.heap.get? b = some o) → h1.get? b = none → b ∉ fp' := fun b ⟨o, ho⟩ hb hm => by
      refine Or.elim (hfp' b hm) (fun q => ?_) fun q => ?_
      · have q' : h₃.get? b = none := q
        (replace q' := (hk₃ _ _ ho) ▸ q'); cases q'
      · refine el1_1 (hsrc b q) fun o' ho' => ?_
        (exact nosome hb (hk1 _ _ ho'))
    have hDf' : D ∉ fp' := off D (by obtain ⟨_, ho⟩ := hl; exact ⟨_, ho⟩) (fresh _ (Nat.le_refl _))
    have hCf' : D + 1 ∉ fp' := off (D + 1) (by obtain ⟨o, _, _, ho, _⟩ := hm; exact ⟨o, ho⟩) freshC
    have kk : Kp h h₄ := hk'.trans (hk₃.trans hk₄)
    have loop := loop_comp (prog := prog) (w := w) (A := A) (own := [D + 1]) (ys₀ := ys) (B := 1) (Inv := fun h => ∃ m, h.Ns (D + 1) m ∧ m x = some v) (Bound := fun u h => ∃ m, h.Ns (D + 1) m ∧ m x = some v ∧ m y = some u) (s := { s₂ with heap := h₄, toks := tk₄ })
      (R := fun r s₆ => match r with
        | .ok _ => Q s₆
        | .error e => cameBackBy (model prog w) A (compEnvC scope cl (D + 1) env) E e s₆)
      (turn_last (elt := elt) (gens := [⟨.Name x px, iter, ifs, 0⟩, ⟨.Name y py, iter', ifs', 0⟩]) (scope := scope) (pos := pos) (d := 1) (acc := .ref D) (env := compEnvC scope cl (D + 1) env) (it := .ref I') (iter := iter') (target := .Name y py) (ifs := ifs') rfl) W' (p' v)
      (fun u zs _ => ∃ z, zs = [z] ∧ F v u z) (fun u zs h x => by obtain ⟨z, rfl, _⟩ := x; simp) hlive' (by simpa using hDC) hDf' (by simpa using hCf')
      (by rintro a b ⟨m, hm, hv⟩ hk; exact ⟨m, hm.at' (fun o e => hk (D + 1) (by simp) o e), hv⟩)
      (by rintro u a b ⟨m, hm, hv⟩ hk; exact ⟨m, hm.at' (fun o e => hk (D + 1) (by simp) o e), hv⟩)
      (fun _ _ _ _ hz _ => hz) st' hl₄ ⟨m, hm₄, hv⟩
      (by
        intro j u s₅ E₅ Q₅ hPu z8_ hst₅ hk₅ hQ₅
        refine el1_2 z8_ fun m₅ hm₅ hv₅ => ?_
        try clear z8_
        refine wpAny_pure ?_
        refine wpAny_assign_Name (wpAny_storeName_local (env := compEnvC scope cl (D + 1) env) (lookup_relabel_local hy) hm₅ (fun h' hn' hs' => ?_) (by simp [compEnvC, relabel, hkind]))
        exact hQ₅ h' _ ⟨_, hn', by simpa [hxy] using hv₅⟩ ⟨_, hn', by simpa [hxy] using hv₅, by simp⟩ fun b o hb e => hs'.extBut b o (by simpa [compEnvC] using hb) e)
      (by
        intro j u h₅ hPu z9_ hk₅
        refine el1_3 z9_ fun m₅ hm₅ hv₅ hu₅ => ?_
        try clear z9_
        exact htests' _ i v j u h₅ m₅ (fun b o e => hk₅ b o (by intro hx; simp at hx; subst hx; (exact nosome freshC (hk1 _ _ e))) (fun hx => by have q := hwr' _ hx; have q' : h₃.get? b = none := q; (replace q' := (hk₃ _ _ (hk' _ _ e)) ▸ q'); cases q') (fun hx => by subst hx; have := fresh b (Nat.le_refl _); (exact nosome this (hk1 _ _ e))) (kk _ _ e)) hP hPu hm₅ hv₅ hu₅)
      (by
        intro j u s₅ zs E₅ Q₅ hPu hj hlen₅ hwl₅ hp₅ z10_ hinv₅ hk₅ hl₅ hQ₅
        refine el1_3 z10_ fun m₅ hm₅ hv₅ hu₅ => ?_
        try clear z10_
        have kb : Kp h s₅.heap := fun b o e => hk₅ b o (by intro hx; simp at hx; subst hx; (exact nosome freshC (hk1 _ _ e))) (fun hx => by have q := hwr' _ hx; have q' : h₃.get? b = none := q; (replace q' := (hk₃ _ _ (hk' _ _ e)) ▸ q'); cases q') (fun hx => by subst hx; have := fresh b (Nat.le_refl _); (exact nosome this (hk1 _ _ e))) (kk _ _ e)
        refine (helt _ i v j u s₅.heap m₅ kb hP hPu hp₅ hm₅ hv₅ hu₅).use (Kp.refl _) fun z h₆ tk₆ hk₆ hz => ?_
        have hBv := hB v
        have hmul : i * B ≤ 1000 * 900 := Nat.mul_le_mul (by (exact Nat.le_trans (Nat.le_of_lt (by assumption)) (Nat.le_trans (by assumption) (by decide)))) hB'
        refine list_append_gives (hl₅.at fun o e => hk₆ _ o e) (by simp at hlen; lia) fun h₇ hl₇ hs₇ => ?_
        refine hQ₅ h₇ tk₆ [z] hl₇ ⟨z, rfl, hz⟩ ⟨m₅, (hm₅.keeps hk₆).sameBut hs₇ (Ne.symm hDC), hv₅⟩ fun b o hb hbD e => hs₇.extBut b o hbD (hk₆ b o e))
      (by
        intro h' tk us zss hl' z11_ hlen' hPu hall hk₅
        refine el1_2 z11_ fun m' hm' _ => ?_
        try clear z11_
        exact hQ h' tk zss.flatten hl' ⟨us, hlen', hPu, flatten_singles hall⟩ ⟨m', hm'⟩ fun b o hb hbD e => by
          by_cases hw : b ∈ wr'
          · have q : h₃.get? b = none := hwr' _ hw
            (exact nosome q (hk₃ _ _ e))
          · exact hk₅ b o hb hw hbD (hk₄ _ _ (hk₃ _ _ e)))
    exact compStart_1 loop (W'.self 0 _ _ _ st' loop)
  · intro h' tk vs zss hl hinv hlen hP hall hk
    refine ⟨h', tk, zss.flatten, rfl, hinv, base hk, fun h'' hb => ⟨?_, vs, zss, rfl, hlen, hP, hall⟩⟩
    exact (by simpa using hl : h'.PlainList D _).at fun o e => hb _ o hDC (fresh _ (Nat.le_refl _)) e
end
end Mine
end
section
open PySem PySem.Calls PySem.W PyProof.Rows
set_option maxRecDepth 100000
set_option genInjectivity false
set_option genSizeOf false
set_option genSizeOfSpec false
namespace Mine
noncomputable def upd (m : Str → Option Value) (x : Str) (v : Value) : Str → Option Value := fun y => if y = x then some v else m y
structure Fra (env : Env) (h : Heap) (m cm : Str → Option Value) : Prop where
  ns : h.Ns env.locals m
  cell : ∀ n c, env.cells.lookup n = some c → h.IsCell c (cm n)
  apart : env.cells.Pairwise fun x y => x.2 ≠ y.2
  above : ∀ n c, (n, c) ∈ env.cells → env.locals < c
noncomputable def OwnA (env : Env) (b : Addr) : Prop := b = env.locals ∨ ∃ n, env.cells.lookup n = some b
theorem Fra.frame {env : Env} {h h' : Heap} {m cm : Str → Option Value} (F : Fra env h m cm) (hk : ∀ b o, OwnA env b → h.get? b = some o → h'.get? b = some o) : Fra env h' m cm :=
  ⟨F.ns.at' fun o e => hk _ o (.inl rfl) e, fun n c e => let ⟨o, ho, hd⟩ := F.cell n c e; ⟨o, hk _ o (.inr ⟨n, e⟩) ho, hd⟩, F.apart, F.above⟩
theorem Fra.keeps {env : Env} {h h' : Heap} {m cm : Str → Option Value} (F : Fra env h m cm) (hk : Kp h h') : Fra env h' m cm := F.frame fun b o _ e => hk b o e
section
variable {prog : Program} {w : World} {A : Around} {env : Env} {s : Shared} {E : Value → Shared → Prop} {m cm : Str → Option Value}
theorem fra_local {h0 : Heap} {gn : Array GenState} {dr : Drawn} {t0 : Nat} {os : OsState} {x : Str} {v : Value} {Q : Unit → Shared → Prop} (F : Fra env h0 m cm) (hk : env.scope.kind = .function) (hx : env.kindOf x = some .local)
    (k : ∀ h' tk, Fra env h' (upd m x v) cm → Heap.SameBut env.locals h0 h' → Q () ⟨h', gn, dr, tk, os⟩) : wpAny (model prog w) A (storeName env x v) Q E ⟨h0, gn, dr, t0, os⟩ :=
  wpAny_storeName_local hx F.ns (fun h' hn hs => k h' _ ⟨hn, fun n c e => (F.cell n c e).sameBut hs (Nat.ne_of_gt (F.above n c (mem_of_lookup e))), F.apart, F.above⟩ hs) (by (refine rwR hk ?_); rfl)
theorem fra_cell {h0 : Heap} {gn : Array GenState} {dr : Drawn} {t0 : Nat} {os : OsState} {x : Str} {c : Addr} {v : Value} {Q : Unit → Shared → Prop} (F : Fra env h0 m cm) (hk : env.scope.kind = .function) (hx : env.kindOf x = some .cell) (hc : env.cells.lookup x = some c)
    (k : ∀ h' tk, Fra env h' m (upd cm x v) → Heap.SameBut c h0 h' → Q () ⟨h', gn, dr, tk, os⟩) : wpAny (model prog w) A (storeName env x v) Q E ⟨h0, gn, dr, t0, os⟩ := by
  have hLc : env.locals < c := F.above x c (mem_of_lookup hc)
  refine wpAny_storeName_cell hk hx hc (F.cell x c hc) fun h' hv hs => k h' _ ⟨F.ns.sameBut hs (Nat.ne_of_lt hLc), fun n c' e => ?_, F.apart, F.above⟩ hs
  by_cases hn : n = x
  · subst hn; (rw [hc] at e; cases e); simpa [upd] using hv
  · have hcc : c' ≠ c := fun q => hn (name_of_addr F.apart (mem_of_lookup e) (q ▸ mem_of_lookup hc))
    simpa [upd, hn] using (F.cell n c' e).sameBut hs hcc
theorem asg_local {h0 : Heap} {gn : Array GenState} {dr : Drawn} {t0 : Nat} {os : OsState} {x : Str} {px pos : Pos} {e : Expr} {h : Heap} {R : Value → Heap → Prop} {Q : Flow → Shared → Prop} (F : Fra env h0 m cm) (hk : env.scope.kind = .function) (hx : env.kindOf x = some .local)
    (G : Gives prog w A h (eval e env) R) (hh : Kp h h0) (hsw : swapsWith e (some (.Name x px)) pos.line env = pure false)
    (k : ∀ v h₁ h' tk, R v h₁ → Kp h0 h₁ → Heap.SameBut env.locals h₁ h' → Fra env h' (upd m x v) cm → Q .next ⟨h', gn, dr, tk, os⟩) :
    wpAny (model prog w) A (exec (.Assign [.Name x px] e pos) env) Q E ⟨h0, gn, dr, t0, os⟩ :=
  wpAny_Assign_Name (G.use hh fun v h₁ tk hk₁ hR => fra_local (F.keeps hk₁) hk hx fun h' tk' F' hs => k v h₁ h' tk' hR hk₁ hs F') hsw
theorem asg_cell {h0 : Heap} {gn : Array GenState} {dr : Drawn} {t0 : Nat} {os : OsState} {x : Str} {c : Addr} {px pos : Pos} {e : Expr} {h : Heap} {R : Value → Heap → Prop} {Q : Flow → Shared → Prop} (F : Fra env h0 m cm) (hk : env.scope.kind = .function) (hx : env.kindOf x = some .cell) (hc : env.cells.lookup x = some c)
    (G : Gives prog w A h (eval e env) R) (hh : Kp h h0) (hsw : swapsWith e (some (.Name x px)) pos.line env = pure false)
    (k : ∀ v h₁ h' tk, R v h₁ → Kp h0 h₁ → Heap.SameBut c h₁ h' → Fra env h' m (upd cm x v) → Q .next ⟨h', gn, dr, tk, os⟩) :
    wpAny (model prog w) A (exec (.Assign [.Name x px] e pos) env) Q E ⟨h0, gn, dr, t0, os⟩ :=
  wpAny_Assign_Name (G.use hh fun v h₁ tk hk₁ hR => fra_cell (F.keeps hk₁) hk hx hc fun h' tk' F' hs => k v h₁ h' tk' hR hk₁ hs F') hsw
theorem asg_local1 {α : Type} {f : α → Value} {h0 : Heap} {gn : Array GenState} {dr : Drawn} {t0 : Nat} {os : OsState} {x : Str} {px pos : Pos} {e : Expr} {h : Heap} {R : α → Heap → Prop} {Q : Flow → Shared → Prop} (F : Fra env h0 m cm) (hk : env.scope.kind = .function) (hx : env.kindOf x = some .local)
    (G : Gives prog w A h (eval e env) fun v h => ∃ D, v = f D ∧ R D h) (hh : Kp h h0) (hsw : swapsWith e (some (.Name x px)) pos.line env = pure false)
    (k : ∀ D h₁ h' tk, R D h₁ → Kp h0 h₁ → Heap.SameBut env.locals h₁ h' → Fra env h' (upd m x (f D)) cm → Q .next ⟨h', gn, dr, tk, os⟩) :
    wpAny (model prog w) A (exec (.Assign [.Name x px] e pos) env) Q E ⟨h0, gn, dr, t0, os⟩ :=
  asg_local F hk hx G hh hsw fun v h₁ h' tk r a b c => by obtain ⟨D, rfl, r⟩ := r; exact k D h₁ h' tk r a b c
theorem asg_cell1 {α : Type} {f : α → Value} {h0 : Heap} {gn : Array GenState} {dr : Drawn} {t0 : Nat} {os : OsState} {x : Str} {c : Addr} {px pos : Pos} {e : Expr} {h : Heap} {R : α → Heap → Prop} {Q : Flow → Shared → Prop} (F : Fra env h0 m cm) (hk : env.scope.kind = .function) (hx : env.kindOf x = some .cell) (hc : env.cells.lookup x = some c)
    (G : Gives prog w A h (eval e env) fun v h => ∃ D, v = f D ∧ R D h) (hh : Kp h h0) (hsw : swapsWith e (some (.Name x px)) pos.line env = pure false)
    (k : ∀ D h₁ h' tk, R D h₁ → Kp h0 h₁ → Heap.SameBut c h₁ h' → Fra env h' m (upd cm x (f D)) → Q .next ⟨h', gn, dr, tk, os⟩) :
    wpAny (model prog w) A (exec (.Assign [.Name x px] e pos) env) Q E ⟨h0, gn, dr, t0, os⟩ :=
  asg_cell F hk hx hc G hh hsw fun v h₁ h' tk r a b c => by obtain ⟨D, rfl, r⟩ := r; exact k D h₁ h' tk r a b c
theorem call_rule {a : Addr} {o : Obj} {fd : FuncData} {body : List Stmt} {vals : List Value} {binds : List (Str × Value)} {RB : Heap → Prop} {Q : Value → Shared → Prop} {n : Nat}
    (hA : Ok (n + 1) A) (ho : s.heap.get? a = some o) (hdata : o.data = .func fd) (hlim : s.heap.NoLimit) (hcd : s.heap.CodeRec fd.code fd.qualname)
    (hbody : fd.body = .stmts body) (hclo : fd.closure = [])
    (hbind : Gives prog w A.in1 s.heap (bindArgs fd ⟨vals, []⟩) (fun b h' => b = binds ∧ RB h'))
    (hkind : ∀ k, ∀ x ∈ binds, fd.scope.names.lookup x.1 = some .local ∨ (fd.scope.names.lookup x.1 = some .cell ∧ ((cellsFrom k fd.scope.names []).lookup x.1).isSome = true))
    (h : ∀ L h₀ h₁ tk (E' : Value → Shared → Prop), s.heap.get? L = none → h₀.get? L = none → Kp s.heap h₀ → RB h₀ → Kp h₀ h₁ → Fra (callEnvC fd L a) h₁ (bindL (callEnvC fd L a).kindOf binds fun _ => none) (bindC (callEnvC fd L a).kindOf binds fun _ => none) →
      (∀ b, OwnA (callEnvC fd L a) b → h₀.get? b = none) →
      Ok n (A.deeper (callEnvC fd L a)) →
      wpAny (model prog w) (A.deeper (callEnvC fd L a)) (execs body (callEnvC fd L a)) (fun f s' => Q (match f with | .ret v => v | _ => .none) s') E' { s with heap := h₁, toks := tk })
    (hco : fd.scope.isCoroutine = false := by rfl) (hgen : fd.scope.isGenerator = false := by rfl) (hk : fd.scope.kind = .function := by rfl) :
    wpAny (model prog w) A (call (.ref a) vals) Q E s := by
  refine wpAny_call (codeAny_call_function hA.room ho hdata hco hgen hbody hcd ?_)
  refine hbind.use (Kp.refl _) fun b h₀ t₀ hk₀ hb => ?_
  refine el0_2 hb fun r1_ hRB => ?_
  try clear hb
  obtain rfl := r1_
  (refine rwR hclo ?_)
  refine wpAny_newFunctionEnv_cells hk (hkind _) fun env he s' x => ?_
  subst he
  refine el2_1 x.toInCall.same fun h₁ tk r2_ => ?_
  obtain rfl := r2_
  have none_of : ∀ b, h₀.objs.size ≤ b → h₀.get? b = none := fun b hb => by
    cases e : h₀.get? b with
    | none => rfl
    | some o => exact absurd (Heap.lt_size e) (Nat.not_lt.mpr hb)
  refine ⟨(hlim.keeps hk₀).keeps x.toInCall.keep, codeAny_func ?_⟩
  refine h h₀.objs.size h₀ h₁ tk _ ?_ (none_size h₀) hk₀ hRB x.toInCall.keep ⟨x.toInCall.ns, x.cell, x.apart, x.above⟩ ?_ hA.deeper
  · cases e : s.heap.get? h₀.objs.size with
    | none => rfl
    | some o => exact absurd (Heap.lt_size (hk₀ _ _ e)) (Nat.lt_irrefl _)
  · intro b hb
    rcases hb with rfl | ⟨nm, hb⟩
    · exact none_size h₀
    · exact none_of b (Nat.le_of_lt (x.above nm b (mem_of_lookup hb)))
theorem for_rule {x : Str} {px pos : Pos} {iter : Expr} {body : List Stmt} {h : Heap} {Rit : Value → Heap → Prop} {n : Nat} {P : Nat → Value → Prop} {src : List Addr} {Q : Flow → Shared → Prop}
    (J : (Addr → Prop) → (Addr → Prop) → Nat → Shared → Prop)
    (hit : Gives prog w A h (eval iter env) Rit) (hk : Kp h s.heap) (hI : ∀ xv h1, Kp s.heap h1 → Rit xv h1 → ItrS prog w A h1 xv n P src)
    (hs : ∀ x, foldedSetIterable iter env x = pure x)
    (jframe : ∀ Pr Wr i (s₁ : Shared) h' tk, J Pr Wr i s₁ → (∀ b o, ¬ Wr b → s₁.heap.get? b = some o → h'.get? b = some o) → J Pr Wr i { s₁ with heap := h', toks := tk })
    (start : ∀ (Pr Wr : Addr → Prop) xv h₀ h₁ tk, Kp s.heap h₀ → Rit xv h₀ → Kp h₀ h₁ → (∀ b, Wr b → Pr b) → (∀ b, Pr b → b ∈ src ∨ h₀.get? b = none) → (∀ b, Pr b → b < h₁.objs.size) → (∀ b, Wr b → h₀.get? b = none) → J Pr Wr 0 { s with heap := h₁, toks := tk })
    (turn : ∀ (Pr Wr : Addr → Prop) i v (s₁ : Shared) (E' : Value → Shared → Prop), i < n → P i v → J Pr Wr i s₁ → (∀ b, Pr b → ∃ o, s₁.heap.get? b = some o) →
      wpAny (model prog w) A (assign (.Name x px) env v) (fun _ s₂ => wpAny (model prog w) A (execs body env) (fun f s₃ => match f with
        | .next => J Pr Wr (i + 1) s₃ ∧ ∀ b o, Pr b → s₁.heap.get? b = some o → s₃.heap.get? b = some o
        | .cont => J Pr Wr (i + 1) s₃ ∧ ∀ b o, Pr b → s₁.heap.get? b = some o → s₃.heap.get? b = some o
        | .brk => Q .next s₃
        | .ret v => Q (.ret v) s₃) E' s₂) E' s₁)
    (fin : ∀ Pr Wr s₁, J Pr Wr n s₁ → Q .next s₁) :
    wpAny (model prog w) A (exec (.For (.Name x px) iter body [] pos) env) Q E s := by
  refine wpAny_For (hit.use hk fun xv h₀ t₀ hk₀ hx => ?_) hs
  refine hI xv h₀ hk₀ hx _ _ _ (Kp.refl _) fun I fp wr St h₁ t₁ W st0 hk₁ hlt hfp hwr hlive _ => ?_
  refine codeAny_forLoop (fun k s' => ∃ i, St i s'.heap ∧ J (· ∈ fp) (· ∈ wr) i s' ∧ i ≤ n ∧ k = n + 1 - i) ?_ (n + 1)
    ⟨0, st0, start _ _ xv h₀ h₁ t₁ hk₀ hx hk₁ (fun b hb => W.sub b hb) (fun b hb => (hfp b hb).symm) hlt hwr, Nat.zero_le _, rfl⟩
  intro k s' z3_
  refine el1_4 z3_ fun i st hj hi r4_ => ?_
  try clear z3_
  obtain rfl := r4_
  by_cases hlt' : i < n
  · refine W.item i s' _ _ hlt' st fun v h₂ t₂ hPv st₂ hk₂ => ?_
    have hj₂ := jframe _ _ i s' h₂ t₂ hj fun b o hb e => hk₂ b o hb e
    refine wpAny_mono (turn _ _ i v _ _ hlt' hPv hj₂ (fun b hb => hlive _ _ st₂ b hb)) (fun _ s₂ hb => wpAny_mono hb (fun f s₃ hf => ?_) fun _ _ e => e) fun _ _ e => e
    cases f with
    | next => exact ⟨n + 1 - (i + 1), by (exact Nat.sub_lt_sub_left (Nat.lt_succ_of_lt (by assumption)) (Nat.lt_succ_self _)), i + 1, W.frame _ _ _ st₂ fun b hb o e => hf.2 b o hb e, hf.1, hlt', rfl⟩
    | cont => exact ⟨n + 1 - (i + 1), by (exact Nat.sub_lt_sub_left (Nat.lt_succ_of_lt (by assumption)) (Nat.lt_succ_self _)), i + 1, W.frame _ _ _ st₂ fun b hb o e => hf.2 b o hb e, hf.1, hlt', rfl⟩
    | brk => exact hf
    | ret v => exact hf
  · have hin : i = n := by (exact Nat.le_antisymm (by assumption) (Nat.le_of_not_lt (by assumption)))
    subst hin
    refine W.done s' _ _ st fun h₂ t₂ hk₂ => ?_
    exact wpAny_execs_nil (fin _ _ _ (jframe _ _ i s' h₂ t₂ hj fun b o hb e => hk₂ b o hb e))
end
end Mine
end
section
open PySem PySem.Calls PySem.W PyProof.Rows
set_option maxRecDepth 100000
set_option genInjectivity false
set_option genSizeOf false
set_option genSizeOfSpec false
namespace Mine
noncomputable def stP : Stmt → List Stmt × List Stmt × Expr × Arguments × Scope
  | .FunctionDef _ a b _ _ _ s _ _ _ => (b, [], .Constant .none 0 ⟨0, 0, 0, 0⟩, a, s)
  | .ClassDef _ _ _ b _ _ _ _ _ _ _ => (b, [], .Constant .none 0 ⟨0, 0, 0, 0⟩, ⟨[], [], none, [], [], none, []⟩, ⟨.function, [], false, false, []⟩)
  | .For _ _ b _ _ => (b, [], .Constant .none 0 ⟨0, 0, 0, 0⟩, ⟨[], [], none, [], [], none, []⟩, ⟨.function, [], false, false, []⟩)
  | .While _ b _ _ => (b, [], .Constant .none 0 ⟨0, 0, 0, 0⟩, ⟨[], [], none, [], [], none, []⟩, ⟨.function, [], false, false, []⟩)
  | .If t b e _ => (b, e, t, ⟨[], [], none, [], [], none, []⟩, ⟨.function, [], false, false, []⟩)
  | .Assign _ v _ => ([], [], v, ⟨[], [], none, [], [], none, []⟩, ⟨.function, [], false, false, []⟩)
  | .Expr v _ => ([], [], v, ⟨[], [], none, [], [], none, []⟩, ⟨.function, [], false, false, []⟩)
  | _ => ([], [], .Constant .none 0 ⟨0, 0, 0, 0⟩, ⟨[], [], none, [], [], none, []⟩, ⟨.function, [], false, false, []⟩)
noncomputable def exP : Expr → Expr
  | .BinOp _ _ r _ => r
  | .Call _ (a :: _) _ _ => a
  | e => e
noncomputable def bodyOf (s : Stmt) : List Stmt := (stP s).1
noncomputable def argsOf (s : Stmt) : Arguments := (stP s).2.2.2.1
noncomputable def scopeOf (s : Stmt) : Scope := (stP s).2.2.2.2
noncomputable def topS (i : Nat) : Stmt := PySem.Challenge.pw_dq0084_01.main.body.getD i (.Pass ⟨0, 0, 0, 0⟩)
noncomputable def sorS (i : Nat) : Stmt := (bodyOf (topS 6)).getD i (.Pass ⟨0, 0, 0, 0⟩)
noncomputable def nodS (i : Nat) : Stmt := (bodyOf (topS 4)).getD i (.Pass ⟨0, 0, 0, 0⟩)
noncomputable def mkFd (nm q : Str) (st : Stmt) (dV pm : Value) (cd : Addr) : FuncData :=
  { name := nm, qualname := q, params := argsOf st, body := .stmts (bodyOf st), scope := scopeOf st, globals := mainGlobals, closure := [], defaults := dV, kwdefaults := .none, doc := .none, pyModule := pm, annotations := none, code := .ref cd, closureTuple := .none, builtins := builtinsNs }
noncomputable abbrev pmG : Value := .str "cpy313.graphlib" 194
noncomputable abbrev pmL : Value := .str "law_dq0084_01" 376
noncomputable abbrev fdFewest : FuncData := mkFd "_law_fewest" "_law_fewest" (topS 9) .none pmL 150
noncomputable abbrev fdLefts : FuncData := mkFd "_law_lefts" "_law_lefts" (topS 8) .none pmL 145
noncomputable abbrev fdLaw : FuncData := mkFd "law" "law" (topS 10) .none pmL 155
noncomputable abbrev fdNInit : FuncData := mkFd "__init__" "_NodeInfo.__init__" (nodS 1) .none pmG 35
noncomputable abbrev fdInit : FuncData := mkFd "__init__" "TopologicalSorter.__init__" (sorS 0) (.ref 66) pmG 72
noncomputable abbrev fdGet : FuncData := mkFd "_get_nodeinfo" "TopologicalSorter._get_nodeinfo" (sorS 1) .none pmG 79
noncomputable abbrev fdAdd : FuncData := mkFd "add" "TopologicalSorter.add" (sorS 2) .none pmG 86
noncomputable abbrev fdPrepare : FuncData := mkFd "prepare" "TopologicalSorter.prepare" (sorS 3) .none pmG 91
noncomputable abbrev fdReady : FuncData := mkFd "get_ready" "TopologicalSorter.get_ready" (sorS 4) .none pmG 98
noncomputable abbrev fdActive : FuncData := mkFd "is_active" "TopologicalSorter.is_active" (sorS 5) .none pmG 105
noncomputable abbrev fdDone : FuncData := mkFd "done" "TopologicalSorter.done" (sorS 7) .none pmG 119
noncomputable abbrev fdCycle : FuncData := mkFd "_find_cycle" "TopologicalSorter._find_cycle" (sorS 8) .none pmG 126
noncomputable def FnAt (w : World) (a : Addr) (fd : FuncData) : Prop := ∃ d sl, (K w).lookup a = some ⟨.type "function", d, .func fd, sl⟩
theorem fn_fewest (w : World) : FnAt w 151 fdFewest := ⟨_, _, rfl⟩
theorem fn_lefts (w : World) : FnAt w 146 fdLefts := ⟨_, _, rfl⟩
theorem fn_law (w : World) : FnAt w 156 fdLaw := ⟨_, _, rfl⟩
theorem fn_ninit (w : World) : FnAt w 36 fdNInit := ⟨_, _, rfl⟩
theorem fn_init (w : World) : FnAt w 73 fdInit := ⟨_, _, rfl⟩
theorem fn_get (w : World) : FnAt w 80 fdGet := ⟨_, _, rfl⟩
theorem fn_add (w : World) : FnAt w 87 fdAdd := ⟨_, _, rfl⟩
theorem fn_prepare (w : World) : FnAt w 92 fdPrepare := ⟨_, _, rfl⟩
theorem fn_ready (w : World) : FnAt w 99 fdReady := ⟨_, _, rfl⟩
theorem fn_active (w : World) : FnAt w 106 fdActive := ⟨_, _, rfl⟩
theorem fn_done (w : World) : FnAt w 120 fdDone := ⟨_, _, rfl⟩
theorem fn_cycle (w : World) : FnAt w 127 fdCycle := ⟨_, _, rfl⟩
theorem cd_fewest (w : World) : codeIn (K w) (.ref 150) "_law_fewest" = true := by kernel_rfl
end Mine
end
section
open PySem PySem.Calls PySem.W PyProof.Rows
set_option maxRecDepth 100000
set_option genInjectivity false
set_option genSizeOf false
set_option genSizeOfSpec false
namespace Mine
inductive LI (h : Heap) (l : Addr) (ns : List Int) : Prop
  | mk (vs : List Value) (a : h.PlainList l (List.toArray vs)) (b : IntsAre vs ns) : LI h l ns
theorem LI.keeps {h h' : Heap} {l : Addr} {ns : List Int} (x : LI h l ns) (hk : Kp h h') : LI h' l ns := let ⟨vs, a, b⟩ := x; ⟨vs, a.at fun o e => hk _ o e, b⟩
theorem LI.at {h h' : Heap} {l : Addr} {ns : List Int} (x : LI h l ns) (hk : ∀ o, h.get? l = some o → h'.get? l = some o) : LI h' l ns := let ⟨vs, a, b⟩ := x; ⟨vs, a.at hk, b⟩
theorem IntsAre.allInts {vs : List Value} {ns : List Int} (x : IntsAre vs ns) : AllInts vs.toArray ∧ numsOf vs = ns := by
  induction x with
  | nil => exact ⟨fun v hv => by simp at hv, rfl⟩
  | cons n t _ ih =>
    refine ⟨fun v hv => ?_, by simp [numsOf, ih.2]⟩
    simp at hv
    rcases hv with rfl | hv
    · exact ⟨_, _, rfl⟩
    · exact ih.1 v (by simpa using hv)
theorem IntsAre.len {vs : List Value} {ns : List Int} (x : IntsAre vs ns) : vs.length = ns.length := by induction x <;> simp_all
theorem IntsAre.append {vs us : List Value} {ns ms : List Int} (x : IntsAre vs ns) (y : IntsAre us ms) : IntsAre (vs ++ us) (ns ++ ms) := by
  induction x with
  | nil => exact y
  | cons n t _ ih => exact .cons n t ih
theorem IntsAre.get {vs : List Value} {ns : List Int} (x : IntsAre vs ns) {i : Nat} {k : Int} (e : ns[i]? = some k) : ∃ t, vs[i]? = some (.int k t) := by
  induction x generalizing i with
  | nil => simp at e
  | cons n t _ ih =>
    cases i with
    | zero => simp at e; subst e; exact ⟨t, rfl⟩
    | succ i => simpa using ih (by simpa using e)
theorem IntsAre.get' {vs : List Value} {ns : List Int} (x : IntsAre vs ns) {i : Nat} {v : Value} (e : vs[i]? = some v) : ∃ k t, ns[i]? = some k ∧ v = .int k t := by
  induction x generalizing i with
  | nil => simp at e
  | cons n t _ ih =>
    cases i with
    | zero => simp at e; subst e; exact ⟨n, t, rfl, rfl⟩
    | succ i => simpa using ih (by simpa using e)
section
variable {prog : Program} {w : World} {A : Around} {h : Heap} {env : Env}
noncomputable abbrev NewL (h : Heap) (R : List Value → Heap → Prop) (v : Value) (h' : Heap) : Prop := ∃ D vs, v = .ref D ∧ h.get? D = none ∧ h'.PlainList D (List.toArray vs) ∧ R vs h'
theorem g_list0 {pos} : Gives prog w A h (eval (.List [] pos) env) (fun v h' => ∃ D, v = .ref D ∧ h.get? D = none ∧ h'.PlainList D #[]) := fun s E hs =>
  wpAny_List (wpAny_items_nil ⟨by simp, ⟨_, rfl, by
    cases e : h.get? s.heap.objs.size with
    | none => rfl
    | some o => exact absurd (Heap.lt_size (hs _ _ e)) (Nat.lt_irrefl _), 0, Heap.get?_push_size _ rfl⟩, _, _, rfl, Kp.push _ _⟩)
theorem g_list1 {e pos} {R : Value → Heap → Prop} (x : Gives prog w A h (eval e env) R) (hse : starEach [e] env = [(false, eval e env)] := by rfl) :
    Gives prog w A h (eval (.List [e] pos) env) (fun v h' => ∃ D u h1, v = .ref D ∧ h.get? D = none ∧ h'.PlainList D #[u] ∧ R u h1 ∧ Kp h1 h') := fun s E hs => by
  refine wpAny_List ?_
  (refine rwR hse ?_)
  show wpAny _ _ (spliced [(false, eval e env)]) _ _ _
  refine Calls.spliced_cons (x.use hs fun u h1 t1 hk1 hR => Calls.spliced_nil ⟨by (refine rwR sizeLine_eq ?_); simp, ⟨_, u, h1, rfl, ?_, ⟨0, Heap.get?_push_size _ rfl⟩, hR, Kp.push _ _⟩, _, _, rfl, hk1.trans (Kp.push _ _)⟩)
  cases e : h.get? h1.objs.size with
  | none => rfl
  | some o => exact absurd (Heap.lt_size (hk1 _ _ (hs _ _ e))) (Nat.lt_irrefl _)
theorem plain_isL {h : Heap} {l : Addr} {items : Array Value} (x : h.PlainList l items) : ∃ n, IsL h l items n := x
theorem g_cat {l r pos} {R1 R2 : Value → Heap → Prop} {vs us : List Value} (x : Gives prog w A h (eval l env) R1) (y : Gives prog w A h (eval r env) R2) (m1 : ∀ v a b, Kp a b → R1 v a → R1 v b)
    (p1 : ∀ v h', R1 v h' → ∃ a vs, v = .ref a ∧ h'.PlainList a (List.toArray vs) ∧ vs.length ≤ 100000) (p2 : ∀ v h', R2 v h' → ∃ a vs, v = .ref a ∧ h'.PlainList a (List.toArray vs) ∧ vs.length ≤ 100000) :
    Gives prog w A h (eval (.BinOp l .Add r pos) env) (fun v h' => ∃ D a b vs us h1, v = .ref D ∧ h.get? D = none ∧ h'.PlainList D (List.toArray (vs ++ us)) ∧ R1 (.ref a) h1 ∧ R2 (.ref b) h1 ∧ h1.PlainList a (List.toArray vs) ∧ h1.PlainList b (List.toArray us) ∧ Kp h1 h') :=
  g_binop x y m1 fun a b h' hk ha hb => by
    refine el2_3 (p1 a h' ha) fun la vs r1_ hla hza => ?_
    obtain rfl := r1_
    refine el2_3 (p2 b h' hb) fun lb us r2_ hlb hzb => ?_
    obtain rfl := r2_
    refine el1_1 (plain_isL hla) fun na ha' => ?_
    refine el1_1 (plain_isL hlb) fun nb hb' => ?_
    intro s E hs
    refine PySem.P.add_list (hs _ _ ha') (hs _ _ hb') ⟨⟨_, la, lb, vs, us, h', rfl, ?_, ⟨0, ?_⟩, ha, hb, hla, hlb, hs.trans (Kp.push _ _)⟩, _, _, rfl, Kp.push _ _⟩ (by simp only [List.size_toArray]; (refine rwR sizeLine_eq ?_); lia)
    · cases e : h.get? s.heap.objs.size with
      | none => rfl
      | some o => exact absurd (Heap.lt_size (hs _ _ (hk _ _ e))) (Nat.lt_irrefl _)
    · have := Heap.get?_push_size s.heap (o := { cls := .type "list", data := .seq (vs.toArray ++ us.toArray) }) rfl
      simpa using this
theorem gb_eqnil {l p pos whole} {R1 : Value → Heap → Prop} {b : Bool} (hu : A.units + 64 < cLine) (x : Gives prog w A h (eval l env) R1) (m1 : ∀ v a b, Kp a b → R1 v a → R1 v b)
    (p1 : ∀ v h', R1 v h' → ∃ a ns, v = .ref a ∧ LI h' a ns ∧ decide (ns = []) = b)
    (hm : behindInMarks .Eq (.List [] p) = false := by with_unfolding_all rfl) :
    GB prog w A h (isTrue (.Compare l [.Eq] [.List [] p] pos) env whole) b :=
  g_test x g_list0 m1 (fun a b' h' hk ha hb => by
    refine el2_3 (p1 a h' ha) fun la ns r3_ q4_ r5_ => ?_
    obtain rfl := r3_
    obtain ⟨vs, hl, hi⟩ := q4_
    try clear q4_
    obtain rfl := r5_
    refine el1_3 hb fun D r6_ _ hD => ?_
    try clear hb
    obtain rfl := r6_
    intro s E hs
    exact eq_intsK ((hl.at fun o e => hs _ o e).isList) hi (vs := vs) (us := []) (ms := []) ((hD.at fun o e => hs _ o e).isList) .nil hu ⟨rfl, keeps_refl s⟩) hm
theorem gb_nenil {l p pos whole} {R1 : Value → Heap → Prop} {b : Bool} (hu : A.units + 64 < cLine) (x : Gives prog w A h (eval l env) R1) (m1 : ∀ v a b, Kp a b → R1 v a → R1 v b)
    (p1 : ∀ v h', R1 v h' → ∃ a ns, v = .ref a ∧ LI h' a ns ∧ (!decide (ns = [])) = b)
    (hm : behindInMarks .NotEq (.List [] p) = false := by with_unfolding_all rfl) :
    GB prog w A h (isTrue (.Compare l [.NotEq] [.List [] p] pos) env whole) b :=
  g_test x g_list0 m1 (fun a b' h' hk ha hb => by
    refine el2_3 (p1 a h' ha) fun la ns r7_ q8_ r9_ => ?_
    obtain rfl := r7_
    obtain ⟨vs, hl, hi⟩ := q8_
    try clear q8_
    obtain rfl := r9_
    refine el1_3 hb fun D r10_ _ hD => ?_
    try clear hb
    obtain rfl := r10_
    intro s E hs
    exact ne_intsK ((hl.at fun o e => hs _ o e).isList) hi (vs := vs) (us := []) (ms := []) ((hD.at fun o e => hs _ o e).isList) .nil hu ⟨rfl, keeps_refl s⟩) hm
theorem call_min {l : Addr} {ns : List Int} (hh : A.handled = none) (hl : LI h l ns) (hne : ns ≠ []) :
    Gives prog w A h (call (.builtin "min") [.ref l]) (fun v _ => ∃ M, isI M v ∧ M ∈ ns ∧ ∀ a ∈ ns, M ≤ a) := fun s E hs => by
  obtain ⟨vs, t11_, hi⟩ := hl
  try clear hl
  revert t11_
  intro hl
  refine el0_2 (IntsAre.allInts hi) fun hall hn => ?_
  refine el1_1 hall.items fun xs hxs => ?_
  have hnn : xs.toList.map (·.1) = ns := by (refine rwL (nums_intItems _) ?_; refine rwL hxs ?_); exact hn
  have hlen : xs.size = ns.length := by (refine rwL hnn ?_); simp
  have hpos : 0 < xs.size := by (refine rwR hlen ?_); exact List.length_pos_iff.mpr hne
  refine min_intList hh (hxs ▸ (hl.at fun o e => hs _ o e).isList) hpos fun v h' tk hv hk => ?_
  refine el1_1 (intItems_at hv) fun t r12_ => ?_
  obtain rfl := r12_
  refine el0_2 (argBest_lt (numAt xs) (xs.size - 1)) fun h1 h2 => ?_
  refine ⟨⟨_, ⟨t, rfl⟩, ?_, fun a ha => ?_⟩, h', tk, rfl, hk⟩
  · (refine rwR (numAt_eq _ _) ?_; refine rwR hnn ?_); exact getD_mem (by lia)
  · (replace ha := Eq.symm hnn ▸ ha)
    refine el1_2 (mem_getD ha) fun j hj r13_ => ?_
    obtain rfl := r13_
    (replace hj := (List.length_map _) ▸ hj; replace hj := Array.length_toList ▸ hj)
    (refine rwL (numAt_eq _ _) ?_); exact h2 j (by (exact Nat.le_sub_one_of_lt (by assumption)))
theorem call_sum {l : Addr} {ns : List Int} (hh : A.handled = none) (hl : LI h l ns) :
    Gives prog w A h (call (.builtin "sum") [.ref l]) (fun v _ => isI ns.sum v) := fun s E hs => by
  obtain ⟨vs, t14_, hi⟩ := hl
  try clear hl
  revert t14_
  intro hl
  refine el0_2 (IntsAre.allInts hi) fun hall hn => ?_
  refine el1_1 hall.items fun xs hxs => ?_
  have hnn : xs.toList.map (·.1) = ns := by (refine rwL (nums_intItems _) ?_; refine rwL hxs ?_); exact hn
  refine sum_intListG hh (hxs ▸ (hl.at fun o e => hs _ o e).isList) fun h' tk t' hk => ⟨⟨t', ?_⟩, h', tk, rfl, hk⟩
  (refine rwR (preSum_eq _ _) ?_; refine rwR hnn ?_; refine rwR (List.take_of_length_le (by rw [← hnn]; simp)) ?_; with_reducible rfl)
theorem g_slice {value : Expr} {lower upper : Option Expr} {p pos : Pos} {l : Addr} {items : List Value} {lo hi : Option Int} (hlz : items.length ≤ 100000)
    (x : GV prog w A h (eval value env) (.ref l)) (hl : h.PlainList l (List.toArray items))
    (y : Gives prog w A h (evalPart lower env) (fun v _ => IsPart v lo)) (z : Gives prog w A h (evalPart upper env) (fun v _ => IsPart v hi))
    (ht : ∀ o r, letTemporaryGo value o r = pure ()) :
    Gives prog w A h (eval (.Subscript value (.Slice lower upper none p) pos) env) (fun v h' => ∃ D, v = .ref D ∧ h.get? D = none ∧ h'.PlainList D (slicePick (List.toArray items) lo hi none)) := fun s E hs => by
  refine wpAny_Subscript_list_slice ?_ ht
  refine x.useV hs fun h1 t1 hk1 => ?_
  refine y.use (hs.trans hk1) fun v2 h2 t2 hk2 hv2 => ?_
  refine z.use ((hs.trans hk1).trans hk2) fun v3 h3 t3 hk3 hv3 => ?_
  refine ⟨l, List.toArray items, lo, hi, rfl, (hl.at fun o e => hk3 _ o (hk2 _ o (hk1 _ o (hs _ o e)))).isList, by (refine rwR List.size_toArray ?_; refine rwR sizeLine_eq ?_); (exact Nat.le_trans (by assumption) (by decide)), hv2, hv3, ⟨_, rfl, ?_, 0, ?_⟩, _, _, rfl, ((hk1.trans hk2).trans hk3).trans ((Kp.push _ _).trans (Kp.push _ _))⟩
  · cases e : h.get? (h3.objs.size + 1) with
    | none => rfl
    | some o => exact absurd (Heap.lt_size (hk3 _ _ (hk2 _ _ (hk1 _ _ (hs _ _ e))))) (Nat.not_lt.mpr (Nat.le_succ _))
  · have := Heap.get?_push_size (h3.push { cls := Value.type "slice", data := Data.fields #[v2, v3, Value.none] }) (o := { cls := Value.type "list", data := Data.seq (slicePick (List.toArray items) lo hi none) }) rfl
    (replace this := (Heap.size_push _ _) ▸ this)
    exact this
theorem part_none {lo : Option Int} (e : lo = none) : Gives prog w A h (evalPart none env) (fun v _ => IsPart v lo) := fun s E hs => by subst e; exact wpAny_evalPart_none ⟨.none, keeps_refl s⟩
theorem part_int {e : Expr} {i : Int} (x : GI prog w A h (eval e env) i) : Gives prog w A h (evalPart (some e) env) (fun v _ => IsPart v (some i)) := fun s E hs =>
  wpAny_evalPart_some (wpAny_mono (x s E hs) (fun v s1 z => ⟨by obtain ⟨t, rfl⟩ := z.1; exact .int _ _, z.2⟩) fun _ _ e => e)
end
end Mine
end
section
set_option genInjectivity false
set_option genSizeOf false
set_option genSizeOfSpec false
namespace Mine
noncomputable def bitsOf (n mask : Nat) : List Nat := (List.range n).filter fun j => mask / 2 ^ j % 2 == 1
noncomputable def picksStep (ah : Nat → Nat → Bool) (hands : Nat) (left : List Nat) (picks : List (List Nat)) (job : Nat) : List (List Nat) :=
  if (left.filter fun a => ah a job) = [] then picks ++ (picks.filter fun p => decide (p.length < hands)).map (· ++ [job]) else picks
noncomputable def picksOf (ah : Nat → Nat → Bool) (hands : Nat) (left : List Nat) : List (List Nat) := left.foldl (picksStep ah hands left) [[]]
noncomputable def maskOf (p : List Nat) : Nat := (p.map (2 ^ ·)).sum
noncomputable def IsMin (M : Int) (l : List Int) : Prop := M ∈ l ∧ ∀ a ∈ l, M ≤ a
structure FwOk (n hands : Nat) (ah : Nat → Nat → Bool) (fw : List Int) : Prop where
  zero : fw[0]? = some 0
  step : ∀ mask, 1 ≤ mask → mask < fw.length → ∃ M, IsMin M ((picksOf ah hands (bitsOf n mask)).tail.map fun p => fw.getD (mask - maskOf p) 0) ∧ fw[mask]? = some (1 + M)
theorem maskOf_append (a b : List Nat) : maskOf (a ++ b) = maskOf a + maskOf b := by simp [maskOf]
theorem bitsOf_lt {n mask j : Nat} (h : j ∈ bitsOf n mask) : j < n := by simp [bitsOf] at h; exact h.1
theorem bitsOf_len (n mask : Nat) : (bitsOf n mask).length ≤ n := by
  unfold bitsOf
  have := List.length_filter_le (fun j => mask / 2 ^ j % 2 == 1) (List.range n)
  simpa using this
theorem bitsOf_mod (n mask : Nat) : bitsOf n mask = bitsOf n (mask % 2 ^ n) := by
  unfold bitsOf
  apply List.filter_congr
  intro j hj
  simp at hj
  have h1 : (2 : Nat) ^ n = 2 ^ j * 2 ^ (n - j) := by (refine rwL (Nat.pow_add _ _ _) ?_); congr 1; (exact (Nat.add_sub_cancel' (Nat.le_of_lt (by assumption))).symm)
  have h2 : mask % 2 ^ n / 2 ^ j = mask / 2 ^ j % 2 ^ (n - j) := by (refine rwR h1 ?_; refine rwR (Nat.mod_mul_right_div_self _ _ _) ?_; with_reducible rfl)
  have h3 : (2 : Nat) ^ (n - j) = 2 * 2 ^ (n - j - 1) := by (refine rwL Nat.pow_succ' ?_); congr 1; (exact (Nat.succ_pred_eq_of_pos (Nat.sub_pos_of_lt (by assumption))).symm)
  (refine rwR h2 ?_; refine rwR h3 ?_; refine rwR (Nat.mod_mul_right_mod _ _ _) ?_; with_reducible rfl)
theorem maskOf_bitsOf : ∀ (n mask : Nat), mask < 2 ^ n → maskOf (bitsOf n mask) = mask
  | 0, mask, h => by simp at h; subst h; rfl
  | n + 1, mask, h => by
    have e : bitsOf (n + 1) mask = bitsOf n mask ++ (if mask / 2 ^ n % 2 == 1 then [n] else []) := by
      unfold bitsOf
      (refine rwR List.range_succ ?_; refine rwR (List.filter_append _ _) ?_)
      congr 1
      simp only [List.filter_cons, List.filter_nil]
    (refine rwR e ?_; refine rwR (bitsOf_mod _ _) ?_; refine rwR (maskOf_append _ _) ?_; refine rwR (maskOf_bitsOf n _ (Nat.mod_lt _ (Nat.two_pow_pos n))) ?_)
    have h1 := Nat.div_add_mod mask (2 ^ n)
    have h2 : mask / 2 ^ n < 2 := by (refine rwR (propext (Nat.div_lt_iff_lt_mul (Nat.two_pow_pos n))) ?_); (replace h := (Nat.pow_succ _ _) ▸ h); lia
    have h3 : mask / 2 ^ n = 0 ∨ mask / 2 ^ n = 1 := by generalize mask / 2 ^ n = q at h2; lia
    rcases h3 with h3 | h3
    · rw [h3] at h1 ⊢; simp [maskOf]; lia
    · rw [h3] at h1 ⊢; simp [maskOf]; lia
theorem maskOf_sublist {a b : List Nat} (h : a.Sublist b) : maskOf a ≤ maskOf b := by
  induction h with
  | slnil => exact Nat.le_refl _
  | cons x _ ih =>
    simp only [maskOf, List.map_cons, List.sum_cons] at *
    have := Nat.two_pow_pos x
    lia
  | cons_cons x _ ih => simp only [maskOf, List.map_cons, List.sum_cons] at *; lia
theorem maskOf_pos {a : List Nat} (h : a ≠ []) : 1 ≤ maskOf a := by
  cases a with
  | nil => exact absurd rfl h
  | cons x r => have := Nat.two_pow_pos x; simp [maskOf]; lia
theorem picks_inv (ah : Nat → Nat → Bool) (hands : Nat) (left : List Nat) : ∀ (todo done : List Nat) (picks : List (List Nat)), picks.head? = some [] → (∀ p ∈ picks.tail, p ≠ []) → (∀ p ∈ picks, p.Sublist done) →
    (∀ p ∈ picks, p.length ≤ hands) → picks.length ≤ 2 ^ done.length →
    let r := todo.foldl (picksStep ah hands left) picks
    r.head? = some [] ∧ (∀ p ∈ r.tail, p ≠ []) ∧ (∀ p ∈ r, p.Sublist (done ++ todo)) ∧ (∀ p ∈ r, p.length ≤ hands) ∧ r.length ≤ 2 ^ (done ++ todo).length
  | [], done, picks, h1, h2, h3, h4, h5 => by simpa using ⟨h1, h2, h3, h4, h5⟩
  | j :: todo, done, picks, h1, h2, h3, h4, h5 => by
    have := picks_inv ah hands left todo (done ++ [j]) (picksStep ah hands left picks j) ?_ ?_ ?_ ?_ ?_
    · simpa using this
    · unfold picksStep
      split
      · (refine rwR (List.head?_append) ?_; refine rwR h1 ?_); rfl
      · exact h1
    · unfold picksStep
      split
      · cases picks with
        | nil => simp at h1
        | cons q r =>
          intro p hp
          simp only [List.cons_append, List.tail_cons, List.mem_append] at hp
          rcases hp with hp | hp
          · exact h2 p (by simpa using hp)
          · obtain ⟨q', _, rfl⟩ := List.mem_map.mp hp
            simp
      · exact h2
    · unfold picksStep
      split
      · intro p hp
        rcases List.mem_append.mp hp with hp | hp
        · exact (h3 p hp).trans (List.sublist_append_left _ _)
        · obtain ⟨q', hq, rfl⟩ := List.mem_map.mp hp
          exact (h3 q' (List.mem_filter.mp hq).1).append (List.Sublist.refl _)
      · intro p hp; exact (h3 p hp).trans (List.sublist_append_left _ _)
    · unfold picksStep
      split
      · intro p hp
        rcases List.mem_append.mp hp with hp | hp
        · exact h4 p hp
        · obtain ⟨q', hq, rfl⟩ := List.mem_map.mp hp
          have := (List.mem_filter.mp hq).2
          simp at this ⊢; lia
      · exact h4
    · have hp : (2 : Nat) ^ (done ++ [j]).length = 2 * 2 ^ done.length := by simp [Nat.pow_succ]; lia
      (refine rwR hp ?_)
      unfold picksStep
      split
      · have := List.length_filter_le (fun p : List Nat => decide (p.length < hands)) picks
        simp; lia
      · lia
theorem picks_facts (ah : Nat → Nat → Bool) (hands : Nat) (left : List Nat) : (picksOf ah hands left).head? = some [] ∧ (∀ p ∈ (picksOf ah hands left).tail, p ≠ []) ∧ (∀ p ∈ picksOf ah hands left, p.Sublist left) ∧
    (∀ p ∈ picksOf ah hands left, p.length ≤ hands) ∧ (picksOf ah hands left).length ≤ 2 ^ left.length := by
  have := picks_inv ah hands left left [] [[]] rfl (by simp) (by simp) (by simp) (by simp)
  simpa [picksOf] using this
theorem picks_tail_ne {ah : Nat → Nat → Bool} {hands : Nat} {left : List Nat} (hh : 1 ≤ hands) {job : Nat} (hj : job ∈ left) (hm : ∀ a ∈ left, ah a job = false) : [job] ∈ picksOf ah hands left := by
  have key : ∀ (todo : List Nat) (picks : List (List Nat)), ([] : List Nat) ∈ picks → (job ∈ todo ∨ [job] ∈ picks) → [job] ∈ todo.foldl (picksStep ah hands left) picks := by
    intro todo
    induction todo with
    | nil => intro picks _ h; rcases h with h | h; cases h; exact h
    | cons j todo ih =>
      intro picks h0 h
      refine ih _ ?_ ?_
      · unfold picksStep; split
        · exact List.mem_append_left _ h0
        · exact h0
      · rcases h with h | h
        · rcases List.mem_cons.mp h with rfl | h
          · right
            have e : (left.filter fun a => ah a job) = [] := by
              apply List.filter_eq_nil_iff.mpr
              intro a ha; (refine rwR (hm a ha) ?_); decide
            unfold picksStep
            (refine rwR (if_pos e) ?_)
            refine List.mem_append_right _ (List.mem_map.mpr ⟨[], List.mem_filter.mpr ⟨h0, ?_⟩, rfl⟩)
            simp; lia
          · exact .inl h
        · right
          unfold picksStep; split
          · exact List.mem_append_left _ h
          · exact h
  exact key left [[]] (by simp) (.inl hj)
end Mine
end
section
open PySem PySem.Calls PySem.W PyProof.Rows
set_option maxRecDepth 100000
set_option genInjectivity false
set_option genSizeOf false
set_option genSizeOfSpec false
namespace Mine
theorem ints_of_range {vs : List Value} {n : Nat} {a c : Int} (hl : vs.length = n) (hP : ∀ (j : Nat) (v : Value), vs[j]? = some v → j < n ∧ ∃ t, v = Value.int (a + j * c) t) : IntsAre vs ((List.range n).map fun j => a + (j : Nat) * c) := by
  have key : ∀ (us : List Value) (k : Nat), (∀ (j : Nat) (v : Value), us[j]? = some v → ∃ t, v = Value.int (a + ((k + j : Nat) : Int) * c) t) → IntsAre us ((List.range' k us.length).map fun j => a + (j : Nat) * c) := by
    intro us
    induction us with
    | nil => intro k _; exact .nil
    | cons u us ih =>
      intro k h
      refine el1_1 (h 0 u rfl) fun t r1_ => ?_
      obtain rfl := r1_
      (refine rwR List.length_cons ?_; refine rwR List.range'_succ ?_; refine rwR List.map_cons ?_)
      refine .cons _ t (ih (k + 1) fun j v e => ?_)
      refine el1_1 (h (j + 1) v (by simpa using e)) fun t' e' => ?_
      exact ⟨t', by (refine rwR e' ?_; refine rwR (show k + (j + 1) = k + 1 + j by lia) ?_; with_reducible rfl)⟩
  have := key vs 0 fun j v e => by simpa using (hP j v e).2
  (replace this := hl ▸ this)
  rwa [List.range_eq_range']
theorem ints_filter {p : Value → Bool} {q : Int → Bool} {vs : List Value} {ns : List Int} (x : IntsAre vs ns) (hp : ∀ i t, i ∈ ns → p (.int i t) = q i) : IntsAre (vs.filter p) (ns.filter q) := by
  induction x with
  | nil => exact .nil
  | cons n t _ ih =>
    have h1 := hp n t (by simp)
    have ih' := ih fun i t hi => hp i t (by simp [hi])
    (refine rwR List.filter_cons ?_; refine rwR List.filter_cons ?_; refine rwR h1 ?_)
    split
    · exact .cons n t ih'
    · exact ih'
theorem ints_map {R : Value → Value → Prop} {f : Int → Int} {vs ys : List Value} {ns : List Int} (x : IntsAre vs ns) (h : All2 R vs ys) (hR : ∀ i t y, i ∈ ns → R (.int i t) y → isI (f i) y) : IntsAre ys (ns.map f) := by
  induction x generalizing ys with
  | nil => cases h; exact .nil
  | cons n t _ ih =>
    cases h with
    | cons h1 h2 =>
      refine el1_1 (hR n t _ (by simp) h1) fun t' r2_ => ?_
      obtain rfl := r2_
      exact .cons _ t' (ih h2 fun i t y hi => hR i t y (by simp [hi]))
theorem MadeL.ints {h₀ h : Heap} {n : Nat} {P : Nat → Value → Prop} {p : Value → Bool} {F : Value → Value → List (Addr × Obj) → Prop} {ys : List Value} (M : MadeL h₀ n P p F ys h) {ns : List Int} {q : Int → Bool} {f : Int → Int}
    (hP : ∀ vs : List Value, vs.length = n → (∀ j v, vs[j]? = some v → P j v) → IntsAre vs ns)
    (hp : ∀ i t, i ∈ ns → p (.int i t) = q i) (hF : ∀ i t y as, i ∈ ns → F (.int i t) y as → isI (f i) y) : IntsAre ys ((ns.filter q).map f) := by
  obtain ⟨vs, h1, h2, h3⟩ := M
  try clear M
  have x := ints_filter (hP vs h1 h2) hp
  refine ints_map x h3 fun i t y hi ⟨as, _, hf⟩ => hF i t y as (List.mem_filter.mp hi).1 hf
theorem ints_of_items {vs us : List Value} {ns : List Int} (x : IntsAre vs ns) (hl : us.length = (List.toArray vs).size) (hP : ∀ (j : Nat) (v : Value), us[j]? = some v → (List.toArray vs)[j]? = some v) : IntsAre us ns := by
  have : us = vs := by
    apply List.ext_getElem?
    intro j
    cases e : us[j]? with
    | some v => have := hP j v e; simpa using this.symm
    | none =>
      have : us.length ≤ j := List.getElem?_eq_none_iff.mp e
      (replace hl := List.size_toArray ▸ hl)
      exact (List.getElem?_eq_none (by lia)).symm
  (refine rwR this ?_); exact x
inductive LLI (h : Heap) (l : Addr) (nss : List (List Int)) : Prop
  | mk (rs : List Addr) (a : h.PlainList l (List.toArray (rs.map Value.ref))) (b : All2 (fun r ns => LI h r ns) rs nss) : LLI h l nss
inductive MatAt (h : Heap) (a : Addr) (n : Nat) (ah : Nat → Nat → Bool) : Prop
  | mk (rows : List Addr) (h1 : rows.length = n) (h2 : h.PlainList a (List.toArray (rows.map Value.ref))) (h3 : ∀ (i : Nat) r, rows[i]? = some r → h.PlainList r (List.toArray ((List.range n).map fun j => Value.bool (ah i j)))) : MatAt h a n ah
theorem MatAt.keeps {h h' : Heap} {a : Addr} {n : Nat} {ah : Nat → Nat → Bool} (x : MatAt h a n ah) (hk : Kp h h') : MatAt h' a n ah :=
  let ⟨rows, h1, h2, h3⟩ := x; ⟨rows, h1, h2.at fun o e => hk _ o e, fun i r e => (h3 i r e).at fun o e => hk _ o e⟩
section
variable {prog : Program} {w : World} {A : Around} {h : Heap} {env : Env}
theorem g_mat {va ea eb : Expr} {p1 p2 : Pos} {a : Addr} {n i j : Nat} {ah : Nat → Nat → Bool} (M : MatAt h a n ah) (hi : i < n) (hj : j < n) (hn : n ≤ 1000)
    (x : GV prog w A h (eval va env) (.ref a)) (y : GI prog w A h (eval ea env) i) (z : GI prog w A h (eval eb env) j)
    (h1 : ∀ o i, subscripted ea false o i = operate [o, i] (getItem o i)) (h2 : ∀ o i, subscripted eb false o i = operate [o, i] (getItem o i)) :
    GV prog w A h (eval (.Subscript (.Subscript va ea p1) eb p2) env) (.bool (ah i j)) := by
  obtain ⟨rows, hl, hr, hrow⟩ := M
  try clear M
  obtain ⟨r, er⟩ : ∃ r, rows[i]? = some r := ⟨rows[i]'(by (exact Nat.lt_of_lt_of_le (by assumption) (Nat.le_of_eq (Eq.symm (by assumption))))), by simp⟩
  refine g_item (l := r) (k := j) (items := List.toArray ((List.range n).map fun j => Value.bool (ah i j))) ?_ z (hrow i r er).isList (by lia) (by lia) (by simp [hj]) h2
  exact g_item x y hr.isList (by lia) (by lia) (by simp [er]) h1
end
end Mine
end
section
open PySem PySem.Calls PySem.W PyProof.Rows
set_option maxRecDepth 100000
set_option genInjectivity false
set_option genSizeOf false
set_option genSizeOfSpec false
namespace Mine
theorem Fra.cellIs {env : Env} {h : Heap} {m cm : Str → Option Value} (F : Fra env h m cm) {x : Str} {c : Addr} {v : Value} (hc : env.cells.lookup x = some c) (hv : cm x = some v) : h.IsCell c (some v) := hv ▸ F.cell x c hc
noncomputable def toI (l : List Nat) : List Int := l.map fun (j : Nat) => (j : Int)
noncomputable abbrev eF (L : Addr) : Env := callEnvC fdFewest L 151
noncomputable def forBody (s : Stmt) : List Stmt := (stP s).1
noncomputable def cmpL (s : Stmt) : Expr := (stP s).2.2.1
noncomputable def fwBody : List Stmt := bodyOf (topS 9)
noncomputable def fwLoop : List Stmt := forBody (fwBody.getD 1 (.Pass ⟨0, 0, 0, 0⟩))
section
variable {prog : Program} {w : World} {A : Around}
theorem n_len {h : Heap} {env : Env} {pos : Pos} (S : Sta w h) (hk : env.scope.kind = .function) (hx : env.kindOf "len" = some .globalImplicit) (hg : env.globals = mainGlobals) (hb : env.builtins = builtinsNs) :
    GV prog w A h (eval (.Name "len" pos) env) (.builtin "len") := g_builtin S (by kernel_rfl) (by decide +kernel) (by decide) hk hx hg hb
theorem n_range {h : Heap} {env : Env} {pos : Pos} (S : Sta w h) (hk : env.scope.kind = .function) (hx : env.kindOf "range" = some .globalImplicit) (hg : env.globals = mainGlobals) (hb : env.builtins = builtinsNs) :
    GV prog w A h (eval (.Name "range" pos) env) (.type "range") := g_builtin S (by kernel_rfl) (by decide +kernel) (by decide) hk hx hg hb
theorem n_min {h : Heap} {env : Env} {pos : Pos} (S : Sta w h) (hk : env.scope.kind = .function) (hx : env.kindOf "min" = some .globalImplicit) (hg : env.globals = mainGlobals) (hb : env.builtins = builtinsNs) :
    GV prog w A h (eval (.Name "min" pos) env) (.builtin "min") := g_builtin S (by kernel_rfl) (by decide +kernel) (by decide) hk hx hg hb
theorem n_sum {h : Heap} {env : Env} {pos : Pos} (S : Sta w h) (hk : env.scope.kind = .function) (hx : env.kindOf "sum" = some .globalImplicit) (hg : env.globals = mainGlobals) (hb : env.builtins = builtinsNs) :
    GV prog w A h (eval (.Name "sum" pos) env) (.builtin "sum") := g_builtin S (by kernel_rfl) (by decide +kernel) (by decide) hk hx hg hb
theorem g_range1 {h : Heap} {env : Env} {e : Expr} {p pos : Pos} {n : Nat} (f : GV prog w A h (eval (.Name "range" p) env) (.type "range")) (x : GI prog w A h (eval e env) n) (hs : starEach [e] env = [(false, eval e env)] := by rfl) :
    Gives prog w A h (eval (.Call (.Name "range" p) [e] [] pos) env) (fun v h' => ∃ r t u z, v = .ref r ∧ IsRange h' r 0 n 1 t u z) :=
  g_call1t f x (fun v h' hk hv => by
    obtain ⟨t, rfl⟩ := hv
    exact fun s E hs => call_range_1 ⟨⟨_, _, _, _, rfl, IsRange.new s.heap 0 n 1 _ _ _⟩, _, _, rfl, Kp.push _ _⟩) hs
theorem itr_range1 {h : Heap} {r : Addr} {n : Nat} {t u z : Tok} (hh : A.handled = none) (hn : n ≤ 1000000) (hr : IsRange h r 0 n 1 t u z) : ItrS prog w A h (.ref r) n (fun i v => i < n ∧ ∃ t, v = .int (0 + i * 1) t) [] :=
  itr_range hh hr (small_one (by decide) (by decide) (by lia) (by lia)) (by (refine rwR (rangeSize_one _ _) ?_); split <;> lia)
theorem gv_int {h : Heap} {t : Sem Value} {i : Int} {tk : Tok} (x : GV prog w A h t (.int i tk)) : GI prog w A h t i := x.mono fun v _ _ hv => ⟨tk, hv⟩
theorem two_pow_int_pos (i : Nat) : 0 < (2 : Int) ^ i := Int.pow_pos (by decide)
theorem two_pow_int_lt {i : Nat} (h : i < 16) : (2 : Int) ^ i < 1000000 := by
  have h1 : (2 : Nat) ^ i ≤ 2 ^ 15 := Nat.pow_le_pow_right (by decide) (by (exact Nat.le_sub_one_of_lt (by assumption)))
  have h2 : ((2 ^ i : Nat) : Int) = (2 : Int) ^ i := by simp
  lia
theorem mask_bit (mask i : Nat) : (((mask : Int) / (2 : Int) ^ i % 2) == 1) = decide (mask / 2 ^ i % 2 = 1) := by
  have h2 : (2 : Int) ^ i = ((2 ^ i : Nat) : Int) := by simp
  (refine rwR h2 ?_)
  have h3 : (mask : Int) / ((2 ^ i : Nat) : Int) % 2 = ((mask / 2 ^ i % 2 : Nat) : Int) := by norm_cast
  (refine rwR h3 ?_)
  by_cases hq : mask / 2 ^ i % 2 = 1
  · (refine rwR hq ?_); rfl
  · (refine rwR (decide_eq_false hq) ?_)
    apply beq_eq_false_iff_ne.mpr
    intro e; apply hq; exact_mod_cast e
theorem g_lenMat {h : Heap} {env : Env} {e : Expr} {p pos : Pos} {a : Addr} {n : Nat} {ah : Nat → Nat → Bool} (hM : MatAt h a n ah) (hn : n ≤ 1000) (f : GV prog w A h (eval (.Name "len" p) env) (.builtin "len")) (x : GV prog w A h (eval e env) (.ref a))
    (hs : starEach [e] env = [(false, eval e env)] := by rfl) : GI prog w A h (eval (.Call (.Name "len" p) [e] [] pos) env) n := by
  obtain ⟨rows, h1, h2, _⟩ := hM
  try clear hM
  have := gi_len (pos := pos) f x h2.isList (by simp; lia) hs
  simpa [h1] using this
theorem fw_left {h : Heap} {L : Addr} {m cm : Str → Option Value} {aA : Addr} {n mask : Nat} {ah : Nat → Nat → Bool} {tm : Tok} (hA : Ok 5 A) (S : Sta w h) (F : Fra (eF L) h m cm) (ha : cm "ahead" = some (.ref aA)) (hM : MatAt h aA n ah) (hn : n ≤ 8) (hmk : cm "mask" = some (.int mask tm)) (hmask : mask < 1000)
    {s : Shared} {E : Value → Shared → Prop} {Q : Flow → Shared → Prop} (hs : s.heap = h)
    (k : ∀ D h' tk, s.heap.get? D = none → LI h' D (toI (bitsOf n mask)) → Fra (eF L) h' (upd m "left" (.ref D)) cm → (∀ b o, b ≠ L → s.heap.get? b = some o → h'.get? b = some o) → Q .next { s with heap := h', toks := tk }) :
    wpAny (model prog w) A (exec (fwLoop.getD 0 (.Pass ⟨0, 0, 0, 0⟩)) (eF L)) Q E s := by
  subst hs
  refine CompRun.assign (h := s.heap) (comp_local (n := n) (P := fun i v => i < n ∧ ∃ t, v = .int (0 + i * 1) t) (cl := [("mask", L + 1 + 1 + 1 + 1)]) rfl (by decide) rfl (by (exact Nat.le_trans (by assumption) (by decide)))
    (g_range1 (n_range S rfl rfl rfl rfl) (g_lenMat hM (by (exact Nat.le_trans (by assumption) (by decide))) (n_len S rfl rfl rfl rfl) (g_cell rfl rfl rfl (F.cellIs rfl ha))))
    (fun x h1 hk hx => by obtain ⟨r, t, u, z, rfl, hr⟩ := hx; exact ⟨_, itr_range1 hA.hd (by (exact Nat.le_trans (by assumption) (by decide))) hr⟩)
    (fun v => match v with | .int i _ => decide ((mask / 2 ^ i.toNat) % 2 = 1) | _ => false) (fun v y as => as = [] ∧ y = v) ?_ ?_) rfl rfl rfl (by decide) (fun _ => rfl) rfl rfl (Kp.refl _) F.ns ?_
  · intro C i v h' m' hk z1_ hm hv
    obtain ⟨hi, t, r2_⟩ := z1_
    try clear z1_
    obtain rfl := r2_
    have e : (0 : Int) + (i : Int) * 1 = (i : Int) := by (with_reducible exact Mine.zi _)
    rw [e] at hv ⊢
    refine gives_tests_one ((gb_eq (gi_mod (by decide) (by decide) (gi_div (two_pow_int_pos i) (two_pow_int_lt (by (with_reducible exact Nat.lt_of_lt_of_le (by assumption) (Nat.le_trans (by assumption) (by decide))))) (gv_int (g_cell rfl rfl rfl ((F.cellIs rfl hmk).keeps hk))) (gi_pow2 (by (exact Nat.le_trans (Nat.le_of_lt (by assumption)) (Nat.le_trans (by assumption) (by decide)))) g_int (gv_int (g_local rfl rfl hm hv)))) g_int) g_int).mono fun b _ _ hb => ?_)
    (refine rwR hb ?_; refine rwR (mask_bit _ _) ?_)
    simp
  · intro C i v h' m' hk z3_ hp hm hv
    obtain ⟨hi, t, r4_⟩ := z3_
    try clear z3_
    obtain rfl := r4_
    exact (g_local rfl rfl hm hv).mono fun v h'' hk hv => ⟨[], by simp, rfl, hv⟩
  · intro D vs h' tk hD hDL hl hM' hns hkk
    refine k D h' tk hD ⟨vs, hl, ?_⟩ ⟨hns, fun n c e => ?_, F.apart, F.above⟩ hkk
    · have x := hM'.ints (ns := (List.range n).map fun j => (0 : Int) + (j : Nat) * 1) (q := fun i => decide ((mask / 2 ^ i.toNat) % 2 = 1)) (f := id) (fun vs h1 h2 => ints_of_range h1 h2) (fun i t _ => rfl) (fun i t y as _ hf => ⟨t, hf.2⟩)
      have e : List.map id (List.filter (fun i => decide (mask / 2 ^ Int.toNat i % 2 = 1)) (List.map (fun j : Nat => (0 : Int) + (j : Nat) * 1) (List.range n))) = toI (bitsOf n mask) := by
        (refine rwR (List.map_id _) ?_; refine rwR List.filter_map ?_)
        unfold toI bitsOf
        have : ((fun i : Int => decide (mask / 2 ^ i.toNat % 2 = 1)) ∘ fun j : Nat => (0 : Int) + (j : Nat) * 1) = fun j : Nat => mask / 2 ^ j % 2 == 1 := by
          funext j; (refine rwR (propext Bool.eq_iff_iff) ?_); simp [Function.comp]
        (refine rwR this ?_)
        apply List.map_congr_left
        intro j _; (with_reducible exact Mine.zi _)
      (replace x := e ▸ x); exact x
    · have hc := F.cell n c e
      have : L < c := F.above n c (mem_of_lookup e)
      refine el1_2 hc fun o ho hd => ?_
      try clear hc
      exact ⟨o, hkk _ _ (Nat.ne_of_gt this) ho, hd⟩
end
end Mine
end
section
open PySem PySem.Calls PySem.W PyProof.Rows
set_option maxRecDepth 100000
set_option genInjectivity false
set_option genSizeOf false
set_option genSizeOfSpec false
namespace Mine
noncomputable def lenAt (h : Heap) (r : Addr) : Nat := match h.get? r with
  | some o => (match o.data with | .seq xs _ => xs.size | _ => 0)
  | none => 0
theorem lenAt_LI {h : Heap} {r : Addr} {ns : List Int} (x : LI h r ns) : lenAt h r = ns.length := by
  obtain ⟨vs, q1_, hi⟩ := x
  try clear x
  refine el1_1 q1_ fun k e => ?_
  try clear q1_
  unfold lenAt; (refine rwR e ?_); simp [IntsAre.len hi]
theorem all2_get {α β : Type} {F : α → β → Prop} {l : List α} {m : List β} (x : All2 F l m) {i : Nat} {a : α} (e : l[i]? = some a) : ∃ b, m[i]? = some b ∧ F a b := by
  induction x generalizing i with
  | nil => cases e
  | cons h _ ih =>
    cases i with
    | zero => cases e; exact ⟨_, rfl, h⟩
    | succ i => exact ih e
theorem all2_mem {α β : Type} {F : α → β → Prop} {l : List α} {m : List β} (x : All2 F l m) {a : α} (ha : a ∈ l) : ∃ b ∈ m, F a b := by
  refine el1_1 (List.mem_iff_getElem?.mp ha) fun i e => ?_
  refine el1_2 (all2_get x e) fun b eb hb => ?_
  exact ⟨b, List.mem_of_getElem? eb, hb⟩
theorem All2.append {α β : Type} {F : α → β → Prop} {l l' : List α} {m m' : List β} (x : All2 F l m) (k : All2 F l' m') : All2 F (l ++ l') (m ++ m') := by
  induction x with
  | nil => exact k
  | cons h _ ih => exact .cons h ih
inductive JobV (l : List Nat) (i : Nat) : Value → Prop
  | mk (j : Nat) (t : Tok) (e : l[i]? = some j) : JobV l i (.int (j : Nat) t)
theorem jobV {vs : List Value} {l : List Nat} {i : Nat} {v : Value} (x : IntsAre vs (toI l)) (e : (List.toArray vs)[i]? = some v) : JobV l i v := by
  refine el2_2 (IntsAre.get' x (by simpa using e)) fun k t ek r2_ => ?_
  obtain rfl := r2_
  obtain ⟨j, ej, rfl⟩ : ∃ a : Nat, l[i]? = some a ∧ (a : Int) = k := by simpa [toI] using ek
  exact ⟨j, t, ej⟩
theorem items_eq {us vs : List Value} (hl : us.length = (List.toArray vs).size) (hP : ∀ (j : Nat) (v : Value), us[j]? = some v → (List.toArray vs)[j]? = some v) : us = vs := by
  apply List.ext_getElem?
  intro j
  cases e : us[j]? with
  | some v => have := hP j v e; simpa using this.symm
  | none =>
    have : us.length ≤ j := List.getElem?_eq_none_iff.mp e
    (replace hl := List.size_toArray ▸ hl)
    exact (List.getElem?_eq_none (by lia)).symm
noncomputable def pickF (h : Heap) (job : Int) (v y : Value) (as : List (Addr × Obj)) : Prop :=
  ∃ r ns us D k, v = .ref r ∧ LI h r ns ∧ y = .ref D ∧ as = [(D, ({ cls := .type "list", data := .seq (List.toArray us) k } : Obj))] ∧ IntsAre us (ns ++ [job])
noncomputable def pickP (h : Heap) (hands : Nat) : Value → Bool
  | .ref r => decide (lenAt h r < hands)
  | _ => false
theorem LI.unique {h : Heap} {r : Addr} {ns ms : List Int} (x : LI h r ns) (y : LI h r ms) : ns = ms := by
  obtain ⟨vs, q3_, hi⟩ := x
  try clear x
  refine el1_1 q3_ fun k e => ?_
  try clear q3_
  obtain ⟨us, q4_, hi'⟩ := y
  try clear y
  refine el1_1 q4_ fun k' e' => ?_
  try clear q4_
  (replace e' := e ▸ e')
  have : vs = us := by
    have := Option.some.inj e'
    injection this with _ _ h3
    injection h3 with h4
    simpa using h4
  subst this
  exact (IntsAre.allInts hi).2.symm.trans (IntsAre.allInts hi').2
theorem picks_conv {h₀ h h' : Heap} {hands : Nat} {job : Int} {rs : List Addr} {nss : List (List Int)} {ys : List Value} (x : All2 (fun r ns => LI h r ns) rs nss)
    (k : All2 (fun v y => Made1 h₀ (pickF h job) v y h') ((rs.map Value.ref).filter (pickP h hands)) ys) : ∃ Ds : List Addr, ys = Ds.map Value.ref ∧ (∀ r ∈ Ds, h₀.get? r = none) ∧ All2 (fun r ns => LI h' r ns) Ds ((nss.filter fun ns => decide (ns.length < hands)).map (· ++ [job])) := by
  induction x generalizing ys with
  | nil => cases k; exact ⟨[], rfl, fun _ hr => (nomatch hr), .nil⟩
  | @cons r ns rs nss hx _ ih =>
    (replace k := List.map_cons ▸ k; replace k := List.filter_cons ▸ k)
    have e : pickP h hands (.ref r) = decide (ns.length < hands) := by show decide (lenAt h r < hands) = _; (refine rwR (lenAt_LI hx) ?_; with_reducible rfl)
    (replace k := e ▸ k)
    (refine rwR List.filter_cons ?_)
    by_cases hc : ns.length < hands
    · rw [if_pos (decide_eq_true hc)] at k ⊢
      cases k with
      | cons h1 h2 =>
        refine el1_3 (ih h2) fun Ds r5_ hf hD => ?_
        obtain rfl := r5_
        obtain ⟨as, has, r', ns', us, D, kk, er, hl, r6_, r7_, hi⟩ := h1
        try clear h1
        obtain rfl := r6_
        obtain rfl := r7_
        cases er
        have := LI.unique hx hl
        subst this
        have q := has (D, _) (List.mem_singleton.mpr rfl)
        exact ⟨D :: Ds, rfl, fun r hr => (List.mem_cons.mp hr).elim (fun e => e ▸ q.1) (hf r), .cons ⟨us, ⟨kk, q.2⟩, hi⟩ hD⟩
    · rw [if_neg (by (refine rwR (decide_eq_false hc) ?_); decide)] at k ⊢
      exact ih k
section
variable {prog : Program} {w : World} {A : Around}
theorem fw_none {h : Heap} {L D aA : Addr} {m cm : Str → Option Value} {n job : Nat} {ah : Nat → Nat → Bool} {tj : Tok} {left : List Nat} (hA : Ok 5 A) (S : Sta w h) (F : Fra (eF L) h m cm) (ha : cm "ahead" = some (.ref aA)) (hM : MatAt h aA n ah) (hn : n ≤ 8) (hj : cm "job" = some (.int job tj)) (hjn : job < n)
    (hl : m "left" = some (.ref D)) (hD : LI h D (toI left)) (hln : ∀ a ∈ left, a < n) (hlz : left.length ≤ 8) :
    GB prog w A h (isTrue (cmpL ((forBody (fwLoop.getD 2 (.Pass ⟨0, 0, 0, 0⟩))).getD 0 (.Pass ⟨0, 0, 0, 0⟩))) (eF L) (eval (cmpL ((forBody (fwLoop.getD 2 (.Pass ⟨0, 0, 0, 0⟩))).getD 0 (.Pass ⟨0, 0, 0, 0⟩))) (eF L)))
      (decide ((left.filter fun a => ah a job) = [])) := by
  obtain ⟨vs, hvs, hi⟩ := hD
  try clear hD
  have hlen : vs.length = left.length := by (refine rwR (IntsAre.len hi) ?_); simp [toI]
  refine gb_eqnil (by have := hA.un; unfold cLine; lia) (CompRun.gives (comp_local (n := (List.toArray vs).size) (P := fun i v => (List.toArray vs)[i]? = some v) (cl := [("job", L + 1 + 1 + 1 + 1 + 1), ("ahead", L + 1)]) rfl (by decide) rfl (by (refine rwR List.size_toArray ?_); (exact Nat.le_trans (Nat.le_of_eq (by assumption)) (Nat.le_trans (by assumption) (by decide))))
    (g_local rfl rfl F.ns hl) (fun x h1 hk hx => by subst hx; exact ⟨_, itr_list hA.hd (hvs.at fun o e => hk _ o e).isList⟩)
    (fun v => match v with | .int i _ => ah i.toNat job | _ => false) (fun v y as => as = [] ∧ y = v) ?_ ?_) rfl rfl (by decide) (fun _ => rfl)) ?_ ?_
  · intro C i v h' m' hk hP hm hv
    obtain ⟨a, t, ea⟩ := jobV hi hP
    refine gives_tests_one (gb_plain ?_ rfl)
    have han : a < n := hln a (List.mem_of_getElem? ea)
    exact g_mat (hM.keeps hk) han hjn (by (exact Nat.le_trans (by assumption) (by decide))) (g_cell rfl rfl rfl ((F.cellIs rfl ha).keeps hk)) (gv_int (g_local rfl rfl hm hv)) (gv_int (g_cell rfl rfl rfl ((F.cellIs rfl hj).keeps hk))) (fun _ _ => rfl) (fun _ _ => rfl)
  · intro C i v h' m' hk hP hp hm hv
    exact (g_local rfl rfl hm hv).mono fun v h'' hk hv => ⟨[], by simp, rfl, hv⟩
  · intro v a b hk z8_
    refine el2_4 z8_ fun D ys r9_ h1 h2 h3 => ?_
    try clear z8_
    obtain rfl := r9_
    refine ⟨D, ys, rfl, h1, h2.at fun o e => hk _ o e, ?_⟩
    obtain ⟨us, q1, q2, q3⟩ := h3
    try clear h3
    exact ⟨us, q1, q2, q3.mono fun v y ⟨as, has, hf⟩ => ⟨as, fun q hq => ⟨(has q hq).1, hk _ _ (has q hq).2⟩, hf⟩⟩
  · intro v h' z10_
    refine el2_4 z10_ fun D ys r11_ h1 h2 h3 => ?_
    try clear z10_
    obtain rfl := r11_
    have x := h3.ints (ns := toI left) (q := fun i => ah i.toNat job) (f := id) (fun us h1 h2 => ints_of_items hi h1 h2) (fun i t _ => rfl) (fun i t y as _ hf => ⟨t, hf.2⟩)
    refine ⟨D, _, rfl, ⟨ys, h2, x⟩, ?_⟩
    (refine rwR (List.map_id _) ?_)
    unfold toI
    (refine rwR List.filter_map ?_)
    have : ((fun i : Int => ah i.toNat job) ∘ fun j : Nat => (j : Int)) = fun a => ah a job := by funext j; simp [Function.comp]
    (refine rwR this ?_)
    simp
end
end Mine
end
section
open PySem PySem.Calls PySem.W PyProof.Rows
set_option maxRecDepth 100000
set_option genInjectivity false
set_option genSizeOf false
set_option genSizeOfSpec false
namespace Mine
noncomputable def ifBody (s : Stmt) : List Stmt := (stP s).1
noncomputable def asgVal (s : Stmt) : Expr := (stP s).2.2.1
noncomputable def binR (e : Expr) : Expr := exP e
noncomputable abbrev ps : Stmt := .Pass ⟨0, 0, 0, 0⟩
noncomputable def fwIf : Stmt := (forBody (fwLoop.getD 2 ps)).getD 0 ps
section
variable {prog : Program} {w : World} {A : Around}
theorem fw_more {h : Heap} {L Pk : Addr} {m cm : Str → Option Value} {hands job : Nat} {tj th : Tok} {nss : List (List Int)} (hA : Ok 5 A) (S : Sta w h) (F : Fra (eF L) h m cm) (hh : cm "hands" = some (.int hands th)) (hj : cm "job" = some (.int job tj))
    (hp : m "picks" = some (.ref Pk)) (hP : LLI h Pk nss) (hz : nss.length ≤ 1000) (hz' : ∀ ns ∈ nss, ns.length ≤ 1000) :
    Gives prog w A h (eval (binR (asgVal ((ifBody fwIf).getD 0 ps))) (eF L)) (fun v h' => ∃ D Ds, v = .ref D ∧ h.get? D = none ∧ (∀ r ∈ Ds, h.get? r = none) ∧ h'.PlainList D (List.toArray (Ds.map Value.ref)) ∧ All2 (fun r ns => LI h' r ns) Ds ((nss.filter fun ns => decide (ns.length < hands)).map (· ++ [(job : Int)]))) := by
  obtain ⟨rs, hrs, hall⟩ := hP
  try clear hP
  have hlen : rs.length = nss.length := hall.length
  refine (CompRun.gives (comp_local (n := (List.toArray (rs.map Value.ref)).size) (P := fun i v => (List.toArray (rs.map Value.ref))[i]? = some v) (cl := [("job", L + 1 + 1 + 1 + 1 + 1), ("hands", L + 1 + 1)]) rfl (by decide) rfl (by (refine rwR List.size_toArray ?_; refine rwR (List.length_map _) ?_); (exact Nat.le_trans (Nat.le_of_eq (by assumption)) (Nat.le_trans (by assumption) (by decide))))
    (g_local rfl rfl F.ns hp) (fun x h1 hk hx => by subst hx; exact ⟨_, itr_list hA.hd (hrs.at fun o e => hk _ o e).isList⟩) (pickP h hands) (pickF h job) ?_ ?_) rfl rfl (by decide) (fun _ => rfl)).mono ?_
  · intro C i v h' m' hk hPi hm hv
    obtain ⟨r, er, rfl⟩ : ∃ r, rs[i]? = some r ∧ Value.ref r = v := by simpa using hPi
    refine el1_2 (all2_get hall er) fun ns en hl => ?_
    have hl2 := hl
    obtain ⟨vs, hvs, hi⟩ := hl
    try clear hl
    refine gives_tests_one ((gb_lt (gi_len (n_len (S.keeps hk) rfl rfl rfl rfl) (g_local rfl rfl hm hv) (hvs.at fun o e => hk _ o e).isList (by (refine rwR List.size_toArray ?_; refine rwR (IntsAre.len hi) ?_); have := hz' ns (List.mem_of_getElem? en); (exact Nat.lt_of_le_of_lt (by assumption) (by decide)))) (gv_int (g_cell rfl rfl rfl ((F.cellIs rfl hh).keeps hk)))).mono fun b _ _ hb => ?_)
    (refine rwR hb ?_)
    show _ = decide (lenAt h r < hands)
    (refine rwR (lenAt_LI hl2) ?_; refine rwR List.size_toArray ?_; refine rwR (IntsAre.len hi) ?_)
    (refine rwR (propext Bool.eq_iff_iff) ?_); simp
  · intro C i v h' m' hk hPi hpp hm hv
    obtain ⟨r, er, rfl⟩ : ∃ r, rs[i]? = some r ∧ Value.ref r = v := by simpa using hPi
    refine el1_2 (all2_get hall er) fun ns en hl => ?_
    have hl2 := hl
    obtain ⟨vs, hvs, hi⟩ := hl
    try clear hl
    have hvz : vs.length ≤ 1000 := by (refine rwR (IntsAre.len hi) ?_); exact hz' ns (List.mem_of_getElem? en)
    refine (g_cat (vs := []) (us := []) (R1 := fun v h'' => v = .ref r ∧ Kp h' h'') ((g_local rfl rfl hm hv).mono fun v h'' hk hv => ⟨hv, hk⟩) (g_list1 (gv_int (g_cell rfl rfl rfl ((F.cellIs rfl hj).keeps hk)))) (fun v a b hk hx => ⟨hx.1, hx.2.trans hk⟩) ?_ ?_).mono ?_
    · rintro v h'' ⟨rfl, hk'⟩; exact ⟨r, vs, rfl, hvs.at fun o e => hk' _ o (hk _ o e), by (exact Nat.le_trans (by assumption) (by decide))⟩
    · rintro v h'' ⟨D, u, h1, rfl, _, hD, hu, _⟩; exact ⟨D, [u], rfl, hD, by simp⟩
    · intro v h'' hk'' z1_
      refine el6_8 z1_ fun D a b xs us h1 r2_ hDn hD q3_ q4_ hxs hus hk2 => ?_
      try clear z1_
      obtain rfl := r2_
      refine el0_2 q3_ fun ea hk1 => ?_
      try clear q3_
      refine el3_5 q4_ fun D2 u h2 e2 _ hD2 hu _ => ?_
      try clear q4_
      cases ea
      cases e2
      refine el1_1 hD fun kD eD => ?_
      try clear hD
      have e1 : xs = vs := by
        refine el1_1 hxs fun k1 e1 => ?_
        try clear hxs
        refine el1_1 hvs fun k2 e2 => ?_
        try clear hvs
        have := hk1 _ _ (hk _ _ e2)
        (replace this := e1 ▸ this)
        have := Option.some.inj this
        injection this with _ _ h3
        injection h3 with h4
        simpa using h4
      have e2 : us = [u] := by
        refine el1_1 hus fun k1 e1 => ?_
        try clear hus
        refine el1_1 hD2 fun k2 e2 => ?_
        try clear hD2
        (replace e2 := e1 ▸ e2)
        have := Option.some.inj e2
        injection this with _ _ h3
        injection h3 with h4
        simpa using h4
      subst e1 e2
      have hiu : IntsAre [u] [(job : Int)] := by obtain ⟨t, rfl⟩ := hu; exact .cons _ t .nil
      refine ⟨[(D, _)], fun q hq => ?_, r, ns, xs ++ [u], D, kD, rfl, hl2, rfl, rfl, IntsAre.append hi hiu⟩
      (refine rwR (List.mem_singleton.mp hq) ?_)
      exact ⟨hDn, eD⟩
  · intro v h' hk z5_
    obtain ⟨D, ys, r6_, h1, h2, vs, e1, e2, h3⟩ := z5_
    try clear z5_
    obtain rfl := r6_
    have : vs = rs.map Value.ref := items_eq e1 e2
    subst this
    refine el1_3 (picks_conv hall h3) fun Ds r7_ hf hD => ?_
    obtain rfl := r7_
    exact ⟨D, Ds, rfl, h1, hf, h2, hD⟩
end
end Mine
end
section
open PySem PySem.Calls PySem.W PyProof.Rows
set_option maxRecDepth 100000
set_option genInjectivity false
set_option genSizeOf false
set_option genSizeOfSpec false
namespace Mine
noncomputable def Kx (M : Addr → Prop) (h h' : Heap) : Prop := ∀ b o, ¬ M b → h.get? b = some o → h'.get? b = some o
noncomputable def Live (M : Addr → Prop) (h : Heap) : Prop := ∀ b, M b → ∃ o, h.get? b = some o
noncomputable def Liv (h : Heap) (b : Addr) : Prop := ∃ o, h.get? b = some o
noncomputable def Fz (M : Addr → Prop) (T : Heap → Prop) (h : Heap) : Prop := ∀ h', Kx M h h' → T h'
noncomputable def Or2 (M N : Addr → Prop) (b : Addr) : Prop := M b ∨ N b
theorem Kx.refl {M : Addr → Prop} (h : Heap) : Kx M h h := fun _ _ _ e => e
theorem Kx.of {M : Addr → Prop} {h h' : Heap} (x : Kp h h') : Kx M h h' := fun b o _ e => x b o e
theorem Kx.mono {M N : Addr → Prop} {h h' : Heap} (x : Kx M h h') (hm : ∀ b, M b → N b) : Kx N h h' := fun b o hn e => x b o (fun q => hn (hm b q)) e
theorem Kx.trans {M N : Addr → Prop} {h h1 h2 : Heap} (x : Kx M h h1) (y : Kx N h1 h2) (hm : ∀ b, N b → M b ∨ h.get? b = none) : Kx M h h2 := fun b o hb e =>
  y b o (fun q => (hm b q).elim hb fun z => by (exact nosome (z) e)) (x b o hb e)
theorem Kx.trans' {M : Addr → Prop} {h h1 h2 : Heap} (x : Kx M h h1) (y : Kx M h1 h2) : Kx M h h2 := x.trans y fun b => .inl
theorem Kx.same {a : Addr} {M : Addr → Prop} {h h' : Heap} (x : Heap.SameBut a h h') (ha : M a) : Kx M h h' := fun b o hb e => x.extBut b o (fun q => hb (q ▸ ha)) e
theorem dead_back {M : Addr → Prop} {h h' : Heap} {b : Addr} (x : Kx M h h') (hd : h'.get? b = none) : M b ∨ h.get? b = none := by
  by_cases hM : M b
  · exact .inl hM
  · cases e : h.get? b with
    | none => exact .inr rfl
    | some o => (exact nosome hd (x b o hM e))
theorem dead_kp {h h' : Heap} {b : Addr} (x : Kp h h') (hd : h'.get? b = none) : h.get? b = none := by
  cases e : h.get? b with
  | none => rfl
  | some o => (exact nosome hd (x b o e))
theorem Live.not {M : Addr → Prop} {h : Heap} (x : Live M h) {b : Addr} (hd : h.get? b = none) : ¬ M b := fun q => by obtain ⟨o, e⟩ := x b q; (exact nosome (hd) e)
theorem Live.keeps {M : Addr → Prop} {h h' : Heap} (x : Live M h) (k : Kp h h') : Live M h' := fun b hb => let ⟨o, e⟩ := x b hb; ⟨o, k b o e⟩
theorem Live.mono {M N : Addr → Prop} {h : Heap} (x : Live M h) (hm : ∀ b, N b → M b) : Live N h := fun b hb => x b (hm b hb)
theorem Live.or {M N : Addr → Prop} {h : Heap} (x : Live M h) (y : Live N h) : Live (Or2 M N) h := fun b hb => hb.elim (x b) (y b)
theorem Live.step {M N : Addr → Prop} {h h' : Heap} (x : Live M h) (k : Kx N h h') (y : Live N h') : Live M h' := fun b hb => by
  by_cases q : N b
  · exact y b q
  · obtain ⟨o, e⟩ := x b hb; exact ⟨o, k b o q e⟩
theorem Live.sub {M : Addr → Prop} {h : Heap} (x : Live M h) : ∀ b, M b → Liv h b := x
theorem Fz.now {M : Addr → Prop} {T : Heap → Prop} {h : Heap} (x : Fz M T h) : T h := x h (Kx.refl h)
theorem Fz.step {M N : Addr → Prop} {T : Heap → Prop} {h h' : Heap} (x : Fz M T h) (k : Kx M h h') (hm : ∀ b, N b → M b ∨ h.get? b = none) : Fz N T h' := fun h2 y => x h2 (k.trans y hm)
theorem Fz.step' {M : Addr → Prop} {T : Heap → Prop} {h h' : Heap} (x : Fz M T h) (k : Kx M h h') : Fz M T h' := x.step k fun _ => .inl
theorem Fz.mono {M N : Addr → Prop} {T : Heap → Prop} {h : Heap} (x : Fz M T h) (hm : ∀ b, N b → M b) : Fz N T h := fun h2 y => x h2 (y.mono hm)
theorem Fz.imp {M : Addr → Prop} {T U : Heap → Prop} {h : Heap} (x : Fz M T h) (f : ∀ h', T h' → U h') : Fz M U h := fun h2 y => f h2 (x h2 y)
theorem Fz.and {M : Addr → Prop} {T U : Heap → Prop} {h : Heap} (x : Fz M T h) (y : Fz M U h) : Fz M (fun h => T h ∧ U h) h := fun h2 k => ⟨x h2 k, y h2 k⟩
theorem Fz.left {M : Addr → Prop} {T U : Heap → Prop} {h : Heap} (x : Fz M (fun h => T h ∧ U h) h) : Fz M T h := x.imp fun _ q => q.1
theorem Fz.right {M : Addr → Prop} {T U : Heap → Prop} {h : Heap} (x : Fz M (fun h => T h ∧ U h) h) : Fz M U h := x.imp fun _ q => q.2
theorem Fz.li {M : Addr → Prop} {h : Heap} {D : Addr} {ns : List Int} (x : LI h D ns) (hD : ¬ M D) : Fz M (fun h => LI h D ns) h := fun h' k => x.at fun o e => k _ o hD e
theorem Fra.live {env : Env} {h : Heap} {m cm : Str → Option Value} (F : Fra env h m cm) : Live (OwnA env) h := fun b hb => by
  rcases hb with rfl | ⟨n, hb⟩
  · obtain ⟨o, _, _, ho, _⟩ := F.ns; exact ⟨o, ho⟩
  · obtain ⟨o, ho, _⟩ := F.cell n b hb; exact ⟨o, ho⟩
theorem upd_eq {m : Str → Option Value} {x : Str} {v : Value} : upd m x v x = some v := by simp [upd]
theorem upd_ne {m : Str → Option Value} {x y : Str} {v : Value} (h : y ≠ x) : upd m x v y = m y := by simp [upd, h]
theorem own_locals {env : Env} : OwnA env env.locals := .inl rfl
theorem own_cell {env : Env} {x : Str} {c : Addr} (h : env.cells.lookup x = some c) : OwnA env c := .inr ⟨x, h⟩
theorem Fra.kx {env : Env} {h h' : Heap} {m cm : Str → Option Value} {M : Addr → Prop} (F : Fra env h m cm) (k : Kx M h h') (hd : ∀ b, OwnA env b → ¬ M b) : Fra env h' m cm := F.frame fun b o hb e => k b o (hd b hb) e
structure FzJ {σ : Type} (s : Shared) (Mod FG : σ → Addr → Prop) (G T : Nat → σ → Heap → Prop) (Fr Pr Wr : Addr → Prop) (i : Nat) (h₁ : Heap) (y : σ) (Fr' : Addr → Prop) : Prop where
  f0 : G i y h₁
  f1 : Fz Fr' (T i y) h₁
  f2 : (∀ b, Mod y b → Fr' b)
  f3 : (∀ b, Fr b → Fr' b)
  f4 : (∀ b, Wr b → Fr' b)
  f5 : (∀ b, Fr' b → Wr b ∨ Liv h₁ b)
  f6 : (∀ b, Mod y b → ¬ Pr b)
  f7 : (∀ b, FG y b → ¬ Wr b)
  f8 : Kx (Mod y) s.heap h₁
  f9 : (∀ b, Fr' b → Fr b ∨ s.heap.get? b = none)
  f10 : (∀ b, Wr b → Pr b)
  f11 : (∀ b, Wr b → s.heap.get? b = none)
section
variable {prog : Program} {w : World} {A : Around} {env : Env} {s : Shared} {E : Value → Shared → Prop}
theorem for_fz2 {σ : Type} {x : Str} {px pos : Pos} {iter : Expr} {body : List Stmt} {Rit : Value → Heap → Prop} {n : Nat} {P : Nat → Value → Prop} {src : List Addr} {Q : Flow → Shared → Prop}
    (Mod FG : σ → Addr → Prop) (G : Nat → σ → Heap → Prop) (T : Nat → σ → Heap → Prop) (Fr : Addr → Prop) (x0 : σ)
    (hit : Gives prog w A s.heap (eval iter env) Rit) (hI : ∀ xv h1, Kp s.heap h1 → Rit xv h1 → ItrS prog w A h1 xv n P src)
    (hs : ∀ x, foldedSetIterable iter env x = pure x)
    (hsrc : ∀ b ∈ src, ¬ Fr b) (live : Live Fr s.heap) (hMF : ∀ b, Mod x0 b → Fr b)
    (hFG : Live (FG x0) s.heap) (gframe : ∀ i x h h', G i x h → (∀ b o, FG x b → h.get? b = some o → h'.get? b = some o) → G i x h')
    (g0 : G 0 x0 s.heap) (t0 : Fz Fr (T 0 x0) s.heap)
    (turn : ∀ i y (Fr' : Addr → Prop) v h tk (E' : Value → Shared → Prop) (Q' : Flow → Shared → Prop), i < n → P i v → G i y h → Fz Fr' (T i y) h → Live Fr' h → (∀ b, Mod y b → Fr' b) → (∀ b, Fr b → Fr' b) → Kx (Mod y) s.heap h → (∀ b, Fr' b → Fr b ∨ s.heap.get? b = none) →
      (∀ f y' h' tk', (f = .next ∨ f = .cont) → G (i + 1) y' h' → Kx (Mod y) h h' → (∀ b, Mod y b → Mod y' b) → (∀ b, Mod y' b → Mod y b ∨ h.get? b = none) → Live (Mod y') h' → (∀ b, FG y' b → FG y b ∨ h.get? b = none) → Fz (Or2 Fr' (Mod y')) (T (i + 1) y') h' → Q' f { s with heap := h', toks := tk' }) →
      wpAny (model prog w) A (assign (.Name x px) env v) (fun _ s₂ => wpAny (model prog w) A (execs body env) Q' E' s₂) E' { s with heap := h, toks := tk })
    (fin : ∀ y h' tk, G n y h' → Fz (Or2 Fr (Mod y)) (T n y) h' → Live (Or2 Fr (Mod y)) h' → Kx (Mod y) s.heap h' → (∀ b, Mod y b → Fr b ∨ s.heap.get? b = none) → Q .next { s with heap := h', toks := tk }) :
    wpAny (model prog w) A (exec (.For (.Name x px) iter body [] pos) env) Q E s := by
  refine for_rule (h := s.heap) (n := n) (P := P) (src := src)
    (fun Pr Wr i s₁ => ∃ h₁ tk y Fr', s₁ = { s with heap := h₁, toks := tk } ∧ FzJ s Mod FG G T Fr Pr Wr i h₁ y Fr')
    hit (Kp.refl _) hI hs ?_ ?_ ?_ ?_
  · intro Pr Wr i s₁ h' tk' z1_ hk
    obtain ⟨h₁, tk, y, Fr', r2_, hG, hT, hMF', hFF, hWF, hlv, hMP, hGW, hK, hFd, hWP, hWd⟩ := z1_
    try clear z1_
    obtain rfl := r2_
    refine ⟨h', tk', y, Fr', rfl, gframe i y _ _ hG fun b o hb e => hk b o (fun q => hGW b hb q) e, hT.step' (fun b o hb e => hk b o (fun q => hb (hWF b q)) e), hMF', hFF, hWF, ?_, hMP, hGW, ?_, hFd, hWP, hWd⟩
    · intro b hb
      rcases hlv b hb with q | ⟨o, e⟩
      · exact .inl q
      · by_cases hw : Wr b
        · exact .inl hw
        · exact .inr ⟨o, hk b o hw e⟩
    · exact fun b o hb e => hk b o (fun q => by (exact nosome (hWd b q) e)) (hK b o hb e)
  · intro Pr Wr xv h₀ h₁ tk hk₀ hx hk₁ hw hpr hlt hwf
    have hWd : ∀ b, Wr b → s.heap.get? b = none := fun b hb => dead_kp hk₀ (hwf b hb)
    have hk : Kp s.heap h₁ := hk₀.trans hk₁
    refine ⟨h₁, tk, x0, Or2 Fr Wr, rfl, gframe 0 x0 _ _ g0 fun b o _ e => hk b o e, t0.step (Kx.of hk) (fun b hb => hb.elim .inl fun q => .inr (hWd b q)), fun b hb => .inl (hMF b hb), fun b => .inl, fun b => .inr, ?_, ?_, (fun b hb q => Live.not hFG (hWd b q) hb), Kx.of hk, fun b hb => hb.elim .inl fun q => .inr (hWd b q), hw, hWd⟩
    · rintro b (hb | hb)
      · obtain ⟨o, e⟩ := live b hb; exact .inr ⟨o, hk b o e⟩
      · exact .inl hb
    · intro b hb hp
      refine Or.elim (hpr b hp) (fun q => ?_) fun q => ?_
      · exact hsrc b q (hMF b hb)
      · exact Live.not live (dead_kp hk₀ q) (hMF b hb)
  · intro Pr Wr i v s₁ E' hi hP z3_ hPl
    obtain ⟨h₁, tk, y, Fr', r4_, hG, hT, hMF', hFF, hWF, hlv, hMP, hGW, hK, hFd, hWP, hWd⟩ := z3_
    try clear z3_
    obtain rfl := r4_
    have hL : Live Fr' h₁ := fun b hb => (hlv b hb).elim (fun q => hPl b (hWP b q)) id
    refine turn i y Fr' v h₁ tk E' _ hi hP hG hT hL hMF' hFF hK hFd ?_
    intro f y' h' tk' hf hG' hK' hMM hMd hLv' hGd hT'
    have res : (∃ h₂ tk₂ y₂ Fr₂, ({ s with heap := h', toks := tk' } : Shared) = { s with heap := h₂, toks := tk₂ } ∧ FzJ s Mod FG G T Fr Pr Wr (i + 1) h₂ y₂ Fr₂) ∧ ∀ b o, Pr b → h₁.get? b = some o → h'.get? b = some o := by
      refine ⟨⟨h', tk', y', Or2 Fr' (Mod y'), rfl, hG', hT', fun b => .inr, fun b hb => .inl (hFF b hb), fun b hb => .inl (hWF b hb), ?_, ?_, ?_, ?_, ?_, hWP, hWd⟩, fun b o hb e => hK' b o (fun q => hMP b q hb) e⟩
      · rintro b (hb | hb)
        · exact .inr ((hL.step hK' (hLv'.mono hMM)) b hb)
        · exact .inr (hLv' b hb)
      · intro b hb hp
        refine Or.elim (hMd b hb) (fun q => ?_) fun q => ?_
        · exact hMP b q hp
        · obtain ⟨o, e⟩ := hPl b hp; have e : h₁.get? b = some o := e; (exact nosome (q) e)
      · intro b hb hw
        refine Or.elim (hGd b hb) (fun q => ?_) fun q => ?_
        · exact hGW b q hw
        · obtain ⟨o, e⟩ := hPl b (hWP b hw); have e : h₁.get? b = some o := e; (exact nosome (q) e)
      · exact (hK.trans' hK').mono hMM
      · rintro b (hb | hb)
        · exact hFd b hb
        · refine Or.elim (hMd b hb) (fun q => ?_) fun q => ?_
          · exact hFd b (hMF' b q)
          · exact (dead_back hK q).elim (fun q => hFd b (hMF' b q)) .inr
    rcases hf with rfl | rfl
    · exact res
    · exact res
  · intro Pr Wr s₁ z5_
    obtain ⟨h₁, tk, y, Fr', r6_, hG, hT, hMF', hFF, hWF, hlv, hMP, hGW, hK, hFd, hWP, hWd⟩ := z5_
    try clear z5_
    obtain rfl := r6_
    refine fin y h₁ tk hG (hT.mono fun b hb => hb.elim (hFF b) (hMF' b)) ?_ hK fun b hb => hFd b (hMF' b hb)
    rintro b (hb | hb)
    · refine (hlv b (hFF b hb)).elim (fun q => ?_) id
      exact absurd hb (Live.not live (hWd b q))
    · exact (hlv b (hMF' b hb)).elim (fun q => absurd (hWP b q) (hMP b hb)) id
theorem for_fz {σ : Type} {x : Str} {px pos : Pos} {iter : Expr} {body : List Stmt} {Rit : Value → Heap → Prop} {n : Nat} {P : Nat → Value → Prop} {src : List Addr} {Q : Flow → Shared → Prop}
    (Mod : σ → Addr → Prop) (G : Nat → σ → Heap → Prop) (T : Nat → σ → Heap → Prop) (Fr : Addr → Prop) (x0 : σ)
    (hit : Gives prog w A s.heap (eval iter env) Rit) (hI : ∀ xv h1, Kp s.heap h1 → Rit xv h1 → ItrS prog w A h1 xv n P src)
    (hs : ∀ x, foldedSetIterable iter env x = pure x)
    (hsrc : ∀ b ∈ src, ¬ Fr b) (live : Live Fr s.heap) (hMF : ∀ b, Mod x0 b → Fr b)
    (gframe : ∀ i x h h', G i x h → (∀ b o, Mod x b → h.get? b = some o → h'.get? b = some o) → G i x h')
    (g0 : G 0 x0 s.heap) (t0 : Fz Fr (T 0 x0) s.heap)
    (turn : ∀ i y (Fr' : Addr → Prop) v h tk (E' : Value → Shared → Prop) (Q' : Flow → Shared → Prop), i < n → P i v → G i y h → Fz Fr' (T i y) h → Live Fr' h → (∀ b, Mod y b → Fr' b) → (∀ b, Fr b → Fr' b) → Kx (Mod y) s.heap h → (∀ b, Fr' b → Fr b ∨ s.heap.get? b = none) →
      (∀ f y' h' tk', (f = .next ∨ f = .cont) → G (i + 1) y' h' → Kx (Mod y) h h' → (∀ b, Mod y b → Mod y' b) → (∀ b, Mod y' b → Mod y b ∨ h.get? b = none) → Live (Mod y') h' → Fz (Or2 Fr' (Mod y')) (T (i + 1) y') h' → Q' f { s with heap := h', toks := tk' }) →
      wpAny (model prog w) A (assign (.Name x px) env v) (fun _ s₂ => wpAny (model prog w) A (execs body env) Q' E' s₂) E' { s with heap := h, toks := tk })
    (fin : ∀ y h' tk, G n y h' → Fz (Or2 Fr (Mod y)) (T n y) h' → Live (Or2 Fr (Mod y)) h' → Kx (Mod y) s.heap h' → (∀ b, Mod y b → Fr b ∨ s.heap.get? b = none) → Q .next { s with heap := h', toks := tk }) :
    wpAny (model prog w) A (exec (.For (.Name x px) iter body [] pos) env) Q E s :=
  for_fz2 Mod Mod G T Fr x0 hit hI hs hsrc live hMF (live.mono hMF) gframe g0 t0 (fun i y Fr' v h tk E' Q' hi hP hG hT hL hM hF hK hFd q => turn i y Fr' v h tk E' Q' hi hP hG hT hL hM hF hK hFd fun f y' h' tk' hf a b c d e g => q f y' h' tk' hf a b c d e d g) fin
end
end Mine
end
section
open PySem PySem.Calls PySem.W PyProof.Rows
set_option maxRecDepth 100000
set_option genInjectivity false
set_option genSizeOf false
set_option genSizeOfSpec false
namespace Mine
noncomputable def toII (l : List (List Nat)) : List (List Int) := l.map toI
theorem toI_len (l : List Nat) : (toI l).length = l.length := by simp [toI]
theorem toII_step (hands job : Nat) (picks : List (List Nat)) : toII (picks ++ (picks.filter fun p => decide (p.length < hands)).map (· ++ [job])) = toII picks ++ ((toII picks).filter fun ns => decide (ns.length < hands)).map (· ++ [(job : Int)]) := by
  unfold toII
  (refine rwR List.map_append ?_; refine rwR List.filter_map ?_; refine rwR List.map_map ?_; refine rwR List.map_map ?_)
  congr 1
  have : ((fun ns : List Int => decide (ns.length < hands)) ∘ toI) = fun p : List Nat => decide (p.length < hands) := by funext p; simp [Function.comp, toI_len]
  (refine rwR this ?_)
  apply List.map_congr_left
  intro p _
  simp [toI]
theorem picksStep_pos {ah : Nat → Nat → Bool} {hands : Nat} {left : List Nat} {picks : List (List Nat)} {job : Nat} (h : (left.filter fun a => ah a job) = []) : picksStep ah hands left picks job = picks ++ (picks.filter fun p => decide (p.length < hands)).map (· ++ [job]) := by
  unfold picksStep; (refine rwR (if_pos h) ?_; with_reducible rfl)
theorem picksStep_neg {ah : Nat → Nat → Bool} {hands : Nat} {left : List Nat} {picks : List (List Nat)} {job : Nat} (h : ¬ (left.filter fun a => ah a job) = []) : picksStep ah hands left picks job = picks := by
  unfold picksStep; (refine rwR (if_neg h) ?_; with_reducible rfl)
structure LLr (h : Heap) (l : Addr) (rs : List Addr) (nss : List (List Int)) : Prop where
  a : h.PlainList l (List.toArray (rs.map Value.ref))
  b : All2 (fun r ns => LI h r ns) rs nss
theorem LLr.lli {h : Heap} {l : Addr} {rs : List Addr} {nss : List (List Int)} (x : LLr h l rs nss) : LLI h l nss := ⟨rs, x.1, x.2⟩
theorem lis_kx {M : Addr → Prop} {h h' : Heap} {rs : List Addr} {nss : List (List Int)} (b : All2 (fun r ns => LI h r ns) rs nss) (hr : ∀ r ∈ rs, ¬ M r) (k : Kx M h h') : All2 (fun r ns => LI h' r ns) rs nss := by
  induction b with
  | nil => exact .nil
  | cons hx t ih => exact .cons (hx.at fun o e => k _ o (hr _ (by simp)) e) (ih fun r h => hr r (by simp [h]))
theorem LLr.fz {M : Addr → Prop} {h : Heap} {l : Addr} {rs : List Addr} {nss : List (List Int)} (x : LLr h l rs nss) (hl : ¬ M l) (hr : ∀ r ∈ rs, ¬ M r) : Fz M (fun h => LLr h l rs nss) h := fun h' k =>
  ⟨x.1.at fun o e => k _ o hl e, lis_kx x.2 hr k⟩
theorem plain_unique {h : Heap} {l : Addr} {vs us : List Value} (x : h.PlainList l (List.toArray vs)) (y : h.PlainList l (List.toArray us)) : vs = us := by
  refine el1_1 x fun k1 e1 => ?_
  try clear x
  refine el1_1 y fun k2 e2 => ?_
  try clear y
  (replace e2 := e1 ▸ e2)
  have := Option.some.inj e2
  injection this with _ _ h3
  injection h3 with h4
  simpa using h4
section
variable {prog : Program} {w : World} {A : Around}
theorem fw_loop {s : Shared} {L D Pk aA : Addr} {rs : List Addr} {m cm : Str → Option Value} {n hands : Nat} {ah : Nat → Nat → Bool} {th : Tok} {left : List Nat} {E : Value → Shared → Prop} {Q : Flow → Shared → Prop} {Fr : Addr → Prop}
    (hA : Ok 5 A) (F : Fra (eF L) s.heap m cm) (hFr : ∀ b, OwnA (eF L) b → Fr b) (lv : Live Fr s.heap) (Z : Fz Fr (fun h => Sta w h ∧ MatAt h aA n ah ∧ LI h D (toI left)) s.heap) (ZP : Fz Fr (fun h => LLr h Pk rs [[]]) s.heap) (hDF : ¬ Fr D)
    (ha : cm "ahead" = some (.ref aA)) (hn : n ≤ 8) (hh : cm "hands" = some (.int hands th))
    (hl : m "left" = some (.ref D)) (hln : ∀ a ∈ left, a < n) (hlz : left.length ≤ 8) (hp : m "picks" = some (.ref Pk))
    (k : ∀ h' tk m' cm' pk rs', Fra (eF L) h' m' cm' → (∀ x : Str, x ≠ "picks" → m' x = m x) → (∀ x : Str, x ≠ "job" → cm' x = cm x) → m' "picks" = some (.ref pk) → Fz Fr (fun h => LLr h pk rs' (toII (picksOf ah hands left))) h' →
      Kx (OwnA (eF L)) s.heap h' → Live Fr h' → Q .next { s with heap := h', toks := tk }) :
    wpAny (model prog w) A (exec (fwLoop.getD 2 ps) (eF L)) Q E s := by
  refine el0_3 Z.now fun S hM hD => ?_
  obtain ⟨vs, hvs, hi⟩ := id hD
  have hlen : vs.length = left.length := by (refine rwR (IntsAre.len hi) ?_); simp [toI]
  refine for_fz (σ := (Str → Option Value) × (Str → Option Value) × Addr × List Addr) (n := (List.toArray vs).size) (P := fun i v => (List.toArray vs)[i]? = some v) (src := [D]) (fun _ => OwnA (eF L))
    (fun i y h => Fra (eF L) h y.1 y.2.1 ∧ (∀ x : Str, x ≠ "picks" → y.1 x = m x) ∧ (∀ x : Str, x ≠ "job" → y.2.1 x = cm x) ∧ y.1 "picks" = some (.ref y.2.2.1))
    (fun i y h => (Sta w h ∧ MatAt h aA n ah ∧ LI h D (toI left)) ∧ LLr h y.2.2.1 y.2.2.2 (toII ((left.take i).foldl (picksStep ah hands left) [[]]))) Fr (m, cm, Pk, rs)
    (g_local rfl rfl F.ns hl) (fun xv h1 hk hx => by subst hx; exact itr_list hA.hd (hvs.at fun o e => hk _ o e).isList) (fun _ => rfl) (by simpa using hDF) lv hFr ?_ ⟨F, fun _ _ => rfl, fun _ _ => rfl, hp⟩ (Z.and ZP) ?_ ?_
  · intro i y h h' z1_ hk
    refine el0_2 z1_ fun h1 h2 => ?_
    try clear z1_
    exact ⟨h1.frame hk, h2⟩
  · intro i z2_ Fr' v h tk E' Q' hi' hP z3_ Z₁ lv₁ hOF hFF hK hFd q
    obtain ⟨m₁, cm₁, pk, rs₁⟩ := z2_
    try clear z2_
    refine el0_4 z3_ fun F₁ hm hc hpk => ?_
    try clear z3_
    obtain ⟨job, t, ej⟩ := jobV hi hP
    have hjn : job < n := hln job (List.mem_of_getElem? ej)
    have et : left.take (i + 1) = left.take i ++ [job] := by (refine rwR List.take_succ ?_; refine rwR ej ?_); rfl
    have hle : (left.take i).length ≤ 8 := by (refine rwR List.length_take ?_); (exact Nat.le_trans (Nat.min_le_right _ _) (by assumption))
    have pf := picks_inv ah hands left (left.take i) [] [[]] rfl (by simp) (by simp) (by simp) (by simp)
    simp only [List.nil_append] at pf
    refine el0_5 pf fun pf1 pf2 pf3 pf4 pf5 => ?_
    try clear pf
    have p2 : (2 : Nat) ^ (left.take i).length ≤ 2 ^ 8 := Nat.pow_le_pow_right (by decide) hle
    refine wpAny_assign_Name (fra_cell (c := L + 1 + 1 + 1 + 1 + 1) F₁ rfl rfl rfl fun h₂ tk₂ F₂ sb₂ => ?_)
    have kx₂ : Kx (OwnA (eF L)) h h₂ := Kx.same sb₂ (own_cell (x := "job") rfl)
    have Z₂ := Z₁.step' (kx₂.mono hOF)
    refine el0_2 Z₂.now fun q4_ P₂ => ?_
    refine el0_3 q4_ fun S₂ M₂ D₂ => ?_
    try clear q4_
    have lv₂ : Live Fr' h₂ := lv₁.step kx₂ F₂.live
    show wpAny _ _ (execs [fwIf] (eF L)) _ _ _
    refine wpAny_execs_cons ?_
    have cj : upd cm₁ "job" (.int job t) "job" = some (.int job t) := by simp [upd]
    have ca : ∀ x : Str, x ≠ "job" → upd cm₁ "job" (.int job t) x = cm x := fun x hx => by simp only [upd, if_neg hx]; exact hc x hx
    refine wpAny_If ((fw_none hA S₂ F₂ (by (refine rwR (ca _ (by decide)) ?_); exact ha) M₂ hn cj hjn (by (refine rwR (hm _ (by decide)) ?_); exact hl) D₂ hln hlz).useV (Kp.refl _) fun h₃ tk₃ hk₃ => ?_)
    have F₃ := F₂.keeps hk₃
    have kx₃ : Kx (OwnA (eF L)) h h₃ := kx₂.trans' (Kx.of hk₃)
    have Z₃ := Z₂.step' (Kx.of hk₃)
    have lv₃ := lv₂.keeps hk₃
    by_cases hc0 : (left.filter fun a => ah a job) = []
    · (refine rwR (decide_eq_true hc0) ?_; refine rwR (if_pos rfl) ?_)
      refine wpAny_execs_cons ?_
      have P₃ : LLr h₃ pk rs₁ _ := Z₃.now.2
      have plen : rs₁.length = (toII ((left.take i).foldl (picksStep ah hands left) [[]])).length := P₃.2.length
      have plen' : (toII ((left.take i).foldl (picksStep ah hands left) [[]])).length ≤ 256 := by unfold toII; (refine rwR (List.length_map _) ?_); (exact Nat.le_trans (by assumption) (by assumption))
      refine asg_local (h := h₃) F₃ rfl rfl (g_cat (vs := []) (us := []) (R1 := fun v h' => v = .ref pk ∧ Kp h₃ h') ((g_local rfl rfl F₃.ns hpk).mono fun v h' hk hv => ⟨hv, hk⟩)
        (fw_more hA (S₂.keeps hk₃) F₃ (by (refine rwR (ca _ (by decide)) ?_); exact hh) cj hpk P₃.lli (by (exact Nat.le_trans (by assumption) (by decide))) ?_) (fun v a b hk hx => ⟨hx.1, hx.2.trans hk⟩) ?_ ?_) (Kp.refl _) rfl ?_
      · intro ns hns
        unfold toII at hns
        refine el1_2 (List.mem_map.mp hns) fun p hp r5_ => ?_
        obtain rfl := r5_
        have := (pf3 p hp).length_le
        (refine rwR (toI_len _) ?_); lia
      · intro v h' z6_
        refine el0_2 z6_ fun r7_ hk' => ?_
        try clear z6_
        obtain rfl := r7_
        exact ⟨pk, _, rfl, P₃.1.at fun o e => hk' _ o e, by (refine rwR (List.length_map _) ?_); (exact Nat.le_trans (Nat.le_of_eq (by assumption)) (Nat.le_trans (by assumption) (by decide)))⟩
      · intro v h' z8_
        refine el2_5 z8_ fun D' Ds r9_ _ _ hD' hall' => ?_
        try clear z8_
        obtain rfl := r9_
        refine ⟨D', _, rfl, hD', ?_⟩
        have h1 := hall'.length
        have h2 := List.length_filter_le (fun ns : List Int => decide (ns.length < hands)) (toII ((left.take i).foldl (picksStep ah hands left) [[]]))
        rw [List.length_map] at h1 ⊢
        lia
      · intro v h₄ h₅ tk₅ z10_ hk₄ sb₅ F₅
        refine el6_8 z10_ fun D' a b us zs h1 r11_ hDn hDl q12_ q13_ hus hzs hk14 => ?_
        try clear z10_
        obtain rfl := r11_
        refine el0_2 q12_ fun ea hk1 => ?_
        try clear q12_
        refine el2_5 q13_ fun D2 Ds e2 hD2n hDsn hD2 hall' => ?_
        try clear q13_
        cases ea
        cases e2
        have e1 := plain_unique hus (P₃.1.at fun o e => hk1 _ o e)
        have e2 := plain_unique hzs hD2
        subst e1 e2
        have kx₅ : Kx (OwnA (eF L)) h₄ h₅ := Kx.same sb₅ own_locals
        have kx : Kx (OwnA (eF L)) h h₅ := kx₃.trans' ((Kx.of hk₄).trans' kx₅)
        have Z₅ := Z₃.step' (((Kx.of hk₄).trans' kx₅).mono hOF)
        refine wpAny_execs_nil ?_
        refine wpAny_execs_nil ?_
        refine q .next (upd m₁ "picks" (.ref D'), upd cm₁ "job" (.int job t), D', rs₁ ++ Ds) h₅ tk₅ (.inl rfl) ⟨F₅, fun x hx => (upd_ne hx).trans (hm x hx), ca, upd_eq (m := m₁) (x := "picks") (v := .ref D')⟩ kx (fun _ => id) (fun _ => .inl) F₅.live ?_
        refine Fz.mono (M := Fr') (Fz.and Z₅.left ?_) fun b hb => hb.elim id (hOF b)
        intro h₆ k₆
        refine el0_2 (Z₅ h₆ k₆) fun _ R₆ => ?_
        have hDF' : ¬ Fr' D' := Live.not lv₃ hDn
        have k46 : Kx Fr' h₄ h₆ := (kx₅.mono hOF).trans' k₆
        refine ⟨?_, ?_⟩
        · (refine rwR List.map_append ?_); exact hDl.at fun o e => k46 _ o hDF' e
        · (refine rwR et ?_; refine rwR List.foldl_append ?_; refine rwR List.foldl_cons ?_; refine rwR List.foldl_nil ?_)
          (refine rwR (picksStep_pos hc0) ?_; refine rwR (toII_step _ _ _) ?_)
          refine R₆.2.append ?_
          exact lis_kx (lis_kx hall' (M := fun _ => False) (by simp) (Kx.of hk14)) (fun r hr => Live.not lv₃ (hDsn r hr)) k46
    · (refine rwR (decide_eq_false hc0) ?_; refine rwR (if_neg (by simp)) ?_)
      refine wpAny_execs_nil ?_
      refine wpAny_execs_nil ?_
      refine q .next (m₁, upd cm₁ "job" (.int job t), pk, rs₁) h₃ tk₃ (.inl rfl) ⟨F₃, hm, ca, hpk⟩ kx₃ (fun _ => id) (fun _ => .inl) F₃.live ?_
      have e : toII ((left.take (i + 1)).foldl (picksStep ah hands left) [[]]) = toII ((left.take i).foldl (picksStep ah hands left) [[]]) := by
        (refine rwR et ?_; refine rwR List.foldl_append ?_; refine rwR List.foldl_cons ?_; refine rwR List.foldl_nil ?_)
        (refine rwR (picksStep_neg hc0) ?_; with_reducible rfl)
      refine Fz.mono ?_ fun b (hb : Or2 Fr' (OwnA (eF L)) b) => hb.elim id (hOF b)
      (refine rwR e ?_); exact Z₃
  · intro z14_ h' tk z15_ Z₁ lv₁ hK _
    obtain ⟨m₁, cm₁, pk, rs₁⟩ := z14_
    try clear z14_
    refine el0_4 z15_ fun F₁ hm hc hpk => ?_
    try clear z15_
    have : left.take (List.toArray vs).size = left := List.take_of_length_le (by (refine rwR List.size_toArray ?_; refine rwR hlen ?_); exact Nat.le_refl _)
    (replace Z₁ := this ▸ Z₁)
    exact k h' tk m₁ cm₁ pk rs₁ F₁ hm hc hpk ((Z₁.right).mono fun b hb => .inl hb) hK (lv₁.mono fun b hb => .inl hb)
end
end Mine
end
section
open PySem PySem.Calls PySem.W PyProof.Rows
set_option maxRecDepth 100000
set_option genInjectivity false
set_option genSizeOf false
set_option genSizeOfSpec false
namespace Mine
noncomputable def exprArg0 (s : Stmt) : Expr := exP (stP s).2.2.1
theorem pow_sum (p : List Nat) : ((toI p).map fun i => (2 : Int) ^ i.toNat).sum = (maskOf p : Int) := by
  induction p with
  | nil => rfl
  | cons j p ih =>
    have e : maskOf (j :: p) = 2 ^ j + maskOf p := rfl
    have e2 : ((toI (j :: p)).map fun i => (2 : Int) ^ i.toNat).sum = 2 ^ j + ((toI p).map fun i => (2 : Int) ^ i.toNat).sum := rfl
    (refine rwR e ?_; refine rwR e2 ?_; refine rwR ih ?_)
    simp
theorem filter_tt {α : Type} (l : List α) : l.filter (fun _ => true) = l := List.filter_eq_self.mpr fun _ _ => rfl
theorem toI_inj : ∀ {a b : List Nat}, toI a = toI b → a = b
  | [], [], _ => rfl
  | x :: a, y :: b, h => by simp only [toI, List.map_cons, List.cons.injEq] at h; have h1 : x = y := Int.ofNat.inj h.1; have h2 : a = b := toI_inj h.2; (refine rwR h1 ?_; refine rwR h2 ?_; with_reducible rfl)
  | [], _ :: _, h => by simp [toI] at h
  | _ :: _, [], h => by simp [toI] at h
theorem All2.tail {α β : Type} {F : α → β → Prop} : ∀ {l : List α} {m : List β}, All2 F l m → All2 F l.tail m.tail
  | _, _, .nil => .nil
  | _, _, .cons _ t => t
theorem ints_rows {h h₀ h' : Heap} {g : List Nat → Int} {rs : List Addr} {ps : List (List Nat)} {ys : List Value} (x : All2 (fun r ns => LI h r ns) rs (toII ps))
    (y : All2 (fun v y => Made1 h₀ (fun v y as => as = [] ∧ ∃ r p, v = .ref r ∧ LI h r (toI p) ∧ isI (g p) y) v y h') (rs.map Value.ref) ys) : IntsAre ys (ps.map g) := by
  induction ps generalizing rs ys with
  | nil => cases x; cases y; exact .nil
  | cons p ps ih =>
    cases x with
    | cons x t =>
      cases y with
      | cons y u =>
        obtain ⟨as, _, _, r', p', e, hl, ty, r1_⟩ := y
        try clear y
        obtain rfl := r1_
        cases e
        have := toI_inj (LI.unique x hl)
        subst this
        exact .cons _ ty (ih t u)
section
variable {prog : Program} {w : World} {A : Around}
theorem g_summask {h : Heap} {env : Env} {e iter : Expr} {px : Pos} {scope : Scope} {pos pos' pp : Pos} {cl : List (Str × Addr)} {p : List Nat} {r : Addr} (hh : A.handled = none) (hp : LI h r (toI p)) (hz : ∀ j ∈ p, j ≤ 60) (hz' : p.length ≤ 1000)
    (fs : GV prog w A h (eval (.Name "sum" pp) env) (.builtin "sum")) (x : GV prog w A h (eval iter env) (.ref r))
    (hkind : scope.kind = .function) (hcell : ∀ y ∈ scope.names, y.2 ≠ .cell) (hx : scope.names.lookup ("job" : Str) = some .local)
    (he : ∀ C h' m (j : Nat) t, Kp h h' → h'.Ns C m → m "job" = some (.int j t) → j ≤ 60 → GI prog w A h' (eval e (compEnvC scope cl C env)) (2 ^ j))
    (hclos : closureFor scope env = pure cl) (hnames : ∀ y ∈ scope.names, y.2 = .local → scope.names.lookup y.1 = some .local)
    (hs : ∀ x, foldedSetIterable iter env x = pure x) (hst : starEach [(.ListComp e [⟨.Name "job" px, iter, [], 0⟩] scope pos)] env = [(false, eval (.ListComp e [⟨.Name "job" px, iter, [], 0⟩] scope pos) env)]) :
    GI prog w A h (eval (.Call (.Name "sum" pp) [.ListComp e [⟨.Name "job" px, iter, [], 0⟩] scope pos] [] pos') env) (maskOf p) := by
  obtain ⟨vs, hvs, hi⟩ := hp
  try clear hp
  have hlen : vs.length = p.length := by (refine rwR (IntsAre.len hi) ?_); simp [toI]
  refine g_call1 fs (CompRun.gives (comp_local (n := (List.toArray vs).size) (P := fun i v => (List.toArray vs)[i]? = some v) (cl := cl) hkind hcell hx (by (refine rwR List.size_toArray ?_); (exact Nat.le_trans (Nat.le_of_eq (by assumption)) (Nat.le_trans (by assumption) (by decide))))
    x (fun x h1 hk hx => by subst hx; exact ⟨_, itr_list hh (hvs.at fun o e => hk _ o e).isList⟩)
    (fun _ => true) (fun v y as => as = [] ∧ ∃ i t, v = .int i t ∧ isI (2 ^ i.toNat) y) ?_ ?_) hclos hkind hnames hs) ?_ hst
  · intro C i v h' m' hk hP hm hv
    exact gives_tests_nil
  · intro C i v h' m' hk hP _ hm hv
    obtain ⟨j, t, ej⟩ := jobV hi hP
    exact (he C h' m' j t hk hm hv (hz j (List.mem_of_getElem? ej))).mono fun v h'' _ hv => ⟨[], by simp, rfl, _, _, rfl, by simpa using hv⟩
  · intro v h' hk z2_
    refine el2_4 z2_ fun D ys r3_ h1 h2 h3 => ?_
    try clear z2_
    obtain rfl := r3_
    have x := h3.ints (ns := toI p) (q := fun _ => true) (f := fun i => 2 ^ i.toNat) (fun us h1 h2 => ints_of_items hi h1 h2) (fun i t _ => rfl) (fun i t y as _ hf => by obtain ⟨_, i', t', e, hy⟩ := hf; cases e; exact hy)
    have := call_sum (prog := prog) (w := w) hh (⟨ys, h2, x⟩ : LI h' D _)
    (replace this := (filter_tt _) ▸ this; replace this := (pow_sum _) ▸ this)
    exact this
theorem fw_min {h : Heap} {L pk fwA : Addr} {rs : List Addr} {m cm : Str → Option Value} {n mask : Nat} {tm : Tok} {fw : List Int} {picks : List (List Nat)} (hA : Ok 5 A) (S : Sta w h) (F : Fra (eF L) h m cm) (hn : n ≤ 8)
    (hmk : cm "mask" = some (.int mask tm)) (hfw : cm "fewest" = some (.ref fwA)) (hF : LI h fwA fw) (hfl : fw.length = mask) (hmz : mask ≤ 1000)
    (hp : m "picks" = some (.ref pk)) (hP : LLr h pk rs (toII picks)) (hpz : picks.length ≤ 1000) (hpl : ∀ p ∈ picks.tail, 1 ≤ maskOf p ∧ maskOf p ≤ mask ∧ p.length ≤ 8 ∧ ∀ j ∈ p, j < n) (hne : picks.tail ≠ []) :
    Gives prog w A h (eval (exprArg0 (fwLoop.getD 3 ps)) (eF L)) (fun v _ => ∃ M, isI (1 + M) v ∧ IsMin M (picks.tail.map fun p => fw.getD (mask - maskOf p) 0)) := by
  obtain ⟨hrs, hall⟩ := hP
  try clear hP
  obtain ⟨fs, hfs, hfi⟩ := hF
  try clear hF
  have hlen : rs.length = picks.length := by (refine rwR hall.length ?_); simp [toII]
  have hfsl : fs.length = mask := by (refine rwR (IntsAre.len hfi) ?_; refine rwR hfl ?_; with_reducible rfl)
  have hdrop : slicePick (List.toArray (rs.map Value.ref)) (some 1) none none = List.toArray ((rs.drop 1).map Value.ref) := by
    have := slicePick_from' (List.toArray (rs.map Value.ref)) 1
    simpa using this
  have key : Gives prog w A h (eval (binR (exprArg0 (fwLoop.getD 3 ps))) (eF L)) (fun v _ => ∃ M, isI M v ∧ IsMin M (picks.tail.map fun p => fw.getD (mask - maskOf p) 0)) := by
    refine g_call1 (n_min S rfl rfl rfl rfl) (CompRun.gives (comp_local (n := (List.toArray ((rs.drop 1).map Value.ref)).size) (P := fun i v => (List.toArray ((rs.drop 1).map Value.ref))[i]? = some v) (cl := [("mask", L + 1 + 1 + 1 + 1), ("fewest", L + 1 + 1 + 1)]) rfl (by decide) rfl (by (refine rwR List.size_toArray ?_; refine rwR (List.length_map _) ?_; refine rwR List.length_drop ?_); lia)
      (g_slice (items := rs.map Value.ref) (lo := some 1) (hi := none) (by (refine rwR (List.length_map _) ?_); (exact Nat.le_trans (Nat.le_of_eq (by assumption)) (Nat.le_trans (by assumption) (by decide)))) (g_local rfl rfl F.ns hp) hrs (part_int g_int) (part_none rfl) (fun _ _ => rfl))
      (fun x h1 hk hx => by obtain ⟨D, rfl, _, hD⟩ := hx; (replace hD := hdrop ▸ hD); exact ⟨_, itr_list hA.hd hD.isList⟩)
      (fun _ => true) (fun v y as => as = [] ∧ ∃ r p, v = .ref r ∧ LI h r (toI p) ∧ isI (fw.getD (mask - maskOf p) 0) y) ?_ ?_) rfl rfl (by decide) (fun _ => rfl)) ?_
    · intro C i v h' m' hk hP hm hv
      exact gives_tests_nil
    · intro C i v h' m' hk hPv _ hm hv
      obtain ⟨r, er, rfl⟩ : ∃ r, (rs.drop 1)[i]? = some r ∧ Value.ref r = v := by simpa using hPv
      have er' : rs[1 + i]? = some r := by (replace er := (List.getElem?_drop) ▸ er); exact er
      refine el1_2 (all2_get hall er') fun ns en hl => ?_
      obtain ⟨p, ep, rfl⟩ : ∃ p, picks[1 + i]? = some p ∧ toI p = ns := by simpa [toII] using en
      have ept : picks.tail[i]? = some p := by (refine rwL List.drop_one ?_; refine rwR (List.getElem?_drop) ?_); exact ep
      refine el0_4 (hpl p (List.mem_of_getElem? ept)) fun q1 q2 q3 q4 => ?_
      have hlt : mask - maskOf p < fw.length := by lia
      obtain ⟨t, et⟩ := IntsAre.get hfi (i := mask - maskOf p) (k := fw.getD (mask - maskOf p) 0) (by (refine rwR (List.getD_eq_getElem?_getD) ?_; refine rwR (List.getElem?_eq_getElem hlt) ?_); rfl)
      refine (g_item (l := fwA) (items := List.toArray fs) (k := (mask : Int) - (maskOf p : Int)) (v := .int (fw.getD (mask - maskOf p) 0) t) (g_cell rfl rfl rfl ((F.cellIs rfl hfw).keeps hk))
        (gi_sub (gv_int (g_cell rfl rfl rfl ((F.cellIs rfl hmk).keeps hk))) (g_summask (cl := []) (p := p) hA.hd (hl.keeps hk) (fun j hj => by have := q4 j hj; (exact Nat.le_trans (Nat.le_of_lt (by assumption)) (Nat.le_trans (by assumption) (by decide)))) (by (exact Nat.le_trans (by assumption) (by decide))) (n_sum (S.keeps hk) rfl rfl rfl rfl) (g_local rfl rfl hm hv) rfl (by decide) rfl ?_ rfl (by decide) (fun _ => rfl) rfl))
        (hfs.at fun o e => hk _ o e).isList (by lia) (by lia) ?_ (fun _ _ => rfl)).mono fun v h'' _ hv => ⟨[], by simp, rfl, r, p, rfl, hl, t, hv⟩
      · intro C' h2 m2 j t' hk2 hm2 hj hj'
        exact gi_pow2 (by (exact Nat.le_trans (by assumption) (by decide))) g_int (gv_int (g_local rfl rfl hm2 hj))
      · have : ((mask : Int) - (maskOf p : Int)).toNat = mask - maskOf p := by (exact Int.toNat_sub _ _)
        (refine rwR this ?_); simpa using et
    · intro v h' hk z4_
      obtain ⟨D, ys, r5_, h1, h2, vs, e1, e2, h3⟩ := z4_
      try clear z4_
      obtain rfl := r5_
      have : vs = (rs.drop 1).map Value.ref := items_eq e1 e2
      subst this
      (replace h3 := (filter_tt _) ▸ h3)
      have hys : IntsAre ys (picks.tail.map fun p => fw.getD (mask - maskOf p) 0) := by
        have ht := hall.tail
        have e : (toII picks).tail = toII picks.tail := by unfold toII; cases picks <;> rfl
        (replace ht := e ▸ ht)
        (replace h3 := List.drop_one ▸ h3)
        exact ints_rows (g := fun p => fw.getD (mask - maskOf p) 0) ht h3
      refine (call_min (prog := prog) (w := w) hA.hd (⟨ys, h2, hys⟩ : LI h' D _) (by intro e; exact hne (List.map_eq_nil_iff.mp e))).mono fun v _ _ hv => ?_
      exact hv
  refine g_binop (R1 := fun v _ => isI 1 v) g_int key (fun _ _ _ _ e => e) fun a b h' _ ha hb => ?_
  refine el1_1 ha fun t r6_ => ?_
  try clear ha
  obtain rfl := r6_
  refine el1_2 hb fun M q7_ hM => ?_
  try clear hb
  refine el1_1 q7_ fun u r8_ => ?_
  try clear q7_
  obtain rfl := r8_
  exact fun s E hs => P.add_int ⟨⟨M, ⟨_, rfl⟩, hM⟩, s.heap, s.toks + 1, rfl, fun _ _ e => e⟩
end
end Mine
end
section
open PySem PySem.Calls PySem.W PyProof.Rows
set_option maxRecDepth 100000
set_option genInjectivity false
set_option genSizeOf false
set_option genSizeOfSpec false
namespace Mine
theorem FwOk.snoc {n hands : Nat} {ah : Nat → Nat → Bool} {fw : List Int} {M : Int} (x : FwOk n hands ah fw) (hM : IsMin M ((picksOf ah hands (bitsOf n fw.length)).tail.map fun p => fw.getD (fw.length - maskOf p) 0)) (hpos : ∀ p ∈ (picksOf ah hands (bitsOf n fw.length)).tail, 1 ≤ maskOf p) (hl : 1 ≤ fw.length) :
    FwOk n hands ah (fw ++ [1 + M]) := by
  have agree : ∀ i, i < fw.length → (fw ++ [1 + M]).getD i 0 = fw.getD i 0 := fun i hi => by
    (refine rwR (List.getD_eq_getElem?_getD) ?_; refine rwR (List.getD_eq_getElem?_getD) ?_; refine rwR (List.getElem?_append_left hi) ?_; with_reducible rfl)
  refine ⟨by (refine rwR (List.getElem?_append_left (by lia)) ?_); exact x.zero, fun mask h1 h2 => ?_⟩
  (replace h2 := List.length_append ▸ h2; replace h2 := List.length_singleton ▸ h2)
  by_cases h3 : mask < fw.length
  · refine el1_2 (x.step mask h1 h3) fun M' hm he => ?_
    refine ⟨M', ?_, by (refine rwR (List.getElem?_append_left h3) ?_); exact he⟩
    have : ((picksOf ah hands (bitsOf n mask)).tail.map fun p => (fw ++ [1 + M]).getD (mask - maskOf p) 0) = ((picksOf ah hands (bitsOf n mask)).tail.map fun p => fw.getD (mask - maskOf p) 0) :=
      List.map_congr_left fun p _ => agree _ (by (exact Nat.lt_of_le_of_lt (Nat.sub_le _ _) (by assumption)))
    (refine rwR this ?_); exact hm
  · have : mask = fw.length := by lia
    subst this
    refine ⟨M, ?_, by (refine rwR (List.getElem?_append_right (by (exact Nat.le_sub_one_of_lt (by assumption)))) ?_); simp⟩
    have : ((picksOf ah hands (bitsOf n fw.length)).tail.map fun p => (fw ++ [1 + M]).getD (fw.length - maskOf p) 0) = ((picksOf ah hands (bitsOf n fw.length)).tail.map fun p => fw.getD (fw.length - maskOf p) 0) :=
      List.map_congr_left fun p hp => agree _ (by have := hpos p hp; (exact Nat.sub_lt (by assumption) (by assumption)))
    (refine rwR this ?_); exact hM
section
variable {prog : Program} {w : World} {A : Around}
theorem g_range2 {h : Heap} {env : Env} {e1 e2 : Expr} {p pos : Pos} {a b : Int} (f : GV prog w A h (eval (.Name "range" p) env) (.type "range")) (x : GI prog w A h (eval e1 env) a) (y : GI prog w A h (eval e2 env) b)
    (hs : starEach [e1, e2] env = [(false, eval e1 env), (false, eval e2 env)] := by rfl) :
    Gives prog w A h (eval (.Call (.Name "range" p) [e1, e2] [] pos) env) (fun v h' => ∃ r t u z, v = .ref r ∧ IsRange h' r a b 1 t u z) :=
  g_call2t f x y (fun _ _ _ _ e => e) (fun v v' h' hk hv hv' => by
    obtain ⟨t, rfl⟩ := hv
    refine el1_1 hv' fun u r1_ => ?_
    try clear hv'
    obtain rfl := r1_
    exact fun s E hs => call_range_2 ⟨⟨_, _, _, _, rfl, IsRange.new s.heap a b 1 _ _ _⟩, _, _, rfl, Kp.push _ _⟩) hs
theorem itr_range2 {h : Heap} {r : Addr} {a n : Nat} {t u z : Tok} (hh : A.handled = none) (hn : a + n ≤ 1000000) (hr : IsRange h r a ((a + n : Nat) : Int) 1 t u z) : ItrS prog w A h (.ref r) n (fun i v => i < n ∧ ∃ t, v = .int (a + i * 1) t) [] :=
  itr_range hh hr (small_one (by lia) (by lia) (by lia) (by lia)) (by (refine rwR (rangeSize_one _ _) ?_); split <;> lia)
theorem fw_turn {s : Shared} {L aA fwA : Addr} {m cm : Str → Option Value} {n hands mask : Nat} {ah : Nat → Nat → Bool} {th tm : Tok} {fw : List Int} {E : Value → Shared → Prop} {Q : Flow → Shared → Prop} {Fr : Addr → Prop}
    (hA : Ok 5 A) (F : Fra (eF L) s.heap m cm) (hFr : ∀ b, OwnA (eF L) b → Fr b) (lv : Live Fr s.heap) (Z : Fz Fr (fun h => Sta w h ∧ MatAt h aA n ah) s.heap)
    (ha : cm "ahead" = some (.ref aA)) (hn : n ≤ 8) (hh : cm "hands" = some (.int hands th)) (hh1 : 1 ≤ hands) (hmk : cm "mask" = some (.int mask tm)) (hm1 : 1 ≤ mask) (hm2 : mask < 2 ^ n)
    (hac : ∃ job ∈ bitsOf n mask, ∀ a ∈ bitsOf n mask, ah a job = false)
    (hfa : cm "fewest" = some (.ref fwA)) (hfF : Fr fwA) (hfo : ¬ OwnA (eF L) fwA) (hF : LI s.heap fwA fw) (hfl : fw.length = mask) (hok : FwOk n hands ah fw)
    (k : ∀ h' tk m' cm' x, Fra (eF L) h' m' cm' → (∀ x : Str, x ≠ "job" → cm' x = cm x) → LI h' fwA (fw ++ [x]) → FwOk n hands ah (fw ++ [x]) →
      Kx (Or2 (OwnA (eF L)) (· = fwA)) s.heap h' → Q .next { s with heap := h', toks := tk }) :
    wpAny (model prog w) A (execs fwLoop (eF L)) Q E s := by
  have p8 : (2 : Nat) ^ n ≤ 2 ^ 8 := Nat.pow_le_pow_right (by decide) hn
  refine el0_2 Z.now fun S hM => ?_
  show wpAny _ _ (execs [fwLoop.getD 0 ps, fwLoop.getD 1 ps, fwLoop.getD 2 ps, fwLoop.getD 3 ps] (eF L)) _ _ _
  refine wpAny_execs_cons (fw_left hA S F ha hM hn hmk (by (with_reducible exact Nat.lt_of_lt_of_le (by assumption) (Nat.le_trans (by assumption) (by decide)))) rfl fun D h₁ tk₁ hD hl₁ F₁ hk₁ => ?_)
  have kx₁ : Kx (OwnA (eF L)) s.heap h₁ := fun b o hb e => hk₁ b o (fun q => hb (q ▸ own_locals)) e
  have Z₁ := Z.step' (kx₁.mono hFr)
  have lv₁ : Live Fr h₁ := lv.step kx₁ F₁.live
  have hDF : ¬ Fr D := Live.not lv hD
  have ZL₁ : Fz Fr (fun h => LI h D (toI (bitsOf n mask))) h₁ := Fz.li hl₁ hDF
  refine wpAny_execs_cons (asg_local (h := h₁) F₁ rfl rfl (g_list1 g_list0) (Kp.refl _) rfl ?_)
  intro v h₂ h₃ tk₃ z2_ hk₂ sb₃ F₃
  refine el3_5 z2_ fun P u h₀ r3_ hPn hP q4_ hk02 => ?_
  try clear z2_
  obtain rfl := r3_
  refine el1_3 q4_ fun D0 r5_ hD0n hD0 => ?_
  try clear q4_
  obtain rfl := r5_
  have kx₃ : Kx (OwnA (eF L)) h₁ h₃ := (Kx.of hk₂).trans' (Kx.same sb₃ own_locals)
  have Z₃ := Z₁.step' (kx₃.mono hFr)
  have ZL₃ := ZL₁.step' (kx₃.mono hFr)
  have lv₃ : Live Fr h₃ := lv₁.step kx₃ F₃.live
  have hPF : ¬ Fr P := Live.not lv₁ hPn
  have hD0F : ¬ Fr D0 := Live.not lv₁ hD0n
  have ZP₃ : Fz Fr (fun h => LLr h P [D0] [[]]) h₃ := by
    refine LLr.fz ⟨?_, .cons ⟨[], ?_, .nil⟩ .nil⟩ hPF (by simpa using hD0F)
    · exact hP.at fun o e => sb₃.extBut _ o (fun q => hPF (q ▸ hFr _ own_locals)) e
    · exact hD0.at fun o e => sb₃.extBut _ o (fun q => hD0F (q ▸ hFr _ own_locals)) (hk02 _ o e)
  have ZZ : Fz Fr (fun h => Sta w h ∧ MatAt h aA n ah ∧ LI h D (toI (bitsOf n mask))) h₃ := (Z₃.and ZL₃).imp fun h q => ⟨q.1.1, q.1.2, q.2⟩
  refine wpAny_execs_cons (fw_loop (Fr := Fr) hA F₃ hFr lv₃ ZZ ZP₃ hDF ha hn hh (by (refine rwR (upd_ne (by decide)) ?_; refine rwR upd_eq ?_; with_reducible rfl)) (fun a h => bitsOf_lt h) (Nat.le_trans (bitsOf_len n mask) hn) upd_eq ?_)
  intro h₄ tk₄ m₄ cm₄ pk rs F₄ hm₄ hc₄ hp₄ ZP₄ kx₄ lv₄
  have Z₄ := ZZ.step' (kx₄.mono hFr)
  have kx : Kx (OwnA (eF L)) s.heap h₄ := (kx₁.trans' kx₃).trans' kx₄
  have hF₄ : LI h₄ fwA fw := hF.at fun o e => kx _ o hfo e
  refine el0_5 (picks_facts ah hands (bitsOf n mask)) fun pf1 pf2 pf3 pf4 pf5 => ?_
  have hbl := bitsOf_len n mask
  have p2 : (2 : Nat) ^ (bitsOf n mask).length ≤ 2 ^ 8 := Nat.pow_le_pow_right (by decide) (by (exact Nat.le_trans (by assumption) (by assumption)))
  have ptail : ∀ p ∈ (picksOf ah hands (bitsOf n mask)).tail, 1 ≤ maskOf p ∧ maskOf p ≤ mask ∧ p.length ≤ 8 ∧ ∀ j ∈ p, j < n := fun p hp => by
    have hs := pf3 p (List.mem_of_mem_tail hp)
    refine ⟨maskOf_pos (pf2 p hp), ?_, ?_, fun j hj => bitsOf_lt (hs.subset hj)⟩
    · have := maskOf_sublist hs; rwa [maskOf_bitsOf n mask hm2] at this
    · have := hs.length_le; lia
  have hne : (picksOf ah hands (bitsOf n mask)).tail ≠ [] := by
    refine el1_2 hac fun job hj hja => ?_
    try clear hac
    have hmem := picks_tail_ne (ah := ah) (hands := hands) hh1 hj hja
    cases e : picksOf ah hands (bitsOf n mask) with
    | nil => (rw [e] at hmem; cases hmem)
    | cons q r =>
      rw [e] at hmem pf1
      simp at pf1; subst pf1
      intro hr
      simp at hr; subst hr; simp at hmem
  refine wpAny_execs_cons ?_
  obtain ⟨fs, hfs, hfi⟩ := id hF₄
  have hfsl : fs.length = mask := by (refine rwR (IntsAre.len hfi) ?_; refine rwR hfl ?_; with_reducible rfl)
  refine wpAny_Expr_any (wpAny_Call_append rfl rfl rfl rfl ?_)
  have hcF : h₄.IsCell (L + 1 + 1 + 1) (some (.ref fwA)) := F₄.cellIs (x := "fewest") rfl (by (refine rwR (hc₄ _ (by decide)) ?_); exact hfa)
  refine (g_cell (prog := prog) (w := w) (A := A) (h := h₄) rfl rfl rfl hcF).useV (Kp.refl _) fun h₅ tk₅ hk₅ => ?_
  have hfs₅ : h₅.PlainList fwA (List.toArray fs) := hfs.at fun o e => hk₅ _ o e
  refine ⟨fwA, List.toArray fs, rfl, ?_, ?_⟩
  · refine el1_1 hfs₅ fun kf ef => ?_
    try clear hfs₅
    exact ⟨_, kf, ef, rfl, rfl, rfl⟩
  refine (fw_min (fwA := fwA) (fw := fw) (picks := picksOf ah hands (bitsOf n mask)) hA (Z₄.now.1.keeps hk₅) (F₄.keeps hk₅) hn (by (refine rwR (hc₄ _ (by decide)) ?_); exact hmk) (by (refine rwR (hc₄ _ (by decide)) ?_); exact hfa) (hF₄.keeps hk₅) hfl (by (exact Nat.le_trans (Nat.le_of_lt (by assumption)) (Nat.le_trans (by assumption) (by decide)))) hp₄ ((ZP₄.step' (Kx.of hk₅)).now) (by lia) ptail hne).use (Kp.refl _) fun v h₆ tk₆ hk₆ hv => ?_
  refine el1_2 hv fun M q6_ hMin => ?_
  try clear hv
  refine el1_1 q6_ fun tM r7_ => ?_
  try clear q6_
  obtain rfl := r7_
  refine list_append_gives (hfs₅.at fun o e => hk₆ _ o e) (by lia) fun h₇ hl₇ sb₇ => ?_
  refine wpAny_execs_nil ?_
  have kx₆ : Kx (OwnA (eF L)) s.heap h₆ := kx.trans' (Kx.of (hk₅.trans hk₆))
  have F₆ := (F₄.keeps hk₅).keeps hk₆
  refine k h₇ tk₆ m₄ cm₄ (1 + M) (F₆.frame fun b o hb e => sb₇.extBut b o (fun q => hfo (q ▸ hb)) e) hc₄ ⟨_, hl₇, IntsAre.append hfi (.cons _ _ .nil)⟩ ?_ ?_
  · subst hfl
    exact hok.snoc hMin (fun p hp => (ptail p hp).1) hm1
  · exact (kx₆.mono fun b => .inl).trans' (Kx.same sb₇ (.inr rfl))
theorem call_fewest {h : Heap} {aA : Addr} {n hands : Nat} {ah : Nat → Nat → Bool} {th : Tok} (hA : Ok 7 A) (S : Sta w h) (hM : MatAt h aA n ah) (hn : n ≤ 8) (hh1 : 1 ≤ hands)
    (hac : ∀ mask, 1 ≤ mask → mask < 2 ^ n → ∃ job ∈ bitsOf n mask, ∀ a ∈ bitsOf n mask, ah a job = false) :
    Gives prog w A h (call (.ref 151) [.ref aA, .int hands th]) (fun v h' => ∃ D fw, v = .ref D ∧ h.get? D = none ∧ LI h' D fw ∧ FwOk n hands ah fw ∧ fw.length = 2 ^ n) := fun s E hs => by
  have p8 : (2 : Nat) ^ n ≤ 2 ^ 8 := Nat.pow_le_pow_right (by decide) hn
  have p0 : 1 ≤ (2 : Nat) ^ n := Nat.one_le_two_pow
  have S₀ := S.keeps hs
  refine el2_1 (fn_fewest w) fun d sl hf => ?_
  refine call_rule (n := 6) (body := fwBody) (binds := [("ahead", .ref aA), ("hands", .int hands th)]) (RB := fun _ => True) hA (S₀.X _ _ hf) rfl S₀.lim (codeRec_of S₀.X (cd_fewest w)) rfl rfl (fun s' E' hs' => wpAny_of_eq rfl ⟨⟨rfl, trivial⟩, keeps_refl s'⟩) ?_ ?_
  · intro k x hx
    rcases List.mem_cons.mp hx with rfl | hx
    · exact .inr ⟨rfl, rfl⟩
    · (refine rwR (List.mem_singleton.mp hx) ?_); exact .inr ⟨rfl, rfl⟩
  intro L h₀ h₁ tk E' hL _ hk₀ _ hk₁ F hO hOk
  have ha : bindC (callEnvC fdFewest L 151).kindOf [("ahead", Value.ref aA), ("hands", .int hands th)] (fun _ => none) "ahead" = some (.ref aA) := rfl
  have hh : bindC (callEnvC fdFewest L 151).kindOf [("ahead", Value.ref aA), ("hands", .int hands th)] (fun _ => none) "hands" = some (.int hands th) := rfl
  generalize bindC (callEnvC fdFewest L 151).kindOf [("ahead", Value.ref aA), ("hands", .int hands th)] (fun _ => none) = cm at F ha hh
  generalize bindL (callEnvC fdFewest L 151).kindOf [("ahead", Value.ref aA), ("hands", .int hands th)] (fun _ => none) = m at F
  have hOk5 : Ok 5 (A.deeper (eF L)) := hOk.mono (by decide)
  have Z₁ : Fz (OwnA (eF L)) (fun h => Sta w h ∧ MatAt h aA n ah) h₁ := fun h' k => by
    have kp : Kp h h' := fun b o e => k b o (fun q => by have := hO b q; (exact nosome this (hk₀ _ _ (hs _ _ e)))) (hk₁ _ _ (hk₀ _ _ (hs _ _ e)))
    exact ⟨S.keeps kp, hM.keeps kp⟩
  show wpAny _ _ (execs [fwBody.getD 0 ps, fwBody.getD 1 ps, fwBody.getD 2 ps] (eF L)) _ _ _
  refine wpAny_execs_cons (asg_cell (c := L + 1 + 1 + 1) (h := h₁) F rfl rfl rfl (g_list1 g_int) (Kp.refl _) rfl ?_)
  intro v h₂ h₃ tk₃ z8_ hk₂ sb₃ F₃
  refine el3_5 z8_ fun fwA u h₀' r9_ hPn hP q10_ hk02 => ?_
  try clear z8_
  obtain rfl := r9_
  refine el1_1 q10_ fun tu r11_ => ?_
  try clear q10_
  obtain rfl := r11_
  have kx₃ : Kx (OwnA (eF L)) h₁ h₃ := (Kx.of hk₂).trans' (Kx.same sb₃ (own_cell (x := "fewest") rfl))
  have hfo : ¬ OwnA (eF L) fwA := Live.not F.live hPn
  have hF₃ : LI h₃ fwA [0] := ⟨[.int 0 tu], hP.at fun o e => sb₃.extBut _ o (fun q => hfo (q ▸ own_cell (x := "fewest") rfl)) e, .cons _ _ .nil⟩
  have lf₃ : Live (· = fwA) h₃ := fun b hb => by subst hb; obtain ⟨vs, ⟨k, e⟩, _⟩ := hF₃; exact ⟨_, e⟩
  have Z₃ : Fz (Or2 (OwnA (eF L)) (· = fwA)) (fun h => Sta w h ∧ MatAt h aA n ah) h₃ := Z₁.step kx₃ fun b hb => hb.elim .inl fun q => .inr (q ▸ hPn)
  have c3a : upd cm "fewest" (.ref fwA) "ahead" = some (.ref aA) := (upd_ne (by decide)).trans ha
  have c3h : upd cm "fewest" (.ref fwA) "hands" = some (.int hands th) := (upd_ne (by decide)).trans hh
  have c3f : upd cm "fewest" (.ref fwA) "fewest" = some (.ref fwA) := upd_eq
  generalize upd cm "fewest" (.ref fwA) = cm₃ at F₃ c3a c3h c3f
  refine el0_2 Z₃.now fun S₃ M₃ => ?_
  refine wpAny_execs_cons ?_
  refine for_fz (σ := (Str → Option Value) × (Str → Option Value) × List Int) (n := 2 ^ n - 1) (P := fun i v => i < 2 ^ n - 1 ∧ ∃ t, v = .int ((1 : Nat) + i * 1) t) (src := []) (fun _ => Or2 (OwnA (eF L)) (· = fwA))
    (fun i y h => Fra (eF L) h y.1 y.2.1 ∧ (∀ x : Str, x ≠ "job" → x ≠ "mask" → y.2.1 x = cm₃ x) ∧ LI h fwA y.2.2 ∧ y.2.2.length = i + 1 ∧ FwOk n hands ah y.2.2)
    (fun i y h => Sta w h ∧ MatAt h aA n ah) (Or2 (OwnA (eF L)) (· = fwA)) (m, cm₃, [0])
    (g_range2 (a := (1 : Nat)) (b := ((1 + (2 ^ n - 1) : Nat) : Int)) (n_range S₃ rfl rfl rfl rfl) g_int ?_) (fun xv h1 hk hx => by obtain ⟨r, t, u, z, rfl, hr⟩ := hx; exact itr_range2 hOk.hd (by lia) hr) (fun _ => rfl) (by simp) (F₃.live.or lf₃) (fun _ => id) ?_ ⟨F₃, fun _ _ _ => rfl, hF₃, rfl, ⟨rfl, fun mask h1 h2 => by simp at h2; lia⟩⟩ Z₃ ?_ ?_
  · have e : ((1 + (2 ^ n - 1) : Nat) : Int) = 2 ^ n := by (refine rwR (show 1 + (2 ^ n - 1) = 2 ^ n by (exact Nat.add_sub_cancel' (by assumption))) ?_); simp
    (refine rwR e ?_)
    exact gi_pow2 (by (exact Nat.le_trans (by assumption) (by decide))) g_int (g_lenMat M₃ (by (exact Nat.le_trans (by assumption) (by decide))) (n_len S₃ rfl rfl rfl rfl) (g_cell rfl rfl rfl (F₃.cellIs (x := "ahead") rfl c3a)))
  · intro i y h h' z12_ hk
    refine el0_4 z12_ fun q1 q2 q3 q4 => ?_
    try clear z12_
    exact ⟨q1.frame fun b o hb e => hk b o (.inl hb) e, q2, q3.at fun o e => hk _ o (.inr rfl) e, q4⟩
  · intro i z13_ Fr' v h₄ tk₄ E₄ Q₄ hi z14_ z15_ Z₄ lv₄ hMF hFF hK hFd q
    obtain ⟨m₄, cm₄, fw⟩ := z13_
    try clear z13_
    obtain ⟨_, t, r16_⟩ := z14_
    try clear z14_
    obtain rfl := r16_
    refine el0_5 z15_ fun F₄ hc₄ hF₄ hfl hok => ?_
    try clear z15_
    have ei : (((1 : Nat) : Int) + (i : Int) * 1) = ((i + 1 : Nat) : Int) := by lia
    (refine rwR ei ?_)
    refine wpAny_assign_Name (fra_cell (c := L + 1 + 1 + 1 + 1) F₄ rfl rfl rfl fun h₅ tk₅ F₅ sb₅ => ?_)
    have kx₅ : Kx (OwnA (eF L)) h₄ h₅ := Kx.same sb₅ (own_cell (x := "mask") rfl)
    have Z₅ := Z₄.step' ((kx₅.mono fun b => .inl).mono hMF)
    have lv₅ : Live Fr' h₅ := lv₄.step kx₅ F₅.live
    have c5 : ∀ x : Str, x ≠ "job" → x ≠ "mask" → upd cm₄ "mask" (.int ((i + 1 : Nat) : Int) t) x = cm₃ x := fun x h1 h2 => (upd_ne h2).trans (hc₄ x h1 h2)
    refine fw_turn (s := { s with heap := h₅, toks := tk₅ }) (Fr := Fr') (fwA := fwA) (fw := fw) (aA := aA) (n := n) (hands := hands) (ah := ah) hOk5 F₅ (fun b hb => hMF b (.inl hb)) lv₅ Z₅ ((c5 _ (by decide) (by decide)).trans c3a) hn ((c5 _ (by decide) (by decide)).trans c3h) hh1 upd_eq (by lia) (by (exact Nat.add_lt_of_lt_sub (by assumption))) (hac _ (by lia) (by (exact Nat.add_lt_of_lt_sub (by assumption)))) ((c5 _ (by decide) (by decide)).trans c3f) (hMF _ (.inr rfl)) hfo
      (hF₄.at fun o e => kx₅ _ o hfo e) hfl hok ?_
    intro h₆ tk₆ m₆ cm₆ x F₆ hc₆ hF₆ hok₆ kx₆
    have kx : Kx (Or2 (OwnA (eF L)) (· = fwA)) h₄ h₆ := (kx₅.mono fun b => .inl).trans' kx₆
    refine q .next (m₆, cm₆, fw ++ [x]) h₆ tk₆ (.inl rfl) ⟨F₆, fun x h1 h2 => (hc₆ x h1).trans (c5 x h1 h2), hF₆, ?_, hok₆⟩ kx (fun _ => id) (fun _ => .inl) ?_ ?_
    · show (fw ++ [x]).length = _; (refine rwR List.length_append ?_; refine rwR hfl ?_); rfl
    · refine F₆.live.or fun b hb => ?_
      subst hb; obtain ⟨vs, ⟨k, e⟩, _⟩ := hF₆; exact ⟨_, e⟩
    · exact (Z₄.step' (kx.mono hMF)).mono fun b hb => hb.elim id (hMF b)
  · intro z17_ h₄ tk₄ z18_ Z₄ lv₄ hK _
    obtain ⟨m₄, cm₄, fw⟩ := z17_
    try clear z17_
    refine el0_5 z18_ fun F₄ hc₄ hF₄ hfl hok => ?_
    try clear z18_
    refine wpAny_execs_cons (wpAny_Return_some ?_)
    refine (g_cell (prog := prog) (w := w) (h := h₄) rfl rfl rfl (F₄.cellIs (x := "fewest") rfl ((hc₄ _ (by decide) (by decide)).trans c3f))).useV (Kp.refl _) fun h₅ tk₅ hk₅ => ?_
    have kall : Kp s.heap h₅ := fun b o e => hk₅ b o (hK b o (fun q => by
      rcases q with q | q
      · have := hO b q; (exact nosome this (hk₀ _ _ e))
      · have := hPn; (replace this := Eq.symm q ▸ this; replace this := (hk₁ _ _ (hk₀ _ _ e)) ▸ this); cases this) (kx₃ b o (fun q => by have := hO b q; (exact nosome this (hk₀ _ _ e))) (hk₁ _ _ (hk₀ _ _ e))))
    refine ⟨⟨fwA, fw, rfl, ?_, hF₄.keeps hk₅, hok, by (refine rwR hfl ?_); lia⟩, h₅, tk₅, rfl, kall⟩
    exact dead_kp hs (dead_kp hk₀ (dead_kp hk₁ hPn))
end
end Mine
end
section
open PySem PySem.Calls PySem.W PyProof.Rows
set_option maxRecDepth 100000
set_option genInjectivity false
set_option genSizeOf false
set_option genSizeOfSpec false
namespace Mine
section
variable (w : World)
theorem k_hasDict : hasDictIn (K w) 137 = true := by kernel_rfl
theorem k_n2i : findIn (K w) (.ref 137) "_node2info" = some none := by kernel_rfl
theorem k_rdy : findIn (K w) (.ref 137) "_ready_nodes" = some none := by kernel_rfl
theorem k_pas : findIn (K w) (.ref 137) "_npassedout" = some none := by kernel_rfl
theorem k_fin : findIn (K w) (.ref 137) "_nfinished" = some none := by kernel_rfl
theorem k_ga : findIn (K w) (.ref 137) "__getattribute__" = some (some (.builtin "object.__getattribute__")) := by kernel_rfl
theorem k_gat : findIn (K w) (.ref 137) "__getattr__" = some none := by kernel_rfl
theorem k_sa : findIn (K w) (.ref 137) "__setattr__" = some (some (.builtin "object.__setattr__")) := by kernel_rfl
theorem k_po : plainOver (K w) 137 = true := by kernel_rfl
theorem k_get : findIn (K w) (.ref 137) "_get_nodeinfo" = some (some (.ref 80)) := by kernel_rfl
theorem k_add : findIn (K w) (.ref 137) "add" = some (some (.ref 87)) := by kernel_rfl
theorem k_prepare : findIn (K w) (.ref 137) "prepare" = some (some (.ref 92)) := by kernel_rfl
theorem k_ready : findIn (K w) (.ref 137) "get_ready" = some (some (.ref 99)) := by kernel_rfl
theorem k_active : findIn (K w) (.ref 137) "is_active" = some (some (.ref 106)) := by kernel_rfl
theorem k_done : findIn (K w) (.ref 137) "done" = some (some (.ref 120)) := by kernel_rfl
theorem k_cycle : findIn (K w) (.ref 137) "_find_cycle" = some (some (.ref 127)) := by kernel_rfl
theorem k_init : findIn (K w) (.ref 137) "__init__" = some (some (.ref 73)) := by kernel_rfl
theorem k_makes : makesIn (K w) 137 = true := by kernel_rfl
theorem n_ga : findIn (K w) (.ref 40) "__getattribute__" = some (some (.builtin "object.__getattribute__")) := by kernel_rfl
theorem n_gat : findIn (K w) (.ref 40) "__getattr__" = some none := by kernel_rfl
theorem n_sa : findIn (K w) (.ref 40) "__setattr__" = some (some (.builtin "object.__setattr__")) := by kernel_rfl
theorem n_po : plainOver (K w) 40 = true := by kernel_rfl
theorem n_init : findIn (K w) (.ref 40) "__init__" = some (some (.ref 36)) := by kernel_rfl
theorem n_makes : makesIn (K w) 40 = true := by kernel_rfl
theorem n_cls : isClsIn (K w) 40 = true := by kernel_rfl
theorem n_node : findIn (K w) (.ref 40) "node" = some (some (.ref 41)) := by kernel_rfl
theorem n_np : findIn (K w) (.ref 40) "npredecessors" = some (some (.ref 42)) := by kernel_rfl
theorem n_su : findIn (K w) (.ref 40) "successors" = some (some (.ref 43)) := by kernel_rfl
theorem s_node : slotIn (K w) 41 40 = some 0 := by kernel_rfl
theorem s_np : slotIn (K w) 42 40 = some 1 := by kernel_rfl
theorem s_su : slotIn (K w) 43 40 = some 2 := by kernel_rfl
theorem g_node : specialIn (K w) (.ref 41) "__get__" = some (some (.builtin "member_descriptor.__get__")) := by kernel_rfl
theorem g_np : specialIn (K w) (.ref 42) "__get__" = some (some (.builtin "member_descriptor.__get__")) := by kernel_rfl
theorem g_su : specialIn (K w) (.ref 43) "__get__" = some (some (.builtin "member_descriptor.__get__")) := by kernel_rfl
theorem t_node : takesIn (K w) (.ref 41) = some true := by kernel_rfl
theorem t_np : takesIn (K w) (.ref 42) = some true := by kernel_rfl
theorem t_su : takesIn (K w) (.ref 43) = some true := by kernel_rfl
theorem tk_node : takerIn (K w) 40 "node" = some (some (.ref 41)) := by kernel_rfl
theorem tk_np : takerIn (K w) 40 "npredecessors" = some (some (.ref 42)) := by kernel_rfl
theorem tk_su : takerIn (K w) 40 "successors" = some (some (.ref 43)) := by kernel_rfl
theorem tk_n2i : takerIn (K w) 137 "_node2info" = some none := by kernel_rfl
theorem tk_rdy : takerIn (K w) 137 "_ready_nodes" = some none := by kernel_rfl
theorem tk_pas : takerIn (K w) 137 "_npassedout" = some none := by kernel_rfl
theorem tk_fin : takerIn (K w) 137 "_nfinished" = some none := by kernel_rfl
theorem ty_node : typeIn (K w) (.ref 41) = some (.type "member_descriptor") := by kernel_rfl
theorem ty_np : typeIn (K w) (.ref 42) = some (.type "member_descriptor") := by kernel_rfl
theorem ty_su : typeIn (K w) (.ref 43) = some (.type "member_descriptor") := by kernel_rfl
theorem cd_ninit : codeIn (K w) (.ref 35) "_NodeInfo.__init__" = true := by kernel_rfl
theorem cd_init : codeIn (K w) (.ref 72) "TopologicalSorter.__init__" = true := by kernel_rfl
theorem cd_get : codeIn (K w) (.ref 79) "TopologicalSorter._get_nodeinfo" = true := by kernel_rfl
theorem cd_add : codeIn (K w) (.ref 86) "TopologicalSorter.add" = true := by kernel_rfl
theorem cd_prepare : codeIn (K w) (.ref 91) "TopologicalSorter.prepare" = true := by kernel_rfl
theorem cd_ready : codeIn (K w) (.ref 98) "TopologicalSorter.get_ready" = true := by kernel_rfl
theorem cd_active : codeIn (K w) (.ref 105) "TopologicalSorter.is_active" = true := by kernel_rfl
theorem cd_done : codeIn (K w) (.ref 119) "TopologicalSorter.done" = true := by kernel_rfl
theorem cd_cycle : codeIn (K w) (.ref 126) "TopologicalSorter._find_cycle" = true := by kernel_rfl
theorem cd_lefts : codeIn (K w) (.ref 145) "_law_lefts" = true := by kernel_rfl
theorem cd_law : codeIn (K w) (.ref 155) "law" = true := by kernel_rfl
theorem ty_fn (a : Addr) (h : a ∈ [36, 73, 80, 87, 92, 99, 106, 120, 127]) : typeIn (K w) (.ref a) = some (.type "function") := by
  simp at h
  rcases h with rfl | rfl | rfl | rfl | rfl | rfl | rfl | rfl | rfl <;> kernel_rfl
theorem gl_info : nsIn (K w) mainGlobals "_NodeInfo" = some (some (.ref 40)) := by kernel_rfl
theorem gl_sorter : nsIn (K w) mainGlobals "TopologicalSorter" = some (some (.ref 137)) := by kernel_rfl
theorem gl_fewest : nsIn (K w) mainGlobals "_law_fewest" = some (some (.ref 151)) := by kernel_rfl
theorem gl_lefts : nsIn (K w) mainGlobals "_law_lefts" = some (some (.ref 146)) := by kernel_rfl
theorem gl_out : ∃ t, nsIn (K w) mainGlobals "_NODE_OUT" = some (some (.int (-1) t)) := ⟨_, rfl⟩
theorem gl_done : ∃ t, nsIn (K w) mainGlobals "_NODE_DONE" = some (some (.int (-2) t)) := ⟨_, rfl⟩
end
end Mine
end
section
open PySem PySem.Calls PySem.W PyProof.Rows
set_option maxRecDepth 100000
set_option genSizeOf false
set_option genSizeOfSpec false
namespace Mine
noncomputable def liveL (h : Heap) (bad : Addr → Bool) : List (Addr × Obj) := (List.range h.objs.size).filterMap fun b => if bad b then none else (h.get? b).map fun o => (b, o)
theorem mem_liveL {h : Heap} {bad : Addr → Bool} {b : Addr} {o : Obj} : (b, o) ∈ liveL h bad ↔ bad b = false ∧ h.get? b = some o := by
  unfold liveL
  (refine rwR (propext List.mem_filterMap) ?_)
  constructor
  · intro z1_
    refine el1_2 z1_ fun c hc e => ?_
    try clear z1_
    split at e
    · cases e
    · rename_i hb
      refine el1_2 (Option.map_eq_some_iff.mp e) fun o' ho e' => ?_
      cases e'
      exact ⟨by simpa using hb, ho⟩
  · intro z2_
    refine el0_2 z2_ fun hb e => ?_
    try clear z2_
    exact ⟨b, List.mem_range.mpr (Heap.lt_size e), by (refine rwR hb ?_; refine rwR e ?_); rfl⟩
noncomputable def noHeap : Heap := {}
theorem noHeap_get (b : Addr) : noHeap.get? b = none := by
  cases e : noHeap.get? b with
  | none => rfl
  | some o => exact absurd (Heap.lt_size e) (Nat.not_lt_zero _)
theorem fr_no {h : Heap} {L : Addr} {m : Str → Option Value} (hn : h.Ns L m) : Fr noHeap L h m := ⟨hn, (fun b o e => by (rw [noHeap_get] at e; cases e)), Nat.zero_le _⟩
theorem news_live {h : Heap} {L a : Addr} {o : Obj} (ha : h.get? a = some o) (hL : a ≠ L) : News noHeap L h (liveL h (fun b => b == L || b == a) ++ (a, o) :: []) := by
  intro p hp
  obtain ⟨b, o'⟩ := p
  try clear p
  refine Or.elim (List.mem_append.mp hp) (fun hp => ?_) fun hp => ?_
  · refine el0_2 (mem_liveL.mp hp) fun h1 h2 => ?_
    simp at h1
    exact ⟨h2, h1.1, noHeap_get _⟩
  · (rw [List.mem_singleton] at hp; cases hp); exact ⟨ha, hL, noHeap_get _⟩
theorem live_ne {h : Heap} {L a : Addr} : ∀ p ∈ liveL h (fun b => b == L || b == a), p.1 ≠ a := by
  intro z3_ hp
  obtain ⟨b, o⟩ := z3_
  try clear z3_
  have := (mem_liveL.mp hp).1
  simp at this
  exact this.2
theorem news_kept {h h' : Heap} {L a : Addr} {o' : Obj} (N : News noHeap L h' (liveL h (fun b => b == L || b == a) ++ (a, o') :: [])) : ∀ b o, b ≠ L → b ≠ a → h.get? b = some o → h'.get? b = some o := fun b o h1 h2 e =>
  (N (b, o) (List.mem_append_left _ (mem_liveL.mpr ⟨by simp [h1, h2], e⟩))).1
theorem news_at {h h' : Heap} {L a : Addr} {o' : Obj} (N : News noHeap L h' (liveL h (fun b => b == L || b == a) ++ (a, o') :: [])) : h'.get? a = some o' := (N (a, o') (List.mem_append_right _ (List.mem_singleton.mpr rfl))).1
section
variable {prog : Program} {w : World} {A : Around} {s : Shared} {E : Value → Shared → Prop} {Q : Unit → Shared → Prop}
theorem set_attr_dict {F : Frag} {C x dx L : Addr} {m : Str → Option Value} {es : List DictEntry} {n : Nat} {name : Str} {v : Value} (X : F.In s.heap) (hn : s.heap.Ns L m) (hx : s.heap.get? x = some (instObj C dx)) (hd : s.heap.get? dx = some (dictOf es n)) (hL : dx ≠ L)
    (hs : findIn F (.ref C) "__setattr__" = some (some (.builtin "object.__setattr__"))) (hp : plainOver F C = true) (ht : takerIn F C name = some none) (hh : hasDictIn F C = true) (hl : (getL name es).isSome = true) (hz : ∀ hsh t, (putL name hsh (.str name t) v es).length ≤ 1000)
    (k : ∀ h' tk hsh t, h'.Ns L m → h'.get? dx = some (dictOf (putL name hsh (.str name t) v es) (putN name es n)) → (∀ b o, b ≠ L → b ≠ dx → s.heap.get? b = some o → h'.get? b = some o) → Q () { s with heap := h', toks := tk }) :
    wpAny (model prog w) A (setAttr (.ref x) name v) Q E s := by
  have I : InstAt s.heap x (instObj C dx) C (some (dictOf es n)) := ⟨hx, rfl, rfl, hd⟩
  refine set_plain X I hs (osa_dict (s := { s with toks := s.toks + 1 }) (od := dictOf es n) (fr_no hn) (news_live hd hL) X I rfl hp ht hh hl live_ne (by simp) (by rw [putName_dict]) rfl (hz _ _) fun h' F' N' => ?_)
  exact k h' _ _ _ F'.ns (news_at N') (news_kept N')
theorem set_attr_slot {F : Frag} {C x dx L p : Addr} {m : Str → Option Value} {sl : Array (Option Value)} {i : Nat} {name : Str} {v : Value} {od : Obj} (X : F.In s.heap) (hn : s.heap.Ns L m) (hx : s.heap.get? x = some ⟨.ref C, some dx, .plain, sl⟩) (hd : s.heap.get? dx = some od) (hL : x ≠ L)
    (hs : findIn F (.ref C) "__setattr__" = some (some (.builtin "object.__setattr__"))) (hp : plainOver F C = true) (ht : takerIn F C name = some (some (.ref p))) (hT : typeIn F (.ref p) = some (.type "member_descriptor")) (hi : slotIn F p C = some i) (hz : i < 1000)
    (k : ∀ h' tk, h'.Ns L m → h'.get? x = some ⟨.ref C, some dx, .plain, (sl ++ Array.replicate (i + 1 - sl.size) none).setIfInBounds i (some v)⟩ → (∀ b o, b ≠ L → b ≠ x → s.heap.get? b = some o → h'.get? b = some o) → Q () { s with heap := h', toks := tk }) :
    wpAny (model prog w) A (setAttr (.ref x) name v) Q E s := by
  have I : InstAt s.heap x ⟨.ref C, some dx, .plain, sl⟩ C (some od) := ⟨hx, rfl, rfl, hd⟩
  refine set_plain X I hs (osa_descr (s := { s with toks := s.toks + 1 }) KF.slot_mset X I hp ht hT (slot_set (s := { s with toks := s.toks + 1 }) (fr_no hn) (news_live hx hL) X I hi hz live_ne (by simp) rfl rfl fun h' F' N' => ?_))
  exact k h' _ F'.ns (news_at N') (news_kept N')
end
structure Sor where
  a : Addr
  d : Addr
  nd : Addr
  ia : Nat → Addr
  ix : Nat → Addr
  isl : Nat → Addr
  keys : List Nat
  np : Nat → Int
  su : Nat → List Nat
  rdy : Option (Addr × List Nat)
  pas : Int
  fin : Int
noncomputable def Sor.rv (S : Sor) : Value := match S.rdy with | none => .none | some (r, _) => .ref r
noncomputable def Sor.rl (S : Sor) (b : Addr) : Prop := ∃ l, S.rdy = some (b, l)
noncomputable def Sor.fp (S : Sor) (b : Addr) : Prop := b = S.a ∨ b = S.d ∨ b = S.nd ∨ S.rl b ∨ ∃ j ∈ S.keys, b = S.ia j ∨ b = S.ix j ∨ b = S.isl j
inductive Ents (nd : Addr) (rv : Value) (pas fin : Int) : List DictEntry → Prop
  | mk (h1 h2 h3 h4 : Int) (t1 t2 t3 t4 u3 u4 : Tok) : Ents nd rv pas fin [⟨h1, .str "_node2info" t1, .ref nd⟩, ⟨h2, .str "_ready_nodes" t2, rv⟩, ⟨h3, .str "_npassedout" t3, .int pas u3⟩, ⟨h4, .str "_nfinished" t4, .int fin u4⟩]
noncomputable abbrev infoObj (j : Nat) (ix : Addr) (np : Int) (isl : Addr) (t u : Tok) : Obj := ⟨.ref 40, some ix, .plain, #[some (.int j t), some (.int np u), some (.ref isl)]⟩
structure SorAt (prog : Program) (w : World) (h : Heap) (S : Sor) : Prop where
  inst : h.get? S.a = some (instObj 137 S.d)
  dict : ∃ es n, h.get? S.d = some (dictOf es n) ∧ Ents S.nd S.rv S.pas S.fin es
  nodes : h.DictOf (intKind prog w) S.nd (S.keys.map fun (j : Nat) => ((j : Int), Value.ref (S.ia j)))
  info : ∀ j ∈ S.keys, ∃ t u, h.get? (S.ia j) = some (infoObj j (S.ix j) (S.np j) (S.isl j) t u)
  idx : ∀ j ∈ S.keys, h.get? (S.ix j) = some emptyDict
  succ : ∀ j ∈ S.keys, LI h (S.isl j) (toI (S.su j))
  rl : ∀ r l, S.rdy = some (r, l) → LI h r (toI l) ∧ ∀ j ∈ S.keys, r ≠ S.isl j
  inj : ∀ i ∈ S.keys, ∀ j ∈ S.keys, S.isl i = S.isl j → i = j
  nodup : S.keys.Nodup
  dn : S.d ≠ S.nd
  dxd : ∀ j ∈ S.keys, S.ix j ≠ S.d ∧ S.ix j ≠ S.nd
  mods : (S.nd == sysModules) = false
theorem LI.live {h : Heap} {l : Addr} {ns : List Int} (x : LI h l ns) : ∃ k xs, h.get? l = some ({ cls := .type "list", data := .seq xs k } : Obj) := by obtain ⟨vs, ⟨k, e⟩, _⟩ := x; exact ⟨k, _, e⟩
section
variable {prog : Program} {w : World} {h h' : Heap} {S : Sor}
theorem DictOf.obj {a : Addr} {kvs : List (Int × Value)} (x : h.DictOf (intKind prog w) a kvs) : ∃ o, h.get? a = some o ∧ o.cls = .type "dict" := by
  refine el3_3 x fun o es ep ho hc _ => ?_
  try clear x
  exact ⟨o, ho, hc.1⟩
theorem SorAt.live (R : SorAt prog w h S) : Live S.fp h := by
  rintro b (rfl | rfl | rfl | ⟨l, hl⟩ | ⟨j, hj, rfl | rfl | rfl⟩)
  · exact ⟨_, R.inst⟩
  · obtain ⟨es, n, e, _⟩ := R.dict; exact ⟨_, e⟩
  · obtain ⟨o, e, _⟩ := DictOf.obj R.nodes; exact ⟨_, e⟩
  · obtain ⟨k, xs, e⟩ := (R.rl _ _ hl).1.live; exact ⟨_, e⟩
  · obtain ⟨t, u, e⟩ := R.info j hj; exact ⟨_, e⟩
  · exact ⟨_, R.idx j hj⟩
  · obtain ⟨k, xs, e⟩ := (R.succ j hj).live; exact ⟨_, e⟩
theorem SorAt.frame (R : SorAt prog w h S) (hk : ∀ b o, S.fp b → h.get? b = some o → h'.get? b = some o) : SorAt prog w h' S where
  inst := hk _ _ (.inl rfl) R.inst
  dict := let ⟨es, n, e, x⟩ := R.dict; ⟨es, n, hk _ _ (.inr (.inl rfl)) e, x⟩
  nodes := R.nodes.at fun o e => hk _ o (.inr (.inr (.inl rfl))) e
  info := fun j hj => let ⟨t, u, e⟩ := R.info j hj; ⟨t, u, hk _ _ (.inr (.inr (.inr (.inr ⟨j, hj, .inl rfl⟩)))) e⟩
  idx := fun j hj => hk _ _ (.inr (.inr (.inr (.inr ⟨j, hj, .inr (.inl rfl)⟩)))) (R.idx j hj)
  succ := fun j hj => (R.succ j hj).at fun o e => hk _ o (.inr (.inr (.inr (.inr ⟨j, hj, .inr (.inr rfl)⟩)))) e
  rl := fun r l e => ⟨(R.rl r l e).1.at fun o e' => hk _ o (.inr (.inr (.inr (.inl ⟨l, e⟩)))) e', (R.rl r l e).2⟩
  inj := R.inj
  nodup := R.nodup
  dn := R.dn
  dxd := R.dxd
  mods := R.mods
theorem ne_cls {a b : Addr} {o o' : Obj} (x : h.get? a = some o) (y : h.get? b = some o') (hc : o.cls ≠ o'.cls) : a ≠ b := fun e => by subst e; (rw [x] at y; cases y); exact hc rfl
end
end Mine
end
section
open PySem PySem.Calls PySem.W PyProof.Rows
set_option maxRecDepth 100000
set_option genInjectivity false
set_option genSizeOf false
set_option genSizeOfSpec false
namespace Mine
noncomputable def fup {α : Type} (f : Nat → α) (j : Nat) (v : α) : Nat → α := fun i => if i = j then v else f i
theorem fup_eq {α : Type} {f : Nat → α} {j : Nat} {v : α} : fup f j v j = v := by simp [fup]
theorem fup_ne {α : Type} {f : Nat → α} {j i : Nat} {v : α} (h : i ≠ j) : fup f j v i = f i := by simp [fup, h]
section
variable {prog : Program} {w : World} {h h' : Heap} {S : Sor}
theorem SorAt.ia_inj (R : SorAt prog w h S) {i j : Nat} (hi : i ∈ S.keys) (hj : j ∈ S.keys) (e : S.ia i = S.ia j) : i = j := by
  refine el2_1 (R.info i hi) fun t u e1 => ?_
  refine el2_1 (R.info j hj) fun t' u' e2 => ?_
  (replace e1 := e ▸ e1; replace e1 := e2 ▸ e1)
  have := Option.some.inj e1
  simp at this
  exact_mod_cast this.2.1.1.symm
theorem SorAt.set_np (R : SorAt prog w h S) {j : Nat} (hj : j ∈ S.keys) {v : Int} {t u : Tok} (hat : h'.get? (S.ia j) = some (infoObj j (S.ix j) v (S.isl j) t u))
    (hk : ∀ b o, S.fp b → b ≠ S.ia j → h.get? b = some o → h'.get? b = some o) : SorAt prog w h' { S with np := fup S.np j v } := by
  refine el2_1 (R.info j hj) fun t0 u0 e0 => ?_
  have f1 : S.fp S.a := .inl rfl
  have f2 : S.fp S.d := .inr (.inl rfl)
  have f3 : S.fp S.nd := .inr (.inr (.inl rfl))
  have f5 : ∀ i ∈ S.keys, S.fp (S.ia i) ∧ S.fp (S.ix i) ∧ S.fp (S.isl i) := fun i hi => ⟨.inr (.inr (.inr (.inr ⟨i, hi, .inl rfl⟩))), .inr (.inr (.inr (.inr ⟨i, hi, .inr (.inl rfl)⟩))), .inr (.inr (.inr (.inr ⟨i, hi, .inr (.inr rfl)⟩)))⟩
  refine ⟨hk _ _ f1 (ne_cls R.inst e0 (by simp)) R.inst, ?_, ?_, ?_, ?_, ?_, ?_, R.inj, R.nodup, R.dn, R.dxd, R.mods⟩
  · refine el2_2 R.dict fun es n e x => ?_
    exact ⟨es, n, hk _ _ f2 (ne_cls e e0 (by simp)) e, x⟩
  · refine el1_2 (DictOf.obj R.nodes) fun o ho hc => ?_
    exact R.nodes.at fun o' e => hk _ o' f3 (ne_cls ho e0 (by (refine rwR hc ?_); simp)) e
  · intro i hi
    by_cases hij : i = j
    · subst hij; exact ⟨t, u, by simpa [fup] using hat⟩
    · refine el2_1 (R.info i hi) fun t' u' e => ?_
      exact ⟨t', u', by simpa [fup, hij] using hk _ _ (f5 i hi).1 (fun q => hij (R.ia_inj hi hj q)) e⟩
  · exact fun i hi => hk _ _ (f5 i hi).2.1 (ne_cls (R.idx i hi) e0 (by simp)) (R.idx i hi)
  · intro i hi
    refine el2_1 ((R.succ i hi).live) fun k xs e => ?_
    exact (R.succ i hi).at fun o e' => hk _ o (f5 i hi).2.2 (ne_cls e e0 (by simp)) e'
  · intro r l e
    refine el0_2 (R.rl r l e) fun h1 h2 => ?_
    refine el2_1 h1.live fun k xs e' => ?_
    exact ⟨h1.at fun o e'' => hk _ o (.inr (.inr (.inr (.inl ⟨l, e⟩)))) (ne_cls e' e0 (by simp)) e'', h2⟩
theorem SorAt.set_su (R : SorAt prog w h S) {j : Nat} (hj : j ∈ S.keys) {l' : List Nat} (hat : LI h' (S.isl j) (toI l'))
    (hk : ∀ b o, S.fp b → b ≠ S.isl j → h.get? b = some o → h'.get? b = some o) : SorAt prog w h' { S with su := fup S.su j l' } := by
  refine el2_1 ((R.succ j hj).live) fun k0 xs0 e0 => ?_
  have f1 : S.fp S.a := .inl rfl
  have f2 : S.fp S.d := .inr (.inl rfl)
  have f3 : S.fp S.nd := .inr (.inr (.inl rfl))
  have f5 : ∀ i ∈ S.keys, S.fp (S.ia i) ∧ S.fp (S.ix i) ∧ S.fp (S.isl i) := fun i hi => ⟨.inr (.inr (.inr (.inr ⟨i, hi, .inl rfl⟩))), .inr (.inr (.inr (.inr ⟨i, hi, .inr (.inl rfl)⟩))), .inr (.inr (.inr (.inr ⟨i, hi, .inr (.inr rfl)⟩)))⟩
  refine ⟨hk _ _ f1 (ne_cls R.inst e0 (by simp)) R.inst, ?_, ?_, ?_, ?_, ?_, ?_, R.inj, R.nodup, R.dn, R.dxd, R.mods⟩
  · refine el2_2 R.dict fun es n e x => ?_
    exact ⟨es, n, hk _ _ f2 (ne_cls e e0 (by simp)) e, x⟩
  · refine el1_2 (DictOf.obj R.nodes) fun o ho hc => ?_
    exact R.nodes.at fun o' e => hk _ o' f3 (ne_cls ho e0 (by (refine rwR hc ?_); simp)) e
  · intro i hi
    refine el2_1 (R.info i hi) fun t' u' e => ?_
    exact ⟨t', u', hk _ _ (f5 i hi).1 (ne_cls e e0 (by simp)) e⟩
  · exact fun i hi => hk _ _ (f5 i hi).2.1 (ne_cls (R.idx i hi) e0 (by simp)) (R.idx i hi)
  · intro i hi
    by_cases hij : i = j
    · subst hij; simpa [fup] using hat
    · have := (R.succ i hi).at fun o e' => hk _ o (f5 i hi).2.2 (fun q => hij (R.inj i hi j hj q)) e'
      simpa [fup, hij] using this
  · intro r l e
    refine el0_2 (R.rl r l e) fun h1 h2 => ?_
    exact ⟨h1.at fun o e'' => hk _ o (.inr (.inr (.inr (.inl ⟨l, e⟩)))) (h2 j hj) e'', h2⟩
theorem SorAt.set_own (R : SorAt prog w h S) {es : List DictEntry} {n : Nat} {rdy' : Option (Addr × List Nat)} {pas' fin' : Int} (hat : h'.get? S.d = some (dictOf es n)) (he : Ents S.nd ({ S with rdy := rdy' } : Sor).rv pas' fin' es)
    (hk : ∀ b o, S.fp b → b ≠ S.d → h.get? b = some o → h'.get? b = some o) (hrl : ∀ r l, rdy' = some (r, l) → LI h' r (toI l) ∧ ∀ j ∈ S.keys, r ≠ S.isl j) : SorAt prog w h' { S with rdy := rdy', pas := pas', fin := fin' } := by
  refine el2_2 R.dict fun es0 n0 e0 _ => ?_
  have f1 : S.fp S.a := .inl rfl
  have f3 : S.fp S.nd := .inr (.inr (.inl rfl))
  have f5 : ∀ i ∈ S.keys, S.fp (S.ia i) ∧ S.fp (S.ix i) ∧ S.fp (S.isl i) := fun i hi => ⟨.inr (.inr (.inr (.inr ⟨i, hi, .inl rfl⟩))), .inr (.inr (.inr (.inr ⟨i, hi, .inr (.inl rfl)⟩))), .inr (.inr (.inr (.inr ⟨i, hi, .inr (.inr rfl)⟩)))⟩
  refine ⟨hk _ _ f1 (ne_cls R.inst e0 (by simp)) R.inst, ⟨es, n, hat, he⟩, ?_, ?_, ?_, ?_, hrl, R.inj, R.nodup, R.dn, R.dxd, R.mods⟩
  · exact R.nodes.at fun o' e => hk _ o' f3 (Ne.symm R.dn) e
  · intro i hi
    refine el2_1 (R.info i hi) fun t' u' e => ?_
    exact ⟨t', u', hk _ _ (f5 i hi).1 (ne_cls e e0 (by simp)) e⟩
  · exact fun i hi => hk _ _ (f5 i hi).2.1 (R.dxd i hi).1 (R.idx i hi)
  · intro i hi
    refine el2_1 ((R.succ i hi).live) fun k xs e => ?_
    exact (R.succ i hi).at fun o e' => hk _ o (f5 i hi).2.2 (ne_cls e e0 (by simp)) e'
theorem SorAt.set_rl (R : SorAt prog w h S) {r : Addr} {l l' : List Nat} (hr : S.rdy = some (r, l)) (hat : LI h' r (toI l'))
    (hk : ∀ b o, S.fp b → b ≠ r → h.get? b = some o → h'.get? b = some o) : SorAt prog w h' { S with rdy := some (r, l') } := by
  refine el0_2 (R.rl r l hr) fun hl0 hne => ?_
  refine el2_1 hl0.live fun k0 xs0 e0 => ?_
  have f1 : S.fp S.a := .inl rfl
  have f2 : S.fp S.d := .inr (.inl rfl)
  have f3 : S.fp S.nd := .inr (.inr (.inl rfl))
  have f5 : ∀ i ∈ S.keys, S.fp (S.ia i) ∧ S.fp (S.ix i) ∧ S.fp (S.isl i) := fun i hi => ⟨.inr (.inr (.inr (.inr ⟨i, hi, .inl rfl⟩))), .inr (.inr (.inr (.inr ⟨i, hi, .inr (.inl rfl)⟩))), .inr (.inr (.inr (.inr ⟨i, hi, .inr (.inr rfl)⟩)))⟩
  refine ⟨hk _ _ f1 (ne_cls R.inst e0 (by simp)) R.inst, ?_, ?_, ?_, ?_, ?_, ?_, R.inj, R.nodup, R.dn, R.dxd, R.mods⟩
  · refine el2_2 R.dict fun es n e x => ?_
    refine ⟨es, n, hk _ _ f2 (ne_cls e e0 (by simp)) e, ?_⟩
    have e2 : S.rv = .ref r := by unfold Sor.rv; (refine rwR hr ?_; with_reducible rfl)
    (replace x := e2 ▸ x)
    exact x
  · refine el1_2 (DictOf.obj R.nodes) fun o ho hc => ?_
    exact R.nodes.at fun o' e => hk _ o' f3 (ne_cls ho e0 (by (refine rwR hc ?_); simp)) e
  · intro i hi
    refine el2_1 (R.info i hi) fun t' u' e => ?_
    exact ⟨t', u', hk _ _ (f5 i hi).1 (ne_cls e e0 (by simp)) e⟩
  · exact fun i hi => hk _ _ (f5 i hi).2.1 (ne_cls (R.idx i hi) e0 (by simp)) (R.idx i hi)
  · intro i hi
    exact (R.succ i hi).at fun o e' => hk _ o (f5 i hi).2.2 (Ne.symm (hne i hi)) e'
  · intro r' l'' e
    cases e
    exact ⟨hat, hne⟩
theorem SorAt.new_node (R : SorAt prog w h S) {j : Nat} (hj : j ∉ S.keys) {ia ix is : Addr} {t u : Tok} (hd : h'.DictOf (intKind prog w) S.nd ((S.keys.map fun (j : Nat) => ((j : Int), Value.ref (S.ia j))) ++ [((j : Int), Value.ref ia)]))
    (h1 : h'.get? ia = some (infoObj j ix 0 is t u)) (h2 : h'.get? ix = some emptyDict) (h3 : LI h' is (toI [])) (n1 : h.get? ia = none) (n2 : h.get? ix = none) (n3 : h.get? is = none)
    (hk : ∀ b o, S.fp b → b ≠ S.nd → h.get? b = some o → h'.get? b = some o) :
    SorAt prog w h' { S with keys := S.keys ++ [j], ia := fup S.ia j ia, ix := fup S.ix j ix, isl := fup S.isl j is, np := fup S.np j 0, su := fup S.su j [] } := by
  refine el1_2 (DictOf.obj R.nodes) fun o0 e0 c0 => ?_
  have f1 : S.fp S.a := .inl rfl
  have f2 : S.fp S.d := .inr (.inl rfl)
  have f3 : S.fp S.nd := .inr (.inr (.inl rfl))
  have f5 : ∀ i ∈ S.keys, S.fp (S.ia i) ∧ S.fp (S.ix i) ∧ S.fp (S.isl i) := fun i hi => ⟨.inr (.inr (.inr (.inr ⟨i, hi, .inl rfl⟩))), .inr (.inr (.inr (.inr ⟨i, hi, .inr (.inl rfl)⟩))), .inr (.inr (.inr (.inr ⟨i, hi, .inr (.inr rfl)⟩)))⟩
  have nij : ∀ i ∈ S.keys, i ≠ j := fun i hi q => hj (q ▸ hi)
  have lv := R.live
  refine ⟨hk _ _ f1 (ne_cls R.inst e0 (by (refine rwR c0 ?_); simp)) R.inst, ?_, ?_, ?_, ?_, ?_, ?_, ?_, ?_, R.dn, ?_, R.mods⟩
  · refine el2_2 R.dict fun es n e x => ?_
    exact ⟨es, n, hk _ _ f2 R.dn e, x⟩
  · have e : (S.keys ++ [j]).map (fun (i : Nat) => ((i : Int), Value.ref (fup S.ia j ia i))) = (S.keys.map fun (j : Nat) => ((j : Int), Value.ref (S.ia j))) ++ [((j : Int), Value.ref ia)] := by
      (refine rwR List.map_append ?_)
      congr 1
      · exact List.map_congr_left fun i hi => by (refine rwR (fup_ne (nij i hi)) ?_; with_reducible rfl)
      · simp [fup]
    show h'.DictOf _ _ ((S.keys ++ [j]).map (fun (i : Nat) => ((i : Int), Value.ref (fup S.ia j ia i))))
    (refine rwR e ?_); exact hd
  · intro i hi
    refine Or.elim (List.mem_append.mp hi) (fun hi => ?_) fun hi => ?_
    · refine el2_1 (R.info i hi) fun t' u' e => ?_
      exact ⟨t', u', by simpa [fup, nij i hi] using hk _ _ (f5 i hi).1 (ne_cls e e0 (by (refine rwR c0 ?_); simp)) e⟩
    · (refine rwR (List.mem_singleton.mp hi) ?_); exact ⟨t, u, by simpa [fup] using h1⟩
  · intro i hi
    refine Or.elim (List.mem_append.mp hi) (fun hi => ?_) fun hi => ?_
    · simpa [fup, nij i hi] using hk _ _ (f5 i hi).2.1 (R.dxd i hi).2 (R.idx i hi)
    · (refine rwR (List.mem_singleton.mp hi) ?_); simpa [fup] using h2
  · intro i hi
    refine Or.elim (List.mem_append.mp hi) (fun hi => ?_) fun hi => ?_
    · refine el2_1 ((R.succ i hi).live) fun k xs e => ?_
      have := (R.succ i hi).at fun o e' => hk _ o (f5 i hi).2.2 (ne_cls e e0 (by (refine rwR c0 ?_); simp)) e'
      simpa [fup, nij i hi] using this
    · (refine rwR (List.mem_singleton.mp hi) ?_); simpa [fup] using h3
  · intro r l e
    refine el0_2 (R.rl r l e) fun q1 q2 => ?_
    refine el2_1 q1.live fun k xs e' => ?_
    refine ⟨q1.at fun o e'' => hk _ o (.inr (.inr (.inr (.inl ⟨l, e⟩)))) (ne_cls e' e0 (by (refine rwR c0 ?_); simp)) e'', fun i hi => ?_⟩
    refine Or.elim (List.mem_append.mp hi) (fun hi => ?_) fun hi => ?_
    · simpa [fup, nij i hi] using q2 i hi
    · (refine rwR (List.mem_singleton.mp hi) ?_)
      simp only [fup, if_pos]
      intro q; (replace e' := q ▸ e'; replace e' := n3 ▸ e'); cases e'
  · have dd : ∀ i ∈ S.keys, S.isl i ≠ is := fun i hi q => by obtain ⟨k, xs, e⟩ := (R.succ i hi).live; (exact nosome2 q (n3) e)
    intro i hi i' hi' e
    rcases List.mem_append.mp hi with hi | hi <;> rcases List.mem_append.mp hi' with hi' | hi'
    · simp only [fup_ne (nij i hi), fup_ne (nij i' hi')] at e; exact R.inj i hi i' hi' e
    · (replace e := (List.mem_singleton.mp hi') ▸ e); simp only [fup_ne (nij i hi), fup_eq] at e; exact absurd e (dd i hi)
    · (replace e := (List.mem_singleton.mp hi) ▸ e); simp only [fup_ne (nij i' hi'), fup_eq] at e; exact absurd e.symm (dd i' hi')
    · (refine rwR (List.mem_singleton.mp hi) ?_; refine rwR (List.mem_singleton.mp hi') ?_; with_reducible rfl)
  · exact List.nodup_append.mpr ⟨R.nodup, by simp, fun a ha b hb => by (refine rwR (List.mem_singleton.mp hb) ?_); exact nij a ha⟩
  · intro i hi
    refine Or.elim (List.mem_append.mp hi) (fun hi => ?_) fun hi => ?_
    · simpa [fup, nij i hi] using R.dxd i hi
    · (refine rwR (List.mem_singleton.mp hi) ?_)
      simp only [fup, if_pos]
      exact ⟨(fun q => by obtain ⟨o, e⟩ := lv _ f2; (replace e := Eq.symm q ▸ e; replace e := n2 ▸ e); cases e), (fun q => by obtain ⟨o, e⟩ := lv _ f3; (replace e := Eq.symm q ▸ e; replace e := n2 ▸ e); cases e)⟩
end
end Mine
end
section
open PySem PySem.Calls PySem.W PyProof.Rows
set_option maxRecDepth 100000
set_option genInjectivity false
set_option genSizeOf false
set_option genSizeOfSpec false
namespace Mine
section
variable {prog : Program} {w : World} {A : Around} {h : Heap} {S : Sor} {env : Env}
theorem g_attr {value : Expr} {attr : Str} {pos : Pos} {o : Value} {R : Value → Heap → Prop} (x : GV prog w A h (eval value env) o)
    (y : ∀ h', Kp h h' → Gives prog w A h' (getAttr o attr true) R)
    (he : eval (.Attribute value attr pos) env = (do
      let o ← eval value env
      standAt pos.atName
      let r ← holding [o] (getAttr o attr true)
      letTemporaryGo value o r
      pure r) := by with_unfolding_all rfl) : Gives prog w A h (eval (.Attribute value attr pos) env) R := fun s E hs =>
  Attribute_any_ (wpAny_mono (x s E hs) (fun v s1 z => by
    refine el0_2 z fun r1_ t2_ => ?_
    try clear z
    revert t2_
    intro z
    obtain rfl := r1_
    exact wpAny_mono (y s1.heap (hs.trans (keeps_kp z)) s1 E (Kp.refl _)) (fun v s2 q => ⟨q.1, keeps_trans z q.2⟩) fun _ _ e => e) fun _ _ e => e) he
theorem get_field {name : Str} {expr : Bool} {Rv : Value → Prop} (X : (K w).In h) (R : SorAt prog w h S) (hf : findIn (K w) (.ref 137) name = some none)
    (hl : ∀ es, Ents S.nd S.rv S.pas S.fin es → ∃ v, getL name es = some (some v) ∧ handedIn v = true ∧ Rv v) : Gives prog w A h (getAttr (.ref S.a) name expr) (fun v _ => Rv v) := fun s E hs => by
  refine el2_2 R.dict fun es n hd he => ?_
  refine el1_3 (hl es he) fun v h1 h2 h3 => ?_
  have I : InstAt s.heap S.a (instObj 137 S.d) 137 (some (dictOf es n)) := ⟨hs _ _ R.inst, rfl, rfl, hs _ _ hd⟩
  exact get_value (X.keeps hs) I (k_ga w) (findObj_own (k_hasDict w) hf rfl h1) h2 ⟨h3, toks_keeps s _⟩
theorem rv_handed (S : Sor) : handedIn S.rv = true := by unfold Sor.rv; split <;> rfl
theorem f_n2i {expr : Bool} (X : (K w).In h) (R : SorAt prog w h S) : GV prog w A h (getAttr (.ref S.a) "_node2info" expr) (.ref S.nd) :=
  get_field X R (k_n2i w) (Rv := fun v => v = .ref S.nd) fun es he => by cases he; exact ⟨_, rfl, rfl, rfl⟩
theorem f_rdy {expr : Bool} (X : (K w).In h) (R : SorAt prog w h S) : GV prog w A h (getAttr (.ref S.a) "_ready_nodes" expr) S.rv :=
  get_field X R (k_rdy w) (Rv := fun v => v = S.rv) fun es he => by cases he; exact ⟨_, rfl, rv_handed S, rfl⟩
theorem f_pas {expr : Bool} (X : (K w).In h) (R : SorAt prog w h S) : GI prog w A h (getAttr (.ref S.a) "_npassedout" expr) S.pas :=
  get_field X R (k_pas w) (Rv := fun v => isI S.pas v) fun es he => by cases he; exact ⟨_, rfl, rfl, _, rfl⟩
theorem f_fin {expr : Bool} (X : (K w).In h) (R : SorAt prog w h S) : GI prog w A h (getAttr (.ref S.a) "_nfinished" expr) S.fin :=
  get_field X R (k_fin w) (Rv := fun v => isI S.fin v) fun es he => by cases he; exact ⟨_, rfl, rfl, _, rfl⟩
theorem SorAt.keeps {h' : Heap} (R : SorAt prog w h S) (hk : Kp h h') : SorAt prog w h' S := R.frame fun b o _ e => hk b o e
theorem get_slotN {name : Str} {expr : Bool} {p : Addr} {i j : Nat} {v : Value} {t u : Tok} {a ix isl : Addr} {np : Int} (X : (K w).In h) (ha : h.get? a = some (infoObj j ix np isl t u)) (hx : h.get? ix = some emptyDict)
    (hf : findIn (K w) (.ref 40) name = some (some (.ref p))) (hg : specialIn (K w) (.ref p) "__get__" = some (some (.builtin "member_descriptor.__get__"))) (ht : takesIn (K w) (.ref p) = some true) (hp : slotIn (K w) p 40 = some i)
    (hv : ((infoObj j ix np isl t u).slots[i]?).join = some v) (hh : handedIn v = true) : GV prog w A h (getAttr (.ref a) name expr) v := fun s E hs => by
  have I : InstAt s.heap a (infoObj j ix np isl t u) 40 (some emptyDict) := ⟨hs _ _ ha, rfl, rfl, hs _ _ hx⟩
  exact get_bind (X.keeps hs) I (n_ga w) (findObj_data (n_cls w) hf hg ht) (n_gat w) (wpAny_call (slot_get (s := { s with toks := s.toks + 1 }) (X.keeps hs) I hp hv (handed_on hh ⟨rfl, toks_keeps s _⟩)))
theorem f_np {expr : Bool} {j : Nat} (X : (K w).In h) (R : SorAt prog w h S) (hj : j ∈ S.keys) : GI prog w A h (getAttr (.ref (S.ia j)) "npredecessors" expr) (S.np j) := by
  refine el2_1 (R.info j hj) fun t u e => ?_
  exact (get_slotN X e (R.idx j hj) (n_np w) (g_np w) (t_np w) (s_np w) rfl rfl).mono fun v _ _ hv => ⟨u, hv⟩
theorem f_su {expr : Bool} {j : Nat} (X : (K w).In h) (R : SorAt prog w h S) (hj : j ∈ S.keys) : GV prog w A h (getAttr (.ref (S.ia j)) "successors" expr) (.ref (S.isl j)) := by
  refine el2_1 (R.info j hj) fun t u e => ?_
  exact get_slotN X e (R.idx j hj) (n_su w) (g_su w) (t_su w) (s_su w) rfl rfl
theorem f_node {expr : Bool} {j : Nat} (X : (K w).In h) (R : SorAt prog w h S) (hj : j ∈ S.keys) : GI prog w A h (getAttr (.ref (S.ia j)) "node" expr) j := by
  refine el2_1 (R.info j hj) fun t u e => ?_
  exact (get_slotN X e (R.idx j hj) (n_node w) (g_node w) (t_node w) (s_node w) rfl rfl).mono fun v _ _ hv => ⟨t, hv⟩
theorem valueAt_keys {ia : Nat → Addr} : ∀ {keys : List Nat} {j : Nat}, valueAt (keys.map fun (j : Nat) => ((j : Int), Value.ref (ia j))) (j : Int) = if j ∈ keys then some (.ref (ia j)) else none
  | [], j => rfl
  | i :: keys, j => by
    have ih := @valueAt_keys ia keys j
    unfold valueAt at ih ⊢
    (refine rwR List.map_cons ?_; refine rwR (List.find?_cons) ?_)
    by_cases hij : i = j
    · subst hij; simp
    · have : decide (((i : Nat) : Int) = (j : Int)) = false := decide_eq_false (by lia)
      (refine rwR this ?_)
      (refine rwR ih ?_)
      simp [hij, Ne.symm hij]
theorem g_nd {value slice : Expr} {pos : Pos} {j : Nat} (R : SorAt prog w h S) (hj : j ∈ S.keys) (a : GV prog w A h (eval value env) (.ref S.nd)) (b : GI prog w A h (eval slice env) j)
    (hsl : ∀ o i, subscripted slice false o i = operate [o, i] (getItem o i)) : GV prog w A h (eval (.Subscript value slice pos) env) (.ref (S.ia j)) := fun s E hs =>
  Subscript_ (wpAny_mono (a s E hs) (fun o s1 z => by
    refine el0_2 z fun r3_ t4_ => ?_
    try clear z
    revert t4_
    intro z
    obtain rfl := r3_
    refine wpAny_mono (b s1 E (hs.trans (keeps_kp z))) (fun i s2 y => ?_) fun _ _ e => e
    refine el0_2 y fun q5_ t6_ => ?_
    try clear y
    revert t6_
    intro y
    refine el1_1 q5_ fun t r7_ => ?_
    try clear q5_
    obtain rfl := r7_
    have hd := (R.keeps ((hs.trans (keeps_kp z)).trans (keeps_kp y))).nodes
    refine tail_any hd.typeIs slot_dict_getitem.lookup (wpAny_getItem_of (k := (j : Int)) (intKind_is prog w _ _) hd.mapOf (v := .ref (S.ia j)) ?_ ⟨rfl, keeps_trans z (keeps_trans y (toks_keeps s2 _))⟩) (hsl _ _)
    (refine rwR valueAt_keys ?_; refine rwR (if_pos hj) ?_; with_reducible rfl)) fun _ _ e => e)
theorem g_ndget {value e : Expr} {apos pos : Pos} {j : Nat} (R : SorAt prog w h S) (a : GV prog w A h (eval value env) (.ref S.nd)) (b : GI prog w A h (eval e env) j)
    (hbase : attributeBase value "get" env (eval value env) = eval value env := by rfl) (hline : (apos.endLine == pos.line) = true := by rfl) (htrees : backTo pos (starEach [e] env) = [(false, eval e env)] := by rfl) :
    GV prog w A h (eval (.Call (.Attribute value "get" apos) [e] [] pos) env) (if j ∈ S.keys then .ref (S.ia j) else .none) := fun s E hs => by
  refine wpAny_Call_method1_late hbase hline htrees (wpAny_mono (a s E hs) (fun o s1 z => ?_) fun _ _ e => e)
  refine el0_2 z fun r8_ t9_ => ?_
  try clear z
  revert t9_
  intro z
  obtain rfl := r8_
  have hd := (R.keeps (hs.trans (keeps_kp z))).nodes
  refine ⟨"dict", "dict.get", F.plainAttrs_dict, F.slot_dict_get, F.type_dict_get, hd.typeIs, hd.mapOf.noDict, wpAny_dict_get1 (knd := intKind prog w) R.mods (wpAny_mono (b s1 E (hs.trans (keeps_kp z))) (fun v s2 y => ?_) fun _ _ e => e)⟩
  refine el0_2 y fun q10_ t11_ => ?_
  try clear y
  revert t11_
  intro y
  refine el1_1 q10_ fun t r12_ => ?_
  try clear q10_
  obtain rfl := r12_
  refine ⟨(j : Int), _, intKind_is prog w _ _, (R.keeps ((hs.trans (keeps_kp z)).trans (keeps_kp y))).nodes.mapOf, ?_, keeps_trans z (keeps_trans y (toks_keeps s2 _))⟩
  (refine rwR valueAt_keys ?_)
  split <;> rfl
end
end Mine
end
section
open PySem PySem.Calls PySem.W PyProof.Rows
set_option maxRecDepth 100000
set_option genInjectivity false
set_option genSizeOf false
set_option genSizeOfSpec false
namespace Mine
theorem Ok.under {n : Nat} {A : Around} {C : Addr} {vals : List Value} {kw : List (Str × Value)} (x : Ok (n + 1) A) : Ok n (A.under (.builtin "type.__call__" ⟨.ref C :: vals, kw⟩)) := by
  have hd : (A.under (.builtin "type.__call__" ⟨.ref C :: vals, kw⟩)).depth = A.depth + 1 := rfl
  have hu : (A.under (.builtin "type.__call__" ⟨.ref C :: vals, kw⟩)).units = A.units + (1 + 3 * (Code.builtin "type.__call__" ⟨.ref C :: vals, kw⟩).frames) := rfl
  have hf : (Code.builtin "type.__call__" ⟨.ref C :: vals, kw⟩).frames = 0 := rfl
  refine ⟨x.hd, ?_, ?_⟩
  · have := x.dp; lia
  · have := x.un; lia
section
variable {prog : Program} {w : World} {A : Around} {s : Shared} {E : Value → Shared → Prop}
theorem call_code {a : Addr} {o : Obj} {fd : FuncData} {body : List Stmt} {vals : List Value} {binds : List (Str × Value)} {RB : Heap → Prop} {R : Result → Shared → Prop} {n : Nat}
    (hA : Ok (n + 1) A) (ho : s.heap.get? a = some o) (hdata : o.data = .func fd) (hlim : s.heap.NoLimit) (hcd : s.heap.CodeRec fd.code fd.qualname)
    (hbody : fd.body = .stmts body) (hclo : fd.closure = [])
    (hbind : Gives prog w A.in1 s.heap (bindArgs fd ⟨vals, []⟩) (fun b h' => b = binds ∧ RB h'))
    (hkind : ∀ k, ∀ x ∈ binds, fd.scope.names.lookup x.1 = some .local ∨ (fd.scope.names.lookup x.1 = some .cell ∧ ((cellsFrom k fd.scope.names []).lookup x.1).isSome = true))
    (h : ∀ L h₀ h₁ tk (E' : Value → Shared → Prop), s.heap.get? L = none → h₀.get? L = none → Kp s.heap h₀ → RB h₀ → Kp h₀ h₁ → Fra (callEnvC fd L a) h₁ (bindL (callEnvC fd L a).kindOf binds fun _ => none) (bindC (callEnvC fd L a).kindOf binds fun _ => none) →
      (∀ b, OwnA (callEnvC fd L a) b → h₀.get? b = none) →
      Ok n (A.deeper (callEnvC fd L a)) →
      wpAny (model prog w) (A.deeper (callEnvC fd L a)) (execs body (callEnvC fd L a)) (fun f s' => R (.ok (.ret (match f with | .ret v => v | _ => .none))) s') E' { s with heap := h₁, toks := tk })
    (hco : fd.scope.isCoroutine = false := by rfl) (hgen : fd.scope.isGenerator = false := by rfl) (hk : fd.scope.kind = .function := by rfl) :
    codeAny (model prog w) A (.call (.ref a) ⟨vals, []⟩) R s := by
  refine codeAny_call_function hA.room ho hdata hco hgen hbody hcd ?_
  refine hbind.use (Kp.refl _) fun b h₀ t₀ hk₀ hb => ?_
  refine el0_2 hb fun r1_ hRB => ?_
  try clear hb
  obtain rfl := r1_
  (refine rwR hclo ?_)
  refine wpAny_newFunctionEnv_cells hk (hkind _) fun env he s' x => ?_
  subst he
  refine el2_1 x.toInCall.same fun h₁ tk r2_ => ?_
  obtain rfl := r2_
  have none_of : ∀ b, h₀.objs.size ≤ b → h₀.get? b = none := fun b hb => by
    cases e : h₀.get? b with
    | none => rfl
    | some o => exact absurd (Heap.lt_size e) (Nat.not_lt.mpr hb)
  refine ⟨(hlim.keeps hk₀).keeps x.toInCall.keep, codeAny_func ?_⟩
  refine h h₀.objs.size h₀ h₁ tk _ ?_ (none_size h₀) hk₀ hRB x.toInCall.keep ⟨x.toInCall.ns, x.cell, x.apart, x.above⟩ ?_ hA.deeper
  · cases e : s.heap.get? h₀.objs.size with
    | none => rfl
    | some o => exact absurd (Heap.lt_size (hk₀ _ _ e)) (Nat.lt_irrefl _)
  · intro b hb
    rcases hb with rfl | ⟨nm, hb⟩
    · exact none_size h₀
    · exact none_of b (Nat.le_of_lt (x.above nm b (mem_of_lookup hb)))
theorem new_info {h : Heap} {j : Nat} {t : Tok} (hA : Ok 8 A) (S : Sta w h) :
    Gives prog w A h (call (.ref 40) [.int j t]) (fun v h' => ∃ a ix is tn tu, v = .ref a ∧ h.get? a = none ∧ h.get? ix = none ∧ h.get? is = none ∧ h'.get? a = some (infoObj j ix 0 is tn tu) ∧ h'.get? ix = some emptyDict ∧ LI h' is (toI [])) := fun s E hs => by
  obtain ⟨hh, g, dr, tk₀, os⟩ := s
  try clear s
  have S₀ : Sta w hh := S.keeps hs
  refine el2_1 (fn_ninit w) fun d sl hf => ?_
  refine wpAny_call (make_core (makes_of S₀.X (n_makes w)) (looks_findIn S₀.X (n_init w)) (fun self => bind_fn S₀.X self (ty_fn w 36 (by simp))) (.inl rfl) ?_)
  generalize hH : (hh.push emptyDict).push (instObj 40 hh.objs.size) = h1
  have k01 : Kp hh h1 := hH ▸ (Kp.push _ _).trans (Kp.push _ _)
  have hx1 : h1.get? (hh.objs.size + 1) = some (instObj 40 hh.objs.size) := by (refine rwL hH ?_); heap_get
  have hd1 : h1.get? hh.objs.size = some emptyDict := by (refine rwL hH ?_); heap_get
  generalize hxx : hh.objs.size + 1 = x at hx1
  generalize hdd : hh.objs.size = dx at hx1 hd1
  have nx : hh.get? x = none := by
    cases e : hh.get? x with
    | none => rfl
    | some o => exact absurd (Heap.lt_size e) (by (refine rwL hxx ?_); exact Nat.not_lt.mpr (Nat.le_succ _))
  have nd : hh.get? dx = none := by
    (refine rwL hdd ?_); exact none_size _
  have S₁ : Sta w h1 := S₀.keeps k01
  refine call_code (n := 6) (body := bodyOf (nodS 1)) (binds := [("self", .ref x), ("node", .int j t)]) (RB := fun _ => True) hA.under (S₁.X _ _ hf) rfl S₁.lim (codeRec_of S₁.X (cd_ninit w)) rfl rfl (fun s' E' hs' => wpAny_of_eq rfl ⟨⟨rfl, trivial⟩, keeps_refl s'⟩) ?_ ?_
  · intro k y hy
    rcases List.mem_cons.mp hy with rfl | hy
    · exact .inl rfl
    · (refine rwR (List.mem_singleton.mp hy) ?_); exact .inl rfl
  intro L h₀ h₁ tk E' hL hL0 hk₀ _ hk₁ F hO hOk
  have ms : bindL (callEnvC fdNInit L 36).kindOf [("self", Value.ref x), ("node", .int j t)] (fun _ => none) "self" = some (.ref x) := rfl
  have mn : bindL (callEnvC fdNInit L 36).kindOf [("self", Value.ref x), ("node", .int j t)] (fun _ => none) "node" = some (.int j t) := rfl
  generalize bindL (callEnvC fdNInit L 36).kindOf [("self", Value.ref x), ("node", .int j t)] (fun _ => none) = m at F ms mn
  generalize bindC (callEnvC fdNInit L 36).kindOf [("self", Value.ref x), ("node", .int j t)] (fun _ => none) = cm at F
  have kA : Kp h1 h₁ := hk₀.trans hk₁
  have hx₁ := kA _ _ hx1
  have hd₁ := kA _ _ hd1
  have xL : x ≠ L := fun e => by (replace hL0 := Eq.symm e ▸ hL0); (exact nosome hL0 (hk₀ _ _ hx1))
  have dL : dx ≠ L := fun e => by (replace hL0 := Eq.symm e ▸ hL0); (exact nosome hL0 (hk₀ _ _ hd1))
  have xd : x ≠ dx := ne_cls hx1 hd1 (by simp)
  have off : ∀ b o, h1.get? b = some o → b ≠ L := fun b o e q => by (replace hL0 := Eq.symm q ▸ hL0); (exact nosome hL0 (hk₀ _ _ e))
  show wpAny _ _ (execs [(bodyOf (nodS 1)).getD 0 ps, (bodyOf (nodS 1)).getD 1 ps, (bodyOf (nodS 1)).getD 2 ps] (callEnvC fdNInit L 36)) _ _ _
  refine wpAny_execs_cons (plainObj_wpAny_Assign_Attribute ?_)
  refine (g_local (prog := prog) (w := w) (h := h₁) rfl rfl F.ns mn).useV (Kp.refl _) fun h₂ tk₂ hk₂ => ?_
  refine (g_local (prog := prog) (w := w) (h := h₂) rfl rfl (F.ns.keeps hk₂) ms).useV (Kp.refl _) fun h₃ tk₃ hk₃ => ?_
  have X₃ : (K w).In h₃ := S₁.X.keeps (kA.trans (hk₂.trans hk₃))
  refine set_attr_slot (s := ⟨h₃, g, dr, tk₃, os⟩) X₃ (((F.ns.keeps hk₂).keeps hk₃)) (hk₃ _ _ (hk₂ _ _ hx₁)) (hk₃ _ _ (hk₂ _ _ hd₁)) xL (n_sa w) (n_po w) (tk_node w) (ty_node w) (s_node w) (by decide) ?_
  intro h₄ tk₄ ns₄ hx₄ hk₄
  have hx₄ : h₄.get? x = some ⟨.ref 40, some dx, .plain, #[some (.int j t)]⟩ := hx₄
  have k14 : ∀ b o, b ≠ x → h1.get? b = some o → h₄.get? b = some o := fun b o hb e => hk₄ b o (off b o e) hb (hk₃ _ _ (hk₂ _ _ (kA _ _ e)))
  have S₄ : (K w).In h₄ := fun b o e => k14 b o (fun q => by (replace e := q ▸ e); have := S₀.X _ _ e; (exact nosome (nx) this)) (S₁.X _ _ e)
  refine wpAny_execs_cons (plainObj_wpAny_Assign_Attribute ?_)
  refine (g_int (prog := prog) (w := w) (h := h₄)).useI (Kp.refl _) fun tu h₅ tk₅ hk₅ => ?_
  refine (g_local (prog := prog) (w := w) (h := h₅) rfl rfl (ns₄.keeps hk₅) ms).useV (Kp.refl _) fun h₆ tk₆ hk₆ => ?_
  refine set_attr_slot (s := ⟨h₆, g, dr, tk₆, os⟩) ((S₄.keeps hk₅).keeps hk₆) ((ns₄.keeps hk₅).keeps hk₆) (hk₆ _ _ (hk₅ _ _ hx₄)) (hk₆ _ _ (hk₅ _ _ (k14 _ _ (Ne.symm xd) hd1))) xL (n_sa w) (n_po w) (tk_np w) (ty_np w) (s_np w) (by decide) ?_
  intro h₇ tk₇ ns₇ hx₇ hk₇
  have hx₇ : h₇.get? x = some ⟨.ref 40, some dx, .plain, #[some (.int j t), some (.int 0 tu)]⟩ := hx₇
  have k17 : ∀ b o, b ≠ x → h1.get? b = some o → h₇.get? b = some o := fun b o hb e => hk₇ b o (off b o e) hb (hk₆ _ _ (hk₅ _ _ (k14 _ _ hb e)))
  have S₇ : (K w).In h₇ := fun b o e => k17 b o (fun q => by (replace e := q ▸ e); have := S₀.X _ _ e; (exact nosome (nx) this)) (S₁.X _ _ e)
  refine wpAny_execs_cons (plainObj_wpAny_Assign_Attribute ?_)
  refine (g_list0 (prog := prog) (w := w) (h := h₇)).use (Kp.refl _) fun v h₈ tk₈ hk₈ hv => ?_
  refine el1_3 hv fun is r3_ isn his => ?_
  try clear hv
  obtain rfl := r3_
  refine (g_local (prog := prog) (w := w) (h := h₈) rfl rfl (ns₇.keeps hk₈) ms).useV (Kp.refl _) fun h₉ tk₉ hk₉ => ?_
  refine set_attr_slot (s := ⟨h₉, g, dr, tk₉, os⟩) ((S₇.keeps hk₈).keeps hk₉) ((ns₇.keeps hk₈).keeps hk₉) (hk₉ _ _ (hk₈ _ _ hx₇)) (hk₉ _ _ (hk₈ _ _ (k17 _ _ (Ne.symm xd) hd1))) xL (n_sa w) (n_po w) (tk_su w) (ty_su w) (s_su w) (by decide) ?_
  intro h₁₀ tk₁₀ ns₁₀ hx₁₀ hk₁₀
  have hx₁₀ : h₁₀.get? x = some (infoObj j dx 0 is t tu) := hx₁₀
  have k110 : ∀ b o, b ≠ x → h1.get? b = some o → h₁₀.get? b = some o := fun b o hb e => hk₁₀ b o (off b o e) hb (hk₉ _ _ (hk₈ _ _ (k17 _ _ hb e)))
  refine wpAny_execs_nil ?_
  refine ⟨rfl, ?_⟩
  have kall : Kp hh h₁₀ := fun b o e => k110 b o (fun q => by (exact nosome2 q (nx) e)) (k01 _ _ e)
  have isL : is ≠ L := fun e => by
    refine el3_2 ns₇ fun o _ _ ho _ => ?_
    try clear ns₇
    have ho : h₇.get? L = some o := ho
    (replace ho := Eq.symm e ▸ ho; replace ho := isn ▸ ho); cases ho
  have isx : is ≠ x := fun e => by (exact nosome3 e (hx₇) isn)
  refine ⟨⟨x, dx, is, t, tu, rfl, dead_kp hs nx, dead_kp hs nd, ?_, hx₁₀, k110 _ _ (Ne.symm xd) hd1, ⟨[], his.at fun o e => hk₁₀ _ o isL isx (hk₉ _ o e), .nil⟩⟩, h₁₀, tk₁₀, rfl, kall⟩
  cases e : h.get? is with
  | none => rfl
  | some o => have := hs _ _ e; (exact nosome isn (k17 is o isx (k01 _ _ this)))
end
end Mine
end
section
open PySem PySem.Calls PySem.W PyProof.Rows
set_option maxRecDepth 100000
set_option genInjectivity false
set_option genSizeOf false
set_option genSizeOfSpec false
namespace Mine
noncomputable def addKey (keys : List Nat) (j : Nat) : List Nat := if j ∈ keys then keys else keys ++ [j]
theorem mem_addKey {keys : List Nat} {i j : Nat} : i ∈ addKey keys j ↔ i ∈ keys ∨ i = j := by
  unfold addKey; split
  · rename_i h; constructor
    · exact .inl
    · rintro (h' | rfl) <;> assumption
  · simp
theorem k_keep40 (w : World) : keepIn (K w) (.ref 40) = true := by kernel_rfl
theorem k_keep137 (w : World) : keepIn (K w) (.ref 137) = true := by kernel_rfl
theorem k_keepf (w : World) (a : Addr) (h : a ∈ [36, 73, 80, 87, 92, 99, 106, 120, 127, 146, 151]) : keepIn (K w) (.ref a) = true := by
  simp at h
  rcases h with rfl | rfl | rfl | rfl | rfl | rfl | rfl | rfl | rfl | rfl | rfl <;> kernel_rfl
noncomputable def Clean (S : Sor) : Prop := ∀ i, i ∉ S.keys → S.np i = 0 ∧ S.su i = []
theorem fup_same {α : Type} {f : Nat → α} {j : Nat} : fup f j (f j) = f := by funext i; unfold fup; split <;> simp_all
theorem DictOf.le {prog : Program} {w : World} {h : Heap} {S : Sor} (R : SorAt prog w h S) : True := trivial
theorem stored_new {ia : Nat → Addr} {keys : List Nat} {j : Nat} {v : Value} (hj : j ∉ keys) : stored (keys.map fun (i : Nat) => ((i : Int), Value.ref (ia i))) (j : Int) v = (keys.map fun (i : Nat) => ((i : Int), Value.ref (ia i))) ++ [((j : Int), v)] := by
  unfold stored
  rw [if_neg]
  simp only [List.any_map, List.any_eq_true, Function.comp]
  intro z1_
  refine el1_2 z1_ fun i hi e => ?_
  try clear z1_
  simp at e
  exact hj (by (refine rwL ((by exact_mod_cast e : i = j)) ?_); exact hi)
section
variable {prog : Program} {w : World} {A : Around} {E : Value → Shared → Prop} {s : Shared}
theorem g_callK1 {h : Heap} {env : Env} {x : Str} {p pos : Pos} {e : Expr} {f : Addr} {R1 R : Value → Heap → Prop} (S : Sta w h) (hk : keepIn (K w) (.ref f) = true) (fn : GV prog w A h (eval (.Name x p) env) (.ref f)) (a : Gives prog w A h (eval e env) R1)
    (c : ∀ v h', Kp h h' → R1 v h' → Gives prog w A h' (call (.ref f) [v]) R) (hst : starEach [e] env = [(false, eval e env)] := by rfl) : Gives prog w A h (eval (.Call (.Name x p) [e] [] pos) env) R := fun s E hs => by
  refine PyProof.Rows.Call_Name1 (fn.useV hs fun h1 t1 hk1 => ?_) hst
  refine callWith_of rfl (keeps_K hk) (evalArgs_plain (spliced_cons (a.use (hs.trans hk1) fun v h2 t2 hk2 hv => spliced_nil ⟨S.X.keeps ((hs.trans hk1).trans hk2), ?_⟩)))
  exact (c v h2 ((hs.trans hk1).trans hk2) hv).use (Kp.refl _) fun v h3 t3 hk3 hv => ⟨hv, h3, t3, rfl, (hk1.trans hk2).trans hk3⟩
theorem call_get {S : Sor} {j : Nat} {t : Tok} {Q : Value → Shared → Prop} (hA : Ok 12 A) (Z : Fz S.fp (Sta w) s.heap) (R : SorAt prog w s.heap S) (hC : Clean S) (hz : S.keys.length ≤ 1000)
    (k : ∀ h' tk ia ix isl, SorAt prog w h' { S with keys := addKey S.keys j, ia := ia, ix := ix, isl := isl } → Kx S.fp s.heap h' →
      (∀ b, ({ S with keys := addKey S.keys j, ia := ia, ix := ix, isl := isl } : Sor).fp b → S.fp b ∨ s.heap.get? b = none) → (∀ b, S.fp b → ({ S with keys := addKey S.keys j, ia := ia, ix := ix, isl := isl } : Sor).fp b) → Q (.ref (ia j)) { s with heap := h', toks := tk }) :
    wpAny (model prog w) A (call (.ref 80) [.ref S.a, .int j t]) Q E s := by
  have S₀ : Sta w s.heap := Z.now
  refine el2_1 (fn_get w) fun d sl hf => ?_
  refine call_rule (n := 11) (body := bodyOf (sorS 1)) (binds := [("self", .ref S.a), ("node", .int j t)]) (RB := fun _ => True) hA (S₀.X _ _ hf) rfl S₀.lim (codeRec_of S₀.X (cd_get w)) rfl rfl (fun s' E' hs' => wpAny_of_eq rfl ⟨⟨rfl, trivial⟩, keeps_refl s'⟩) ?_ ?_
  · intro k y hy
    rcases List.mem_cons.mp hy with rfl | hy
    · exact .inl rfl
    · (refine rwR (List.mem_singleton.mp hy) ?_); exact .inl rfl
  intro L h₀ h₁ tk E' hL hL0 hk₀ _ hk₁ F hO hOk
  have ms : bindL (callEnvC fdGet L 80).kindOf [("self", Value.ref S.a), ("node", .int j t)] (fun _ => none) "self" = some (.ref S.a) := rfl
  have mn : bindL (callEnvC fdGet L 80).kindOf [("self", Value.ref S.a), ("node", .int j t)] (fun _ => none) "node" = some (.int j t) := rfl
  generalize bindL (callEnvC fdGet L 80).kindOf [("self", Value.ref S.a), ("node", .int j t)] (fun _ => none) = m at F ms mn
  generalize bindC (callEnvC fdGet L 80).kindOf [("self", Value.ref S.a), ("node", .int j t)] (fun _ => none) = cm at F
  have kA : Kp s.heap h₁ := hk₀.trans hk₁
  have oL : ∀ b o, s.heap.get? b = some o → b ≠ L := fun b o e q => by (replace hL := Eq.symm q ▸ hL; replace hL := e ▸ hL); cases hL
  have fL : ∀ b, S.fp b → b ≠ L := fun b hb => by obtain ⟨o, e⟩ := R.live b hb; exact oL b o e
  have R₁ := R.keeps kA
  have S₁ := S₀.keeps kA
  show wpAny _ _ (execs [(bodyOf (sorS 1)).getD 0 ps, (bodyOf (sorS 1)).getD 1 ps] (callEnvC fdGet L 80)) _ _ _
  refine wpAny_execs_cons (wpAny_If (wpAny_isTrue_Compare1 (wpAny_NamedExpr ?_)))
  refine (g_ndget (h := h₁) (j := j) R₁ (g_attr (g_local rfl rfl F.ns ms) fun h' hk => f_n2i (S₁.X.keeps hk) (R₁.keeps hk)) (gv_int (g_local rfl rfl F.ns mn))).use (Kp.refl _) fun v h₂ tk₂ hk₂ hv => ?_
  refine wpAny_assign_Name (fra_local (F.keeps hk₂) rfl rfl fun h₃ tk₃ F₃ sb₃ => ?_)
  have k13 : Kp s.heap h₃ := fun b o e => sb₃.extBut b o (oL b o e) (hk₂ _ _ (kA _ _ e))
  refine (g_none (prog := prog) (w := w) (h := h₃)).use (Kp.refl _) fun v' h₄ tk₄ hk₄ hv' => ?_
  subst hv'
  refine PySem.is_none (wpAny_truthy_bool ?_)
  have k14 : Kp s.heap h₄ := k13.trans hk₄
  have F₄ := F₃.keeps hk₄
  by_cases hj : j ∈ S.keys
  · (replace hv := (if_pos hj) ▸ hv)
    subst hv
    (refine rwR (if_neg (by simp)) ?_)
    refine wpAny_execs_nil ?_
    refine wpAny_execs_cons (wpAny_Return_some ?_)
    refine (g_local (prog := prog) (w := w) (h := h₄) rfl rfl F₄.ns upd_eq).useV (Kp.refl _) fun h₅ tk₅ hk₅ => ?_
    have e : addKey S.keys j = S.keys := if_pos hj
    refine k h₅ tk₅ S.ia S.ix S.isl ?_ (Kx.of (k14.trans hk₅)) ?_ ?_
    · (refine rwR e ?_); exact R.keeps (k14.trans hk₅)
    · (refine rwR e ?_); exact fun b => .inl
    · (refine rwR e ?_); exact fun b => id
  · (replace hv := (if_neg hj) ▸ hv)
    subst hv
    (refine rwR (if_pos (by decide)) ?_)
    have S₄ : Sta w h₄ := S₀.keeps k14
    have R₄ := R.keeps k14
    have ms₄ : upd m "result" .none "self" = some (.ref S.a) := (upd_ne (by decide)).trans ms
    have mn₄ : upd m "result" .none "node" = some (.int j t) := (upd_ne (by decide)).trans mn
    generalize upd m "result" .none = m₄ at F₄ ms₄ mn₄
    refine wpAny_execs_cons (wpAny_Assign_two ?_)
    refine (g_callK1 (h := h₄) (f := 40) (R := fun v h' => ∃ a ix is tn tu, v = .ref a ∧ h₄.get? a = none ∧ h₄.get? ix = none ∧ h₄.get? is = none ∧ h'.get? a = some (infoObj j ix 0 is tn tu) ∧ h'.get? ix = some emptyDict ∧ LI h' is (toI [])) S₄ (k_keep40 w) (g_global S₄ (gl_info w) rfl rfl rfl) (g_local rfl rfl F₄.ns mn₄) (fun v h' hk hv => by subst hv; exact (new_info (hOk.mono (by decide)) (S₄.keeps hk)).mono fun v h'' _ zx => el5_5 zx fun a ix is tn tu q1 q2 q3 q4 q5 => ⟨a, ix, is, tn, tu, q1, dead_kp hk q2, dead_kp hk q3, dead_kp hk q4, q5⟩)).use (Kp.refl _) fun v h₅ tk₅ hk₅ hv => ?_
    refine el5_7 hv fun ia ix is tn tu r2_ n1 n2 n3 e1 e2 e3 => ?_
    try clear hv
    obtain rfl := r2_
    have F₅ := F₄.keeps hk₅
    have R₅ := R₄.keeps hk₅
    have S₅ := S₄.keeps hk₅
    rw [assign_Subscript]
    refine wpAny_bind (wpAny_holding ?_)
    refine (g_attr (prog := prog) (w := w) (h := h₅) (g_local rfl rfl F₅.ns ms₄) fun h' hk => f_n2i (S₅.X.keeps hk) (R₅.keeps hk)).useV (Kp.refl _) fun h₆ tk₆ hk₆ => ?_
    refine wpAny_bind (wpAny_holding ?_)
    refine (g_local (prog := prog) (w := w) (h := h₆) rfl rfl (F₅.keeps hk₆).ns mn₄).useV (Kp.refl _) fun h₇ tk₇ hk₇ => ?_
    refine wpAny_bind (wpAny_standAt (wpAny_bind (wpAny_holding ?_)))
    have R₇ := (R₅.keeps hk₆).keeps hk₇
    have F₇ := (F₅.keeps hk₆).keeps hk₇
    refine wpAny_setItem_pairs (k := (j : Int)) (intKind_is prog w _ _) R₇.nodes (fun h₈ hd₈ sb₈ => wpAny_release ?_) (by (refine rwR (List.length_map _) ?_; refine rwR sizeLine_eq ?_); (exact Nat.le_trans (by assumption) (by decide)))
    (replace hd₈ := (stored_new hj) ▸ hd₈)
    have F₈ : Fra (callEnvC fdGet L 80) h₈ m₄ cm := F₇.frame fun b o hb e => sb₈.extBut b o (fun q => by
      have := hO b hb
      refine el1_1 (R.live S.nd (.inr (.inr (.inl rfl)))) fun o' e' => ?_
      (exact nosome3 q (hk₀ _ _ e') this)) e
    refine wpAny_assign_Name (fra_local F₈ rfl rfl fun h₉ tk₉ F₉ sb₉ => ?_)
    refine wpAny_execs_nil ?_
    refine wpAny_execs_cons (wpAny_Return_some ?_)
    refine (g_local (prog := prog) (w := w) (h := h₉) rfl rfl F₉.ns upd_eq).useV (Kp.refl _) fun h₁₀ tk₁₀ hk₁₀ => ?_
    have lt : ∀ b o, b ≠ S.nd → b ≠ L → h₅.get? b = some o → h₁₀.get? b = some o := fun b o hb hb' e => hk₁₀ _ _ (sb₉.extBut b o hb' (sb₈.extBut b o hb (hk₇ _ _ (hk₆ _ _ e))))
    have kx : ∀ b o, b ≠ S.nd → s.heap.get? b = some o → h₁₀.get? b = some o := fun b o hb e => lt b o hb (oL b o e) (hk₅ _ _ (k14 _ _ e))
    have dL : ∀ b, h₄.get? b = none → b ≠ L := fun b hb q => by obtain ⟨o, e⟩ := F₄.live L own_locals; (replace e := Eq.symm q ▸ e; replace e := hb ▸ e); cases e
    have dN : ∀ b, h₄.get? b = none → b ≠ S.nd := fun b hb q => by obtain ⟨o, e⟩ := R₄.live b (q ▸ .inr (.inr (.inl rfl))); (exact nosome (hb) e)
    have keq : addKey S.keys j = S.keys ++ [j] := if_neg hj
    have res : SorAt prog w h₁₀ { S with keys := S.keys ++ [j], ia := fup S.ia j ia, ix := fup S.ix j ix, isl := fup S.isl j is, np := fup S.np j 0, su := fup S.su j [] } := by
      refine R₄.new_node hj (t := tn) (u := tu) (hd₈.at fun o e => hk₁₀ _ _ (sb₉.extBut _ o (fL _ (.inr (.inr (.inl rfl)))) e)) (lt _ _ (dN _ n1) (dL _ n1) e1) (lt _ _ (dN _ n2) (dL _ n2) e2) (e3.at fun o e => lt _ o (dN _ n3) (dL _ n3) e) n1 n2 n3 fun b o hb hb' e => ?_
      exact lt b o hb' (fL b hb) (hk₅ _ _ e)
    have enp : fup S.np j 0 = S.np := by (refine rwL ((hC j hj).1) ?_); exact fup_same
    have esu : fup S.su j [] = S.su := by (refine rwL ((hC j hj).2) ?_); exact fup_same
    (replace res := enp ▸ res; replace res := esu ▸ res)
    have := k h₁₀ tk₁₀ (fup S.ia j ia) (fup S.ix j ix) (fup S.isl j is) (by (refine rwR keq ?_); exact res) (fun b o hb e => kx b o (fun q => hb (q ▸ .inr (.inr (.inl rfl)))) e) ?_ ?_
    · (replace this := fup_eq ▸ this); exact this
    · have nij : ∀ i ∈ S.keys, i ≠ j := fun i hi q => hj (q ▸ hi)
      (refine rwR keq ?_)
      rintro b (hb | hb | hb | hb | ⟨i, hi, hb⟩)
      · exact .inl (.inl hb)
      · exact .inl (.inr (.inl hb))
      · exact .inl (.inr (.inr (.inl hb)))
      · exact .inl (.inr (.inr (.inr (.inl hb))))
      · refine Or.elim (List.mem_append.mp hi) (fun hi => ?_) fun hi => ?_
        · simp only [fup_ne (nij i hi)] at hb
          exact .inl (.inr (.inr (.inr (.inr ⟨i, hi, hb⟩))))
        · (replace hb := (List.mem_singleton.mp hi) ▸ hb)
          simp only [fup_eq] at hb
          rcases hb with rfl | rfl | rfl
          · exact .inr (dead_kp k14 n1)
          · exact .inr (dead_kp k14 n2)
          · exact .inr (dead_kp k14 n3)
    · have nij : ∀ i ∈ S.keys, i ≠ j := fun i hi q => hj (q ▸ hi)
      (refine rwR keq ?_)
      rintro b (hb | hb | hb | hb | ⟨i, hi, hb⟩)
      · exact .inl hb
      · exact .inr (.inl hb)
      · exact .inr (.inr (.inl hb))
      · exact .inr (.inr (.inr (.inl hb)))
      · exact .inr (.inr (.inr (.inr ⟨i, List.mem_append_left _ hi, by simp only [fup_ne (nij i hi)]; exact hb⟩)))
end
end Mine
end
section
open PySem PySem.Calls PySem.W PyProof.Rows
set_option maxRecDepth 100000
set_option genInjectivity false
set_option genSizeOf false
set_option genSizeOfSpec false
namespace Mine
theorem bind_add (a : Addr) (j : Int) (t : Tok) (ps : List Value) : bindArgs fdAdd ⟨.ref a :: .int j t :: ps, []⟩ = (newTuple ps >>= fun v => pure [(("self" : Str), Value.ref a), ("node", .int j t), ("predecessors", v)]) := by
  cases ps with
  | nil => rfl
  | cons p r => rfl
theorem bind_done (a : Addr) (ps : List Value) : bindArgs fdDone ⟨.ref a :: ps, []⟩ = (newTuple ps >>= fun v => pure [(("self" : Str), Value.ref a), ("nodes", v)]) := by
  cases ps with
  | nil => rfl
  | cons p r => rfl
section
variable {prog : Program} {w : World} {A : Around} {E : Value → Shared → Prop} {s : Shared}
noncomputable abbrev QR (Q : Value → Shared → Prop) (E : Value → Shared → Prop) : Result → Shared → Prop := fun r s' => match r with | .ok (.ret v) => Q v s' | .ok _ => False | .error e => E e s'
theorem call_codeB {a : Addr} {o : Obj} {fd : FuncData} {body : List Stmt} {vals : List Value} {RB : List (Str × Value) → Heap → Prop} {Q : Value → Shared → Prop} {n : Nat}
    (hA : Ok (n + 1) A) (ho : s.heap.get? a = some o) (hdata : o.data = .func fd) (hlim : s.heap.NoLimit) (hcd : s.heap.CodeRec fd.code fd.qualname)
    (hbody : fd.body = .stmts body) (hclo : fd.closure = [])
    (hbind : ∀ (Q' : List (Str × Value) → Shared → Prop) (E' : Value → Shared → Prop), (∀ binds h₀ tk, Kp s.heap h₀ → RB binds h₀ → Q' binds { s with heap := h₀, toks := tk }) → wpAny (model prog w) A.in1 (bindArgs fd ⟨vals, []⟩) Q' E' s)
    (hkind : ∀ binds h₀, RB binds h₀ → ∀ k, ∀ x ∈ binds, fd.scope.names.lookup x.1 = some .local ∨ (fd.scope.names.lookup x.1 = some .cell ∧ ((cellsFrom k fd.scope.names []).lookup x.1).isSome = true))
    (h : ∀ binds L h₀ h₁ tk (E' : Value → Shared → Prop), s.heap.get? L = none → h₀.get? L = none → Kp s.heap h₀ → RB binds h₀ → Kp h₀ h₁ → Fra (callEnvC fd L a) h₁ (bindL (callEnvC fd L a).kindOf binds fun _ => none) (bindC (callEnvC fd L a).kindOf binds fun _ => none) →
      (∀ b, OwnA (callEnvC fd L a) b → h₀.get? b = none) →
      Ok n (A.deeper (callEnvC fd L a)) →
      wpAny (model prog w) (A.deeper (callEnvC fd L a)) (execs body (callEnvC fd L a)) (fun f s' => Q (match f with | .ret v => v | _ => .none) s') E' { s with heap := h₁, toks := tk })
    (hco : fd.scope.isCoroutine = false := by rfl) (hgen : fd.scope.isGenerator = false := by rfl) (hk : fd.scope.kind = .function := by rfl) :
    codeAny (model prog w) A (.call (.ref a) ⟨vals, []⟩) (QR Q E) s := by
  refine (codeAny_call_function hA.room ho hdata hco hgen hbody hcd ?_)
  refine hbind _ _ fun b h₀ t₀ hk₀ hRB => ?_
  (refine rwR hclo ?_)
  refine wpAny_newFunctionEnv_cells hk (hkind b h₀ hRB _) fun env he s' x => ?_
  subst he
  refine el2_1 x.toInCall.same fun h₁ tk r1_ => ?_
  obtain rfl := r1_
  have none_of : ∀ b, h₀.objs.size ≤ b → h₀.get? b = none := fun b hb => by
    cases e : h₀.get? b with
    | none => rfl
    | some o => exact absurd (Heap.lt_size e) (Nat.not_lt.mpr hb)
  refine ⟨(hlim.keeps hk₀).keeps x.toInCall.keep, codeAny_func ?_⟩
  refine h b h₀.objs.size h₀ h₁ tk _ ?_ (none_size h₀) hk₀ hRB x.toInCall.keep ⟨x.toInCall.ns, x.cell, x.apart, x.above⟩ ?_ hA.deeper
  · cases e : s.heap.get? h₀.objs.size with
    | none => rfl
    | some o => exact absurd (Heap.lt_size (hk₀ _ _ e)) (Nat.lt_irrefl _)
  · intro b hb
    rcases hb with rfl | ⟨nm, hb⟩
    · exact none_size h₀
    · exact none_of b (Nat.le_of_lt (x.above nm b (mem_of_lookup hb)))
theorem meth_call1 {env : Env} {o e : Expr} {name : Str} {apos pos : Pos} {S : Sor} {f : Addr} {R1 : Value → Heap → Prop} {pl : Sem Bool} {Q : Value → Shared → Prop} (S₀ : Sta w s.heap) (R : SorAt prog w s.heap S) (x : GV prog w A s.heap (eval o env) (.ref S.a))
    (hf : findIn (K w) (.ref 137) name = some (some (.ref f))) (ht : typeIn (K w) (.ref f) = some (.type "function")) (hk : keepIn (K w) (.ref f) = true) (hsh : ∀ es, Ents S.nd S.rv S.pas S.fin es → getL name es = some none)
    (a : Gives prog w A s.heap (eval e env) R1) (c : ∀ v h' tk, Kp s.heap h' → R1 v h' → wpAny (model prog w) A (call (.ref f) [.ref S.a, v]) Q E { s with heap := h', toks := tk })
    (he : eval (.Call (.Attribute o name apos) [e] [] pos) env = (do
      let ov ← eval o env
      standAt apos.atName
      let (f, first) ← holding [ov] (getMethod ov name pl)
      callWith pos f first (backTo pos (starEach [e] env)) (backToKw pos (keywordEach [] env))) := by rfl)
    (hst : backTo pos (starEach [e] env) = [(false, eval e env)] := by rfl) :
    wpAny (model prog w) A (eval (.Call (.Attribute o name apos) [e] [] pos) env) Q E s := by
  refine methodCall_KW (pl := pl) (kws := []) (x.useV (Kp.refl _) fun h1 t1 hk1 => ?_) he
  have R₁ := R.keeps hk1
  have S₁ := S₀.keeps hk1
  refine el2_2 R₁.dict fun es n hd hes => ?_
  have I : InstAt h1 S.a (instObj 137 S.d) 137 (some (dictOf es n)) := ⟨R₁.inst, rfl, rfl, hd⟩
  refine method_fn (s := { s with heap := h1, toks := t1 }) S₁.X I (k_ga w) (k_gat w) hf ht (by show (lookIn name (dictOf es n)).map _ = _; (refine rwR (lookIn_dict _ _ _) ?_; refine rwR (hsh es hes) ?_); rfl) ?_
  show wpAny _ _ (callWith pos (.ref f) [.ref S.a] (backTo pos (starEach [e] env)) []) _ _ _
  (refine rwR hst ?_)
  refine callWith_of rfl (keeps_K hk) (evalArgs_plain (spliced_cons (a.use hk1 fun v h2 t2 hk2 hv => spliced_nil ⟨S₁.X.keeps hk2, ?_⟩)))
  exact c v h2 t2 (hk1.trans hk2) hv
theorem meth_call0 {env : Env} {o : Expr} {name : Str} {apos pos : Pos} {S : Sor} {f : Addr} {pl : Sem Bool} {Q : Value → Shared → Prop} (S₀ : Sta w s.heap) (R : SorAt prog w s.heap S) (x : GV prog w A s.heap (eval o env) (.ref S.a))
    (hf : findIn (K w) (.ref 137) name = some (some (.ref f))) (ht : typeIn (K w) (.ref f) = some (.type "function")) (hk : keepIn (K w) (.ref f) = true) (hsh : ∀ es, Ents S.nd S.rv S.pas S.fin es → getL name es = some none)
    (c : ∀ h' tk, Kp s.heap h' → wpAny (model prog w) A (call (.ref f) [.ref S.a]) Q E { s with heap := h', toks := tk })
    (he : eval (.Call (.Attribute o name apos) [] [] pos) env = (do
      let ov ← eval o env
      standAt apos.atName
      let (f, first) ← holding [ov] (getMethod ov name pl)
      callWith pos f first (backTo pos (starEach [] env)) (backToKw pos (keywordEach [] env))) := by rfl) :
    wpAny (model prog w) A (eval (.Call (.Attribute o name apos) [] [] pos) env) Q E s := by
  refine methodCall_KW (pl := pl) (kws := []) (x.useV (Kp.refl _) fun h1 t1 hk1 => ?_) he
  have R₁ := R.keeps hk1
  have S₁ := S₀.keeps hk1
  refine el2_2 R₁.dict fun es n hd hes => ?_
  have I : InstAt h1 S.a (instObj 137 S.d) 137 (some (dictOf es n)) := ⟨R₁.inst, rfl, rfl, hd⟩
  refine method_fn (s := { s with heap := h1, toks := t1 }) S₁.X I (k_ga w) (k_gat w) hf ht (by show (lookIn name (dictOf es n)).map _ = _; (refine rwR (lookIn_dict _ _ _) ?_; refine rwR (hsh es hes) ?_); rfl) ?_
  exact callWith_K0 S₁.X hk (c h1 t1 hk1)
theorem sh_get {nd : Addr} {rv : Value} {p f : Int} : ∀ es, Ents nd rv p f es → getL "_get_nodeinfo" es = some none := fun es he => by cases he; rfl
theorem sh_add {nd : Addr} {rv : Value} {p f : Int} : ∀ es, Ents nd rv p f es → getL "add" es = some none := fun es he => by cases he; rfl
theorem sh_prepare {nd : Addr} {rv : Value} {p f : Int} : ∀ es, Ents nd rv p f es → getL "prepare" es = some none := fun es he => by cases he; rfl
theorem sh_ready {nd : Addr} {rv : Value} {p f : Int} : ∀ es, Ents nd rv p f es → getL "get_ready" es = some none := fun es he => by cases he; rfl
theorem sh_active {nd : Addr} {rv : Value} {p f : Int} : ∀ es, Ents nd rv p f es → getL "is_active" es = some none := fun es he => by cases he; rfl
theorem sh_done {nd : Addr} {rv : Value} {p f : Int} : ∀ es, Ents nd rv p f es → getL "done" es = some none := fun es he => by cases he; rfl
theorem sh_cycle {nd : Addr} {rv : Value} {p f : Int} : ∀ es, Ents nd rv p f es → getL "_find_cycle" es = some none := fun es he => by cases he; rfl
end
end Mine
end
section
open PySem PySem.Calls PySem.W PyProof.Rows
set_option maxRecDepth 100000
set_option genInjectivity false
set_option genSizeOf false
set_option genSizeOfSpec false
namespace Mine
theorem Sor.fp_np {S : Sor} {np : Nat → Int} : ({ S with np := np } : Sor).fp = S.fp := rfl
theorem Sor.fp_su {S : Sor} {su : Nat → List Nat} : ({ S with su := su } : Sor).fp = S.fp := rfl
section
variable {prog : Program} {w : World} {A : Around} {E : Value → Shared → Prop} {s : Shared}
theorem sor_set_np {S : Sor} {j : Nat} {v : Int} {u : Tok} {L : Addr} {m : Str → Option Value} {Q : Unit → Shared → Prop} (X : (K w).In s.heap) (R : SorAt prog w s.heap S) (hj : j ∈ S.keys) (hn : s.heap.Ns L m) (hL : ∀ b, S.fp b → b ≠ L)
    (k : ∀ h' tk, SorAt prog w h' { S with np := fup S.np j v } → h'.Ns L m → (∀ b o, b ≠ L → b ≠ S.ia j → s.heap.get? b = some o → h'.get? b = some o) → Q () { s with heap := h', toks := tk }) :
    wpAny (model prog w) A (setAttr (.ref (S.ia j)) "npredecessors" (.int v u)) Q E s := by
  refine el2_1 (R.info j hj) fun t0 u0 e0 => ?_
  have fi : S.fp (S.ia j) := .inr (.inr (.inr (.inr ⟨j, hj, .inl rfl⟩)))
  refine set_attr_slot X hn e0 (R.idx j hj) (hL _ fi) (n_sa w) (n_po w) (tk_np w) (ty_np w) (s_np w) (by decide) ?_
  intro h' tk ns' hx' hk'
  have hx' : h'.get? (S.ia j) = some (infoObj j (S.ix j) v (S.isl j) t0 u) := hx'
  exact k h' tk (R.set_np hj hx' fun b o hb hne e => hk' b o (hL b hb) hne e) ns' hk'
theorem list_append_li {D : Addr} {ns : List Int} {x : Int} {t : Tok} {Q : Value → Shared → Prop} (hl : LI s.heap D ns) (hz : ns.length ≤ 100000)
    (h : ∀ h', LI h' D (ns ++ [x]) → Heap.SameBut D s.heap h' → Q .none { s with heap := h' }) : wpAny (model prog w) A (call (.builtin "list.append") [.ref D, .int x t]) Q E s := by
  obtain ⟨vs, hv, hi⟩ := hl
  try clear hl
  exact list_append_gives hv (by (refine rwR (IntsAre.len hi) ?_); (exact Nat.le_trans (by assumption) (by decide))) fun h' hl' sb => h h' ⟨_, hl', IntsAre.append hi (.cons _ _ .nil)⟩ sb
theorem toI_append (a : List Nat) (x : Nat) : toI a ++ [(x : Int)] = toI (a ++ [x]) := by simp [toI]
noncomputable def eA (L : Addr) : Env := callEnvC fdAdd L 87
theorem eA_own {L b : Addr} (h : OwnA (callEnvC fdAdd L 87) b) : b = L := by
  rcases h with h | ⟨n, h⟩
  · exact h
  · have h' : ([] : List (Str × Addr)).lookup n = some b := h
    cases h'
noncomputable def addP (S : Sor) (j : Nat) (np : Nat → Int) (ps : List Nat) (ia ix isl : Nat → Addr) : Sor :=
  { S with keys := ps.foldl addKey (addKey S.keys j), np := np, su := ps.foldl (fun su p => fup su p (su p ++ [j])) S.su, ia := ia, ix := ix, isl := isl }
noncomputable def addS (S : Sor) (j : Nat) (ps : List Nat) (ia ix isl : Nat → Addr) : Sor := addP S j (fup S.np j (S.np j + ps.length)) ps ia ix isl
theorem su_len (j : Nat) : ∀ (ps : List Nat) (su : Nat → List Nat) (i : Nat), ((ps.foldl (fun su p => fup su p (su p ++ [j])) su) i).length ≤ (su i).length + ps.length
  | [], su, i => by simp
  | p :: ps, su, i => by
    (refine rwR List.foldl_cons ?_)
    have := su_len j ps (fup su p (su p ++ [j])) i
    have h2 : (fup su p (su p ++ [j]) i).length ≤ (su i).length + 1 := by unfold fup; split <;> simp_all
    (refine rwR List.length_cons ?_); lia
theorem foldl_addKey_mem : ∀ {ps : List Nat} {keys : List Nat} {i : Nat}, i ∈ ps.foldl addKey keys ↔ i ∈ keys ∨ i ∈ ps
  | [], keys, i => by simp
  | p :: ps, keys, i => by
    (refine rwR List.foldl_cons ?_; refine rwR (propext foldl_addKey_mem) ?_; refine rwR (propext mem_addKey) ?_)
    simp only [List.mem_cons]
    constructor
    · rintro ((h | h) | h)
      · exact .inl h
      · exact .inr (.inl h)
      · exact .inr (.inr h)
    · rintro (h | h | h)
      · exact .inl (.inl h)
      · exact .inl (.inr h)
      · exact .inr h
theorem addKey_len (keys : List Nat) (j : Nat) : (addKey keys j).length ≤ keys.length + 1 := by unfold addKey; split <;> simp
theorem foldl_addKey_len : ∀ (ps keys : List Nat), (ps.foldl addKey keys).length ≤ keys.length + ps.length
  | [], keys => by simp
  | p :: ps, keys => by
    have h1 := foldl_addKey_len ps (addKey keys p)
    have h2 := addKey_len keys p
    simp only [List.foldl_cons, List.length_cons]
    lia
theorem call_add_code {S : Sor} {j : Nat} {t : Tok} {vs : List Value} {ps' : List Nat} {Q : Value → Shared → Prop} (hA : Ok 20 A) (Z : Fz S.fp (Sta w) s.heap) (R : SorAt prog w s.heap S) (hC : Clean S) (hrd : S.rdy = none) (hvs : IntsAre vs (toI ps')) (hz : S.keys.length + ps'.length ≤ 500) (hzs : ∀ i, (S.su i).length + ps'.length ≤ 10000)
    (k : ∀ h' tk ia ix isl, SorAt prog w h' (addS S j ps' ia ix isl) → Clean (addS S j ps' ia ix isl) → Kx S.fp s.heap h' →
      (∀ b, (addS S j ps' ia ix isl).fp b → S.fp b ∨ s.heap.get? b = none) → (∀ b, S.fp b → (addS S j ps' ia ix isl).fp b) → Q .none { s with heap := h', toks := tk }) :
    codeAny (model prog w) A (.call (.ref 87) ⟨.ref S.a :: .int j t :: vs, []⟩) (QR Q E) s := by
  have S₀ : Sta w s.heap := Z.now
  have hvl : vs.length = ps'.length := by (refine rwR (IntsAre.len hvs) ?_; refine rwR (toI_len _) ?_; with_reducible rfl)
  refine el2_1 (fn_add w) fun d sl hf => ?_
  refine call_codeB (n := 19) (body := bodyOf (sorS 2)) (RB := fun b h₀ => ∃ tp, b = [(("self" : Str), Value.ref S.a), ("node", .int j t), ("predecessors", .ref tp)] ∧ IsTup h₀ tp (List.toArray vs) ∧ s.heap.get? tp = none) hA (S₀.X _ _ hf) rfl S₀.lim (codeRec_of S₀.X (cd_add w)) rfl rfl ?_ ?_ ?_
  · intro Q' E' hq
    rw [bind_add]
    refine wpAny_bind (wpAny_newTuple ?_ (by (refine rwR sizeLine_eq ?_); lia))
    exact wpAny_pure (hq _ _ _ (Kp.push _ _) ⟨_, rfl, ⟨_, Heap.get?_push_size _ rfl, rfl, 0, rfl⟩, none_size _⟩)
  · intro binds h₀ z1_ k y hy
    refine el1_2 z1_ fun tp r2_ _ => ?_
    try clear z1_
    obtain rfl := r2_
    rcases List.mem_cons.mp hy with rfl | hy
    · exact .inl rfl
    rcases List.mem_cons.mp hy with rfl | hy
    · exact .inl rfl
    · (refine rwR (List.mem_singleton.mp hy) ?_); exact .inl rfl
  intro binds L h₀ h₁ tk E' hL hL0 hk₀ z3_ hk₁ F hO hOk
  refine el1_3 z3_ fun tp r4_ htp htpn => ?_
  try clear z3_
  obtain rfl := r4_
  have ms : bindL (callEnvC fdAdd L 87).kindOf [("self", Value.ref S.a), ("node", .int j t), ("predecessors", .ref tp)] (fun _ => none) "self" = some (.ref S.a) := rfl
  have mn : bindL (callEnvC fdAdd L 87).kindOf [("self", Value.ref S.a), ("node", .int j t), ("predecessors", .ref tp)] (fun _ => none) "node" = some (.int j t) := rfl
  have mp : bindL (callEnvC fdAdd L 87).kindOf [("self", Value.ref S.a), ("node", .int j t), ("predecessors", .ref tp)] (fun _ => none) "predecessors" = some (.ref tp) := rfl
  generalize bindL (callEnvC fdAdd L 87).kindOf [("self", Value.ref S.a), ("node", .int j t), ("predecessors", .ref tp)] (fun _ => none) = m at F ms mn mp
  generalize bindC (callEnvC fdAdd L 87).kindOf [("self", Value.ref S.a), ("node", .int j t), ("predecessors", .ref tp)] (fun _ => none) = cm at F
  have kA : Kp s.heap h₁ := hk₀.trans hk₁
  have oL : ∀ b o, s.heap.get? b = some o → b ≠ L := fun b o e q => by (replace hL := Eq.symm q ▸ hL; replace hL := e ▸ hL); cases hL
  have fL : ∀ b, S.fp b → b ≠ L := fun b hb => by obtain ⟨o, e⟩ := R.live b hb; exact oL b o e
  have tL : tp ≠ L := fun q => by obtain ⟨o, e, _⟩ := htp; (exact nosome2 q (hL0) e)
  have tS : ¬ S.fp tp := Live.not R.live htpn
  have R₁ := R.keeps kA
  have S₁ := S₀.keeps kA
  show wpAny _ _ (execs [(bodyOf (sorS 2)).getD 0 ps, (bodyOf (sorS 2)).getD 1 ps, (bodyOf (sorS 2)).getD 2 ps, (bodyOf (sorS 2)).getD 3 ps] (callEnvC fdAdd L 87)) _ _ _
  refine wpAny_execs_cons (wpAny_If (wpAny_isTrue_Compare1 ?_))
  refine (g_attr (prog := prog) (w := w) (h := h₁) (g_local rfl rfl F.ns ms) fun h' hk => f_rdy (S₁.X.keeps hk) (R₁.keeps hk)).use (Kp.refl _) fun v h₂ tk₂ hk₂ hv => ?_
  have hrv : S.rv = .none := by unfold Sor.rv; (refine rwR hrd ?_; with_reducible rfl)
  (replace hv := hrv ▸ hv)
  subst hv
  refine (g_none (prog := prog) (w := w) (h := h₂)).useV (Kp.refl _) fun h₃ tk₃ hk₃ => ?_
  refine wpAny_isNot_self rfl (wpAny_truthy_bool ?_)
  refine wpAny_execs_nil ?_
  have k3 : Kp s.heap h₃ := kA.trans (hk₂.trans hk₃)
  have F₃ := (F.keeps hk₂).keeps hk₃
  have R₃ := R.keeps k3
  have oA : ∀ b, OwnA (callEnvC fdAdd L 87) b → b = L := fun b hb => eA_own hb
  have Z₃ : Fz (Or2 (OwnA (callEnvC fdAdd L 87)) S.fp) (fun h => Sta w h ∧ IsTup h tp (List.toArray vs)) h₃ := by
    refine Fz.and (Z.step (Kx.of k3) ?_) ?_
    · rintro b (hb | hb)
      · exact .inr (dead_kp hk₀ (hO b hb))
      · exact .inl hb
    · intro h' kx'
      refine el1_2 (((htp.keeps hk₁).keeps hk₂).keeps hk₃) fun o e q => ?_
      refine ⟨o, kx' _ _ ?_ e, q⟩
      rintro (hb | hb)
      · exact tL (oA _ hb)
      · exact tS hb
  refine wpAny_execs_cons (wpAny_Assign_Name (meth_call1 (s := { s with heap := h₃, toks := tk₃ }) Z₃.now.1 R₃ (g_local rfl rfl F₃.ns ms) (k_get w) (ty_fn w 80 (by simp)) (k_keepf w 80 (by simp)) sh_get (g_local rfl rfl F₃.ns mn) ?_))
  intro v h₄ tk₄ hk₄ hv
  subst hv
  refine call_get (s := { s with heap := h₄, toks := tk₄ }) (hOk.mono (by decide)) ((Z.step' (Kx.of k3)).step' (Kx.of hk₄)) (R₃.keeps hk₄) hC (by lia) ?_
  intro h₅ tk₅ ia ix isl R₅ kx₅ fp₅ fp₅'
  generalize hS1 : ({ S with keys := addKey S.keys j, ia := ia, ix := ix, isl := isl } : Sor) = S1 at R₅ fp₅ fp₅'
  have kx₅ : Kx S.fp h₄ h₅ := kx₅
  have own_off : ∀ b, OwnA (callEnvC fdAdd L 87) b → ¬ S.fp b := fun b hb q => fL b q (oA b hb)
  have F₅ : Fra (callEnvC fdAdd L 87) h₅ m cm := (F₃.keeps hk₄).kx kx₅ own_off
  refine fra_local F₅ rfl rfl fun h₆ tk₆ F₆ sb₆ => ?_
  have L4 : ∃ o, h₄.get? L = some o := (F₃.keeps hk₄).live L own_locals
  have f1L : ∀ b, S1.fp b → b ≠ L := fun b hb q => by
    refine Or.elim (fp₅ b hb) (fun z => ?_) fun z => ?_
    · exact fL b z q
    · refine el1_1 L4 fun o e => ?_
      try clear L4
      have z : h₄.get? b = none := z
      (exact nosome3 q (e) z)
  have R₆ : SorAt prog w h₆ S1 := R₅.frame fun b o hb e => sb₆.extBut b o (f1L b hb) e
  have kx₃₆ : Kx (Or2 (OwnA (callEnvC fdAdd L 87)) S.fp) h₃ h₆ := ((Kx.of hk₄).trans' (kx₅.mono fun b => .inr)).trans' (Kx.same sb₆ (.inl own_locals))
  have Z₆ : Fz (Or2 (OwnA (callEnvC fdAdd L 87)) S1.fp) (fun h => Sta w h ∧ IsTup h tp (List.toArray vs)) h₆ := by
    refine Z₃.step kx₃₆ ?_
    rintro b (hb | hb)
    · exact .inl (.inl hb)
    · refine Or.elim (fp₅ b hb) (fun z => ?_) fun z => ?_
      · exact .inl (.inr z)
      · exact .inr (dead_kp hk₄ z)
  have ms₆ : upd m "nodeinfo" (.ref (ia j)) "self" = some (.ref S.a) := (upd_ne (by decide)).trans ms
  have mn₆ : upd m "nodeinfo" (.ref (ia j)) "node" = some (.int j t) := (upd_ne (by decide)).trans mn
  have mp₆ : upd m "nodeinfo" (.ref (ia j)) "predecessors" = some (.ref tp) := (upd_ne (by decide)).trans mp
  have mi₆ : upd m "nodeinfo" (.ref (ia j)) "nodeinfo" = some (.ref (S1.ia j)) := by (refine rwR upd_eq ?_; refine rwL hS1 ?_; with_reducible rfl)
  generalize upd m "nodeinfo" (.ref (ia j)) = m₆ at F₆ ms₆ mn₆ mp₆ mi₆
  have hj1 : j ∈ S1.keys := by (refine rwL hS1 ?_); exact mem_addKey.mpr (.inr rfl)
  refine wpAny_execs_cons (wpAny_AugAssign_AttributeAny ?_)
  refine el0_2 Z₆.now fun S₆ T₆ => ?_
  refine (g_local (prog := prog) (w := w) (h := h₆) rfl rfl F₆.ns mi₆).useV (Kp.refl _) fun h₇ tk₇ hk₇ => ?_
  refine (f_np (prog := prog) (w := w) (h := h₇) (S₆.X.keeps hk₇) (R₆.keeps hk₇) hj1).useI (Kp.refl _) fun to h₈ tk₈ hk₈ => ?_
  have k68 : Kp h₆ h₈ := hk₇.trans hk₈
  refine (gi_lenT (prog := prog) (w := w) (h := h₈) (n_len (S₆.keeps k68) rfl rfl rfl rfl) (g_local rfl rfl (F₆.keeps k68).ns mp₆) (T₆.keeps k68) (by (refine rwR List.size_toArray ?_); lia)).useI (Kp.refl _) fun tl h₉ tk₉ hk₉ => ?_
  have k69 : Kp h₆ h₉ := k68.trans hk₉
  refine P.iadd_int ?_
  refine sor_set_np (s := { s with heap := h₉, toks := tk₉ + 1 }) (L := L) (S₆.X.keeps k69) (R₆.keeps k69) hj1 (F₆.keeps k69).ns f1L ?_
  intro h₁₀ tk₁₀ R₁₀ ns₁₀ hk₁₀
  have hlen : S1.np j + ((List.toArray vs).size : Int) = S.np j + ps'.length := by (refine rwL hS1 ?_; refine rwR List.size_toArray ?_; refine rwR hvl ?_; with_reducible rfl)
  (replace R₁₀ := hlen ▸ R₁₀)
  have enp : S1.np = S.np := by (refine rwL hS1 ?_; with_reducible rfl)
  (replace R₁₀ := enp ▸ R₁₀)
  generalize hS2 : ({ S1 with np := fup S.np j (S.np j + ps'.length) } : Sor) = S2 at R₁₀
  have fpe : S2.fp = S1.fp := by (refine rwL hS2 ?_); rfl
  have e2 : S2 = addP S j (fup S.np j (S.np j + ps'.length)) [] ia ix isl := by (refine rwL hS2 ?_; refine rwL hS1 ?_); rfl
  have hk₁₀ : ∀ b o, b ≠ L → b ≠ S1.ia j → h₉.get? b = some o → h₁₀.get? b = some o := hk₁₀
  have F₁₀ : Fra (callEnvC fdAdd L 87) h₁₀ m₆ cm := ⟨ns₁₀, fun n c e => (by have e : ([] : List (Str × Addr)).lookup n = some c := e; cases e), F₆.apart, F₆.above⟩
  have fia : S1.fp (S1.ia j) := .inr (.inr (.inr (.inr ⟨j, hj1, .inl rfl⟩)))
  have kx₆₁₀ : Kx (Or2 (OwnA (callEnvC fdAdd L 87)) S1.fp) h₆ h₁₀ := fun b o hb e => hk₁₀ b o (fun q => hb (.inl (q ▸ own_locals))) (fun q => hb (.inr (q ▸ fia))) (k69 _ _ e)
  have Z₁₀ := Z₆.step' kx₆₁₀
  have C2 : Clean S2 := by
    intro i hi
    rw [e2] at hi ⊢
    have hi : i ∉ addKey S.keys j := hi
    rw [mem_addKey] at hi
    have h1 := hC i fun q => hi (.inl q)
    exact ⟨by show fup S.np j _ i = 0; (refine rwR (fup_ne fun q => hi (.inr q)) ?_); exact h1.1, h1.2⟩
  have z1 : (addKey S.keys j).length ≤ S.keys.length + 1 := addKey_len _ _
  have fr0 : ∀ b, Or2 (OwnA (callEnvC fdAdd L 87)) S2.fp b → Or2 (OwnA (callEnvC fdAdd L 87)) S1.fp b := fun b hb => by (replace hb := fpe ▸ hb); exact hb
  have toN : ∀ {l : List Nat} {i : Nat} {x : Nat}, l[i]? = some x → l.take (i + 1) = l.take i ++ [x] := fun {l i x} e => by (refine rwR List.take_succ ?_; refine rwR e ?_); rfl
  refine wpAny_execs_cons ?_
  refine for_fz (σ := (Str → Option Value) × Sor) (n := (List.toArray vs).size) (P := fun i v => (List.toArray vs)[i]? = some v) (src := [tp]) (fun y => Or2 (OwnA (callEnvC fdAdd L 87)) y.2.fp)
    (fun i y h => Fra (callEnvC fdAdd L 87) h y.1 cm ∧ SorAt prog w h y.2 ∧ Clean y.2 ∧ y.1 "self" = some (.ref S.a) ∧ y.1 "node" = some (.int j t) ∧ (∀ b, y.2.fp b → b ≠ L) ∧ (∀ b, S.fp b → y.2.fp b) ∧ ∃ ia ix isl, y.2 = addP S j (fup S.np j (S.np j + ps'.length)) (ps'.take i) ia ix isl)
    (fun i y h => Sta w h ∧ IsTup h tp (List.toArray vs)) (Or2 (OwnA (callEnvC fdAdd L 87)) S2.fp) (m₆, S2)
    (g_local rfl rfl F₁₀.ns mp₆) (fun xv h1 hk hx => by subst hx; exact itr_tuple hOk.hd (Z₁₀.now.2.keeps hk)) (fun _ => rfl) ?_ (F₁₀.live.or R₁₀.live) (fun _ => id) ?_ ⟨F₁₀, R₁₀, C2, ms₆, mn₆, fun b hb => f1L b (by (refine rwL fpe ?_); exact hb), fun b hb => by (refine rwR fpe ?_); exact fp₅' b hb, ia, ix, isl, by (refine rwR e2 ?_; refine rwR List.take_zero ?_; with_reducible rfl)⟩ (by (refine rwR fpe ?_); exact Z₁₀) ?_ ?_
  · intro b hb
    (refine rwR (List.mem_singleton.mp hb) ?_)
    rintro (q | q)
    · exact tL (oA _ q)
    · (replace q := fpe ▸ q)
      refine Or.elim (fp₅ _ q) (fun z => ?_) fun z => ?_
      · exact tS z
      · refine el1_2 ((((htp.keeps hk₁).keeps hk₂).keeps hk₃).keeps hk₄) fun o e _ => ?_
        have z : h₄.get? tp = none := z
        (exact nosome z (e))
  · intro i y h h' z5_ hk
    refine el0_3 z5_ fun q1 q2 q3 => ?_
    try clear z5_
    exact ⟨q1.frame fun b o hb e => hk b o (.inl hb) e, q2.frame fun b o hb e => hk b o (.inr hb) e, q3⟩
  · intro i z6_ Fr' v h tk' E₁ Q₁ hi hP z7_ Z' lv' hMF hFF hK hFd q
    obtain ⟨m', T⟩ := z6_
    try clear z6_
    obtain ⟨F', R', C', ms', mn', fL', fS', ia', ix', isl', eT⟩ := z7_
    try clear z7_
    have F' : Fra (callEnvC fdAdd L 87) h m' cm := F'
    have R' : SorAt prog w h T := R'
    have C' : Clean T := C'
    have ms' : m' "self" = some (.ref S.a) := ms'
    have mn' : m' "node" = some (.int j t) := mn'
    have fL' : ∀ b, T.fp b → b ≠ L := fL'
    have eT : T = addP S j (fup S.np j (S.np j + ps'.length)) (ps'.take i) ia' ix' isl' := eT
    have hMF : ∀ b, Or2 (OwnA (callEnvC fdAdd L 87)) T.fp b → Fr' b := hMF
    obtain ⟨p, tp', ep⟩ := jobV hvs hP
    have hip : i < ps'.length := by (replace hi := List.size_toArray ▸ hi; replace hi := hvl ▸ hi); exact hi
    have Ta : T.a = S.a := by (refine rwR eT ?_); rfl
    have Tk : T.keys = (ps'.take i).foldl addKey (addKey S.keys j) := by (refine rwR eT ?_); rfl
    have Tkl : T.keys.length ≤ 501 := by
      (refine rwR Tk ?_)
      have := foldl_addKey_len (ps'.take i) (addKey S.keys j)
      (replace this := List.length_take ▸ this)
      lia
    have Tsu : (T.su p).length ≤ 10000 := by
      (refine rwR eT ?_)
      have := su_len j (ps'.take i) S.su p
      (replace this := List.length_take ▸ this)
      have h2 := hzs p
      show ((ps'.take i).foldl (fun su p => fup su p (su p ++ [j])) S.su p).length ≤ _
      lia
    refine wpAny_assign_Name (fra_local F' rfl rfl fun hb tkb Fb sbb => ?_)
    have Rb : SorAt prog w hb T := R'.frame fun b o hb e => sbb.extBut b o (fL' b hb) e
    have kxb : Kx (OwnA (callEnvC fdAdd L 87)) h hb := Kx.same sbb own_locals
    have Zb := Z'.step' (kxb.mono fun b q => hMF b (.inl q))
    have msb : upd m' "pred" (.int p tp') "self" = some (.ref T.a) := by (refine rwR Ta ?_); exact (upd_ne (by decide)).trans ms'
    have mnb : upd m' "pred" (.int p tp') "node" = some (.int j t) := (upd_ne (by decide)).trans mn'
    have mpb : upd m' "pred" (.int p tp') "pred" = some (.int p tp') := upd_eq
    generalize upd m' "pred" (.int p tp') = mb at Fb msb mnb mpb
    show wpAny _ _ (execs [(forBody ((bodyOf (sorS 2)).getD 3 ps)).getD 0 ps, (forBody ((bodyOf (sorS 2)).getD 3 ps)).getD 1 ps] (callEnvC fdAdd L 87)) _ _ _
    refine wpAny_execs_cons (wpAny_Assign_Name (meth_call1 (s := { s with heap := hb, toks := tkb }) Zb.now.1 Rb (g_local rfl rfl Fb.ns msb) (k_get w) (ty_fn w 80 (by simp)) (k_keepf w 80 (by simp)) sh_get (g_local rfl rfl Fb.ns mpb) ?_))
    intro v hc tkc hkc hv
    subst hv
    refine call_get (s := { s with heap := hc, toks := tkc }) (hOk.mono (by decide)) (((Zb.left).mono fun b q => hMF b (.inr q)).step' (Kx.of hkc)) (Rb.keeps hkc) C' (by (exact Nat.le_trans (by assumption) (by decide))) ?_
    intro hd tkd ia2 ix2 isl2 Rd kxd fpd fpd'
    generalize hU : ({ T with keys := addKey T.keys p, ia := ia2, ix := ix2, isl := isl2 } : Sor) = U at Rd fpd fpd'
    have kxd : Kx T.fp hc hd := kxd
    have own_off' : ∀ b, OwnA (callEnvC fdAdd L 87) b → ¬ T.fp b := fun b hb q => fL' b q (oA b hb)
    have Fd : Fra (callEnvC fdAdd L 87) hd mb cm := (Fb.keeps hkc).kx kxd own_off'
    have Lc : ∃ o, hc.get? L = some o := (Fb.keeps hkc).live L own_locals
    have fUL : ∀ b, U.fp b → b ≠ L := fun b hb q => by
      refine Or.elim (fpd b hb) (fun z => ?_) fun z => ?_
      · exact fL' b z q
      · refine el1_1 Lc fun o e => ?_
        try clear Lc
        have z : hc.get? b = none := z
        (exact nosome3 q (e) z)
    refine fra_local Fd rfl rfl fun he tke Fe sbe => ?_
    have Re : SorAt prog w he U := Rd.frame fun b o hb e => sbe.extBut b o (fUL b hb) e
    have kxe : Kx (Or2 (OwnA (callEnvC fdAdd L 87)) T.fp) h he := ((kxb.mono fun b => .inl).trans' (Kx.of hkc)).trans' ((kxd.mono fun b => .inr).trans' (Kx.same sbe (.inl own_locals)))
    have hpU : p ∈ U.keys := by (refine rwL hU ?_); exact mem_addKey.mpr (.inr rfl)
    have mie : upd mb "pred_info" (.ref (ia2 p)) "pred_info" = some (.ref (U.ia p)) := by (refine rwR upd_eq ?_; refine rwL hU ?_; with_reducible rfl)
    have mse : upd mb "pred_info" (.ref (ia2 p)) "self" = some (.ref S.a) := (upd_ne (by decide)).trans (Ta ▸ msb)
    have mne : upd mb "pred_info" (.ref (ia2 p)) "node" = some (.int j t) := (upd_ne (by decide)).trans mnb
    generalize upd mb "pred_info" (.ref (ia2 p)) = me at Fe mie mse mne
    have hUdead : ∀ b, U.fp b → T.fp b ∨ h.get? b = none := fun b hb => by
      refine Or.elim (fpd b hb) (fun z => ?_) fun z => ?_
      · exact .inl z
      · have z : hc.get? b = none := z
        rcases dead_back kxb (dead_kp hkc z) with z' | z'
        · exact absurd (oA b z') (fUL b hb)
        · exact .inr z'
    have Ze : Fz (Or2 Fr' U.fp) (fun h => Sta w h ∧ IsTup h tp (List.toArray vs)) he := by
      refine Z'.step (kxe.mono hMF) ?_
      rintro b (hb | hb)
      · exact .inl hb
      · exact (hUdead b hb).elim (fun z => .inl (hMF b (.inr z))) .inr
    have Xe := Ze.now.1.X
    refine wpAny_execs_cons (wpAny_Expr_any (wpAny_Call_append rfl rfl rfl rfl ?_))
    refine (g_attr (prog := prog) (w := w) (h := he) (g_local rfl rfl Fe.ns mie) fun h' hk => f_su (Xe.keeps hk) (Re.keeps hk) hpU).useV (Kp.refl _) fun hf' tkf hkf => ?_
    have Rf := Re.keeps hkf
    have lif := Rf.succ p hpU
    refine el2_1 lif.live fun kf xsf ef => ?_
    refine ⟨U.isl p, xsf, rfl, ⟨_, kf, ef, rfl, rfl, rfl⟩, ?_⟩
    refine (g_local (prog := prog) (w := w) (h := hf') rfl rfl (Fe.keeps hkf).ns mne).useV (Kp.refl _) fun hg tkg hkg => ?_
    have Rg := Rf.keeps hkg
    have sule : (toI (U.su p)).length ≤ 100000 := by (refine rwR (toI_len _) ?_; refine rwL hU ?_); show (T.su p).length ≤ _; (exact Nat.le_trans (by assumption) (by decide))
    refine list_append_li (s := { s with heap := hg, toks := tkg }) (Rg.succ p hpU) sule fun hh hlh sbh => ?_
    (replace hlh := (toI_append _ _) ▸ hlh)
    have fiU : U.fp (U.isl p) := .inr (.inr (.inr (.inr ⟨p, hpU, .inr (.inr rfl)⟩)))
    have Rh := Rg.set_su hpU hlh fun b o hb hne e => sbh.extBut b o hne e
    refine wpAny_execs_nil ?_
    have kgh : Kx (Or2 (OwnA (callEnvC fdAdd L 87)) U.fp) he hh := fun b o hb e => sbh.extBut b o (fun q => hb (.inr (q ▸ fiU))) (hkg _ _ (hkf _ _ e))
    have kall : Kx (Or2 (OwnA (callEnvC fdAdd L 87)) T.fp) h hh := kxe.trans kgh (by
      rintro b (hb | hb)
      · exact .inl (.inl hb)
      · exact (hUdead b hb).elim (fun z => .inl (.inr z)) .inr)
    have Fh : Fra (callEnvC fdAdd L 87) hh me cm := ((Fe.keeps hkf).keeps hkg).frame fun b o hb e => sbh.extBut b o (fun q => fUL _ fiU (q ▸ oA b hb)) e
    have eV : ({ U with su := fup U.su p (U.su p ++ [j]) } : Sor) = addP S j (fup S.np j (S.np j + ps'.length)) (ps'.take (i + 1)) ia2 ix2 isl2 := by
      (refine rwL hU ?_; refine rwR (toN ep) ?_; refine rwR eT ?_)
      unfold addP
      simp only [List.foldl_append, List.foldl_cons, List.foldl_nil]
    refine q .next (me, { U with su := fup U.su p (U.su p ++ [j]) }) hh tkg (.inl rfl) ⟨Fh, Rh, ?_, mse, mne, fUL, fun b hb => fpd' b (fS' b hb), ia2, ix2, isl2, eV⟩ kall ?_ ?_ (Fh.live.or Rh.live) ?_
    · intro x hx
      have hx' : x ∉ addKey T.keys p := by (replace hx := Eq.symm hU ▸ hx); exact hx
      rw [mem_addKey] at hx'
      have h1 := C' x fun z => hx' (.inl z)
      refine ⟨?_, ?_⟩
      · (refine rwL hU ?_); exact h1.1
      · show fup U.su p _ x = []
        (refine rwR (fup_ne fun z => hx' (.inr z)) ?_; refine rwL hU ?_); exact h1.2
    · rintro b (hb | hb)
      · exact .inl hb
      · exact .inr (fpd' b hb)
    · rintro b (hb | hb)
      · exact .inl (.inl hb)
      · exact (hUdead b hb).elim (fun z => .inl (.inr z)) .inr
    · refine (Ze.step' (kgh.mono ?_)).mono ?_
      · rintro b (hb | hb)
        · exact .inl (hMF b (.inl hb))
        · exact .inr hb
      · rintro b (hb | hb | hb)
        · exact .inl hb
        · exact .inl (hMF b (.inl hb))
        · exact .inr hb
  · intro z8_ h' tk' z9_ Z' lv' hK hFd
    obtain ⟨m', T⟩ := z8_
    try clear z8_
    obtain ⟨F', R', C', ms', mn', fL', fS', ia', ix', isl', eT⟩ := z9_
    try clear z9_
    have hMF : ∀ b, T.fp b → Or2 (OwnA (callEnvC fdAdd L 87)) S2.fp b ∨ h₁₀.get? b = none := fun b hb => hFd b (.inr hb)
    have eT : T = addP S j (fup S.np j (S.np j + ps'.length)) (ps'.take (List.toArray vs).size) ia' ix' isl' := eT
    have et : ps'.take (List.toArray vs).size = ps' := List.take_of_length_le (by (refine rwR List.size_toArray ?_; refine rwR hvl ?_); exact Nat.le_refl _)
    (replace eT := et ▸ eT)
    subst eT
    refine wpAny_execs_nil ?_
    have S2back : ∀ b, S2.fp b → S.fp b ∨ s.heap.get? b = none := fun b hb => by
      (replace hb := fpe ▸ hb)
      refine Or.elim (fp₅ b hb) (fun z => ?_) fun z => ?_
      · exact .inl z
      · exact .inr (dead_kp (k3.trans hk₄) z)
    have k10 : Kx S.fp s.heap h₁₀ := fun b o hb e => by
      have nL := oL b o e
      refine kx₆₁₀ b o ?_ (kx₃₆ b o ?_ (k3 _ _ e))
      · rintro (q | q)
        · exact nL (oA b q)
        · rcases S2back b (by (refine rwR fpe ?_); exact q) with z | z
          · exact hb z
          · (exact nosome z (e))
      · rintro (q | q)
        · exact nL (oA b q)
        · exact hb q
    have back : ∀ b, (addP S j (fup S.np j (S.np j + ps'.length)) ps' ia' ix' isl').fp b → S.fp b ∨ s.heap.get? b = none := fun b hb => by
      rcases hMF b hb with (z | z) | z
      · exact .inr (dead_kp hk₀ (hO b z))
      · exact S2back b z
      · exact dead_back k10 z
    refine k h' tk' ia' ix' isl' R' C' ?_ back fS'
    intro b o hb e
    refine hK b o ?_ (k10 b o hb e)
    rintro (q | q)
    · exact oL b o e (oA b q)
    · refine Or.elim (back b q) (fun z => ?_) fun z => ?_
      · exact hb z
      · (exact nosome z (e))
end
end Mine
end
section
open PySem PySem.Calls PySem.W PyProof.Rows
set_option maxRecDepth 100000
set_option genInjectivity false
set_option genSizeOf false
set_option genSizeOfSpec false
namespace Mine
theorem putL_len (name : Str) (hsh : Int) (key v : Value) : ∀ es : List DictEntry, (putL name hsh key v es).length ≤ es.length + 1
  | [] => by simp [putL]
  | e :: r => by
    have := putL_len name hsh key v r
    unfold putL; split
    · simp
    · simp; lia
section
variable {prog : Program} {w : World} {A : Around} {E : Value → Shared → Prop} {s : Shared}
theorem bind_init {x : Addr} (X : (K w).In s.heap) {Q : List (Str × Value) → Shared → Prop} (h : Q [("self", .ref x), ("graph", .none)] s) : wpAny (model prog w) A (bindArgs fdInit ⟨[.ref x], []⟩) Q E s := by
  have h66 := X 66 _ rfl
  show wpAny _ _ (seqItems? (.ref 66) >>= _) _ _ _
  refine wpAny_bind ?_
  show wpAny _ _ (load 66 >>= _) _ _ _
  refine wpAny_bind (wpAny_load h66 (wpAny_pure ?_))
  exact wpAny_of_eq rfl h
theorem new_sorter {h : Heap} (hA : Ok 8 A) (S : Sta w h) :
    Gives prog w A h (call (.ref 137) []) (fun v h' => ∃ T : Sor, v = .ref T.a ∧ SorAt prog w h' T ∧ Clean T ∧ T.keys = [] ∧ T.rdy = none ∧ T.pas = 0 ∧ T.fin = 0 ∧ (∀ i, T.np i = 0) ∧ (∀ i, T.su i = []) ∧ ∀ b, T.fp b → h.get? b = none) := fun s E hs => by
  obtain ⟨hh, g, dr, tk₀, os⟩ := s
  try clear s
  have S₀ : Sta w hh := S.keeps hs
  refine el2_1 (fn_init w) fun d sl hf => ?_
  refine el2_1 (fn_law w) fun dl sll hfl => ?_
  refine wpAny_call (make_core (makes_of S₀.X (k_makes w)) (looks_findIn S₀.X (k_init w)) (fun self => bind_fn S₀.X self (ty_fn w 73 (by simp))) (.inl rfl) ?_)
  generalize hH : (hh.push emptyDict).push (instObj 137 hh.objs.size) = h1
  have k01 : Kp hh h1 := hH ▸ (Kp.push _ _).trans (Kp.push _ _)
  have hx1 : h1.get? (hh.objs.size + 1) = some (instObj 137 hh.objs.size) := by (refine rwL hH ?_); heap_get
  have hd1 : h1.get? hh.objs.size = some (dictOf [] 0) := by (refine rwL hH ?_); heap_get
  generalize hxx : hh.objs.size + 1 = x at hx1
  generalize hdd : hh.objs.size = dx at hx1 hd1
  have nx : hh.get? x = none := by
    cases e : hh.get? x with
    | none => rfl
    | some o => exact absurd (Heap.lt_size e) (by (refine rwL hxx ?_); exact Nat.not_lt.mpr (Nat.le_succ _))
  have nd : hh.get? dx = none := by
    (refine rwL hdd ?_); exact none_size _
  have S₁ : Sta w h1 := S₀.keeps k01
  refine call_code (n := 6) (body := bodyOf (sorS 0)) (binds := [("self", .ref x), ("graph", .none)]) (RB := fun _ => True) hA.under (S₁.X _ _ hf) rfl S₁.lim (codeRec_of S₁.X (cd_init w)) rfl rfl (fun s' E' hs' => bind_init (S₁.X.keeps hs') ⟨⟨rfl, trivial⟩, keeps_refl s'⟩) ?_ ?_
  · intro k y hy
    rcases List.mem_cons.mp hy with rfl | hy
    · exact .inl rfl
    · (refine rwR (List.mem_singleton.mp hy) ?_); exact .inl rfl
  intro L h₀ h₁ tk E' hL hL0 hk₀ _ hk₁ F hO hOk
  have ms : bindL (callEnvC fdInit L 73).kindOf [("self", Value.ref x), ("graph", .none)] (fun _ => none) "self" = some (.ref x) := rfl
  have mn : bindL (callEnvC fdInit L 73).kindOf [("self", Value.ref x), ("graph", .none)] (fun _ => none) "graph" = some .none := rfl
  generalize bindL (callEnvC fdInit L 73).kindOf [("self", Value.ref x), ("graph", .none)] (fun _ => none) = m at F ms mn
  generalize bindC (callEnvC fdInit L 73).kindOf [("self", Value.ref x), ("graph", .none)] (fun _ => none) = cm at F
  have kA : Kp h1 h₁ := hk₀.trans hk₁
  have hx₁ := kA _ _ hx1
  have hd₁ := kA _ _ hd1
  have xL : x ≠ L := fun e => by (replace hL0 := Eq.symm e ▸ hL0); (exact nosome hL0 (hk₀ _ _ hx1))
  have dL : dx ≠ L := fun e => by (replace hL0 := Eq.symm e ▸ hL0); (exact nosome hL0 (hk₀ _ _ hd1))
  have xd : x ≠ dx := ne_cls hx1 hd1 (by simp)
  have off : ∀ b o, h1.get? b = some o → b ≠ L := fun b o e q => by (replace hL0 := Eq.symm q ▸ hL0); (exact nosome hL0 (hk₀ _ _ e))
  have ofd : ∀ b o, hh.get? b = some o → b ≠ dx := fun b o e q => by (exact nosome2 q (nd) e)
  show wpAny _ _ (execs [(bodyOf (sorS 0)).getD 0 ps, (bodyOf (sorS 0)).getD 1 ps, (bodyOf (sorS 0)).getD 2 ps, (bodyOf (sorS 0)).getD 3 ps, (bodyOf (sorS 0)).getD 4 ps] (callEnvC fdInit L 73)) _ _ _
  refine wpAny_execs_cons (plainObj_wpAny_Assign_Attribute (wpAny_Dict_empty ?_))
  generalize hHd : h₁.push { cls := .type "dict", data := .dict #[] } = h₂
  have hk₂ : Kp h₁ h₂ := hHd ▸ Kp.push _ _
  have hnd : h₂.DictOf (intKind prog w) h₁.objs.size [] := hHd ▸ Heap.DictOf.new h₁
  have nnd : h₁.get? h₁.objs.size = none := none_size _
  have ndb : 156 < h₁.objs.size := Heap.lt_size (kA _ _ (S₁.X _ _ hfl))
  show wpAny _ _ (eval _ _) _ _ ⟨h₂, _, _, _, _⟩
  generalize hnda : h₁.objs.size = nda at hnd nnd ndb
  refine el1_2 (DictOf.obj hnd) fun ond eond cond => ?_
  refine (g_local (prog := prog) (w := w) (h := h₂) rfl rfl (F.ns.keeps hk₂) ms).useV (Kp.refl _) fun h₃ tk₃ hk₃ => ?_
  have X₃ : (K w).In h₃ := S₁.X.keeps (kA.trans (hk₂.trans hk₃))
  have ndL : nda ≠ L := fun q => by obtain ⟨o, e⟩ := F.live L own_locals; (replace e := Eq.symm q ▸ e; replace e := nnd ▸ e); cases e
  have ndd : nda ≠ dx := fun q => by (exact nosome3 q (hd₁) nnd)
  have ndx : nda ≠ x := fun q => by (exact nosome3 q (hx₁) nnd)
  refine set_attr_dict (s := ⟨h₃, g, dr, tk₃, os⟩) X₃ ((F.ns.keeps hk₂).keeps hk₃) (hk₃ _ _ (hk₂ _ _ hx₁)) (hk₃ _ _ (hk₂ _ _ hd₁)) dL (k_sa w) (k_po w) (tk_n2i w) (k_hasDict w) rfl (fun _ _ => Nat.le_trans (putL_len _ _ _ _ _) (by simp)) ?_
  intro h₄ tk₄ a1 t1 ns₄ hd₄ hk₄
  have hd₄ : h₄.get? dx = some (dictOf [⟨a1, .str "_node2info" t1, .ref nda⟩] 1) := hd₄
  have k24 : ∀ b o, b ≠ L → b ≠ dx → h₂.get? b = some o → h₄.get? b = some o := fun b o q1 q2 e => hk₄ b o q1 q2 (hk₃ _ _ e)
  have X₄ : (K w).In h₄ := fun b o e => k24 b o (off b o (S₁.X _ _ e)) (ofd b o (S₀.X _ _ e)) (hk₂ _ _ (kA _ _ (S₁.X _ _ e)))
  have hx₄ := k24 _ _ xL xd (hk₂ _ _ hx₁)
  refine wpAny_execs_cons (plainObj_wpAny_Assign_Attribute ?_)
  refine (g_none (prog := prog) (w := w) (h := h₄)).useV (Kp.refl _) fun h₅ tk₅ hk₅ => ?_
  refine (g_local (prog := prog) (w := w) (h := h₅) rfl rfl (ns₄.keeps hk₅) ms).useV (Kp.refl _) fun h₆ tk₆ hk₆ => ?_
  refine set_attr_dict (s := ⟨h₆, g, dr, tk₆, os⟩) ((X₄.keeps hk₅).keeps hk₆) ((ns₄.keeps hk₅).keeps hk₆) (hk₆ _ _ (hk₅ _ _ hx₄)) (hk₆ _ _ (hk₅ _ _ hd₄)) dL (k_sa w) (k_po w) (tk_rdy w) (k_hasDict w) rfl (fun _ _ => Nat.le_trans (putL_len _ _ _ _ _) (by simp)) ?_
  intro h₇ tk₇ a2 t2 ns₇ hd₇ hk₇
  have hd₇ : h₇.get? dx = some (dictOf [⟨a1, .str "_node2info" t1, .ref nda⟩, ⟨a2, .str "_ready_nodes" t2, .none⟩] 2) := hd₇
  have k27 : ∀ b o, b ≠ L → b ≠ dx → h₂.get? b = some o → h₇.get? b = some o := fun b o q1 q2 e => hk₇ b o q1 q2 (hk₆ _ _ (hk₅ _ _ (k24 b o q1 q2 e)))
  have X₇ : (K w).In h₇ := fun b o e => k27 b o (off b o (S₁.X _ _ e)) (ofd b o (S₀.X _ _ e)) (hk₂ _ _ (kA _ _ (S₁.X _ _ e)))
  have hx₇ := k27 _ _ xL xd (hk₂ _ _ hx₁)
  refine wpAny_execs_cons (plainObj_wpAny_Assign_Attribute ?_)
  refine (g_int (prog := prog) (w := w) (h := h₇)).useI (Kp.refl _) fun u3 h₈ tk₈ hk₈ => ?_
  refine (g_local (prog := prog) (w := w) (h := h₈) rfl rfl (ns₇.keeps hk₈) ms).useV (Kp.refl _) fun h₉ tk₉ hk₉ => ?_
  refine set_attr_dict (s := ⟨h₉, g, dr, tk₉, os⟩) ((X₇.keeps hk₈).keeps hk₉) ((ns₇.keeps hk₈).keeps hk₉) (hk₉ _ _ (hk₈ _ _ hx₇)) (hk₉ _ _ (hk₈ _ _ hd₇)) dL (k_sa w) (k_po w) (tk_pas w) (k_hasDict w) rfl (fun _ _ => Nat.le_trans (putL_len _ _ _ _ _) (by simp)) ?_
  intro h₁₀ tk₁₀ a3 t3 ns₁₀ hd₁₀ hk₁₀
  have hd₁₀ : h₁₀.get? dx = some (dictOf [⟨a1, .str "_node2info" t1, .ref nda⟩, ⟨a2, .str "_ready_nodes" t2, .none⟩, ⟨a3, .str "_npassedout" t3, .int 0 u3⟩] 3) := hd₁₀
  have k210 : ∀ b o, b ≠ L → b ≠ dx → h₂.get? b = some o → h₁₀.get? b = some o := fun b o q1 q2 e => hk₁₀ b o q1 q2 (hk₉ _ _ (hk₈ _ _ (k27 b o q1 q2 e)))
  have X₁₀ : (K w).In h₁₀ := fun b o e => k210 b o (off b o (S₁.X _ _ e)) (ofd b o (S₀.X _ _ e)) (hk₂ _ _ (kA _ _ (S₁.X _ _ e)))
  have hx₁₀ := k210 _ _ xL xd (hk₂ _ _ hx₁)
  refine wpAny_execs_cons (plainObj_wpAny_Assign_Attribute ?_)
  refine (g_int (prog := prog) (w := w) (h := h₁₀)).useI (Kp.refl _) fun u4 h₁₁ tk₁₁ hk₁₁ => ?_
  refine (g_local (prog := prog) (w := w) (h := h₁₁) rfl rfl (ns₁₀.keeps hk₁₁) ms).useV (Kp.refl _) fun h₁₂ tk₁₂ hk₁₂ => ?_
  refine set_attr_dict (s := ⟨h₁₂, g, dr, tk₁₂, os⟩) ((X₁₀.keeps hk₁₁).keeps hk₁₂) ((ns₁₀.keeps hk₁₁).keeps hk₁₂) (hk₁₂ _ _ (hk₁₁ _ _ hx₁₀)) (hk₁₂ _ _ (hk₁₁ _ _ hd₁₀)) dL (k_sa w) (k_po w) (tk_fin w) (k_hasDict w) rfl (fun _ _ => Nat.le_trans (putL_len _ _ _ _ _) (by simp)) ?_
  intro h₁₃ tk₁₃ a4 t4 ns₁₃ hd₁₃ hk₁₃
  have hd₁₃ : h₁₃.get? dx = some (dictOf [⟨a1, .str "_node2info" t1, .ref nda⟩, ⟨a2, .str "_ready_nodes" t2, .none⟩, ⟨a3, .str "_npassedout" t3, .int 0 u3⟩, ⟨a4, .str "_nfinished" t4, .int 0 u4⟩] 4) := hd₁₃
  have k213 : ∀ b o, b ≠ L → b ≠ dx → h₂.get? b = some o → h₁₃.get? b = some o := fun b o q1 q2 e => hk₁₃ b o q1 q2 (hk₁₂ _ _ (hk₁₁ _ _ (k210 b o q1 q2 e)))
  have hx₁₃ := k213 _ _ xL xd (hk₂ _ _ hx₁)
  refine wpAny_execs_cons (wpAny_If (wpAny_isTrue_Compare1 ?_))
  refine (g_local (prog := prog) (w := w) (h := h₁₃) rfl rfl ns₁₃ mn).useV (Kp.refl _) fun h₁₄ tk₁₄ hk₁₄ => ?_
  refine (g_none (prog := prog) (w := w) (h := h₁₄)).useV (Kp.refl _) fun h₁₅ tk₁₅ hk₁₅ => ?_
  refine wpAny_isNot_self rfl (wpAny_truthy_bool ?_)
  refine wpAny_execs_nil ?_
  refine wpAny_execs_nil ?_
  have kF : Kp h₁₃ h₁₅ := hk₁₄.trans hk₁₅
  refine ⟨rfl, ?_⟩
  refine ⟨⟨{ a := x, d := dx, nd := nda, ia := fun _ => 0, ix := fun _ => 0, isl := fun _ => 0, keys := [], np := fun _ => 0, su := fun _ => [], rdy := none, pas := 0, fin := 0 }, rfl, ?_, ?_, rfl, rfl, rfl, rfl, fun _ => rfl, fun _ => rfl, ?_⟩, h₁₅, tk₁₅, rfl, ?_⟩
  · refine ⟨kF _ _ hx₁₃, ⟨_, _, kF _ _ hd₁₃, .mk ..⟩, ?_, ?_, ?_, ?_, ?_, ?_, ?_, ?_, ?_, ?_⟩
    · exact hnd.at fun o e => kF _ _ (k213 _ o ndL ndd e)
    · intro j hj; cases hj
    · intro j hj; cases hj
    · intro j hj; cases hj
    · intro r l e; cases e
    · intro j hj; cases hj
    · exact List.nodup_nil
    · exact Ne.symm ndd
    · intro j hj; cases hj
    · exact beq_eq_false_iff_ne.mpr fun q => by
        have q : nda = sysModules := q
        (replace ndb := q ▸ ndb)
        exact absurd ndb (by decide)
  · intro i _; exact ⟨rfl, rfl⟩
  · rintro b (q | q | q | ⟨l, q⟩ | ⟨j, hj, _⟩)
    · (refine rwR (show b = x from q) ?_); exact dead_kp hs nx
    · (refine rwR (show b = dx from q) ?_); exact dead_kp hs nd
    · (refine rwR (show b = nda from q) ?_); exact dead_kp hs (dead_kp (k01.trans kA) nnd)
    · cases q
    · cases hj
  · exact fun b o e => kF _ _ (k213 b o (off b o (k01 _ _ e)) (ofd b o e) (hk₂ _ _ (kA _ _ (k01 _ _ e))))
end
end Mine
end
section
open PySem PySem.Calls PySem.W PyProof.Rows
set_option maxRecDepth 100000
set_option genInjectivity false
set_option genSizeOf false
set_option genSizeOfSpec false
namespace Mine
theorem own_one {env : Env} {b : Addr} (hc : env.cells = []) (h : OwnA env b) : b = env.locals := by
  rcases h with h | ⟨n, h⟩
  · exact h
  · (rw [hc] at h; cases h)
theorem fra_of_ns {env : Env} {h : Heap} {m cm : Str → Option Value} (hc : env.cells = []) (hn : h.Ns env.locals m) : Fra env h m cm :=
  ⟨hn, fun n c e => by ((rw [hc] at e; cases e)), by (refine rwR hc ?_); exact .nil, fun n c e => by ((rw [hc] at e; cases e))⟩
section
variable {prog : Program} {w : World} {A : Around} {E : Value → Shared → Prop} {s : Shared}
theorem sor_set_field {S : Sor} {name : Str} {v : Value} {rdy' : Option (Addr × List Nat)} {pas' fin' : Int} {L : Addr} {m : Str → Option Value} {Q : Unit → Shared → Prop} (X : (K w).In s.heap) (R : SorAt prog w s.heap S) (hn : s.heap.Ns L m) (hL : ∀ b, S.fp b → b ≠ L)
    (ht : takerIn (K w) 137 name = some none) (hl : ∀ es, Ents S.nd S.rv S.pas S.fin es → (getL name es).isSome = true ∧ ∀ hsh t, Ents S.nd ({ S with rdy := rdy' } : Sor).rv pas' fin' (putL name hsh (.str name t) v es))
    (hrl : ∀ r l, rdy' = some (r, l) → LI s.heap r (toI l) ∧ r ≠ L ∧ ∀ j ∈ S.keys, r ≠ S.isl j)
    (k : ∀ h' tk, SorAt prog w h' { S with rdy := rdy', pas := pas', fin := fin' } → h'.Ns L m → (∀ b o, b ≠ L → b ≠ S.d → s.heap.get? b = some o → h'.get? b = some o) → Q () { s with heap := h', toks := tk }) :
    wpAny (model prog w) A (setAttr (.ref S.a) name v) Q E s := by
  refine el2_2 R.dict fun es n hd he => ?_
  have h2 : es.length = 4 := by cases he; rfl
  refine set_attr_dict X hn R.inst hd (hL _ (.inr (.inl rfl))) (k_sa w) (k_po w) ht (k_hasDict w) (hl es he).1 (fun _ _ => Nat.le_trans (putL_len _ _ _ _ _) (by lia)) ?_
  intro h' tk hsh t ns' hd' hk'
  refine k h' tk (R.set_own hd' ((hl es he).2 hsh t) (fun b o hb hne e => hk' b o (hL b hb) hne e) fun r l e => ?_) ns' hk'
  refine el0_3 (hrl r l e) fun q1 q2 q3 => ?_
  refine ⟨q1.at fun o e' => hk' _ o q2 ?_ e', q3⟩
  refine el2_1 q1.live fun kk xs e2 => ?_
  exact ne_cls e2 hd (by simp)
theorem ents_pas {nd : Addr} {rv : Value} {p f p' : Int} {u : Tok} : ∀ es, Ents nd rv p f es → (getL "_npassedout" es).isSome = true ∧ ∀ hsh t, Ents nd rv p' f (putL "_npassedout" hsh (.str "_npassedout" t) (.int p' u) es) := fun es he => by
  cases he; exact ⟨rfl, fun hsh t => .mk ..⟩
theorem ents_fin {nd : Addr} {rv : Value} {p f f' : Int} {u : Tok} : ∀ es, Ents nd rv p f es → (getL "_nfinished" es).isSome = true ∧ ∀ hsh t, Ents nd rv p f' (putL "_nfinished" hsh (.str "_nfinished" t) (.int f' u) es) := fun es he => by
  cases he; exact ⟨rfl, fun hsh t => .mk ..⟩
theorem ents_rdy {nd : Addr} {rv rv' : Value} {p f : Int} : ∀ es, Ents nd rv p f es → (getL "_ready_nodes" es).isSome = true ∧ ∀ hsh t, Ents nd rv' p f (putL "_ready_nodes" hsh (.str "_ready_nodes" t) rv' es) := fun es he => by
  cases he; exact ⟨rfl, fun hsh t => .mk ..⟩
noncomputable def outS (S : Sor) (l : List Nat) : Sor := { S with np := l.foldl (fun np j => fup np j (-1)) S.np }
theorem call_ready {S : Sor} {r : Addr} {l : List Nat} {Q : Value → Shared → Prop} (hA : Ok 20 A) (Z : Fz S.fp (Sta w) s.heap) (R : SorAt prog w s.heap S) (hr : S.rdy = some (r, l)) (hl : ∀ j ∈ l, j ∈ S.keys) (hz : l.length ≤ 1000)
    (k : ∀ h' tk tp vs, SorAt prog w h' { S with np := l.foldl (fun np j => fup np j (-1)) S.np, rdy := some (r, []), pas := S.pas + l.length } → Kx S.fp s.heap h' → s.heap.get? tp = none → IsTup h' tp (List.toArray vs) → IntsAre vs (toI l) → Q (.ref tp) { s with heap := h', toks := tk }) :
    wpAny (model prog w) A (call (.ref 99) [.ref S.a]) Q E s := by
  have S₀ : Sta w s.heap := Z.now
  refine el2_1 (fn_ready w) fun d sl hf => ?_
  refine call_rule (n := 19) (body := bodyOf (sorS 4)) (binds := [("self", .ref S.a)]) (RB := fun _ => True) hA (S₀.X _ _ hf) rfl S₀.lim (codeRec_of S₀.X (cd_ready w)) rfl rfl (fun s' E' hs' => wpAny_of_eq rfl ⟨⟨rfl, trivial⟩, keeps_refl s'⟩) ?_ ?_
  · intro k y hy
    (refine rwR (List.mem_singleton.mp hy) ?_); exact .inl rfl
  intro L h₀ h₁ tk E' hL hL0 hk₀ _ hk₁ F hO hOk
  have ms : bindL (callEnvC fdReady L 99).kindOf [("self", Value.ref S.a)] (fun _ => none) "self" = some (.ref S.a) := rfl
  generalize bindL (callEnvC fdReady L 99).kindOf [("self", Value.ref S.a)] (fun _ => none) = m at F ms
  generalize bindC (callEnvC fdReady L 99).kindOf [("self", Value.ref S.a)] (fun _ => none) = cm at F
  have kA : Kp s.heap h₁ := hk₀.trans hk₁
  have oL : ∀ b o, s.heap.get? b = some o → b ≠ L := fun b o e q => by (replace hL := Eq.symm q ▸ hL; replace hL := e ▸ hL); cases hL
  have fL : ∀ b, S.fp b → b ≠ L := fun b hb => by obtain ⟨o, e⟩ := R.live b hb; exact oL b o e
  have oA : ∀ b, OwnA (callEnvC fdReady L 99) b → b = L := fun b hb => own_one rfl hb
  have R₁ := R.keeps kA
  have S₁ := S₀.keeps kA
  have hrv : S.rv = .ref r := by unfold Sor.rv; (refine rwR hr ?_; with_reducible rfl)
  refine el0_2 (R.rl r l hr) fun hl0 hrne => ?_
  obtain ⟨rvs, hrvs, hri⟩ := hl0
  try clear hl0
  have hrl : rvs.length = l.length := by (refine rwR (IntsAre.len hri) ?_; refine rwR (toI_len _) ?_; with_reducible rfl)
  show wpAny _ _ (execs [(bodyOf (sorS 4)).getD 0 ps, (bodyOf (sorS 4)).getD 1 ps, (bodyOf (sorS 4)).getD 2 ps, (bodyOf (sorS 4)).getD 3 ps, (bodyOf (sorS 4)).getD 4 ps, (bodyOf (sorS 4)).getD 5 ps, (bodyOf (sorS 4)).getD 6 ps] (callEnvC fdReady L 99)) _ _ _
  refine wpAny_execs_cons (wpAny_If (wpAny_isTrue_Compare1 ?_))
  refine (g_attr (prog := prog) (w := w) (h := h₁) (g_local rfl rfl F.ns ms) fun h' hk => f_rdy (S₁.X.keeps hk) (R₁.keeps hk)).use (Kp.refl _) fun v h₂ tk₂ hk₂ hv => ?_
  (replace hv := hrv ▸ hv)
  subst hv
  refine (g_none (prog := prog) (w := w) (h := h₂)).useV (Kp.refl _) fun h₃ tk₃ hk₃ => ?_
  refine PySem.is_none (wpAny_truthy_bool ?_)
  (refine rwR (if_neg (by simp)) ?_)
  refine wpAny_execs_nil ?_
  have k3 : Kp s.heap h₃ := kA.trans (hk₂.trans hk₃)
  have F₃ := (F.keeps hk₂).keeps hk₃
  have R₃ := R.keeps k3
  have S₃ := S₀.keeps k3
  refine wpAny_execs_cons (asg_local1 (h := h₃) F₃ rfl rfl (g_call1t (T := "tuple") (R := fun v h' => ∃ tp, v = .ref tp ∧ h₃.get? tp = none ∧ IsTup h' tp (List.toArray rvs)) (g_builtin S₃ (by kernel_rfl) (by decide +kernel) (by decide) rfl rfl rfl rfl) (g_attr (g_local rfl rfl F₃.ns ms) fun h' hk => f_rdy (S₃.X.keeps hk) (R₃.keeps hk)) ?_) (Kp.refl _) rfl ?_)
  · intro v h' hk hv
    (replace hv := hrv ▸ hv)
    subst hv
    intro s' E' hs'
    refine call_tuple_list ((hrvs.at fun o e => hs' _ o (hk _ o (k3 _ o e))).isList) (fun h'' hk'' => ?_) (by (refine rwR List.size_toArray ?_; refine rwR sizeLine_eq ?_); (exact Nat.le_trans (Nat.le_of_eq (by assumption)) (Nat.le_trans (by assumption) (by decide))))
    refine ⟨⟨_, rfl, ?_, ⟨_, Heap.get?_push_size _ rfl, rfl, 0, rfl⟩⟩, _, s'.toks, rfl, Kp.trans hk'' (Kp.push _ _)⟩
    exact dead_kp hk (dead_kp hs' (dead_kp hk'' (none_size _)))
  intro tp h₄ h₅ tk₅ z1_ hk₄ sb₅ F₅
  refine el0_2 z1_ fun htpn htp => ?_
  try clear z1_
  have tL : tp ≠ L := fun q => by obtain ⟨o, e⟩ := F₃.live L own_locals; (replace e := Eq.symm q ▸ e; replace e := htpn ▸ e); cases e
  have tS : ¬ S.fp tp := Live.not R₃.live htpn
  have k45 : Kx (OwnA (callEnvC fdReady L 99)) h₃ h₅ := (Kx.of hk₄).trans' (Kx.same sb₅ own_locals)
  have R₅ : SorAt prog w h₅ S := R₃.frame fun b o hb e => k45 b o (fun q => fL b hb (oA b q)) e
  have htp₅ : IsTup h₅ tp (List.toArray rvs) := by obtain ⟨o, e, q⟩ := htp; exact ⟨o, sb₅.extBut _ _ tL e, q⟩
  have Z₅ : Fz (Or2 (OwnA (callEnvC fdReady L 99)) S.fp) (fun h => Sta w h ∧ IsTup h tp (List.toArray rvs)) h₅ := by
    refine Fz.and (Z.step (N := Or2 (OwnA (callEnvC fdReady L 99)) S.fp) (h' := h₅) ?_ ?_) ?_
    · exact fun b o hb e => k45 b o (fun q => oL b o e (oA b q)) (k3 _ _ e)
    · rintro b (hb | hb)
      · exact .inr (dead_kp hk₀ (hO b hb))
      · exact .inl hb
    · intro h' kx'
      refine el1_2 htp₅ fun o e q => ?_
      try clear htp₅
      refine ⟨o, kx' _ _ ?_ e, q⟩
      rintro (hb | hb)
      · exact tL (oA _ hb)
      · exact tS hb
  have ms₅ : upd m "result" (.ref tp) "self" = some (.ref S.a) := (upd_ne (by decide)).trans ms
  have mr₅ : upd m "result" (.ref tp) "result" = some (.ref tp) := upd_eq
  generalize upd m "result" (.ref tp) = m₅ at F₅ ms₅ mr₅
  refine wpAny_execs_cons (asg_local (h := h₅) F₅ rfl rfl (g_attr (g_local rfl rfl F₅.ns ms₅) fun h' hk => f_n2i (Z₅.now.1.X.keeps hk) (R₅.keeps hk)) (Kp.refl _) rfl ?_)
  rintro v h₆ h₇ tk₇ rfl hk₆ sb₇ F₇
  have k57 : Kx (OwnA (callEnvC fdReady L 99)) h₅ h₇ := (Kx.of hk₆).trans' (Kx.same sb₇ own_locals)
  have R₇ : SorAt prog w h₇ S := R₅.frame fun b o hb e => k57 b o (fun q => fL b hb (oA b q)) e
  have Z₇ := Z₅.step' (k57.mono fun b => .inl)
  have ms₇ : upd m₅ "n2i" (.ref S.nd) "self" = some (.ref S.a) := (upd_ne (by decide)).trans ms₅
  have mr₇ : upd m₅ "n2i" (.ref S.nd) "result" = some (.ref tp) := (upd_ne (by decide)).trans mr₅
  have mi₇ : upd m₅ "n2i" (.ref S.nd) "n2i" = some (.ref S.nd) := upd_eq
  generalize upd m₅ "n2i" (.ref S.nd) = m₇ at F₇ ms₇ mr₇ mi₇
  refine el1_1 (gl_out w) fun tOut hOut => ?_
  have lenR : (List.toArray rvs).size = l.length := by (refine rwR List.size_toArray ?_; refine rwR hrl ?_; with_reducible rfl)
  refine wpAny_execs_cons ?_
  refine for_fz (σ := (Str → Option Value) × (Nat → Int)) (n := (List.toArray rvs).size) (P := fun i v => (List.toArray rvs)[i]? = some v) (src := [tp]) (fun y => Or2 (OwnA (callEnvC fdReady L 99)) S.fp)
    (fun i y h => Fra (callEnvC fdReady L 99) h y.1 cm ∧ SorAt prog w h { S with np := y.2 } ∧ y.1 "self" = some (.ref S.a) ∧ y.1 "result" = some (.ref tp) ∧ y.1 "n2i" = some (.ref S.nd) ∧ y.2 = (l.take i).foldl (fun np j => fup np j (-1)) S.np)
    (fun i y h => Sta w h ∧ IsTup h tp (List.toArray rvs)) (Or2 (OwnA (callEnvC fdReady L 99)) S.fp) (m₇, S.np)
    (g_local rfl rfl F₇.ns mr₇) (fun xv h1 hk hx => by subst hx; exact itr_tuple hOk.hd (Z₇.now.2.keeps hk)) (fun _ => rfl) ?_ (F₇.live.or R₇.live) (fun _ => id) ?_ ⟨F₇, R₇, ms₇, mr₇, mi₇, by (refine rwR List.take_zero ?_); rfl⟩ Z₇ ?_ ?_
  · intro b hb
    (refine rwR (List.mem_singleton.mp hb) ?_)
    rintro (q | q)
    · exact tL (oA _ q)
    · exact tS q
  · intro i y h h' z2_ hk
    refine el0_3 z2_ fun q1 q2 q3 => ?_
    try clear z2_
    exact ⟨q1.frame fun b o hb e => hk b o (.inl hb) e, q2.frame fun b o hb e => hk b o (.inr hb) e, q3⟩
  · intro i z3_ Fr' v h tk' E₁ Q₁ hi hP z4_ Z' lv' hMF hFF hK hFd q
    obtain ⟨m', np⟩ := z3_
    try clear z3_
    refine el0_6 z4_ fun F' R' ms' mr' mi' eN => ?_
    try clear z4_
    have F' : Fra (callEnvC fdReady L 99) h m' cm := F'
    have R' : SorAt prog w h { S with np := np } := R'
    have ms' : m' "self" = some (.ref S.a) := ms'
    have mr' : m' "result" = some (.ref tp) := mr'
    have mi' : m' "n2i" = some (.ref S.nd) := mi'
    have eN : np = (l.take i).foldl (fun np j => fup np j (-1)) S.np := eN
    have hMF : ∀ b, Or2 (OwnA (callEnvC fdReady L 99)) S.fp b → Fr' b := hMF
    obtain ⟨p, tp', ep⟩ := jobV hri hP
    have hpk : p ∈ S.keys := hl p (List.mem_of_getElem? ep)
    refine wpAny_assign_Name (fra_local F' rfl rfl fun hb tkb Fb sbb => ?_)
    have kxb : Kx (OwnA (callEnvC fdReady L 99)) h hb := Kx.same sbb own_locals
    have Rb : SorAt prog w hb { S with np := np } := R'.frame fun b o hb' e => kxb b o (fun q => fL b hb' (oA b q)) e
    have Zb := Z'.step' (kxb.mono fun b q => hMF b (.inl q))
    have msb : upd m' "node" (.int p tp') "self" = some (.ref S.a) := (upd_ne (by decide)).trans ms'
    have mrb : upd m' "node" (.int p tp') "result" = some (.ref tp) := (upd_ne (by decide)).trans mr'
    have mib : upd m' "node" (.int p tp') "n2i" = some (.ref S.nd) := (upd_ne (by decide)).trans mi'
    have mpb : upd m' "node" (.int p tp') "node" = some (.int p tp') := upd_eq
    generalize upd m' "node" (.int p tp') = mb at Fb msb mrb mib mpb
    show wpAny _ _ (execs [(forBody ((bodyOf (sorS 4)).getD 3 ps)).getD 0 ps] (callEnvC fdReady L 99)) _ _ _
    refine wpAny_execs_cons (plainObj_wpAny_Assign_Attribute ?_)
    refine (g_global (prog := prog) (w := w) (h := hb) Zb.now.1 hOut rfl rfl rfl).useV (Kp.refl _) fun hc tkc hkc => ?_
    have Rc := Rb.keeps hkc
    refine (g_nd (prog := prog) (w := w) (h := hc) (j := p) Rc hpk (g_local rfl rfl (Fb.keeps hkc).ns mib) (gv_int (g_local rfl rfl (Fb.keeps hkc).ns mpb)) (fun _ _ => rfl)).useV (Kp.refl _) fun hd tkd hkd => ?_
    have kbd : Kp hb hd := hkc.trans hkd
    refine sor_set_np (s := { s with heap := hd, toks := tkd }) (L := L) (Zb.now.1.X.keeps kbd) (Rc.keeps hkd) hpk (Fb.keeps kbd).ns fL ?_
    intro he tke Re nse hke
    have hke : ∀ b o, b ≠ L → b ≠ S.ia p → hd.get? b = some o → he.get? b = some o := hke
    refine wpAny_execs_nil ?_
    have fia : S.fp (S.ia p) := .inr (.inr (.inr (.inr ⟨p, hpk, .inl rfl⟩)))
    have kx : Kx (Or2 (OwnA (callEnvC fdReady L 99)) S.fp) h he := (kxb.mono fun b => .inl).trans' fun b o hb' e => hke b o (fun q => hb' (.inl (q ▸ own_locals))) (fun q => hb' (.inr (q ▸ fia))) (kbd _ _ e)
    have Fe : Fra (callEnvC fdReady L 99) he mb cm := fra_of_ns rfl nse
    refine q .next (mb, fup np p (-1)) he tke (.inl rfl) ⟨Fe, Re, msb, mrb, mib, ?_⟩ kx (fun _ => id) (fun _ => .inl) (Fe.live.or Re.live) ((Z'.step' (kx.mono hMF)).mono fun b hb' => hb'.elim id (hMF b))
    (refine rwR List.take_succ ?_; refine rwR ep ?_; refine rwR eN ?_)
    simp
  · intro z5_ h tk' z6_ Z' lv' hK hFd
    obtain ⟨m', np⟩ := z5_
    try clear z5_
    refine el0_6 z6_ fun F' R' ms' mr' mi' eN => ?_
    try clear z6_
    have F' : Fra (callEnvC fdReady L 99) h m' cm := F'
    have ms' : m' "self" = some (.ref S.a) := ms'
    have mr' : m' "result" = some (.ref tp) := mr'
    have eN : np = (l.take (List.toArray rvs).size).foldl (fun np j => fup np j (-1)) S.np := eN
    (replace eN := lenR ▸ eN; replace eN := (List.take_of_length_le (Nat.le_refl _)) ▸ eN)
    have R' : SorAt prog w h { S with np := np } := R'
    have Z' : Fz (Or2 (OwnA (callEnvC fdReady L 99)) S.fp) (fun h => Sta w h ∧ IsTup h tp (List.toArray rvs)) h := Z'.mono fun b => .inl
    have hK : Kx (Or2 (OwnA (callEnvC fdReady L 99)) S.fp) h₇ h := hK
    generalize hS1 : ({ S with np := np } : Sor) = S1 at R'
    have fp1 : S1.fp = S.fp := by (refine rwL hS1 ?_); rfl
    have hr1 : S1.rdy = some (r, l) := by (refine rwL hS1 ?_); exact hr
    have ms1 : m' "self" = some (.ref S1.a) := by (refine rwL hS1 ?_); exact ms'
    have hrv1 : S1.rv = .ref r := by unfold Sor.rv; (refine rwR hr1 ?_; with_reducible rfl)
    refine wpAny_execs_cons (wpAny_Expr_any (wpAny_Call_method0_late rfl rfl ?_))
    refine (g_attr (prog := prog) (w := w) (h := h) (g_local rfl rfl F'.ns ms1) fun h' hk => f_rdy (Z'.now.1.X.keeps hk) (R'.keeps hk)).use (Kp.refl _) fun v ha tka hka hv => ?_
    (replace hv := hrv1 ▸ hv)
    subst hv
    have Ra := R'.keeps hka
    refine el0_2 (Ra.rl r l hr1) fun la _ => ?_
    obtain ⟨vs, q7_, hvi⟩ := la
    try clear la
    refine el1_1 q7_ fun kv ev => ?_
    try clear q7_
    have tyL : ({ s with heap := ha, toks := tka } : Shared).TypeIs (.ref r) "list" := ⟨_, ev, rfl⟩
    refine ⟨"list", "list.clear", PySem.F.plainAttrs_list, PySem.F.slot_list_clear, PySem.F.type_list_clear, tyL, (fun a e => by cases e; exact ⟨_, ev, rfl⟩), ?_⟩
    refine PySem.P.clear_list (items := List.toArray vs) (n := kv) ev ?_ (by (refine rwR List.size_toArray ?_; refine rwR (IntsAre.len hvi) ?_; refine rwR (toI_len _) ?_; refine rwR sizeLine_eq ?_); (exact Nat.le_trans (by assumption) (by decide)))
    generalize hHb : ha.update r (Obj.mapSeq fun _ => #[]) = hb
    have sbb : Heap.SameBut r ha hb := hHb ▸ Heap.SameBut.update ..
    have erb : ∃ k, hb.get? r = some ({ cls := .type "list", data := .seq #[] k } : Obj) := by
      (refine rwL hHb ?_)
      exact ⟨_, Heap.get?_update_self _ ev rfl⟩
    have lib : LI hb r (toI []) := by obtain ⟨k, e⟩ := erb; exact ⟨[], ⟨k, e⟩, .nil⟩
    have Rb := Ra.set_rl hr1 lib fun b o _ hne e => sbb.extBut b o hne e
    have frl : S.fp r := .inr (.inr (.inr (.inl ⟨l, hr⟩)))
    have kxb : Kx (Or2 (OwnA (callEnvC fdReady L 99)) S.fp) h hb := fun b o hb' e => sbb.extBut b o (fun q => hb' (.inr (q ▸ frl))) (hka _ _ e)
    have Zb := Z'.step' kxb
    have Fb : Fra (callEnvC fdReady L 99) hb m' cm := (F'.keeps hka).frame fun b o hb' e => sbb.extBut b o (fun q => fL r frl (q ▸ oA b hb')) e
    generalize hS2 : ({ S1 with rdy := some (r, []) } : Sor) = S2 at Rb
    have fp2 : ∀ b, S2.fp b → S.fp b := fun b hb' => by
      (refine rwL fp1 ?_)
      (replace hb' := Eq.symm hS2 ▸ hb')
      rcases hb' with q | q | q | ⟨l', q⟩ | q
      · exact .inl q
      · exact .inr (.inl q)
      · exact .inr (.inr (.inl q))
      · cases q; exact .inr (.inr (.inr (.inl ⟨l, hr1⟩)))
      · exact .inr (.inr (.inr (.inr q)))
    have ms2 : m' "self" = some (.ref S2.a) := by (refine rwL hS2 ?_); exact ms1
    refine wpAny_execs_cons (wpAny_AugAssign_AttributeAny ?_)
    refine (g_local (prog := prog) (w := w) (h := hb) rfl rfl Fb.ns ms2).useV (Kp.refl _) fun hc tkc hkc => ?_
    refine (f_pas (prog := prog) (w := w) (h := hc) (Zb.now.1.X.keeps hkc) (Rb.keeps hkc)).useI (Kp.refl _) fun to hd tkd hkd => ?_
    have kbd : Kp hb hd := hkc.trans hkd
    refine (gi_lenT (prog := prog) (w := w) (h := hd) (n_len (Zb.now.1.keeps kbd) rfl rfl rfl rfl) (g_local rfl rfl (Fb.keeps kbd).ns mr') (Zb.now.2.keeps kbd) (by (refine rwR lenR ?_); (exact Nat.lt_of_le_of_lt (by assumption) (by decide)))).useI (Kp.refl _) fun tl he tke hke => ?_
    have kbe : Kp hb he := kbd.trans hke
    refine P.iadd_int ?_
    refine sor_set_field (S := S2) (s := { s with heap := he, toks := tke + 1 }) (L := L) (rdy' := S2.rdy) (pas' := S2.pas + (List.toArray rvs).size) (fin' := S2.fin) (Zb.now.1.X.keeps kbe) (Rb.keeps kbe) (Fb.keeps kbe).ns (fun b hb' => fL b (fp2 b hb')) (tk_pas w) ents_pas ?_ ?_
    · intro r' l' e
      refine el0_2 ((Rb.keeps kbe).rl r' l' e) fun q1 q2 => ?_
      refine ⟨q1, fL r' (fp2 r' (.inr (.inr (.inr (.inl ⟨l', e⟩))))), q2⟩
    · intro hg tkg Rg nsg hkg
      have hkg : ∀ b o, b ≠ L → b ≠ S2.d → he.get? b = some o → hg.get? b = some o := hkg
      have Fg : Fra (callEnvC fdReady L 99) hg m' cm := fra_of_ns rfl nsg
      have fd2 : S.fp S2.d := fp2 _ (.inr (.inl rfl))
      have kxg : Kx (Or2 (OwnA (callEnvC fdReady L 99)) S.fp) hb hg := fun b o hb' e => hkg b o (fun q => hb' (.inl (q ▸ own_locals))) (fun q => hb' (.inr (q ▸ fd2))) (kbe _ _ e)
      have Zg := Zb.step' kxg
      refine wpAny_execs_cons (wpAny_Return_some ?_)
      refine (g_local (prog := prog) (w := w) (h := hg) rfl rfl Fg.ns mr').useV (Kp.refl _) fun hi tki hki => ?_
      have eS : ({ S2 with rdy := S2.rdy, pas := S2.pas + ((List.toArray rvs).size : Nat), fin := S2.fin } : Sor) = { S with np := l.foldl (fun np j => fup np j (-1)) S.np, rdy := some (r, []), pas := S.pas + l.length } := by
        (refine rwL hS2 ?_; refine rwL hS1 ?_; refine rwR lenR ?_; refine rwR eN ?_; with_reducible rfl)
      (replace Rg := eS ▸ Rg)
      refine k hi tki tp rvs (Rg.keeps hki) ?_ (dead_kp k3 htpn) (Zg.now.2.keeps hki) hri
      intro b o hb' e
      have nL := oL b o e
      have nM : ¬ Or2 (OwnA (callEnvC fdReady L 99)) S.fp b := by
        rintro (q | q)
        · exact nL (oA b q)
        · exact hb' q
      exact hki _ _ (kxg b o nM (kxb b o nM (hK b o nM (k57 b o (fun q => nL (oA b q)) (k45 b o (fun q => nL (oA b q)) (k3 _ _ e))))))
end
end Mine
end
section
open PySem PySem.Calls PySem.W PyProof.Rows
set_option maxRecDepth 100000
set_option genInjectivity false
set_option genSizeOf false
set_option genSizeOfSpec false
namespace Mine
theorem bool_new_list (l : Addr) (items : Array Value) (hfit : (items.size : Int) < 2 ^ 63) :
    Meets (Builtin.«bool.__new__» ⟨[.type "bool", .ref l], []⟩) (fun _ R s => s.heap.IsList l items ∧ R (.ok (.ret (.bool (!items.isEmpty)))) { s with toks := s.toks + 1 + 1 }) :=
  Meets.of_wp fun prog w A R s hs => by
    obtain ⟨hp, g, d, tk, os⟩ := s
    try clear s
    refine el0_2 hs fun hl t1_ => ?_
    try clear hs
    revert t1_
    intro hs
    have f1 := PySem.F.conv_sub_bool
    repeat (any_goals (first | assumption | (with_reducible refine wpAny_truthy_list hl hfit ?_) | wp_step))
    all_goals first | exact ⟨_, rfl, hs⟩ | exact hs | skip
section
variable {prog : Program} {w : World} {A : Around} {E : Value → Shared → Prop} {s : Shared}
theorem call_bool_list {l : Addr} {items : Array Value} {Q : Value → Shared → Prop} (hl : s.heap.IsList l items) (hfit : (items.size : Int) < 2 ^ 63) (h : Q (.bool (!items.isEmpty)) { s with toks := s.toks + 1 + 1 }) :
    wpAny (model prog w) A (call (.type "bool") [.ref l]) Q E s :=
  call_bool_1 (bool_new_list l items hfit) ⟨hl, rfl, h⟩
theorem call_active {h : Heap} {S : Sor} {r : Addr} {l : List Nat} (hA : Ok 20 A) (S₀ : Sta w h) (R : SorAt prog w h S) (hr : S.rdy = some (r, l)) (hz : l.length ≤ 1000) :
    GV prog w A h (call (.ref 106) [.ref S.a]) (.bool (decide (S.fin < S.pas) || !l.isEmpty)) := fun s E hs => by
  have S₀ : Sta w s.heap := S₀.keeps hs
  have R := R.keeps hs
  refine el2_1 (fn_active w) fun d sl hf => ?_
  refine call_rule (n := 19) (body := bodyOf (sorS 5)) (binds := [("self", .ref S.a)]) (RB := fun _ => True) hA (S₀.X _ _ hf) rfl S₀.lim (codeRec_of S₀.X (cd_active w)) rfl rfl (fun s' E' hs' => wpAny_of_eq rfl ⟨⟨rfl, trivial⟩, keeps_refl s'⟩) ?_ ?_
  · intro k y hy
    (refine rwR (List.mem_singleton.mp hy) ?_); exact .inl rfl
  intro L h₀ h₁ tk E' hL hL0 hk₀ _ hk₁ F hO hOk
  have ms : bindL (callEnvC fdActive L 106).kindOf [("self", Value.ref S.a)] (fun _ => none) "self" = some (.ref S.a) := rfl
  generalize bindL (callEnvC fdActive L 106).kindOf [("self", Value.ref S.a)] (fun _ => none) = m at F ms
  generalize bindC (callEnvC fdActive L 106).kindOf [("self", Value.ref S.a)] (fun _ => none) = cm at F
  have kA : Kp s.heap h₁ := hk₀.trans hk₁
  have R₁ := R.keeps kA
  have S₁ := S₀.keeps kA
  have hrv : S.rv = .ref r := by unfold Sor.rv; (refine rwR hr ?_; with_reducible rfl)
  show wpAny _ _ (execs [(bodyOf (sorS 5)).getD 0 ps, (bodyOf (sorS 5)).getD 1 ps] (callEnvC fdActive L 106)) _ _ _
  refine wpAny_execs_cons (wpAny_If (wpAny_isTrue_Compare1 ?_))
  refine (g_attr (prog := prog) (w := w) (h := h₁) (g_local rfl rfl F.ns ms) fun h' hk => f_rdy (S₁.X.keeps hk) (R₁.keeps hk)).use (Kp.refl _) fun v h₂ tk₂ hk₂ hv => ?_
  (replace hv := hrv ▸ hv)
  subst hv
  refine (g_none (prog := prog) (w := w) (h := h₂)).useV (Kp.refl _) fun h₃ tk₃ hk₃ => ?_
  refine PySem.is_none (wpAny_truthy_bool ?_)
  (refine rwR (if_neg (by simp)) ?_)
  refine wpAny_execs_nil ?_
  have k3 : Kp h₁ h₃ := hk₂.trans hk₃
  have F₃ := F.keeps k3
  have R₃ := R₁.keeps k3
  have S₃ := S₁.keeps k3
  refine wpAny_execs_cons (wpAny_Return_some (BoolOp_or ?_))
  refine (gv_lt (prog := prog) (w := w) (h := h₃) (g_attr (g_local rfl rfl F₃.ns ms) fun h' hk => f_fin (S₃.X.keeps hk) (R₃.keeps hk)) (g_attr (g_local rfl rfl F₃.ns ms) fun h' hk => f_pas (S₃.X.keeps hk) (R₃.keeps hk))).useV (Kp.refl _) fun h₄ tk₄ hk₄ => ?_
  refine wpAny_truthy_bool ?_
  by_cases hlt : S.fin < S.pas
  · (refine rwR (decide_eq_true hlt) ?_; refine rwR (if_pos rfl) ?_)
    exact ⟨by simp, h₄, tk₄, rfl, kA.trans (k3.trans hk₄)⟩
  · (refine rwR (decide_eq_false hlt) ?_; refine rwR (if_neg (by decide)) ?_)
    refine BoolOp_one ?_
    have F₄ := F₃.keeps hk₄
    have R₄ := R₃.keeps hk₄
    have S₄ := S₃.keeps hk₄
    refine (g_call1t (prog := prog) (w := w) (h := h₄) (T := "bool") (R := fun v _ => v = .bool (!l.isEmpty)) (g_builtin S₄ (by kernel_rfl) (by decide +kernel) (by decide) rfl rfl rfl rfl) (g_attr (g_local rfl rfl F₄.ns ms) fun h' hk => f_rdy (S₄.X.keeps hk) (R₄.keeps hk)) ?_).use (Kp.refl _) fun v h₅ tk₅ hk₅ hv => ?_
    · intro v h' hk hv
      (replace hv := hrv ▸ hv)
      subst hv
      refine el0_2 ((R₄.keeps hk).rl r l hr) fun q2_ _ => ?_
      obtain ⟨vs, hvs, hi⟩ := q2_
      try clear q2_
      have hlen : vs.length = l.length := by (refine rwR (IntsAre.len hi) ?_; refine rwR (toI_len _) ?_; with_reducible rfl)
      intro s' E' hs'
      refine call_bool_list ((hvs.at fun o e => hs' _ o e).isList) (by (refine rwR List.size_toArray ?_); lia) ⟨?_, toks_keeps s' _⟩
      congr 2
      have : vs.toArray.isEmpty = vs.isEmpty := by simp
      (refine rwR this ?_)
      cases vs <;> cases l <;> simp_all
    · subst hv
      exact ⟨by simp, h₅, tk₅, rfl, kA.trans (k3.trans (hk₄.trans hk₅))⟩
end
end Mine
end
section
open PySem PySem.Calls PySem.W PyProof.Rows
set_option maxRecDepth 100000
set_option genInjectivity false
set_option genSizeOf false
set_option genSizeOfSpec false
namespace Mine
section
variable {prog : Program} {w : World} {A : Around} {env : Env} {s : Shared} {E : Value → Shared → Prop}
end
end Mine
end
section
open PySem PySem.Calls PySem.W PyProof.Rows
set_option maxRecDepth 100000
set_option genInjectivity false
set_option genSizeOf false
set_option genSizeOfSpec false
namespace Mine
noncomputable def decS (st : (Nat → Int) × List Nat) (b : Nat) : (Nat → Int) × List Nat := (fup st.1 b (st.1 b - 1), if st.1 b - 1 = 0 then st.2 ++ [b] else st.2)
noncomputable def doneS (su : Nat → List Nat) (st : (Nat → Int) × List Nat) (j : Nat) : (Nat → Int) × List Nat := (su j).foldl decS (fup st.1 j (-2), st.2)
theorem decS_len : ∀ (bs : List Nat) (st : (Nat → Int) × List Nat), (bs.foldl decS st).2.length ≤ st.2.length + bs.length
  | [], st => by simp
  | b :: bs, st => by
    have h1 := decS_len bs (decS st b)
    have h2 : (decS st b).2.length ≤ st.2.length + 1 := by unfold decS; dsimp only; split <;> simp
    (refine rwR List.foldl_cons ?_; refine rwR List.length_cons ?_); lia
noncomputable abbrev withS (S : Sor) (np : Nat → Int) (r : Addr) (l : List Nat) : Sor := { S with np := np, rdy := some (r, l) }
theorem fp_with {S : Sor} {r : Addr} {l l' : List Nat} {np : Nat → Int} (hr : S.rdy = some (r, l)) (b : Addr) : (withS S np r l').fp b ↔ S.fp b := by
  constructor
  · rintro (q | q | q | ⟨x, q⟩ | q)
    · exact .inl q
    · exact .inr (.inl q)
    · exact .inr (.inr (.inl q))
    · cases q; exact .inr (.inr (.inr (.inl ⟨l, hr⟩)))
    · exact .inr (.inr (.inr (.inr q)))
  · rintro (q | q | q | ⟨x, q⟩ | q)
    · exact .inl q
    · exact .inr (.inl q)
    · exact .inr (.inr (.inl q))
    · (rw [hr] at q; cases q); exact .inr (.inr (.inr (.inl ⟨l', rfl⟩)))
    · exact .inr (.inr (.inr (.inr q)))
noncomputable abbrev eD (L : Addr) : Env := callEnvC fdDone L 120
noncomputable def dnLoop : List Stmt := forBody ((bodyOf (sorS 7)).getD 2 ps)
section
variable {prog : Program} {w : World} {A : Around} {E : Value → Shared → Prop} {s : Shared}
theorem done_inner {S : Sor} {L r : Addr} {l : List Nat} {m cm : Str → Option Value} {j : Nat} {Fr : Addr → Prop} {Q : Flow → Shared → Prop} (hA : Ok 5 A) (F : Fra (eD L) s.heap m cm) (R : SorAt prog w s.heap S) (hr : S.rdy = some (r, l)) (hj : j ∈ S.keys)
    (mi : m "nodeinfo" = some (.ref (S.ia j))) (mn : m "n2i" = some (.ref S.nd)) (ms : m "self" = some (.ref S.a)) (fL : ∀ b, S.fp b → b ≠ L) (hFr : ∀ b, Or2 (OwnA (eD L)) S.fp b → Fr b) (lv : Live Fr s.heap) (Z : Fz Fr (Sta w) s.heap)
    (hsu : ∀ b ∈ S.su j, b ∈ S.keys) (hz : l.length + (S.su j).length ≤ 10000)
    (k : ∀ h' tk m', Fra (eD L) h' m' cm → (∀ x : Str, x ≠ "successor" → x ≠ "successor_info" → m' x = m x) → SorAt prog w h' (withS S ((S.su j).foldl decS (S.np, l)).1 r ((S.su j).foldl decS (S.np, l)).2) → Kx (Or2 (OwnA (eD L)) S.fp) s.heap h' → Q .next { s with heap := h', toks := tk }) :
    wpAny (model prog w) A (exec (dnLoop.getD 4 ps) (eD L)) Q E s := by
  have oA : ∀ b, OwnA (eD L) b → b = L := fun b hb => own_one rfl hb
  obtain ⟨vs, hvs, hi⟩ := R.succ j hj
  have hlen : vs.length = (S.su j).length := by (refine rwR (IntsAre.len hi) ?_; refine rwR (toI_len _) ?_; with_reducible rfl)
  have S₀ := Z.now
  have fsl : S.fp (S.isl j) := .inr (.inr (.inr (.inr ⟨j, hj, .inr (.inr rfl)⟩)))
  refine el0_2 (R.rl r l hr) fun hrl hrne => ?_
  have frl : S.fp r := .inr (.inr (.inr (.inl ⟨l, hr⟩)))
  have fia : ∀ i ∈ S.keys, S.fp (S.ia i) := fun i hi => .inr (.inr (.inr (.inr ⟨i, hi, .inl rfl⟩)))
  refine el2_1 ((R.succ j hj).live) fun ksl xsl esl => ?_
  have nia : ∀ i ∈ S.keys, S.ia i ≠ S.isl j := fun i hi => by obtain ⟨t, u, e⟩ := R.info i hi; exact ne_cls e esl (by simp)
  have selfe : withS S S.np r l = S := by unfold withS; (refine rwL hr ?_; with_reducible rfl)
  refine for_fz2 (σ := (Str → Option Value) × ((Nat → Int) × List Nat)) (n := (List.toArray vs).size) (P := fun i v => (List.toArray vs)[i]? = some v) (src := [S.isl j]) (fun _ => Or2 (OwnA (eD L)) (fun b => b = r ∨ ∃ i ∈ S.keys, b = S.ia i)) (fun _ => Or2 (OwnA (eD L)) S.fp)
    (fun i y h => Fra (eD L) h y.1 cm ∧ SorAt prog w h (withS S y.2.1 r y.2.2) ∧ (∀ x : Str, x ≠ "successor" → x ≠ "successor_info" → y.1 x = m x) ∧ y.2 = ((S.su j).take i).foldl decS (S.np, l))
    (fun i y h => Sta w h) (fun b => Fr b ∧ b ≠ S.isl j) (m, (S.np, l))
    (g_attr (g_local rfl rfl F.ns mi) fun h' hk => f_su (S₀.X.keeps hk) (R.keeps hk) hj) (fun xv h1 hk hx => by subst hx; exact itr_list hA.hd (hvs.at fun o e => hk _ o e).isList) (fun _ => rfl) ?_ (lv.mono fun b hb => hb.1) ?_ (F.live.or R.live) ?_ ⟨F, by (refine rwR selfe ?_); exact R, fun _ _ _ => rfl, by (refine rwR List.take_zero ?_); rfl⟩ (Z.mono fun b hb => hb.1) ?_ ?_
  · intro b hb
    (refine rwR (List.mem_singleton.mp hb) ?_)
    exact fun q => q.2 rfl
  · rintro b (hb | rfl | ⟨i, hi, rfl⟩)
    · exact ⟨hFr b (.inl hb), fun q => fL _ fsl (q ▸ oA b hb)⟩
    · exact ⟨hFr _ (.inr frl), hrne j hj⟩
    · exact ⟨hFr _ (.inr (fia i hi)), nia i hi⟩
  · intro i y h h' z1_ hk
    refine el0_3 z1_ fun q1 q2 q3 => ?_
    try clear z1_
    exact ⟨q1.frame fun b o hb e => hk b o (.inl hb) e, q2.frame fun b o hb e => hk b o (.inr ((fp_with hr b).mp hb)) e, q3⟩
  · intro i z2_ Fr' v h tk' E₁ Q₁ hi' hP z3_ Z' lv' hMF hFF hK hFd q
    obtain ⟨m', np, l'⟩ := z2_
    try clear z2_
    refine el0_4 z3_ fun F' R' hm' eN => ?_
    try clear z3_
    have F' : Fra (eD L) h m' cm := F'
    have R' : SorAt prog w h (withS S np r l') := R'
    have hm' : ∀ x : Str, x ≠ "successor" → x ≠ "successor_info" → m' x = m x := hm'
    have eN : (np, l') = ((S.su j).take i).foldl decS (S.np, l) := eN
    have Z' : Fz Fr' (Sta w) h := Z'
    have hMF : ∀ b, Or2 (OwnA (eD L)) (fun b => b = r ∨ ∃ i ∈ S.keys, b = S.ia i) b → Fr' b := hMF
    obtain ⟨b, tb, eb⟩ := jobV hi hP
    have hbk : b ∈ S.keys := hsu b (List.mem_of_getElem? eb)
    have hil : i < (S.su j).length := by (replace hi' := List.size_toArray ▸ hi'; replace hi' := hlen ▸ hi'); exact hi'
    have l'le : l'.length ≤ 10000 := by
      have h1 := decS_len ((S.su j).take i) (S.np, l)
      (replace h1 := Eq.symm eN ▸ h1; replace h1 := List.length_take ▸ h1)
      dsimp only at h1
      lia
    have fL' : ∀ b, (withS S np r l').fp b → b ≠ L := fun b hb => fL b ((fp_with hr b).mp hb)
    refine wpAny_assign_Name (fra_local F' rfl rfl fun hb tkb Fb sbb => ?_)
    have kxb : Kx (OwnA (eD L)) h hb := Kx.same sbb own_locals
    have Rb : SorAt prog w hb (withS S np r l') := R'.frame fun b o hb' e => kxb b o (fun q => fL' b hb' (oA b q)) e
    have Zb := Z'.step' (kxb.mono fun b q => hMF b (.inl q))
    have mnb : upd m' "successor" (.int b tb) "n2i" = some (.ref S.nd) := (upd_ne (by decide)).trans ((hm' _ (by decide) (by decide)).trans mn)
    have msb : upd m' "successor" (.int b tb) "self" = some (.ref S.a) := (upd_ne (by decide)).trans ((hm' _ (by decide) (by decide)).trans ms)
    have mbb : upd m' "successor" (.int b tb) "successor" = some (.int b tb) := upd_eq
    have hmb : ∀ x : Str, x ≠ "successor" → x ≠ "successor_info" → upd m' "successor" (.int b tb) x = m x := fun x h1 h2 => (upd_ne h1).trans (hm' x h1 h2)
    generalize upd m' "successor" (.int b tb) = mb at Fb mnb msb mbb hmb
    show wpAny _ _ (execs [(forBody (dnLoop.getD 4 ps)).getD 0 ps, (forBody (dnLoop.getD 4 ps)).getD 1 ps, (forBody (dnLoop.getD 4 ps)).getD 2 ps] (eD L)) _ _ _
    refine wpAny_execs_cons (asg_local (h := hb) Fb rfl rfl (g_nd (j := b) Rb hbk (g_local rfl rfl Fb.ns mnb) (gv_int (g_local rfl rfl Fb.ns mbb)) (fun _ _ => rfl)) (Kp.refl _) rfl ?_)
    rintro v hc₀ hc tkc rfl hkc₀ sbc Fc
    have kxc : Kx (OwnA (eD L)) h hc := kxb.trans' ((Kx.of hkc₀).trans' (Kx.same sbc own_locals))
    have Rc : SorAt prog w hc (withS S np r l') := R'.frame fun b o hb' e => kxc b o (fun q => fL' b hb' (oA b q)) e
    have Zc := Z'.step' (kxc.mono fun b q => hMF b (.inl q))
    have mic : upd mb "successor_info" (.ref ((withS S np r l').ia b)) "successor_info" = some (.ref (S.ia b)) := upd_eq
    have msc : upd mb "successor_info" (.ref ((withS S np r l').ia b)) "self" = some (.ref S.a) := (upd_ne (by decide)).trans msb
    have mbc : upd mb "successor_info" (.ref ((withS S np r l').ia b)) "successor" = some (.int b tb) := (upd_ne (by decide)).trans mbb
    have hmc : ∀ x : Str, x ≠ "successor" → x ≠ "successor_info" → upd mb "successor_info" (.ref ((withS S np r l').ia b)) x = m x := fun x h1 h2 => (upd_ne h2).trans (hmb x h1 h2)
    generalize upd mb "successor_info" (.ref ((withS S np r l').ia b)) = mc at Fc mic msc mbc hmc
    refine wpAny_execs_cons (wpAny_AugAssign_AttributeAny ?_)
    refine (g_local (prog := prog) (w := w) (h := hc) rfl rfl Fc.ns mic).useV (Kp.refl _) fun hd tkd hkd => ?_
    refine (f_np (prog := prog) (w := w) (h := hd) (S := withS S np r l') (Zc.now.X.keeps hkd) (Rc.keeps hkd) hbk).useI (Kp.refl _) fun to he tke hke => ?_
    refine (g_int (prog := prog) (w := w) (h := he)).useI (Kp.refl _) fun t1 hf tkf hkf => ?_
    have kcf : Kp hc hf := hkd.trans (hke.trans hkf)
    refine AutoIntOps.isub_0 ?_
    refine sor_set_np (S := withS S np r l') (s := { s with heap := hf, toks := tkf + 1 }) (L := L) (Zc.now.X.keeps kcf) (Rc.keeps kcf) hbk (Fc.keeps kcf).ns fL' ?_
    intro hg tkg Rg nsg hkg
    have hkg : ∀ x o, x ≠ L → x ≠ S.ia b → hf.get? x = some o → hg.get? x = some o := hkg
    have Fg : Fra (eD L) hg mc cm := fra_of_ns rfl nsg
    have kxg : Kx (Or2 (OwnA (eD L)) (fun b => b = r ∨ ∃ i ∈ S.keys, b = S.ia i)) h hg := (kxc.mono fun b => .inl).trans' fun x o hx e => hkg x o (fun q => hx (.inl (q ▸ own_locals))) (fun q => hx (.inr (.inr ⟨b, hbk, q⟩))) (kcf _ _ e)
    have Zg := Z'.step' (kxg.mono hMF)
    have Rg : SorAt prog w hg (withS S (fup np b (np b - 1)) r l') := Rg
    refine wpAny_execs_cons (wpAny_If ?_)
    refine (gb_eq (prog := prog) (w := w) (h := hg) (g_attr (g_local rfl rfl Fg.ns mic) fun h' hk => f_np (S := withS S (fup np b (np b - 1)) r l') (Zg.now.X.keeps hk) (Rg.keeps hk) hbk) g_int).use (Kp.refl _) fun c hh tkh hkh hc' => ?_
    subst hc'
    have enp : (withS S (fup np b (np b - 1)) r l').np b = np b - 1 := fup_eq
    (refine rwR enp ?_)
    have Rh := Rg.keeps hkh
    have Fh := Fg.keeps hkh
    have kxh : Kx (Or2 (OwnA (eD L)) (fun b => b = r ∨ ∃ i ∈ S.keys, b = S.ia i)) h hh := kxg.trans' (Kx.of hkh)
    have et : ((S.su j).take (i + 1)).foldl decS (S.np, l) = decS (np, l') b := by (refine rwR List.take_succ ?_; refine rwR eb ?_; refine rwR eN ?_); simp
    by_cases h0 : np b - 1 = 0
    · (refine rwR (if_pos (by simp [h0])) ?_)
      refine wpAny_execs_cons (wpAny_Expr_any (wpAny_Call_append rfl rfl rfl rfl ?_))
      have Zh := Z'.step' (kxh.mono hMF)
      refine (g_attr (prog := prog) (w := w) (h := hh) (g_local rfl rfl Fh.ns msc) fun h' hk => f_rdy (S := withS S (fup np b (np b - 1)) r l') (Zh.now.X.keeps hk) (Rh.keeps hk)).useV (Kp.refl _) fun hi₁ tki hki => ?_
      have Ri := Rh.keeps hki
      have lii := (Ri.rl r l' rfl).1
      refine el2_1 lii.live fun kf xsf ef => ?_
      refine ⟨r, xsf, rfl, ⟨_, kf, ef, rfl, rfl, rfl⟩, ?_⟩
      refine (g_local (prog := prog) (w := w) (h := hi₁) rfl rfl (Fh.keeps hki).ns mbc).useV (Kp.refl _) fun hj₁ tkj hkj => ?_
      have Rj := Ri.keeps hkj
      refine list_append_li (s := { s with heap := hj₁, toks := tkj }) ((Rj.rl r l' rfl).1) (by (refine rwR (toI_len _) ?_); (exact Nat.le_trans (by assumption) (by decide))) fun hk₁ hlk sbk => ?_
      (replace hlk := (toI_append _ _) ▸ hlk)
      have Rk := Rj.set_rl (r := r) (l := l') rfl hlk fun x o hx hne e => sbk.extBut x o hne e
      have Rk : SorAt prog w hk₁ (withS S (fup np b (np b - 1)) r (l' ++ [b])) := Rk
      refine wpAny_execs_nil ?_
      refine wpAny_execs_nil ?_
      have kxk : Kx (Or2 (OwnA (eD L)) (fun b => b = r ∨ ∃ i ∈ S.keys, b = S.ia i)) h hk₁ := kxh.trans' fun x o hx e => sbk.extBut x o (fun q => hx (.inr (.inl q))) (hkj _ _ (hki _ _ e))
      have Fk : Fra (eD L) hk₁ mc cm := ((Fh.keeps hki).keeps hkj).frame fun x o hx e => sbk.extBut x o (fun q => fL r frl (q ▸ oA x hx)) e
      have lvM : Live (Or2 (OwnA (eD L)) (fun b => b = r ∨ ∃ i ∈ S.keys, b = S.ia i)) hk₁ := Fk.live.or fun x hx => Rk.live x ((fp_with hr x).mpr (by rcases hx with rfl | ⟨i', hi', rfl⟩; exact frl; exact fia i' hi'))
      refine q .next (mc, (fup np b (np b - 1), l' ++ [b])) hk₁ tkj (.inl rfl) ⟨Fk, Rk, hmc, ?_⟩ kxk (fun _ => id) (fun _ => .inl) lvM (fun _ => .inl) ((Z'.step' (kxk.mono hMF)).mono fun x hx => hx.elim id (hMF x))
      (refine rwR et ?_); unfold decS; dsimp only; (refine rwR (if_pos h0) ?_; with_reducible rfl)
    · (refine rwR (if_neg (by simp [h0])) ?_)
      refine wpAny_execs_nil ?_
      refine wpAny_execs_nil ?_
      have lvM : Live (Or2 (OwnA (eD L)) (fun b => b = r ∨ ∃ i ∈ S.keys, b = S.ia i)) hh := Fh.live.or fun x hx => Rh.live x ((fp_with hr x).mpr (by rcases hx with rfl | ⟨i', hi', rfl⟩; exact frl; exact fia i' hi'))
      refine q .next (mc, (fup np b (np b - 1), l')) hh tkh (.inl rfl) ⟨Fh, Rh, hmc, ?_⟩ kxh (fun _ => id) (fun _ => .inl) lvM (fun _ => .inl) ((Z'.step' (kxh.mono hMF)).mono fun x hx => hx.elim id (hMF x))
      (refine rwR et ?_); unfold decS; dsimp only; (refine rwR (if_neg h0) ?_; with_reducible rfl)
  · intro z4_ h' tk' z5_ Z' lv' hK hFd
    obtain ⟨m', np, l'⟩ := z4_
    try clear z4_
    refine el0_4 z5_ fun F' R' hm' eN => ?_
    try clear z5_
    have eN : (np, l') = ((S.su j).take (List.toArray vs).size).foldl decS (S.np, l) := eN
    (replace eN := List.size_toArray ▸ eN; replace eN := hlen ▸ eN; replace eN := (List.take_of_length_le (Nat.le_refl _)) ▸ eN)
    refine k h' tk' m' F' hm' ?_ (Kx.mono hK ?_)
    · (refine rwL eN ?_); exact R'
    · rintro b (hb | rfl | ⟨i, hi, rfl⟩)
      · exact .inl hb
      · exact .inr frl
      · exact .inr (fia i hi)
end
end Mine
end
section
open PySem PySem.Calls PySem.W PyProof.Rows
set_option maxRecDepth 100000
set_option genInjectivity false
set_option genSizeOf false
set_option genSizeOfSpec false
namespace Mine
noncomputable abbrev withF (S : Sor) (np : Nat → Int) (r : Addr) (l : List Nat) (f : Int) : Sor := { S with np := np, rdy := some (r, l), fin := f }
section
variable {prog : Program} {w : World} {A : Around} {E : Value → Shared → Prop} {s : Shared}
theorem call_done_code {S : Sor} {r : Addr} {l js : List Nat} {vs : List Value} {Q : Value → Shared → Prop} (hA : Ok 20 A) (Z : Fz S.fp (Sta w) s.heap) (R : SorAt prog w s.heap S) (hr : S.rdy = some (r, l)) (hvs : IntsAre vs (toI js)) (hjs : ∀ j ∈ js, j ∈ S.keys) (hsu : ∀ j ∈ js, ∀ b ∈ S.su j, b ∈ S.keys)
    (hout : ∀ i j, js[i]? = some j → ((js.take i).foldl (doneS S.su) (S.np, l)).1 j = -1) (hz : ∀ i, ((js.take i).foldl (doneS S.su) (S.np, l)).2.length ≤ 5000) (hzs : ∀ j ∈ js, (S.su j).length ≤ 5000) (hzj : js.length ≤ 1000)
    (k : ∀ h' tk, SorAt prog w h' (withF S (js.foldl (doneS S.su) (S.np, l)).1 r (js.foldl (doneS S.su) (S.np, l)).2 (S.fin + js.length)) → Kx S.fp s.heap h' → Q .none { s with heap := h', toks := tk }) :
    codeAny (model prog w) A (.call (.ref 120) ⟨.ref S.a :: vs, []⟩) (QR Q E) s := by
  have S₀ : Sta w s.heap := Z.now
  have hvl : vs.length = js.length := by (refine rwR (IntsAre.len hvs) ?_; refine rwR (toI_len _) ?_; with_reducible rfl)
  refine el2_1 (fn_done w) fun d sl hf => ?_
  refine call_codeB (n := 19) (body := bodyOf (sorS 7)) (RB := fun b h₀ => ∃ tp, b = [(("self" : Str), Value.ref S.a), ("nodes", .ref tp)] ∧ IsTup h₀ tp (List.toArray vs) ∧ s.heap.get? tp = none) hA (S₀.X _ _ hf) rfl S₀.lim (codeRec_of S₀.X (cd_done w)) rfl rfl ?_ ?_ ?_
  · intro Q' E' hq
    (refine rwR (bind_done _ _) ?_)
    refine wpAny_bind (wpAny_newTuple ?_ (by (refine rwR sizeLine_eq ?_); (exact Nat.le_trans (Nat.le_of_eq (by assumption)) (Nat.le_trans (by assumption) (by decide)))))
    exact wpAny_pure (hq _ _ _ (Kp.push _ _) ⟨_, rfl, ⟨_, Heap.get?_push_size _ rfl, rfl, 0, rfl⟩, none_size _⟩)
  · intro binds h₀ z1_ k y hy
    refine el1_2 z1_ fun tp r2_ _ => ?_
    try clear z1_
    obtain rfl := r2_
    rcases List.mem_cons.mp hy with rfl | hy
    · exact .inl rfl
    · (refine rwR (List.mem_singleton.mp hy) ?_); exact .inl rfl
  intro binds L h₀ h₁ tk E' hL hL0 hk₀ z3_ hk₁ F hO hOk
  refine el1_3 z3_ fun tp r4_ htp htpn => ?_
  try clear z3_
  obtain rfl := r4_
  have ms : bindL (eD L).kindOf [("self", Value.ref S.a), ("nodes", .ref tp)] (fun _ => none) "self" = some (.ref S.a) := rfl
  have mp : bindL (eD L).kindOf [("self", Value.ref S.a), ("nodes", .ref tp)] (fun _ => none) "nodes" = some (.ref tp) := rfl
  generalize bindL (eD L).kindOf [("self", Value.ref S.a), ("nodes", .ref tp)] (fun _ => none) = m at F ms mp
  generalize bindC (eD L).kindOf [("self", Value.ref S.a), ("nodes", .ref tp)] (fun _ => none) = cm at F
  have kA : Kp s.heap h₁ := hk₀.trans hk₁
  have oL : ∀ b o, s.heap.get? b = some o → b ≠ L := fun b o e q => by (replace hL := Eq.symm q ▸ hL; replace hL := e ▸ hL); cases hL
  have fL : ∀ b, S.fp b → b ≠ L := fun b hb => by obtain ⟨o, e⟩ := R.live b hb; exact oL b o e
  have oA : ∀ b, OwnA (eD L) b → b = L := fun b hb => own_one rfl hb
  have tL : tp ≠ L := fun q => by obtain ⟨o, e, _⟩ := htp; (exact nosome2 q (hL0) e)
  have tS : ¬ S.fp tp := Live.not R.live htpn
  have R₁ := R.keeps kA
  have S₁ := S₀.keeps kA
  have hrv : S.rv = .ref r := by unfold Sor.rv; (refine rwR hr ?_; with_reducible rfl)
  show wpAny _ _ (execs [(bodyOf (sorS 7)).getD 0 ps, (bodyOf (sorS 7)).getD 1 ps, (bodyOf (sorS 7)).getD 2 ps] (eD L)) _ _ _
  refine wpAny_execs_cons (wpAny_If (wpAny_isTrue_Compare1 ?_))
  refine (g_attr (prog := prog) (w := w) (h := h₁) (g_local rfl rfl F.ns ms) fun h' hk => f_rdy (S₁.X.keeps hk) (R₁.keeps hk)).use (Kp.refl _) fun v h₂ tk₂ hk₂ hv => ?_
  (replace hv := hrv ▸ hv)
  subst hv
  refine (g_none (prog := prog) (w := w) (h := h₂)).useV (Kp.refl _) fun h₃ tk₃ hk₃ => ?_
  refine PySem.is_none (wpAny_truthy_bool ?_)
  (refine rwR (if_neg (by simp)) ?_)
  refine wpAny_execs_nil ?_
  have k3 : Kp s.heap h₃ := kA.trans (hk₂.trans hk₃)
  have F₃ := (F.keeps hk₂).keeps hk₃
  have R₃ := R.keeps k3
  have Z₃ : Fz (Or2 (OwnA (eD L)) S.fp) (fun h => Sta w h ∧ IsTup h tp (List.toArray vs)) h₃ := by
    refine Fz.and (Z.step (Kx.of k3) ?_) ?_
    · rintro b (hb | hb)
      · exact .inr (dead_kp hk₀ (hO b hb))
      · exact .inl hb
    · intro h' kx'
      refine el1_2 (((htp.keeps hk₁).keeps hk₂).keeps hk₃) fun o e q => ?_
      refine ⟨o, kx' _ _ ?_ e, q⟩
      rintro (hb | hb)
      · exact tL (oA _ hb)
      · exact tS hb
  refine wpAny_execs_cons (asg_local (h := h₃) F₃ rfl rfl (g_attr (g_local rfl rfl F₃.ns ms) fun h' hk => f_n2i (Z₃.now.1.X.keeps hk) (R₃.keeps hk)) (Kp.refl _) rfl ?_)
  rintro v h₆ h₇ tk₇ rfl hk₆ sb₇ F₇
  have k57 : Kx (OwnA (eD L)) h₃ h₇ := (Kx.of hk₆).trans' (Kx.same sb₇ own_locals)
  have R₇ : SorAt prog w h₇ S := R₃.frame fun b o hb e => k57 b o (fun q => fL b hb (oA b q)) e
  have Z₇ := Z₃.step' (k57.mono fun b => .inl)
  have ms₇ : upd m "n2i" (.ref S.nd) "self" = some (.ref S.a) := (upd_ne (by decide)).trans ms
  have mp₇ : upd m "n2i" (.ref S.nd) "nodes" = some (.ref tp) := (upd_ne (by decide)).trans mp
  have mi₇ : upd m "n2i" (.ref S.nd) "n2i" = some (.ref S.nd) := upd_eq
  generalize upd m "n2i" (.ref S.nd) = m₇ at F₇ ms₇ mp₇ mi₇
  refine el1_1 (gl_out w) fun tOut hOut => ?_
  refine el1_1 (gl_done w) fun tDone hDone => ?_
  have lenR : (List.toArray vs).size = js.length := by (refine rwR List.size_toArray ?_; refine rwR hvl ?_; with_reducible rfl)
  have fpW : ∀ {np : Nat → Int} {l' : List Nat} {f : Int} (b : Addr), (withF S np r l' f).fp b ↔ S.fp b := fun {np l' f} b => fp_with (np := np) (l' := l') hr b
  have self0 : withF S S.np r l (S.fin + ((0 : Nat) : Int)) = S := by
    have : S.fin + ((0 : Nat) : Int) = S.fin := by lia
    (refine rwR this ?_)
    unfold withF; (refine rwL hr ?_; with_reducible rfl)
  refine wpAny_execs_cons ?_
  refine for_fz (σ := (Str → Option Value) × ((Nat → Int) × List Nat)) (n := (List.toArray vs).size) (P := fun i v => (List.toArray vs)[i]? = some v) (src := [tp]) (fun y => Or2 (OwnA (eD L)) S.fp)
    (fun i y h => Fra (eD L) h y.1 cm ∧ SorAt prog w h (withF S y.2.1 r y.2.2 (S.fin + (i : Nat))) ∧ y.1 "self" = some (.ref S.a) ∧ y.1 "n2i" = some (.ref S.nd) ∧ y.2 = (js.take i).foldl (doneS S.su) (S.np, l))
    (fun i y h => Sta w h ∧ IsTup h tp (List.toArray vs)) (Or2 (OwnA (eD L)) S.fp) (m₇, (S.np, l))
    (g_local rfl rfl F₇.ns mp₇) (fun xv h1 hk hx => by subst hx; exact itr_tuple hOk.hd (Z₇.now.2.keeps hk)) (fun _ => rfl) ?_ (F₇.live.or R₇.live) (fun _ => id) ?_ ⟨F₇, by (refine rwR self0 ?_); exact R₇, ms₇, mi₇, by (refine rwR List.take_zero ?_); rfl⟩ Z₇ ?_ ?_
  · intro b hb
    (refine rwR (List.mem_singleton.mp hb) ?_)
    rintro (q | q)
    · exact tL (oA _ q)
    · exact tS q
  · intro i y h h' z5_ hk
    refine el0_3 z5_ fun q1 q2 q3 => ?_
    try clear z5_
    exact ⟨q1.frame fun b o hb e => hk b o (.inl hb) e, q2.frame fun b o hb e => hk b o (.inr ((fpW b).mp hb)) e, q3⟩
  · intro i z6_ Fr' v h tk' E₁ Q₁ hi hP z7_ Z' lv' hMF hFF hK hFd q
    obtain ⟨m', np, l'⟩ := z6_
    try clear z6_
    refine el0_5 z7_ fun F' R' ms' mi' eN => ?_
    try clear z7_
    have F' : Fra (eD L) h m' cm := F'
    have R' : SorAt prog w h (withF S np r l' (S.fin + (i : Nat))) := R'
    have ms' : m' "self" = some (.ref S.a) := ms'
    have mi' : m' "n2i" = some (.ref S.nd) := mi'
    have eN : (np, l') = (js.take i).foldl (doneS S.su) (S.np, l) := eN
    have Z' : Fz Fr' (fun h => Sta w h ∧ IsTup h tp (List.toArray vs)) h := Z'
    have hMF : ∀ b, Or2 (OwnA (eD L)) S.fp b → Fr' b := hMF
    obtain ⟨j, tj, ej⟩ := jobV hvs hP
    have hjm : j ∈ js := List.mem_of_getElem? ej
    have hjk : j ∈ S.keys := hjs j hjm
    have hnpj : np j = -1 := by have := hout i j ej; (replace this := Eq.symm eN ▸ this); exact this
    have hl5 : l'.length ≤ 5000 := by have := hz i; (replace this := Eq.symm eN ▸ this); exact this
    generalize hT : withF S np r l' (S.fin + (i : Nat)) = T at R'
    have Tfp : ∀ b, T.fp b ↔ S.fp b := fun b => by (refine rwL hT ?_); exact fpW b
    have fLT : ∀ b, T.fp b → b ≠ L := fun b hb => fL b ((Tfp b).mp hb)
    have Tk : T.keys = S.keys := by (refine rwL hT ?_; with_reducible rfl)
    have hjT : j ∈ T.keys := by (refine rwR Tk ?_); exact hjk
    have mi' : m' "n2i" = some (.ref T.nd) := by (refine rwL hT ?_); exact mi'
    have ms' : m' "self" = some (.ref T.a) := by (refine rwL hT ?_); exact ms'
    have Tnp : T.np j = -1 := by (refine rwL hT ?_); exact hnpj
    refine wpAny_assign_Name (fra_local F' rfl rfl fun hb tkb Fb sbb => ?_)
    have kxb : Kx (OwnA (eD L)) h hb := Kx.same sbb own_locals
    have Rb : SorAt prog w hb T := R'.frame fun b o hb' e => kxb b o (fun q => fLT b hb' (oA b q)) e
    have Zb := Z'.step' (kxb.mono fun b q => hMF b (.inl q))
    have msb : upd m' "node" (.int j tj) "self" = some (.ref T.a) := (upd_ne (by decide)).trans ms'
    have mib : upd m' "node" (.int j tj) "n2i" = some (.ref T.nd) := (upd_ne (by decide)).trans mi'
    have mpb : upd m' "node" (.int j tj) "node" = some (.int j tj) := upd_eq
    generalize upd m' "node" (.int j tj) = mb at Fb msb mib mpb
    show wpAny _ _ (execs [dnLoop.getD 0 ps, dnLoop.getD 1 ps, dnLoop.getD 2 ps, dnLoop.getD 3 ps, dnLoop.getD 4 ps, dnLoop.getD 5 ps] (eD L)) _ _ _
    refine wpAny_execs_cons (wpAny_If (wpAny_isTrue_Compare1 (wpAny_NamedExpr ?_)))
    refine (g_ndget (prog := prog) (w := w) (h := hb) (j := j) Rb (g_local rfl rfl Fb.ns mib) (gv_int (g_local rfl rfl Fb.ns mpb))).use (Kp.refl _) fun v hc tkc hkc hv => ?_
    (replace hv := (if_pos hjT) ▸ hv)
    subst hv
    refine wpAny_assign_Name (fra_local (Fb.keeps hkc) rfl rfl fun hd tkd Fd sbd => ?_)
    have kxd : Kx (OwnA (eD L)) h hd := kxb.trans' ((Kx.of hkc).trans' (Kx.same sbd own_locals))
    refine (g_none (prog := prog) (w := w) (h := hd)).useV (Kp.refl _) fun he tke hke => ?_
    refine PySem.is_none (wpAny_truthy_bool ?_)
    (refine rwR (if_neg (by simp)) ?_)
    refine wpAny_execs_nil ?_
    have kxe : Kx (OwnA (eD L)) h he := kxd.trans' (Kx.of hke)
    have Fe := Fd.keeps hke
    have Re : SorAt prog w he T := R'.frame fun b o hb' e => kxe b o (fun q => fLT b hb' (oA b q)) e
    have Ze := Z'.step' (kxe.mono fun b q => hMF b (.inl q))
    have mse : upd mb "nodeinfo" (.ref (T.ia j)) "self" = some (.ref T.a) := (upd_ne (by decide)).trans msb
    have mie : upd mb "nodeinfo" (.ref (T.ia j)) "n2i" = some (.ref T.nd) := (upd_ne (by decide)).trans mib
    have mne : upd mb "nodeinfo" (.ref (T.ia j)) "nodeinfo" = some (.ref (T.ia j)) := upd_eq
    generalize upd mb "nodeinfo" (.ref (T.ia j)) = me at Fe mse mie mne
    refine wpAny_execs_cons (asg_local (h := he) Fe rfl rfl (g_attr (g_local rfl rfl Fe.ns mne) fun h' hk => f_np (Ze.now.1.X.keeps hk) (Re.keeps hk) hjT) (Kp.refl _) rfl ?_)
    intro v hf₀ hf tkf z8_ hkf₀ sbf Ff
    refine el1_1 z8_ fun tst r9_ => ?_
    try clear z8_
    obtain rfl := r9_
    have kxf : Kx (OwnA (eD L)) h hf := kxe.trans' ((Kx.of hkf₀).trans' (Kx.same sbf own_locals))
    have Rf : SorAt prog w hf T := R'.frame fun b o hb' e => kxf b o (fun q => fLT b hb' (oA b q)) e
    have Zf := Z'.step' (kxf.mono fun b q => hMF b (.inl q))
    have msf : upd me "stat" (.int (T.np j) tst) "self" = some (.ref T.a) := (upd_ne (by decide)).trans mse
    have mif : upd me "stat" (.int (T.np j) tst) "n2i" = some (.ref T.nd) := (upd_ne (by decide)).trans mie
    have mnf : upd me "stat" (.int (T.np j) tst) "nodeinfo" = some (.ref (T.ia j)) := (upd_ne (by decide)).trans mne
    have mtf : upd me "stat" (.int (T.np j) tst) "stat" = some (.int (-1) tst) := by (refine rwR upd_eq ?_; refine rwR Tnp ?_; with_reducible rfl)
    generalize upd me "stat" (.int (T.np j) tst) = mf at Ff msf mif mnf mtf
    refine wpAny_execs_cons (wpAny_If ?_)
    refine (gb_ne (prog := prog) (w := w) (h := hf) (gv_int (g_local rfl rfl Ff.ns mtf)) (gv_int (g_global Zf.now.1 hOut rfl rfl rfl))).use (Kp.refl _) fun c hg tkg hkg hc' => ?_
    subst hc'
    refine wpAny_execs_nil ?_
    have Fg := Ff.keeps hkg
    have Rg := Rf.keeps hkg
    have kxg : Kx (OwnA (eD L)) h hg := kxf.trans' (Kx.of hkg)
    have Zg := Z'.step' (kxg.mono fun b q => hMF b (.inl q))
    refine wpAny_execs_cons (plainObj_wpAny_Assign_Attribute ?_)
    refine (g_global (prog := prog) (w := w) (h := hg) Zg.now.1 hDone rfl rfl rfl).useV (Kp.refl _) fun hh tkh hkh => ?_
    refine (g_local (prog := prog) (w := w) (h := hh) rfl rfl (Fg.keeps hkh).ns mnf).useV (Kp.refl _) fun hi₁ tki hki => ?_
    have kgi : Kp hg hi₁ := hkh.trans hki
    refine sor_set_np (S := T) (s := { s with heap := hi₁, toks := tki }) (L := L) (Zg.now.1.X.keeps kgi) (Rg.keeps kgi) hjT (Fg.keeps kgi).ns fLT ?_
    intro hj₁ tkj Rj nsj hkj
    have hkj : ∀ b o, b ≠ L → b ≠ T.ia j → hi₁.get? b = some o → hj₁.get? b = some o := hkj
    have fia : S.fp (T.ia j) := (Tfp _).mp (.inr (.inr (.inr (.inr ⟨j, hjT, .inl rfl⟩))))
    have Fj : Fra (eD L) hj₁ mf cm := fra_of_ns rfl nsj
    have kxj : Kx (Or2 (OwnA (eD L)) S.fp) h hj₁ := (kxg.mono fun b => .inl).trans' fun b o hb' e => hkj b o (fun q => hb' (.inl (q ▸ own_locals))) (fun q => hb' (.inr (q ▸ fia))) (kgi _ _ e)
    have Zj := Z'.step' (kxj.mono hMF)
    generalize hT1 : ({ T with np := fup T.np j (-2) } : Sor) = T1 at Rj
    have T1fp : ∀ b, T1.fp b ↔ S.fp b := fun b => by (refine rwL hT1 ?_); exact Tfp b
    have T1r : T1.rdy = some (r, l') := by (refine rwL hT1 ?_; refine rwL hT ?_; with_reducible rfl)
    have T1su : T1.su = S.su := by (refine rwL hT1 ?_; refine rwL hT ?_; with_reducible rfl)
    have T1k : T1.keys = S.keys := by (refine rwL hT1 ?_); exact Tk
    have lvj : Live Fr' hj₁ := lv'.step kxj (Fj.live.or fun b hb' => Rj.live b ((T1fp b).mpr hb'))
    refine wpAny_execs_cons (done_inner (s := { s with heap := hj₁, toks := tkj }) (S := T1) (r := r) (l := l') (j := j) (Fr := Fr') (hOk.mono (by decide)) Fj Rj T1r (by (refine rwR T1k ?_); exact hjk) (by (refine rwL hT1 ?_); exact mnf) (by (refine rwL hT1 ?_); exact mif) (by (refine rwL hT1 ?_); exact msf) (fun b hb' => fL b ((T1fp b).mp hb')) ?_ lvj Zj.left ?_ ?_ ?_)
    · rintro b (hb' | hb')
      · exact hMF b (.inl hb')
      · exact hMF b (.inr ((T1fp b).mp hb'))
    · (refine rwR T1su ?_; refine rwR T1k ?_); exact hsu j hjm
    · (refine rwR T1su ?_); have := hzs j hjm; lia
    intro hk₁ tkk mk Fk hmk Rk kxk
    have kxk : Kx (Or2 (OwnA (eD L)) S.fp) hj₁ hk₁ := Kx.mono kxk (by
      rintro b (hb' | hb')
      · exact .inl hb'
      · exact .inr ((T1fp b).mp hb'))
    have kxhk : Kx (Or2 (OwnA (eD L)) S.fp) h hk₁ := kxj.trans' kxk
    have Zk := Z'.step' (kxhk.mono hMF)
    generalize hst : (T1.su j).foldl decS (T1.np, l') = st at Rk
    have est : st = doneS S.su (np, l') j := by
      (refine rwL hst ?_; refine rwR T1su ?_; refine rwL hT1 ?_; refine rwL hT ?_); rfl
    generalize hT2 : withS T1 st.1 r st.2 = T2 at Rk
    have T2fp : ∀ b, T2.fp b ↔ S.fp b := fun b => by (refine rwL hT2 ?_); exact (fp_with T1r b).trans (T1fp b)
    have msk : mk "self" = some (.ref T2.a) := by (refine rwL hT2 ?_; refine rwR (hmk _ (by decide) (by decide)) ?_; refine rwL hT1 ?_); exact msf
    have mik : mk "n2i" = some (.ref S.nd) := by (refine rwR (hmk _ (by decide) (by decide)) ?_; refine rwR mif ?_; refine rwL hT ?_; with_reducible rfl)
    refine wpAny_execs_cons (wpAny_AugAssign_AttributeAny ?_)
    refine (g_local (prog := prog) (w := w) (h := hk₁) rfl rfl Fk.ns msk).useV (Kp.refl _) fun hl₁ tkl hkl => ?_
    refine (f_fin (prog := prog) (w := w) (h := hl₁) (Zk.now.1.X.keeps hkl) (Rk.keeps hkl)).useI (Kp.refl _) fun to hm₁ tkm hkm => ?_
    refine (g_int (prog := prog) (w := w) (h := hm₁)).useI (Kp.refl _) fun t1 hn₁ tkn hkn => ?_
    have kkn : Kp hk₁ hn₁ := hkl.trans (hkm.trans hkn)
    refine P.iadd_int ?_
    refine sor_set_field (S := T2) (s := { s with heap := hn₁, toks := tkn + 1 }) (L := L) (rdy' := T2.rdy) (pas' := T2.pas) (fin' := T2.fin + 1) (Zk.now.1.X.keeps kkn) (Rk.keeps kkn) (Fk.keeps kkn).ns (fun b hb' => fL b ((T2fp b).mp hb')) (tk_fin w) ents_fin ?_ ?_
    · intro r' l₁ e
      refine el0_2 ((Rk.keeps kkn).rl r' l₁ e) fun q1 q2 => ?_
      exact ⟨q1, fL r' ((T2fp r').mp (.inr (.inr (.inr (.inl ⟨l₁, e⟩))))), q2⟩
    · intro ho₁ tko Ro nso hko
      have hko : ∀ b o, b ≠ L → b ≠ T2.d → hn₁.get? b = some o → ho₁.get? b = some o := hko
      have Fo : Fra (eD L) ho₁ mk cm := fra_of_ns rfl nso
      have fd2 : S.fp T2.d := (T2fp _).mp (.inr (.inl rfl))
      have kxo : Kx (Or2 (OwnA (eD L)) S.fp) h ho₁ := kxhk.trans' fun b o hb' e => hko b o (fun q => hb' (.inl (q ▸ own_locals))) (fun q => hb' (.inr (q ▸ fd2))) (kkn _ _ e)
      have eS : ({ T2 with rdy := T2.rdy, pas := T2.pas, fin := T2.fin + 1 } : Sor) = withF S st.1 r st.2 (S.fin + ((i + 1 : Nat) : Int)) := by
        (refine rwL hT2 ?_; refine rwL hT1 ?_; refine rwL hT ?_)
        have : S.fin + (i : Nat) + 1 = S.fin + ((i + 1 : Nat) : Int) := by lia
        simp only [withF, withS]
        (refine rwR this ?_; with_reducible rfl)
      (replace Ro := eS ▸ Ro)
      refine wpAny_execs_nil ?_
      refine q .next (mk, st) ho₁ tko (.inl rfl) ⟨Fo, Ro, by (replace msk := Eq.symm hT2 ▸ msk; replace msk := Eq.symm hT1 ▸ msk; replace msk := Eq.symm hT ▸ msk); exact msk, mik, ?_⟩ kxo (fun _ => id) (fun _ => .inl) (Fo.live.or fun b hb' => Ro.live b ((fpW b).mpr hb')) ((Z'.step' (kxo.mono hMF)).mono fun b hb' => hb'.elim id (hMF b))
      (refine rwR List.take_succ ?_; refine rwR ej ?_; refine rwR est ?_; refine rwR eN ?_)
      simp
  · intro z10_ h tk' z11_ Z' lv' hK hFd
    obtain ⟨m', np, l'⟩ := z10_
    try clear z10_
    refine el0_5 z11_ fun F' R' ms' mi' eN => ?_
    try clear z11_
    have eN : (np, l') = (js.take (List.toArray vs).size).foldl (doneS S.su) (S.np, l) := eN
    (replace eN := lenR ▸ eN; replace eN := (List.take_of_length_le (Nat.le_refl _)) ▸ eN)
    have R' : SorAt prog w h (withF S np r l' (S.fin + ((List.toArray vs).size : Nat))) := R'
    (replace R' := lenR ▸ R')
    refine wpAny_execs_nil ?_
    refine k h tk' (by (refine rwL eN ?_); exact R') ?_
    intro b o hb' e
    have nL := oL b o e
    refine hK b o ?_ (k57 b o (fun q => nL (oA b q)) (k3 _ _ e))
    rintro (q | q)
    · exact nL (oA b q)
    · exact hb' q
end
end Mine
end
section
open PySem PySem.Calls PySem.W PyProof.Rows
set_option maxRecDepth 100000
set_option genInjectivity false
set_option genSizeOf false
set_option genSizeOfSpec false
namespace Mine
theorem li_ga : Slot "list_iterator" "__getattribute__" "object.__getattribute__" :=
  .of (owner := "object") (n := "__getattribute__") (by (refine rwR (typeLookup_type _ _) ?_; refine rwR builtinLookup_eq_fast ?_); kernel_rfl) (by decide +kernel) (by decide +kernel) (by decide +kernel)
    (by first | exact .inl (by decide +kernel) | exact .inr (by decide +kernel)) (by (refine rwR (isSubtype_type _ _) ?_); kernel_rfl)
theorem li_ga_args (a b : Value) : argsOk "object.__getattribute__" ⟨[a, b], []⟩ := by unfold argsOk; kernel_rfl
theorem li_ga_entry : entryFor table "object.__getattribute__" = some Builtin.«object.__getattribute__» := entryFor_of_tree (by kernel_rfl)
theorem li_nx_type : typeOf (.builtin "list_iterator.__next__") = pure (.type "wrapper_descriptor") := by show builtinType _ = _; (refine rwR builtinType_eq_fast ?_); kernel_rfl
theorem wd_get : Slot "wrapper_descriptor" "__get__" "wrapper_descriptor.__get__" :=
  .of (owner := "wrapper_descriptor") (n := "__get__") (by (refine rwR (typeLookup_type _ _) ?_; refine rwR builtinLookup_eq_fast ?_); kernel_rfl) (by decide +kernel) (by decide +kernel) (by decide +kernel)
    (by first | exact .inl (by decide +kernel) | exact .inr (by decide +kernel)) (by (refine rwR (isSubtype_type _ _) ?_); kernel_rfl)
theorem wd_set : typeLookup (.type "wrapper_descriptor") "__set__" = pure none := by (refine rwR (typeLookup_type _ _) ?_; refine rwR builtinLookup_eq_fast ?_); kernel_rfl
theorem wd_del : typeLookup (.type "wrapper_descriptor") "__delete__" = pure none := by (refine rwR (typeLookup_type _ _) ?_; refine rwR builtinLookup_eq_fast ?_); kernel_rfl
theorem wd_args (a b c : Value) : argsOk "wrapper_descriptor.__get__" ⟨[a, b, c], []⟩ := by unfold argsOk; kernel_rfl
theorem wd_entry : entryFor table "wrapper_descriptor.__get__" = some Builtin.«wrapper_descriptor.__get__» := entryFor_of_tree (by kernel_rfl)
theorem li_sub : isSubtype (.type "list_iterator") (.type "list_iterator") = pure true := by (refine rwR (isSubtype_type _ _) ?_); kernel_rfl
theorem li_hook : typeLookup (.type "list_iterator") "__getattr__" = pure none := by (refine rwR (typeLookup_type _ _) ?_; refine rwR builtinLookup_eq_fast ?_); kernel_rfl
noncomputable abbrev wrapObj (I : Addr) : Obj := { cls := .type "method-wrapper", data := .fields #[.builtin "list_iterator.__next__", .ref I] }
theorem li_owner : isSubtype (.type "list_iterator") (.type (".".intercalate ("list_iterator.__next__".cutAt '.').dropLast)) = pure true := by
  (refine rwR (show ".".intercalate ("list_iterator.__next__".cutAt '.').dropLast = "list_iterator" by decide +kernel) ?_); exact li_sub
noncomputable abbrev liObj (l : Addr) (i : Nat) (sl : Array (Option Value)) : Obj := { cls := .type "list_iterator", dict := none, data := .fields #[.ref l, .int i 0], slots := sl }
section
variable {prog : Program} {w : World} {A : Around} {E : Value → Shared → Prop} {h : Heap} {g : Array GenState} {d : Drawn} {t : Nat} {os : OsState} {a l : Addr} {i : Nat} {sl : Array (Option Value)}
theorem wd_call {R : Result → Shared → Prop} (hx : h.get? a = some (liObj l i sl)) (hq : R (.ok (.ret (.ref h.objs.size))) ⟨h.push (wrapObj a), g, d, t, os⟩) :
    codeAny (model prog w) A (.call (.builtin "wrapper_descriptor.__get__") ⟨[.builtin "list_iterator.__next__", .ref a, .type "list_iterator"], []⟩) R ⟨h, g, d, t, os⟩ := by
  have hT : (⟨h, g, d, t, os⟩ : Shared).TypeIs (.ref a) "list_iterator" := ⟨_, hx, rfl⟩
  have hT5 : (⟨h, g, d, t, os⟩ : Shared).TypeIs (.builtin "list_iterator.__next__") "wrapper_descriptor" := li_nx_type
  have f8 := li_owner
  refine codeAny_call_builtin wd_get.plain wd_entry (wd_get.check _ _ _ _ _ _ _ _ hT5 (wd_args _ _ _) ?_)
  repeat (any_goals (first | assumption | wp_step))
theorem li_entry {tk : Tok} {Q : PySem.Fin → Shared → Prop} (hx : h.get? a = some (liObj l i sl)) (hq : Q (.done (.ret (.ref h.objs.size))) ⟨h.push (wrapObj a), g, d, t, os⟩) :
    wpAny (model prog w) A (Builtin.«object.__getattribute__» ⟨[.ref a, .str "__next__" tk], []⟩) Q E ⟨h, g, d, t, os⟩ := by
  have hT : (⟨h, g, d, t, os⟩ : Shared).TypeIs (.ref a) "list_iterator" := ⟨_, hx, rfl⟩
  have hT5 : (⟨h, g, d, t, os⟩ : Shared).TypeIs (.builtin "list_iterator.__next__") "wrapper_descriptor" := li_nx_type
  have f4 := slot_listiter_next.lookup
  have f5 := li_nx_type
  have f6 := wd_get.lookup
  have f7 := wd_set
  have f8 := wd_del
  repeat (any_goals (first | assumption | wp_step))
  refine wd_call hx ?_
  repeat (any_goals (first | assumption | wp_step))
theorem li_attr {Q : Value → Shared → Prop} (hx : h.get? a = some (liObj l i sl)) (hq : Q (.ref h.objs.size) ⟨h.push (wrapObj a), g, d, t + 1, os⟩) : wpAny (model prog w) A (getAttr (.ref a) "__next__" true) Q E ⟨h, g, d, t, os⟩ := by
  have hT : ∀ t', (⟨h, g, d, t', os⟩ : Shared).TypeIs (.ref a) "list_iterator" := fun _ => ⟨_, hx, rfl⟩
  have f2 := li_ga.lookup
  have f3 := li_ga.bind (.ref a)
  have f4 := li_hook
  unfold getAttr getAttrBy
  repeat (any_goals (first | assumption | exact hT _ | wp_step))
  refine codeAny_call_builtin li_ga.plain li_ga_entry (li_ga.check _ _ _ _ _ _ _ _ (hT _) (li_ga_args _ _) (li_entry hx ?_))
  repeat (any_goals (first | assumption | wp_step))
end
end Mine
end
section
open PySem PySem.Calls PySem.W PyProof.Rows
set_option maxRecDepth 100000
set_option genInjectivity false
set_option genSizeOf false
set_option genSizeOfSpec false
namespace Mine
theorem li_bound (a : Value) : checkBoundCall "list_iterator.__next__" ⟨[a], []⟩ = pure () := by kernel_rfl
theorem li_plain : plainId "list_iterator.__next__" = true := by decide +kernel
section
variable {prog : Program} {w : World} {A : Around} {E : Value → Shared → Prop} {h : Heap} {g : Array GenState} {d : Drawn} {t : Nat} {os : OsState} {a mw l : Addr} {i : Nat} {sl : Array (Option Value)} {items : Array Value} {n : Nat}
theorem wrap_open {R : Result → Shared → Prop} (hm : h.get? mw = some (wrapObj a))
    (hq : wpAny (model prog w) A.in1 (Builtin.«list_iterator.__next__» ⟨[.ref a], []⟩) (fun fin s' => match fin with | .done f => R (.ok f) s' | .again c' => c'.quiet = true ∧ codeAny (model prog w) A c' R s') (fun e s' => R (.error e) s') ⟨h, g, d, t, os⟩) :
    codeAny (model prog w) A (.call (.ref mw) ⟨[], []⟩) R ⟨h, g, d, t, os⟩ := by
  refine codeAny_of_tree ?_
  show wpAny _ A.in1 (callAny (.ref mw) ⟨[], []⟩) _ _ _
  simp only [callAny]
  refine wpAny_bind (wpAny_load hm ?_)
  dsimp only
  (refine rwR (if_pos (by decide)) ?_)
  show wpAny _ _ (checkBoundCall "list_iterator.__next__" ⟨[.ref a], []⟩ >>= _) _ _ _
  (refine rwR (li_bound _) ?_)
  refine wpAny_bind (wpAny_pure ?_)
  refine wpAny_pure (And.intro (plainId_quiet li_plain _) (codeAny_builtin entry_listiter_next ?_))
  (refine rwR (Around.under_plainId li_plain _) ?_)
  exact hq
theorem li_item {x : Value} {R : Result → Shared → Prop} (hm : h.get? mw = some (wrapObj a)) (hit : h.get? a = some (liObj l i sl)) (hl : h.get? l = some ({ cls := .type "list", data := .seq items n } : Obj)) (hx : items[i]? = some x)
    (hq : ∀ h', h'.get? a = some (liObj l (i + 1) sl) → Heap.SameBut a h h' → R (.ok (.ret x)) ⟨h', g, d, t, os⟩) :
    codeAny (model prog w) A (.call (.ref mw) ⟨[], []⟩) R ⟨h, g, d, t, os⟩ := by
  refine wrap_open hm ?_
  show wpAny _ _ (field (.ref a) 0 >>= _) _ _ _
  refine wpAny_bind (wpAny_field hit rfl (x := .ref l) rfl ?_)
  show wpAny _ _ (if (Value.ref l == Value.none) = true then _ else _) _ _ _
  (refine rwR (if_neg (show ¬ ((Value.ref l == Value.none) = true) from Bool.false_ne_true)) ?_)
  show wpAny _ _ (field (.ref a) 1 >>= _) _ _ _
  refine wpAny_bind (wpAny_field hit rfl (x := .int i 0) rfl ?_)
  show wpAny _ _ (seqItems? (.ref l) >>= _) _ _ _
  refine wpAny_bind (wpAny_seqItems hl rfl ?_)
  simp only [Int.toNat_natCast, hx]
  refine wpAny_bind (wpAny_setField hit rfl (by simp) (wpAny_pure (hq _ ?_ (Heap.SameBut.update ..))))
  have := Heap.get?_update_self (Obj.mapFields (·.setIfInBounds 1 (rawInt (i + 1)))) hit rfl
  simpa [liObj, Obj.mapFields, rawInt] using this
theorem li_end {R : Result → Shared → Prop} (hh : A.handled = none) (hm : h.get? mw = some (wrapObj a)) (hit : h.get? a = some (liObj l i sl)) (hl : h.get? l = some ({ cls := .type "list", data := .seq items n } : Obj)) (hx : items[i]? = none)
    (hq : ∀ h' e oe vs, (∀ b o, b ≠ a → h.get? b = some o → h'.get? b = some o) → h.get? e = none → h'.get? e = some oe → oe.cls = .type "StopIteration" → oe.data = .fields vs → vs[1]? = some .none → (∃ o, h'.get? a = some o) → R (.error (.ref e)) ⟨h', g, d, t, os⟩) :
    codeAny (model prog w) A (.call (.ref mw) ⟨[], []⟩) R ⟨h, g, d, t, os⟩ := by
  refine wrap_open hm ?_
  show wpAny _ _ (field (.ref a) 0 >>= _) _ _ _
  refine wpAny_bind (wpAny_field hit rfl (x := .ref l) rfl ?_)
  show wpAny _ _ (if (Value.ref l == Value.none) = true then _ else _) _ _ _
  (refine rwR (if_neg (show ¬ ((Value.ref l == Value.none) = true) from Bool.false_ne_true)) ?_)
  show wpAny _ _ (field (.ref a) 1 >>= _) _ _ _
  refine wpAny_bind (wpAny_field hit rfl (x := .int i 0) rfl ?_)
  show wpAny _ _ (seqItems? (.ref l) >>= _) _ _ _
  refine wpAny_bind (wpAny_seqItems hl rfl ?_)
  simp only [Int.toNat_natCast, hx]
  refine wpAny_bind (wpAny_rule (wpAny_bind (wpAny_setField hit rfl (by simp) ?_)))
  show wpAny _ _ (newExc (.type "StopIteration") [] >>= _) _ _ _
  refine wpAny_bind ?_
  simp only [newExc, newTuple]
  refine wpAny_bind (wpAny_newObj_type ?_ (by size_fits))
  refine wpAny_bind (m := firstArgMember _ _) (wpAny_of_eq (a := Value.none) (by first | rfl | (simp only [firstArgMember]; rfl)) ?_)
  refine wpAny_newObj_type ?_ (by size_fits)
  simp only [raiseNew]
  refine wpAny_bind (wpAny_handled ?_)
  (refine rwR (show A.in1.handled = none from hh) ?_)
  refine wpAny_bind (wpAny_pure (wpAny_throw ?_))
  have ha1 := Heap.get?_update_self (Obj.mapFields fun x => x.setIfInBounds 0 Value.none) hit rfl
  have hsz : (h.update a (Obj.mapFields fun x => x.setIfInBounds 0 Value.none)).objs.size = h.objs.size := Heap.size_after_update ..
  have ho1 : ∀ b, b ≠ a → (h.update a (Obj.mapFields fun x => x.setIfInBounds 0 Value.none)).get? b = h.get? b := fun b hb => Heap.get?_update_other _ _ (Ne.symm hb)
  generalize h.update a (Obj.mapFields fun x => x.setIfInBounds 0 Value.none) = h1 at ha1 hsz ho1
  refine hq _ _ _ _ (fun b o hb e => Heap.get?_push_of_some _ (Heap.get?_push_of_some _ ((ho1 b hb).trans e))) ?_ (Heap.get?_push_size _ rfl) rfl rfl rfl ⟨_, Heap.get?_push_of_some _ (Heap.get?_push_of_some _ ha1)⟩
  cases e : h.get? (h1.push { cls := Value.type "tuple", data := Data.seq #[] }).objs.size with
  | none => rfl
  | some o => have := Heap.lt_size e; (replace this := (Heap.size_push _ _) ▸ this; replace this := hsz ▸ this); exact absurd this (Nat.not_lt.mpr (Nat.le_succ _))
end
structure Kf (fs : List Addr) (M : Addr → Prop) (h h' : Heap) : Prop where
  keep : ∀ b o, ¬ M b → b ∉ fs → h.get? b = some o → h'.get? b = some o
  slot : ∀ b o, b ∈ fs → ¬ M b → h.get? b = some o → ∃ sl, h'.get? b = some { o with slots := sl }
noncomputable abbrev frs (l : List Env) : List Addr := l.filterMap (·.frame)
theorem Kf.of {fs : List Addr} {M : Addr → Prop} {h h' : Heap} (x : Kx M h h') : Kf fs M h h' := ⟨fun b o hm _ e => x b o hm e, fun b o _ hm e => ⟨o.slots, x b o hm e⟩⟩
theorem Kf.trans {fs : List Addr} {M N : Addr → Prop} {h h1 h2 : Heap} (x : Kf fs M h h1) (y : Kf fs N h1 h2) (hm : ∀ b, N b → M b ∨ h.get? b = none) : Kf fs M h h2 :=
  ⟨fun b o hb hf e => y.keep b o (fun q => (hm b q).elim hb fun z => by (exact nosome (z) e)) hf (x.keep b o hb hf e), fun b o hf hb e => by
    refine el1_1 (x.slot b o hf hb e) fun s1 e1 => ?_
    obtain ⟨s2, e2⟩ := y.slot b _ hf (fun q => (hm b q).elim hb fun z => by (exact nosome (z) e)) e1
    exact ⟨s2, e2⟩⟩
theorem Kf.live {fs : List Addr} {M : Addr → Prop} {h h' : Heap} (x : Kf fs M h h') {b : Addr} {o : Obj} (hm : ¬ M b) (e : h.get? b = some o) : ∃ sl, h'.get? b = some { o with slots := sl } := by
  by_cases hf : b ∈ fs
  · exact x.slot b o hf hm e
  · exact ⟨o.slots, x.keep b o hm hf e⟩
theorem funFrames_kf {fs : List Addr} {M : Addr → Prop} {h h' base : Heap} (x : Kf fs M h h') : ∀ {l : List Env}, h.FunFrames base l → (∀ b ∈ frs l, ¬ M b) → h'.FunFrames base l
  | [], _, _ => trivial
  | env :: l, ⟨hk, ⟨L, o, hf, hn, ho, hd⟩, hr⟩, hm => by
    have hmL : ¬ M L := hm L (by simp [frs, List.filterMap_cons, hf])
    refine el1_1 (x.live hmL ho) fun sl e => ?_
    refine ⟨hk, ⟨L, _, hf, hn, e, hd⟩, funFrames_kf x hr fun b hb => hm b ?_⟩
    simp only [frs, List.filterMap_cons, hf]
    exact List.mem_cons_of_mem _ hb
theorem funFrames_base {h base base' : Heap} : ∀ {l : List Env}, h.FunFrames base l → (∀ b ∈ frs l, base'.get? b = none) → h.FunFrames base' l
  | [], _, _ => trivial
  | env :: l, ⟨hk, ⟨L, o, hf, hn, ho, hd⟩, hr⟩, hm => by
    refine ⟨hk, ⟨L, o, hf, hm L (by simp [frs, List.filterMap_cons, hf]), ho, hd⟩, funFrames_base hr fun b hb => hm b ?_⟩
    simp only [frs, List.filterMap_cons, hf]
    exact List.mem_cons_of_mem _ hb
section
variable {M : Model} {A : Around} {E : Value → Shared → Prop} {s : Shared}
theorem note_flight {env : Env} {outer : List Env} {L e : Addr} {oe : Obj} {vs : Array Value} {Q : Unit → Shared → Prop} (hfr : A.frames = some (env :: outer)) (hl : s.heap.FunFrames noHeap (env :: outer)) (hf : env.frame = some L)
    (he : s.heap.get? e = some oe) (hd : oe.data = .fields vs) (h1 : vs[1]? = some .none)
    (h : ∀ h', Kf (frs (env :: outer)) (· = e) s.heap h' → (∃ oe' vs' T oT ts, h'.get? e = some oe' ∧ oe'.cls = oe.cls ∧ oe'.data = .fields vs' ∧ vs'[1]? = some (.ref T) ∧ s.heap.get? T = none ∧ T ≠ e ∧ h'.get? T = some oT ∧ oT.data = .fields ts ∧ ts[3]? = some .none) → Q () { s with heap := h' }) :
    wpAny M A (noteFrame (.ref e) env) (fun _ s' => wpAny M A (setFlight (.ref e) none) Q E s') E s := by
  have hne : ∀ b ∈ frs (env :: outer), b ≠ e := fun b hb q => by
    obtain ⟨_, o, ho, hnf⟩ := hl.mem hb
    (rw [q, he] at ho; cases ho); exact hnf vs hd
  have hlive : ∀ b ∈ frs (env :: outer), ∃ o, s.heap.get? b = some o ∧ ∀ vs, o.data ≠ .fields vs := fun b hb => (hl.mem hb).2
  unfold noteFrame
  simp only [hf]
  refine wpAny_bind (wpAny_field he hd h1 ?_)
  refine wpAny_newEntry (base := hideAll s.heap (e :: frs (env :: outer))) hfr (funFrames_base hl fun b hb => hideAll_none _ (List.mem_cons_of_mem _ hb)) hf he (fun b o q => of_hideAll _ q) (hideAll_none _ List.mem_cons_self) hd (Array.getElem?_eq_some_iff.mp h1).1 fun h' hL => ?_
  refine el0_4 hL fun stays _ q1_ hup => ?_
  try clear hL
  refine el5_9 q1_ fun oe' vs' T oT ts q1 q2 q3 q4 q5 q6 q7 q8 q9 => ?_
  try clear q1_
  refine h h' ⟨fun b o hb hbf eb => stays b o (hideAll_get _ eb fun q => ?_), fun b o hbf hb eb => ?_⟩ ⟨oe', vs', T, oT, ts, q1, q2, q3, q4, ?_, q6, q7, q8, q9⟩
  · refine Or.elim (List.mem_cons.mp q) (fun q => ?_) fun q => ?_
    · exact hb q
    · exact hbf q
  · refine el1_2 (hlive b hbf) fun o' e' hnf => ?_
    (replace e' := eb ▸ e'); cases e'
    exact hup b o eb hnf
  · cases eT : s.heap.get? T with
    | none => rfl
    | some o =>
      by_cases hT : T ∈ frs (env :: outer)
      · refine el1_2 (hlive T hT) fun o' e' hnf => ?_
        refine el1_1 (hup T o' e' hnf) fun sl e2 => ?_
        (rw [q7] at e2; cases e2)
        exact absurd q8 (hnf ts)
      · have := hideAll_get (e :: frs (env :: outer)) eT fun q => by
          refine Or.elim (List.mem_cons.mp q) (fun q => ?_) fun q => ?_
          · exact q6 q
          · exact hT q
        (exact nosome (q5) this)
end
end Mine
end
section
open PySem PySem.Calls PySem.W PyProof.Rows
set_option maxRecDepth 100000
set_option genInjectivity false
set_option genSizeOf false
set_option genSizeOfSpec false
namespace Mine
noncomputable abbrev eC (L : Addr) : Env := callEnvC fdCycle L 127
structure CyA where
  L : Addr
  sk : Addr
  itk : Addr
  sn : Addr
  nm : Addr
structure Dfs (prog : Program) (w : World) (S : Sor) (c : CyA) (h : Heap) (path : List (Nat × Nat)) (its : List (Addr × Addr)) (seen : Int → Bool) : Prop where
  st : LI h c.sk (toI (path.map (·.1)))
  it : h.PlainList c.itk (List.toArray (its.map fun q => Value.ref q.1))
  wr : ∀ (i : Nat) q, its[i]? = some q → h.get? q.1 = some (wrapObj q.2)
  li : ∀ (i : Nat) q x, its[i]? = some q → path[i]? = some x → ∃ sl, h.get? q.2 = some (liObj (S.isl x.1) x.2 sl)
  len : its.length = path.length
  nd : (its.map (·.2)).Nodup
  se : ∃ n, h.SetOf (intKind prog w) c.sn seen n ∧ n + (S.keys.filter fun (v : Nat) => !seen (v : Int)).length ≤ S.keys.length
  dn : ∃ kvs, h.DictOf (intKind prog w) c.nm kvs ∧ (∀ v : Nat, (valueAt kvs (v : Int)).isSome = true ↔ v ∈ path.map (·.1)) ∧ kvs.length ≤ path.length
  ne : c.sk ≠ c.itk ∧ c.nm ≠ c.L ∧ c.sk ≠ c.L ∧ c.itk ≠ c.L ∧ c.sn ≠ c.L
  mo : (c.nm == sysModules) = false
  itL : ∀ q ∈ its, q.1 ≠ c.L ∧ q.2 ≠ c.L
noncomputable def CyA.own (c : CyA) (its : List (Addr × Addr)) (b : Addr) : Prop := b = c.sk ∨ b = c.itk ∨ b = c.sn ∨ b = c.nm ∨ ∃ q ∈ its, b = q.1 ∨ b = q.2
section
variable {prog : Program} {w : World} {S : Sor} {c : CyA} {h h' : Heap} {path : List (Nat × Nat)} {its : List (Addr × Addr)} {seen : Int → Bool}
theorem SetOf.at {a : Addr} {f : Int → Bool} {n : Nat} (x : h.SetOf (intKind prog w) a f n) (k : ∀ o, h.get? a = some o → h'.get? a = some o) : h'.SetOf (intKind prog w) a f n := by
  obtain ⟨o, es, ep, t, ho, r⟩ := x; exact ⟨o, es, ep, t, k _ ho, r⟩
theorem Dfs.frame (D : Dfs prog w S c h path its seen) (k : ∀ b o, c.own its b → h.get? b = some o → h'.get? b = some o) : Dfs prog w S c h' path its seen := by
  refine ⟨D.st.at fun o e => k _ o (.inl rfl) e, D.it.at fun o e => k _ o (.inr (.inl rfl)) e, fun i q e => k _ _ (.inr (.inr (.inr (.inr ⟨q, List.mem_of_getElem? e, .inl rfl⟩)))) (D.wr i q e),
    fun i q x e1 e2 => ?_, D.len, D.nd, ?_, ?_, D.ne, D.mo, D.itL⟩
  · obtain ⟨sl, e⟩ := D.li i q x e1 e2; exact ⟨sl, k _ _ (.inr (.inr (.inr (.inr ⟨q, List.mem_of_getElem? e1, .inr rfl⟩)))) e⟩
  · obtain ⟨n, x, y⟩ := D.se; exact ⟨n, SetOf.at x fun o e => k _ o (.inr (.inr (.inl rfl))) e, y⟩
  · obtain ⟨kvs, x, y⟩ := D.dn; exact ⟨kvs, x.at fun o e => k _ o (.inr (.inr (.inr (.inl rfl)))) e, y⟩
theorem Dfs.keeps (D : Dfs prog w S c h path its seen) (k : Kp h h') : Dfs prog w S c h' path its seen := D.frame fun b o _ e => k b o e
theorem SetOf.obj {a : Addr} {f : Int → Bool} {n : Nat} (x : h.SetOf (intKind prog w) a f n) : ∃ o, h.get? a = some o ∧ o.cls = .type "set" := by
  obtain ⟨o, es, ep, t, ho, hc, _⟩ := x; exact ⟨o, ho, hc.1⟩
theorem Dfs.li' (D : Dfs prog w S c h path its seen) {i : Nat} {q : Addr × Addr} (e : its[i]? = some q) : ∃ v p sl, path[i]? = some (v, p) ∧ h.get? q.2 = some (liObj (S.isl v) p sl) := by
  have hi : i < path.length := by (refine rwL D.len ?_); exact (List.getElem?_eq_some_iff.mp e).1
  refine el1_1 (D.li i q path[i] e (by simp [hi])) fun sl e2 => ?_
  exact ⟨_, _, sl, by simp [hi], e2⟩
theorem Dfs.live (D : Dfs prog w S c h path its seen) : Live (c.own its) h := by
  rintro b (rfl | rfl | rfl | rfl | ⟨q, hq, rfl | rfl⟩)
  · obtain ⟨k, xs, e⟩ := D.st.live; exact ⟨_, e⟩
  · obtain ⟨k, e⟩ := D.it; exact ⟨_, e⟩
  · obtain ⟨n, x, _⟩ := D.se; obtain ⟨o, e, _⟩ := SetOf.obj x; exact ⟨_, e⟩
  · obtain ⟨kvs, x, _⟩ := D.dn; obtain ⟨o, e, _⟩ := DictOf.obj x; exact ⟨_, e⟩
  · obtain ⟨i, hi, e⟩ := List.getElem_of_mem hq; exact ⟨_, D.wr i q (by (refine rwL e ?_); simp)⟩
  · obtain ⟨i, hi, e⟩ := List.getElem_of_mem hq
    obtain ⟨v, p, sl, _, e2⟩ := D.li' (i := i) (q := q) (by (refine rwL e ?_); simp)
    exact ⟨_, e2⟩
theorem Dfs.cls (D : Dfs prog w S c h path its seen) : (∃ o, h.get? c.sk = some o ∧ o.cls = .type "list") ∧ (∃ o, h.get? c.itk = some o ∧ o.cls = .type "list") ∧ (∃ o, h.get? c.sn = some o ∧ o.cls = .type "set") ∧ (∃ o, h.get? c.nm = some o ∧ o.cls = .type "dict") ∧
    (∀ q ∈ its, (∃ o, h.get? q.1 = some o ∧ o.cls = .type "method-wrapper") ∧ ∃ o, h.get? q.2 = some o ∧ o.cls = .type "list_iterator") := by
  refine ⟨?_, ?_, ?_, ?_, fun q hq => ?_⟩
  · obtain ⟨k, xs, e⟩ := D.st.live; exact ⟨_, e, rfl⟩
  · obtain ⟨k, e⟩ := D.it; exact ⟨_, e, rfl⟩
  · obtain ⟨n, x, _⟩ := D.se; obtain ⟨o, e, hc⟩ := SetOf.obj x; exact ⟨_, e, hc⟩
  · obtain ⟨kvs, x, _⟩ := D.dn; obtain ⟨o, e, hc⟩ := DictOf.obj x; exact ⟨_, e, hc⟩
  · obtain ⟨i, hi, e⟩ := List.getElem_of_mem hq
    have e : its[i]? = some q := by (refine rwL e ?_); simp
    refine el3_2 (D.li' e) fun v p sl _ e2 => ?_
    exact ⟨⟨_, D.wr i q e, rfl⟩, ⟨_, e2, rfl⟩⟩
theorem ne_of_cls {a b : Addr} {s t : String} (x : ∃ o, h.get? a = some o ∧ o.cls = .type s) (y : ∃ o, h.get? b = some o ∧ o.cls = .type t) (hst : s ≠ t) : a ≠ b := by
  refine el1_2 x fun o e hc => ?_
  try clear x
  refine el1_2 y fun o' e' hc' => ?_
  try clear y
  exact ne_cls e e' (by (refine rwR hc ?_; refine rwR hc' ?_); simpa using hst)
end
end Mine
end
section
open PySem PySem.Calls PySem.W PyProof.Rows
set_option maxRecDepth 100000
set_option genInjectivity false
set_option genSizeOf false
set_option genSizeOfSpec false
namespace Mine
noncomputable def whBody (s : Stmt) : List Stmt := (stP s).1
noncomputable def cyW1 : Stmt := (whBody ((bodyOf (sorS 8)).getD 5 ps)).getD 1 ps
noncomputable def cyW2 : Stmt := (whBody cyW1).getD 1 ps
noncomputable def cyTry : Stmt := (whBody cyW2).getD 0 ps
theorem Kf.kx {fs : List Addr} {h0 h h' : Heap} {M : Addr → Prop} (x : Kf fs (fun _ => False) h0 h) (y : Kx M h h') (hd : ∀ b, M b → h0.get? b = none) : Kf fs (fun _ => False) h0 h' :=
  x.trans (Kf.of y) fun b hb => .inr (hd b hb)
structure CS (prog : Program) (w : World) (s0 : Heap) (outer : List Env) (S : Sor) (c : CyA) (cm : Str → Option Value) (h : Heap) (m : Str → Option Value) (path : List (Nat × Nat)) (its : List (Addr × Addr)) (seen : Int → Bool) : Prop where
  kf : Kf (frs outer) (fun _ => False) s0 h
  fra : Fra (eC c.L) h m cm
  n1 : m "n2i" = some (.ref S.nd)
  n2 : m "stack" = some (.ref c.sk)
  n3 : m "itstack" = some (.ref c.itk)
  n4 : m "seen" = some (.ref c.sn)
  n5 : m "node2stacki" = some (.ref c.nm)
  dfs : Dfs prog w S c h path its seen
  dead : ∀ b, b = c.L ∨ c.own its b → s0.get? b = none
section
variable {prog : Program} {w : World} {A : Around} {E : Value → Shared → Prop} {s : Shared} {s0 : Heap} {outer : List Env} {S : Sor} {c : CyA} {cm m : Str → Option Value} {h h' : Heap} {path : List (Nat × Nat)} {its : List (Addr × Addr)} {seen : Int → Bool}
theorem CS.keeps (C : CS prog w s0 outer S c cm h m path its seen) (k : Kp h h') : CS prog w s0 outer S c cm h' m path its seen :=
  ⟨C.kf.kx (M := fun _ => False) (Kx.of k) (fun _ q => q.elim), C.fra.keeps k, C.n1, C.n2, C.n3, C.n4, C.n5, C.dfs.keeps k, C.dead⟩
theorem CS.ff (C : CS prog w s0 outer S c cm h m path its seen) (hF0 : s0.FunFrames noHeap outer) : h.FunFrames noHeap (eC c.L :: outer) := by
  refine el3_3 C.fra.ns fun o es ep ho hd _ => ?_
  refine ⟨(by show ScopeKind.function ≠ ScopeKind.module; decide), ⟨c.L, o, rfl, noHeap_get _, ho, fun vs => by (refine rwR hd ?_); simp⟩, funFrames_kf C.kf hF0 fun _ _ q => q⟩
theorem wrap_keep (mw I : Addr) : ∀ h : Heap, h.get? mw = some (wrapObj I) → ∃ k, (k = Keeper.frame ∨ k = Keeper.machine ∨ k = Keeper.boundFrame) ∧ Looks (model prog w) h (keeperOf (.ref mw)) k := fun h e =>
  ⟨.machine, .inr (.inl rfl), (Looks.ld (part := none) e).andThen (Looks.of_pure rfl)⟩
theorem call_top {pos p1 p2 : Pos} {path0 : List (Nat × Nat)} {its0 : List (Addr × Addr)} {v p : Nat} {wq iq : Addr} {Q : Value → Shared → Prop} (C : CS prog w s0 outer S c cm s.heap m (path0 ++ [(v, p)]) (its0 ++ [(wq, iq)]) seen) (hz : path0.length ≤ 1000)
    (k : ∀ h1 tk, Kp s.heap h1 → h1.get? wq = some (wrapObj iq) → codeAny (model prog w) A (.call (.ref wq) ⟨[], []⟩) (fun r s' => match r with | .ok (.ret v) => Q v s' | .ok _ => False | .error e => E e s') { s with heap := h1, toks := tk }) :
    wpAny (model prog w) A (eval (.Call (.Subscript (.Name "itstack" p1) (.UnaryOp .USub (.Constant (.int 1) 0 ⟨111, 40, 111, 41⟩) ⟨111, 39, 111, 41⟩) p2) [] [] pos) (eC c.L)) Q E s := by
  show wpAny _ _ (eval (.Subscript (.Name "itstack" p1) (.UnaryOp .USub (.Constant (.int 1) 0 ⟨111, 40, 111, 41⟩) ⟨111, 39, 111, 41⟩) p2) (eC c.L) >>= fun f => callWith pos f [] [] []) _ _ _
  refine wpAny_bind ?_
  have hlen : its0.length = path0.length := by have := C.dfs.len; simp at this; exact this
  refine Subscript_ ((g_local (prog := prog) (w := w) (h := s.heap) rfl rfl C.fra.ns C.n3).useV (Kp.refl _) fun h1 t1 hk1 => ?_)
  refine (gi_neg (prog := prog) (w := w) (h := h1) g_int).useI (Kp.refl _) fun t h2 t2 hk2 => ?_
  have hl := (C.dfs.it.at fun o e => hk2 _ o (hk1 _ o e)).isList
  have hsz : ((its0 ++ [(wq, iq)]).map fun q => Value.ref q.1).toArray.size = its0.length + 1 := by simp
  refine tail_any hl.typeIs slot_list_getitem.lookup (wpAny_getItem_list_neg hl (by decide) (by (refine rwR hsz ?_); lia) (by decide) (x := .ref wq) ?_ ?_) rfl
  · (refine rwR hsz ?_)
    have : (-1 + ((its0.length + 1 : Nat) : Int)).toNat = its0.length := by lia
    (refine rwR this ?_)
    simp
  · have hw : h2.get? wq = some (wrapObj iq) := hk2 _ _ (hk1 _ _ (C.dfs.wr its0.length (wq, iq) (by simp)))
    refine callWith_of (P := fun h => h.get? wq = some (wrapObj iq)) rfl (wrap_keep wq iq) (evalArgs_nil3 ⟨hw, ?_⟩)
    exact wpAny_call (k h2 t2 (hk1.trans hk2) hw)
theorem CS.store (C : CS prog w s0 outer S c cm h m path its seen) {v : Value} (F' : Fra (eC c.L) h' (upd m "node" v) cm) (sb : Heap.SameBut c.L h h') (hoff : ∀ b, c.own its b → b ≠ c.L) : CS prog w s0 outer S c cm h' (upd m "node" v) path its seen :=
  ⟨C.kf.kx (M := (· = c.L)) (fun b o hb e => sb.extBut b o hb e) (fun b q => C.dead b (.inl q)), F', (upd_ne (by decide)).trans C.n1, (upd_ne (by decide)).trans C.n2, (upd_ne (by decide)).trans C.n3, (upd_ne (by decide)).trans C.n4, (upd_ne (by decide)).trans C.n5,
    C.dfs.frame fun b o hb e => sb.extBut b o (hoff b hb) e, C.dead⟩
theorem CS.off (C : CS prog w s0 outer S c cm h m path its seen) : ∀ b, c.own its b → b ≠ c.L := by
  refine el0_5 C.dfs.ne fun n1 n2 n3 n4 n5 => ?_
  rintro b (rfl | rfl | rfl | rfl | ⟨q, hq, rfl | rfl⟩)
  · exact n3
  · exact n4
  · exact n5
  · exact n2
  · exact (C.dfs.itL q hq).1
  · exact (C.dfs.itL q hq).2
theorem CS.move {path0 : List (Nat × Nat)} {its0 : List (Addr × Addr)} {v p : Nat} {wq iq : Addr} {sl : Array (Option Value)} (C : CS prog w s0 outer S c cm h m (path0 ++ [(v, p)]) (its0 ++ [(wq, iq)]) seen)
    (hI : h'.get? iq = some (liObj (S.isl v) (p + 1) sl)) (sb : Heap.SameBut iq h h') : CS prog w s0 outer S c cm h' m (path0 ++ [(v, p + 1)]) (its0 ++ [(wq, iq)]) seen := by
  have D := C.dfs
  refine el0_5 D.cls fun c1 c2 c3 c4 c5 => ?_
  have hm : (wq, iq) ∈ its0 ++ [(wq, iq)] := by simp
  have cI := (c5 _ hm).2
  have own : ∀ b, c.own (its0 ++ [(wq, iq)]) b → b ≠ iq ∨ b = iq := fun b _ => (Decidable.em (b = iq)).symm
  have hlen : its0.length = path0.length := by have := D.len; simp at this; exact this
  refine ⟨C.kf.kx (M := (· = iq)) (fun b o hb e => sb.extBut b o hb e) (fun b q => C.dead b (.inr (.inr (.inr (.inr (.inr ⟨_, hm, .inr q⟩)))))), C.fra.frame fun b o hb e => sb.extBut b o (fun q => (D.itL _ hm).2 (q ▸ own_one rfl hb)) e, C.n1, C.n2, C.n3, C.n4, C.n5, ?_, C.dead⟩
  refine ⟨?_, D.it.at fun o e => sb.extBut _ o (ne_of_cls c2 cI (by decide)) e, fun i q e => sb.extBut _ _ (ne_of_cls (c5 q (List.mem_of_getElem? e)).1 cI (by decide)) (D.wr i q e), ?_, by simpa using D.len, D.nd, ?_, ?_, D.ne, D.mo, D.itL⟩
  · have := D.st.at fun o e => sb.extBut _ o (ne_of_cls c1 cI (by decide)) e
    simpa using this
  · intro i q x e1 e2
    refine Or.elim (Nat.lt_trichotomy i its0.length) (fun hi => ?_) fun zo0 => Or.elim zo0 (fun hi => ?_) fun hi => ?_
    · have e1' := e1
      (replace e1 := (List.getElem?_append_left hi) ▸ e1)
      rw [List.getElem?_append_left (by (first | lia | omega))] at e2
      obtain ⟨sl', e3⟩ := D.li i q x e1' (by (refine rwR (List.getElem?_append_left (by (exact Nat.lt_of_lt_of_le (by assumption) (Nat.le_of_eq (by assumption))))) ?_); exact e2)
      refine ⟨sl', sb.extBut _ _ (fun hq => ?_) e3⟩
      have hnd := D.nd
      (replace hnd := List.map_append ▸ hnd; rewrite [List.nodup_append] at hnd)
      exact hnd.2.2 q.2 (List.mem_map_of_mem (List.mem_of_getElem? e1)) iq (by simp) hq
    · subst hi
      simp at e1
      subst e1
      (replace e2 := hlen ▸ e2)
      simp at e2
      subst e2
      exact ⟨sl, hI⟩
    · have : (its0 ++ [(wq, iq)])[i]? = none := List.getElem?_eq_none (by simp; lia)
      (exact nosome (this) e1)
  · obtain ⟨n, x, y⟩ := D.se; exact ⟨n, SetOf.at x fun o e => sb.extBut _ o (ne_of_cls c3 cI (by decide)) e, y⟩
  · refine el1_3 D.dn fun kvs x y z => ?_
    refine ⟨kvs, x.at fun o e => sb.extBut _ o (ne_of_cls c4 cI (by decide)) e, fun u => ?_, by simpa using z⟩
    have := y u
    simpa using this
end
end Mine
end
section
open PySem PySem.Calls PySem.W PyProof.Rows
set_option maxRecDepth 100000
set_option genInjectivity false
set_option genSizeOf false
set_option genSizeOfSpec false
namespace Mine
theorem si_exc : isSubtype (.type "StopIteration") (.type "BaseException") = pure true := by (refine rwR (isSubtype_type _ _) ?_); kernel_rfl
theorem si_nt : isSubtype (.type ((Manifest.find? "StopIteration").elim "type" fun x => x.metatype)) (.type "tuple") = pure false := by
  (refine rwR (show ((Manifest.find? "StopIteration").elim "type" fun x => x.metatype) = "type" by decide +kernel) ?_; refine rwR (isSubtype_type _ _) ?_); kernel_rfl
theorem valueAt_without {kvs : List (Int × Value)} {k v : Int} : (valueAt (without kvs k) v).isSome = ((valueAt kvs v).isSome && decide (v ≠ k)) := by
  unfold valueAt without
  induction kvs with
  | nil => simp
  | cons x r ih =>
    (refine rwR List.filter_cons ?_)
    by_cases h1 : x.1 = k
    · (refine rwR (if_neg (by simp [h1])) ?_)
      (refine rwR ih ?_)
      by_cases h2 : x.1 = v
      · have : ¬ v ≠ k := by (refine rwL h2 ?_; refine rwR h1 ?_); simp
        simp [List.find?_cons, h2, this]
      · simp [List.find?_cons, h2]
    · (refine rwR (if_pos (by simp [h1])) ?_)
      by_cases h2 : x.1 = v
      · have h3 : v ≠ k := by (refine rwL h2 ?_); exact h1
        simp [List.find?_cons, h2, h3]
      · have a : decide (x.1 = v) = false := decide_eq_false h2
        simp only [List.find?_cons, a]
        exact ih
theorem ints_snoc : ∀ {vs : List Value} {ns : List Int} {x : Int}, IntsAre vs (ns ++ [x]) → ∃ us t, vs = us ++ [.int x t] ∧ IntsAre us ns
  | _, [], x, h => by cases h with | cons _ t h => cases h; exact ⟨[], t, rfl, .nil⟩
  | _, n :: ns, x, h => by
    cases h with
    | cons _ t h =>
      refine el2_2 (ints_snoc h) fun us t' r1_ h2 => ?_
      obtain rfl := r1_
      exact ⟨.int n t :: us, t', rfl, .cons _ _ h2⟩
theorem ns_slots {h h' : Heap} {a : Addr} {m : Str → Option Value} (x : h.Ns a m) (k : ∀ o, h.get? a = some o → ∃ sl, h'.get? a = some { o with slots := sl }) : h'.Ns a m := by
  refine el3_3 x fun o es ep ho hd r => ?_
  try clear x
  refine el1_1 (k o ho) fun sl e => ?_
  exact ⟨_, es, ep, e, hd, r⟩
theorem without_len {kvs : List (Int × Value)} {k : Int} (h : (valueAt kvs k).isSome = true) : (without kvs k).length < kvs.length := by
  unfold valueAt at h
  simp only [Option.isSome_map, List.find?_isSome] at h
  refine el1_2 h fun x hx e => ?_
  try clear h
  unfold without
  exact List.length_filter_lt_length_iff_exists.mpr ⟨x, hx, by simpa using e⟩
section
variable {prog : Program} {w : World} {A : Around} {E : Value → Shared → Prop} {s : Shared} {env : Env}
theorem pop_call {o : Expr} {apos pos : Pos} {D : Addr} {us : List Value} {u : Value} {Q : Value → Shared → Prop} (x : GV prog w A s.heap (eval o env) (.ref D)) (hl : s.heap.PlainList D (List.toArray (us ++ [u]))) (hz : us.length ≤ 100000)
    (k : ∀ h1 h' tk, Kp s.heap h1 → h'.PlainList D (List.toArray us) → Heap.SameBut D h1 h' → Q u { s with heap := h', toks := tk })
    (hbase : attributeBase o "pop" env (eval o env) = eval o env := by rfl) (hline : (apos.endLine == pos.line) = true := by rfl) :
    wpAny (model prog w) A (eval (.Call (.Attribute o "pop" apos) [] [] pos) env) Q E s := by
  refine wpAny_Call_method0_late hbase hline (x.useV (Kp.refl _) fun h1 t1 hk1 => ?_)
  refine el1_1 hl fun kv ev => ?_
  try clear hl
  have ev1 := hk1 _ _ ev
  refine ⟨"list", "list.pop", PySem.F.plainAttrs_list, PySem.F.slot_list_pop, PySem.F.type_list_pop, ⟨_, ev1, rfl⟩, (fun a e => by cases e; exact ⟨_, ev1, rfl⟩), ?_⟩
  refine PySem.P.pop_list (items := List.toArray (us ++ [u])) (n := kv) ev1 (y := u) (by simp) ?_ (by (refine rwR List.size_toArray ?_; refine rwR sizeLine_eq ?_); simp; (exact Nat.le_trans (by assumption) (by decide)))
  refine k h1 _ t1 hk1 ?_ (Heap.SameBut.update ..)
  have := Heap.get?_update_self (Obj.mapSeq fun xs => xs.eraseIdxIfInBounds ((List.toArray (us ++ [u])).size - 1)) ev1 rfl
  have e2 : (List.toArray (us ++ [u])).eraseIdxIfInBounds ((List.toArray (us ++ [u])).size - 1) = List.toArray us := by
    (refine rwR (List.eraseIdxIfInBounds_toArray _ _) ?_)
    congr 1
    simp [List.eraseIdx_append_of_length_le]
  obtain ⟨k', e4⟩ : ∃ k', Obj.mapSeq (fun xs => xs.eraseIdxIfInBounds ((List.toArray (us ++ [u])).size - 1)) ({ cls := .type "list", data := .seq (List.toArray (us ++ [u])) kv } : Obj) = { cls := .type "list", data := .seq ((List.toArray (us ++ [u])).eraseIdxIfInBounds ((List.toArray (us ++ [u])).size - 1)) k' } := ⟨_, rfl⟩
  (replace this := e4 ▸ this; replace this := e2 ▸ this)
  exact ⟨_, this⟩
theorem del_dict {D : Addr} {kvs : List (Int × Value)} {k : Int} {t : Tok} {Q : Unit → Shared → Prop} (hd : s.heap.DictOf (intKind prog w) D kvs) (hz : kvs.length ≤ 100000) (hin : (valueAt kvs k).isSome = true)
    (h : ∀ h', h'.DictOf (intKind prog w) D (without kvs k) → Heap.SameBut D s.heap h' → Q () { s with heap := h', toks := s.toks + 1 }) : wpAny (model prog w) A (delItem (.ref D) (.int k t)) Q E s := by
  unfold delItem
  try with_reducible refine wpAny_holding ?_
  refine wpAny_bind (wpAny_sequenceKey hd.typeIs (by decide) ?_)
  exact wpAny_bind (wpAny_callSpecial?_slot (name := Str.ofString "__delitem__") hd.typeIs PySem.F.slot_dict_delitem
    (call_meetsIn PySem.F.slot_dict_delitem hd.typeIs PySem.F.entry_dict_delitem (PySem.F.args_dict_delitem_2 _ _) (meets_dict_delitem_pairs (intKind prog w) D (intKind_is prog w k t)) ⟨kvs, hd, (by (refine rwR sizeLine_eq ?_); (exact Nat.le_trans (by assumption) (by decide))), hin, fun h' hmm hs => wpAny_pure (h h' hmm hs)⟩))
end
section
variable {prog : Program} {w : World} {A : Around} {E : Value → Shared → Prop} {s : Shared} {s0 : Heap} {outer : List Env} {S : Sor} {c : CyA} {cm m : Str → Option Value} {seen : Int → Bool}
theorem try_step {path0 : List (Nat × Nat)} {its0 : List (Addr × Addr)} {v p : Nat} {wq iq : Addr} {Q : Flow → Shared → Prop} (hA : Ok 5 A) (hfr : A.frames = some (eC c.L :: outer)) (hF0 : s0.FunFrames noHeap outer)
    (hZ : ∀ h', Kf (frs outer) (fun _ => False) s0 h' → Sta w h' ∧ SorAt prog w h' S) (C : CS prog w s0 outer S c cm s.heap m (path0 ++ [(v, p)]) (its0 ++ [(wq, iq)]) seen) (hz : path0.length ≤ 1000) (hv : v ∈ S.keys) (hvn : v ∉ path0.map (·.1))
    (kb : ∀ y t h' tk, (S.su v)[p]? = some y → CS prog w s0 outer S c cm h' (upd m "node" (.int (y : Nat) t)) (path0 ++ [(v, p + 1)]) (its0 ++ [(wq, iq)]) seen → Q .brk { s with heap := h', toks := tk })
    (kn : ∀ h' tk, (S.su v)[p]? = none → CS prog w s0 outer S c cm h' m path0 its0 seen → Q .next { s with heap := h', toks := tk }) :
    wpAny (model prog w) A (exec cyTry (eC c.L)) Q E s := by
  have hlen : its0.length = path0.length := by have := C.dfs.len; simp at this; exact this
  refine wpAny_Try_except ?_
  refine wpAny_execs_cons (wpAny_Assign_Name (call_top C hz ?_))
  intro h1 tk1 hk1 hw1
  have C1 := C.keeps hk1
  refine el0_2 (hZ h1 C1.kf) fun S1 R1 => ?_
  refine el3_2 (C1.dfs.li' (i := its0.length) (q := (wq, iq)) (by simp)) fun v' p' sl e1 e2 => ?_
  (replace e1 := hlen ▸ e1)
  simp at e1
  refine el0_2 e1 fun r2_ r3_ => ?_
  try clear e1
  obtain rfl := r2_
  obtain rfl := r3_
  obtain ⟨vs, q4_, hi⟩ := R1.succ v hv
  refine el1_1 q4_ fun nl el => ?_
  try clear q4_
  cases ey : (S.su v)[p]? with
  | some y =>
    refine el1_1 (IntsAre.get hi (i := p) (k := (y : Int)) (by simp [toI, ey])) fun t et => ?_
    refine li_item (h := h1) hw1 e2 el (by simpa using et) fun h2 hI2 sb2 => ?_
    have C2 := C1.move hI2 sb2
    refine fra_local C2.fra rfl rfl fun h3 tk3 F3 sb3 => ?_
    refine wpAny_execs_cons (wpAny_Break ?_)
    exact kb y t h3 tk3 ey (C2.store F3 sb3 C2.off)
  | none =>
    have hpl : (List.toArray vs)[p]? = none := by
      have : vs.length = (S.su v).length := by (refine rwR (IntsAre.len hi) ?_; refine rwR (toI_len _) ?_; with_reducible rfl)
      have h2 : (S.su v).length ≤ p := List.getElem?_eq_none_iff.mp ey
      simp; lia
    refine li_end (h := h1) hA.hd hw1 e2 el hpl fun h2 e oe evs k2 hen hoe hcls hdat hv1 hIlive => ?_
    have hm : (wq, iq) ∈ its0 ++ [(wq, iq)] := by simp
    have D1 := C1.dfs
    refine el0_5 D1.cls fun c1 c2 c3 c4 c5 => ?_
    have cI := (c5 _ hm).2
    have lvo : ∀ b ∈ frs outer, ∃ o, s0.get? b = some o := fun b hb => let ⟨_, o, e, _⟩ := hF0.mem hb; ⟨o, e⟩
    have deadI : s0.get? iq = none := C.dead iq (.inr (.inr (.inr (.inr (.inr ⟨_, hm, .inr rfl⟩)))))
    have deadL : s0.get? c.L = none := C.dead c.L (.inl rfl)
    have frsC : ∀ b, b ∈ frs (eC c.L :: outer) → b = c.L ∨ b ∈ frs outer := fun b hb => List.mem_cons.mp hb
    have frsL : c.L ∈ frs (eC c.L :: outer) := List.mem_cons_self
    have x12 : Kx (· = iq) h1 h2 := fun b o hb eb => k2 b o hb eb
    have ff2 : h2.FunFrames noHeap (eC c.L :: outer) := funFrames_kf (Kf.of (fs := []) x12) (C1.ff hF0) fun b hb q => by
      refine Or.elim (frsC b hb) (fun z => ?_) fun z => ?_
      · exact (D1.itL _ hm).2 (q ▸ z)
      · obtain ⟨o, eo⟩ := lvo b z; (exact nosome2 q (deadI) eo)
    refine note_flight hfr ff2 rfl hoe hdat hv1 fun h3 kf3 zx => el5_9 zx fun oe' vs' T oT ts q1 q2 q3 q4 q5 q6 q7 q8 q9 => ?_
    have q5 : h2.get? T = none := q5
    have kf3 : Kf (frs (eC c.L :: outer)) (· = e) h2 h3 := kf3
    have stay : ∀ b o, c.own (its0 ++ [(wq, iq)]) b → b ≠ iq → h1.get? b = some o → h3.get? b = some o := fun b o hb hbi eb => by
      refine kf3.keep b o (fun q => by (exact nosome2 q (hen) eb)) (fun hb' => ?_) (k2 b o hbi eb)
      refine Or.elim (frsC b hb') (fun z => ?_) fun z => ?_
      · exact C1.off b hb z
      · obtain ⟨o', eo⟩ := lvo b z; (exact nosome (C.dead b (.inr hb)) eo)
    have kf30 : Kf (frs outer) (fun _ => False) s0 h3 := by
      have off0 : ∀ b o, s0.get? b = some o → b ≠ iq ∧ b ≠ c.L := fun b o eb => ⟨(fun q => by (exact nosome2 q (deadI) eb)), (fun q => by (exact nosome2 q (deadL) eb))⟩
      refine ⟨fun b o _ hb eb => ?_, fun b o hb _ eb => ?_⟩
      · have e1 := C1.kf.keep b o id hb eb
        refine kf3.keep b o (fun q => by (exact nosome2 q (hen) e1)) (fun hb' => ?_) (k2 b o (off0 b o eb).1 e1)
        refine Or.elim (frsC b hb') (fun z => ?_) fun z => ?_
        · exact (off0 b o eb).2 z
        · exact hb z
      · refine el1_1 (C1.kf.slot b o hb id eb) fun sl1 e1 => ?_
        obtain ⟨sl2, e2⟩ := kf3.slot b _ (List.mem_cons_of_mem _ hb) (fun q => by (exact nosome2 q (hen) e1)) (k2 b _ (off0 b o eb).1 e1)
        exact ⟨sl2, e2⟩
    have ns3 : h3.Ns c.L m := ns_slots C1.fra.ns fun o eo => kf3.slot c.L o frsL (fun q => by (replace eo := (show c.L = e from q) ▸ eo); (exact nosome (hen) eo)) (k2 _ o (Ne.symm (D1.itL _ hm).2) eo)
    refine el0_2 (hZ h3 kf30) fun S3 R3 => ?_
    refine wpAny_handleBy_builtin (X := "StopIteration") (T := "StopIteration") (b := true) si_exc si_nt isSubtype_stop ?_
    refine (g_builtin (prog := prog) (w := w) (h := h3) S3 (v := .type "StopIteration") (by kernel_rfl) (by decide +kernel) (by decide) rfl rfl rfl rfl).use (Kp.refl _) fun cv h4 tk4 hk4 hcv => ?_
    refine ⟨hcv, ⟨oe', hk4 _ _ q1, q2.trans hcls⟩, ?_⟩
    refine wpAny_setFlight_none (hk4 _ _ q1) q3 q4 (hk4 _ _ q7) q8 (Array.getElem?_eq_some_iff.mp q9).1 ?_
    generalize hH5 : h4.update T (Obj.mapFields fun x => x.setIfInBounds 3 Value.none) = h5
    have sb5 : Heap.SameBut T h4 h5 := hH5 ▸ Heap.SameBut.update ..
    have neT : ∀ b o, h2.get? b = some o → b ≠ T := fun b o eb q => by (exact nosome2 q (q5) eb)
    have k35 : ∀ b o, b ≠ T → h3.get? b = some o → h5.get? b = some o := fun b o hb eb => sb5.extBut b o hb (hk4 _ _ eb)
    have stay5 : ∀ b o, c.own (its0 ++ [(wq, iq)]) b → b ≠ iq → h1.get? b = some o → h5.get? b = some o := fun b o hb hbi eb => k35 b o (neT b o (k2 b o hbi eb)) (stay b o hb hbi eb)
    have kf50 : Kf (frs outer) (fun _ => False) s0 h5 := kf30.kx (M := (· = T)) (fun b o hb eb => k35 b o hb eb) fun b q => by
      (refine rwR (show b = T from q) ?_)
      cases eT : s0.get? T with
      | none => rfl
      | some o =>
        obtain ⟨sl1, e1⟩ := C1.kf.live (fun q => q) eT
        have := k2 T _ (fun q => by (exact nosome2 q (deadI) eT)) e1
        (exact nosome (q5) this)
    have ns5 : h5.Ns c.L m := ns3.at' fun o eo => k35 _ o (fun q => by
      refine el1_1 (C1.fra.live c.L own_locals) fun o1 e1 => ?_
      exact neT c.L o1 (k2 _ _ (Ne.symm (D1.itL _ hm).2) e1) q) eo
    obtain ⟨pvs, q5_, pin⟩ := D1.st
    refine el1_1 q5_ fun pk pe => ?_
    try clear q5_
    have pin' : IntsAre pvs (toI (path0.map (·.1)) ++ [(v : Int)]) := by (refine rwR (toI_append _ _) ?_); simpa using pin
    refine el2_2 (ints_snoc pin') fun us tv r6_ hus => ?_
    obtain rfl := r6_
    have husl : us.length = path0.length := by (refine rwR (IntsAre.len hus) ?_; refine rwR (toI_len _) ?_; refine rwR (List.length_map _) ?_; with_reducible rfl)
    have st5 : h5.PlainList c.sk (List.toArray (us ++ [.int v tv])) := ⟨pk, stay5 _ _ (.inl rfl) (ne_of_cls c1 cI (by decide)) pe⟩
    refine el1_3 D1.dn fun kvs hkd hkv hkz => ?_
    have dn5 : h5.DictOf (intKind prog w) c.nm kvs := hkd.at fun o eo => stay5 _ o (.inr (.inr (.inr (.inl rfl)))) (ne_of_cls c4 cI (by decide)) eo
    have it5 : h5.PlainList c.itk (List.toArray ((its0.map fun q => Value.ref q.1) ++ [.ref wq])) := by
      have := D1.it.at fun o eo => stay5 _ o (.inr (.inl rfl)) (ne_of_cls c2 cI (by decide)) eo
      simpa using this
    refine el1_2 D1.se fun sn hse hsz => ?_
    have se5 : h5.SetOf (intKind prog w) c.sn seen sn := SetOf.at hse fun o eo => stay5 _ o (.inr (.inr (.inl rfl))) (ne_of_cls c3 cI (by decide)) eo
    have F5 : Fra (eC c.L) h5 m cm := fra_of_ns rfl ns5
    have cl5 : (∃ o, h5.get? c.sk = some o ∧ o.cls = .type "list") ∧ (∃ o, h5.get? c.itk = some o ∧ o.cls = .type "list") ∧ (∃ o, h5.get? c.sn = some o ∧ o.cls = .type "set") ∧ (∃ o, h5.get? c.nm = some o ∧ o.cls = .type "dict") := by
      refine ⟨?_, ?_, ?_, ?_⟩
      · obtain ⟨k, e⟩ := st5; exact ⟨_, e, rfl⟩
      · obtain ⟨k, e⟩ := it5; exact ⟨_, e, rfl⟩
      · obtain ⟨o, e, hc⟩ := SetOf.obj se5; exact ⟨_, e, hc⟩
      · obtain ⟨o, e, hc⟩ := DictOf.obj dn5; exact ⟨_, e, hc⟩
    refine el0_5 D1.ne fun n1 n2 n3 n4 n5 => ?_
    refine wpAny_execs_cons (wpAny_Delete ?_)
    refine wpAny_deleteEach_cons (wpAny_delete_Subscript ?_)
    refine (g_local (prog := prog) (w := w) (h := h5) rfl rfl F5.ns C.n5).use (Kp.refl _) fun ov h6 tk6 hk6 hov => ?_
    subst hov
    refine pop_call (s := { s with heap := h6, toks := tk6 }) (g_local rfl rfl (F5.keeps hk6).ns C.n2) (st5.at fun o eo => hk6 _ o eo) (by (exact Nat.le_trans (Nat.le_of_eq (by assumption)) (Nat.le_trans (by assumption) (by decide)))) ?_
    intro h7 h8 tk8 hk7 st8 sb8
    have k68 : ∀ b o, b ≠ c.sk → h5.get? b = some o → h8.get? b = some o := fun b o hb eb => sb8.extBut b o hb (hk7 _ _ (hk6 _ _ eb))
    have dn8 : h8.DictOf (intKind prog w) c.nm kvs := dn5.at fun o eo => k68 _ o (ne_of_cls cl5.2.2.2 cl5.1 (by decide)) eo
    refine del_dict (s := { s with heap := h8, toks := tk8 }) dn8 (by simp at hkz; lia) ((hkv v).mpr (by simp)) fun h9 dn9 sb9 => ?_
    have k59 : ∀ b o, b ≠ c.sk → b ≠ c.nm → h5.get? b = some o → h9.get? b = some o := fun b o h1 h2 eb => sb9.extBut b o h2 (k68 b o h1 eb)
    refine wpAny_deleteEach_nil ?_
    have ns9 : h9.Ns c.L m := ns5.at' fun o eo => k59 _ o (Ne.symm n3) (Ne.symm n2) eo
    have F9 : Fra (eC c.L) h9 m cm := fra_of_ns rfl ns9
    have it9 : h9.PlainList c.itk (List.toArray ((its0.map fun q => Value.ref q.1) ++ [.ref wq])) := it5.at fun o eo => k59 _ o (Ne.symm n1) (ne_of_cls cl5.2.1 cl5.2.2.2 (by decide)) eo
    refine wpAny_execs_cons (wpAny_Expr_any (pop_call (s := { s with heap := h9, toks := tk8 + 1 }) (g_local rfl rfl F9.ns C.n3) it9 (by simp; (exact Nat.le_trans (Nat.le_of_eq (by assumption)) (Nat.le_trans (by assumption) (by decide)))) ?_))
    intro h10 h11 tk11 hk10 it11 sb11
    refine wpAny_execs_nil ?_
    have k511 : ∀ b o, b ≠ c.sk → b ≠ c.nm → b ≠ c.itk → h5.get? b = some o → h11.get? b = some o := fun b o h1 h2 h3 eb => sb11.extBut b o h3 (hk10 _ _ (k59 b o h1 h2 eb))
    refine kn h11 tk11 ey ⟨?_, fra_of_ns rfl (ns9.at' fun o eo => sb11.extBut _ o (Ne.symm n4) (hk10 _ _ eo)), C.n1, C.n2, C.n3, C.n4, C.n5, ?_, ?_⟩
    · refine kf50.kx (M := fun b => b = c.sk ∨ b = c.nm ∨ b = c.itk) (fun b o hb eb => k511 b o (fun q => hb (.inl q)) (fun q => hb (.inr (.inl q))) (fun q => hb (.inr (.inr q))) eb) ?_
      rintro b (q | q | q)
      · exact C.dead b (.inr (.inl q))
      · exact C.dead b (.inr (.inr (.inr (.inr (.inl q)))))
      · exact C.dead b (.inr (.inr (.inl q)))
    · have own0 : ∀ b, c.own its0 b → c.own (its0 ++ [(wq, iq)]) b := by
        rintro b (q | q | q | q | ⟨x, hx, q⟩)
        · exact .inl q
        · exact .inr (.inl q)
        · exact .inr (.inr (.inl q))
        · exact .inr (.inr (.inr (.inl q)))
        · exact .inr (.inr (.inr (.inr ⟨x, List.mem_append_left _ hx, q⟩)))
      have keepIt : ∀ q ∈ its0, ∀ o, (h1.get? q.1 = some o → h11.get? q.1 = some o) ∧ (h1.get? q.2 = some o → h11.get? q.2 = some o) := fun q hq o => by
        have hq' : q ∈ its0 ++ [(wq, iq)] := List.mem_append_left _ hq
        have cq := c5 q hq'
        have nI : q.2 ≠ iq := fun z => by
          have hnd := D1.nd
          (replace hnd := List.map_append ▸ hnd; rewrite [List.nodup_append] at hnd)
          exact hnd.2.2 q.2 (List.mem_map_of_mem hq) iq (by simp) z
        exact ⟨fun eo => k511 _ o (ne_of_cls cq.1 c1 (by decide)) (ne_of_cls cq.1 c4 (by decide)) (ne_of_cls cq.1 c2 (by decide)) (stay5 _ o (.inr (.inr (.inr (.inr ⟨q, hq', .inl rfl⟩)))) (ne_of_cls cq.1 cI (by decide)) eo),
          fun eo => k511 _ o (ne_of_cls cq.2 c1 (by decide)) (ne_of_cls cq.2 c4 (by decide)) (ne_of_cls cq.2 c2 (by decide)) (stay5 _ o (.inr (.inr (.inr (.inr ⟨q, hq', .inr rfl⟩)))) nI eo)⟩
      refine ⟨⟨us, st8.at fun o eo => sb11.extBut _ o n1 (hk10 _ _ (sb9.extBut _ o (ne_of_cls cl5.1 cl5.2.2.2 (by decide)) eo)), hus⟩, it11, fun i q e => ?_, fun i q x e1 e2 => ?_, hlen, ?_, ⟨sn, SetOf.at se5 fun o eo => k511 _ o (ne_of_cls cl5.2.2.1 cl5.1 (by decide)) (ne_of_cls cl5.2.2.1 cl5.2.2.2 (by decide)) (ne_of_cls cl5.2.2.1 cl5.2.1 (by decide)) eo, hsz⟩, ⟨without kvs v, dn9.at fun o eo => sb11.extBut _ o (ne_of_cls cl5.2.2.2 cl5.2.1 (by decide)) (hk10 _ _ eo), fun u => ?_, (by have := without_len ((hkv v).mpr (by simp)); simp at hkz; lia)⟩, D1.ne, D1.mo, fun q hq => D1.itL q (List.mem_append_left _ hq)⟩
      · exact (keepIt q (List.mem_of_getElem? e) _).1 (D1.wr i q (by (refine rwR (List.getElem?_append_left (List.getElem?_eq_some_iff.mp e).1) ?_); exact e))
      · obtain ⟨sl, e3⟩ := D1.li i q x (by (refine rwR (List.getElem?_append_left (List.getElem?_eq_some_iff.mp e1).1) ?_); exact e1) (by (refine rwR (List.getElem?_append_left (List.getElem?_eq_some_iff.mp e2).1) ?_); exact e2)
        exact ⟨sl, (keepIt q (List.mem_of_getElem? e1) _).2 e3⟩
      · have hnd := D1.nd
        (replace hnd := List.map_append ▸ hnd; rewrite [List.nodup_append] at hnd)
        exact hnd.1
      · (refine rwR valueAt_without ?_)
        have := hkv u
        simp only [Bool.and_eq_true, decide_eq_true_eq]
        (refine rwR (propext this) ?_)
        constructor
        · intro z7_
          refine el0_2 z7_ fun a b => ?_
          try clear z7_
          simp at a
          rcases a with a | a
          · simpa using a
          · exact absurd (by (refine rwR a ?_; with_reducible rfl)) b
        · intro a
          refine ⟨by simp only [List.map_append, List.mem_append]; exact .inl a, fun z => hvn ?_⟩
          have : u = v := by exact_mod_cast z
          (refine rwL this ?_); exact a
    · rintro b (q | q | q | q | q | ⟨x, hx, q⟩)
      · exact C.dead b (.inl q)
      · exact C.dead b (.inr (.inl q))
      · exact C.dead b (.inr (.inr (.inl q)))
      · exact C.dead b (.inr (.inr (.inr (.inl q))))
      · exact C.dead b (.inr (.inr (.inr (.inr (.inl q)))))
      · exact C.dead b (.inr (.inr (.inr (.inr (.inr ⟨x, List.mem_append_left _ hx, q⟩)))))
end
end Mine
end
section
open PySem PySem.Calls PySem.W PyProof.Rows
set_option maxRecDepth 100000
set_option genInjectivity false
set_option genSizeOf false
set_option genSizeOfSpec false
namespace Mine
noncomputable def rem (S : Sor) (path : List (Nat × Nat)) : Nat := (path.map fun x => (S.su x.1).length - x.2 + 1).sum
theorem rem_snoc (S : Sor) (path : List (Nat × Nat)) (x : Nat × Nat) : rem S (path ++ [x]) = rem S path + ((S.su x.1).length - x.2 + 1) := by simp [rem]
structure PV (S : Sor) (rk : Nat → Nat) (path : List (Nat × Nat)) (seen : Int → Bool) : Prop where
  key : ∀ x ∈ path, x.1 ∈ S.keys
  see : ∀ x ∈ path, seen (x.1 : Int) = true
  rank : path.Pairwise fun x y => rk x.1 < rk y.1
  len : path.length + (S.keys.filter fun (v : Nat) => !seen (v : Int)).length ≤ S.keys.length
theorem PV.pop {S : Sor} {rk : Nat → Nat} {path : List (Nat × Nat)} {x : Nat × Nat} {seen : Int → Bool} (P : PV S rk (path ++ [x]) seen) : PV S rk path seen :=
  ⟨fun y hy => P.key y (by simp [hy]), fun y hy => P.see y (by simp [hy]), (List.pairwise_append.mp P.rank).1, by have := P.len; simp at this; lia⟩
theorem PV.move {S : Sor} {rk : Nat → Nat} {path : List (Nat × Nat)} {v p q : Nat} {seen : Int → Bool} (P : PV S rk (path ++ [(v, p)]) seen) : PV S rk (path ++ [(v, q)]) seen := by
  refine ⟨fun y hy => ?_, fun y hy => ?_, ?_, by simpa using P.len⟩
  · refine Or.elim (List.mem_append.mp hy) (fun hy => ?_) fun hy => ?_
    · exact P.key y (by simp [hy])
    · (refine rwR (List.mem_singleton.mp hy) ?_); exact P.key (v, p) (by simp)
  · refine Or.elim (List.mem_append.mp hy) (fun hy => ?_) fun hy => ?_
    · exact P.see y (by simp [hy])
    · (refine rwR (List.mem_singleton.mp hy) ?_); exact P.see (v, p) (by simp)
  · refine el0_3 (List.pairwise_append.mp P.rank) fun h1 h2 h3 => ?_
    exact List.pairwise_append.mpr ⟨h1, by simp, fun a ha b hb => by (refine rwR (List.mem_singleton.mp hb) ?_); exact h3 a ha (v, p) (by simp)⟩
theorem PV.top {S : Sor} {rk : Nat → Nat} {path : List (Nat × Nat)} {v p : Nat} {seen : Int → Bool} (P : PV S rk (path ++ [(v, p)]) seen) : v ∉ path.map (·.1) := by
  intro h
  refine el1_2 (List.mem_map.mp h) fun x hx e => ?_
  have := (List.pairwise_append.mp P.rank).2.2 x hx (v, p) (by simp)
  (replace this := e ▸ this); exact Nat.lt_irrefl _ this
section
variable {prog : Program} {w : World} {A : Around} {E : Value → Shared → Prop} {s : Shared} {s0 : Heap} {outer : List Env} {S : Sor} {c : CyA} {cm : Str → Option Value} {seen : Int → Bool} {rk : Nat → Nat}
theorem w2_run {path : List (Nat × Nat)} {its : List (Addr × Addr)} {m : Str → Option Value} {Q : Flow → Shared → Prop} (hA : Ok 5 A) (hfr : A.frames = some (eC c.L :: outer)) (hF0 : s0.FunFrames noHeap outer)
    (hZ : ∀ h', Kf (frs outer) (fun _ => False) s0 h' → Sta w h' ∧ SorAt prog w h' S) (hzk : S.keys.length ≤ 900) (C : CS prog w s0 outer S c cm s.heap m path its seen) (P : PV S rk path seen)
    (kn : ∀ h' tk path0 its' v p y t, (S.su v)[p]? = some y → CS prog w s0 outer S c cm h' (upd m "node" (.int (y : Nat) t)) (path0 ++ [(v, p + 1)]) its' seen → PV S rk (path0 ++ [(v, p + 1)]) seen → rem S (path0 ++ [(v, p + 1)]) < rem S path → Q .next { s with heap := h', toks := tk })
    (kb : ∀ h' tk, CS prog w s0 outer S c cm h' m [] [] seen → Q .brk { s with heap := h', toks := tk }) :
    wpAny (model prog w) A (exec cyW2 (eC c.L)) Q E s := by
  show wpAny _ _ (exec (.While _ _ _ _) (eC c.L)) _ _ _
  rw [exec_While]
  refine wpAny_bind (wpAny_standAt (wpAny_runOwn ?_))
  refine codeAny_whileLoop (fun n s' => ∃ h' tk path' its', s' = { s with heap := h', toks := tk } ∧ CS prog w s0 outer S c cm h' m path' its' seen ∧ PV S rk path' seen ∧ path'.length = n ∧ rem S path' ≤ rem S path) ?_ path.length ⟨s.heap, s.toks, path, its, rfl, C, P, rfl, Nat.le_refl _⟩
  intro n s' z1_
  refine el4_5 z1_ fun h1 tk1 path' its' r2_ C1 P1 r3_ hr => ?_
  try clear z1_
  obtain rfl := r2_
  obtain rfl := r3_
  show wpAny _ _ (eval (.Name "stack" _) (eC c.L) >>= fun v => standAt _ >>= fun _ => holding [v] (truthy v)) _ _ _
  refine wpAny_bind ((g_local (prog := prog) (w := w) (h := h1) rfl rfl C1.fra.ns C1.n2).useV (Kp.refl _) fun h2 tk2 hk2 => ?_)
  refine wpAny_bind (wpAny_standAt (wpAny_holding ?_))
  have C2 := C1.keeps hk2
  obtain ⟨vs, hvs, hi⟩ := C2.dfs.st
  have hl : vs.length = path'.length := by (refine rwR (IntsAre.len hi) ?_; refine rwR (toI_len _) ?_; refine rwR (List.length_map _) ?_; with_reducible rfl)
  refine wpAny_truthy_list hvs.isList (by (refine rwR List.size_toArray ?_); have := P1.len; lia) ?_
  rcases List.eq_nil_or_concat path' with rfl | ⟨path0, x, hx⟩
  · have hvn : vs = [] := List.length_eq_zero_iff.mp (by simpa using hl)
    subst hvn
    (refine rwR (if_neg (by simp)) ?_)
    have hits : its' = [] := List.length_eq_zero_iff.mp (by (refine rwR C2.dfs.len ?_); rfl)
    subst hits
    refine wpAny_execs_cons (wpAny_Break ?_)
    exact kb h2 _ C2
  · (replace hx := List.concat_eq_append ▸ hx)
    subst hx
    have hvne : vs ≠ [] := fun q => by (replace hl := q ▸ hl); simp at hl
    (refine rwR (if_pos (by cases vs <;> simp_all)) ?_)
    obtain ⟨v, p⟩ := x
    try clear x
    have hil := C2.dfs.len
    rcases List.eq_nil_or_concat its' with rfl | ⟨its0, y, hy⟩
    · simp at hil
    (replace hy := List.concat_eq_append ▸ hy)
    subst hy
    obtain ⟨wq, iq⟩ := y
    try clear y
    have hp0 : path0.length ≤ 1000 := by have := P1.len; simp at this; lia
    refine wpAny_execs_cons (try_step (s := { s with heap := h2, toks := tk2 + 1 + 1 }) hA hfr hF0 hZ C2 hp0 (P1.key (v, p) (by simp)) P1.top ?_ ?_)
    · intro y t h' tk ey C'
      have hlt : p < (S.su v).length := (List.getElem?_eq_some_iff.mp ey).1
      refine kn h' tk path0 _ v p y t ey C' P1.move ?_
      rw [rem_snoc] at hr ⊢
      dsimp only at hr ⊢
      (exact Nat.lt_of_lt_of_le (Nat.add_lt_add_left (Nat.succ_lt_succ (Nat.sub_lt_sub_left hlt (Nat.lt_succ_self p))) _) hr)
    · intro h' tk ey C'
      refine wpAny_execs_nil ?_
      refine ⟨path0.length, by simp, h', tk, path0, its0, rfl, C', P1.pop, rfl, ?_⟩
      rw [rem_snoc] at hr
      lia
end
end Mine
end
section
open PySem PySem.Calls PySem.W PyProof.Rows
set_option maxRecDepth 100000
set_option genInjectivity false
set_option genSizeOf false
set_option genSizeOfSpec false
namespace Mine
theorem it_entry : entryFor table "iter" = some Builtin.«iter» := entryFor_of_fast (by kernel_rfl)
theorem it_args (a : Value) : argsOk "iter" ⟨[a], []⟩ := by unfold argsOk; kernel_rfl
theorem valueAt_stored {kvs : List (Int × Value)} {k u : Int} {v : Value} : (valueAt (stored kvs k v) u).isSome = ((valueAt kvs u).isSome || decide (u = k)) := by
  unfold stored
  split
  · rename_i h
    have hk : (valueAt kvs k).isSome = true := by
      unfold valueAt
      simp only [Option.isSome_map, List.find?_isSome]
      refine el1_2 (List.any_eq_true.mp h) fun x hx e => ?_
      exact ⟨x, hx, e⟩
    have key : ∀ l : List (Int × Value), (valueAt (l.map fun kv => if kv.1 = k then (kv.1, v) else kv) u).isSome = (valueAt l u).isSome := by
      intro l
      induction l with
      | nil => rfl
      | cons x r ih =>
        have e1 : (if x.1 = k then (x.1, v) else x).1 = x.1 := by split <;> rfl
        unfold valueAt at ih ⊢
        (refine rwR List.map_cons ?_; refine rwR (List.find?_cons) ?_; refine rwR (List.find?_cons) ?_; refine rwR e1 ?_)
        cases decide (x.1 = u) with
        | true => rfl
        | false => exact ih
    (refine rwR (key _) ?_)
    by_cases hu : u = k
    · subst hu; (refine rwR hk ?_); rfl
    · (refine rwR (decide_eq_false hu) ?_; refine rwR (Bool.or_false _) ?_; with_reducible rfl)
  · unfold valueAt
    (refine rwR (List.find?_append) ?_)
    by_cases hu : u = k
    · subst hu
      cases (kvs.find? fun kv => decide (kv.1 = u)) <;> simp
    · have : decide (k = u) = false := decide_eq_false (Ne.symm hu)
      cases (kvs.find? fun kv => decide (kv.1 = u)) <;> simp [hu, this]
noncomputable def seenAdd (seen : Int → Bool) (v : Nat) : Int → Bool := fun k => seen k || decide (k = (v : Int))
section
variable {prog : Program} {w : World} {A : Around} {E : Value → Shared → Prop} {s : Shared}
theorem call_iter_list {l : Addr} {items : Array Value} {Q : Value → Shared → Prop} (hl : s.heap.IsList l items) (h : Q (.ref s.heap.objs.size) { s with heap := s.heap.push { cls := .type "list_iterator", data := .fields #[.ref l, .int 0 0] } }) :
    wpAny (model prog w) A (call (.builtin "iter") [.ref l]) Q E s := by
  refine call_function_entry (by decide +kernel) (by decide +kernel) it_entry (it_args _) ?_
  unfold Builtin.«iter»
  refine wpAny_bind (m := someArgs "iter" 1 2 _) (wpAny_of_eq (a := [Value.ref l]) (by first | rfl | kernel_rfl) ?_)
  show wpAny _ _ (pyIter (.ref l) >>= _) _ _ _
  exact wpAny_bind (wpAny_pyIter_list hl (wpAny_pure ⟨_, rfl, h⟩))
end
theorem unseen_add {S : Sor} {seen : Int → Bool} {v : Nat} (hv : v ∈ S.keys) (hun : seen (v : Int) = false) : (S.keys.filter fun (u : Nat) => !seenAdd seen v (u : Int)).length + 1 ≤ (S.keys.filter fun (u : Nat) => !seen (u : Int)).length := by
  have key : ∀ l : List Nat, (l.filter fun (u : Nat) => !seenAdd seen v (u : Int)).length ≤ (l.filter fun (u : Nat) => !seen (u : Int)).length := by
    intro l
    induction l with
    | nil => simp
    | cons x r ih =>
      (refine rwR List.filter_cons ?_; refine rwR List.filter_cons ?_)
      by_cases h1 : seen (x : Int) = true
      · (refine rwR (if_neg (by simp [seenAdd, h1])) ?_; refine rwR (if_neg (by simp [h1])) ?_); exact ih
      · (refine rwR (if_pos (show (!seen (x : Int)) = true by simpa using h1)) ?_)
        split <;> simp <;> lia
  have : ∀ l : List Nat, v ∈ l → (l.filter fun (u : Nat) => !seenAdd seen v (u : Int)).length + 1 ≤ (l.filter fun (u : Nat) => !seen (u : Int)).length := by
    intro l
    induction l with
    | nil => intro h; cases h
    | cons x r ih =>
      intro h
      (refine rwR List.filter_cons ?_; refine rwR List.filter_cons ?_)
      rcases List.mem_cons.mp h with rfl | h
      · (refine rwR (if_neg (by simp [seenAdd])) ?_; refine rwR (if_pos (by simp [hun])) ?_)
        simpa using key r
      · have := ih h
        by_cases h1 : seen (x : Int) = true
        · (refine rwR (if_neg (by simp [seenAdd, h1])) ?_; refine rwR (if_neg (by simp [h1])) ?_); exact this
        · (refine rwR (if_pos (show (!seen (x : Int)) = true by simpa using h1)) ?_)
          split <;> simp <;> (first | exact Nat.le_of_lt (by assumption) | lia)
  exact this _ hv
noncomputable def cyIf : Stmt := (whBody cyW1).getD 0 ps
noncomputable def ifElse (s : Stmt) : List Stmt := (stP s).2.1
section
variable {prog : Program} {w : World} {A : Around} {E : Value → Shared → Prop} {s : Shared} {s0 : Heap} {outer : List Env} {S : Sor} {c : CyA} {cm : Str → Option Value} {seen : Int → Bool} {rk : Nat → Nat}
theorem push_run {path : List (Nat × Nat)} {its : List (Addr × Addr)} {m : Str → Option Value} {v : Nat} {tv : Tok} {Q : Flow → Shared → Prop} (hA : Ok 5 A) 
    (hZ : ∀ h', Kf (frs outer) (fun _ => False) s0 h' → Sta w h' ∧ SorAt prog w h' S) (C : CS prog w s0 outer S c cm s.heap m path its seen) (hz : path.length ≤ 900) (hzk : S.keys.length ≤ 900) (hun : seen (v : Int) = false)
    (hn : m "node" = some (.int v tv)) (hv : v ∈ S.keys)
    (k : ∀ h' tk its', CS prog w s0 outer S c cm h' m (path ++ [(v, 0)]) its' (seenAdd seen v) → Q .next { s with heap := h', toks := tk }) :
    wpAny (model prog w) A (execs (ifElse cyIf) (eC c.L)) Q E s := by
  refine el0_2 (hZ s.heap C.kf) fun S0 R0 => ?_
  have D := C.dfs
  refine el0_5 D.ne fun n1 n2 n3 n4 n5 => ?_
  refine el0_5 D.cls fun c1 c2 c3 c4 c5 => ?_
  have F := C.fra
  show wpAny _ _ (execs [(ifElse cyIf).getD 0 ps, (ifElse cyIf).getD 1 ps, (ifElse cyIf).getD 2 ps, (ifElse cyIf).getD 3 ps] (eC c.L)) _ _ _
  refine el1_2 D.se fun ns hset hsz => ?_
  refine wpAny_execs_cons (wpAny_Expr_any (wpAny_Call_method1_late rfl rfl rfl ?_))
  refine (g_local (prog := prog) (w := w) (h := s.heap) rfl rfl F.ns C.n4).use (Kp.refl _) fun ov h1 t1 hk1 hov => ?_
  subst hov
  have set1 : h1.SetOf (intKind prog w) c.sn seen ns := SetOf.at hset fun o e => hk1 _ o e
  refine ⟨"set", "set.add", PySem.F.plainAttrs_set, PySem.F.slot_set_add, PySem.F.type_set_add, set1.typeIs, set1.noDict, ?_⟩
  refine callWith_builtin rfl (evalArgs_plain (spliced_cons ((g_local (prog := prog) (w := w) (h := h1) rfl rfl (F.keeps hk1).ns hn).use (Kp.refl _) fun nv h2 t2 hk2 hnv => spliced_nil ?_)))
  subst hnv
  have set2 : h2.SetOf (intKind prog w) c.sn seen ns := SetOf.at set1 fun o e => hk2 _ o e
  refine call_set_add (s := { s with heap := h2, toks := t2 }) (k := (v : Int)) (intKind_is prog w _ _) rfl set2 (by unfold scanBound; lia) fun h3 sb3 set3 => ?_
  have k03 : ∀ b o, b ≠ c.sn → s.heap.get? b = some o → h3.get? b = some o := fun b o hb e => sb3.extBut b o hb (hk2 _ _ (hk1 _ _ e))
  have kf3 : Kf (frs outer) (fun _ => False) s0 h3 := C.kf.kx (M := (· = c.sn)) k03 fun b q => C.dead b (.inr (.inr (.inr (.inl q))))
  refine el0_2 (hZ h3 kf3) fun S3 R3 => ?_
  have F3 : Fra (eC c.L) h3 m cm := fra_of_ns rfl (F.ns.at' fun o e => k03 _ o (Ne.symm n5) e)
  have it3 := D.it.at fun o e => k03 _ o (ne_of_cls c2 c3 (by decide)) e
  refine el1_1 (id it3) fun ki ei => ?_
  refine wpAny_execs_cons (wpAny_Expr_any (wpAny_Call_append rfl rfl rfl rfl ?_))
  refine (g_local (prog := prog) (w := w) (h := h3) rfl rfl F3.ns C.n3).use (Kp.refl _) fun ov h4 t4 hk4 hov => ?_
  subst hov
  refine ⟨c.itk, _, rfl, ⟨_, ki, hk4 _ _ ei, rfl, rfl, rfl⟩, ?_⟩
  refine Attribute_any_ (PyProof.Rows.Call_Name1 ?_)
  have F4 := F3.keeps hk4
  have S4 := S3.keeps hk4
  have R4 := R3.keeps hk4
  refine (g_builtin (prog := prog) (w := w) (h := h4) S4 (x := "iter") (v := .builtin "iter") (by kernel_rfl) (by decide +kernel) (by decide) rfl rfl rfl rfl).use (Kp.refl _) fun fv h5 t5 hk5 hfv => ?_
  subst hfv
  refine PySem.callWith_builtin1 ?_
  have F5 := F4.keeps hk5
  have R5 := R4.keeps hk5
  refine (g_attr (prog := prog) (w := w) (h := h5) (g_nd (j := v) R5 hv (g_local rfl rfl F5.ns C.n1) (gv_int (g_local rfl rfl F5.ns hn)) (fun _ _ => rfl)) fun h' hk => f_su ((S4.keeps hk5).X.keeps hk) (R5.keeps hk) hv).use (Kp.refl _) fun lv h6 t6 hk6 hlv => ?_
  subst hlv
  have R6 := R5.keeps hk6
  obtain ⟨lvs, hlvs, hli⟩ := R6.succ v hv
  refine call_iter_list (s := { s with heap := h6, toks := t6 }) hlvs.isList ?_
  generalize hI : h6.objs.size = I
  generalize hH7 : h6.push { cls := .type "list_iterator", data := .fields #[.ref (S.isl v), .int 0 0] } = h7
  have nI : h6.get? I = none := hI ▸ none_size _
  have hk7 : Kp h6 h7 := hH7 ▸ Kp.push _ _
  have eI : h7.get? I = some (liObj (S.isl v) 0 #[]) := by (refine rwL hH7 ?_; refine rwL hI ?_); exact Heap.get?_push_size _ rfl
  show wpAny _ _ (getAttr (.ref I) "__next__" true) _ _ ⟨h7, _, _, _, _⟩
  refine li_attr (h := h7) eI ?_
  generalize hW : h7.objs.size = W
  generalize hH8 : h7.push (wrapObj I) = h8
  have nW : h7.get? W = none := hW ▸ none_size _
  have hk8 : Kp h7 h8 := hH8 ▸ Kp.push _ _
  have eW : h8.get? W = some (wrapObj I) := by (refine rwL hH8 ?_; refine rwL hW ?_); exact Heap.get?_push_size _ rfl
  have k38 : Kp h3 h8 := hk4.trans (hk5.trans (hk6.trans (hk7.trans hk8)))
  have it8 := it3.at fun o e => k38 _ o e
  have hil : its.length ≤ 900 := by (refine rwR D.len ?_); exact hz
  refine list_append_gives (s := ⟨h8, s.gens, s.drawn, t6 + 1, s.os⟩) it8 (by simp; (exact Nat.le_trans (by assumption) (by decide))) fun h9 it9 sb9 => ?_
  have k39 : ∀ b o, b ≠ c.itk → h3.get? b = some o → h9.get? b = some o := fun b o hb e => sb9.extBut b o hb (k38 _ _ e)
  have kf9 : Kf (frs outer) (fun _ => False) s0 h9 := kf3.kx (M := (· = c.itk)) k39 fun b q => C.dead b (.inr (.inr (.inl q)))
  have F9 : Fra (eC c.L) h9 m cm := fra_of_ns rfl (F3.ns.at' fun o e => k39 _ o (Ne.symm n4) e)
  refine el0_2 (hZ h9 kf9) fun S9 R9 => ?_
  have n3I : h3.get? I = none := dead_kp (hk4.trans (hk5.trans hk6)) nI
  have n3W : h3.get? W = none := dead_kp (hk4.trans (hk5.trans (hk6.trans hk7))) nW
  have neI : ∀ b o, h3.get? b = some o → b ≠ I ∧ b ≠ W := fun b o e => ⟨(fun q => by (exact nosome2 q (n3I) e)), (fun q => by (exact nosome2 q (n3W) e))⟩
  have itkI : c.itk ≠ I ∧ c.itk ≠ W := neI _ _ ei
  have eI9 : h9.get? I = some (liObj (S.isl v) 0 #[]) := sb9.extBut _ _ (Ne.symm itkI.1) (hk8 _ _ eI)
  have eW9 : h9.get? W = some (wrapObj I) := sb9.extBut _ _ (Ne.symm itkI.2) eW
  refine el1_3 D.dn fun kvs hkd hkv hkz => ?_
  have st9 : LI h9 c.sk (toI (path.map (·.1))) := D.st.at fun o e => k39 _ o n1 (k03 _ o (ne_of_cls c1 c3 (by decide)) e)
  have dn9 : h9.DictOf (intKind prog w) c.nm kvs := hkd.at fun o e => k39 _ o (ne_of_cls c4 c2 (by decide)) (k03 _ o (ne_of_cls c4 c3 (by decide)) e)
  obtain ⟨svs, hsvs, hsi⟩ := id st9
  have hsl : svs.length = path.length := by (refine rwR (IntsAre.len hsi) ?_; refine rwR (toI_len _) ?_; refine rwR (List.length_map _) ?_; with_reducible rfl)
  refine wpAny_execs_cons (wpAny_Assign_Subscript ?_)
  refine (gi_len (prog := prog) (w := w) (h := h9) (n_len S9 rfl rfl rfl rfl) (g_local rfl rfl F9.ns C.n2) hsvs.isList (by (refine rwR List.size_toArray ?_); lia)).use (Kp.refl _) fun lv h10 t10 hk10 hlv => ?_
  refine el1_1 hlv fun tl r1_ => ?_
  try clear hlv
  obtain rfl := r1_
  refine (g_local (prog := prog) (w := w) (h := h10) rfl rfl (F9.keeps hk10).ns C.n5).use (Kp.refl _) fun ov h11 t11 hk11 hov => ?_
  subst hov
  refine (g_local (prog := prog) (w := w) (h := h11) rfl rfl ((F9.keeps hk10).keeps hk11).ns hn).use (Kp.refl _) fun nv h12 t12 hk12 hnv => ?_
  subst hnv
  have k912 : Kp h9 h12 := hk10.trans (hk11.trans hk12)
  refine wpAny_setItem_pairs (k := (v : Int)) (intKind_is prog w _ _) (dn9.at fun o e => k912 _ o e) (fun h13 dn13 sb13 => ?_) (by (refine rwR sizeLine_eq ?_); lia)
  have k913 : ∀ b o, b ≠ c.nm → h9.get? b = some o → h13.get? b = some o := fun b o hb e => sb13.extBut b o hb (k912 _ _ e)
  have kf13 : Kf (frs outer) (fun _ => False) s0 h13 := kf9.kx (M := (· = c.nm)) k913 fun b q => C.dead b (.inr (.inr (.inr (.inr (.inl q)))))
  have F13 : Fra (eC c.L) h13 m cm := fra_of_ns rfl (F9.ns.at' fun o e => k913 _ o (Ne.symm n2) e)
  have st13 : LI h13 c.sk (toI (path.map (·.1))) := st9.at fun o e => k913 _ o (ne_of_cls c1 c4 (by decide)) e
  refine el2_1 st13.live fun ks xs es => ?_
  refine wpAny_execs_cons (wpAny_Expr_any (wpAny_Call_append rfl rfl rfl rfl ?_))
  refine (g_local (prog := prog) (w := w) (h := h13) rfl rfl F13.ns C.n2).use (Kp.refl _) fun ov h14 t14 hk14 hov => ?_
  subst hov
  refine ⟨c.sk, xs, rfl, ⟨_, ks, hk14 _ _ es, rfl, rfl, rfl⟩, ?_⟩
  refine (g_local (prog := prog) (w := w) (h := h14) rfl rfl (F13.keeps hk14).ns hn).use (Kp.refl _) fun nv h15 t15 hk15 hnv => ?_
  subst hnv
  refine list_append_li (s := { s with heap := h15, toks := t15 }) ((st13.keeps hk14).keeps hk15) (by (refine rwR (toI_len _) ?_; refine rwR (List.length_map _) ?_); (exact Nat.le_trans (by assumption) (by decide))) fun h16 st16 sb16 => ?_
  have k1316 : ∀ b o, b ≠ c.sk → h13.get? b = some o → h16.get? b = some o := fun b o hb e => sb16.extBut b o hb (hk15 _ _ (hk14 _ _ e))
  refine wpAny_execs_nil ?_
  have cI9 : ∃ o, h9.get? I = some o ∧ o.cls = .type "list_iterator" := ⟨_, eI9, rfl⟩
  have cW9 : ∃ o, h9.get? W = some o ∧ o.cls = .type "method-wrapper" := ⟨_, eW9, rfl⟩
  have k916 : ∀ b o, b ≠ c.nm → b ≠ c.sk → h9.get? b = some o → h16.get? b = some o := fun b o h1 h2 e => k1316 b o h2 (k913 b o h1 e)
  have cl9 : (∃ o, h9.get? c.sk = some o ∧ o.cls = .type "list") ∧ (∃ o, h9.get? c.nm = some o ∧ o.cls = .type "dict") ∧ (∃ o, h9.get? c.itk = some o ∧ o.cls = .type "list") := by
    refine ⟨?_, ?_, ?_⟩
    · obtain ⟨k, xs, e⟩ := st9.live; exact ⟨_, e, rfl⟩
    · obtain ⟨o, e, hc⟩ := DictOf.obj dn9; exact ⟨_, e, hc⟩
    · obtain ⟨k, e⟩ := it9; exact ⟨_, e, rfl⟩
  have old : ∀ q ∈ its, ∀ o, (s.heap.get? q.1 = some o → h16.get? q.1 = some o) ∧ (s.heap.get? q.2 = some o → h16.get? q.2 = some o) := fun q hq o => by
    have cq := c5 q hq
    exact ⟨fun e => k916 _ o (ne_of_cls cq.1 c4 (by decide)) (ne_of_cls cq.1 c1 (by decide)) (k39 _ o (ne_of_cls cq.1 c2 (by decide)) (k03 _ o (ne_of_cls cq.1 c3 (by decide)) e)),
      fun e => k916 _ o (ne_of_cls cq.2 c4 (by decide)) (ne_of_cls cq.2 c1 (by decide)) (k39 _ o (ne_of_cls cq.2 c2 (by decide)) (k03 _ o (ne_of_cls cq.2 c3 (by decide)) e))⟩
  have LI3 : ∃ o, h3.get? c.L = some o := F3.live c.L own_locals
  refine k h16 t15 (its ++ [(W, I)]) ⟨kf13.kx (M := (· = c.sk)) k1316 fun b q => C.dead b (.inr (.inl q)), fra_of_ns rfl (F13.ns.at' fun o e => k1316 _ o (Ne.symm n3) e), C.n1, C.n2, C.n3, C.n4, C.n5, ?_, ?_⟩
  · refine ⟨?_, ?_, ?_, ?_, by simp [D.len], ?_, ?_, ?_, D.ne, D.mo, ?_⟩
    · (replace st16 := (toI_append _ _) ▸ st16); simpa using st16
    · have := it9.at fun o e => k916 _ o (ne_of_cls cl9.2.2 cl9.2.1 (by decide)) (Ne.symm n1) e
      simpa using this
    · intro i q e
      refine Or.elim (Nat.lt_trichotomy i its.length) (fun hi => ?_) fun zo0 => Or.elim zo0 (fun hi => ?_) fun hi => ?_
      · (replace e := (List.getElem?_append_left hi) ▸ e)
        exact (old q (List.mem_of_getElem? e) _).1 (D.wr i q e)
      · subst hi; simp at e; subst e
        exact k916 _ _ (ne_of_cls cW9 cl9.2.1 (by decide)) (ne_of_cls cW9 cl9.1 (by decide)) eW9
      · have : (its ++ [(W, I)])[i]? = none := List.getElem?_eq_none (by simp; lia)
        (exact nosome (this) e)
    · intro i q x e1 e2
      refine Or.elim (Nat.lt_trichotomy i its.length) (fun hi => ?_) fun zo0 => Or.elim zo0 (fun hi => ?_) fun hi => ?_
      · (replace e1 := (List.getElem?_append_left hi) ▸ e1)
        (replace e2 := (List.getElem?_append_left (by (refine rwL D.len ?_); exact hi)) ▸ e2)
        refine el1_1 (D.li i q x e1 e2) fun sl e3 => ?_
        exact ⟨sl, (old q (List.mem_of_getElem? e1) _).2 e3⟩
      · subst hi
        simp at e1
        (replace e2 := D.len ▸ e2)
        simp at e2
        subst e1 e2
        exact ⟨#[], k916 _ _ (ne_of_cls cI9 cl9.2.1 (by decide)) (ne_of_cls cI9 cl9.1 (by decide)) eI9⟩
      · have : (its ++ [(W, I)])[i]? = none := List.getElem?_eq_none (by simp; lia)
        (exact nosome (this) e1)
    · (refine rwR List.map_append ?_)
      refine List.nodup_append.mpr ⟨D.nd, by simp, fun a ha b hb => ?_⟩
      simp at hb
      subst hb
      refine el1_2 (List.mem_map.mp ha) fun q hq r2_ => ?_
      obtain rfl := r2_
      refine el1_2 ((c5 q hq).2) fun o eo _ => ?_
      exact (neI _ _ (k03 _ o (ne_of_cls (c5 q hq).2 c3 (by decide)) eo)).1
    · refine ⟨_, SetOf.at set3 fun o e => k916 _ o ?_ ?_ (sb9.extBut _ o ?_ (k38 _ _ e)), ?_⟩
      · exact ne_of_cls c3 c4 (by decide)
      · exact ne_of_cls c3 c1 (by decide)
      · exact ne_of_cls c3 c2 (by decide)
      · (refine rwR (if_neg (by rw [hun]; decide)) ?_)
        have := unseen_add (S := S) (seen := seen) hv hun
        lia
    · refine ⟨_, dn13.at fun o e => k1316 _ o (ne_of_cls c4 c1 (by decide)) e, fun u => ?_, Nat.le_trans (stored_length_le _ _ _) (by simp; lia)⟩
      (refine rwR valueAt_stored ?_)
      have := hkv u
      simp only [Bool.or_eq_true, decide_eq_true_eq, List.map_append, List.mem_append, List.map_cons, List.map_nil, List.mem_singleton]
      (refine rwR (propext this) ?_)
      exact or_congr Iff.rfl ⟨fun z => by exact_mod_cast z, fun z => by exact_mod_cast z⟩
    · intro q hq
      refine Or.elim (List.mem_append.mp hq) (fun hq => ?_) fun hq => ?_
      · exact D.itL q hq
      · (refine rwR (List.mem_singleton.mp hq) ?_)
        refine el1_1 LI3 fun o eo => ?_
        try clear LI3
        exact ⟨fun z => (neI _ _ eo).2 z.symm, fun z => (neI _ _ eo).1 z.symm⟩
  · have s0I : s0.get? I = none := by
      cases e : s0.get? I with
      | none => rfl
      | some o => obtain ⟨sl, e2⟩ := kf3.live (fun q => q) e; (exact nosome (n3I) e2)
    have s0W : s0.get? W = none := by
      cases e : s0.get? W with
      | none => rfl
      | some o => obtain ⟨sl, e2⟩ := kf3.live (fun q => q) e; (exact nosome (n3W) e2)
    rintro b (q | q | q | q | q | ⟨x, hx, q⟩)
    · exact C.dead b (.inl q)
    · exact C.dead b (.inr (.inl q))
    · exact C.dead b (.inr (.inr (.inl q)))
    · exact C.dead b (.inr (.inr (.inr (.inl q))))
    · exact C.dead b (.inr (.inr (.inr (.inr (.inl q)))))
    · refine Or.elim (List.mem_append.mp hx) (fun hx => ?_) fun hx => ?_
      · exact C.dead b (.inr (.inr (.inr (.inr (.inr ⟨x, hx, q⟩)))))
      · (replace q := (List.mem_singleton.mp hx) ▸ q)
        rcases q with q | q
        · (refine rwR q ?_); exact s0W
        · (refine rwR q ?_); exact s0I
end
end Mine
end
section
open PySem PySem.Calls PySem.W PyProof.Rows
set_option maxRecDepth 100000
set_option genInjectivity false
set_option genSizeOf false
set_option genSizeOfSpec false
namespace Mine
noncomputable def unS (S : Sor) (seen : Int → Bool) : Nat := ((S.keys.filter fun (v : Nat) => !seen (v : Int)).map fun v => (S.su v).length + 2).sum
theorem un_add {S : Sor} {seen : Int → Bool} {v : Nat} (hv : v ∈ S.keys) (hun : seen (v : Int) = false) : unS S (seenAdd seen v) + ((S.su v).length + 2) ≤ unS S seen := by
  unfold unS
  have key : ∀ l : List Nat, ((l.filter fun (u : Nat) => !seenAdd seen v (u : Int)).map fun v => (S.su v).length + 2).sum ≤ ((l.filter fun (u : Nat) => !seen (u : Int)).map fun v => (S.su v).length + 2).sum := by
    intro l
    induction l with
    | nil => simp
    | cons x r ih =>
      (refine rwR List.filter_cons ?_; refine rwR List.filter_cons ?_)
      by_cases h1 : seen (x : Int) = true
      · (refine rwR (if_neg (by simp [seenAdd, h1])) ?_; refine rwR (if_neg (by simp [h1])) ?_); exact ih
      · (refine rwR (if_pos (show (!seen (x : Int)) = true by simpa using h1)) ?_)
        split <;> simp <;> lia
  have : ∀ l : List Nat, v ∈ l → ((l.filter fun (u : Nat) => !seenAdd seen v (u : Int)).map fun v => (S.su v).length + 2).sum + ((S.su v).length + 2) ≤ ((l.filter fun (u : Nat) => !seen (u : Int)).map fun v => (S.su v).length + 2).sum := by
    intro l
    induction l with
    | nil => intro h; cases h
    | cons x r ih =>
      intro h
      (refine rwR List.filter_cons ?_; refine rwR List.filter_cons ?_)
      rcases List.mem_cons.mp h with rfl | h
      · (refine rwR (if_neg (by simp [seenAdd])) ?_; refine rwR (if_pos (by simp [hun])) ?_)
        have := key r
        simp only [List.map_cons, List.sum_cons]
        lia
      · have := ih h
        by_cases h1 : seen (x : Int) = true
        · (refine rwR (if_neg (by simp [seenAdd, h1])) ?_; refine rwR (if_neg (by simp [h1])) ?_); exact this
        · (refine rwR (if_pos (show (!seen (x : Int)) = true by simpa using h1)) ?_)
          split <;> simp only [List.map_cons, List.sum_cons] <;> lia
  exact this _ hv
section
variable {prog : Program} {w : World} {A : Around} {E : Value → Shared → Prop} {s : Shared} {s0 : Heap} {outer : List Env} {S : Sor} {c : CyA} {cm : Str → Option Value} {rk : Nat → Nat}
noncomputable def Head (S : Sor) (path : List (Nat × Nat)) (seen : Int → Bool) (v : Nat) : Prop := (path = [] ∧ seen (v : Int) = false) ∨ ∃ p0 u q, path = p0 ++ [(u, q)] ∧ v ∈ S.su u
theorem Head.above {path : List (Nat × Nat)} {seen : Int → Bool} {v : Nat} (H : Head S path seen v) (P : PV S rk path seen) (hrk : ∀ a ∈ S.keys, ∀ b ∈ S.su a, rk a < rk b) : ∀ x ∈ path, rk x.1 < rk v := by
  rcases H with ⟨rfl, _⟩ | ⟨p0, u, q, rfl, hu⟩
  · intro x hx; cases hx
  · have hlt : rk u < rk v := hrk u (P.key (u, q) (by simp)) v hu
    intro x hx
    refine Or.elim (List.mem_append.mp hx) (fun hx => ?_) fun hx => ?_
    · exact Nat.lt_trans ((List.pairwise_append.mp P.rank).2.2 x hx (u, q) (by simp)) hlt
    · (refine rwR (List.mem_singleton.mp hx) ?_); exact hlt
theorem w1_run {m : Str → Option Value} {seen : Int → Bool} {v : Nat} {tv : Tok} {Q : Flow → Shared → Prop} (hA : Ok 5 A) (hfr : A.frames = some (eC c.L :: outer)) (hF0 : s0.FunFrames noHeap outer)
    (hZ : ∀ h', Kf (frs outer) (fun _ => False) s0 h' → Sta w h' ∧ SorAt prog w h' S) (hzk : S.keys.length ≤ 900) (hrk : ∀ a ∈ S.keys, ∀ b ∈ S.su a, rk a < rk b) (hsu : ∀ a ∈ S.keys, ∀ b ∈ S.su a, b ∈ S.keys)
    (C : CS prog w s0 outer S c cm s.heap m [] [] seen) (hn : m "node" = some (.int v tv)) (hv : v ∈ S.keys) (hun : seen (v : Int) = false)
    (k : ∀ h' tk m' seen', CS prog w s0 outer S c cm h' m' [] [] seen' → Q .next { s with heap := h', toks := tk }) :
    wpAny (model prog w) A (exec cyW1 (eC c.L)) Q E s := by
  show wpAny _ _ (exec (.While _ _ _ _) (eC c.L)) _ _ _
  rw [exec_While]
  refine wpAny_bind (wpAny_standAt (wpAny_runOwn ?_))
  refine codeAny_whileLoop (fun n s' => ∃ h' tk m' path' its' seen' v' t', s' = { s with heap := h', toks := tk } ∧ CS prog w s0 outer S c cm h' m' path' its' seen' ∧ PV S rk path' seen' ∧ m' "node" = some (.int (v' : Nat) t') ∧ v' ∈ S.keys ∧ Head S path' seen' v' ∧ rem S path' + unS S seen' ≤ n) ?_ (rem S [] + unS S seen)
    ⟨s.heap, s.toks, m, [], [], seen, v, tv, rfl, C, ⟨by simp, by simp, .nil, by simpa using List.length_filter_le _ _⟩, hn, hv, .inl ⟨rfl, hun⟩, Nat.le_refl _⟩
  intro n s' z1_
  refine el8_7 z1_ fun h1 tk1 m1 path its seen v tv r2_ C1 P1 hn1 hv1 H1 hmu => ?_
  try clear z1_
  obtain rfl := r2_
  refine (gb_plain (prog := prog) (w := w) (h := h1) (g_bool (b := true)) rfl).useV (Kp.refl _) fun h2 tk2 hk2 => ?_
  (refine rwR (if_pos rfl) ?_)
  have C2 := C1.keeps hk2
  have hab := H1.above P1 hrk
  have hvp : v ∉ path.map (·.1) := fun h => by obtain ⟨x, hx, e⟩ := List.mem_map.mp h; have := hab x hx; (replace this := e ▸ this); exact Nat.lt_irrefl _ this
  show wpAny _ _ (execs [cyIf, cyW2] (eC c.L)) _ _ _
  have tail : ∀ h3 tk3 path3 its3 seen3, CS prog w s0 outer S c cm h3 m1 path3 its3 seen3 → PV S rk path3 seen3 → rem S path3 + unS S seen3 ≤ n →
      wpAny (model prog w) A (execs [cyW2] (eC c.L)) (fun f s₃ => match f with
        | .next | .cont => ∃ m, m < n ∧ ∃ h' tk m' path' its' seen' v' t', s₃ = { s with heap := h', toks := tk } ∧ CS prog w s0 outer S c cm h' m' path' its' seen' ∧ PV S rk path' seen' ∧ m' "node" = some (.int (v' : Nat) t') ∧ v' ∈ S.keys ∧ Head S path' seen' v' ∧ rem S path' + unS S seen' ≤ m
        | .brk => Q .next s₃
        | .ret v => Q (.ret v) s₃) (notedBy (model prog w) A (eC c.L) fun e s' => cameBackBy (model prog w) A (eC c.L) E e s') { s with heap := h3, toks := tk3 } := by
    intro h3 tk3 path3 its3 seen3 C3 P3 hmu3
    refine wpAny_execs_cons (w2_run (s := { s with heap := h3, toks := tk3 }) hA hfr hF0 hZ hzk C3 P3 ?_ ?_)
    · intro h' tk path0 its' u p y t ey C' P' hr
      refine wpAny_execs_nil ?_
      have huk : u ∈ S.keys := P'.key (u, p + 1) (by simp)
      refine ⟨rem S (path0 ++ [(u, p + 1)]) + unS S seen3, by lia, h', tk, _, _, its', seen3, y, t, rfl, C', P', upd_eq, hsu u huk y (List.mem_of_getElem? ey), .inr ⟨path0, u, p + 1, rfl, List.mem_of_getElem? ey⟩, Nat.le_refl _⟩
    · intro h' tk C'
      exact k h' tk m1 seen3 C'
  refine wpAny_execs_cons (wpAny_If (wpAny_isTrue_Compare1 ?_))
  refine (g_local (prog := prog) (w := w) (h := h2) rfl rfl C2.fra.ns hn1).use (Kp.refl _) fun nv h3 tk3 hk3 hnv => ?_
  subst hnv
  refine (g_local (prog := prog) (w := w) (h := h3) rfl rfl (C2.keeps hk3).fra.ns C2.n4).use (Kp.refl _) fun sv h4 tk4 hk4 hsv => ?_
  subst hsv
  have C4 := (C2.keeps hk3).keeps hk4
  refine el1_2 C4.dfs.se fun ns hset _ => ?_
  refine wpAny_inSet_of (s := { s with heap := h4, toks := tk4 }) (k := (v : Int)) (intKind_is prog w _ _) rfl hset (wpAny_truthy_bool ?_)
  cases hs : seen (v : Int) with
  | true =>
    refine wpAny_execs_cons (wpAny_If (wpAny_isTrue_Compare1 ?_))
    refine (g_local (prog := prog) (w := w) (h := h4) rfl rfl C4.fra.ns hn1).use (Kp.refl _) fun nv h5 tk5 hk5 hnv => ?_
    subst hnv
    refine (g_local (prog := prog) (w := w) (h := h5) rfl rfl (C4.keeps hk5).fra.ns C4.n5).use (Kp.refl _) fun sv h6 tk6 hk6 hsv => ?_
    subst hsv
    have C6 := (C4.keeps hk5).keeps hk6
    refine el1_3 C6.dfs.dn fun kvs hkd hkv _ => ?_
    refine wpAny_in_of (s := { s with heap := h6, toks := tk6 }) (k := (v : Int)) (intKind_is prog w _ _) C6.dfs.mo hkd.mapOf (wpAny_truthy_bool ?_)
    have hno : (valueAt kvs (v : Int)).isSome = false := by
      cases e : (valueAt kvs (v : Int)).isSome with
      | false => rfl
      | true => exact absurd ((hkv v).mp e) hvp
    (refine rwR hno ?_; refine rwR (if_neg (by decide)) ?_)
    refine wpAny_execs_nil ?_
    refine wpAny_execs_nil ?_
    exact tail h6 _ path its seen C6 P1 hmu
  | false =>
    have hpl := P1.len
    have hua := unseen_add (S := S) hv1 hs
    refine push_run (s := { s with heap := h4, toks := tk4 + 1 }) hA hZ C4 (by lia) hzk hs hn1 hv1 ?_
    intro h' tk its' C'
    have hP : PV S rk (path ++ [(v, 0)]) (seenAdd seen v) := by
      refine ⟨fun y hy => ?_, fun y hy => ?_, ?_, by simp; lia⟩
      · refine Or.elim (List.mem_append.mp hy) (fun hy => ?_) fun hy => ?_
        · exact P1.key y hy
        · (refine rwR (List.mem_singleton.mp hy) ?_); exact hv1
      · refine Or.elim (List.mem_append.mp hy) (fun hy => ?_) fun hy => ?_
        · unfold seenAdd; (refine rwR (P1.see y hy) ?_); rfl
        · (refine rwR (List.mem_singleton.mp hy) ?_); simp [seenAdd]
      · exact List.pairwise_append.mpr ⟨P1.rank, by simp, fun a ha b hb => by (refine rwR (List.mem_singleton.mp hb) ?_); exact hab a ha⟩
    have hu := un_add (S := S) hv1 hs
    refine tail h' tk _ its' _ C' hP ?_
    (refine rwR (rem_snoc _ _ _) ?_)
    dsimp only
    lia
end
end Mine
end
section
open PySem PySem.Calls PySem.W PyProof.Rows
set_option maxRecDepth 100000
set_option genInjectivity false
set_option genSizeOf false
set_option genSizeOfSpec false
namespace Mine
section
variable {prog : Program} {w : World} {A : Around} {E : Value → Shared → Prop} {s : Shared}
theorem itr_dict {h : Heap} {d : Addr} {kvs : List (Int × Value)} (hh : A.handled = none) (hm : (d == sysModules) = false) (hd : h.DictOf (intKind prog w) d kvs) :
    ItrS prog w A h (.ref d) kvs.length (fun i v => ∃ k x, kvs[i]? = some (k, x) ∧ (intKind prog w).is k v = true) [d] := fun s E Q hk k => by
  have hd' : s.heap.DictOf (intKind prog w) d kvs := hd.at fun o e => hk _ o e
  refine el1_1 hd'.dictAt fun ep ha => ?_
  refine el1_2 (DictOf.obj hd') fun od eod _ => ?_
  refine wpAny_pyIter_dict hm ha ?_
  refine k _ _ _ _ _ _ (Walks.dictKeys hh s.heap.objs.size d (ne_size eod) kvs ep) ⟨⟨_, Heap.get?_push_size _ rfl, rfl, rfl⟩, ha.at' fun o e => Heap.get?_push_of_some _ e⟩ (Kp.push _ _) ?_ ?_ ?_ ?_ ?_
  · intro b hb; (refine rwR (Heap.size_push _ _) ?_); simp at hb; rcases hb with rfl | rfl
    · exact Nat.lt_succ_self _
    · exact Nat.lt_succ_of_lt (Heap.lt_size eod)
  · intro b hb; simp at hb; rcases hb with rfl | rfl
    · exact .inl (none_size _)
    · exact .inr (by simp)
  · intro b hb; simp at hb; subst hb; exact none_size _
  · rintro i h' ⟨⟨o, ho, _⟩, x⟩ b hb; simp at hb; rcases hb with rfl | rfl
    · exact ⟨o, ho⟩
    · obtain ⟨o2, ho2, _⟩ := DictOf.obj x.dictOf; exact ⟨o2, ho2⟩
  · rintro i h' ⟨⟨o, ho, hc, _⟩, _⟩; exact ⟨o, _, ho, hc, by decide⟩
theorem is_int {k : Int} {v : Value} (h : (intKind prog w).is k v = true) : ∃ t, v = .int k t := by
  simp [intKind] at h; exact Value.isInt_shape h
theorem SetOf.new (h : Heap) (led : Bool) : (h.push { cls := .type "set", dict := none, data := .set #[] 0 (.fresh 0 0 led) }).SetOf (intKind prog w) h.objs.size (fun _ => false) 0 := by
  refine ⟨_, #[], 0, .fresh 0 0 led, Heap.get?_push_size _ rfl, ⟨rfl, rfl, rfl⟩, rfl, fun e he => by simp at he, fun k => by simp, by decide, ?_, rfl⟩
  cases led <;> rfl
variable {s0 : Heap} {outer : List Env} {S : Sor} {c : CyA} {cm m : Str → Option Value} {h : Heap} {seen : Int → Bool}
noncomputable def CyA.list (c : CyA) : List Addr := [c.L, c.sk, c.itk, c.sn, c.nm]
theorem own_nil {b : Addr} (h : b = c.L ∨ c.own [] b) : b ∈ c.list := by
  rcases h with q | q | q | q | q | ⟨x, hx, _⟩
  · simp [CyA.list, q]
  · simp [CyA.list, q]
  · simp [CyA.list, q]
  · simp [CyA.list, q]
  · simp [CyA.list, q]
  · cases hx
theorem list_own {b : Addr} (h : b ∈ c.list) : b = c.L ∨ c.own [] b := by
  simp [CyA.list] at h
  (refine Or.elim h (fun q => ?_) fun zo0 => Or.elim zo0 (fun q => ?_) fun zo1 => Or.elim zo1 (fun q => ?_) fun zo2 => Or.elim zo2 (fun q => ?_) fun q => ?_) <;> clear h
  · exact .inl q
  · exact .inr (.inl q)
  · exact .inr (.inr (.inl q))
  · exact .inr (.inr (.inr (.inl q)))
  · exact .inr (.inr (.inr (.inr (.inl q))))
theorem CS.rebase (C : CS prog w s0 outer S c cm h m [] [] seen) : CS prog w (hideAll h c.list) outer S c cm h m [] [] seen :=
  ⟨⟨fun b o _ _ e => of_hideAll _ e, fun b o _ _ e => ⟨o.slots, of_hideAll _ e⟩⟩, C.fra, C.n1, C.n2, C.n3, C.n4, C.n5, C.dfs, fun b hb => hideAll_none _ (own_nil hb)⟩
theorem CS.kfback {h' : Heap} (C : CS prog w s0 outer S c cm h m [] [] seen) (x : Kf (frs outer) (fun _ => False) (hideAll h c.list) h') : Kf (frs outer) (fun _ => False) s0 h' := by
  have nl : ∀ b o, s0.get? b = some o → b ∉ c.list := fun b o e hb => by (exact nosome (C.dead b (list_own hb)) e)
  refine ⟨fun b o _ hf e => x.keep b o id hf (hideAll_get _ (C.kf.keep b o id hf e) (nl b o e)), fun b o hf _ e => ?_⟩
  refine el1_1 (C.kf.slot b o hf id e) fun sl e1 => ?_
  refine el1_1 (x.slot b _ hf id (hideAll_get _ e1 (nl b o e))) fun sl2 e2 => ?_
  exact ⟨sl2, e2⟩
theorem CS.backTo {h' : Heap} {m' : Str → Option Value} {seen' : Int → Bool} (C : CS prog w s0 outer S c cm h m [] [] seen) (C' : CS prog w (hideAll h c.list) outer S c cm h' m' [] [] seen') : CS prog w s0 outer S c cm h' m' [] [] seen' :=
  ⟨C.kfback C'.kf, C'.fra, C'.n1, C'.n2, C'.n3, C'.n4, C'.n5, C'.dfs, C.dead⟩
theorem CS.ff' (C : CS prog w s0 outer S c cm h m [] [] seen) (hF0 : s0.FunFrames noHeap outer) : (hideAll h c.list).FunFrames noHeap outer := by
  have h1 : h.FunFrames noHeap outer := funFrames_kf C.kf hF0 fun _ _ q => q
  have : ∀ l : List Env, (∀ b ∈ frs l, b ∉ c.list) → h.FunFrames noHeap l → (hideAll h c.list).FunFrames noHeap l := by
    intro l
    induction l with
    | nil => intro _ _; trivial
    | cons env l ih =>
      intro hb z1_
      refine el0_3 z1_ fun hk q2_ hr => ?_
      try clear z1_
      refine el2_4 q2_ fun L o hf hn ho hd => ?_
      try clear q2_
      refine ⟨hk, ⟨L, o, hf, hn, hideAll_get _ ho (hb L (by simp [frs, List.filterMap_cons, hf])), hd⟩, ih (fun b hb' => hb b ?_) hr⟩
      simp only [frs, List.filterMap_cons, hf]
      exact List.mem_cons_of_mem _ hb'
  refine this outer (fun b hb hl => ?_) h1
  obtain ⟨_, o, e, _⟩ := hF0.mem hb
  (exact nosome (C.dead b (list_own hl)) e)
end
end Mine
end
section
open PySem PySem.Calls PySem.W PyProof.Rows
set_option maxRecDepth 100000
set_option genInjectivity false
set_option genSizeOf false
set_option genSizeOfSpec false
namespace Mine
section
variable {prog : Program} {w : World} {A : Around} {E : Value → Shared → Prop} {s : Shared} {s0 : Heap} {outer : List Env} {S : Sor} {c : CyA} {cm m : Str → Option Value} {h : Heap} {seen : Int → Bool} {rk : Nat → Nat}
theorem for_run {Q : Flow → Shared → Prop} (hA : Ok 5 A) (hfr : A.frames = some (eC c.L :: outer)) (hF0 : s0.FunFrames noHeap outer)
    (hZ : ∀ h', Kf (frs outer) (fun _ => False) s0 h' → Sta w h' ∧ SorAt prog w h' S) (hoff : ∀ b ∈ frs outer, ¬ S.fp b) (hlv0 : Live S.fp s0) (hzk : S.keys.length ≤ 900) (hrk : ∀ a ∈ S.keys, ∀ b ∈ S.su a, rk a < rk b) (hsu : ∀ a ∈ S.keys, ∀ b ∈ S.su a, b ∈ S.keys)
    (C : CS prog w s0 outer S c cm s.heap m [] [] seen)
    (k : ∀ h' tk m' seen', CS prog w s0 outer S c cm h' m' [] [] seen' → Q .next { s with heap := h', toks := tk }) :
    wpAny (model prog w) A (exec ((bodyOf (sorS 8)).getD 5 ps) (eC c.L)) Q E s := by
  refine el0_2 (hZ s.heap C.kf) fun S0 R0 => ?_
  have fnd : S.fp S.nd := .inr (.inr (.inl rfl))
  have ownlive : ∀ {h' : Heap} {m' : Str → Option Value} {seen' : Int → Bool}, CS prog w s0 outer S c cm h' m' [] [] seen' → ∀ b ∈ c.list, ∃ o, h'.get? b = some o := fun C' b hb => by
    rcases list_own hb with rfl | q
    · exact C'.fra.live _ own_locals
    · exact C'.dfs.live b q
  refine for_rule (h := s.heap) (n := (S.keys.map fun (j : Nat) => ((j : Int), Value.ref (S.ia j))).length) (P := fun i v => ∃ k x, (S.keys.map fun (j : Nat) => ((j : Int), Value.ref (S.ia j)))[i]? = some (k, x) ∧ (intKind prog w).is k v = true) (src := [S.nd])
    (fun Pr Wr i s₁ => ∃ h₁ tk m₁ seen₁, s₁ = { s with heap := h₁, toks := tk } ∧ CS prog w s0 outer S c cm h₁ m₁ [] [] seen₁ ∧ (∀ b, Wr b → Pr b) ∧ (∀ b, Wr b → s0.get? b = none) ∧ (∀ b, Pr b → b ∉ c.list) ∧ (∀ b, Pr b → b ∉ frs outer))
    (g_local rfl rfl C.fra.ns C.n1) (Kp.refl _) (fun xv h1 hk hx => by subst hx; exact itr_dict hA.hd R0.mods (R0.nodes.at fun o e => hk _ o e)) (fun _ => rfl) ?_ ?_ ?_ ?_
  · intro Pr Wr i s₁ h' tk' z1_ hk
    refine el4_6 z1_ fun h₁ tk m₁ seen₁ r2_ C₁ hWP hWd hPl hPf => ?_
    try clear z1_
    obtain rfl := r2_
    have hk : ∀ b o, ¬ Wr b → h₁.get? b = some o → h'.get? b = some o := hk
    have ok : ∀ b o, b ∈ c.list → h₁.get? b = some o → h'.get? b = some o := fun b o hb e => hk b o (fun q => hPl b (hWP b q) hb) e
    refine ⟨h', tk', m₁, seen₁, rfl, ⟨C₁.kf.kx (M := Wr) (fun b o hb e => hk b o hb e) hWd, C₁.fra.frame fun b o hb e => ok b o ((show b = c.L from own_one rfl hb) ▸ List.mem_cons_self) e, C₁.n1, C₁.n2, C₁.n3, C₁.n4, C₁.n5, C₁.dfs.frame fun b o hb e => ok b o (own_nil (.inr hb)) e, C₁.dead⟩, hWP, hWd, hPl, hPf⟩
  · intro Pr Wr xv h₀ h₁ tk hk₀ hx hk₁ hw hpr hlt hwf
    have C₁ := C.keeps (hk₀.trans hk₁)
    have C₀ := C.keeps hk₀
    refine ⟨h₁, tk, m, seen, rfl, C₁, hw, fun b hb => ?_, fun b hb hl => ?_, fun b hb hl => ?_⟩
    · cases e : s0.get? b with
      | none => rfl
      | some o => obtain ⟨sl, e2⟩ := C₀.kf.live (fun q => q) e; (exact nosome (hwf b hb) e2)
    · refine Or.elim (hpr b hb) (fun q => ?_) fun q => ?_
      · (replace hl := (List.mem_singleton.mp q) ▸ hl)
        refine el1_1 (hlv0 _ fnd) fun o e => ?_
        (exact nosome (C.dead _ (list_own hl)) e)
      · obtain ⟨o, e⟩ := ownlive C₀ b hl; (exact nosome (q) e)
    · refine Or.elim (hpr b hb) (fun q => ?_) fun q => ?_
      · (replace hl := (List.mem_singleton.mp q) ▸ hl); exact hoff _ hl fnd
      · obtain ⟨_, o, e, _⟩ := hF0.mem hl
        obtain ⟨sl, e2⟩ := C₀.kf.live (fun q => q) e
        (exact nosome (q) e2)
  · intro Pr Wr i v s₁ E' hi z3_ z4_ hPv
    refine el2_2 z3_ fun kk x ex hkv => ?_
    try clear z3_
    refine el4_6 z4_ fun h₁ tk m₁ seen₁ r5_ C₁ hWP hWd hPl hPf => ?_
    try clear z4_
    obtain rfl := r5_
    refine el1_1 (is_int hkv) fun t r6_ => ?_
    obtain rfl := r6_
    obtain ⟨j, ej, hj1, hj2⟩ : ∃ j : Nat, S.keys[i]? = some j ∧ (j : Int) = kk ∧ Value.ref (S.ia j) = x := by simpa using ex
    subst hj1
    have hjk : j ∈ S.keys := List.mem_of_getElem? ej
    refine wpAny_assign_Name (fra_local C₁.fra rfl rfl fun h₂ tk₂ F₂ sb₂ => ?_)
    have C₂ := C₁.store F₂ sb₂ C₁.off
    have hn2 : upd m₁ "node" (.int (j : Nat) t) "node" = some (.int (j : Nat) t) := upd_eq
    generalize upd m₁ "node" (.int (j : Nat) t) = m₂ at C₂ hn2
    have kept12 : ∀ b o, Pr b → h₁.get? b = some o → h₂.get? b = some o := fun b o hb e => sb₂.extBut b o (fun q => hPl b hb ((show b = c.L from q) ▸ List.mem_cons_self)) e
    have done : ∀ h3 tk3 m3 seen3, CS prog w (hideAll h₂ c.list) outer S c cm h3 m3 [] [] seen3 →
        (∃ h₁ tk m₁ seen₁, ({ s with heap := h3, toks := tk3 } : Shared) = { s with heap := h₁, toks := tk } ∧ CS prog w s0 outer S c cm h₁ m₁ [] [] seen₁ ∧ (∀ b, Wr b → Pr b) ∧ (∀ b, Wr b → s0.get? b = none) ∧ (∀ b, Pr b → b ∉ c.list) ∧ (∀ b, Pr b → b ∉ frs outer)) ∧ ∀ b o, Pr b → h₁.get? b = some o → h3.get? b = some o := by
      intro h3 tk3 m3 seen3 C3
      refine ⟨⟨h3, tk3, m3, seen3, rfl, C₂.backTo C3, hWP, hWd, hPl, hPf⟩, fun b o hb e => ?_⟩
      exact C3.kf.keep b o id (hPf b hb) (hideAll_get _ (kept12 b o hb e) (hPl b hb))
    have CR := C₂.rebase
    show wpAny _ _ (execs [(whBody ((bodyOf (sorS 8)).getD 5 ps)).getD 0 ps, cyW1] (eC c.L)) _ _ _
    refine wpAny_execs_cons (wpAny_If (wpAny_isTrue_Compare1 ?_))
    refine (g_local (prog := prog) (w := w) (h := h₂) rfl rfl CR.fra.ns hn2).use (Kp.refl _) fun nv h3 tk3 hk3 hnv => ?_
    subst hnv
    refine (g_local (prog := prog) (w := w) (h := h3) rfl rfl (CR.keeps hk3).fra.ns CR.n4).use (Kp.refl _) fun sv h4 tk4 hk4 hsv => ?_
    subst hsv
    have C4 := (CR.keeps hk3).keeps hk4
    refine el1_2 C4.dfs.se fun ns hset _ => ?_
    refine wpAny_inSet_of (s := { s with heap := h4, toks := tk4 }) (k := (j : Int)) (intKind_is prog w _ _) rfl hset (wpAny_truthy_bool ?_)
    cases hs : seen₁ (j : Int) with
    | true =>
      refine wpAny_execs_cons (wpAny_Continue ?_)
      exact done h4 _ m₂ seen₁ C4
    | false =>
      refine wpAny_execs_nil ?_
      refine wpAny_execs_cons (w1_run (s := { s with heap := h4, toks := tk4 + 1 }) (rk := rk) hA hfr (C₂.ff' hF0) (fun h' x => hZ h' (C₂.kfback x)) hzk hrk hsu C4 hn2 hjk hs ?_)
      intro h' tk' m' seen' C'
      refine wpAny_execs_nil ?_
      exact done h' tk' m' seen' C'
  · intro Pr Wr s₁ z7_
    refine el4_3 z7_ fun h₁ tk m₁ seen₁ r8_ C₁ _ => ?_
    try clear z7_
    obtain rfl := r8_
    exact k h₁ tk m₁ seen₁ C₁
theorem call_cycle {Q : Value → Shared → Prop} (hA : Ok 20 A) (hfr : A.frames = some outer) (hF0 : s.heap.FunFrames noHeap outer)
    (hZ : ∀ h', Kf (frs outer) (fun _ => False) s.heap h' → Sta w h' ∧ SorAt prog w h' S) (hoff : ∀ b ∈ frs outer, ¬ S.fp b) (hzk : S.keys.length ≤ 900) (hrk : ∀ a ∈ S.keys, ∀ b ∈ S.su a, rk a < rk b) (hsu : ∀ a ∈ S.keys, ∀ b ∈ S.su a, b ∈ S.keys)
    (k : ∀ h' tk, Kf (frs outer) (fun _ => False) s.heap h' → Q .none { s with heap := h', toks := tk }) :
    wpAny (model prog w) A (call (.ref 127) [.ref S.a]) Q E s := by
  refine el0_2 (hZ s.heap (Kf.of (Kx.refl _))) fun S₀ R => ?_
  refine el2_1 (fn_cycle w) fun d sl hf => ?_
  refine el2_1 (fn_law w) fun dl sll hfl => ?_
  refine call_rule (n := 19) (body := bodyOf (sorS 8)) (binds := [("self", .ref S.a)]) (RB := fun _ => True) hA (S₀.X _ _ hf) rfl S₀.lim (codeRec_of S₀.X (cd_cycle w)) rfl rfl (fun s' E' hs' => wpAny_of_eq rfl ⟨⟨rfl, trivial⟩, keeps_refl s'⟩) ?_ ?_
  · intro k y hy
    (refine rwR (List.mem_singleton.mp hy) ?_); exact .inl rfl
  intro L h₀ h₁ tk E' hL hL0 hk₀ _ hk₁ F hO hOk
  have ms : bindL (eC L).kindOf [("self", Value.ref S.a)] (fun _ => none) "self" = some (.ref S.a) := rfl
  generalize bindL (eC L).kindOf [("self", Value.ref S.a)] (fun _ => none) = m at F ms
  generalize bindC (eC L).kindOf [("self", Value.ref S.a)] (fun _ => none) = cm at F
  have kA : Kp s.heap h₁ := hk₀.trans hk₁
  have oL : ∀ b o, s.heap.get? b = some o → b ≠ L := fun b o e q => by (replace hL := Eq.symm q ▸ hL; replace hL := e ▸ hL); cases hL
  have R₁ := R.keeps kA
  have S₁ := S₀.keeps kA
  have oA : ∀ b, OwnA (eC L) b → b = L := fun b hb => own_one rfl hb
  have big : ∀ {h' : Heap}, Kp s.heap h' → 156 < h'.objs.size := fun hk => Heap.lt_size (hk _ _ (S₀.X _ _ hfl))
  show wpAny _ _ (execs [(bodyOf (sorS 8)).getD 0 ps, (bodyOf (sorS 8)).getD 1 ps, (bodyOf (sorS 8)).getD 2 ps, (bodyOf (sorS 8)).getD 3 ps, (bodyOf (sorS 8)).getD 4 ps, (bodyOf (sorS 8)).getD 5 ps, (bodyOf (sorS 8)).getD 6 ps] (eC L)) _ _ _
  refine wpAny_execs_cons (asg_local (h := h₁) F rfl rfl (g_attr (g_local rfl rfl F.ns ms) fun h' hk => f_n2i (S₁.X.keeps hk) (R₁.keeps hk)) (Kp.refl _) rfl ?_)
  rintro v h₂ h₃ tk₃ rfl hk₂ sb₃ F₃
  have k03 : Kp s.heap h₃ := fun b o e => sb₃.extBut b o (oL b o e) (hk₂ _ _ (kA _ _ e))
  refine wpAny_execs_cons (asg_local1 (h := h₃) F₃ rfl rfl g_list0 (Kp.refl _) rfl ?_)
  intro sk h₄ h₅ tk₅ z9_ hk₄ sb₅ F₅
  refine el0_2 z9_ fun skn hsk => ?_
  try clear z9_
  have nsk : s.heap.get? sk = none := dead_kp k03 skn
  have skL : sk ≠ L := fun q => by obtain ⟨o, e⟩ := F₃.live L own_locals; (replace e := Eq.symm q ▸ e; replace e := skn ▸ e); cases e
  have k05 : Kp s.heap h₅ := fun b o e => sb₅.extBut b o (oL b o e) (hk₄ _ _ (k03 _ _ e))
  have hsk₅ : h₅.PlainList sk #[] := hsk.at fun o e => sb₅.extBut _ o skL e
  refine wpAny_execs_cons (asg_local1 (h := h₅) F₅ rfl rfl g_list0 (Kp.refl _) rfl ?_)
  intro itk h₆ h₇ tk₇ z10_ hk₆ sb₇ F₇
  refine el0_2 z10_ fun itkn hitk => ?_
  try clear z10_
  have nitk : s.heap.get? itk = none := dead_kp k05 itkn
  have itkL : itk ≠ L := fun q => by obtain ⟨o, e⟩ := F₅.live L own_locals; (replace e := Eq.symm q ▸ e; replace e := itkn ▸ e); cases e
  have skitk : sk ≠ itk := fun q => by obtain ⟨kk, e⟩ := hsk₅; (exact nosome2 q (itkn) e)
  have k07 : Kp s.heap h₇ := fun b o e => sb₇.extBut b o (oL b o e) (hk₆ _ _ (k05 _ _ e))
  have hsk₇ : h₇.PlainList sk #[] := hsk₅.at fun o e => sb₇.extBut _ o skL (hk₆ _ _ e)
  have hitk₇ : h₇.PlainList itk #[] := hitk.at fun o e => sb₇.extBut _ o itkL e
  refine wpAny_execs_cons (asg_local1 (h := h₇) (f := Value.ref) (R := fun sn h' => h₇.get? sn = none ∧ h'.SetOf (intKind prog w) sn (fun _ => false) 0) F₇ rfl rfl ?_ (Kp.refl _) rfl ?_)
  · intro s' E'' hs'
    refine PyProof.Rows.Call_Name (trees := []) rfl ((g_builtin (prog := prog) (w := w) (h := s'.heap) ((S₀.keeps k07).keeps hs') (x := "set") (v := .type "set") (by kernel_rfl) (by decide +kernel) (by decide) rfl rfl rfl rfl).use (Kp.refl _) fun fv h' t' hk' hfv => ?_)
    subst hfv
    refine callWith_type0 (env := eC L) (call_set_0 (s := { s' with heap := h', toks := t' }) fun led => ?_)
    exact ⟨⟨_, rfl, dead_kp hs' (dead_kp hk' (none_size _)), SetOf.new h' led⟩, _, _, rfl, hk'.trans (Kp.push _ _)⟩
  intro sn h₈ h₉ tk₉ z11_ hk₈ sb₉ F₉
  refine el0_2 z11_ fun snn hsn => ?_
  try clear z11_
  have nsn : s.heap.get? sn = none := dead_kp k07 snn
  have snL : sn ≠ L := fun q => by obtain ⟨o, e⟩ := F₇.live L own_locals; (replace e := Eq.symm q ▸ e; replace e := snn ▸ e); cases e
  have k09 : Kp s.heap h₉ := fun b o e => sb₉.extBut b o (oL b o e) (hk₈ _ _ (k07 _ _ e))
  have hsk₉ : h₉.PlainList sk #[] := hsk₇.at fun o e => sb₉.extBut _ o skL (hk₈ _ _ e)
  have hitk₉ : h₉.PlainList itk #[] := hitk₇.at fun o e => sb₉.extBut _ o itkL (hk₈ _ _ e)
  have hsn₉ : h₉.SetOf (intKind prog w) sn (fun _ => false) 0 := SetOf.at hsn fun o e => sb₉.extBut _ o snL e
  refine wpAny_execs_cons (asg_local1 (h := h₉) (f := Value.ref) (R := fun nm h' => h₉.get? nm = none ∧ h'.DictOf (intKind prog w) nm [] ∧ 156 < nm) F₉ rfl rfl ?_ (Kp.refl _) rfl ?_)
  · intro s' E'' hs'
    refine wpAny_Dict_empty ?_
    exact ⟨⟨_, rfl, dead_kp hs' (none_size _), Heap.DictOf.new s'.heap, big (k09.trans hs')⟩, _, s'.toks, rfl, Kp.push _ _⟩
  intro nm h₁₀ h₁₁ tk₁₁ z12_ hk₁₀ sb₁₁ F₁₁
  refine el0_3 z12_ fun nmn hnm nmb => ?_
  try clear z12_
  have nnm : s.heap.get? nm = none := dead_kp k09 nmn
  have nmL : nm ≠ L := fun q => by obtain ⟨o, e⟩ := F₉.live L own_locals; (replace e := Eq.symm q ▸ e; replace e := nmn ▸ e); cases e
  have k011 : Kp s.heap h₁₁ := fun b o e => sb₁₁.extBut b o (oL b o e) (hk₁₀ _ _ (k09 _ _ e))
  have C : CS prog w s.heap outer S ⟨L, sk, itk, sn, nm⟩ cm h₁₁ (upd (upd (upd (upd (upd m "n2i" (.ref S.nd)) "stack" (.ref sk)) "itstack" (.ref itk)) "seen" (.ref sn)) "node2stacki" (.ref nm)) [] [] (fun _ => false) := by
    refine ⟨Kf.of (Kx.of k011), F₁₁, ?_, ?_, ?_, ?_, upd_eq, ?_, ?_⟩
    · (refine rwR (upd_ne (by decide)) ?_; refine rwR (upd_ne (by decide)) ?_; refine rwR (upd_ne (by decide)) ?_; refine rwR (upd_ne (by decide)) ?_; refine rwR upd_eq ?_; with_reducible rfl)
    · (refine rwR (upd_ne (by decide)) ?_; refine rwR (upd_ne (by decide)) ?_; refine rwR (upd_ne (by decide)) ?_; refine rwR upd_eq ?_; with_reducible rfl)
    · (refine rwR (upd_ne (by decide)) ?_; refine rwR (upd_ne (by decide)) ?_; refine rwR upd_eq ?_; with_reducible rfl)
    · (refine rwR (upd_ne (by decide)) ?_; refine rwR upd_eq ?_; with_reducible rfl)
    · refine ⟨⟨[], hsk₉.at fun o e => sb₁₁.extBut _ o skL (hk₁₀ _ _ e), .nil⟩, hitk₉.at fun o e => sb₁₁.extBut _ o itkL (hk₁₀ _ _ e), fun i q e => by simp at e, fun i q x e => by simp at e, rfl, .nil, ⟨0, SetOf.at hsn₉ fun o e => sb₁₁.extBut _ o snL (hk₁₀ _ _ e), ?_⟩,
        ⟨[], hnm.at fun o e => sb₁₁.extBut _ o nmL e, fun v => by simp [valueAt], by simp⟩, ⟨skitk, nmL, skL, itkL, snL⟩, ?_, fun q hq => by cases hq⟩
      · (refine rwR (Nat.zero_add _) ?_); exact List.length_filter_le _ _
      · exact beq_eq_false_iff_ne.mpr fun q => by
          have q : nm = sysModules := q
          (replace nmb := q ▸ nmb)
          exact absurd nmb (by decide)
    · intro b hb
      have := own_nil hb
      simp [CyA.list] at this
      rcases this with rfl | rfl | rfl | rfl | rfl
      · exact hL
      · exact nsk
      · exact nitk
      · exact nsn
      · exact nnm
  refine wpAny_execs_cons (for_run (s := { s with heap := h₁₁, toks := tk₁₁ }) (s0 := s.heap) (rk := rk) (c := ⟨L, sk, itk, sn, nm⟩) (S := S) (outer := outer) (cm := cm) (hOk.mono (by decide)) (Around.frames_deeper hfr) hF0 hZ hoff R.live hzk hrk hsu C ?_)
  intro h' tk' m' seen' C'
  refine wpAny_execs_cons (wpAny_Return_some ?_)
  refine (g_none (prog := prog) (w := w) (h := h')).useV (Kp.refl _) fun h'' tk'' hk'' => ?_
  exact k h'' tk'' (C'.keeps hk'').kf
end
end Mine
end
section
open PySem PySem.Calls PySem.W PyProof.Rows
set_option maxRecDepth 100000
set_option genInjectivity false
set_option genSizeOf false
set_option genSizeOfSpec false
namespace Mine
noncomputable abbrev eP (L : Addr) : Env := callEnvC fdPrepare L 92
noncomputable def prP (S : Sor) : Value → Bool
  | .ref a => S.keys.any fun j => decide (S.ia j = a) && decide (S.np j = 0)
  | _ => false
section
variable {prog : Program} {w : World} {A : Around} {E : Value → Shared → Prop} {s : Shared} {S : Sor} {h : Heap} {env : Env}
theorem prP_eq (R : SorAt prog w h S) {j : Nat} (hj : j ∈ S.keys) : prP S (.ref (S.ia j)) = decide (S.np j = 0) := by
  unfold prP
  (refine rwR (propext Bool.eq_iff_iff) ?_)
  simp only [List.any_eq_true, Bool.and_eq_true, decide_eq_true_eq]
  constructor
  · rintro ⟨i, hi, e, h0⟩; (refine rwL (R.ia_inj hi hj e) ?_); exact h0
  · intro h0; exact ⟨j, hj, rfl, h0⟩
theorem prep_conv (R : SorAt prog w h S) {h₀ h' : Heap} (ks : List Nat) {ys : List Value} (hk : ∀ j ∈ ks, j ∈ S.keys)
    (x : All2 (fun v y => Made1 h₀ (fun v y as => as = [] ∧ ∃ j ∈ S.keys, v = .ref (S.ia j) ∧ isI (j : Nat) y) v y h') ((ks.map fun j => Value.ref (S.ia j)).filter (prP S)) ys) : IntsAre ys (toI (ks.filter fun j => decide (S.np j = 0))) := by
  induction ks generalizing ys with
  | nil => cases x; exact .nil
  | cons j ks ih =>
    have hj := hk j List.mem_cons_self
    have hk' : ∀ i ∈ ks, i ∈ S.keys := fun i hi => hk i (List.mem_cons_of_mem _ hi)
    (replace x := List.map_cons ▸ x; replace x := List.filter_cons ▸ x; replace x := (prP_eq R hj) ▸ x)
    (refine rwR List.filter_cons ?_)
    by_cases h0 : S.np j = 0
    · rw [if_pos (decide_eq_true h0)] at x ⊢
      cases x with
      | cons y t =>
        obtain ⟨as, _, _, i, hi, e, ty, r1_⟩ := y
        try clear y
        obtain rfl := r1_
        have := R.ia_inj hj hi (Value.ref.inj e)
        subst this
        exact .cons _ ty (ih hk' t)
    · rw [if_neg (by (refine rwR (decide_eq_false h0) ?_); decide)] at x ⊢
      exact ih hk' x
theorem g_values {value : Expr} {apos pos : Pos} (R : SorAt prog w h S) (x : GV prog w A h (eval value env) (.ref S.nd))
    (hbase : attributeBase value "values" env (eval value env) = eval value env := by rfl) (hline : (apos.endLine == pos.line) = true := by rfl) :
    Gives prog w A h (eval (.Call (.Attribute value "values" apos) [] [] pos) env) (fun v h' => ∃ a, v = .ref a ∧ h'.IsValuesView a S.nd) := fun s E hs => by
  refine wpAny_Call_method (T := "dict") (id := "dict.values") hbase rfl hline PySem.F.plainAttrs_dict PySem.F.slot_dict_values PySem.F.type_dict_values (x.useV hs fun h1 t1 hk1 => ?_)
  have hd := (R.keeps (hs.trans hk1)).nodes
  refine ⟨hd.typeIs, hd.mapOf.noDict, ?_⟩
  show wpAny _ _ (callWith pos (.builtin "dict.values") [.ref S.nd] [] []) _ _ _
  exact method_meetsIn PySem.F.slot_dict_values PySem.F.entry_dict_values rfl (PySem.evalArgs_none ⟨rfl, hd.typeIs, PySem.F.args_dict_values_1 _, _, meets_dict_values (intKind prog w) S.nd R.mods, ⟨_, hd⟩, ⟨⟨_, rfl, _, Heap.get?_push_size _ rfl, rfl, rfl⟩, _, _, rfl, hk1.trans (Kp.push _ _)⟩⟩)
theorem itr_values {x d : Addr} {kvs : List (Int × Value)} (hh : A.handled = none) (hv : h.IsValuesView x d) (hd : h.DictOf (intKind prog w) d kvs) :
    ItrS prog w A h (.ref x) kvs.length (fun i v => ∃ k, kvs[i]? = some (k, v)) [d] := fun s E Q hk k => by
  have hd' : s.heap.DictOf (intKind prog w) d kvs := hd.at fun o e => hk _ o e
  refine el1_1 hd'.dictAt fun ep ha => ?_
  refine el1_2 (DictOf.obj hd') fun od eod _ => ?_
  have hv' : s.heap.IsValuesView x d := let ⟨o, e, r⟩ := hv; ⟨o, hk _ _ e, r⟩
  refine wpAny_pyIter_values hv' ha ?_
  refine k _ _ _ _ _ _ (Walks.dictValues hh s.heap.objs.size d (ne_size eod) kvs ep) ⟨⟨_, Heap.get?_push_size _ rfl, rfl, rfl⟩, ha.at' fun o e => Heap.get?_push_of_some _ e⟩ (Kp.push _ _) ?_ ?_ ?_ ?_ ?_
  · intro b hb; (refine rwR (Heap.size_push _ _) ?_); simp at hb; rcases hb with rfl | rfl
    · exact Nat.lt_succ_self _
    · exact Nat.lt_succ_of_lt (Heap.lt_size eod)
  · intro b hb; simp at hb; rcases hb with rfl | rfl
    · exact .inl (none_size _)
    · exact .inr (by simp)
  · intro b hb; simp at hb; subst hb; exact none_size _
  · rintro i h' ⟨⟨o, ho, _⟩, x⟩ b hb; simp at hb; rcases hb with rfl | rfl
    · exact ⟨o, ho⟩
    · obtain ⟨o2, ho2, _⟩ := DictOf.obj x.dictOf; exact ⟨o2, ho2⟩
  · rintro i h' ⟨⟨o, ho, hc, _⟩, _⟩; exact ⟨o, _, ho, hc, by decide⟩
theorem prep_comp {L : Addr} {m cm : Str → Option Value} (hA : Ok 5 A) (S₀ : Sta w h) (R : SorAt prog w h S) (F : Fra (eP L) h m cm) (ms : m "self" = some (.ref S.a)) (hz : S.keys.length ≤ 900) :
    Gives prog w A h (eval (asgVal ((bodyOf (sorS 3)).getD 1 ps)) (eP L)) (fun v h' => ∃ D, v = .ref D ∧ h.get? D = none ∧ LI h' D (toI (S.keys.filter fun j => decide (S.np j = 0)))) := by
  refine (CompRun.gives (comp_local (n := (S.keys.map fun (j : Nat) => ((j : Int), Value.ref (S.ia j))).length) (P := fun i v => ∃ k, (S.keys.map fun (j : Nat) => ((j : Int), Value.ref (S.ia j)))[i]? = some (k, v)) (cl := []) rfl (by decide) rfl (by (refine rwR (List.length_map _) ?_); (exact Nat.le_trans (by assumption) (by decide)))
    (g_values R (g_attr (g_local rfl rfl F.ns ms) fun h' hk => f_n2i (S₀.X.keeps hk) (R.keeps hk))) (fun x h1 hk hx => by obtain ⟨a, rfl, hv⟩ := hx; exact ⟨_, itr_values hA.hd hv (R.keeps hk).nodes⟩)
    (prP S) (fun v y as => as = [] ∧ ∃ j ∈ S.keys, v = .ref (S.ia j) ∧ isI (j : Nat) y) ?_ ?_) rfl rfl (by decide) (fun _ => rfl)).mono ?_
  · intro C i v h' m' hk z2_ hm hv
    refine el1_1 z2_ fun kk ek => ?_
    try clear z2_
    obtain ⟨j, ej, rfl, rfl⟩ : ∃ j : Nat, S.keys[i]? = some j ∧ (j : Int) = kk ∧ Value.ref (S.ia j) = v := by simpa using ek
    have hj : j ∈ S.keys := List.mem_of_getElem? ej
    refine gives_tests_one ((gb_eq (g_attr (g_local rfl rfl hm hv) fun h'' hk' => f_np ((S₀.X.keeps hk).keeps hk') ((R.keeps hk).keeps hk') hj) g_int).mono fun b _ _ hb => ?_)
    (refine rwR hb ?_; refine rwR (prP_eq R hj) ?_; refine rwR (propext Bool.eq_iff_iff) ?_); simp
  · intro C i v h' m' hk z3_ _ hm hv
    refine el1_1 z3_ fun kk ek => ?_
    try clear z3_
    obtain ⟨j, ej, rfl, rfl⟩ : ∃ j : Nat, S.keys[i]? = some j ∧ (j : Int) = kk ∧ Value.ref (S.ia j) = v := by simpa using ek
    have hj : j ∈ S.keys := List.mem_of_getElem? ej
    exact (g_attr (g_local rfl rfl hm hv) fun h'' hk' => f_node ((S₀.X.keeps hk).keeps hk') ((R.keeps hk).keeps hk') hj).mono fun y h'' _ hy => ⟨[], by simp, rfl, j, hj, rfl, hy⟩
  · intro v h' hk z4_
    obtain ⟨D, ys, r5_, h1, h2, vs, e1, e2, h3⟩ := z4_
    try clear z4_
    obtain rfl := r5_
    have hvs : vs = S.keys.map fun j => Value.ref (S.ia j) := by
      apply List.ext_getElem?
      intro i
      cases e : vs[i]? with
      | some v =>
        refine el1_1 (e2 i v e) fun kk ek => ?_
        obtain ⟨j, ej, _, rfl⟩ : ∃ j : Nat, S.keys[i]? = some j ∧ (j : Int) = kk ∧ Value.ref (S.ia j) = v := by simpa using ek
        simp [ej]
      | none =>
        have : vs.length ≤ i := List.getElem?_eq_none_iff.mp e
        (replace this := e1 ▸ this; replace this := (List.length_map _) ▸ this)
        exact (List.getElem?_eq_none (by (refine rwR (List.length_map _) ?_); exact this)).symm
    subst hvs
    exact ⟨D, rfl, h1, ys, h2, prep_conv R S.keys (fun _ h => h) h3⟩
end
end Mine
end
section
open PySem PySem.Calls PySem.W PyProof.Rows
set_option maxRecDepth 100000
set_option genInjectivity false
set_option genSizeOf false
set_option genSizeOfSpec false
namespace Mine
noncomputable abbrev prepL (S : Sor) : List Nat := S.keys.filter fun j => decide (S.np j = 0)
section
variable {prog : Program} {w : World} {A : Around} {E : Value → Shared → Prop} {s : Shared} {S : Sor} {outer : List Env} {rk : Nat → Nat}
theorem call_prepare {Q : Value → Shared → Prop} (hA : Ok 30 A) (hfr : A.frames = some outer) (hF0 : s.heap.FunFrames noHeap outer) (Z : Fz (fun b => S.fp b ∨ b ∈ frs outer) (Sta w) s.heap) (R : SorAt prog w s.heap S) (hrd : S.rdy = none)
    (hoff : ∀ b ∈ frs outer, ¬ S.fp b) (hzk : S.keys.length ≤ 900) (hrk : ∀ a ∈ S.keys, ∀ b ∈ S.su a, rk a < rk b) (hsu : ∀ a ∈ S.keys, ∀ b ∈ S.su a, b ∈ S.keys)
    (k : ∀ h' tk r, SorAt prog w h' { S with rdy := some (r, prepL S) } → Kf (frs outer) S.fp s.heap h' → s.heap.get? r = none → Q .none { s with heap := h', toks := tk }) :
    wpAny (model prog w) A (call (.ref 92) [.ref S.a]) Q E s := by
  have S₀ : Sta w s.heap := Z.now
  refine el2_1 (fn_prepare w) fun d sl hf => ?_
  refine call_rule (n := 29) (body := bodyOf (sorS 3)) (binds := [("self", .ref S.a)]) (RB := fun _ => True) hA (S₀.X _ _ hf) rfl S₀.lim (codeRec_of S₀.X (cd_prepare w)) rfl rfl (fun s' E' hs' => wpAny_of_eq rfl ⟨⟨rfl, trivial⟩, keeps_refl s'⟩) ?_ ?_
  · intro k y hy
    (refine rwR (List.mem_singleton.mp hy) ?_); exact .inl rfl
  intro L h₀ h₁ tk E' hL hL0 hk₀ _ hk₁ F hO hOk
  have ms : bindL (eP L).kindOf [("self", Value.ref S.a)] (fun _ => none) "self" = some (.ref S.a) := rfl
  generalize bindL (eP L).kindOf [("self", Value.ref S.a)] (fun _ => none) = m at F ms
  generalize bindC (eP L).kindOf [("self", Value.ref S.a)] (fun _ => none) = cm at F
  have kA : Kp s.heap h₁ := hk₀.trans hk₁
  have oL : ∀ b o, s.heap.get? b = some o → b ≠ L := fun b o e q => by (replace hL := Eq.symm q ▸ hL; replace hL := e ▸ hL); cases hL
  have fL : ∀ b, S.fp b → b ≠ L := fun b hb => by obtain ⟨o, e⟩ := R.live b hb; exact oL b o e
  have R₁ := R.keeps kA
  have S₁ := S₀.keeps kA
  have hrv : S.rv = .none := by unfold Sor.rv; (refine rwR hrd ?_; with_reducible rfl)
  show wpAny _ _ (execs [(bodyOf (sorS 3)).getD 0 ps, (bodyOf (sorS 3)).getD 1 ps, (bodyOf (sorS 3)).getD 2 ps, (bodyOf (sorS 3)).getD 3 ps] (eP L)) _ _ _
  refine wpAny_execs_cons (wpAny_If (wpAny_isTrue_Compare1 ?_))
  refine (g_attr (prog := prog) (w := w) (h := h₁) (g_local rfl rfl F.ns ms) fun h' hk => f_rdy (S₁.X.keeps hk) (R₁.keeps hk)).use (Kp.refl _) fun v h₂ tk₂ hk₂ hv => ?_
  (replace hv := hrv ▸ hv)
  subst hv
  refine (g_none (prog := prog) (w := w) (h := h₂)).useV (Kp.refl _) fun h₃ tk₃ hk₃ => ?_
  refine wpAny_isNot_self rfl (wpAny_truthy_bool ?_)
  refine wpAny_execs_nil ?_
  have k3 : Kp s.heap h₃ := kA.trans (hk₂.trans hk₃)
  have F₃ := (F.keeps hk₂).keeps hk₃
  have R₃ := R.keeps k3
  have S₃ := S₀.keeps k3
  refine wpAny_execs_cons (plainObj_wpAny_Assign_Attribute ?_)
  refine (prep_comp (prog := prog) (w := w) (h := h₃) (hOk.mono (by decide)) S₃ R₃ F₃ ms hzk).use (Kp.refl _) fun v h₄ tk₄ hk₄ hv => ?_
  refine el1_3 hv fun r r1_ rn hr => ?_
  try clear hv
  obtain rfl := r1_
  refine (g_local (prog := prog) (w := w) (h := h₄) rfl rfl (F₃.keeps hk₄).ns ms).useV (Kp.refl _) fun h₅ tk₅ hk₅ => ?_
  have k5 : Kp s.heap h₅ := k3.trans (hk₄.trans hk₅)
  have rL : r ≠ L := fun q => by obtain ⟨o, e⟩ := F₃.live L own_locals; (replace e := Eq.symm q ▸ e; replace e := rn ▸ e); cases e
  have rS : ¬ S.fp r := Live.not R₃.live rn
  have F₅ := (F₃.keeps hk₄).keeps hk₅
  refine sor_set_field (S := S) (s := { s with heap := h₅, toks := tk₅ }) (L := L) (rdy' := some (r, prepL S)) (pas' := S.pas) (fin' := S.fin) (S₀.X.keeps k5) (R.keeps k5) F₅.ns fL (tk_rdy w) ents_rdy ?_ ?_
  · intro r' l e
    cases e
    refine ⟨hr.keeps hk₅, rL, fun j hj q => rS (q ▸ .inr (.inr (.inr (.inr ⟨j, hj, .inr (.inr rfl)⟩))))⟩
  intro h₆ tk₆ R₆ ns₆ hk₆
  have hk₆ : ∀ b o, b ≠ L → b ≠ S.d → h₅.get? b = some o → h₆.get? b = some o := hk₆
  have R₆ : SorAt prog w h₆ { S with rdy := some (r, prepL S) } := R₆
  generalize hT : ({ S with rdy := some (r, prepL S) } : Sor) = T at R₆
  have Tfp : ∀ b, T.fp b → S.fp b ∨ b = r := fun b hb => by
    (replace hb := Eq.symm hT ▸ hb)
    rcases hb with q | q | q | ⟨x, q⟩ | q
    · exact .inl (.inl q)
    · exact .inl (.inr (.inl q))
    · exact .inl (.inr (.inr (.inl q)))
    · cases q; exact .inr rfl
    · exact .inl (.inr (.inr (.inr (.inr q))))
  have Ta : T.a = S.a := by (refine rwL hT ?_; with_reducible rfl)
  have F₆ : Fra (eP L) h₆ m cm := fra_of_ns rfl ns₆
  have fd : S.fp S.d := .inr (.inl rfl)
  have k06 : Kx S.fp s.heap h₆ := fun b o hb e => hk₆ b o (oL b o e) (fun q => hb (q ▸ fd)) (k5 _ _ e)
  have nr : s.heap.get? r = none := dead_kp k3 rn
  have frL : ∀ b ∈ frs outer, b ≠ L := fun b hb => by obtain ⟨_, o, e, _⟩ := hF0.mem hb; exact oL b o e
  have frR : ∀ b ∈ frs outer, b ≠ r := fun b hb q => by obtain ⟨_, o, e, _⟩ := hF0.mem hb; (exact nosome2 q (nr) e)
  have frC : ∀ b, b ∈ frs (eP L :: outer) → b = L ∨ b ∈ frs outer := fun b hb => List.mem_cons.mp hb
  have TL : ∀ b, T.fp b → b ≠ L := fun b hb => (Tfp b hb).elim (fL b) fun q => q ▸ rL
  have offT : ∀ b ∈ frs (eP L :: outer), ¬ T.fp b := fun b hb q => by
    refine Or.elim (frC b hb) (fun z => ?_) fun z => ?_
    · exact TL b q z
    · refine Or.elim (Tfp b q) (fun y => ?_) fun y => ?_
      · exact hoff b z y
      · exact frR b z y
  have ff6 : ∀ {h' : Heap}, Kp h₆ h' → h'.FunFrames noHeap (eP L :: outer) := fun {h'} hk => by
    refine el3_3 ns₆ fun o es ep ho hd _ => ?_
    try clear ns₆
    refine ⟨(by show ScopeKind.function ≠ ScopeKind.module; decide), ⟨L, o, rfl, noHeap_get _, hk _ _ ho, fun vs => by (refine rwR hd ?_); simp⟩, ?_⟩
    exact funFrames_kf (Kf.of (fs := []) (k06.trans' (Kx.of hk))) hF0 fun b hb q => hoff b hb q
  have S₆ : Sta w h₆ := Z h₆ fun b o hb e => k06 b o (fun q => hb (.inl q)) e
  refine wpAny_execs_cons (wpAny_Assign_Name (meth_call0 (s := { s with heap := h₆, toks := tk₆ }) (S := T) S₆ R₆ (g_local rfl rfl F₆.ns (by (refine rwR Ta ?_); exact ms)) (k_cycle w) (ty_fn w 127 (by simp)) (k_keepf w 127 (by simp)) sh_cycle ?_))
  intro h₇ tk₇ hk₇
  refine call_cycle (s := { s with heap := h₇, toks := tk₇ }) (S := T) (outer := eP L :: outer) (rk := rk) (hOk.mono (by decide)) (Around.frames_deeper hfr) (ff6 hk₇) ?_ offT (by (refine rwL hT ?_); exact hzk) (by (refine rwL hT ?_); exact hrk) (by (refine rwL hT ?_); exact hsu) ?_
  · intro h' x
    have x : Kf (frs (eP L :: outer)) (fun _ => False) h₇ h' := x
    refine ⟨Z h' fun b o hb e => ?_, (R₆.keeps hk₇).frame fun b o hb e => x.keep b o id (fun q => offT b q hb) e⟩
    refine x.keep b o id (fun q => ?_) (hk₇ _ _ (k06 b o (fun q => hb (.inl q)) e))
    refine Or.elim (frC b q) (fun z => ?_) fun z => ?_
    · exact oL b o e z
    · exact hb (.inr z)
  intro h₈ tk₈ x
  have x : Kf (frs (eP L :: outer)) (fun _ => False) h₇ h₈ := x
  have Lin : L ∈ frs (eP L :: outer) := List.mem_cons_self
  have F₈ : Fra (eP L) h₈ m cm := fra_of_ns rfl (ns_slots (ns₆.keeps hk₇) fun o e => x.slot L o Lin id e)
  refine fra_local F₈ rfl rfl fun h₉ tk₉ F₉ sb₉ => ?_
  refine wpAny_execs_cons (wpAny_If ?_)
  show wpAny _ _ (eval (.Name "cycle" _) (eP L) >>= fun v => standAt _ >>= fun _ => holding [v] (truthy v)) _ _ _
  refine wpAny_bind ((g_local (prog := prog) (w := w) (h := h₉) rfl rfl F₉.ns upd_eq).useV (Kp.refl _) fun h₁₀ tk₁₀ hk₁₀ => ?_)
  refine wpAny_bind (wpAny_standAt (wpAny_holding (wpAny_of_eq (a := false) rfl ?_)))
  refine wpAny_execs_nil ?_
  refine wpAny_execs_nil ?_
  refine k h₁₀ tk₁₀ r ?_ ⟨fun b o hb hbf e => ?_, fun b o hbf hb e => ?_⟩ nr
  · (refine rwR hT ?_)
    exact (((R₆.keeps hk₇).frame fun b o hb e => x.keep b o id (fun q => offT b q hb) e).frame fun b o hb e => sb₉.extBut b o (TL b hb) e).keeps hk₁₀
  · have e6 := hk₇ _ _ (k06 b o hb e)
    refine hk₁₀ _ _ (sb₉.extBut b o (oL b o e) (x.keep b o id (fun q => ?_) e6))
    refine Or.elim (frC b q) (fun z => ?_) fun z => ?_
    · exact oL b o e z
    · exact hbf z
  · have e6 := hk₇ _ _ (k06 b o hb e)
    refine el1_1 (x.slot b o (List.mem_cons_of_mem _ hbf) id e6) fun sl e8 => ?_
    exact ⟨sl, hk₁₀ _ _ (sb₉.extBut b _ (oL b o e) e8)⟩
end
end Mine
end
section
open PySem PySem.Calls PySem.W PyProof.Rows
set_option maxRecDepth 100000
set_option genInjectivity false
set_option genSizeOf false
set_option genSizeOfSpec false
namespace Mine
theorem gf_fn (w : World) (a : Addr) (h : a ∈ [87, 120]) : specialIn (K w) (.ref a) "__get__" = some (some (.builtin "function.__get__")) ∧ takesIn (K w) (.ref a) = some false := by
  simp at h; rcases h with rfl | rfl <;> exact ⟨by kernel_rfl, by kernel_rfl⟩
section
variable {prog : Program} {w : World} {A : Around} {E : Value → Shared → Prop} {s : Shared} {S : Sor} {h : Heap} {env : Env}
theorem call_bound {q f a : Addr} {vals : List Value} {R : Result → Shared → Prop} (hq : s.heap.get? q = some (methodObj (.ref f) (.ref a))) (h : codeAny (model prog w) A (.call (.ref f) ⟨.ref a :: vals, []⟩) R s) :
    codeAny (model prog w) A (.call (.ref q) ⟨vals, []⟩) R s := by
  refine codeAny_of_tree ?_
  show wpAny _ A.in1 (callAny (.ref q) ⟨vals, []⟩) _ _ _
  simp only [callAny]
  refine wpAny_bind (wpAny_load hq ?_)
  dsimp only [methodObj]
  (refine rwR (if_pos (by decide)) ?_)
  exact wpAny_pure (And.intro rfl h)
theorem g_splice {l : Addr} {vs : List Value} {x : Sem Value} {rest : List (Bool × Sem Value)} {Q : List Value → Shared → Prop} (hz : vs.length ≤ 100000)
    (h : wpAny (model prog w) A x (fun v s₁ => ∃ l, v = .ref l ∧ s₁.heap.PlainList l (List.toArray vs) ∧ ∀ h', Kp s₁.heap h' → wpAny (model prog w) A (spliced rest) (fun us s₂ => Q (vs ++ us) s₂) E { s₁ with heap := h' }) E s) :
    wpAny (model prog w) A (spliced ((true, x) :: rest)) Q E s := by
  unfold spliced
  refine wpAny_bind (wpAny_mono h (fun v s₁ h₁ => ?_) fun _ _ e => e)
  refine el1_3 h₁ fun l r1_ hl hr => ?_
  try clear h₁
  obtain rfl := r1_
  refine wpAny_bind (wpAny_bind ?_)
  refine wpAny_specialOf hl.isList.typeIs slot_list_iter.lookup ?_
  show wpAny _ _ (pure false) _ _ _
  refine wpAny_pure ?_
  show wpAny _ _ (collect (.ref l) >>= _) _ _ _
  refine el1_1 hl fun kv ev => ?_
  try clear hl
  refine wpAny_bind ?_
  refine wpAny_collect_seq l (T := "list") (.inl rfl) ev rfl rfl (fun h' hk => ?_) (by (refine rwR List.size_toArray ?_; refine rwR sizeLine_eq ?_); (exact Nat.le_trans (by assumption) (by decide)))
  exact wpAny_bind (wpAny_holding (wpAny_mono (hr h' hk) (fun us s₂ h₂ => wpAny_pure (by simpa using h₂)) fun _ _ e => e))
theorem bound_keep (q f a : Addr) {o : Obj} {fd : FuncData} (hd : o.data = .func fd) : ∀ h : Heap, h.get? q = some (methodObj (.ref f) (.ref a)) ∧ h.get? f = some o → Looks (model prog w) h (keeperOf (.ref q)) .boundFrame := fun h ⟨e1, e2⟩ => by
  refine (Looks.ld (part := none) e1).andThen ?_
  refine (Looks.ld (part := none) e2).andThen ?_
  (refine rwR hd ?_)
  exact .now
theorem meth_star {o : Expr} {name : Str} {apos pos : Pos} {args : List Expr} {f : Addr} {fo : Obj} {fd : FuncData} {RA : List Value → Heap → Prop} {Q : Value → Shared → Prop} (S₀ : Sta w s.heap) (R : SorAt prog w s.heap S) (x : GV prog w A s.heap (eval o env) (.ref S.a))
    (hf : findIn (K w) (.ref 137) name = some (some (.ref f))) (hfo : (K w).lookup f = some fo) (hfd : fo.data = .func fd) (hm : f ∈ [87, 120]) (hfn : copiedNames.contains name = false) (hty : typeIn (K w) (.ref f) = some (.type "function")) (hsh : ∀ es, Ents S.nd S.rv S.pas S.fin es → getL name es = some none)
    (hargs : ∀ (q : Addr) h1 t1 (Q' : Args → Shared → Prop), Kp s.heap h1 → (∀ vals h2 t2, Kp h1 h2 → RA vals h2 → Q' ⟨vals, []⟩ { s with heap := h2, toks := t2 }) → wpAny (model prog w) A (evalArgs (.ref q) true (backTo pos (starEach args env)) []) Q' E { s with heap := h1, toks := t1 })
    (c : ∀ vals h2 t2, Kp s.heap h2 → RA vals h2 → codeAny (model prog w) A (.call (.ref f) ⟨.ref S.a :: vals, []⟩) (QR Q E) { s with heap := h2, toks := t2 })
    (hbase : attributeBase o name env (eval o env) = eval o env := by rfl) (hform : methodCallForm (args.length + ([] : List Keyword).length) (backTo pos (starEach args env)) (backToKw pos (keywordEach [] env)) = false := by rfl) (hst : (backTo pos (starEach args env)).any (·.1) = true := by rfl) :
    wpAny (model prog w) A (eval (.Call (.Attribute o name apos) args [] pos) env) Q E s := by
  (rewrite [arm_eval_Call]; refine rwR hbase ?_)
  refine wpAny_bind (x.useV (Kp.refl _) fun h1 t1 hk1 => ?_)
  refine wpAny_bind (wpAny_standAt ?_)
  unfold methodCall
  (refine rwR hform ?_)
  have R₁ := R.keeps hk1
  have S₁ := S₀.keeps hk1
  refine el2_2 R₁.dict fun es n hd hes => ?_
  have I : InstAt h1 S.a (instObj 137 S.d) 137 (some (dictOf es n)) := ⟨R₁.inst, rfl, rfl, hd⟩
  refine wpAny_bind (wpAny_holding ?_)
  show wpAny _ _ (getAttr (.ref S.a) name true >>= fun v => pure (v, [])) _ _ _
  refine wpAny_bind (get_bind (s := { s with heap := h1, toks := t1 }) S₁.X I (k_ga w) (findObj_fn (k_hasDict w) hf (gf_fn w f hm).1 (gf_fn w f hm).2 hfn (by show lookIn name (dictOf es n) = _; (refine rwR (lookIn_dict _ _ _) ?_; refine rwR (hsh es hes) ?_; with_reducible rfl))) (k_gat w) ?_)
  refine wpAny_call (PySem.W.fn_get (s := { s with heap := h1, toks := t1 + 1 }) S₁.X hty (handed_on rfl (wpAny_pure ?_)))
  generalize hq : h1.objs.size = q
  generalize hH2 : h1.push (methodObj (.ref f) (.ref S.a)) = h2
  have hk2 : Kp h1 h2 := hH2 ▸ Kp.push _ _
  have eq2 : h2.get? q = some (methodObj (.ref f) (.ref S.a)) := by (refine rwL hH2 ?_; refine rwL hq ?_); exact Heap.get?_push_size _ rfl
  show wpAny _ _ (methodCallPos false o env apos pos >>= fun p => callWith p (.ref q) [] (backTo pos (starEach args env)) []) _ _ _
  refine wpAny_bind (wpAny_of_eq (a := pos) (by unfold methodCallPos; rfl) ?_)
  unfold callWith
  refine wpAny_bind (wpAny_holding ?_)
  refine hargs q h2 _ _ (hk1.trans hk2) fun vals h3 t3 hk3 hRA => ?_
  refine wpAny_bind (wpAny_standAt ?_)
  have L := bound_keep (prog := prog) (w := w) q f S.a hfd h3 ⟨hk3 _ _ eq2, hk3 _ _ (hk2 _ _ (S₁.X _ _ hfo))⟩
  refine wpAny_bind (L.here ?_)
  simp only [hst, List.any_nil, Bool.or_false]
  refine wpAny_bind ?_
  refine wpAny_operateT ?_
  refine wpAny_call ?_
  show codeAny _ _ (.call (.ref q) ⟨vals, []⟩) _ _
  refine call_bound (hk3 _ _ eq2) (codeAny_mono (c vals h3 t3 ((hk1.trans hk2).trans hk3) hRA) fun r s' z => ?_)
  rcases r with e | (v | _ | _ | _) <;> first | exact z | exact z.elim | skip
  exact wpAny_bind (wpAny_holding (wpAny_point (wpAny_pure z)))
end
end Mine
end
section
set_option genInjectivity false
set_option genSizeOf false
set_option genSizeOfSpec false
namespace Mine
noncomputable def cnt (n : Nat) (P : Nat → Bool) : Nat := ((List.range n).filter P).length
noncomputable def Can (n hands : Nat) (ah : Nat → Nat → Bool) : Nat → (Nat → Bool) → Prop
  | 0, L => ∀ j, j < n → L j = false
  | k + 1, L => ∃ p : Nat → Bool, cnt n p ≤ hands ∧ (∀ j, j < n → p j = true → L j = true ∧ ∀ a, a < n → L a = true → ah a j = false) ∧ Can n hands ah k (fun j => L j && !p j)
theorem filter_sub_len {P Q : Nat → Bool} : ∀ (l : List Nat), (∀ j ∈ l, P j = true → Q j = true) → (l.filter P).length ≤ (l.filter Q).length
  | [], _ => by simp
  | x :: l, h => by
    have ih := filter_sub_len l fun j hj => h j (by simp [hj])
    (refine rwR List.filter_cons ?_; refine rwR List.filter_cons ?_)
    by_cases hp : P x = true
    · (refine rwR (if_pos hp) ?_; refine rwR (if_pos (h x (by simp) hp)) ?_); simpa using ih
    · (refine rwR (if_neg hp) ?_); split
      · simp; lia
      · exact ih
theorem filter_sub_lt {P Q : Nat → Bool} : ∀ (l : List Nat), (∀ j ∈ l, P j = true → Q j = true) → ∀ x ∈ l, Q x = true → P x = false → (l.filter P).length < (l.filter Q).length
  | x :: l, h, y, hy, hq, hp => by
    (refine rwR List.filter_cons ?_; refine rwR List.filter_cons ?_)
    rcases List.mem_cons.mp hy with e | hy
    · subst e
      (refine rwR (if_neg (by simp [hp])) ?_; refine rwR (if_pos hq) ?_)
      have := filter_sub_len (P := P) (Q := Q) l fun j hj => h j (by simp [hj])
      simp; lia
    · have ih := filter_sub_lt l (fun j hj => h j (by simp [hj])) y hy hq hp
      by_cases hpx : P x = true
      · (refine rwR (if_pos hpx) ?_; refine rwR (if_pos (h x (by simp) hpx)) ?_); simpa using ih
      · (refine rwR (if_neg hpx) ?_); split
        · simp; (exact Nat.lt_succ_of_lt (by assumption))
        · exact ih
theorem cnt_sub {n : Nat} {P Q : Nat → Bool} (h : ∀ j, j < n → P j = true → Q j = true) : cnt n P ≤ cnt n Q := filter_sub_len _ fun j hj => h j (List.mem_range.mp hj)
theorem cnt_lt {n : Nat} {P Q : Nat → Bool} (h : ∀ j, j < n → P j = true → Q j = true) {x : Nat} (hx : x < n) (hq : Q x = true) (hp : P x = false) : cnt n P < cnt n Q := filter_sub_lt _ (fun j hj => h j (List.mem_range.mp hj)) x (List.mem_range.mpr hx) hq hp
theorem cnt_eq_sub {n : Nat} {P Q : Nat → Bool} (h : ∀ j, j < n → P j = true → Q j = true) (hc : cnt n Q ≤ cnt n P) : ∀ j, j < n → Q j = true → P j = true := fun j hj hq => by
  cases hp : P j with
  | true => rfl
  | false => have := cnt_lt h hj hq hp; lia
theorem cnt_swap {n : Nat} {P : Nat → Bool} {x y : Nat} (hx : x < n) (hpx : P x = true) (hpy : P y = false) : cnt n (fun j => (P j && !(j == x)) || j == y) ≤ cnt n P := by
  have h1 : cnt n (fun j => P j && !(j == x)) < cnt n P := cnt_lt (fun j _ h => by simp at h; exact h.1) hx hpx (by simp)
  have h2 : ∀ l : List Nat, l.Nodup → (l.filter fun j => (P j && !(j == x)) || j == y).length ≤ (l.filter fun j => P j && !(j == x)).length + 1 := by
    intro l hl
    induction l with
    | nil => simp
    | cons a l ih =>
      obtain ⟨ha, hl⟩ := List.nodup_cons.mp hl
      (refine rwR List.filter_cons ?_; refine rwR List.filter_cons ?_)
      by_cases hay : a = y
      · subst hay
        have e : (l.filter fun j => (P j && !(j == x)) || j == a) = (l.filter fun j => P j && !(j == x)) := by
          apply List.filter_congr
          intro j hj
          have : (j == a) = false := by simp; rintro rfl; exact ha hj
          simp [this]
        (refine rwR (if_pos (by simp)) ?_; refine rwR e ?_)
        split <;> simp
      · have := ih hl
        have e : ((P a && !(a == x)) || a == y) = (P a && !(a == x)) := by simp [hay]
        (refine rwR e ?_)
        split
        · simp; exact this
        · exact this
  have := h2 (List.range n) List.nodup_range
  unfold cnt at h1 ⊢
  (exact Nat.le_trans (by assumption) (by assumption))
section
variable {n hands : Nat} {ah : Nat → Nat → Bool}
theorem Can.ext {L L' : Nat → Bool} : ∀ {k : Nat}, (∀ j, j < n → L j = L' j) → Can n hands ah k L → Can n hands ah k L'
  | 0, h, c => fun j hj => (h j hj) ▸ c j hj
  | k + 1, h, ⟨p, h1, h2, h3⟩ => ⟨p, h1, fun j hj hp => ⟨(h j hj) ▸ (h2 j hj hp).1, fun a ha hL => (h2 j hj hp).2 a ha ((h a ha).symm ▸ hL)⟩, Can.ext (fun j hj => by show (L j && !p j) = (L' j && !p j); (refine rwR (h j hj) ?_; with_reducible rfl)) h3⟩
theorem Can.sub {L L' : Nat → Bool} : ∀ {k : Nat}, (∀ j, j < n → L' j = true → L j = true) → Can n hands ah k L → Can n hands ah k L'
  | 0, h, c => fun j hj => by
    cases e : L' j with
    | false => rfl
    | true => have := h j hj e; (replace this := (c j hj) ▸ this); cases this
  | k + 1, h, ⟨p, h1, h2, h3⟩ => by
    refine ⟨fun j => p j && L' j, Nat.le_trans (cnt_sub fun j _ hj => by simp at hj; exact hj.1) h1, fun j hj hp => ?_, Can.sub (fun j hj hL => ?_) h3⟩
    · simp at hp
      exact ⟨hp.2, fun a ha hL => (h2 j hj hp.1).2 a ha (h a ha hL)⟩
    · simp at hL ⊢
      refine ⟨h j hj hL.1, ?_⟩
      have := hL.2
      (replace this := hL.1 ▸ this)
      simpa using this
theorem Can.succ {L : Nat → Bool} {k : Nat} (c : Can n hands ah k L) : Can n hands ah (k + 1) L :=
  ⟨fun _ => false, (by have : ((List.range n).filter fun _ => false) = [] := List.filter_eq_nil_iff.mpr (by simp); unfold cnt; (refine rwR this ?_); exact Nat.zero_le _), (fun _ _ h => by cases h), c.ext fun j _ => by show L j = (L j && !false); cases L j <;> rfl⟩
theorem Can.le {L : Nat → Bool} {k k' : Nat} (c : Can n hands ah k L) (h : k ≤ k') : Can n hands ah k' L := by
  obtain ⟨d, rfl⟩ := Nat.exists_eq_add_of_le h
  clear h
  induction d with
  | zero => exact c
  | succ d ih => exact ih.succ
theorem Can.exch {a b : Nat} (ha : a < n) (hb : b < n) (hs : ∀ c, c < n → ah b c = true → ah a c = true) : ∀ {k : Nat} {L : Nat → Bool}, L a = true → L b = false → (∀ c, c < n → ((L c && !(c == a)) || c == b) = true → ah c b = false) → Can n hands ah k L → Can n hands ah k (fun j => (L j && !(j == a)) || j == b)
  | 0, L, hLa, _, _, c => by have := c a ha; (replace this := hLa ▸ this); cases this
  | k + 1, L, hLa, hLb, hbm, ⟨p, h1, h2, h3⟩ => by
    have hab : a ≠ b := fun e => by (replace hLa := e ▸ hLa; replace hLa := hLb ▸ hLa); cases hLa
    have hpb : p b = false := by
      cases e : p b with
      | false => rfl
      | true => have := (h2 b hb e).1; (replace this := hLb ▸ this); cases this
    have free : ∀ j, j < n → p j = true → j ≠ a → ∀ c, c < n → ((L c && !(c == a)) || c == b) = true → ah c j = false := fun j hj hp _ c hc hL => by
      simp at hL
      rcases hL with hL | hL
      · exact (h2 j hj hp).2 c hc hL.1
      · subst hL
        cases e : ah c j with
        | false => rfl
        | true => have := (h2 j hj hp).2 a ha hLa; (replace this := (hs j hj e) ▸ this); cases this
    by_cases hpa : p a = true
    · refine ⟨fun j => (p j && !(j == a)) || j == b, Nat.le_trans (cnt_swap ha hpa hpb) h1, fun j hj hp => ?_, h3.ext fun j hj => ?_⟩
      · simp at hp
        rcases hp with hp | hp
        · refine ⟨by simp [(h2 j hj hp.1).1, hp.2], free j hj hp.1 hp.2⟩
        · subst hp; exact ⟨by simp, hbm⟩
      · by_cases hjb : j = b
        · subst hjb; simp [hLb]
        · by_cases hja : j = a
          · subst hja; simp [hpa, hjb]
          · have e1 : (j == b) = false := by simp [hjb]
            have e2 : (j == a) = false := by simp [hja]
            simp only [e1, e2]
            cases L j <;> cases p j <;> rfl
    · have hpa : p a = false := by simpa using hpa
      refine ⟨p, h1, fun j hj hp => ?_, ?_⟩
      · have hja : j ≠ a := fun e => by (replace hp := e ▸ hp; replace hp := hpa ▸ hp); cases hp
        exact ⟨by simp [(h2 j hj hp).1, hja], free j hj hp hja⟩
      · have ih := Can.exch ha hb hs (L := fun j => L j && !p j) (by simp [hLa, hpa]) (by simp [hLb]) (fun c hc hL => hbm c hc (by
          simp at hL ⊢
          rcases hL with hL | hL
          · exact .inl ⟨hL.1.1, hL.2⟩
          · exact .inr hL)) h3
        refine ih.ext fun j hj => ?_
        by_cases hjb : j = b
        · subst hjb; simp [hpb]
        · have e1 : (j == b) = false := by simp [hjb]
          simp only [e1]
          cases L j <;> cases p j <;> cases (j == a) <;> rfl
theorem greedy_opt {L g : Nat → Bool} (hgm : ∀ j, j < n → g j = true → L j = true ∧ ∀ a, a < n → L a = true → ah a j = false) (hfull : ∀ x, x < n → L x = true → (∀ a, a < n → L a = true → ah a x = false) → g x = false → hands ≤ cnt n g)
    (hbest : ∀ y x, y < n → x < n → g y = true → g x = false → L x = true → (∀ a, a < n → L a = true → ah a x = false) → ∀ c, c < n → ah x c = true → ah y c = true) {k : Nat} (c : Can n hands ah (k + 1) L) : Can n hands ah k (fun j => L j && !g j) := by
  obtain ⟨p, h1, h2, h3⟩ := c
  have key : ∀ (d : Nat) (p : Nat → Bool), cnt n (fun j => p j && !g j) ≤ d → cnt n p ≤ hands → (∀ j, j < n → p j = true → L j = true ∧ ∀ a, a < n → L a = true → ah a j = false) → Can n hands ah k (fun j => L j && !p j) → Can n hands ah k (fun j => L j && !g j) := by
    intro d
    induction d with
    | zero =>
      intro p hd _ _ h3
      refine h3.sub fun j hj hL => ?_
      simp at hL ⊢
      refine ⟨hL.1, ?_⟩
      cases e : p j with
      | false => rfl
      | true =>
        have : cnt n (fun _ => false) < cnt n (fun j => p j && !g j) := cnt_lt (fun _ _ h => by cases h) hj (by simp [e, hL.2]) rfl
        lia
    | succ d ih =>
      intro p hd h1 h2 h3
      by_cases hex : ∃ x, x < n ∧ p x = true ∧ g x = false
      · obtain ⟨x, hx, hpx, hgx⟩ := hex
        have hmx := h2 x hx hpx
        have hfu := hfull x hx hmx.1 hmx.2 hgx
        obtain ⟨y, hy, hgy, hpy⟩ : ∃ y, y < n ∧ g y = true ∧ p y = false := by
          refine Classical.byContradiction fun hno => ?_
          have hsub : ∀ j, j < n → g j = true → p j = true := fun j hj hg => by
            cases e : p j with
            | true => rfl
            | false => exact absurd ⟨j, hj, hg, e⟩ hno
          have := cnt_lt hsub hx hpx hgx
          lia
        have hmy := hgm y hy hgy
        have hxy : x ≠ y := fun e => by (replace hgx := e ▸ hgx; replace hgx := hgy ▸ hgx); cases hgx
        refine ih (fun j => (p j && !(j == x)) || j == y) ?_ (Nat.le_trans (cnt_swap hx hpx hpy) h1) (fun j hj hp => ?_) ?_
        · have : cnt n (fun j => ((p j && !(j == x)) || j == y) && !g j) < cnt n (fun j => p j && !g j) := by
            refine cnt_lt (fun j _ h => ?_) hx (by simp [hpx, hgx]) (by simp [hxy])
            simp at h ⊢
            rcases h with ⟨h | h, hg⟩
            · exact ⟨h.1, hg⟩
            · subst h; (replace hg := hgy ▸ hg); cases hg
          lia
        · simp at hp
          rcases hp with hp | hp
          · exact h2 j hj hp.1
          · subst hp; exact hmy
        · have ex := Can.exch (n := n) (hands := hands) (ah := ah) (a := y) (b := x) hy hx (hbest y x hy hx hgy hgx hmx.1 hmx.2) (L := fun j => L j && !p j) (by simp [hmy.1, hpy]) (by simp [hpx]) (fun c hc hL => by
            simp at hL
            rcases hL with hL | hL
            · exact hmx.2 c hc hL.1.1
            · subst hL; exact hmx.2 c hc hmx.1) h3
          refine ex.ext fun j hj => ?_
          by_cases hjx : j = x
          · subst hjx; simp [hmx.1, hxy]
          · by_cases hjy : j = y
            · subst hjy; simp [hjx]
            · have e1 : (j == x) = false := by simp [hjx]
              have e2 : (j == y) = false := by simp [hjy]
              simp only [e1, e2]
              cases L j <;> cases p j <;> rfl
      · refine h3.sub fun j hj hL => ?_
        simp at hL ⊢
        refine ⟨hL.1, ?_⟩
        cases e : p j with
        | false => rfl
        | true => exact absurd ⟨j, hj, e, hL.2⟩ hex
  exact key _ p (Nat.le_refl _) h1 h2 h3
end
end Mine
end
section
set_option genInjectivity false
set_option genSizeOf false
set_option genSizeOfSpec false
namespace Mine
theorem mem_picks (ah : Nat → Nat → Bool) (hands : Nat) (left : List Nat) : ∀ (todo : List Nat) (picks : List (List Nat)) (p : List Nat), p ∈ todo.foldl (picksStep ah hands left) picks ↔
    ∃ q r, q ∈ picks ∧ r.Sublist todo ∧ (∀ j ∈ r, (left.filter fun a => ah a j) = []) ∧ p = q ++ r ∧ (r = [] ∨ (q ++ r).length ≤ hands)
  | [], picks, p => by
    constructor
    · intro h; exact ⟨p, [], h, List.Sublist.refl _, by simp, by simp, .inl rfl⟩
    · rintro ⟨q, r, h1, h2, _, h4, _⟩
      (replace h4 := (List.sublist_nil.mp h2) ▸ h4); simp at h4; subst h4; exact h1
  | x :: t, picks, p => by
    (refine rwR List.foldl_cons ?_; rewrite [mem_picks ah hands left t])
    constructor
    · rintro ⟨q, r, h1, h2, h3, h4, h5⟩
      unfold picksStep at h1
      split at h1
      · rename_i hm
        rcases List.mem_append.mp h1 with h1 | h1
        · exact ⟨q, r, h1, h2.cons x, h3, h4, h5⟩
        · obtain ⟨q', hq, rfl⟩ := List.mem_map.mp h1
          obtain ⟨hq1, hq2⟩ := List.mem_filter.mp hq
          simp at hq2
          refine ⟨q', x :: r, hq1, h2.cons_cons x, fun j hj => ?_, by (refine rwR h4 ?_); simp, .inr ?_⟩
          · rcases List.mem_cons.mp hj with rfl | hj
            · exact hm
            · exact h3 j hj
          · rcases h5 with rfl | h5
            · simp; lia
            · simp at h5 ⊢; lia
      · exact ⟨q, r, h1, h2.cons x, h3, h4, h5⟩
    · rintro ⟨q, r, h1, h2, h3, h4, h5⟩
      have hin : ∀ q ∈ picks, q ∈ picksStep ah hands left picks x := fun q hq => by unfold picksStep; split; exact List.mem_append_left _ hq; exact hq
      cases h2 with
      | cons _ h2 => exact ⟨q, r, hin q h1, h2, h3, h4, h5⟩
      | cons_cons _ h2 =>
        rename_i r'
        have hm := h3 x (by simp)
        have hlen : (q ++ x :: r').length ≤ hands := by rcases h5 with h5 | h5; cases h5; exact h5
        refine ⟨q ++ [x], r', ?_, h2, fun j hj => h3 j (by simp [hj]), by (refine rwR h4 ?_); simp, .inr (by simpa using hlen)⟩
        unfold picksStep
        (refine rwR (if_pos hm) ?_)
        refine List.mem_append_right _ (List.mem_map.mpr ⟨q, List.mem_filter.mpr ⟨h1, ?_⟩, rfl⟩)
        simp at hlen ⊢; lia
theorem mem_picksOf {ah : Nat → Nat → Bool} {hands : Nat} {left p : List Nat} : p ∈ picksOf ah hands left ↔ p.Sublist left ∧ (∀ j ∈ p, ∀ a ∈ left, ah a j = false) ∧ (p = [] ∨ p.length ≤ hands) := by
  unfold picksOf
  rw [mem_picks]
  constructor
  · rintro ⟨q, r, h1, h2, h3, h4, h5⟩
    simp at h1; subst h1; simp at h4; subst h4
    refine ⟨h2, fun j hj a ha => ?_, by simpa using h5⟩
    have := List.filter_eq_nil_iff.mp (h3 j hj) a ha
    simpa using this
  · rintro ⟨h1, h2, h3⟩
    refine ⟨[], p, by simp, h1, fun j hj => ?_, rfl, by simpa using h3⟩
    apply List.filter_eq_nil_iff.mpr
    intro a ha; (refine rwR (h2 j hj a ha) ?_); decide
theorem picks_tail_iff {ah : Nat → Nat → Bool} {hands : Nat} {left p : List Nat} (hp : p ≠ []) : p ∈ (picksOf ah hands left).tail ↔ p ∈ picksOf ah hands left := by
  obtain ⟨h1, h2, _⟩ := picks_facts ah hands left
  cases e : picksOf ah hands left with
  | nil => simp
  | cons q r =>
    (replace h1 := e ▸ h1); simp at h1; subst h1
    simp [hp]
theorem maskOf_lt {n : Nat} {l : List Nat} (h : l.Sublist (List.range n)) : maskOf l < 2 ^ n := by
  have h1 := maskOf_sublist h
  have h2 : ∀ n, maskOf (List.range n) + 1 = 2 ^ n := by
    intro n
    induction n with
    | zero => rfl
    | succ n ih =>
      (refine rwR List.range_succ ?_; refine rwR (maskOf_append _ _) ?_)
      have : maskOf [n] = 2 ^ n := by simp [maskOf]
      (refine rwR this ?_; refine rwR (Nat.pow_succ _ _) ?_); lia
  have := h2 n
  lia
theorem bitsOf_succ (n mask : Nat) : bitsOf (n + 1) mask = bitsOf n mask ++ (if mask / 2 ^ n % 2 == 1 then [n] else []) := by
  unfold bitsOf
  (refine rwR List.range_succ ?_; refine rwR (List.filter_append _ _) ?_)
  congr 1
  simp only [List.filter_cons, List.filter_nil]
theorem bitsOf_maskOf : ∀ (n : Nat) {l : List Nat}, l.Sublist (List.range n) → bitsOf n (maskOf l) = l
  | 0, l, h => by (refine rwR (List.sublist_nil.mp h) ?_); rfl
  | n + 1, l, h => by
    (replace h := List.range_succ ▸ h)
    obtain ⟨l1, l2, rfl, h1, h2⟩ := List.sublist_append_iff.mp h
    have hlt := maskOf_lt h1
    (refine rwR (bitsOf_succ _ _) ?_; refine rwR (maskOf_append _ _) ?_)
    have hl2 : l2 = [] ∨ l2 = [n] := by
      cases h2 with
      | cons _ h => exact .inl (List.sublist_nil.mp h)
      | cons_cons _ h => (refine rwR (List.sublist_nil.mp h) ?_); exact .inr rfl
    rcases hl2 with rfl | rfl
    · have e : maskOf l1 + maskOf [] = maskOf l1 := rfl
      (refine rwR e ?_; refine rwR (bitsOf_maskOf n h1) ?_; refine rwR (Nat.div_eq_of_lt hlt) ?_)
      simp
    · have e : maskOf [n] = 2 ^ n := by simp [maskOf]
      have e2 : bitsOf n (maskOf l1 + 2 ^ n) = bitsOf n (maskOf l1) := by
        (refine rwR (bitsOf_mod _ _) ?_; refine rwR (Nat.add_mod_right _ _) ?_; refine rwR (Nat.mod_eq_of_lt hlt) ?_; with_reducible rfl)
      have e3 : (maskOf l1 + 2 ^ n) / 2 ^ n = 1 := by
        (refine rwR (Nat.add_div_right _ (Nat.two_pow_pos n)) ?_; refine rwR (Nat.div_eq_of_lt hlt) ?_; with_reducible rfl)
      (refine rwR e ?_; refine rwR e2 ?_; refine rwR (bitsOf_maskOf n h1) ?_; refine rwR e3 ?_)
      simp
theorem maskOf_split : ∀ {l p : List Nat}, l.Nodup → p.Sublist l → maskOf l = maskOf p + maskOf (l.filter fun j => !p.contains j)
  | [], p, _, h => by (refine rwR (List.sublist_nil.mp h) ?_); rfl
  | x :: l, p, hn, h => by
    obtain ⟨hx, hn⟩ := List.nodup_cons.mp hn
    have c1 : maskOf (x :: l) = 2 ^ x + maskOf l := rfl
    cases h with
    | cons _ h =>
      have hxp : x ∉ p := fun q => hx (h.subset q)
      have ih := maskOf_split hn h
      (refine rwR List.filter_cons ?_; refine rwR (if_pos (by simp [hxp])) ?_; refine rwR c1 ?_)
      have c2 : maskOf (x :: l.filter fun j => !p.contains j) = 2 ^ x + maskOf (l.filter fun j => !p.contains j) := rfl
      lia
    | cons_cons _ h =>
      rename_i p'
      have ih := maskOf_split hn h
      (refine rwR List.filter_cons ?_; refine rwR (if_neg (by simp)) ?_; refine rwR c1 ?_)
      have c2 : maskOf (x :: p') = 2 ^ x + maskOf p' := rfl
      have e : (l.filter fun j => !(x :: p').contains j) = l.filter fun j => !p'.contains j := by
        apply List.filter_congr
        intro j hj
        have : j ≠ x := fun q => hx (q ▸ hj)
        simp [this]
      (refine rwR e ?_); lia
theorem bitsOf_sub (n mask : Nat) : (bitsOf n mask).Sublist (List.range n) := List.filter_sublist
theorem bitsOf_nodup (n mask : Nat) : (bitsOf n mask).Nodup := (bitsOf_sub n mask).nodup List.nodup_range
theorem bitsOf_minus {n mask : Nat} {p : List Nat} (hm : mask < 2 ^ n) (hp : p.Sublist (bitsOf n mask)) : bitsOf n (mask - maskOf p) = (bitsOf n mask).filter fun j => !p.contains j := by
  have h1 := maskOf_split (bitsOf_nodup n mask) hp
  (replace h1 := (maskOf_bitsOf n mask hm) ▸ h1)
  have : mask - maskOf p = maskOf ((bitsOf n mask).filter fun j => !p.contains j) := by (exact Nat.sub_eq_of_eq_add' (by assumption))
  (refine rwR this ?_; refine rwR (bitsOf_maskOf n (List.filter_sublist.trans (bitsOf_sub n mask))) ?_; with_reducible rfl)
end Mine
end
section
set_option genInjectivity false
set_option genSizeOf false
set_option genSizeOfSpec false
namespace Mine
noncomputable def inL (l : List Nat) : Nat → Bool := fun j => l.contains j
theorem cnt_contains {n : Nat} {p : List Nat} (hp : p.Sublist (List.range n)) : cnt n (inL p) ≤ p.length := by
  unfold cnt
  have : ((List.range n).filter (inL p)) = p := by
    have h1 : ∀ (l p : List Nat), l.Nodup → p.Sublist l → l.filter (fun j => p.contains j) = p := by
      intro l
      induction l with
      | nil => intro p _ h; (refine rwR (List.sublist_nil.mp h) ?_); rfl
      | cons x l ih =>
        intro p hn h
        obtain ⟨hx, hn⟩ := List.nodup_cons.mp hn
        cases h with
        | cons _ h =>
          have hxp : x ∉ p := fun q => hx (h.subset q)
          (refine rwR List.filter_cons ?_; refine rwR (if_neg (by simp [hxp])) ?_)
          exact ih p hn h
        | cons_cons _ h =>
          rename_i p'
          (refine rwR List.filter_cons ?_; refine rwR (if_pos (by simp)) ?_)
          congr 1
          (refine rwL (ih p' hn h) ?_)
          apply List.filter_congr
          intro j hj
          have : j ≠ x := fun q => hx (q ▸ hj)
          have e : (List.filter (fun j => p'.contains j) l) = p' := ih p' hn h
          (refine rwR e ?_)
          simp [this]
    exact h1 _ _ List.nodup_range hp
  (refine rwR this ?_); exact Nat.le_refl _
theorem fw_can {n hands : Nat} {ah : Nat → Nat → Bool} {fw : List Int} (F : FwOk n hands ah fw) (hl : fw.length = 2 ^ n) :
    ∀ (b mask : Nat), mask < b → mask < 2 ^ n → ∃ t : Nat, fw[mask]? = some (t : Int) ∧ ∀ k, Can n hands ah k (inL (bitsOf n mask)) ↔ t ≤ k := by
  intro b
  induction b with
  | zero => intro mask h; lia
  | succ b ih =>
    intro mask hb hm
    by_cases h0 : mask = 0
    · subst h0
      refine ⟨0, by simpa using F.zero, fun k => ⟨fun _ => Nat.zero_le _, fun _ => ?_⟩⟩
      have : Can n hands ah 0 (inL (bitsOf n 0)) := fun j _ => by
        have : bitsOf n 0 = [] := by unfold bitsOf; apply List.filter_eq_nil_iff.mpr; intro a _; simp
        (refine rwR this ?_); rfl
      exact this.le (Nat.zero_le _)
    · obtain ⟨M, ⟨hM1, hM2⟩, hfm⟩ := F.step mask (by (exact Nat.pos_of_ne_zero (by assumption))) (by (exact Nat.lt_of_lt_of_le (by assumption) (Nat.le_of_eq (Eq.symm (by assumption)))))
      have val : ∀ p ∈ (picksOf ah hands (bitsOf n mask)).tail, ∃ t : Nat, fw.getD (mask - maskOf p) 0 = (t : Int) ∧ p.Sublist (bitsOf n mask) ∧ (∀ j ∈ p, ∀ a ∈ bitsOf n mask, ah a j = false) ∧ p.length ≤ hands ∧ p ≠ [] ∧ ∀ k, Can n hands ah k (inL ((bitsOf n mask).filter fun j => !p.contains j)) ↔ t ≤ k := by
        intro p hp
        have hne : p ≠ [] := (picks_facts ah hands (bitsOf n mask)).2.1 p hp
        obtain ⟨h1, h2, h3⟩ := mem_picksOf.mp ((picks_tail_iff hne).mp hp)
        have hpos := maskOf_pos hne
        have hle := maskOf_sublist h1
        (replace hle := (maskOf_bitsOf n mask hm) ▸ hle)
        obtain ⟨t, ht, hc⟩ := ih (mask - maskOf p) (by (exact Nat.lt_of_lt_of_le (Nat.sub_lt (Nat.pos_of_ne_zero (by assumption)) (by assumption)) (Nat.le_of_lt_succ (by assumption)))) (by (exact Nat.lt_of_le_of_lt (Nat.sub_le _ _) (by assumption)))
        (replace hc := (bitsOf_minus hm h1) ▸ hc)
        refine ⟨t, by (refine rwR (List.getD_eq_getElem?_getD) ?_; refine rwR ht ?_); rfl, h1, h2, h3.resolve_left hne, hne, hc⟩
      obtain ⟨p0, hp0, e0⟩ := List.mem_map.mp hM1
      obtain ⟨t0, ht0, hs0, hmin0, hlen0, hne0, hc0⟩ := val p0 hp0
      have hMt : M = (t0 : Int) := by (refine rwL e0 ?_); exact ht0
      refine ⟨1 + t0, by (refine rwR hfm ?_; refine rwR hMt ?_); simp, fun k => ⟨?_, fun hk => ?_⟩⟩
      · induction k with
        | zero =>
          intro c
          exfalso
          have : bitsOf n mask ≠ [] := fun e => by
            have := maskOf_bitsOf n mask hm
            (replace this := e ▸ this)
            exact h0 this.symm
          obtain ⟨j, hj⟩ := List.exists_mem_of_ne_nil _ this
          have := c j (bitsOf_lt hj)
          simp [inL, hj] at this
        | succ k ihk =>
          rintro ⟨q, hq1, hq2, hq3⟩
          by_cases hemp : ∃ x, x < n ∧ q x = true
          · -- the pick as a list
            have hp1 : ((List.range n).filter q).Sublist (bitsOf n mask) := by
              have e : (List.range n).filter q = (bitsOf n mask).filter q := by
                unfold bitsOf
                (refine rwR List.filter_filter ?_)
                apply List.filter_congr
                intro j hj
                have hjn := List.mem_range.mp hj
                cases hqj : q j with
                | false => simp
                | true =>
                  have := (hq2 j hjn hqj).1
                  have hjm : j ∈ bitsOf n mask := by simpa [inL] using this
                  unfold bitsOf at hjm
                  have := (List.mem_filter.mp hjm).2
                  simp at this
                  simp [this]
              (refine rwR e ?_); exact List.filter_sublist
            have hpne : (List.range n).filter q ≠ [] := fun e => by
              obtain ⟨x, hx, hqx⟩ := hemp
              have : x ∈ (List.range n).filter q := List.mem_filter.mpr ⟨List.mem_range.mpr hx, hqx⟩
              (replace this := e ▸ this); cases this
            have hmem : (List.range n).filter q ∈ (picksOf ah hands (bitsOf n mask)).tail := (picks_tail_iff hpne).mpr (mem_picksOf.mpr ⟨hp1, fun j hj a ha => by
              obtain ⟨hjr, hqj⟩ := List.mem_filter.mp hj
              exact (hq2 j (List.mem_range.mp hjr) hqj).2 a (bitsOf_lt ha) (by simpa [inL] using ha), .inr hq1⟩)
            obtain ⟨t, ht, _, _, _, _, hc⟩ := val _ hmem
            have hct : t ≤ k := (hc k).mp (hq3.ext fun j hj => by
              simp only [inL]
              have e1 : ((List.range n).filter q).contains j = q j := by
                (refine rwR (propext Bool.eq_iff_iff) ?_); simp [hj]
              have e2 : ((bitsOf n mask).filter fun j => !((List.range n).filter q).contains j).contains j = ((bitsOf n mask).contains j && !((List.range n).filter q).contains j) := by
                (refine rwR (propext Bool.eq_iff_iff) ?_); simp
              (refine rwR e2 ?_; refine rwR e1 ?_; with_reducible rfl))
            have := hM2 _ (List.mem_map_of_mem hmem)
            (replace this := ht ▸ this; replace this := hMt ▸ this)
            have : t0 ≤ t := by exact_mod_cast this
            lia
          · have : Can n hands ah k (inL (bitsOf n mask)) := hq3.ext fun j hj => by
              have : q j = false := by
                cases e : q j with
                | false => rfl
                | true => exact absurd ⟨j, hj, e⟩ hemp
              simp [this]
            have := ihk this
            lia
      · obtain ⟨k', rfl⟩ : ∃ k', k = k' + 1 := ⟨k - 1, by lia⟩
        have c0 := (hc0 k').mpr (by lia)
        refine ⟨inL p0, Nat.le_trans (cnt_contains (hs0.trans (bitsOf_sub n mask))) hlen0, fun j hj hp => ?_, c0.ext fun j hj => ?_⟩
        · have hjp : j ∈ p0 := by simpa [inL] using hp
          exact ⟨by simpa [inL] using hs0.subset hjp, fun a ha hL => hmin0 j hjp a (by simpa [inL] using hL)⟩
        · (refine rwR (propext Bool.eq_iff_iff) ?_); simp [inL]
end Mine
end
section
set_option genInjectivity false
set_option genSizeOf false
set_option genSizeOfSpec false
namespace Mine
theorem cnt_add {n : Nat} {P : Nat → Bool} {x : Nat} (hx : x < n) (hp : P x = false) : cnt n (fun j => P j || j == x) = cnt n P + 1 := by
  have key : ∀ l : List Nat, l.Nodup → (l.filter fun j => P j || j == x).length = (l.filter P).length + (if x ∈ l then 1 else 0) := by
    intro l hl
    induction l with
    | nil => simp
    | cons a l ih =>
      obtain ⟨ha, hl⟩ := List.nodup_cons.mp hl
      have := ih hl
      (refine rwR List.filter_cons ?_; refine rwR List.filter_cons ?_)
      by_cases hax : a = x
      · subst hax
        (refine rwR (if_pos (by simp)) ?_; refine rwR (if_neg (by simp [hp])) ?_)
        (replace this := (if_neg ha) ▸ this)
        simp [this]
      · have e : (P a || a == x) = P a := by simp [hax]
        (refine rwR e ?_)
        have e2 : (x ∈ a :: l) ↔ x ∈ l := by simp [Ne.symm hax]
        simp only [e2]
        split
        · simp only [List.length_cons, this]; lia
        · exact this
  have := key (List.range n) List.nodup_range
  (replace this := (if_pos (List.mem_range.mpr hx)) ▸ this)
  exact this
theorem cnt_list {n : Nat} : ∀ {t : List Nat}, t.Nodup → (∀ j ∈ t, j < n) → cnt n (inL t) = t.length
  | [], _, _ => by
    have : ((List.range n).filter (inL [])) = [] := List.filter_eq_nil_iff.mpr (by simp [inL])
    unfold cnt; (refine rwR this ?_; with_reducible rfl)
  | x :: t, hn, hlt => by
    obtain ⟨hx, hn⟩ := List.nodup_cons.mp hn
    have ih := cnt_list hn fun j hj => hlt j (by simp [hj])
    have h := cnt_add (n := n) (P := inL t) (x := x) (hlt x (by simp)) (by simp [inL, hx])
    have e : inL (x :: t) = fun j => inL t j || j == x := by
      funext j
      (refine rwR (propext Bool.eq_iff_iff) ?_); simp [inL]; exact or_comm
    (refine rwR e ?_; refine rwR h ?_; refine rwR ih ?_); rfl
structure Taken (n hands : Nat) (ah : Nat → Nat → Bool) (left taken : List Nat) : Prop where
  free : ∀ j ∈ taken, j ∈ left ∧ ∀ a ∈ left, ah a j = false
  nodup : taken.Nodup
  le : taken.length ≤ hands
  full : ∀ x ∈ left, (∀ a ∈ left, ah a x = false) → x ∉ taken → hands ≤ taken.length
  best : ∀ y ∈ taken, ∀ x ∈ left, (∀ a ∈ left, ah a x = false) → x ∉ taken → cnt n (ah x) ≤ cnt n (ah y)
theorem nested {n : Nat} {be en : Nat → Int} {ah : Nat → Nat → Bool} (hah : ∀ a b, a < n → b < n → ah a b = decide (en a < be b)) {x y : Nat} (hx : x < n) (hy : y < n) (h : cnt n (ah x) ≤ cnt n (ah y)) : ∀ c, c < n → ah x c = true → ah y c = true := by
  by_cases hle : en y ≤ en x
  · intro c hc h1
    (replace h1 := (hah x c hx hc) ▸ h1)
    (refine rwR (hah y c hy hc) ?_)
    simp at h1 ⊢; lia
  · refine cnt_eq_sub (P := ah y) (Q := ah x) (fun c hc h1 => ?_) h
    (replace h1 := (hah y c hy hc) ▸ h1)
    (refine rwR (hah x c hx hc) ?_)
    simp at h1 ⊢; lia
structure Hours (n hands : Nat) (ah : Nat → Nat → Bool) (lefts : List (List Nat)) : Prop where
  sub : ∀ l ∈ lefts, l.Sublist (List.range n)
  step : ∀ (i : Nat) l l', lefts[i]? = some l → lefts[i + 1]? = some l' → l ≠ [] ∧ ∃ t, Taken n hands ah l t ∧ l' = l.filter fun j => !t.contains j
  last : ∀ l, lefts[lefts.length - 1]? = some l → l = []
theorem plain_law {n hands : Nat} {ah : Nat → Nat → Bool} {be en : Nat → Int} {fw : List Int} {lefts : List (List Nat)} (hah : ∀ a b, a < n → b < n → ah a b = decide (en a < be b)) (F : FwOk n hands ah fw) (hl : fw.length = 2 ^ n) (H : Hours n hands ah lefts) :
    ∀ (d i : Nat) l, i + d + 1 = lefts.length → lefts[i]? = some l → fw[maskOf l]? = some ((d : Nat) : Int) := by
  intro d
  induction d with
  | zero =>
    intro i l hi e
    have : l = [] := H.last l (by (refine rwL hi ?_); simpa using e)
    subst this
    exact F.zero
  | succ d ih =>
    intro i l hi e
    obtain ⟨l', e'⟩ : ∃ l', lefts[i + 1]? = some l' := ⟨lefts[i + 1]'(by lia), by simp⟩
    have e2 := ih (i + 1) l' (by lia) e'
    obtain ⟨hne, t, T, rfl⟩ := H.step i l l' e e'
    have hsub := H.sub l (List.mem_of_getElem? e)
    have hlt : ∀ j ∈ l, j < n := fun j hj => List.mem_range.mp (hsub.subset hj)
    obtain ⟨t1, ht1, hc1⟩ := fw_can F hl (2 ^ n) (maskOf l) (maskOf_lt hsub) (maskOf_lt hsub)
    obtain ⟨t2, ht2, hc2⟩ := fw_can F hl (2 ^ n) _ (maskOf_lt (List.filter_sublist.trans hsub)) (maskOf_lt (List.filter_sublist.trans hsub))
    (replace hc1 := (bitsOf_maskOf n hsub) ▸ hc1)
    rw [bitsOf_maskOf n (List.filter_sublist.trans hsub)] at hc2
    have ed : t2 = d := by (replace ht2 := e2 ▸ ht2); have := Option.some.inj ht2; lia
    have eqL : ∀ j, j < n → (inL l j && !inL t j) = inL (l.filter fun j => !t.contains j) j := fun j _ => by
      (refine rwR (propext Bool.eq_iff_iff) ?_); simp [inL]
    have up : t1 ≤ t2 + 1 := by
      refine (hc1 (t2 + 1)).mp ⟨inL t, ?_, fun j hj hp => ?_, ((hc2 t2).mpr (Nat.le_refl _)).ext fun j hj => (eqL j hj).symm⟩
      · (refine rwR (cnt_list T.nodup fun j hj => hlt j (T.free j hj).1) ?_); exact T.le
      · have hjt : j ∈ t := by simpa [inL] using hp
        exact ⟨by simpa [inL] using (T.free j hjt).1, fun a _ hL => (T.free j hjt).2 a (by simpa [inL] using hL)⟩
    have t1pos : t1 ≠ 0 := fun h0 => by
      have c := (hc1 0).mpr (by (exact Nat.le_of_eq (by assumption)))
      obtain ⟨j, hj⟩ := List.exists_mem_of_ne_nil _ hne
      have := c j (hlt j hj)
      simp [inL, hj] at this
    obtain ⟨k, rfl⟩ : ∃ k, t1 = k + 1 := ⟨t1 - 1, by (exact (Nat.sub_add_cancel (Nat.pos_of_ne_zero (by assumption))).symm)⟩
    have down : t2 ≤ k := by
      refine (hc2 k).mp ((greedy_opt (g := inL t) ?_ ?_ ?_ ((hc1 (k + 1)).mpr (Nat.le_refl _))).ext eqL)
      · intro j hj hg
        have hjt : j ∈ t := by simpa [inL] using hg
        exact ⟨by simpa [inL] using (T.free j hjt).1, fun a _ hL => (T.free j hjt).2 a (by simpa [inL] using hL)⟩
      · intro x hx hL hm hg
        (refine rwR (cnt_list T.nodup fun j hj => hlt j (T.free j hj).1) ?_)
        exact T.full x (by simpa [inL] using hL) (fun a ha => hm a (hlt a ha) (by simpa [inL] using ha)) (by simpa [inL] using hg)
      · intro y x hy hx hgy hgx hL hm
        exact nested hah hx hy (T.best y (by simpa [inL] using hgy) x (by simpa [inL] using hL) (fun a ha => hm a (hlt a ha) (by simpa [inL] using ha)) (by simpa [inL] using hgx))
    have : k + 1 = d + 1 := by lia
    (refine rwR ht1 ?_; refine rwR this ?_; with_reducible rfl)
end Mine
end
section
open PySem PySem.Calls PySem.W PyProof.Rows
set_option maxRecDepth 100000
set_option genInjectivity false
set_option genSizeOf false
set_option genSizeOfSpec false
namespace Mine
noncomputable def krun {α : Type} (lt : Nat → Nat → Bool) : KasT α → α
  | .ret a => a
  | .ask i j k => krun lt (k (lt i j))
noncomputable def ksafe {α : Type} (n : Nat) : KasT α → Bool
  | .ret _ => true
  | .ask i j k => decide (i < n) && decide (j < n) && ksafe n (k true) && ksafe n (k false)
theorem kwp_run {α : Type} {n : Nat} {lt : Nat → Nat → Bool} {cmp : Nat → Nat → (Bool → Shared → Prop) → Shared → Prop} {Inv : Shared → Prop} {Q : α → Shared → Prop}
    (hc : ∀ i j C s, i < n → j < n → Inv s → (∀ s', Inv s' → C (lt i j) s') → cmp i j C s) : ∀ (t : KasT α) (s : Shared), ksafe n t = true → Inv s → (∀ s', Inv s' → Q (krun lt t) s') → t.kasWp cmp Q s
  | .ret a, s, _, hi, hq => hq s hi
  | .ask i j k, s, hs, hi, hq => by
    simp only [ksafe, Bool.and_eq_true, decide_eq_true_eq] at hs
    refine hc i j _ s hs.1.1.1 hs.1.1.2 hi fun s' hi' => ?_
    have hs' : ksafe n (k (lt i j)) = true := by cases lt i j; exact hs.2; exact hs.1.2
    exact kwp_run hc (k (lt i j)) s' hs' hi' hq
theorem krun_congr {α : Type} {n : Nat} {lt lt' : Nat → Nat → Bool} (h : ∀ i j, i < n → j < n → lt i j = lt' i j) : ∀ (t : KasT α), ksafe n t = true → krun lt t = krun lt' t
  | .ret a, _ => rfl
  | .ask i j k, hs => by
    simp only [ksafe, Bool.and_eq_true, decide_eq_true_eq] at hs
    show krun lt (k (lt i j)) = krun lt' (k (lt' i j))
    (refine rwR (h i j hs.1.1.1 hs.1.1.2) ?_)
    refine krun_congr h _ ?_
    cases lt' i j; exact hs.2; exact hs.1.2
noncomputable def inserts (x : Nat) : List Nat → List (List Nat)
  | [] => [[x]]
  | y :: l => (x :: y :: l) :: (inserts x l).map (y :: ·)
noncomputable def perms : Nat → List (List Nat)
  | 0 => [[]]
  | n + 1 => (perms n).flatMap (inserts n)
noncomputable def rankOk (n : Nat) (r : List Nat) : Bool :=
  let p := (krun (fun i j => decide (r.getD i 0 < r.getD j 0)) (kas_sort n)).toList
  ((p.map fun i => r.getD i 0) == List.range n) && p.all fun i => decide (i < n)
theorem safe2 : ksafe 2 (kas_sort 2) = true := by decide +kernel
theorem safe3 : ksafe 3 (kas_sort 3) = true := by decide +kernel
theorem safe4 : ksafe 4 (kas_sort 4) = true := by decide +kernel
theorem safe5 : ksafe 5 (kas_sort 5) = true := by decide +kernel
theorem safe6 : ksafe 6 (kas_sort 6) = true := by decide +kernel
theorem ok2 : (perms 2).all (rankOk 2) = true := by decide +kernel
theorem ok3 : (perms 3).all (rankOk 3) = true := by decide +kernel
theorem ok4 : (perms 4).all (rankOk 4) = true := by decide +kernel
theorem ok5 : (perms 5).all (rankOk 5) = true := by decide +kernel
theorem ok6 : (perms 6).all (rankOk 6) = true := by decide +kernel
end Mine
end
section
open PySem PySem.Calls PySem.W PyProof.Rows
set_option maxRecDepth 100000
set_option genInjectivity false
set_option genSizeOf false
set_option genSizeOfSpec false
namespace Mine
theorem nodup_len {n : Nat} {t : List Nat} (hn : t.Nodup) (hlt : ∀ j ∈ t, j < n) : t.length ≤ n := by
  (refine rwL (cnt_list hn hlt) ?_)
  have := List.length_filter_le (inL t) (List.range n)
  simpa [cnt] using this
theorem mem_inserts (x : Nat) : ∀ (a b : List Nat), a ++ x :: b ∈ inserts x (a ++ b)
  | [], [] => by simp [inserts]
  | [], y :: b => by simp [inserts]
  | y :: a, b => by
    show y :: (a ++ x :: b) ∈ (x :: y :: (a ++ b)) :: (inserts x (a ++ b)).map (y :: ·)
    exact List.mem_cons_of_mem _ (List.mem_map_of_mem (mem_inserts x a b))
theorem mem_perms : ∀ (n : Nat) (r : List Nat), r.Nodup → r.length = n → (∀ j ∈ r, j < n) → r ∈ perms n
  | 0, r, _, hl, _ => by (refine rwR (List.length_eq_zero_iff.mp hl) ?_); simp [perms]
  | n + 1, r, hn, hl, hlt => by
    have hmem : n ∈ r := Classical.byContradiction fun hno => by
      have : r.length ≤ n := nodup_len hn fun j hj => by
        have h1 := hlt j hj
        have h2 : j ≠ n := fun e => hno (e ▸ hj)
        lia
      lia
    refine el2_1 (List.append_of_mem hmem) fun a b r1_ => ?_
    obtain rfl := r1_
    have hn' : (a ++ b).Nodup := by
      have := hn
      simp only [List.nodup_append, List.nodup_cons] at this ⊢
      refine el0_3 this fun h1 q2_ h4 => ?_
      try clear this
      refine el0_2 q2_ fun h2 h3 => ?_
      try clear q2_
      exact ⟨h1, h3, fun x hx y hy => h4 x hx y (by simp [hy])⟩
    have hnn : n ∉ a ++ b := by
      intro h
      have := hn
      simp only [List.nodup_append, List.nodup_cons] at this
      refine el0_3 this fun h1 q3_ h4 => ?_
      try clear this
      refine el0_2 q3_ fun h2 h3 => ?_
      try clear q3_
      refine Or.elim (List.mem_append.mp h) (fun h => ?_) fun h => ?_
      · exact h4 n h n (by simp) rfl
      · exact h2 h
    have ih := mem_perms n (a ++ b) hn' (by simp at hl ⊢; lia) fun j hj => by
      have h1 := hlt j (by simp at hj ⊢; rcases hj with hj | hj; exact .inl hj; exact .inr (.inr hj))
      have h2 : j ≠ n := fun e => hnn (e ▸ hj)
      lia
    exact List.mem_flatMap.mpr ⟨a ++ b, ih, mem_inserts n a b⟩
theorem sort_perm {n : Nat} {lt : Nat → Nat → Bool} (h2 : 2 ≤ n) (h6 : n ≤ 6) (irr : ∀ i, i < n → lt i i = false) (tr : ∀ i j k, i < n → j < n → k < n → lt i j = true → lt j k = true → lt i k = true) (tot : ∀ i j, i < n → j < n → i ≠ j → lt i j = true ∨ lt j i = true) :
    ksafe n (kas_sort n) = true ∧ (krun lt (kas_sort n)).toList.Nodup ∧ (krun lt (kas_sort n)).toList.length = n ∧ (∀ i ∈ (krun lt (kas_sort n)).toList, i < n) ∧ (krun lt (kas_sort n)).toList.Pairwise fun i j => lt i j = true := by
  have hs : ksafe n (kas_sort n) = true := by
    rcases (by lia : n = 2 ∨ n = 3 ∨ n = 4 ∨ n = 5 ∨ n = 6) with rfl | rfl | rfl | rfl | rfl
    · exact safe2
    · exact safe3
    · exact safe4
    · exact safe5
    · exact safe6
  have ho : (perms n).all (rankOk n) = true := by
    rcases (by lia : n = 2 ∨ n = 3 ∨ n = 4 ∨ n = 5 ∨ n = 6) with rfl | rfl | rfl | rfl | rfl
    · exact ok2
    · exact ok3
    · exact ok4
    · exact ok5
    · exact ok6
  have mono : ∀ i j, i < n → j < n → lt i j = true → cnt n (fun k => lt k i) < cnt n (fun k => lt k j) := fun i j hi hj h =>
    cnt_lt (fun k hk h1 => tr k i j hk hi hj h1 h) hi h (irr i hi)
  have rget : ∀ i, i < n → ((List.range n).map fun i => cnt n (fun k => lt k i)).getD i 0 = cnt n (fun k => lt k i) := fun i hi => by
    (refine rwR (List.getD_eq_getElem?_getD) ?_); simp [hi]
  have ltr : ∀ i j, i < n → j < n → lt i j = decide (((List.range n).map fun i => cnt n (fun k => lt k i)).getD i 0 < ((List.range n).map fun i => cnt n (fun k => lt k i)).getD j 0) := fun i j hi hj => by
    (refine rwR (rget i hi) ?_; refine rwR (rget j hj) ?_; refine rwR (propext Bool.eq_iff_iff) ?_)
    simp only [decide_eq_true_eq]
    constructor
    · exact mono i j hi hj
    · intro h
      by_cases hij : i = j
      · subst hij; exact absurd h (Nat.lt_irrefl _)
      · refine Or.elim (tot i j hi hj hij) (fun h1 => ?_) fun h1 => ?_
        · exact h1
        · have := mono j i hj hi h1; lia
  have hr : ((List.range n).map fun i => cnt n (fun k => lt k i)) ∈ perms n := by
    refine mem_perms n _ ?_ (by simp) fun r hr => ?_
    · (refine rwR (propext List.nodup_iff_pairwise_ne) ?_; refine rwR (propext List.pairwise_map) ?_)
      refine List.Pairwise.imp_of_mem (R := (· ≠ ·)) (fun {a b} ha hb hab => ?_) (List.nodup_iff_pairwise_ne.mp List.nodup_range)
      have ha := List.mem_range.mp ha
      have hb := List.mem_range.mp hb
      refine Or.elim (tot a b ha hb hab) (fun h => ?_) fun h => ?_
      · have := mono a b ha hb h; (exact Nat.ne_of_lt (by assumption))
      · have := mono b a hb ha h; (exact Nat.ne_of_gt (by assumption))
    · refine el1_2 (List.mem_map.mp hr) fun i hi r4_ => ?_
      obtain rfl := r4_
      have hi := List.mem_range.mp hi
      have : cnt n (fun k => lt k i) < cnt n (fun _ => true) := cnt_lt (fun _ _ _ => rfl) hi rfl (irr i hi)
      have h2 : cnt n (fun _ => true) ≤ n := by simpa [cnt] using List.length_filter_le (fun _ => true) (List.range n)
      (exact Nat.le_trans (by assumption) (by assumption))
  have ok := List.all_eq_true.mp ho _ hr
  unfold rankOk at ok
  (replace ok := Eq.symm (krun_congr ltr (kas_sort n) hs) ▸ ok)
  simp only [Bool.and_eq_true, beq_iff_eq, List.all_eq_true, decide_eq_true_eq] at ok
  refine el0_2 ok fun ok1 ok2 => ?_
  try clear ok
  have hlen : (krun lt (kas_sort n)).toList.length = n := by have := congrArg List.length ok1; simpa using this
  have hpw : (krun lt (kas_sort n)).toList.Pairwise fun i j => lt i j = true := by
    have h1 : ((krun lt (kas_sort n)).toList.map fun i => ((List.range n).map fun i => cnt n (fun k => lt k i)).getD i 0).Pairwise (· < ·) := by (refine rwR ok1 ?_); exact List.pairwise_lt_range
    rw [List.pairwise_map] at h1
    refine List.Pairwise.imp_of_mem (fun {a b} ha hb hab => ?_) h1
    (refine rwR (ltr a b (ok2 a ha) (ok2 b hb)) ?_)
    exact decide_eq_true hab
  refine ⟨hs, ?_, hlen, ok2, hpw⟩
  (refine rwR (propext List.nodup_iff_pairwise_ne) ?_)
  refine List.Pairwise.imp_of_mem (fun {a b} ha hb hab => ?_) hpw
  rintro rfl
  (replace hab := (irr a (ok2 a ha)) ▸ hab); cases hab
end Mine
end
section
open PySem PySem.Calls PySem.W PyProof.Rows
set_option maxRecDepth 100000
set_option genInjectivity false
set_option genSizeOf false
set_option genSizeOfSpec false
namespace Mine
noncomputable def lexLt (a b : Int × Int) : Bool := if a.1 = b.1 then decide (a.2 < b.2) else decide (a.1 < b.1)
theorem lexLt_iff {a b : Int × Int} : lexLt a b = true ↔ a.1 < b.1 ∨ (a.1 = b.1 ∧ a.2 < b.2) := by
  unfold lexLt
  split
  · rename_i h; simp only [decide_eq_true_eq]; (exact ⟨fun x => .inr ⟨h, x⟩, fun x => x.elim (fun y => absurd h (Int.ne_of_lt y)) (·.2)⟩)
  · rename_i h; simp only [decide_eq_true_eq]; (exact ⟨.inl, fun x => x.elim id fun y => absurd y.1 h⟩)
theorem lexLt_irr (a : Int × Int) : lexLt a a = false := by
  cases h : lexLt a a with
  | false => rfl
  | true => have := lexLt_iff.mp h; lia
theorem lexLt_tr {a b c : Int × Int} (h1 : lexLt a b = true) (h2 : lexLt b c = true) : lexLt a c = true := by
  rw [lexLt_iff] at h1 h2 ⊢; (exact h1.elim (fun h => h2.elim (fun g => .inl (Int.lt_trans h g)) fun g => .inl (g.1 ▸ h)) fun h => h2.elim (fun g => .inl (h.1 ▸ g)) fun g => .inr ⟨h.1.trans g.1, Int.lt_trans h.2 g.2⟩)
theorem lexLt_tot {a b : Int × Int} (h : a ≠ b) : lexLt a b = true ∨ lexLt b a = true := by
  (refine rwR (propext lexLt_iff) ?_; refine rwR (propext lexLt_iff) ?_)
  have : a.1 ≠ b.1 ∨ a.2 ≠ b.2 := by
    by_cases h1 : a.1 = b.1
    · exact .inr fun h2 => h (Prod.ext h1 h2)
    · exact .inl h1
  (exact (Int.lt_trichotomy a.1 b.1).elim (fun h => .inl (.inl h)) fun h => h.elim (fun h => (Int.lt_trichotomy a.2 b.2).elim (fun g => .inl (.inr ⟨h, g⟩)) fun g => g.elim (fun g => this.elim (absurd h) (absurd g)) fun g => .inr (.inr ⟨h.symm, g⟩)) fun h => .inr (.inl h))
theorem news_all {h : Heap} {L : Addr} : News noHeap L h (liveL h (fun b => b == L)) := by
  intro z1_ hp
  obtain ⟨b, o⟩ := z1_
  try clear z1_
  refine el0_2 (mem_liveL.mp hp) fun h1 h2 => ?_
  simp at h1
  exact ⟨h2, h1, noHeap_get _⟩
section
variable {prog : Program} {w : World} {A : Around} {E : Value → Shared → Prop} {s : Shared}
theorem tup_lt {x y : Addr} {a b : Int × Int} {t u t' u' : Tok} {C : Bool → Shared → Prop} (hx : IsTup s.heap x #[.int a.1 t, .int a.2 u]) (hy : IsTup s.heap y #[.int b.1 t', .int b.2 u']) (hC : C (lexLt a b) s) :
    wpAny (model prog w) A (keyLt' (tuples' true) (.ref x) (.ref y)) C E s := by
  obtain ⟨ox, ex, cx, nx, dx⟩ := hx
  try clear hx
  obtain ⟨oy, ey, cy, ny, dy⟩ := hy
  try clear hy
  refine kat_lt ex dx ey dy ?_
  refine kat_cons (wpAny_eqBool_int (kat_go (fun e => kat_yes (kat_cons (wpAny_eqBool_int (kat_go (fun e' => kat_yes (kat_nil ?_)) fun e' => kat_no ?_)))) fun e => kat_no ?_))
  · have h1 : a.1 = b.1 := by simpa using e
    have h2 : a.2 = b.2 := by simpa using e'
    have : lexLt a b = false := by unfold lexLt; (refine rwR (if_pos h1) ?_; refine rwR h2 ?_); simp
    (replace hC := this ▸ hC); exact hC
  · have h1 : a.1 = b.1 := by simpa using e
    refine kat_one _ _ (P.lt_int ?_)
    have : lexLt a b = decide (a.2 < b.2) := by unfold lexLt; (refine rwR (if_pos h1) ?_; with_reducible rfl)
    (replace hC := this ▸ hC); exact hC
  · have h1 : ¬ a.1 = b.1 := by simpa using e
    refine oneLt_int ?_
    have : lexLt a b = decide (a.1 < b.1) := by unfold lexLt; (refine rwR (if_neg h1) ?_; with_reducible rfl)
    (replace hC := this ▸ hC); exact hC
theorem kat_tups {h : Heap} : ∀ (ts : List (Addr × Int × Int)), (∀ q ∈ ts, ∃ t u, IsTup h q.1 #[.int q.2.1 t, .int q.2.2 u]) → ∃ fs, KatTups h (ts.map fun q => Value.ref q.1) fs ∧ fs.length = ts.length ∧ ∀ v ∈ fs, ∃ i t, v = Value.int i t
  | [], _ => ⟨[], trivial, rfl, by simp⟩
  | q :: ts, hq => by
    obtain ⟨fs, h1, h2, h3⟩ := kat_tups ts fun x hx => hq x (by simp [hx])
    obtain ⟨t, u, o, e, hc, n, hd⟩ := hq q (by simp)
    refine ⟨.int q.2.1 t :: fs, KatTups.cons e hc hd rfl h1, by simp [h2], fun v hv => ?_⟩
    rcases List.mem_cons.mp hv with rfl | hv
    · exact ⟨_, _, rfl⟩
    · exact h3 v hv
theorem sorted_pairs {ts : List (Addr × Int × Int)} {l L : Addr} {m : Str → Option Value} {Q : Value → Shared → Prop} (hn : s.heap.Ns L m) (hl : s.heap.PlainList l (List.toArray (ts.map fun q => Value.ref q.1))) (h2 : 2 ≤ ts.length) (h6 : ts.length ≤ 6)
    (ht : ∀ q ∈ ts, q.1 ≠ L ∧ ∃ t u, IsTup s.heap q.1 #[.int q.2.1 t, .int q.2.2 u]) (hd : (ts.map (·.2)).Nodup)
    (k : ∀ D h' tk (p : List Nat), s.heap.get? D = none → p.Nodup → p.length = ts.length → (∀ i ∈ p, i < ts.length) → (p.Pairwise fun i j => lexLt (ts.getD i (0, 0, 0)).2 (ts.getD j (0, 0, 0)).2 = true) → h'.PlainList D (List.toArray (p.map fun i => Value.ref (ts.getD i (0, 0, 0)).1)) → h'.Ns L m →
      (∀ b o, b ≠ L → s.heap.get? b = some o → h'.get? b = some o) → Q (.ref D) { s with heap := h', toks := tk }) :
    wpAny (model prog w) A (call (.builtin "sorted") [.ref l]) Q E s := by
  have hlen : (ts.map fun q => Value.ref q.1).length = ts.length := by simp
  refine kat_sorted (h₀ := noHeap) (L := L) (m := m) (news := liveL s.heap (fun b => b == L)) (vs := ts.map fun q => Value.ref q.1) (fr_no hn) news_all hl.isList (by (refine rwR hlen ?_); exact h2) (by (refine rwR hlen ?_); (exact Nat.lt_of_le_of_lt (by assumption) (by decide))) ?_
  intro D e1 h' F' N' hlt
  have kept : ∀ b o, b ≠ L → s.heap.get? b = some o → h'.get? b = some o := fun b o hb e => (N' (b, o) (List.mem_cons_of_mem _ (mem_liveL.mpr ⟨by simp [hb], e⟩))).1
  have DL : D ≠ L := (N' (D, _) List.mem_cons_self).2.1
  have Dn : s.heap.get? D = none := by
    cases e : s.heap.get? D with
    | none => rfl
    | some o => exact absurd (hlt (D, o) (mem_liveL.mpr ⟨by simp [DL], e⟩)) (Nat.lt_irrefl _)
  have ht' : ∀ q ∈ ts, ∃ t u, IsTup h' q.1 #[.int q.2.1 t, .int q.2.2 u] := fun q hq => by
    obtain ⟨hqL, t, u, o, e, r⟩ := ht q hq
    exact ⟨t, u, o, kept _ _ hqL e, r⟩
  refine el1_3 (kat_tups ts ht') fun fs hf1 hf2 hf3 => ?_
  refine kat_kind (T := .type "int") hf1 (by lia) (fun v hv => ?_) (by decide) ?_
  · refine el2_1 (hf3 v hv) fun i t r2_ => ?_
    obtain rfl := r2_
    exact Looks.of_pure rfl
  (refine rwR (show (Value.type "int" != Value.type "tuple") = true from by decide) ?_)
  (refine rwR hlen ?_)
  have gd : ∀ i, i < ts.length → (ts.map fun q => Value.ref q.1).getD i Value.none = .ref (ts.getD i (0, 0, 0)).1 ∧ ts.getD i (0, 0, 0) ∈ ts := fun i hi => by
    (refine rwR (List.getD_eq_getElem?_getD) ?_; refine rwR (List.getD_eq_getElem?_getD) ?_)
    simp [hi]
  have inj : ∀ i j, i < ts.length → j < ts.length → (ts.getD i (0, 0, 0)).2 = (ts.getD j (0, 0, 0)).2 → i = j := fun i j hi hj e => by
    have e' : (ts.map (·.2))[i]'(by simpa using hi) = (ts.map (·.2))[j]'(by simpa using hj) := by
      (replace e := (List.getD_eq_getElem?_getD) ▸ e; replace e := (List.getD_eq_getElem?_getD) ▸ e)
      simpa [hi, hj] using e
    exact (List.getElem_inj hd).mp e'
  have hsp := sort_perm (n := ts.length) (lt := fun i j => lexLt (ts.getD i (0, 0, 0)).2 (ts.getD j (0, 0, 0)).2) h2 h6 (fun i _ => lexLt_irr _) (fun i j k _ _ _ h1 h2 => lexLt_tr h1 h2) (fun i j hi hj hij => lexLt_tot fun e => hij (inj i j hi hj e))
  refine el0_5 hsp fun p1 p2 p3 p4 p5 => ?_
  try clear hsp
  refine kwp_run (n := ts.length) (lt := fun i j => lexLt (ts.getD i (0, 0, 0)).2 (ts.getD j (0, 0, 0)).2) (Inv := fun s'' => s'' = { s with heap := h' }) ?_ (kas_sort ts.length) _ p1 rfl ?_
  · rintro i j C s'' hi hj rfl hC
    unfold kas_ask
    (refine rwR ((gd i hi).1) ?_; refine rwR ((gd j hj).1) ?_)
    refine el2_1 (ht' _ (gd i hi).2) fun t u hx => ?_
    refine el2_1 (ht' _ (gd j hj).2) fun t' u' hy => ?_
    exact tup_lt hx hy (hC _ rfl)
  · rintro s'' rfl
    refine KasFin.intro F' N' (UpdF.head fun q hq => Nat.ne_of_lt (hlt q hq)) fun h'' c F'' N'' => ?_
    have ND := (N'' (D, _) List.mem_cons_self).1
    refine k D h'' s.toks _ Dn p2 p3 p4 p5 ⟨c, ?_⟩ F''.ns fun b o hb e => (N'' (b, o) (List.mem_cons_of_mem _ (mem_liveL.mpr ⟨by simp [hb], e⟩))).1
    have e : ((krun (fun i j => lexLt (ts.getD i (0, 0, 0)).2 (ts.getD j (0, 0, 0)).2) (kas_sort ts.length)).toList.map fun i => (ts.map fun q => Value.ref q.1).getD i Value.none) = ((krun (fun i j => lexLt (ts.getD i (0, 0, 0)).2 (ts.getD j (0, 0, 0)).2) (kas_sort ts.length)).toList.map fun i => Value.ref (ts.getD i (0, 0, 0)).1) :=
      List.map_congr_left fun i hi => (gd i (p4 i hi)).1
    (refine rwL e ?_)
    exact ND
end
end Mine
end
section
open PySem PySem.Calls PySem.W PyProof.Rows
set_option maxRecDepth 100000
set_option genInjectivity false
set_option genSizeOf false
set_option genSizeOfSpec false
namespace Mine
section
variable {prog : Program} {w : World} {A : Around} {E : Value → Shared → Prop} {s : Shared}
theorem sort_short {a : Addr} {vs : List Value} {n : Nat} {P : PySem.Fin → Shared → Prop} (ho : s.heap.get? a = some (seqObj "list" vs.toArray n)) (h1 : vs.length < 2)
    (h : ∀ h', h'.PlainList a (List.toArray vs) → (∀ b o, b ≠ a → s.heap.get? b = some o → h'.get? b = some o) → P (.done (.ret .none)) { s with heap := h' }) :
    wpAny (model prog w) A (Builtin.«list.sort» ⟨[.ref a], []⟩) P E s := by
  (refine rwR (list_sort_plain _) ?_)
  have s1 := Heap.SameBut.update s.heap a (Obj.mapSeq fun _ => (#[] : Array Value))
  obtain ⟨e1, ho1⟩ : ∃ e1, (s.heap.update a (Obj.mapSeq fun _ => (#[] : Array Value))).get? a = some (seqObj "list" #[] e1) := ⟨_, get?_update_seq ho fun _ => #[]⟩
  refine wpAny_bind (listItems_at ho rfl ?_)
  refine wpAny_bind (listUpdate_at ho rfl ?_ (by (refine rwR List.size_toArray ?_; refine rwR sizeLine_eq ?_); lia) (Nat.zero_le _))
  refine wpAny_bind (seqEpoch_at ho1 rfl ?_)
  refine wpAny_bind (wpAny_newTuple ?_ (by show vs.length ≤ _; (refine rwR sizeLine_eq ?_); lia))
  refine wpAny_bind (wpAny_newList ?_ (Nat.zero_le _))
  refine wpAny_holding ?_
  dsimp only
  have hn2 : vs.toArray.size < 2 := by (refine rwR List.size_toArray ?_); exact h1
  (refine rwR (if_pos hn2) ?_; refine rwR (if_pos hn2) ?_)
  refine wpAny_bind (wpAny_pure ?_)
  have ho2 : (((s.heap.update a (Obj.mapSeq fun _ => (#[] : Array Value))).push (seqObj "tuple" vs.toArray 0)).push (seqObj "list" #[] 0)).get? a = some (seqObj "list" #[] e1) := Heap.get?_push_of_some _ (Heap.get?_push_of_some _ ho1)
  have kp : ∀ b o, b ≠ a → s.heap.get? b = some o → (((s.heap.update a (Obj.mapSeq fun _ => (#[] : Array Value))).push (seqObj "tuple" vs.toArray 0)).push (seqObj "list" #[] 0)).get? b = some o := fun b o hb e => Heap.get?_push_of_some _ (Heap.get?_push_of_some _ (s1.extBut b o hb e))
  show wpAny _ _ (pure ((), SortSt.mk' general' (vs.toArray.zip vs.toArray) #[] 7 none) >>= _) _ _ _
  refine wpAny_bind (wpAny_pure ?_)
  dsimp only
  have hout : (arrOf (SortSt.mk' general' (vs.toArray.zip vs.toArray) #[] 7 none)).map (·.2) = vs.toArray := by
    show (vs.toArray.zip vs.toArray).map (·.2) = _
    apply Array.toList_inj.mp
    simp [Array.toList_zip, List.map_snd_zip]
  (refine rwR hout ?_)
  refine wpAny_bind (seqEpoch_at ho2 rfl ?_)
  refine wpAny_bind (listUpdate_at ho2 rfl ?_ (Nat.zero_le _) (by (refine rwR List.size_toArray ?_; refine rwR sizeLine_eq ?_); lia))
  show wpAny _ _ (if (e1 != e1) = true then _ else _) _ _ _
  simp only [bne_self_eq_false, Bool.false_eq_true, if_false]
  have s2 := Heap.SameBut.update (((s.heap.update a (Obj.mapSeq fun _ => (#[] : Array Value))).push (seqObj "tuple" vs.toArray 0)).push (seqObj "list" #[] 0)) a (Obj.mapSeq fun _ => vs.toArray)
  obtain ⟨c2, hc2⟩ : ∃ c2, ((((s.heap.update a (Obj.mapSeq fun _ => (#[] : Array Value))).push (seqObj "tuple" vs.toArray 0)).push (seqObj "list" #[] 0)).update a (Obj.mapSeq fun _ => vs.toArray)).get? a = some (seqObj "list" vs.toArray c2) := ⟨_, get?_update_seq ho2 fun _ => vs.toArray⟩
  exact wpAny_pure (h _ ⟨c2, hc2⟩ fun b o hb e => s2.extBut b o hb (kp b o hb e))
end
end Mine
end
section
open PySem PySem.Calls PySem.W PyProof.Rows
set_option maxRecDepth 100000
set_option genInjectivity false
set_option genSizeOf false
set_option genSizeOfSpec false
namespace Mine
section
variable {prog : Program} {w : World} {A : Around} {E : Value → Shared → Prop} {s : Shared}
theorem sorted_short {l : Addr} {vs : List Value} {Q : Value → Shared → Prop} (hl : s.heap.IsList l (List.toArray vs)) (h1 : vs.length < 2)
    (k : ∀ D h', s.heap.get? D = none → h'.PlainList D (List.toArray vs) → (∀ b o, s.heap.get? b = some o → h'.get? b = some o) → Q (.ref D) { s with heap := h' }) :
    wpAny (model prog w) A (call (.builtin "sorted") [.ref l]) Q E s := by
  refine Calls.call_function_entry kind_sorted plain_sorted entry_sorted (args_sorted1 _) ?_
  unfold Builtin.«sorted»
  refine wpAny_bind (m := checkCount "sorted" 1 1 _) (wpAny_pure ?_)
  refine wpAny_bind (collect_list hl ?_ (by (refine rwR sizeLine_eq ?_); lia))
  refine wpAny_bind (wpAny_newList ?_ (by (refine rwR sizeLine_eq ?_); lia))
  have hsz : ((s.heap.push (seqObj "list" #[] 0)).update s.heap.objs.size (Obj.mapSeq (· ++ vs.toArray))).objs.size = s.heap.objs.size + 1 := by
    (refine rwR (Heap.size_update _ _ _) ?_; refine rwR (size_push' _ _) ?_; with_reducible rfl)
  have hoL : (((s.heap.push (seqObj "list" #[] 0)).update s.heap.objs.size (Obj.mapSeq (· ++ vs.toArray))).push (seqObj "list" vs.toArray 0)).get? (s.heap.objs.size + 1) = some (seqObj "list" vs.toArray 0) := by
    (refine rwL hsz ?_); exact Heap.get?_push_size _ rfl
  have keep : ∀ b o, s.heap.get? b = some o → (((s.heap.push (seqObj "list" #[] 0)).update s.heap.objs.size (Obj.mapSeq (· ++ vs.toArray))).push (seqObj "list" vs.toArray 0)).get? b = some o := fun b o q => by
    have hlt : b < s.heap.objs.size := Heap.lt_size q
    (refine rwR (Heap.get?_push_ne _ _ _ (by rw [hsz]; exact Nat.ne_of_lt (Nat.lt_succ_of_lt hlt))) ?_; refine rwR (Heap.get?_update_ne _ _ _ _ (Nat.ne_of_lt hlt)) ?_; refine rwR (Heap.get?_push_ne _ _ _ (Nat.ne_of_lt hlt)) ?_)
    exact q
  show wpAny _ _ _ _ _ { s with heap := ((s.heap.push (seqObj "list" #[] 0)).update s.heap.objs.size (Obj.mapSeq (· ++ vs.toArray))).push (seqObj "list" vs.toArray 0) }
  (refine rwR hsz ?_)
  refine wpAny_bind (wpAny_holding (wpAny_call_entry slot_list_sort ⟨_, hoL, rfl⟩ entry_list_sort ?body (args_list_sort _)))
  case body =>
    refine sort_short (s := { s with heap := ((s.heap.push (seqObj "list" #[] 0)).update s.heap.objs.size (Obj.mapSeq (· ++ vs.toArray))).push (seqObj "list" vs.toArray 0) }) hoL h1 fun h' hp kp => ?_
    exact ⟨_, rfl, wpAny_pure ⟨_, rfl, k _ h' (Heap.get?_none_of_le (Nat.le_succ _)) hp fun b o e => kp b o (Nat.ne_of_lt (Nat.lt_succ_of_lt (Heap.lt_size e))) (keep b o e)⟩⟩
end
end Mine
end
section
open PySem
set_option genInjectivity false
set_option genSizeOf false
set_option genSizeOfSpec false
namespace Mine
theorem decS_fold : ∀ (bs : List Nat) (np : Nat → Int) (rl : List Nat), (∀ b ∈ bs, (bs.count b : Int) ≤ np b) →
    (∀ b, (bs.foldl decS (np, rl)).1 b = np b - (bs.count b : Int)) ∧ (∀ b, (bs.foldl decS (np, rl)).2.count b = rl.count b + if b ∈ bs ∧ np b = (bs.count b : Int) then 1 else 0)
  | [], np, rl, _ => by simp
  | x :: bs, np, rl, h => by
    have hx : ((bs.count x : Nat) : Int) + 1 ≤ np x := by have := h x (by simp); simp at this; lia
    have ih := decS_fold bs (fup np x (np x - 1)) (if np x - 1 = 0 then rl ++ [x] else rl) fun b hb => by
      by_cases e : b = x
      · subst e; (refine rwR fup_eq ?_); lia
      · (refine rwR (fup_ne e) ?_)
        have := h b (by simp [hb])
        (replace this := (List.count_cons_of_ne (Ne.symm e)) ▸ this)
        exact this
    (refine rwR List.foldl_cons ?_)
    refine ⟨fun b => ?_, fun b => ?_⟩
    · refine (ih.1 b).trans ?_
      by_cases e : b = x
      · subst e; (refine rwR fup_eq ?_; refine rwR List.count_cons_self ?_); lia
      · (refine rwR (fup_ne e) ?_; refine rwR (List.count_cons_of_ne (Ne.symm e)) ?_; with_reducible rfl)
    · refine (ih.2 b).trans ?_
      by_cases e : b = x
      · subst e
        (refine rwR fup_eq ?_; refine rwR List.count_cons_self ?_)
        by_cases hb : b ∈ bs
        · have : 1 ≤ bs.count b := List.one_le_count_iff.mpr hb
          (refine rwR (if_neg (by lia)) ?_)
          by_cases e2 : np b - 1 = (bs.count b : Int)
          · (refine rwR (if_pos ⟨hb, e2⟩) ?_; refine rwR (if_pos ⟨by simp, by lia⟩) ?_; with_reducible rfl)
          · (refine rwR (if_neg (fun q => e2 q.2)) ?_; refine rwR (if_neg (fun q => e2 (by lia))) ?_; with_reducible rfl)
        · have e0 : bs.count b = 0 := List.count_eq_zero.mpr hb
          have h1 : (if b ∈ bs ∧ np b - 1 = (bs.count b : Int) then 1 else 0) = 0 := if_neg (fun q => hb q.1)
          (refine rwR h1 ?_; refine rwR e0 ?_)
          by_cases e2 : np b - 1 = 0
          · (refine rwR (if_pos e2) ?_; refine rwR (if_pos ⟨by simp, by lia⟩) ?_); simp
          · (refine rwR (if_neg e2) ?_; refine rwR (if_neg (fun q => e2 (by lia))) ?_; with_reducible rfl)
      · have e1 : (if np x - 1 = 0 then rl ++ [x] else rl).count b = rl.count b := by
          split
          · (refine rwR List.count_append ?_; refine rwR (List.count_cons_of_ne (Ne.symm e)) ?_); simp
          · rfl
        (refine rwR e1 ?_; refine rwR (fup_ne e) ?_; refine rwR (List.count_cons_of_ne (Ne.symm e)) ?_)
        have : (b ∈ x :: bs) ↔ b ∈ bs := by simp [e]
        simp only [this]
theorem su_count (j : Nat) : ∀ (ps : List Nat) (su : Nat → List Nat) (a b : Nat), ((ps.foldl (fun su p => fup su p (su p ++ [j])) su) a).count b = (su a).count b + if b = j then ps.count a else 0
  | [], su, a, b => by simp
  | p :: ps, su, a, b => by
    (refine rwR List.foldl_cons ?_; refine rwR (su_count j ps _ _ _) ?_)
    by_cases e : a = p
    · subst e
      (refine rwR fup_eq ?_; refine rwR List.count_append ?_; refine rwR List.count_cons_self ?_)
      by_cases e2 : b = j
      · subst e2; simp; lia
      · (refine rwR (List.count_cons_of_ne (Ne.symm e2)) ?_); simp [e2]
    · (refine rwR (fup_ne e) ?_; refine rwR (List.count_cons_of_ne (Ne.symm e)) ?_; with_reducible rfl)
structure Added (n : Nat) (T : Sor) (pr : Nat → List Nat) : Prop where
  np : ∀ j, T.np j = ((pr j).length : Int)
  su : ∀ a j, (T.su a).count j = (pr j).count a
  keys : ∀ i ∈ T.keys, i < n
theorem Added.add {n : Nat} {T : Sor} {pr : Nat → List Nat} (x : Added n T pr) {j : Nat} {ps : List Nat} (ia ix isl : Nat → Addr) (hj : j < n) (hp : ∀ a ∈ ps, a < n) : Added n (addS T j ps ia ix isl) (fup pr j (pr j ++ ps)) := by
  refine ⟨fun i => ?_, fun a i => ?_, fun i hi => ?_⟩
  · show fup T.np j _ i = _
    by_cases e : i = j
    · subst e; (refine rwR fup_eq ?_; refine rwR fup_eq ?_; refine rwR (x.np _) ?_); simp
    · (refine rwR (fup_ne e) ?_; refine rwR (fup_ne e) ?_; refine rwR (x.np _) ?_; with_reducible rfl)
  · show ((ps.foldl (fun su p => fup su p (su p ++ [j])) T.su) a).count i = _
    (rewrite [su_count]; refine rwR (x.su _ _) ?_)
    by_cases e : i = j
    · subst e; (refine rwR fup_eq ?_; refine rwR (if_pos rfl) ?_; refine rwR List.count_append ?_; with_reducible rfl)
    · (refine rwR (fup_ne e) ?_; refine rwR (if_neg e) ?_); rfl
  · have hi : i ∈ ps.foldl addKey (addKey T.keys j) := hi
    rcases foldl_addKey_mem.mp hi with h | h
    · rcases mem_addKey.mp h with h | h
      · exact x.keys i h
      · (refine rwR h ?_); exact hj
    · exact hp i h
theorem addS_key {T : Sor} {j : Nat} {ps : List Nat} {ia ix isl : Nat → Addr} : j ∈ (addS T j ps ia ix isl).keys := foldl_addKey_mem.mpr (.inl (mem_addKey.mpr (.inr rfl)))
theorem addS_keeps {T : Sor} {i j : Nat} {ps : List Nat} {ia ix isl : Nat → Addr} (h : i ∈ T.keys) : i ∈ (addS T j ps ia ix isl).keys := foldl_addKey_mem.mpr (.inl (mem_addKey.mpr (.inl h)))
theorem addS_su {T : Sor} {j : Nat} {ps : List Nat} {ia ix isl : Nat → Addr} (i : Nat) : ((addS T j ps ia ix isl).su i).length ≤ (T.su i).length + ps.length := su_len j ps T.su i
theorem fold_out : ∀ (l : List Nat) (np : Nat → Int) (b : Nat), (l.foldl (fun np j => fup np j (-1)) np) b = if b ∈ l then -1 else np b
  | [], np, b => by simp
  | x :: l, np, b => by
    (refine rwR List.foldl_cons ?_; refine rwR (fold_out l _ _) ?_)
    by_cases e : b ∈ l
    · simp [e]
    · by_cases e2 : b = x
      · subst e2; (refine rwR (if_neg e) ?_; refine rwR fup_eq ?_); simp
      · (refine rwR (if_neg e) ?_; refine rwR (fup_ne e2) ?_; refine rwR (if_neg (by simp [e, e2])) ?_; with_reducible rfl)
end Mine
end
section
open PySem
set_option genInjectivity false
set_option genSizeOf false
set_option genSizeOfSpec false
namespace Mine
noncomputable def cl (left l : List Nat) : Nat := l.countP fun a => left.contains a
theorem cl_split {left : List Nat} {j : Nat} (hj : j ∈ left) : ∀ l : List Nat, cl left l = cl (left.filter fun i => i != j) l + l.count j
  | [] => rfl
  | x :: l => by
    have ih := cl_split hj l
    unfold cl at ih ⊢
    (refine rwR List.countP_cons ?_; refine rwR List.countP_cons ?_)
    by_cases e : x = j
    · subst e
      (refine rwR List.count_cons_self ?_; refine rwR (if_pos (by simpa using hj)) ?_; refine rwR (if_neg (by simp)) ?_)
      lia
    · (refine rwR (List.count_cons_of_ne e) ?_)
      have : ((left.filter fun i => i != j).contains x) = left.contains x := by
        (refine rwR (propext Bool.eq_iff_iff) ?_); simp [e]
      (refine rwR this ?_)
      lia
theorem cl_zero {left l : List Nat} : cl left l = 0 ↔ ∀ a ∈ left, a ∉ l := by
  unfold cl
  (refine rwR (propext List.countP_eq_zero) ?_)
  constructor
  · intro h a ha hl; exact h a hl (by simpa using ha)
  · intro h a ha hl; exact h a (by simpa using hl) ha
structure JI (n : Nat) (nd : Nat → List Nat) (left W : List Nat) (np : Nat → Int) (rl : List Nat) : Prop where
  sub : left.Sublist (List.range n)
  wl : ∀ j ∈ W, j ∈ left
  wn : W.Nodup
  w1 : ∀ j ∈ W, np j = -1
  w0 : ∀ j ∈ W, ∀ a ∈ left, a ∉ nd j
  npv : ∀ j ∈ left, j ∉ W → np j = (cl left (nd j) : Int)
  rlv : ∀ j, rl.count j = if j ∈ left ∧ j ∉ W ∧ np j = 0 then 1 else 0
  up : ∀ b, b < n → b ∉ left → ∀ a ∈ left, a ∉ nd b
section
variable {n : Nat} {nd : Nat → List Nat} {left W : List Nat} {np : Nat → Int} {rl : List Nat}
theorem JI.mem (I : JI n nd left W np rl) {j : Nat} : j ∈ rl ↔ j ∈ left ∧ j ∉ W ∧ np j = 0 := by
  have := I.rlv j
  constructor
  · intro h
    have h1 : 1 ≤ rl.count j := List.one_le_count_iff.mpr h
    by_cases c : j ∈ left ∧ j ∉ W ∧ np j = 0
    · exact c
    · (replace this := (if_neg c) ▸ this); lia
  · intro c
    (replace this := (if_pos c) ▸ this)
    exact List.one_le_count_iff.mp (by lia)
theorem nodup_of_count {l : List Nat} (h : ∀ j, l.count j ≤ 1) : l.Nodup := List.nodup_iff_count.mpr h
theorem JI.rln (I : JI n nd left W np rl) : rl.Nodup := nodup_of_count fun j => by (refine rwR (I.rlv j) ?_); split <;> decide
theorem JI.lt (I : JI n nd left W np rl) {j : Nat} (h : j ∈ left) : j < n := List.mem_range.mp (I.sub.subset h)
theorem JI.ln (I : JI n nd left W np rl) : left.Nodup := I.sub.nodup List.nodup_range
theorem JI.rlen (I : JI n nd left W np rl) : rl.length ≤ n := nodup_len I.rln fun j hj => I.lt (I.mem.mp hj).1
theorem JI.perm {W' : List Nat} (I : JI n nd left W np rl) (hn : W'.Nodup) (hm : ∀ j, j ∈ W' ↔ j ∈ W) : JI n nd left W' np rl :=
  ⟨I.sub, fun j h => I.wl j ((hm j).mp h), hn, fun j h => I.w1 j ((hm j).mp h), fun j h => I.w0 j ((hm j).mp h), fun j h h' => I.npv j h fun q => h' ((hm j).mpr q), fun j => by (refine rwR (I.rlv j) ?_); simp only [hm], I.up⟩
theorem JI.ready (I : JI n nd left W np rl) : JI n nd left (W ++ rl) (rl.foldl (fun np j => fup np j (-1)) np) [] := by
  refine ⟨I.sub, fun j h => ?_, ?_, fun j h => ?_, fun j h => ?_, fun j h h' => ?_, fun j => ?_, I.up⟩
  · rcases List.mem_append.mp h with h | h
    · exact I.wl j h
    · exact (I.mem.mp h).1
  · refine List.nodup_append.mpr ⟨I.wn, I.rln, fun a ha b hb e => ?_⟩
    subst e; exact (I.mem.mp hb).2.1 ha
  · (refine rwR (fold_out _ _ _) ?_)
    split
    · rfl
    · rcases List.mem_append.mp h with h | h
      · exact I.w1 j h
      · contradiction
  · rcases List.mem_append.mp h with h | h
    · exact I.w0 j h
    · obtain ⟨h1, h2, h3⟩ := I.mem.mp h
      (replace h3 := (I.npv j h1 h2) ▸ h3)
      exact cl_zero.mp (by lia)
  · rw [List.mem_append] at h'
    (refine rwR (fold_out _ _ _) ?_; refine rwR (if_neg (fun q => h' (.inr q))) ?_)
    exact I.npv j h fun q => h' (.inl q)
  · rw [if_neg]
    · simp
    · rintro ⟨h1, h2, h3⟩
      rw [List.mem_append] at h2
      (rewrite [fold_out] at h3; replace h3 := (if_neg (fun q => h2 (.inr q))) ▸ h3)
      exact h2 (.inr (I.mem.mpr ⟨h1, fun q => h2 (.inl q), h3⟩))
theorem JI.done {su : Nat → List Nat} {j : Nat} (I : JI n nd left (j :: W) np rl) (hsu : ∀ b, b < n → (su j).count b = (nd b).count j) (hsn : ∀ b ∈ su j, b < n) :
    JI n nd (left.filter fun i => i != j) W (doneS su (np, rl) j).1 (doneS su (np, rl) j).2 := by
  have jl : j ∈ left := I.wl j (by simp)
  have sb : ∀ b ∈ su j, b ∈ left ∧ b ∉ j :: W := fun b hb => by
    have hbn := hsn b hb
    have h1 : 1 ≤ (su j).count b := List.one_le_count_iff.mpr hb
    (replace h1 := (hsu b hbn) ▸ h1)
    have h2 : j ∈ nd b := List.one_le_count_iff.mp h1
    exact ⟨Classical.byContradiction fun q => I.up b hbn q j jl h2, fun q => I.w0 b q j jl h2⟩
  have n0 : ∀ b, b ≠ j → fup np j (-2) b = np b := fun b h => fup_ne h
  have pre : ∀ b ∈ su j, ((su j).count b : Int) ≤ fup np j (-2) b := fun b hb => by
    obtain ⟨h1, h2⟩ := sb b hb
    have hbj : b ≠ j := fun e => h2 (by simp [e])
    (refine rwR (n0 b hbj) ?_; refine rwR (I.npv b h1 h2) ?_; refine rwR (cl_split jl _) ?_; refine rwR (hsu b (hsn b hb)) ?_)
    lia
  obtain ⟨d1, d2⟩ := decS_fold (su j) (fup np j (-2)) rl pre
  have dn : ∀ b, (doneS su (np, rl) j).1 b = fup np j (-2) b - ((su j).count b : Int) := d1
  have dr : ∀ b, (doneS su (np, rl) j).2.count b = rl.count b + if b ∈ su j ∧ fup np j (-2) b = ((su j).count b : Int) then 1 else 0 := d2
  have jW : j ∉ W := (List.nodup_cons.mp I.wn).1
  have Wj : ∀ i ∈ W, i ≠ j := fun i hi e => jW (e ▸ hi)
  have ml : ∀ i, i ∈ (left.filter fun i => i != j) ↔ i ∈ left ∧ i ≠ j := fun i => by simp
  refine ⟨List.filter_sublist.trans I.sub, fun i h => (ml i).mpr ⟨I.wl i (by simp [h]), Wj i h⟩, (List.nodup_cons.mp I.wn).2, fun i h => ?_, fun i h a ha => I.w0 i (by simp [h]) a ((ml a).mp ha).1, fun i h h' => ?_, fun i => ?_, fun b hb h a ha => ?_⟩
  · have e0 : (su j).count i = 0 := List.count_eq_zero.mpr fun q => (sb i q).2 (by simp [h])
    (refine rwR (dn _) ?_; refine rwR (n0 i (Wj i h)) ?_; refine rwR e0 ?_; refine rwR (I.w1 i (by simp [h])) ?_); rfl
  · obtain ⟨h1, h2⟩ := (ml i).mp h
    have h3 : i ∉ j :: W := by simp [h2, h']
    (refine rwR (dn _) ?_; refine rwR (n0 i h2) ?_; refine rwR (I.npv i h1 h3) ?_; refine rwR (cl_split jl _) ?_; refine rwR (hsu i (I.lt h1)) ?_)
    lia
  · (refine rwR (dr _) ?_; refine rwR (dn _) ?_; refine rwR (I.rlv i) ?_)
    by_cases hs : i ∈ su j
    · obtain ⟨h1, h2⟩ := sb i hs
      have hij : i ≠ j := fun e => h2 (by simp [e])
      have hiW : i ∉ W := fun q => h2 (by simp [q])
      have hc := pre i hs
      have h3 : 1 ≤ (su j).count i := List.one_le_count_iff.mpr hs
      rw [n0 i hij] at hc ⊢
      (refine rwR (if_neg (by lia)) ?_)
      by_cases e : np i = ((su j).count i : Int)
      · (refine rwR (if_pos ⟨hs, e⟩) ?_; refine rwR (if_pos ⟨(ml i).mpr ⟨h1, hij⟩, hiW, by lia⟩) ?_; with_reducible rfl)
      · (refine rwR (if_neg (fun q => e q.2)) ?_; refine rwR (if_neg (fun q => e (by lia))) ?_; with_reducible rfl)
    · have e0 : (su j).count i = 0 := List.count_eq_zero.mpr hs
      have h1 : (if i ∈ su j ∧ fup np j (-2) i = ((su j).count i : Int) then 1 else 0) = 0 := if_neg fun q => hs q.1
      (refine rwR h1 ?_; refine rwR e0 ?_)
      by_cases e : i = j
      · (refine rwR (if_neg (fun q => q.2.1 (by simp [e]))) ?_; refine rwR (if_neg (fun q => ((ml i).mp q.1).2 e)) ?_; with_reducible rfl)
      · (refine rwR (n0 i e) ?_)
        have : (i ∈ left ∧ i ∉ j :: W ∧ np i = 0) ↔ (i ∈ (left.filter fun i => i != j) ∧ i ∉ W ∧ np i - ((0 : Nat) : Int) = 0) := by
          rw [ml]; simp [e]
        simp only [this]
        rfl
  · have ha' := ((ml a).mp ha).1
    by_cases e : b = j
    · subst e; exact I.w0 b (by simp) a ha'
    · exact I.up b hb (fun q => h ((ml b).mpr ⟨q, e⟩)) a ha'
theorem JI.dones {su : Nat → List Nat} : ∀ {js : List Nat} {left : List Nat} {np : Nat → Int} {rl : List Nat}, JI n nd left (js ++ W) np rl → (∀ j ∈ js, ∀ b, b < n → (su j).count b = (nd b).count j) → (∀ j ∈ js, ∀ b ∈ su j, b < n) →
    JI n nd (left.filter fun i => !js.contains i) W (js.foldl (doneS su) (np, rl)).1 (js.foldl (doneS su) (np, rl)).2
  | [], left, np, rl, I, _, _ => by
    have : (left.filter fun i => !([] : List Nat).contains i) = left := List.filter_eq_self.mpr fun _ _ => by simp
    (refine rwR this ?_); exact I
  | j :: js, left, np, rl, I, h1, h2 => by
    have I1 := JI.done (su := su) I (h1 j (by simp)) (h2 j (by simp))
    have I2 := JI.dones I1 (fun i hi => h1 i (by simp [hi])) (fun i hi => h2 i (by simp [hi]))
    have : ((left.filter fun i => i != j).filter fun i => !js.contains i) = left.filter fun i => !(j :: js).contains i := by
      (refine rwR List.filter_filter ?_)
      apply List.filter_congr
      intro i _
      (refine rwR (propext Bool.eq_iff_iff) ?_); simp [and_comm]
    (replace I2 := this ▸ I2)
    exact I2
theorem JI.out {su : Nat → List Nat} {js : List Nat} (I : JI n nd left (js ++ W) np rl) (h1 : ∀ j ∈ js, ∀ b, b < n → (su j).count b = (nd b).count j) (h2 : ∀ j ∈ js, ∀ b ∈ su j, b < n) :
    (∀ (i j : Nat), js[i]? = some j → ((js.take i).foldl (doneS su) (np, rl)).1 j = -1) ∧ ∀ i, ((js.take i).foldl (doneS su) (np, rl)).2.length ≤ n := by
  have key : ∀ i, JI n nd (left.filter fun x => !(js.take i).contains x) (js.drop i ++ W) ((js.take i).foldl (doneS su) (np, rl)).1 ((js.take i).foldl (doneS su) (np, rl)).2 := fun i =>
    JI.dones (W := js.drop i ++ W) (by (refine rwL (List.append_assoc _ _ _) ?_; refine rwR (List.take_append_drop _ _) ?_); exact I) (fun j hj => h1 j (List.mem_of_mem_take hj)) (fun j hj => h2 j (List.mem_of_mem_take hj))
  refine ⟨fun i j e => (key i).w1 j ?_, fun i => (key i).rlen⟩
  refine List.mem_append_left _ (List.mem_iff_getElem?.mpr ⟨0, ?_⟩)
  (refine rwR (List.getElem?_drop) ?_); exact e
theorem least {rk : Nat → Nat} : ∀ {l : List Nat}, l ≠ [] → ∃ x ∈ l, ∀ a ∈ l, rk x ≤ rk a
  | [], h => absurd rfl h
  | [x], _ => ⟨x, by simp, by simp⟩
  | x :: y :: l, _ => by
    obtain ⟨z, hz, h⟩ := least (rk := rk) (l := y :: l) (by simp)
    by_cases c : rk x ≤ rk z
    · refine ⟨x, by simp, fun a ha => ?_⟩
      rcases List.mem_cons.mp ha with rfl | ha
      · exact Nat.le_refl _
      · exact Nat.le_trans c (h a ha)
    · refine ⟨z, List.mem_cons_of_mem _ hz, fun a ha => ?_⟩
      rcases List.mem_cons.mp ha with rfl | ha
      · lia
      · exact h a ha
theorem JI.some {rk : Nat → Nat} (I : JI n nd left W np rl) (hrk : ∀ b, b < n → ∀ a ∈ nd b, rk a < rk b) (hl : left ≠ []) : W ≠ [] ∨ rl ≠ [] := by
  obtain ⟨x, hx, hm⟩ := least (rk := rk) hl
  have fr : ∀ a ∈ left, a ∉ nd x := fun a ha q => by have h1 := hrk x (I.lt hx) a q; have h2 := hm a ha; lia
  by_cases hw : x ∈ W
  · exact .inl fun e => by (replace hw := e ▸ hw); cases hw
  · have h0 : np x = 0 := by (refine rwR (I.npv x hx hw) ?_; refine rwR (cl_zero.mpr fr) ?_); rfl
    have := I.mem.mpr ⟨hx, hw, h0⟩
    exact .inr fun e => by (replace this := e ▸ this); cases this
theorem JI.active {rk : Nat → Nat} {fin pas : Int} (I : JI n nd left W np rl) (hrk : ∀ b, b < n → ∀ a ∈ nd b, rk a < rk b) (hp : pas = fin + W.length) : (decide (fin < pas) || !rl.isEmpty) = !decide (left = []) := by
  by_cases hl : left = []
  · have hW : W = [] := List.eq_nil_iff_forall_not_mem.mpr fun j hj => by have := I.wl j hj; (replace this := hl ▸ this); cases this
    have hr : rl = [] := List.eq_nil_iff_forall_not_mem.mpr fun j hj => by have := (I.mem.mp hj).1; (replace this := hl ▸ this); cases this
    (refine rwR hp ?_; refine rwR hW ?_; refine rwR hr ?_; refine rwR hl ?_); simp
  · (refine rwR (decide_eq_false hl) ?_)
    rcases I.some hrk hl with h | h
    · have : 0 < W.length := List.length_pos_iff.mpr h
      (refine rwR (decide_eq_true (by lia)) ?_); rfl
    · have : rl.isEmpty = false := by simpa using h
      (refine rwR this ?_); simp
theorem JI.taken {hands : Nat} {ah : Nat → Nat → Bool} (I : JI n nd left W np []) (hnd : ∀ a b, a < n → b < n → (a ∈ nd b ↔ ah a b = true)) (hs : W.Pairwise fun i j => lexLt (-(cnt n (ah i) : Int), (i : Int)) (-(cnt n (ah j) : Int), (j : Int)) = true) :
    Taken n hands ah left (W.take hands) := by
  have inW : ∀ x ∈ left, (∀ a ∈ left, ah a x = false) → x ∈ W := fun x hx hf => Classical.byContradiction fun hw => by
    have h0 : cl left (nd x) = 0 := cl_zero.mpr fun a ha q => by
      have := (hnd a x (I.lt ha) (I.lt hx)).mp q
      (replace this := (hf a ha) ▸ this); cases this
    have := I.mem.mpr ⟨hx, hw, by (refine rwR (I.npv x hx hw) ?_; refine rwR h0 ?_); rfl⟩
    cases this
  refine ⟨fun j hj => ?_, I.wn.sublist (List.take_sublist _ _), by (refine rwR List.length_take ?_); lia, fun x hx hf hn => ?_, fun y hy x hx hf hn => ?_⟩
  · have hw := List.mem_of_mem_take hj
    refine ⟨I.wl j hw, fun a ha => ?_⟩
    cases e : ah a j with
    | false => rfl
    | true => exact absurd ((hnd a j (I.lt ha) (I.lt (I.wl j hw))).mpr e) (I.w0 j hw a ha)
  · have hw := inW x hx hf
    (refine rwR List.length_take ?_)
    by_cases c : hands ≤ W.length
    · lia
    · rw [List.take_of_length_le (by lia)] at hn; exact absurd hw hn
  · have hw := inW x hx hf
    rw [← List.take_append_drop hands W] at hw hs
    have hd : x ∈ W.drop hands := (List.mem_append.mp hw).resolve_left hn
    have := (List.pairwise_append.mp hs).2.2 y hy x hd
    have := lexLt_iff.mp this
    simp at this
    lia
theorem JI.less {hands : Nat} {rk : Nat → Nat} (I : JI n nd left W np []) (hrk : ∀ b, b < n → ∀ a ∈ nd b, rk a < rk b) (hh : 1 ≤ hands) (hl : left ≠ []) : (left.filter fun i => !(W.take hands).contains i).length < left.length := by
  have hW : W ≠ [] := (I.some hrk hl).resolve_right fun h => h rfl
  obtain ⟨x, W', rfl⟩ := List.exists_cons_of_ne_nil hW
  have hx : x ∈ left := I.wl x (by simp)
  have hxt : x ∈ (x :: W').take hands := by cases hands with | zero => lia | succ k => simp
  have := List.length_filter_lt_length_iff_exists (l := left) (p := fun i => !((x :: W').take hands).contains i)
  refine this.mpr ⟨x, hx, ?_⟩
  simpa using hxt
theorem JI.start (hnd : ∀ j, j < n → ∀ a ∈ nd j, a < n) (hk : ∀ j, j ∈ rl ↔ j < n ∧ np j = 0) (hkn : rl.Nodup) (hnp : ∀ j, j < n → np j = ((nd j).length : Int)) : JI n nd (List.range n) [] np rl := by
  refine ⟨List.Sublist.refl _, by simp, .nil, by simp, by simp, fun j hj _ => ?_, fun j => ?_, fun b hb h => absurd (List.mem_range.mpr hb) h⟩
  · have hj := List.mem_range.mp hj
    (refine rwR (hnp j hj) ?_)
    congr 1
    unfold cl
    symm
    (refine rwR (propext List.countP_eq_length) ?_)
    intro a ha
    simpa using hnd j hj a ha
  · have h1 : rl.count j ≤ 1 := List.nodup_iff_count.mp hkn j
    by_cases c : j ∈ rl
    · have h2 : 1 ≤ rl.count j := List.one_le_count_iff.mpr c
      obtain ⟨h3, h4⟩ := (hk j).mp c
      (refine rwR (if_pos ⟨by simpa using h3, by simp, h4⟩) ?_); lia
    · (refine rwR (List.count_eq_zero.mpr c) ?_; rewrite [if_neg]; with_reducible rfl)
      rintro ⟨h2, _, h3⟩
      exact c ((hk j).mpr ⟨by simpa using h2, h3⟩)
end
end Mine
end
section
open PySem
set_option genInjectivity false
set_option genSizeOf false
set_option genSizeOfSpec false
namespace Mine
structure Hrs (n hands : Nat) (ah : Nat → Nat → Bool) (lefts : List (List Nat)) (left : List Nat) : Prop where
  sub : ∀ l ∈ lefts, l.Sublist (List.range n)
  step : ∀ (i : Nat) l l', lefts[i]? = some l → lefts[i + 1]? = some l' → l ≠ [] ∧ ∃ t, Taken n hands ah l t ∧ l' = l.filter fun j => !t.contains j
  last : ∃ pre, lefts = pre ++ [left]
theorem Hrs.first {n hands : Nat} {ah : Nat → Nat → Bool} : Hrs n hands ah [List.range n] (List.range n) :=
  ⟨fun l h => by (refine rwR (List.mem_singleton.mp h) ?_); exact List.Sublist.refl _, fun i l l' h h' => by simp at h', [], rfl⟩
theorem Hrs.snoc {n hands : Nat} {ah : Nat → Nat → Bool} {lefts : List (List Nat)} {left t : List Nat} (H : Hrs n hands ah lefts left) (hne : left ≠ []) (T : Taken n hands ah left t) :
    Hrs n hands ah (lefts ++ [left.filter fun j => !t.contains j]) (left.filter fun j => !t.contains j) := by
  obtain ⟨pre, e⟩ := H.last
  have hl : left ∈ lefts := by (refine rwR e ?_); simp
  refine ⟨fun l h => ?_, fun i l l' h h' => ?_, lefts, rfl⟩
  · rcases List.mem_append.mp h with h | h
    · exact H.sub l h
    · (refine rwR (List.mem_singleton.mp h) ?_); exact List.filter_sublist.trans (H.sub left hl)
  · have hi : i + 1 < (lefts ++ [left.filter fun j => !t.contains j]).length := (List.getElem?_eq_some_iff.mp h').1
    (replace hi := List.length_append ▸ hi; replace hi := List.length_singleton ▸ hi)
    rw [List.getElem?_append_left (by (exact Nat.le_sub_one_of_lt (by assumption)))] at h
    by_cases c : i + 1 < lefts.length
    · (replace h' := (List.getElem?_append_left c) ▸ h')
      exact H.step i l l' h h'
    · have e1 : i + 1 = lefts.length := by lia
      (replace h' := e1 ▸ h'; replace h' := (List.getElem?_append_right (Nat.le_refl _)) ▸ h')
      simp at h'
      have e2 : i = pre.length := by (replace e1 := e ▸ e1; replace e1 := List.length_append ▸ e1; replace e1 := List.length_singleton ▸ e1); lia
      (replace h := e ▸ h; replace h := e2 ▸ h; replace h := (List.getElem?_append_right (Nat.le_refl _)) ▸ h)
      simp at h
      subst h h'
      exact ⟨hne, t, T, by apply List.filter_congr; intro j _; simp⟩
theorem Hrs.hours {n hands : Nat} {ah : Nat → Nat → Bool} {lefts : List (List Nat)} (H : Hrs n hands ah lefts []) : Hours n hands ah lefts := by
  obtain ⟨pre, e⟩ := H.last
  refine ⟨H.sub, H.step, fun l h => ?_⟩
  (replace h := e ▸ h)
  simp at h
  first | exact h | exact h.symm
end Mine
end
section
open PySem PySem.Calls PySem.W PyProof.Rows
set_option maxRecDepth 100000
set_option genInjectivity false
set_option genSizeOf false
set_option genSizeOfSpec false
namespace Mine
noncomputable abbrev eL (L : Addr) : Env := callEnvC fdLefts L 146
noncomputable def lfBody : List Stmt := bodyOf (topS 8)
theorem pick_upto (items : List Value) (b : Nat) : slicePick (List.toArray items) none (some (b : Int)) none = List.toArray (items.take b) := by
  have := slicePick_upto' (List.toArray items) b
  simpa using this
theorem pick_from (items : List Value) (a : Nat) : slicePick (List.toArray items) (some (a : Int)) none none = List.toArray (items.drop a) := by
  have := slicePick_from' (List.toArray items) a
  simpa using this
inductive NdAt (h : Heap) (a : Addr) (n : Nat) (nd : Nat → List Nat) : Prop
  | mk (rs : List Addr) (h1 : rs.length = n) (h2 : h.PlainList a (List.toArray (rs.map Value.ref))) (h3 : ∀ (i : Nat) r, rs[i]? = some r → LI h r (toI (nd i))) : NdAt h a n nd
theorem ints_take {vs : List Value} {ns : List Int} (x : IntsAre vs ns) (k : Nat) : IntsAre (vs.take k) (ns.take k) := by
  induction x generalizing k with
  | nil => simp; exact .nil
  | cons n t _ ih => cases k with
    | zero => exact .nil
    | succ k => exact .cons n t (ih k)
theorem ints_drop {vs : List Value} {ns : List Int} (x : IntsAre vs ns) (k : Nat) : IntsAre (vs.drop k) (ns.drop k) := by
  induction x generalizing k with
  | nil => simp; exact .nil
  | cons n t x ih => cases k with
    | zero => exact .cons n t x
    | succ k => exact ih k
section
variable {prog : Program} {w : World} {A : Around} {E : Value → Shared → Prop} {s : Shared} {h : Heap} {env : Env}
theorem g_sliceA {value : Expr} {lower upper : Option Expr} {p pos : Pos} {l : Addr} {items : List Value} {lo hi : Option Int} (hlz : items.length ≤ 100000)
    (x : GV prog w A h (eval value env) (.ref l)) (hl : h.PlainList l (List.toArray items))
    (y : Gives prog w A h (evalPart lower env) (fun v _ => IsPart v lo)) (z : Gives prog w A h (evalPart upper env) (fun v _ => IsPart v hi)) :
    Gives prog w A h (eval (.Subscript value (.Slice lower upper none p) pos) env) (fun v h' => ∃ D, v = .ref D ∧ h.get? D = none ∧ h'.PlainList D (slicePick (List.toArray items) lo hi none)) := fun s E hs => by
  refine Subscript_ (x.useV hs fun h1 t1 hk1 => ?_)
  refine wpAny_Slice ?_
  refine y.use (hs.trans hk1) fun v2 h2 t2 hk2 hv2 => ?_
  refine z.use ((hs.trans hk1).trans hk2) fun v3 h3 t3 hk3 hv3 => ?_
  (refine rwR (evalPart_none _) ?_)
  refine wpAny_pure ?_
  have hl3 : h3.PlainList l (List.toArray items) := hl.at fun o e => hk3 _ o (hk2 _ o (hk1 _ o (hs _ o e)))
  have hl4 := hl3.isList.push { cls := Value.type "slice", data := Data.fields #[v2, v3, Value.none] }
  refine tail_any hl4.typeIs slot_list_getitem.lookup (wpAny_getItem_list_slice hl4 (Heap.IsSliceOf.new ..) hv2 hv3 .none (by simp) ?_ (by (refine rwR List.size_toArray ?_; refine rwR sizeLine_eq ?_); (exact Nat.le_trans (by assumption) (by decide)))) rfl
  refine ⟨⟨_, rfl, ?_, 0, ?_⟩, _, _, rfl, ((hk1.trans hk2).trans hk3).trans ((Kp.push _ _).trans (Kp.push _ _))⟩
  · cases e : h.get? ((h3.push { cls := Value.type "slice", data := Data.fields #[v2, v3, Value.none] }).objs.size) with
    | none => rfl
    | some o => exact absurd (Heap.lt_size (hk3 _ _ (hk2 _ _ (hk1 _ _ (hs _ _ e))))) (Nat.not_lt.mpr (by (refine rwR (Heap.size_push _ _) ?_); exact Nat.le_succ _))
  · exact Heap.get?_push_size _ rfl
theorem g_range3 {e1 e2 e3 : Expr} {p pos : Pos} {a b : Int} (hb : -1000000 < b ∧ b < 1000000) (ha : -1000000 < a ∧ a < 1000000) (f : GV prog w A h (eval (.Name "range" p) env) (.type "range")) (x : GI prog w A h (eval e1 env) a) (y : GI prog w A h (eval e2 env) b) (z : GI prog w A h (eval e3 env) (-1))
    (hst : starEach [e1, e2, e3] env = [(false, eval e1 env), (false, eval e2 env), (false, eval e3 env)] := by rfl) :
    Gives prog w A h (eval (.Call (.Name "range" p) [e1, e2, e3] [] pos) env) (fun v h' => ∃ r t u z, v = .ref r ∧ IsRange h' r a b (-1) t u z) := fun s E hs => by
  refine Call_Name (by (refine rwR hst ?_; with_reducible rfl)) (f.useV hs fun h1 t1 hk1 => ?_)
  refine PySem.callWith_type rfl (Calls.evalArgs_plain (Calls.spliced_cons (x.use (hs.trans hk1) fun v1 h2 t2 hk2 hv1 => Calls.spliced_cons (y.use ((hs.trans hk1).trans hk2) fun v2 h3 t3 hk3 hv2 => Calls.spliced_cons (z.use (((hs.trans hk1).trans hk2).trans hk3) fun v3 h4 t4 hk4 hv3 => Calls.spliced_nil ?_)))))
  refine el1_1 hv1 fun ta r1_ => ?_
  try clear hv1
  obtain rfl := r1_
  refine el1_1 hv2 fun tb r2_ => ?_
  try clear hv2
  obtain rfl := r2_
  refine el1_1 hv3 fun tc r3_ => ?_
  try clear hv3
  obtain rfl := r3_
  refine call_range_3 (s := { s with heap := h4, toks := t4 }) (by decide) ⟨⟨_, _, _, _, rfl, IsRange.new h4 a b (-1) _ _ _⟩, _, _, rfl, (((hk1.trans hk2).trans hk3).trans hk4).trans (Kp.push _ _)⟩ (Or.inl (PyProof.noPylong_small (by decide)))
theorem itr_range3 {r : Addr} {n : Nat} {t u z : Tok} (hh : A.handled = none) (hn : n ≤ 1000000) (hr : IsRange h r ((n : Int) - 1) (-1) (-1) t u z) : ItrS prog w A h (.ref r) n (fun i v => i < n ∧ ∃ t, v = .int ((n : Int) - 1 + i * (-1)) t) [] :=
  itr_range hh hr (small_down (by lia) (by lia) (by decide) (by decide)) (by (refine rwR (rangeSize_downNat _ _) ?_); lia)
theorem g_needs {va ej : Expr} {p1 : Pos} {a r : Addr} {n j : Nat} {nd : Nat → List Nat} {rs : List Addr} (hr : h.PlainList a (List.toArray (rs.map Value.ref))) (er : rs[j]? = some r) (hj : j < 1000)
    (x : GV prog w A h (eval va env) (.ref a)) (y : GI prog w A h (eval ej env) j) (h1 : ∀ o i, subscripted ej false o i = operate [o, i] (getItem o i)) : GV prog w A h (eval (.Subscript va ej p1) env) (.ref r) :=
  g_item x y hr.isList (by lia) (by lia) (by simp [er]) h1
theorem lf_add {S : Sor} {L aN : Addr} {m cm : Str → Option Value} {n j : Nat} {t : Tok} {nd : Nat → List Nat} {lower upper : Option Expr} {lo hi : Option Int} {ps' : List Nat} {pa pb pc pd pe pf pg ph pi pj pk : Pos} {Q : Flow → Shared → Prop}
    (hA : Ok 25 A) (F : Fra (eL L) s.heap m cm) (Z : Fz S.fp (Sta w) s.heap) (N : NdAt s.heap aN n nd) (R : SorAt prog w s.heap S) (hC : Clean S) (hrd : S.rdy = none)
    (ms : m "sorter" = some (.ref S.a)) (mj : m "job" = some (.int j t)) (cn : cm "needs" = some (.ref aN)) (hj : j < n) (hn : n ≤ 8) (hnz : (nd j).length ≤ 100)
    (y : ∀ h, Gives prog w A h (evalPart lower (eL L)) (fun v _ => IsPart v lo)) (z : ∀ h, Gives prog w A h (evalPart upper (eL L)) (fun v _ => IsPart v hi))
    (hp : ∀ vs, IntsAre vs (toI (nd j)) → ∃ us, slicePick (List.toArray vs) lo hi none = List.toArray us ∧ IntsAre us (toI ps') ∧ us.length ≤ 100)
    (hz : S.keys.length + ps'.length ≤ 500) (hzs : ∀ i, (S.su i).length + ps'.length ≤ 10000)
    (k : ∀ h' tk ia ix isl, SorAt prog w h' (addS S j ps' ia ix isl) → Clean (addS S j ps' ia ix isl) → Kx S.fp s.heap h' →
      (∀ b, (addS S j ps' ia ix isl).fp b → S.fp b ∨ s.heap.get? b = none) → (∀ b, S.fp b → (addS S j ps' ia ix isl).fp b) → Q .next { s with heap := h', toks := tk }) :
    wpAny (model prog w) A (exec (.Expr (.Call (.Attribute (.Name "sorter" pa) "add" pb) [.Name "job" pc, .Starred (.Subscript (.Subscript (.Name "needs" pd) (.Name "job" pe) pf) (.Slice lower upper none pg) ph) pi] [] pj) pk) (eL L)) Q E s := by
  obtain ⟨rs, hrl, hrs, hrow⟩ := N
  try clear N
  obtain ⟨r, er⟩ : ∃ r, rs[j]? = some r := ⟨rs[j]'(by (exact Nat.lt_of_lt_of_le (by assumption) (Nat.le_of_eq (Eq.symm (by assumption))))), by simp⟩
  obtain ⟨vs, hvs, hvi⟩ := hrow j r er
  have hvl : vs.length ≤ 100 := by (refine rwR (IntsAre.len hvi) ?_; refine rwR (toI_len _) ?_); exact hnz
  refine el1_3 (hp vs hvi) fun us hus hui huz => ?_
  refine el2_1 (fn_add w) fun d sl hfo => ?_
  refine wpAny_Expr_any (meth_star (S := S) (RA := fun vals _ => ∃ t', vals = .int j t' :: us) Z.now R (g_local rfl rfl F.ns ms) (k_add w) hfo rfl (by simp) (by decide) (ty_fn w 87 (by simp)) sh_add ?_ ?_)
  · intro q h1 t1 Q' hk1 hq
    show wpAny _ _ (evalArgs (.ref q) true [(false, eval (.Name "job" pc) (eL L)), (true, eval (.Subscript (.Subscript (.Name "needs" pd) (.Name "job" pe) pf) (.Slice lower upper none pg) ph) (eL L) >>= fun v => standAt pj >>= fun _ => pure v)] []) _ _ _
    have F1 := F.keeps hk1
    refine Calls.evalArgs_plain (Calls.spliced_cons ((g_local (prog := prog) (w := w) (h := h1) rfl rfl F1.ns mj).useV (Kp.refl _) fun h2 t2 hk2 => ?_))
    refine g_splice (vs := us) (l := 0) (by (exact Nat.le_trans (by assumption) (by decide))) ?_
    refine wpAny_bind ?_
    have F2 := F1.keeps hk2
    have k2 := hk1.trans hk2
    refine (g_sliceA (prog := prog) (w := w) (h := h2) (items := vs) (by (exact Nat.le_trans (by assumption) (by decide))) (g_needs (nd := nd) (n := n) (hrs.at fun o e => k2 _ o e) er (by (with_reducible exact Nat.lt_of_lt_of_le (by assumption) (Nat.le_trans (by assumption) (by decide)))) (g_cell rfl rfl rfl (F2.cellIs (x := "needs") rfl cn)) (gv_int (g_local rfl rfl F2.ns mj)) (fun _ _ => rfl)) (hvs.at fun o e => k2 _ o e) (y h2) (z h2)).use (Kp.refl _) fun v h3 t3 hk3 hv => ?_
    refine el1_3 hv fun D r4_ _ hD => ?_
    try clear hv
    obtain rfl := r4_
    refine wpAny_bind (wpAny_standAt (wpAny_pure ⟨D, rfl, by (refine rwL hus ?_); exact hD, fun h' hk' => Calls.spliced_nil ?_⟩))
    refine hq (.int j t :: (us ++ [])) h' t3 (hk2.trans (hk3.trans hk')) ⟨t, by simp⟩
  · intro vals h2 t2 hk2 z5_
    refine el1_1 z5_ fun t' r6_ => ?_
    try clear z5_
    obtain rfl := r6_
    refine call_add_code (s := { s with heap := h2, toks := t2 }) (hA.mono (by decide)) (Z.step' (Kx.of hk2)) (R.keeps hk2) hC hrd hui hz hzs ?_
    intro h' tk ia ix isl R' C' kx hfp hfp'
    exact k h' tk ia ix isl R' C' (fun b o hb e => kx b o hb (hk2 _ _ e)) (fun b hb => (hfp b hb).imp_right fun q => dead_kp hk2 q) hfp'
end
end Mine
end
section
open PySem PySem.Calls PySem.W PyProof.Rows
set_option maxRecDepth 100000
set_option genInjectivity false
set_option genSizeOf false
set_option genSizeOfSpec false
namespace Mine
structure Fil (prog : Program) (w : World) (n c0 : Nat) (T : Sor) (pr : Nat → List Nat) (h : Heap) : Prop where
  at' : SorAt prog w h T
  clean : Clean T
  rdy : T.rdy = none
  pas : T.pas = 0
  fin : T.fin = 0
  add : Added n T pr
  su : ∀ a, (T.su a).length ≤ c0
theorem Fil.frame {prog : Program} {w : World} {n c0 : Nat} {T : Sor} {pr : Nat → List Nat} {h h' : Heap} (x : Fil prog w n c0 T pr h) (hk : ∀ b o, T.fp b → h.get? b = some o → h'.get? b = some o) : Fil prog w n c0 T pr h' :=
  ⟨x.at'.frame hk, x.clean, x.rdy, x.pas, x.fin, x.add, x.su⟩
section
variable {prog : Program} {w : World} {A : Around} {E : Value → Shared → Prop} {s : Shared} {h : Heap} {env : Env}
theorem lf_loop {S : Sor} {L aN : Addr} {m cm : Str → Option Value} {n c0 : Nat} {nd : Nat → List Nat} {lower upper : Option Expr} {lo hi : Option Int} {iter : Expr} {Rit : Value → Heap → Prop} {ji : Nat → Nat} {jv : Nat → Int} {psl : Nat → List Nat} {pr : Nat → Nat → List Nat} {px pa pb pc pd pe pf pg ph pi pj pk pos : Pos} {Q : Flow → Shared → Prop} {Fr : Addr → Prop}
    (hA : Ok 25 A) (F : Fra (eL L) s.heap m cm) (lv : Live Fr s.heap) (hFr : ∀ b, Or2 (OwnA (eL L)) S.fp b → Fr b) (Z : Fz Fr (fun h => Sta w h ∧ NdAt h aN n nd) s.heap) (R : Fil prog w n c0 S (pr 0) s.heap) (hap : ∀ b, OwnA (eL L) b → ¬ S.fp b)
    (ms : m "sorter" = some (.ref S.a)) (cn : cm "needs" = some (.ref aN)) (hn : n ≤ 8) (hnz : ∀ j, j < n → (nd j).length ≤ 100)
    (hit : Gives prog w A s.heap (eval iter (eL L)) Rit) (hI : ∀ xv h1, Kp s.heap h1 → Rit xv h1 → ItrS prog w A h1 xv n (fun i v => i < n ∧ ∃ t, v = .int (jv i) t) []) (hjv : ∀ i, i < n → jv i = ((ji i : Nat) : Int))
    (hs : ∀ x, foldedSetIterable iter (eL L) x = pure x) (hji : ∀ i, i < n → ji i < n)
    (y : ∀ h, Gives prog w A h (evalPart lower (eL L)) (fun v _ => IsPart v lo)) (z : ∀ h, Gives prog w A h (evalPart upper (eL L)) (fun v _ => IsPart v hi))
    (hp : ∀ j, j < n → ∀ vs, IntsAre vs (toI (nd j)) → ∃ us, slicePick (List.toArray vs) lo hi none = List.toArray us ∧ IntsAre us (toI (psl j)) ∧ us.length ≤ 100)
    (hpl : ∀ j, j < n → (psl j).length ≤ 100 ∧ ∀ a ∈ psl j, a < n) (hpr : ∀ i, i < n → pr (i + 1) = fup (pr i) (ji i) (pr i (ji i) ++ psl (ji i))) (hc0 : c0 ≤ 1000)
    (k : ∀ h' tk m' T', Fra (eL L) h' m' cm → (∀ x : Str, x ≠ "job" → m' x = m x) → Fil prog w n (c0 + 100 * n) T' (pr n) h' → T'.a = S.a → (∀ i, i < n → ji i ∈ T'.keys) → (∀ j ∈ S.keys, j ∈ T'.keys) → (∀ b, OwnA (eL L) b → ¬ T'.fp b) →
      Fz (Or2 Fr (Or2 (OwnA (eL L)) T'.fp)) (fun h => Sta w h ∧ NdAt h aN n nd) h' → Kx (Or2 (OwnA (eL L)) T'.fp) s.heap h' → (∀ b, Or2 (OwnA (eL L)) T'.fp b → Fr b ∨ s.heap.get? b = none) → Q .next { s with heap := h', toks := tk }) :
    wpAny (model prog w) A (exec (.For (.Name "job" px) iter [.Expr (.Call (.Attribute (.Name "sorter" pa) "add" pb) [.Name "job" pc, .Starred (.Subscript (.Subscript (.Name "needs" pd) (.Name "job" pe) pf) (.Slice lower upper none pg) ph) pi] [] pj) pk] [] pos) (eL L)) Q E s := by
  refine for_fz (σ := (Str → Option Value) × Sor) (n := n) (P := fun i v => i < n ∧ ∃ t, v = .int (jv i) t) (src := []) (fun y => Or2 (OwnA (eL L)) y.2.fp)
    (fun i y h => Fra (eL L) h y.1 cm ∧ (∀ x : Str, x ≠ "job" → y.1 x = m x) ∧ Fil prog w n (c0 + 100 * i) y.2 (pr i) h ∧ y.2.a = S.a ∧ (∀ i', i' < i → ji i' ∈ y.2.keys) ∧ (∀ j ∈ S.keys, j ∈ y.2.keys) ∧ (∀ b, OwnA (eL L) b → ¬ y.2.fp b))
    (fun i y h => Sta w h ∧ NdAt h aN n nd) Fr (m, S) hit hI hs (by simp) lv hFr ?_ ⟨F, fun _ _ => rfl, R, rfl, fun i hi => by lia, fun _ => id, hap⟩ Z ?_ ?_
  · intro i z1_ h h' z2_ hk
    obtain ⟨m₁, T⟩ := z1_
    try clear z1_
    refine el0_4 z2_ fun h1 h2 h3 h4 => ?_
    try clear z2_
    exact ⟨h1.frame fun b o hb e => hk b o (.inl hb) e, h2, h3.frame fun b o hb e => hk b o (.inr hb) e, h4⟩
  · intro i z3_ Fr' v h tk E' Q' hi z4_ z5_ Z₁ lv₁ hMF hFF hK hFd q
    obtain ⟨m₁, T⟩ := z3_
    try clear z3_
    obtain ⟨_, t, r6_⟩ := z4_
    try clear z4_
    obtain rfl := r6_
    refine el0_7 z5_ fun F₁ hm R₁ ha₁ hk₁ hks hap₁ => ?_
    try clear z5_
    have F₁ : Fra (eL L) h m₁ cm := F₁
    (refine rwR (hjv i hi) ?_)
    have hm : ∀ x : Str, x ≠ "job" → m₁ x = m x := hm
    have R₁ : Fil prog w n (c0 + 100 * i) T (pr i) h := R₁
    have ha₁ : T.a = S.a := ha₁
    have hap₁ : ∀ b, OwnA (eL L) b → ¬ T.fp b := hap₁
    have hMF : ∀ b, Or2 (OwnA (eL L)) T.fp b → Fr' b := hMF
    refine wpAny_assign_Name (fra_local F₁ rfl rfl fun h₂ tk₂ F₂ sb₂ => ?_)
    have kx₂ : Kx (OwnA (eL L)) h h₂ := Kx.same sb₂ own_locals
    have Z₂ := Z₁.step' ((kx₂.mono fun b => .inl).mono hMF)
    have R₂ : Fil prog w n (c0 + 100 * i) T (pr i) h₂ := R₁.frame fun b o hb e => kx₂ b o (fun q => hap₁ b q hb) e
    have lv₂ : Live (OwnA (eL L)) h₂ := F₂.live
    have hj := hji i hi
    refine el0_2 (hpl (ji i) hj) fun pl1 pl2 => ?_
    refine wpAny_execs_cons (lf_add (S := T) (aN := aN) (nd := nd) (n := n) (j := ji i) (ps' := psl (ji i)) hA F₂ ((Z₂.left).mono fun b hb => hMF b (.inr hb)) Z₂.now.2 R₂.at' R₂.clean R₂.rdy (by (refine rwR (upd_ne (by decide)) ?_; refine rwR (hm _ (by decide)) ?_; refine rwR ha₁ ?_); exact ms) upd_eq cn hj hn (hnz _ hj) y z (hp _ hj) ?_ ?_ ?_)
    · have := nodup_len R₂.at'.nodup R₂.add.keys
      lia
    · intro a; have := R₂.su a; lia
    · intro h' tk' ia ix isl R' C' kx hfp hfp'
      refine wpAny_execs_nil ?_
      have kx' : Kx (Or2 (OwnA (eL L)) T.fp) h h' := (kx₂.mono fun b => .inl).trans' (kx.mono fun b => .inr)
      have F' : Fra (eL L) h' (upd m₁ "job" (.int (ji i : Nat) t)) cm := F₂.kx kx hap₁
      have fpd : ∀ b, (addS T (ji i) (psl (ji i)) ia ix isl).fp b → T.fp b ∨ h₂.get? b = none := hfp
      refine q .next (upd m₁ "job" (.int (ji i : Nat) t), addS T (ji i) (psl (ji i)) ia ix isl) h' tk' (.inl rfl) ⟨F', fun x hx => (upd_ne hx).trans (hm x hx), ⟨R', C', R₂.rdy, R₂.pas, R₂.fin, ?_, ?_⟩, ha₁, ?_, fun j hj => addS_keeps (hks j hj), ?_⟩ kx' ?_ ?_ (F'.live.or R'.live) ?_
      · (refine rwR (hpr i hi) ?_); exact R₂.add.add ia ix isl hj pl2
      · intro a
        have h1 := addS_su (T := T) (j := ji i) (ps := psl (ji i)) (ia := ia) (ix := ix) (isl := isl) a
        have h2 := R₂.su a
        show ((addS T (ji i) (psl (ji i)) ia ix isl).su a).length ≤ c0 + 100 * (i + 1)
        lia
      · intro i' hi'
        by_cases e : i' = i
        · (refine rwR e ?_); exact addS_key
        · exact addS_keeps (hk₁ i' (by lia))
      · intro b hb q
        refine Or.elim (fpd b q) (fun z => ?_) fun z => ?_
        · exact hap₁ b hb z
        · exact Live.not lv₂ z hb
      · rintro b (hb | hb)
        · exact .inl hb
        · exact .inr (hfp' b hb)
      · rintro b (hb | hb)
        · exact .inl (.inl hb)
        · refine Or.elim (fpd b hb) (fun z => ?_) fun z => ?_
          · exact .inl (.inr z)
          · exact (dead_back kx₂ z).imp_left .inl
      · refine Z₁.step (kx'.mono hMF) ?_
        rintro b (hb | hb | hb)
        · exact .inl hb
        · exact .inl (hMF b (.inl hb))
        · refine Or.elim (fpd b hb) (fun z => ?_) fun z => ?_
          · exact .inl (hMF b (.inr z))
          · exact (dead_back kx₂ z).imp_left fun q => hMF b (.inl q)
  · intro z7_ h' tk z8_ Z₁ lv₁ hK hMd
    obtain ⟨m₁, T⟩ := z7_
    try clear z7_
    refine el0_7 z8_ fun F₁ hm R₁ ha₁ hk₁ hks hap₁ => ?_
    try clear z8_
    exact k h' tk m₁ T F₁ hm R₁ ha₁ hk₁ hks hap₁ Z₁ hK hMd
end
end Mine
end
section
open PySem PySem.Calls PySem.W PyProof.Rows
set_option maxRecDepth 100000
set_option genInjectivity false
set_option genSizeOf false
set_option genSizeOfSpec false
namespace Mine
noncomputable def pr1 (n : Nat) (nd : Nat → List Nat) (i j : Nat) : List Nat := if n ≤ i + j ∧ j < n then (nd j).take 1 else []
noncomputable def pr2 (n : Nat) (nd : Nat → List Nat) (i j : Nat) : List Nat := if j < n then (if j < i then nd j else (nd j).take 1) else []
theorem pr1_zero (n : Nat) (nd : Nat → List Nat) : pr1 n nd 0 = fun _ => [] := by
  funext j; unfold pr1; (refine rwR (if_neg (by lia)) ?_; with_reducible rfl)
theorem pr1_step {n : Nat} {nd : Nat → List Nat} {i : Nat} (hi : i < n) : pr1 n nd (i + 1) = fup (pr1 n nd i) (n - 1 - i) (pr1 n nd i (n - 1 - i) ++ (nd (n - 1 - i)).take 1) := by
  funext j
  by_cases e : j = n - 1 - i
  · subst e
    (refine rwR fup_eq ?_); unfold pr1
    (refine rwR (if_pos (by omega)) ?_; refine rwR (if_neg (by omega)) ?_); rfl
  · (refine rwR (fup_ne e) ?_); unfold pr1
    by_cases c : n ≤ i + j ∧ j < n
    · (refine rwR (if_pos c) ?_; refine rwR (if_pos (by omega)) ?_; with_reducible rfl)
    · (refine rwR (if_neg c) ?_; refine rwR (if_neg (by omega)) ?_; with_reducible rfl)
theorem pr1_full (n : Nat) (nd : Nat → List Nat) : pr1 n nd n = pr2 n nd 0 := by
  funext j; unfold pr1 pr2
  by_cases c : j < n
  · (refine rwR (if_pos (by lia)) ?_; refine rwR (if_pos c) ?_; refine rwR (if_neg (by lia)) ?_; with_reducible rfl)
  · (refine rwR (if_neg (by lia)) ?_; refine rwR (if_neg c) ?_; with_reducible rfl)
theorem pr2_step {n : Nat} {nd : Nat → List Nat} {i : Nat} (hi : i < n) : pr2 n nd (i + 1) = fup (pr2 n nd i) i (pr2 n nd i i ++ (nd i).drop 1) := by
  funext j
  by_cases e : j = i
  · subst e
    (refine rwR fup_eq ?_); unfold pr2
    (refine rwR (if_pos hi) ?_; refine rwR (if_pos (by lia)) ?_; refine rwR (if_pos hi) ?_; refine rwR (if_neg (by lia)) ?_; refine rwR (List.take_append_drop _ _) ?_; with_reducible rfl)
  · (refine rwR (fup_ne e) ?_); unfold pr2
    by_cases c : j < n
    · (refine rwR (if_pos c) ?_; refine rwR (if_pos c) ?_)
      by_cases d : j < i
      · (refine rwR (if_pos d) ?_; refine rwR (if_pos (by (exact Nat.lt_succ_of_lt (by assumption)))) ?_; with_reducible rfl)
      · (refine rwR (if_neg d) ?_; refine rwR (if_neg (by lia)) ?_; with_reducible rfl)
    · (refine rwR (if_neg c) ?_; refine rwR (if_neg c) ?_; with_reducible rfl)
structure Rdy (prog : Program) (w : World) (n : Nat) (nd : Nat → List Nat) (T : Sor) (h : Heap) : Prop where
  at' : SorAt prog w h T
  keys : ∀ j, j ∈ T.keys ↔ j < n
  su : ∀ a b, b < n → (T.su a).count b = (nd b).count a
  sun : ∀ a, ∀ b ∈ T.su a, b < n
  sul : ∀ a, (T.su a).length ≤ 2000
section
variable {prog : Program} {w : World} {A : Around} {E : Value → Shared → Prop} {s : Shared} {h : Heap} {env : Env}
theorem g_callK0 {x : Str} {p pos : Pos} {f : Addr} {R : Value → Heap → Prop} (S : Sta w h) (hk : keepIn (K w) (.ref f) = true) (fn : GV prog w A h (eval (.Name x p) env) (.ref f)) (c : ∀ h', Kp h h' → Gives prog w A h' (call (.ref f) []) R) :
    Gives prog w A h (eval (.Call (.Name x p) [] [] pos) env) R := fun s E hs => by
  refine PyProof.Rows.Call_Name0 (fn.useV hs fun h1 t1 hk1 => ?_)
  refine callWith_of rfl (keeps_K hk) (evalArgs_nil3 ⟨S.X.keeps (hs.trans hk1), ?_⟩)
  exact (c h1 (hs.trans hk1)).use (Kp.refl _) fun v h3 t3 hk3 hv => ⟨hv, h3, t3, rfl, hk1.trans hk3⟩
theorem g_lenNd {e : Expr} {p pos : Pos} {a : Addr} {n : Nat} {nd : Nat → List Nat} (N : NdAt h a n nd) (hn : n ≤ 1000) (f : GV prog w A h (eval (.Name "len" p) env) (.builtin "len")) (x : GV prog w A h (eval e env) (.ref a))
    (hs : starEach [e] env = [(false, eval e env)] := by rfl) : GI prog w A h (eval (.Call (.Name "len" p) [e] [] pos) env) n := by
  obtain ⟨rows, h1, h2, _⟩ := N
  try clear N
  have := gi_len (pos := pos) f x h2.isList (by simp; lia) hs
  simpa [h1] using this
theorem lf_head {L aN aF : Addr} {m cm : Str → Option Value} {n : Nat} {nd : Nat → List Nat} {rk : Nat → Nat} {fol : List Int} {s0 : Heap} {outer : List Env} {Q : Flow → Shared → Prop} {rest : List Stmt}
    (hA : Ok 40 A) (hfr : A.frames = some (eL L :: outer)) (hF0 : s0.FunFrames noHeap outer) (hS : Fz (· ∈ frs outer) (Sta w) s0) (hZ : ∀ h', Kf (frs outer) (fun _ => False) s0 h' → Sta w h' ∧ NdAt h' aN n nd ∧ LI h' aF fol)
    (F : Fra (eL L) s.heap m cm) (hk0 : Kp s0 s.heap) (hO : ∀ b, OwnA (eL L) b → s0.get? b = none) (cn : cm "needs" = some (.ref aN)) (hn : n ≤ 8) (hnz : ∀ j, j < n → (nd j).length ≤ 100 ∧ ∀ a ∈ nd j, a < n) (hrk : ∀ b, b < n → ∀ a ∈ nd b, rk a < rk b)
    (k : ∀ h' tk m' T r rl (E' : Value → Shared → Prop), Fra (eL L) h' m' cm → (∀ x : Str, x ≠ "job" → x ≠ "sorter" → m' x = m x) → m' "sorter" = some (.ref T.a) → Rdy prog w n nd T h' → T.rdy = some (r, rl) → JI n nd (List.range n) [] T.np rl → T.pas = 0 → T.fin = 0 →
      (∀ b, T.fp b → s0.get? b = none) → (∀ b, OwnA (eL L) b → ¬ T.fp b) → Kf (frs outer) (fun _ => False) s0 h' → wpAny (model prog w) A (execs rest (eL L)) Q E' { s with heap := h', toks := tk }) :
    wpAny (model prog w) A (execs (lfBody.getD 0 ps :: lfBody.getD 1 ps :: lfBody.getD 2 ps :: lfBody.getD 3 ps :: rest) (eL L)) Q E s := by
  have Z0 : ∀ h', Kp s0 h' → Sta w h' ∧ NdAt h' aN n nd ∧ LI h' aF fol := fun h' hk => hZ h' (Kf.of (Kx.of hk))
  refine el0_3 (Z0 _ hk0) fun S₀ N₀ _ => ?_
  have up : ∀ {M : Addr → Prop} {h h' : Heap}, Kp s0 h → Kx M h h' → (∀ b, M b → s0.get? b = none) → Kp s0 h' := fun hk kx hM b o e => kx b o (fun q => by (exact nosome (hM b q) e)) (hk b o e)
  refine wpAny_execs_cons (asg_local1 (h := s.heap) (f := fun T : Sor => Value.ref T.a) (R := fun T h' => SorAt prog w h' T ∧ Clean T ∧ T.keys = [] ∧ T.rdy = none ∧ T.pas = 0 ∧ T.fin = 0 ∧ (∀ i, T.np i = 0) ∧ (∀ i, T.su i = []) ∧ ∀ b, T.fp b → s.heap.get? b = none) F rfl rfl
    (g_callK0 S₀ (k_keep137 w) (g_global S₀ (gl_sorter w) rfl rfl rfl) fun h' hk => (new_sorter (hA.mono (by decide)) (S₀.keeps hk)).mono fun v h'' _ zx => el1_10 zx fun T a1 a2 a3 a4 a5 a6 a7 a8 a9 a10 => ⟨T, a1, a2, a3, a4, a5, a6, a7, a8, a9, fun b hb => dead_kp hk (a10 b hb)⟩) (Kp.refl _) rfl ?_)
  intro T h₁ h₂ tk₂ z1_ hk₁ sb₂ F₂
  refine el0_9 z1_ fun R₁ hC hTk hTr hTp hTf hTn hTs hTd => ?_
  try clear z1_
  have ap₂ : ∀ b, OwnA (eL L) b → ¬ T.fp b := fun b hb q => Live.not F.live (hTd b q) hb
  have kx₂ : Kx (OwnA (eL L)) h₁ h₂ := Kx.same sb₂ own_locals
  have R₂ : SorAt prog w h₂ T := R₁.frame fun b o hb e => kx₂ b o (fun q => ap₂ b q hb) e
  have Fil₂ : Fil prog w n 0 T (pr1 n nd 0) h₂ := by
    refine ⟨R₂, hC, hTr, hTp, hTf, ⟨fun j => by (refine rwR (hTn _) ?_; refine rwR (pr1_zero _ _) ?_); rfl, fun a j => by (refine rwR (hTs _) ?_; refine rwR (pr1_zero _ _) ?_); rfl, fun i hi => by (rw [hTk] at hi; cases hi)⟩, fun a => by (refine rwR (hTs _) ?_); simp⟩
  have k02 : Kp s0 h₂ := up (hk0.trans hk₁) kx₂ hO
  have dT : ∀ b, Or2 (OwnA (eL L)) T.fp b → s0.get? b = none := fun b hb => hb.elim (hO b) fun q => dead_kp hk0 (hTd b q)
  have Z₂ : Fz (Or2 (OwnA (eL L)) T.fp) (fun h => Sta w h ∧ NdAt h aN n nd) h₂ := fun h' kx => let z := Z0 h' (up k02 kx dT); ⟨z.1, z.2.1⟩
  refine el0_2 Z₂.now fun S₂ N₂ => ?_
  refine wpAny_execs_cons (lf_loop (S := T) (L := L) (aN := aN) (c0 := 0) (nd := nd) (lo := none) (hi := some ((1 : Nat) : Int)) (ji := fun i => n - 1 - i) (jv := fun i => (n : Int) - 1 + i * (-1)) (psl := fun j => (nd j).take 1) (pr := pr1 n nd) (Fr := Or2 (OwnA (eL L)) T.fp)
    (hA.mono (by decide)) F₂ (F₂.live.or R₂.live) (fun _ => id) Z₂ Fil₂ ap₂ upd_eq cn hn (fun j hj => (hnz j hj).1)
    (g_range3 (by decide) (by lia) (n_range S₂ rfl rfl rfl rfl) (gi_sub (g_lenNd N₂ (by (exact Nat.le_trans (by assumption) (by decide))) (n_len S₂ rfl rfl rfl rfl) (g_cell rfl rfl rfl (F₂.cellIs (x := "needs") rfl cn))) g_int) (gi_neg g_int) (gi_neg g_int))
    (fun xv h1 hk hx => by obtain ⟨r, t, u, z, rfl, hr⟩ := hx; exact itr_range3 hA.hd (by (exact Nat.le_trans (by assumption) (by decide))) hr) (fun i hi => by (exact (by rewrite [Int.ofNat_sub (Nat.le_sub_one_of_lt hi), Int.ofNat_sub (Nat.lt_of_le_of_lt (Nat.zero_le _) hi), Int.mul_neg, Int.mul_one]; rfl))) (fun _ => rfl) (fun i hi => by show n - 1 - i < n; (exact Nat.lt_of_le_of_lt (Nat.sub_le _ _) (Nat.sub_lt (Nat.lt_of_le_of_lt (Nat.zero_le _) hi) Nat.one_pos)))
    (fun _ => part_none rfl) (fun _ => part_int g_int) ?_ ?_ (fun i hi => pr1_step hi) (by decide) ?_)
  · intro j hj vs hvs
    refine ⟨vs.take 1, pick_upto vs 1, ?_, by (refine rwR List.length_take ?_); (exact Nat.le_trans (Nat.min_le_left _ _) (by decide))⟩
    have := ints_take hvs 1
    unfold toI at this ⊢
    rwa [← List.map_take] at this
  · intro j hj
    refine ⟨by (refine rwR List.length_take ?_); (exact Nat.le_trans (Nat.min_le_left _ _) (by decide)), fun a ha => (hnz j hj).2 a (List.mem_of_mem_take ha)⟩
  intro h₃ tk₃ m₃ T₃ F₃ hm₃ Fil₃ ha₃ hk₃ _ ap₃ Z₃ kx₃ hd₃
  have dT₃ : ∀ b, Or2 (OwnA (eL L)) T₃.fp b → s0.get? b = none := fun b hb => (hd₃ b hb).elim (dT b) fun q => dead_kp k02 q
  have k03 : Kp s0 h₃ := up k02 kx₃ dT₃
  have Z₃' : Fz (Or2 (OwnA (eL L)) T₃.fp) (fun h => Sta w h ∧ NdAt h aN n nd) h₃ := Z₃.mono fun b => .inr
  refine el0_2 Z₃'.now fun S₃ N₃ => ?_
  have ms₃ : m₃ "sorter" = some (.ref T₃.a) := by (refine rwR (hm₃ _ (by decide)) ?_; refine rwR ha₃ ?_); exact upd_eq
  refine wpAny_execs_cons (lf_loop (s := { s with heap := h₃, toks := tk₃ }) (S := T₃) (L := L) (aN := aN) (c0 := 0 + 100 * n) (nd := nd) (lo := some ((1 : Nat) : Int)) (hi := none) (ji := fun i => i) (jv := fun i => 0 + i * 1) (psl := fun j => (nd j).drop 1) (pr := pr2 n nd) (Fr := Or2 (OwnA (eL L)) T₃.fp)
    (hA.mono (by decide)) F₃ (F₃.live.or Fil₃.at'.live) (fun _ => id) Z₃' (by (refine rwL (pr1_full _ _) ?_); exact Fil₃) ap₃ ms₃ cn hn (fun j hj => (hnz j hj).1)
    (g_range1 (n_range S₃ rfl rfl rfl rfl) (g_lenNd N₃ (by (exact Nat.le_trans (by assumption) (by decide))) (n_len S₃ rfl rfl rfl rfl) (g_cell rfl rfl rfl (F₃.cellIs (x := "needs") rfl cn))))
    (fun xv h1 hk hx => by obtain ⟨r, t, u, z, rfl, hr⟩ := hx; exact itr_range1 hA.hd (by (exact Nat.le_trans (by assumption) (by decide))) hr) (fun i hi => by (with_reducible exact Mine.zi _)) (fun _ => rfl) (fun i hi => hi)
    (fun _ => part_int g_int) (fun _ => part_none rfl) ?_ ?_ (fun i hi => pr2_step hi) (by lia) ?_)
  · intro j hj vs hvs
    have hvl : vs.length ≤ 100 := by (refine rwR (IntsAre.len hvs) ?_; refine rwR (toI_len _) ?_); exact (hnz j hj).1
    refine ⟨vs.drop 1, pick_from vs 1, ?_, by (refine rwR List.length_drop ?_); (exact Nat.le_trans (Nat.sub_le _ _) (by assumption))⟩
    have := ints_drop hvs 1
    unfold toI at this ⊢
    rwa [← List.map_drop] at this
  · intro j hj
    have := (hnz j hj).1
    refine ⟨by (refine rwR List.length_drop ?_); (exact Nat.le_trans (Nat.sub_le _ _) (by assumption)), fun a ha => (hnz j hj).2 a (List.mem_of_mem_drop ha)⟩
  intro h₄ tk₄ m₄ T₄ F₄ hm₄ Fil₄ ha₄ hk₄ _ ap₄ Z₄ kx₄ hd₄
  have kx₄ : Kx (Or2 (OwnA (eL L)) T₄.fp) h₃ h₄ := kx₄
  have hd₄ : ∀ b, Or2 (OwnA (eL L)) T₄.fp b → Or2 (OwnA (eL L)) T₃.fp b ∨ h₃.get? b = none := hd₄
  have dT₄ : ∀ b, Or2 (OwnA (eL L)) T₄.fp b → s0.get? b = none := fun b hb => (hd₄ b hb).elim (dT₃ b) fun q => dead_kp k03 q
  have k04 : Kp s0 h₄ := up k03 kx₄ dT₄
  refine el0_2 Z₄.now fun S₄ N₄ => ?_
  have ms₄ : m₄ "sorter" = some (.ref T₄.a) := by (refine rwR (hm₄ _ (by decide)) ?_; refine rwR ha₄ ?_); exact ms₃
  have kmem : ∀ j, j ∈ T₄.keys ↔ j < n := fun j => ⟨Fil₄.add.keys j, fun hj => hk₄ j hj⟩
  have full : ∀ j, pr2 n nd n j = if j < n then nd j else [] := fun j => by
    unfold pr2
    by_cases c : j < n
    · (refine rwR (if_pos c) ?_; refine rwR (if_pos c) ?_; refine rwR (if_pos c) ?_; with_reducible rfl)
    · (refine rwR (if_neg c) ?_; refine rwR (if_neg c) ?_; with_reducible rfl)
  have suc : ∀ a b, b < n → (T₄.su a).count b = (nd b).count a := fun a b hb => by (refine rwR (Fil₄.add.su a b) ?_; refine rwR (full _) ?_; refine rwR (if_pos hb) ?_; with_reducible rfl)
  have sun : ∀ a, ∀ b ∈ T₄.su a, b < n ∧ a ∈ nd b := fun a b hb => by
    have h1 : 1 ≤ (T₄.su a).count b := List.one_le_count_iff.mpr hb
    (replace h1 := (Fil₄.add.su a b) ▸ h1; replace h1 := (full _) ▸ h1)
    by_cases c : b < n
    · (replace h1 := (if_pos c) ▸ h1); exact ⟨c, List.one_le_count_iff.mp h1⟩
    · (replace h1 := (if_neg c) ▸ h1); simp at h1
  have frO : ∀ b ∈ frs outer, ∃ o, s0.get? b = some o := fun b hb => by obtain ⟨_, o, e, _⟩ := hF0.mem hb; exact ⟨o, e⟩
  have frC : ∀ b, b ∈ frs (eL L :: outer) → b = L ∨ b ∈ frs outer := fun b hb => List.mem_cons.mp hb
  refine wpAny_execs_cons (wpAny_Expr_any (meth_call0 (s := { s with heap := h₄, toks := tk₄ }) (S := T₄) S₄ Fil₄.at' (g_local rfl rfl F₄.ns ms₄) (k_prepare w) (ty_fn w 92 (by simp)) (k_keepf w 92 (by simp)) sh_prepare ?_))
  intro h₅ tk₅ hk₅
  have hk₅ : Kp h₄ h₅ := hk₅
  have F₅ := F₄.keeps hk₅
  have k05 : Kp s0 h₅ := k04.trans hk₅
  have offT : ∀ b ∈ frs (eL L :: outer), ¬ T₄.fp b := fun b hb q => by
    refine Or.elim (frC b hb) (fun z => ?_) fun z => ?_
    · exact ap₄ b (z ▸ own_locals) q
    · obtain ⟨o, e⟩ := frO b z; (exact nosome (dT₄ b (.inr q)) e)
  have ff₅ : h₅.FunFrames noHeap (eL L :: outer) := by
    refine el3_3 F₅.ns fun o es ep ho hd _ => ?_
    refine ⟨(by show ScopeKind.function ≠ ScopeKind.module; decide), ⟨L, o, rfl, noHeap_get _, ho, fun vs => by (refine rwR hd ?_); simp⟩, ?_⟩
    exact funFrames_kf (Kf.of (fs := []) (M := fun _ => False) (Kx.of k05)) hF0 fun _ _ q => q
  refine call_prepare (s := { s with heap := h₅, toks := tk₅ }) (S := T₄) (outer := eL L :: outer) (rk := rk) (hA.mono (by decide)) hfr ff₅ ?_ (Fil₄.at'.keeps hk₅) Fil₄.rdy offT ?_ ?_ ?_ ?_
  · intro h' kx
    have kx : Kx (fun b => T₄.fp b ∨ b ∈ frs (eL L :: outer)) h₅ h' := kx
    refine hS h' fun b o hb e => kx b o (fun q => ?_) (k05 b o e)
    rcases q with q | q
    · (exact nosome (dT₄ b (.inr q)) e)
    · refine Or.elim (frC b q) (fun z => ?_) fun z => ?_
      · (exact nosome (hO b (z ▸ own_locals)) e)
      · exact hb z
  · have := nodup_len Fil₄.at'.nodup Fil₄.add.keys; lia
  · intro a ha b hb; exact hrk b (sun a b hb).1 a (sun a b hb).2
  · intro a ha b hb; exact (kmem b).mpr (sun a b hb).1
  intro h₆ tk₆ r R₆ kf₆ hr₆
  have kf₆ : Kf (frs (eL L :: outer)) T₄.fp h₅ h₆ := kf₆
  have hr₆ : h₅.get? r = none := hr₆
  have Lin : L ∈ frs (eL L :: outer) := List.mem_cons_self
  have notL : ∀ b o, s0.get? b = some o → b ≠ L := fun b o e q => by (exact nosome2 q (hO L own_locals) e)
  have F₆ : Fra (eL L) h₆ m₄ cm := by
    refine ⟨ns_slots F₅.ns fun o e => kf₆.slot L o Lin (ap₄ L own_locals) e, fun nm c hc => ?_, F₅.apart, F₅.above⟩
    refine el1_2 (F₅.cell nm c hc) fun o ho hd => ?_
    have oc : OwnA (eL L) c := own_cell hc
    refine ⟨o, kf₆.keep c o (ap₄ c oc) (fun q => ?_) ho, hd⟩
    refine Or.elim (frC c q) (fun z => ?_) fun z => ?_
    · have : L < c := F₅.above nm c (mem_of_lookup hc)
      (replace this := z ▸ this); exact Nat.lt_irrefl _ this
    · obtain ⟨o', e'⟩ := frO c z; (replace e' := (hO c oc) ▸ e'); cases e'
  have Tfp : ∀ b, ({ T₄ with rdy := some (r, prepL T₄) } : Sor).fp b → T₄.fp b ∨ b = r := fun b hb => by
    rcases hb with q | q | q | ⟨x, q⟩ | q
    · exact .inl (.inl q)
    · exact .inl (.inr (.inl q))
    · exact .inl (.inr (.inr (.inl q)))
    · cases q; exact .inr rfl
    · exact .inl (.inr (.inr (.inr (.inr q))))
  refine k h₆ tk₆ m₄ { T₄ with rdy := some (r, prepL T₄) } r (prepL T₄) _ F₆ ?_ ms₄ ⟨R₆, kmem, suc, fun a b hb => (sun a b hb).1, fun a => ?_⟩ rfl ?_ Fil₄.pas Fil₄.fin ?_ ?_ ?_
  · intro x hx hx'
    (refine rwR (hm₄ x hx) ?_; refine rwR (hm₃ x hx) ?_); exact upd_ne hx'
  · have := Fil₄.su a; show (T₄.su a).length ≤ 2000; lia
  · refine JI.start (fun j hj => (hnz j hj).2) (fun j => ?_) (Fil₄.at'.nodup.sublist List.filter_sublist) fun j hj => ?_
    · show j ∈ T₄.keys.filter _ ↔ _ ∧ T₄.np j = 0
      (refine rwR (propext List.mem_filter) ?_; refine rwR (propext (kmem j)) ?_); simp
    · show T₄.np j = _
      (refine rwR (Fil₄.add.np j) ?_; refine rwR (full _) ?_; refine rwR (if_pos hj) ?_; with_reducible rfl)
  · intro b hb
    refine Or.elim (Tfp b hb) (fun z => ?_) fun z => ?_
    · exact dT₄ b (.inr z)
    · (refine rwR z ?_); exact dead_kp k05 hr₆
  · intro b hb q
    refine Or.elim (Tfp b q) (fun z => ?_) fun z => ?_
    · exact ap₄ b hb z
    · exact Live.not F₅.live hr₆ (z ▸ hb)
  · refine ⟨fun b o _ hf e => kf₆.keep b o (fun q => by (exact nosome (dT₄ b (.inr q)) e)) (fun q => ?_) (k05 b o e), fun b o hf _ e => kf₆.slot b o (List.mem_cons_of_mem _ hf) (fun q => by (exact nosome (dT₄ b (.inr q)) e)) (k05 b o e)⟩
    refine Or.elim (frC b q) (fun z => ?_) fun z => ?_
    · exact notL b o e z
    · exact hf z
end
end Mine
end
section
open PySem PySem.Calls PySem.W PyProof.Rows
set_option maxRecDepth 100000
set_option genInjectivity false
set_option genSizeOf false
set_option genSizeOfSpec false
namespace Mine
noncomputable def hrBody : List Stmt := ifBody ((forBody (lfBody.getD 7 ps)).getD 0 ps)
noncomputable abbrev hS (S : Sor) (np : Nat → Int) (r : Addr) (rl : List Nat) (pas fin : Int) : Sor := { S with np := np, rdy := some (r, rl), pas := pas, fin := fin }
theorem fp_h {S : Sor} {np : Nat → Int} {r : Addr} {rl l0 : List Nat} {pas fin : Int} (hr : S.rdy = some (r, l0)) (b : Addr) : (hS S np r rl pas fin).fp b ↔ S.fp b := by
  have e : ∀ x : Addr, (∃ l, some (r, rl) = some (x, l)) ↔ (∃ l, S.rdy = some (x, l)) := fun x => by
    (refine rwR hr ?_)
    constructor
    · rintro ⟨l, h⟩; cases h; exact ⟨_, rfl⟩
    · rintro ⟨l, h⟩; cases h; exact ⟨_, rfl⟩
  have e := e b
  unfold Sor.fp Sor.rl
  simp only [e]
theorem in_mem (i : Int) : ∀ ns : List Int, KTD.inNums i ns = decide (i ∈ ns)
  | [] => by simp [KTD.inNums]
  | x :: ns => by
    unfold KTD.inNums
    (refine rwR (in_mem i ns) ?_; refine rwR (propext Bool.eq_iff_iff) ?_)
    simp
section
variable {prog : Program} {w : World} {A : Around} {E : Value → Shared → Prop} {s : Shared} {h : Heap} {env : Env}
theorem n_type {pos : Pos} (S : Sta w h) (hk : env.scope.kind = .function) (hx : env.kindOf "type" = some .globalImplicit) (hg : env.globals = mainGlobals) (hb : env.builtins = builtinsNs) :
    GV prog w A h (eval (.Name "type" pos) env) (.type "type") := g_builtin S (by kernel_rfl) (by decide +kernel) (by decide) hk hx hg hb
theorem n_tuple {pos : Pos} (S : Sta w h) (hk : env.scope.kind = .function) (hx : env.kindOf "tuple" = some .globalImplicit) (hg : env.globals = mainGlobals) (hb : env.builtins = builtinsNs) :
    GV prog w A h (eval (.Name "tuple" pos) env) (.type "tuple") := g_builtin S (by kernel_rfl) (by decide +kernel) (by decide) hk hx hg hb
theorem n_sorted {pos : Pos} (S : Sta w h) (hk : env.scope.kind = .function) (hx : env.kindOf "sorted" = some .globalImplicit) (hg : env.globals = mainGlobals) (hb : env.builtins = builtinsNs) :
    GV prog w A h (eval (.Name "sorted" pos) env) (.builtin "sorted") := g_builtin S (by kernel_rfl) (by decide +kernel) (by decide) hk hx hg hb
theorem g_tup0 {k : Nat} {pos : Pos} : Gives prog w A h (eval (.Tuple [] k pos) env) (fun v h' => ∃ D, v = .ref D ∧ h.get? D = none ∧ IsTup h' D #[]) := fun s E hs =>
  wpAny_Tuple (wpAny_items_nil ⟨by simp, ⟨_, rfl, by
    cases e : h.get? s.heap.objs.size with
    | none => rfl
    | some o => exact absurd (Heap.lt_size (hs _ _ e)) (Nat.lt_irrefl _), _, Heap.get?_push_size _ rfl, rfl, 0, rfl⟩, _, _, rfl, Kp.push _ _⟩)
theorem g_tup2 {e1 e2 : Expr} {k : Nat} {pos : Pos} {R1 R2 : Value → Heap → Prop} (x : Gives prog w A h (eval e1 env) R1) (y : Gives prog w A h (eval e2 env) R2) (m1 : ∀ v a b, Kp a b → R1 v a → R1 v b) (m2 : ∀ v a b, Kp a b → R2 v a → R2 v b)
    (hse : starEach [e1, e2] env = [(false, eval e1 env), (false, eval e2 env)] := by rfl) :
    Gives prog w A h (eval (.Tuple [e1, e2] k pos) env) (fun v h' => ∃ D a b, v = .ref D ∧ h.get? D = none ∧ h'.get? D = some ({ cls := .type "tuple", data := .seq #[a, b] } : Obj) ∧ R1 a h' ∧ R2 b h') := fun s E hs => by
  refine wpAny_Tuple ?_
  (refine rwR hse ?_)
  show wpAny _ _ (spliced [(false, eval e1 env), (false, eval e2 env)]) _ _ _
  refine Calls.spliced_cons (x.use hs fun u h1 t1 hk1 hR1 => Calls.spliced_cons (y.use (hs.trans hk1) fun u2 h2 t2 hk2 hR2 => Calls.spliced_nil ⟨by (refine rwR sizeLine_eq ?_); simp, ⟨_, u, u2, rfl, ?_, Heap.get?_push_size _ rfl, m1 _ _ _ (hk2.trans (Kp.push _ _)) hR1, m2 _ _ _ (Kp.push _ _) hR2⟩, _, _, rfl, (hk1.trans hk2).trans (Kp.push _ _)⟩))
  cases e : h.get? h2.objs.size with
  | none => rfl
  | some o => exact absurd (Heap.lt_size (hk2 _ _ (hk1 _ _ (hs _ _ e)))) (Nat.lt_irrefl _)
theorem gb_in {l r : Expr} {pos : Pos} {whole : Sem Value} {i : Int} {D : Addr} {ns : List Int} (x : GI prog w A h (eval l env) i) (y : GV prog w A h (eval r env) (.ref D)) (hD : LI h D ns) (hm : behindInMarks .In r = false := by with_unfolding_all rfl) :
    GB prog w A h (isTrue (.Compare l [.In] [r] pos) env whole) (decide (i ∈ ns)) :=
  g_test x y (fun _ _ _ _ e => e) (fun a b' h' hk ha hb => by
    refine el1_1 ha fun t r1_ => ?_
    try clear ha
    obtain rfl := r1_
    subst hb
    obtain ⟨vs, hl, hi⟩ := hD
    try clear hD
    exact fun s E hs => KTD.in_nums (h₀ := h') ⟨vs, (hl.at fun o e => hk _ o e).isList, hi⟩ hs (by (refine rwR (in_mem _ _) ?_); exact ⟨rfl, keeps_refl s⟩)) hm
theorem gb_notin {l r : Expr} {pos : Pos} {whole : Sem Value} {i : Int} {D : Addr} {ns : List Int} (x : GI prog w A h (eval l env) i) (y : GV prog w A h (eval r env) (.ref D)) (hD : LI h D ns) (hm : behindInMarks .NotIn r = false := by with_unfolding_all rfl) :
    GB prog w A h (isTrue (.Compare l [.NotIn] [r] pos) env whole) (!decide (i ∈ ns)) :=
  g_test x y (fun _ _ _ _ e => e) (fun a b' h' hk ha hb => by
    refine el1_1 ha fun t r2_ => ?_
    try clear ha
    obtain rfl := r2_
    subst hb
    obtain ⟨vs, hl, hi⟩ := hD
    try clear hD
    exact fun s E hs => KTD.notin_nums (h₀ := h') ⟨vs, (hl.at fun o e => hk _ o e).isList, hi⟩ hs (by (refine rwR (in_mem _ _) ?_); exact ⟨rfl, keeps_refl s⟩)) hm
theorem lf_ready {T : Sor} {L r : Addr} {l : List Nat} {m cm : Str → Option Value} {Q : Flow → Shared → Prop} (hA : Ok 25 A) (F : Fra (eL L) s.heap m cm) (Z : Fz T.fp (Sta w) s.heap) (R : SorAt prog w s.heap T) (hr : T.rdy = some (r, l)) (hl : ∀ j ∈ l, j ∈ T.keys) (hz : l.length ≤ 1000)
    (hap : ∀ b, OwnA (eL L) b → ¬ T.fp b) (ms : m "sorter" = some (.ref T.a))
    (k : ∀ h' tk tp vs, Fra (eL L) h' (upd m "given" (.ref tp)) cm → SorAt prog w h' { T with np := l.foldl (fun np j => fup np j (-1)) T.np, rdy := some (r, []), pas := T.pas + l.length } → Kx (Or2 (OwnA (eL L)) T.fp) s.heap h' → s.heap.get? tp = none → IsTup h' tp (List.toArray vs) → IntsAre vs (toI l) → Q .next { s with heap := h', toks := tk }) :
    wpAny (model prog w) A (exec (hrBody.getD 0 ps) (eL L)) Q E s := by
  refine wpAny_Assign_Name (meth_call0 (S := T) Z.now R (g_local rfl rfl F.ns ms) (k_ready w) (ty_fn w 99 (by simp)) (k_keepf w 99 (by simp)) sh_ready ?_)
  intro h₁ tk₁ hk₁
  refine call_ready (s := { s with heap := h₁, toks := tk₁ }) (hA.mono (by decide)) (Z.step' (Kx.of hk₁)) (R.keeps hk₁) hr hl hz ?_
  intro h₂ tk₂ tp vs R₂ kx₂ htp htup hvs
  have kx₂ : Kx T.fp h₁ h₂ := kx₂
  have htp : h₁.get? tp = none := htp
  have F₂ : Fra (eL L) h₂ m cm := (F.keeps hk₁).kx kx₂ hap
  refine fra_local F₂ rfl rfl fun h₃ tk₃ F₃ sb₃ => ?_
  have kx₃ : Kx (OwnA (eL L)) h₂ h₃ := Kx.same sb₃ own_locals
  have fpe : ∀ b, ({ T with np := l.foldl (fun np j => fup np j (-1)) T.np, rdy := some (r, []), pas := T.pas + l.length } : Sor).fp b → T.fp b := fun b hb => (fp_h (S := T) (rl := []) (np := l.foldl (fun np j => fup np j (-1)) T.np) (pas := T.pas + l.length) (fin := T.fin) hr b).mp hb
  have tpo : ¬ OwnA (eL L) tp := Live.not (F.keeps hk₁).live htp
  refine k h₃ tk₃ tp vs F₃ (R₂.frame fun b o hb e => kx₃ b o (fun q => hap b q (fpe b hb)) e) ?_ (dead_kp hk₁ htp) (by obtain ⟨o, ho, rr⟩ := htup; exact ⟨o, kx₃ _ o tpo ho, rr⟩) hvs
  exact ((Kx.of hk₁).trans' (kx₂.mono fun b => .inr)).trans' (kx₃.mono fun b => .inl)
theorem sor_same {T : Sor} {r : Addr} (hr : T.rdy = some (r, [])) : ({ T with np := ([] : List Nat).foldl (fun np j => fup np j (-1)) T.np, rdy := some (r, []), pas := T.pas + ([] : List Nat).length } : Sor) = T := by
  cases T; simp at hr ⊢; exact hr.symm
theorem lf_type {L tp : Addr} {items : Array Value} {m cm : Str → Option Value} {p1 p2 p3 p4 p5 : Pos} {whole : Sem Value} (S₀ : Sta w h) (F : Fra (eL L) h m cm) (mg : m "given" = some (.ref tp)) (htp : IsTup h tp items) :
    GB prog w A h (isTrue (.Compare (.Call (.Name "type" p1) [.Name "given" p2] [] p3) [.IsNot] [.Name "tuple" p4] p5) (eL L) whole) false := by
  refine g_test (R1 := fun v _ => v = .type "tuple") (R2 := fun v _ => v = .type "tuple") (g_call1t (n_type S₀ rfl rfl rfl rfl) (g_local rfl rfl F.ns mg) fun v h' hk hv => ?_) (n_tuple S₀ rfl rfl rfl rfl) (fun _ _ _ _ e => e) fun a b h' hk ha hb => ?_
  · subst hv
    intro s' E' hs'
    refine el1_3 htp fun o ho hc _ => ?_
    try clear htp
    exact call_type_of (Tx := "tuple") ⟨o, hs' _ _ (hk _ _ ho), hc⟩ (by decide) ⟨rfl, keeps_refl s'⟩
  · subst ha hb
    exact fun s' E' hs' => wpAny_isNot_self rfl ⟨rfl, keeps_refl s'⟩
theorem lf_again {T : Sor} {L r tp : Addr} {items : Array Value} {m cm : Str → Option Value} {Q : Flow → Shared → Prop} (hA : Ok 25 A) (F : Fra (eL L) s.heap m cm) (Z : Fz T.fp (Sta w) s.heap) (R : SorAt prog w s.heap T) (hr : T.rdy = some (r, []))
    (hap : ∀ b, OwnA (eL L) b → ¬ T.fp b) (ms : m "sorter" = some (.ref T.a)) (mg : m "given" = some (.ref tp)) (htp : IsTup s.heap tp items)
    (k : ∀ h' tk, Fra (eL L) h' m cm → SorAt prog w h' T → Kx T.fp s.heap h' → Q .next { s with heap := h', toks := tk }) :
    wpAny (model prog w) A (exec (hrBody.getD 1 ps) (eL L)) Q E s := by
  refine wpAny_If (isTrue_or ((lf_type Z.now F mg htp).useV (Kp.refl _) fun h₁ tk₁ hk₁ => ?_))
  refine isTrue_or ?_
  refine wpAny_isTrue_Compare1 (meth_call0 (s := { s with heap := h₁, toks := tk₁ }) (S := T) (Z.now.keeps hk₁) (R.keeps hk₁) (g_local rfl rfl (F.keeps hk₁).ns ms) (k_ready w) (ty_fn w 99 (by simp)) (k_keepf w 99 (by simp)) sh_ready ?_)
  intro h₂ tk₂ hk₂
  have hk₂ : Kp h₁ h₂ := hk₂
  have k2 := hk₁.trans hk₂
  refine call_ready (s := { s with heap := h₂, toks := tk₂ }) (hA.mono (by decide)) (Z.step' (Kx.of k2)) (R.keeps k2) hr (by simp) (by simp) ?_
  intro h₃ tk₃ tp' vs R₃ kx₃ htp' htup hvs
  have kx₃ : Kx T.fp h₂ h₃ := kx₃
  (replace R₃ := (sor_same hr) ▸ R₃)
  have e0 : vs = [] := by cases hvs; rfl
  subst e0
  refine (g_tup0 (prog := prog) (w := w) (h := h₃)).use (Kp.refl _) fun v h₄ tk₄ hk₄ hv => ?_
  refine el1_3 hv fun D r3_ _ hD => ?_
  try clear hv
  obtain rfl := r3_
  refine PySem.EqBoolInt.of_rcne (PySem.SeqAt.RcNeAt.tuples (e := fun _ => true) (htup.keeps hk₄) hD hA.units (fun j h1 _ => by simp at h1)) ?_
  refine wpAny_truthy_bool ?_
  (refine rwR (if_neg (by simp)) ?_)
  refine isTrue_or_nil ?_
  refine wpAny_execs_nil ?_
  have kx : Kx T.fp s.heap h₄ := ((Kx.of k2).trans' kx₃).trans' (Kx.of hk₄)
  exact k h₄ tk₄ (F.kx kx hap) (R₃.keeps hk₄) kx
end
end Mine
end
section
open PySem PySem.Calls PySem.W PyProof.Rows
set_option maxRecDepth 100000
set_option genInjectivity false
set_option genSizeOf false
set_option genSizeOfSpec false
namespace Mine
noncomputable abbrev keyOf (fo : Nat → Int) (j : Nat) : Int × Int := (-(fo j), (j : Int))
structure WAt (h : Heap) (l : Addr) (ts : List (Addr × Int × Int)) : Prop where
  a : h.PlainList l (List.toArray (ts.map fun q => Value.ref q.1))
  b : ∀ q ∈ ts, ∃ t u, IsTup h q.1 #[.int q.2.1 t, .int q.2.2 u]
theorem WAt.frame {h h' : Heap} {l : Addr} {ts : List (Addr × Int × Int)} {M : Addr → Prop} (x : WAt h l ts) (k : Kx M h h') (hl : ¬ M l) (ht : ∀ q ∈ ts, ¬ M q.1) : WAt h' l ts :=
  ⟨x.1.at fun o e => k _ o hl e, fun q hq => let ⟨t, u, o, e, r⟩ := x.2 q hq; ⟨t, u, o, k _ o (ht q hq) e, r⟩⟩
theorem WAt.keeps {h h' : Heap} {l : Addr} {ts : List (Addr × Int × Int)} (x : WAt h l ts) (k : Kp h h') : WAt h' l ts := x.frame (M := fun _ => False) (Kx.of k) (fun q => q) (fun _ _ q => q)
theorem perm_mem {p : List Nat} {n : Nat} (hn : p.Nodup) (hl : p.length = n) (hlt : ∀ i ∈ p, i < n) {i : Nat} (hi : i < n) : i ∈ p := Classical.byContradiction fun h => by
  have := nodup_len (n := n) (t := i :: p) (List.nodup_cons.mpr ⟨h, hn⟩) fun j hj => by
    rcases List.mem_cons.mp hj with rfl | hj
    · exact hi
    · exact hlt j hj
  (replace this := List.length_cons ▸ this); lia
theorem perm_map {p W : List Nat} (hn : p.Nodup) (hl : p.length = W.length) (hlt : ∀ i ∈ p, i < W.length) (hW : W.Nodup) : (p.map fun i => W.getD i 0).Nodup ∧ ∀ j, j ∈ (p.map fun i => W.getD i 0) ↔ j ∈ W := by
  have gd : ∀ i (hi : i < W.length), W.getD i 0 = W[i] := fun i hi => by (refine rwR (List.getD_eq_getElem?_getD) ?_; refine rwR (List.getElem?_eq_getElem hi) ?_); rfl
  refine ⟨?_, fun j => ⟨fun h => ?_, fun h => ?_⟩⟩
  · unfold List.Nodup
    (refine rwR (propext List.pairwise_map) ?_)
    refine hn.imp_of_mem fun {a b} ha hb hab e => hab ?_
    (replace e := (gd a (hlt a ha)) ▸ e; replace e := (gd b (hlt b hb)) ▸ e)
    exact (List.getElem_inj hW).mp e
  · refine el1_2 (List.mem_map.mp h) fun i hi r1_ => ?_
    obtain rfl := r1_
    (refine rwR (gd i (hlt i hi)) ?_); exact List.getElem_mem _
  · obtain ⟨i, hi, r2_⟩ := List.mem_iff_getElem.mp h
    obtain rfl := r2_
    exact List.mem_map.mpr ⟨i, perm_mem hn hl hlt hi, gd i hi⟩
noncomputable def callArg0 (e : Expr) : Expr := exP e
noncomputable def tupF (fo : Nat → Int) (v y : Value) (as : List (Addr × Obj)) : Prop :=
  ∃ (j : Nat) (t : Tok) (D : Addr) (t1 t2 : Tok), v = .int j t ∧ y = .ref D ∧ as = [(D, ({ cls := .type "tuple", data := .seq #[.int (-(fo j)) t1, .int j t2] } : Obj))]
theorem tup_conv {h₀ h' : Heap} {fo : Nat → Int} {l : List Nat} {vs ys : List Value} (x : IntsAre vs (toI l)) (y : All2 (fun v y => Made1 h₀ (tupF fo) v y h') vs ys) :
    ∃ us : List (Addr × Int × Int), ys = us.map (fun q => Value.ref q.1) ∧ us.map (·.2) = l.map (keyOf fo) ∧ ∀ q ∈ us, h₀.get? q.1 = none ∧ ∃ t u, IsTup h' q.1 #[.int q.2.1 t, .int q.2.2 u] := by
  induction l generalizing vs ys with
  | nil => cases x; cases y; exact ⟨[], rfl, rfl, fun _ hq => (nomatch hq)⟩
  | cons j l ih =>
    cases x with
    | cons _ t0 x =>
      cases y with
      | cons h t =>
        refine el1_3 (ih x t) fun us e1 e2 e3 => ?_
        obtain ⟨as, has, j', t', D, t1, t2, ev, r3_, r4_⟩ := h
        try clear h
        obtain rfl := r3_
        obtain rfl := r4_
        have ej : j = j' := by cases ev; rfl
        subst ej
        refine ⟨(D, keyOf fo j) :: us, by (refine rwR e1 ?_); rfl, by (refine rwR List.map_cons ?_; refine rwR e2 ?_); rfl, fun q hq => ?_⟩
        rcases List.mem_cons.mp hq with rfl | hq
        · refine el0_2 (has (D, _) (List.mem_singleton.mpr rfl)) fun a1 a2 => ?_
          exact ⟨a1, t1, t2, _, a2, rfl, 0, rfl⟩
        · exact e3 q hq
section
variable {prog : Program} {w : World} {A : Around} {E : Value → Shared → Prop} {s : Shared} {h : Heap} {env : Env}
theorem lf_pairs {L tp aF : Addr} {m cm : Str → Option Value} {rl : List Nat} {vs : List Value} {fol : List Int} {fo : Nat → Int} (hA : Ok 5 A) (F : Fra (eL L) h m cm) (mg : m "given" = some (.ref tp)) (htp : IsTup h tp (List.toArray vs)) (hvs : IntsAre vs (toI rl)) (cf : cm "followers" = some (.ref aF)) (hF : LI h aF fol)
    (hfo : ∀ j ∈ rl, j < 1000 ∧ fol[j]? = some (fo j)) (hz : rl.length ≤ 1000) :
    Gives prog w A h (eval (binR (callArg0 (asgVal (hrBody.getD 2 ps)))) (eL L)) (fun v h' => ∃ (D : Addr) (us : List (Addr × Int × Int)), v = .ref D ∧ h.get? D = none ∧ h'.PlainList D (List.toArray (us.map fun (q : Addr × Int × Int) => Value.ref q.1)) ∧ us.map (·.2) = rl.map (keyOf fo) ∧ ∀ q ∈ us, h.get? q.1 = none ∧ ∃ t u, IsTup h' q.1 #[.int q.2.1 t, .int q.2.2 u]) := by
  have hvl : vs.length = rl.length := by (refine rwR (IntsAre.len hvs) ?_; refine rwR (toI_len _) ?_; with_reducible rfl)
  obtain ⟨fs, hfs, hfi⟩ := hF
  try clear hF
  refine (CompRun.gives (comp_local (n := (List.toArray vs).size) (P := fun i v => (List.toArray vs)[i]? = some v) (cl := [("followers", L + 1 + 1)]) rfl (by decide) rfl (by (refine rwR List.size_toArray ?_); (exact Nat.le_trans (Nat.le_of_eq (by assumption)) (Nat.le_trans (by assumption) (by decide))))
    (g_local rfl rfl F.ns mg) (fun x h1 hk hx => by subst hx; exact ⟨_, itr_tuple hA.hd (htp.keeps hk)⟩) (fun _ => true) (tupF fo) ?_ ?_) rfl rfl (by decide) (fun _ => rfl)).mono ?_
  · intro C i v h' m' hk hPi hm hv
    exact gives_tests_nil
  · intro C i v h' m' hk hPi _ hm hv
    obtain ⟨j, t, ej⟩ := jobV hvs hPi
    refine el0_2 (hfo j (List.mem_of_getElem? ej)) fun hj hfj => ?_
    refine el1_1 (IntsAre.get hfi hfj) fun tf etf => ?_
    refine (g_tup2 (R1 := fun v _ => isI (-(fo j)) v) (R2 := fun v _ => isI (j : Nat) v) (gi_neg (gv_int (g_item (l := aF) (k := (j : Nat)) (items := List.toArray fs) (v := .int (fo j) tf) (g_cell rfl rfl rfl ((F.cellIs (x := "followers") rfl cf).keeps hk)) (gv_int (g_local rfl rfl hm hv)) (hfs.at fun o e => hk _ o e).isList (by lia) (by lia) (by simpa using etf) (fun _ _ => rfl)))) (gv_int (g_local rfl rfl hm hv)) (fun _ _ _ _ e => e) (fun _ _ _ _ e => e)).mono ?_
    intro v h'' hk'' z5_
    refine el3_5 z5_ fun D a b r6_ hDn hD q7_ q8_ => ?_
    try clear z5_
    obtain rfl := r6_
    refine el1_1 q7_ fun ta r9_ => ?_
    try clear q7_
    obtain rfl := r9_
    refine el1_1 q8_ fun tb r10_ => ?_
    try clear q8_
    obtain rfl := r10_
    refine ⟨[(D, _)], fun q hq => ?_, j, t, D, ta, tb, rfl, rfl, rfl⟩
    (refine rwR (List.mem_singleton.mp hq) ?_)
    exact ⟨hDn, hD⟩
  · intro v h' hk z11_
    obtain ⟨D, ys, r12_, h1, h2, us, e1, e2, h3⟩ := z11_
    try clear z11_
    obtain rfl := r12_
    have : us = vs := items_eq e1 e2
    subst this
    (replace h3 := (filter_tt _) ▸ h3)
    refine el1_3 (tup_conv hvs h3) fun qs r13_ b2 b3 => ?_
    obtain rfl := r13_
    exact ⟨D, qs, rfl, h1, h2, b2, b3⟩
theorem lf_sort {L tp aF wl : Addr} {m cm : Str → Option Value} {rl W : List Nat} {vs : List Value} {fol : List Int} {fo : Nat → Int} {ts : List (Addr × Int × Int)} {Q : Flow → Shared → Prop} (hA : Ok 5 A) (S₀ : Sta w s.heap) (F : Fra (eL L) s.heap m cm) (mg : m "given" = some (.ref tp)) (htp : IsTup s.heap tp (List.toArray vs)) (hvs : IntsAre vs (toI rl)) (cf : cm "followers" = some (.ref aF)) (hF : LI s.heap aF fol)
    (hfo : ∀ j ∈ rl, j < 1000 ∧ fol[j]? = some (fo j)) (mw : m "waiting" = some (.ref wl)) (hW : WAt s.heap wl ts) (hts : ts.map (·.2) = W.map (keyOf fo)) (hto : ∀ q ∈ ts, ¬ OwnA (eL L) q.1) (hWn : (W ++ rl).Nodup) (h6 : (W ++ rl).length ≤ 6)
    (k : ∀ h' tk D (ts' : List (Addr × Int × Int)) (W' : List Nat), Fra (eL L) h' (upd m "waiting" (.ref D)) cm → s.heap.get? D = none → WAt h' D ts' → ts'.map (·.2) = W'.map (keyOf fo) → W'.Nodup → (∀ j, j ∈ W' ↔ j ∈ W ++ rl) → (W'.Pairwise fun i j => lexLt (keyOf fo i) (keyOf fo j) = true) →
      (∀ q ∈ ts', q ∈ ts ∨ s.heap.get? q.1 = none) → Kx (OwnA (eL L)) s.heap h' → Q .next { s with heap := h', toks := tk }) :
    wpAny (model prog w) A (exec (hrBody.getD 2 ps) (eL L)) Q E s := by
  have hln : ts.length = W.length := by have := congrArg List.length hts; simpa using this
  (replace h6 := List.length_append ▸ h6)
  refine wpAny_Assign_Name (PyProof.Rows.Call_Name1 ((n_sorted (prog := prog) (w := w) (A := A) S₀ (env := eL L) rfl rfl rfl rfl).useV (Kp.refl _) fun h₁ t₁ hk₁ => ?_) rfl)
  refine PySem.callWith_builtin1 ?_
  have F₁ := F.keeps hk₁
  refine (g_cat (prog := prog) (w := w) (A := A) (h := h₁) (vs := []) (us := []) (R1 := fun v h' => v = .ref wl ∧ Kp h₁ h') ((g_local rfl rfl F₁.ns mw).mono fun v h' hk hv => ⟨hv, hk⟩) (lf_pairs (rl := rl) (fo := fo) hA F₁ mg (htp.keeps hk₁) hvs cf (hF.keeps hk₁) hfo (by lia)) (fun v a b hk hx => ⟨hx.1, hx.2.trans hk⟩) ?_ ?_).use (Kp.refl _) ?_
  · intro v h' z14_
    refine el0_2 z14_ fun r15_ hk' => ?_
    try clear z14_
    obtain rfl := r15_
    exact ⟨wl, _, rfl, (hW.keeps hk₁).1.at fun o e => hk' _ o e, by (refine rwR (List.length_map _) ?_); lia⟩
  · intro v h' z16_
    refine el2_5 z16_ fun D us r17_ _ hD e2 _ => ?_
    try clear z16_
    obtain rfl := r17_
    have : us.length = rl.length := by have := congrArg List.length e2; simpa using this
    exact ⟨D, _, rfl, hD, by (refine rwR (List.length_map _) ?_); lia⟩
  intro v h₂ tk₂ hk₂ z18_
  refine el6_8 z18_ fun D a b xs zs h1 r19_ hDn hDl q20_ q21_ hxs hzs hk12 => ?_
  try clear z18_
  obtain rfl := r19_
  refine el0_2 q20_ fun ea hk1 => ?_
  try clear q20_
  refine el2_5 q21_ fun D2 us e2 hD2n hD2 hus hut => ?_
  try clear q21_
  cases ea
  cases e2
  have e1 := plain_unique hxs ((hW.keeps hk₁).1.at fun o e => hk1 _ o e)
  have e2 := plain_unique hzs hD2
  subst e1 e2
  have k02 : Kp s.heap h₂ := hk₁.trans hk₂
  have F₂ := F.keeps k02
  have hul : us.length = rl.length := by have := congrArg List.length hus; simpa using this
  have hall : (ts ++ us).map (·.2) = (W ++ rl).map (keyOf fo) := by (refine rwR List.map_append ?_; refine rwR List.map_append ?_; refine rwR hts ?_; refine rwR hus ?_; with_reducible rfl)
  have hlen : (ts ++ us).length = (W ++ rl).length := by (refine rwR List.length_append ?_; refine rwR List.length_append ?_; refine rwR hln ?_; refine rwR hul ?_; with_reducible rfl)
  have hPl : h₂.PlainList D (List.toArray ((ts ++ us).map fun q => Value.ref q.1)) := by (refine rwR List.map_append ?_); exact hDl
  have hta : ∀ q ∈ ts ++ us, q.1 ≠ L ∧ ∃ t u, IsTup h₂ q.1 #[.int q.2.1 t, .int q.2.2 u] := fun q hq => by
    refine Or.elim (List.mem_append.mp hq) (fun hq => ?_) fun hq => ?_
    · exact ⟨fun e => hto q hq (e ▸ own_locals), let ⟨t, u, x⟩ := hW.2 q hq; ⟨t, u, x.keeps k02⟩⟩
    · obtain ⟨hn, t, u, x⟩ := hut q hq
      exact ⟨fun e => (by obtain ⟨o, _, _, ho, _⟩ := F₁.ns; (replace ho := Eq.symm (show q.1 = (eL L).locals from e) ▸ ho; replace ho := hn ▸ ho); cases ho), t, u, x.keeps hk12⟩
  have hor : ∀ q ∈ ts ++ us, q ∈ ts ∨ s.heap.get? q.1 = none := fun q hq => (List.mem_append.mp hq).imp_right fun hq => dead_kp hk₁ (hut q hq).1
  have fin : ∀ D' h' tk (p : List Nat), h₂.get? D' = none → p.Nodup → p.length = (ts ++ us).length → (∀ i ∈ p, i < (ts ++ us).length) → (p.Pairwise fun i j => lexLt ((ts ++ us).getD i (0, 0, 0)).2 ((ts ++ us).getD j (0, 0, 0)).2 = true) → h'.PlainList D' (List.toArray (p.map fun i => Value.ref ((ts ++ us).getD i (0, 0, 0)).1)) → h'.Ns L m →
      (∀ b o, b ≠ L → h₂.get? b = some o → h'.get? b = some o) → wpAny (model prog w) A (storeName (eL L) "waiting" (.ref D')) (fun _ s' => Q .next s') E { s with heap := h', toks := tk } := by
    intro D' h' tk p hD' p1 p2 p3 p4 hp hns hk'
    have F' : Fra (eL L) h' m cm := ⟨hns, fun nm c hc => by
      refine el1_2 (F₂.cell nm c hc) fun o ho hd => ?_
      exact ⟨o, hk' c o (Nat.ne_of_gt (F₂.above nm c (mem_of_lookup hc))) ho, hd⟩, F₂.apart, F₂.above⟩
    refine fra_local F' rfl rfl fun h₃ tk₃ F₃ sb₃ => ?_
    have kx₃ : Kx (OwnA (eL L)) h' h₃ := Kx.same sb₃ own_locals
    have kx' : Kx (OwnA (eL L)) h₂ h' := fun b o hb e => hk' b o (fun q => hb (q ▸ own_locals)) e
    have D'o : ¬ OwnA (eL L) D' := Live.not F₂.live hD'
    rw [hlen] at p2 p3
    refine el0_2 (perm_map p1 p2 p3 hWn) fun q1 q2 => ?_
    have gk : ∀ i, i < (W ++ rl).length → ((ts ++ us).getD i (0, 0, 0)).2 = keyOf fo ((W ++ rl).getD i 0) ∧ (ts ++ us).getD i (0, 0, 0) ∈ ts ++ us := fun i hi => by
      have hi' : i < (ts ++ us).length := by (exact Nat.lt_of_lt_of_le (by assumption) (Nat.le_of_eq (Eq.symm (by assumption))))
      have e1 : (ts ++ us).getD i (0, 0, 0) = (ts ++ us)[i] := by (refine rwR (List.getD_eq_getElem?_getD) ?_; refine rwR (List.getElem?_eq_getElem hi') ?_); rfl
      have e2 : (W ++ rl).getD i 0 = (W ++ rl)[i] := by (refine rwR (List.getD_eq_getElem?_getD) ?_; refine rwR (List.getElem?_eq_getElem hi) ?_); rfl
      (refine rwR e1 ?_; refine rwR e2 ?_)
      refine ⟨?_, List.getElem_mem _⟩
      have := congrArg (fun l => l[i]?) hall
      simp only [List.getElem?_map, List.getElem?_eq_getElem hi', List.getElem?_eq_getElem hi, Option.map_some, Option.some.injEq] at this
      exact this
    refine k h₃ tk₃ D' (p.map fun i => (ts ++ us).getD i (0, 0, 0)) (p.map fun i => (W ++ rl).getD i 0) F₃ (dead_kp k02 hD') ⟨?_, fun q hq => ?_⟩ ?_ q1 q2 ?_ (fun q hq => ?_) (((Kx.of k02).trans' kx').trans' kx₃)
    · (refine rwR List.map_map ?_)
      exact hp.at fun o e => kx₃ _ o D'o e
    · refine el1_2 (List.mem_map.mp hq) fun i hi r22_ => ?_
      obtain rfl := r22_
      refine el0_2 (gk i (p3 i hi)) fun g1 g2 => ?_
      obtain ⟨gL, t, u, o, e, r⟩ := hta _ g2
      refine ⟨t, u, o, sb₃.extBut _ _ gL (hk' _ _ gL e), r⟩
    · (refine rwR List.map_map ?_; refine rwR List.map_map ?_)
      exact List.map_congr_left fun i hi => (gk i (p3 i hi)).1
    · (refine rwR (propext List.pairwise_map) ?_)
      refine p4.imp_of_mem fun {a b} ha hb hab => ?_
      (replace hab := ((gk a (p3 a ha)).1) ▸ hab; replace hab := ((gk b (p3 b hb)).1) ▸ hab)
      exact hab
    · refine el1_2 (List.mem_map.mp hq) fun i hi r23_ => ?_
      obtain rfl := r23_
      exact hor _ (gk i (p3 i hi)).2
  by_cases hc : 2 ≤ (ts ++ us).length
  · refine sorted_pairs (s := { s with heap := h₂, toks := tk₂ }) (ts := ts ++ us) (L := L) F₂.ns hPl hc (by (refine rwR hlen ?_; refine rwR List.length_append ?_); (exact Nat.le_trans (by assumption) (by decide))) hta ?_ ?_
    · (refine rwR hall ?_)
      unfold List.Nodup
      (refine rwR (propext List.pairwise_map) ?_)
      exact hWn.imp fun {a b} hab e => hab (by have := congrArg Prod.snd e; exact Int.ofNat.inj this)
    · intro D' h' tk p hD' p1 p2 p3 p4 hp hns hk'
      exact fin D' h' tk p hD' p1 p2 p3 p4 hp hns hk'
  · refine sorted_short (s := { s with heap := h₂, toks := tk₂ }) hPl.isList (by (refine rwR (List.length_map _) ?_); (exact Nat.lt_of_not_le (by assumption))) ?_
    intro D' h' hD' hp hk'
    have hk' : Kp h₂ h' := hk'
    refine fin D' h' tk₂ (List.range (ts ++ us).length) hD' List.nodup_range (by simp) (fun i hi => List.mem_range.mp hi) ?_ ?_ (F₂.ns.keeps hk') (fun b o _ e => hk' b o e)
    · rcases hq : ts ++ us with _ | ⟨x, _ | ⟨y, l⟩⟩
      · simp
      · simp
      · (replace hc := hq ▸ hc); simp at hc
    · have : (List.range (ts ++ us).length).map (fun i => Value.ref ((ts ++ us).getD i (0, 0, 0)).1) = (ts ++ us).map fun q => Value.ref q.1 := by
        apply List.ext_getElem
        · simp
        · intro i h1 h2
          have hi : i < (ts ++ us).length := by simpa using h1
          (refine rwR (List.getElem_map _) ?_; refine rwR (List.getElem_map _) ?_; refine rwR (List.getElem_range _) ?_; refine rwR (List.getD_eq_getElem?_getD) ?_; refine rwR (List.getElem?_eq_getElem hi) ?_)
          rfl
      (refine rwR this ?_); exact hp
end
end Mine
end
section
open PySem PySem.Calls PySem.W PyProof.Rows
set_option maxRecDepth 100000
set_option genInjectivity false
set_option genSizeOf false
set_option genSizeOfSpec false
namespace Mine
theorem tup_uniq {h : Heap} {t : Addr} {a b c d : Value} (x : IsTup h t #[a, b]) (y : IsTup h t #[c, d]) : a = c ∧ b = d := by
  obtain ⟨o, e1, _, n1, d1⟩ := x
  try clear x
  obtain ⟨o2, e2, _, n2, d2⟩ := y
  try clear y
  (replace e2 := e1 ▸ e2)
  cases e2
  (replace d2 := d1 ▸ d2)
  cases d2
  exact ⟨rfl, rfl⟩
theorem taken_conv {h h₀ h' : Heap} {ts : List (Addr × Int × Int)} {ys : List Value} (hq : ∀ q ∈ ts, ∃ t u, IsTup h q.1 #[.int q.2.1 t, .int q.2.2 u])
    (x : All2 (fun v y => Made1 h₀ (fun v y as => as = [] ∧ ∃ r a b, v = .ref r ∧ IsTup h r #[a, b] ∧ y = b) v y h') (ts.map fun q => Value.ref q.1) ys) : IntsAre ys (ts.map (·.2.2)) := by
  induction ts generalizing ys with
  | nil => cases x; exact .nil
  | cons q ts ih =>
    cases x with
    | cons x t =>
      obtain ⟨as, _, _, r, a, b, e, hx, r1_⟩ := x
      try clear x
      obtain rfl := r1_
      cases e
      refine el2_1 (hq q List.mem_cons_self) fun t1 u1 hy => ?_
      refine el0_2 (tup_uniq hx hy) fun _ r2_ => ?_
      obtain rfl := r2_
      exact .cons _ _ (ih (fun q hq' => hq q (List.mem_cons_of_mem _ hq')) t)
theorem snd_jobs {ts : List (Addr × Int × Int)} {W : List Nat} {fo : Nat → Int} (h : ts.map (·.2) = W.map (keyOf fo)) : ts.map (·.2.2) = toI W := by
  have := congrArg (List.map Prod.snd) h
  (replace this := List.map_map ▸ this; replace this := List.map_map ▸ this)
  exact this
section
variable {prog : Program} {w : World} {A : Around} {E : Value → Shared → Prop} {s : Shared} {h : Heap} {env : Env}
theorem ItrS.mono {x : Value} {n : Nat} {P P' : Nat → Value → Prop} {src : List Addr} (I : ItrS prog w A h x n P src) (hP : ∀ i v, P i v → P' i v) : ItrS prog w A h x n P' src := fun s E Q hk k =>
  I s E Q hk fun I fp wr St h' tk W st0 a b c d e f => k I fp wr St h' tk ⟨W.sub, W.frame, fun i s Q E hi st q => W.item i s Q E hi st fun v h' tk p => q v h' tk (hP i v p), W.done, W.self⟩ st0 a b c d e f
theorem lf_taken {L wl : Addr} {m cm : Str → Option Value} {W : List Nat} {fo : Nat → Int} {hands : Nat} {th : Tok} {ts : List (Addr × Int × Int)} {Q : Flow → Shared → Prop} (hA : Ok 5 A) (F : Fra (eL L) s.heap m cm) (mw : m "waiting" = some (.ref wl)) (hW : WAt s.heap wl ts) (hts : ts.map (·.2) = W.map (keyOf fo)) (mh : m "hands" = some (.int hands th)) (h6 : W.length ≤ 1000)
    (k : ∀ h' tk D, Fra (eL L) h' m (upd cm "taken" (.ref D)) → s.heap.get? D = none → LI h' D (toI (W.take hands)) → Kx (OwnA (eL L)) s.heap h' → Q .next { s with heap := h', toks := tk }) :
    wpAny (model prog w) A (exec (hrBody.getD 3 ps) (eL L)) Q E s := by
  have hln : ts.length = W.length := by have := congrArg List.length hts; simpa using this
  have hpk : slicePick (List.toArray (ts.map fun q => Value.ref q.1)) none (some (hands : Int)) none = List.toArray ((ts.take hands).map fun q => Value.ref q.1) := by (refine rwR (pick_upto _ _) ?_; refine rwR List.map_take ?_; with_reducible rfl)
  refine asg_cell (c := L + 1 + 1 + 1 + 1) (h := s.heap) F rfl rfl rfl (CompRun.gives (comp_pair (n := (List.toArray ((ts.take hands).map fun q => Value.ref q.1)).size) (P := fun i v => (List.toArray ((ts.take hands).map fun q => Value.ref q.1))[i]? = some v) (cl := []) hA.hd rfl (by decide) rfl rfl (by decide) (by (refine rwR List.size_toArray ?_; refine rwR (List.length_map _) ?_; refine rwR List.length_take ?_); lia)
    (g_slice (items := ts.map fun q => Value.ref q.1) (lo := none) (hi := some (hands : Int)) (by (refine rwR (List.length_map _) ?_); (exact Nat.le_trans (Nat.le_of_eq (by assumption)) (Nat.le_trans (by assumption) (by decide)))) (g_local rfl rfl F.ns mw) hW.1 (part_none rfl) (part_int (gv_int (g_local rfl rfl F.ns mh))) (fun _ _ => rfl))
    (fun x h1 hk hx => by obtain ⟨D, rfl, _, hD⟩ := hx; (replace hD := hpk ▸ hD); exact ⟨_, itr_list hA.hd hD.isList⟩)
    (fun i v hP => ?_) (fun _ => true) (fun v y as => as = [] ∧ ∃ r a b, v = .ref r ∧ IsTup s.heap r #[a, b] ∧ y = b) ?_ ?_) rfl rfl (by decide) (fun _ => rfl)) (Kp.refl _) rfl ?_
  · obtain ⟨q, eq, rfl⟩ : ∃ q, (ts.take hands)[i]? = some q ∧ Value.ref q.1 = v := by
      have hP' : ((ts.take hands).map fun q => Value.ref q.1)[i]? = some v := by simpa using hP
      (replace hP' := (List.getElem?_map) ▸ hP')
      exact Option.map_eq_some_iff.mp hP'
    refine el2_1 (hW.2 q (List.mem_of_mem_take (List.mem_of_getElem? eq))) fun t u x => ?_
    exact ⟨q.1, _, _, rfl, x⟩
  · intro C i v h' m' t a b hk hP hv ht hm h1 h2
    exact gives_tests_nil
  · intro C i v h' m' t a b hk hP _ hv ht hm h1 h2
    exact (g_local rfl rfl hm h2).mono fun v' h'' hk hv' => ⟨[], by simp, rfl, t, a, b, hv, ht, hv'⟩
  · intro v h₁ h₂ tk₂ z3_ hk₁ sb₂ F₂
    obtain ⟨D, ys, r4_, hDn, hD, vs, e1, e2, h3⟩ := z3_
    try clear z3_
    obtain rfl := r4_
    have : vs = (ts.take hands).map fun q => Value.ref q.1 := items_eq e1 e2
    subst this
    (replace h3 := (filter_tt _) ▸ h3)
    have hi := taken_conv (fun q hq => hW.2 q (List.mem_of_mem_take hq)) h3
    have hj : (ts.take hands).map (·.2.2) = toI (W.take hands) := by
      (refine rwR List.map_take ?_; refine rwR (snd_jobs hts) ?_); unfold toI; (refine rwR List.map_take ?_; with_reducible rfl)
    (replace hi := hj ▸ hi)
    have kx₂ : Kx (OwnA (eL L)) h₁ h₂ := Kx.same sb₂ (own_cell (x := "taken") rfl)
    have Do : ¬ OwnA (eL L) D := Live.not F.live hDn
    exact k h₂ tk₂ D F₂ hDn ⟨ys, hD.at fun o e => kx₂ _ o Do e, hi⟩ ((Kx.of hk₁).trans' kx₂)
theorem lf_check {L Dt Dl aN : Addr} {m cm : Str → Option Value} {n : Nat} {nd : Nat → List Nat} {taken left : List Nat} (hA : Ok 5 A) (F : Fra (eL L) h m cm) (ct : cm "taken" = some (.ref Dt)) (hT : LI h Dt (toI taken)) (cl : cm "left" = some (.ref Dl)) (hL : LI h Dl (toI left)) (cn : cm "needs" = some (.ref aN)) (N : NdAt h aN n nd)
    (hn : n ≤ 8) (hnz : ∀ j, j < n → (nd j).length ≤ 100) (htn : ∀ j ∈ taken, j < n) (htz : taken.length ≤ 8) (hfree : ∀ j ∈ taken, ∀ a ∈ left, a ∉ nd j) :
    GB prog w A h (isTrue (cmpL (hrBody.getD 4 ps)) (eL L) (eval (cmpL (hrBody.getD 4 ps)) (eL L))) false := by
  obtain ⟨vs, hvs, hvi⟩ := hT
  try clear hT
  have hvl : vs.length = taken.length := by (refine rwR (IntsAre.len hvi) ?_; refine rwR (toI_len _) ?_; with_reducible rfl)
  obtain ⟨rs, hrl, hrs, hrow⟩ := N
  try clear N
  refine gb_nenil (by have := hA.un; unfold cLine; lia) (CompRun.gives (comp_two (n := (List.toArray vs).size) (B := 100) (P := fun i v => (List.toArray vs)[i]? = some v) (cl := [("needs", L + 1), ("left", L + 1 + 1 + 1)])
    (Rit' := fun v x h' => ∃ (j : Nat) (t : Tok) (r : Addr), v = .int j t ∧ j ∈ taken ∧ rs[j]? = some r ∧ x = .ref r)
    (fun v => match v with | .int j _ => if j.toNat < n then (nd j.toNat).length else 0 | _ => 0) (fun v i u => match v with | .int j _ => ∃ a ∈ nd j.toNat, ∃ t, u = .int (a : Nat) t | _ => False) (fun _ => true) (fun _ _ => false) (fun _ _ _ => True)
    rfl (fun _ _ => rfl) (by decide) rfl rfl (by decide) (by (refine rwR List.size_toArray ?_); (exact Nat.le_trans (Nat.le_of_eq (by assumption)) (Nat.le_trans (by assumption) (by decide)))) ?_ (by decide)
    (g_cell rfl rfl rfl (F.cellIs (x := "taken") rfl ct)) (fun x h1 hk hx => by subst hx; exact ⟨_, itr_list hA.hd (hvs.at fun o e => hk _ o e).isList⟩) ?_ ?_ ?_ ?_ ?_) rfl rfl (by decide) (fun _ => rfl)) ?_ ?_
  · intro v
    cases v <;> simp
    split
    · exact hnz _ (by assumption)
    · decide
  · intro C i v h' m' hk hP hm hv
    exact gives_tests_nil
  · intro C i v h' m' hk hP _ hm hv
    obtain ⟨j, t, ej⟩ := jobV hvi hP
    have hj := List.mem_of_getElem? ej
    have hjn := htn j hj
    obtain ⟨r, er⟩ : ∃ r, rs[j]? = some r := ⟨rs[j]'(by (exact Nat.lt_of_lt_of_le (by assumption) (Nat.le_of_eq (Eq.symm (by assumption))))), by simp⟩
    exact (g_needs (nd := nd) (n := n) (hrs.at fun o e => hk _ o e) er (by (with_reducible exact Nat.lt_of_lt_of_le (by assumption) (Nat.le_trans (by assumption) (by decide)))) (g_cell rfl rfl rfl ((F.cellIs (x := "needs") rfl cn).keeps hk)) (gv_int (g_local rfl rfl hm hv)) (fun _ _ => rfl)).mono fun v h'' _ hv => ⟨j, t, r, rfl, hj, er, hv⟩
  · intro i v xv h' hk hP z5_
    refine el3_4 z5_ fun j t r r6_ hj er r7_ => ?_
    try clear z5_
    obtain rfl := r6_
    obtain rfl := r7_
    obtain ⟨us, hus, hui⟩ := hrow j r er
    have hjn := htn j hj
    have hul : us.length = (nd j).length := by (refine rwR (IntsAre.len hui) ?_; refine rwR (toI_len _) ?_; with_reducible rfl)
    refine ⟨[r], ?_, ?_⟩
    · have I := itr_list (prog := prog) (w := w) (A := A) hA.hd (hus.at fun o e => hk _ o e).isList
      have e : (List.toArray us).size = (if (j : Int).toNat < n then (nd (j : Int).toNat).length else 0) := by
        have : (j : Int).toNat = j := by simp
        (refine rwR this ?_; refine rwR (if_pos hjn) ?_; refine rwR List.size_toArray ?_; refine rwR hul ?_; with_reducible rfl)
      (replace I := e ▸ I)
      refine I.mono fun i u hu => ?_
      obtain ⟨a, t', ea⟩ := jobV hui hu
      show ∃ a' ∈ nd (j : Int).toNat, ∃ t, Value.int (a : Int) t' = .int (a' : Nat) t
      exact ⟨a, by simpa using List.mem_of_getElem? ea, t', rfl⟩
    · intro b hb
      (refine rwR (List.mem_singleton.mp hb) ?_)
      refine el1_1 hus fun kk e => ?_
      try clear hus
      exact ⟨_, e⟩
  · intro C i v j u h' m' hk hP hP' hm hv hu
    obtain ⟨jb, t, ej⟩ := jobV hvi hP
    obtain ⟨a, ha, t', rfl⟩ : ∃ a ∈ nd (jb : Int).toNat, ∃ t, u = .int (a : Nat) t := hP'
    refine gives_tests_one ((gb_in (gv_int (g_local rfl rfl hm hu)) (g_cell rfl rfl rfl ((F.cellIs (x := "left") rfl cl).keeps hk)) (hL.keeps hk)).mono fun b _ _ hb => ?_)
    (refine rwR hb ?_)
    apply decide_eq_false
    intro hmem
    obtain ⟨a', ha', e⟩ : ∃ a' ∈ left, (a' : Int) = (a : Int) := by simpa [toI] using hmem
    have : a' = a := Int.ofNat.inj e
    subst this
    exact hfree jb (List.mem_of_getElem? ej) a' ha' (by simpa using ha)
  · intro C i v j u h' m' hk hP hP' hf
    cases hf
  · intro v a b hk z8_
    refine el2_4 z8_ fun D ys r9_ h1 h2 h3 => ?_
    try clear z8_
    obtain rfl := r9_
    exact ⟨D, ys, rfl, h1, h2.at fun o e => hk _ o e, h3⟩
  · intro v h' z10_
    obtain ⟨D, ys, r11_, h1, h2, vs', zss, r12_, _, _, h3⟩ := z10_
    try clear z10_
    obtain rfl := r11_
    obtain rfl := r12_
    have : zss.flatten = [] := by
      clear h2
      generalize (List.filter (fun _ => true) vs') = fl at h3
      induction h3 with
      | nil => rfl
      | cons x _ ih =>
        refine el1_3 x fun us _ _ x3 => ?_
        try clear x
        have : (us.filter fun _ => false) = [] := by simp
        (replace x3 := this ▸ x3)
        cases x3
        simpa using ih
    (replace h2 := this ▸ h2)
    exact ⟨D, [], rfl, ⟨[], h2, .nil⟩, rfl⟩
theorem lf_rest {L wl : Addr} {m cm : Str → Option Value} {hands : Nat} {th : Tok} {ts : List (Addr × Int × Int)} {Q : Flow → Shared → Prop} (hA : Ok 5 A) (F : Fra (eL L) s.heap m cm) (mw : m "waiting" = some (.ref wl)) (hW : WAt s.heap wl ts) (mh : m "hands" = some (.int hands th)) (h6 : ts.length ≤ 1000)
    (k : ∀ h' tk D, Fra (eL L) h' (upd m "waiting" (.ref D)) cm → s.heap.get? D = none → h'.PlainList D (List.toArray ((ts.drop hands).map fun q => Value.ref q.1)) → Kx (OwnA (eL L)) s.heap h' → Q .next { s with heap := h', toks := tk }) :
    wpAny (model prog w) A (exec (hrBody.getD 5 ps) (eL L)) Q E s := by
  have hpk : slicePick (List.toArray (ts.map fun q => Value.ref q.1)) (some (hands : Int)) none none = List.toArray ((ts.drop hands).map fun q => Value.ref q.1) := by (refine rwR (pick_from _ _) ?_; refine rwR List.map_drop ?_; with_reducible rfl)
  refine asg_local1 (h := s.heap) F rfl rfl (g_slice (items := ts.map fun q => Value.ref q.1) (lo := some (hands : Int)) (hi := none) (by (refine rwR (List.length_map _) ?_); (exact Nat.le_trans (by assumption) (by decide))) (g_local rfl rfl F.ns mw) hW.1 (part_int (gv_int (g_local rfl rfl F.ns mh))) (part_none rfl) (fun _ _ => rfl)) (Kp.refl _) rfl ?_
  intro D h₁ h₂ tk₂ z13_ hk₁ sb₂ F₂
  refine el0_2 z13_ fun hDn hD => ?_
  try clear z13_
  (replace hD := hpk ▸ hD)
  have kx₂ : Kx (OwnA (eL L)) h₁ h₂ := Kx.same sb₂ own_locals
  have Do : ¬ OwnA (eL L) D := Live.not F.live hDn
  exact k h₂ tk₂ D F₂ hDn (hD.at fun o e => kx₂ _ o Do e) ((Kx.of hk₁).trans' kx₂)
end
end Mine
end
section
open PySem PySem.Calls PySem.W PyProof.Rows
set_option maxRecDepth 100000
set_option genInjectivity false
set_option genSizeOf false
set_option genSizeOfSpec false
namespace Mine
noncomputable def elseBody (s : Stmt) : List Stmt := (stP s).2.1
section
variable {prog : Program} {w : World} {A : Around} {E : Value → Shared → Prop} {s : Shared} {h : Heap} {env : Env}
theorem g_lone {f : Value} {vs : List Value} {x : Sem Value} {Q : Args → Shared → Prop} (hz : vs.length ≤ 100000)
    (h : wpAny (model prog w) A x (fun v s₁ => ∃ l, v = .ref l ∧ s₁.heap.PlainList l (List.toArray vs) ∧ ∀ h', Kp s₁.heap h' → Q ⟨vs, []⟩ { s₁ with heap := h' }) E s) :
    wpAny (model prog w) A (evalArgs f true [(true, x)] []) Q E s := by
  unfold evalArgs
  refine wpAny_bind (wpAny_mono h (fun v s₁ h₁ => wpAny_bind (wpAny_pure ?_)) fun _ _ e => e)
  refine el1_3 h₁ fun l r1_ hl hr => ?_
  try clear h₁
  obtain rfl := r1_
  refine wpAny_holding ?_
  simp only [List.all_nil, if_true, List.map_nil, List.filterMap_nil]
  refine wpAny_bind (wpAny_of_eq (a := []) rfl ?_)
  refine wpAny_bind ?_
  refine wpAny_bind ?_
  unfold notIterableAtAll
  refine wpAny_bind ?_
  refine wpAny_specialOf hl.isList.typeIs slot_list_iter.lookup ?_
  refine wpAny_of_eq (a := false) rfl ?_
  (refine rwR (if_neg (by decide)) ?_)
  refine wpAny_holding ?_
  refine el1_1 hl fun kv ev => ?_
  try clear hl
  refine wpAny_collect_seq l (T := "list") (.inl rfl) ev rfl rfl (fun h' hk => ?_) (by (refine rwR List.size_toArray ?_; refine rwR sizeLine_eq ?_); (exact Nat.le_trans (by assumption) (by decide)))
  exact wpAny_pure (by simpa using hr h' hk)
theorem lf_dones {S : Sor} {L r Dt : Addr} {rl l0 js : List Nat} {np : Nat → Int} {pas fin : Int} {m cm : Str → Option Value} {Q : Flow → Shared → Prop} (hA : Ok 25 A) (F : Fra (eL L) s.heap m cm) (Z : Fz S.fp (Sta w) s.heap) (hr : S.rdy = some (r, l0)) (R : SorAt prog w s.heap (hS S np r rl pas fin))
    (hap : ∀ b, OwnA (eL L) b → ¬ S.fp b) (ms : m "sorter" = some (.ref S.a)) (ct : cm "taken" = some (.ref Dt)) (hT : LI s.heap Dt (toI js))
    (hjs : ∀ j ∈ js, j ∈ S.keys) (hsu : ∀ j ∈ js, ∀ b ∈ S.su j, b ∈ S.keys) (hout : ∀ (i j : Nat), js[i]? = some j → ((js.take i).foldl (doneS S.su) (np, rl)).1 j = -1) (hz : ∀ i, ((js.take i).foldl (doneS S.su) (np, rl)).2.length ≤ 5000) (hzs : ∀ j ∈ js, (S.su j).length ≤ 5000) (hzj : js.length ≤ 1000)
    (k : ∀ h' tk, Fra (eL L) h' m cm → SorAt prog w h' (hS S (js.foldl (doneS S.su) (np, rl)).1 r (js.foldl (doneS S.su) (np, rl)).2 pas (fin + js.length)) → Kx S.fp s.heap h' → Q .next { s with heap := h', toks := tk }) :
    wpAny (model prog w) A (exec ((ifBody (hrBody.getD 6 ps)).getD 0 ps) (eL L)) Q E s := by
  obtain ⟨vs, hvs, hvi⟩ := hT
  try clear hT
  have hvl : vs.length = js.length := by (refine rwR (IntsAre.len hvi) ?_; refine rwR (toI_len _) ?_; with_reducible rfl)
  refine el2_1 (fn_done w) fun d sl hfo => ?_
  have fpi : ∀ b, (hS S np r rl pas fin).fp b ↔ S.fp b := fp_h hr
  refine wpAny_Expr_any (meth_star (S := hS S np r rl pas fin) (RA := fun vals _ => vals = vs) Z.now R (g_local rfl rfl F.ns ms) (k_done w) hfo rfl (by simp) (by decide) (ty_fn w 120 (by simp)) sh_done ?_ ?_)
  · intro q h1 t1 Q' hk1 hq
    refine g_lone (vs := vs) (by (exact Nat.le_trans (Nat.le_of_eq (by assumption)) (Nat.le_trans (by assumption) (by decide)))) ?_
    refine wpAny_bind ((g_cell (prog := prog) (w := w) (h := h1) rfl rfl rfl ((F.cellIs (x := "taken") rfl ct).keeps hk1)).useV (Kp.refl _) fun h2 t2 hk2 => ?_)
    refine wpAny_bind (wpAny_standAt (wpAny_pure ⟨Dt, rfl, hvs.at fun o e => hk2 _ o (hk1 _ o e), fun h' hk' => ?_⟩))
    exact hq vs h' t2 (hk2.trans hk') rfl
  · rintro vals h2 t2 hk2 rfl
    refine call_done_code (s := { s with heap := h2, toks := t2 }) (S := hS S np r rl pas fin) (r := r) (l := rl) (js := js) (hA.mono (by decide)) ((Z.mono fun b hb => (fpi b).mp hb).step' (Kx.of hk2)) (R.keeps hk2) rfl hvi hjs hsu hout hz hzs hzj ?_
    intro h' tk R' kx
    have kx : Kx S.fp s.heap h' := fun b o hb e => kx b o (fun q => hb ((fpi b).mp q)) (hk2 _ _ e)
    exact k h' tk (F.kx kx hap) R' kx
theorem lf_doneloop {S : Sor} {L r Dt : Addr} {rl l0 js : List Nat} {np : Nat → Int} {pas fin : Int} {m cm : Str → Option Value} {Q : Flow → Shared → Prop} {Fr : Addr → Prop} (hA : Ok 25 A) (F : Fra (eL L) s.heap m cm) (lv : Live Fr s.heap) (hFr : ∀ b, Or2 (OwnA (eL L)) S.fp b → Fr b) (Z : Fz Fr (Sta w) s.heap) (hr : S.rdy = some (r, l0)) (R : SorAt prog w s.heap (hS S np r rl pas fin))
    (hap : ∀ b, OwnA (eL L) b → ¬ S.fp b) (ms : m "sorter" = some (.ref S.a)) (ct : cm "taken" = some (.ref Dt)) (hT : LI s.heap Dt (toI js)) (hDF : ¬ Fr Dt)
    (hjs : ∀ j ∈ js, j ∈ S.keys) (hsu : ∀ j ∈ js, ∀ b ∈ S.su j, b ∈ S.keys) (hout : ∀ (i j : Nat), js[i]? = some j → ((js.take i).foldl (doneS S.su) (np, rl)).1 j = -1) (hz : ∀ i, ((js.take i).foldl (doneS S.su) (np, rl)).2.length ≤ 5000) (hzs : ∀ j ∈ js, (S.su j).length ≤ 5000)
    (k : ∀ h' tk m', Fra (eL L) h' m' cm → (∀ x : Str, x ≠ "job" → m' x = m x) → SorAt prog w h' (hS S (js.foldl (doneS S.su) (np, rl)).1 r (js.foldl (doneS S.su) (np, rl)).2 pas (fin + js.length)) → Kx (Or2 (OwnA (eL L)) S.fp) s.heap h' → Q .next { s with heap := h', toks := tk }) :
    wpAny (model prog w) A (exec ((elseBody (hrBody.getD 6 ps)).getD 0 ps) (eL L)) Q E s := by
  obtain ⟨vs, hvs, hvi⟩ := id hT
  have hvl : vs.length = js.length := by (refine rwR (IntsAre.len hvi) ?_; refine rwR (toI_len _) ?_; with_reducible rfl)
  have fpi : ∀ {np rl pas fin} b, (hS S np r rl pas fin).fp b ↔ S.fp b := fun b => fp_h hr b
  have lvM : ∀ {h : Heap} {m' : Str → Option Value} {np rl pas fin}, Fra (eL L) h m' cm → SorAt prog w h (hS S np r rl pas fin) → Live (Or2 (OwnA (eL L)) S.fp) h := fun F R => F.live.or (R.live.mono fun b hb => (fpi b).mpr hb)
  refine for_fz (σ := (Str → Option Value)) (n := (List.toArray vs).size) (P := fun i v => (List.toArray vs)[i]? = some v) (src := [Dt]) (fun _ => Or2 (OwnA (eL L)) S.fp)
    (fun i y h => Fra (eL L) h y cm ∧ (∀ x : Str, x ≠ "job" → y x = m x) ∧ SorAt prog w h (hS S ((js.take i).foldl (doneS S.su) (np, rl)).1 r ((js.take i).foldl (doneS S.su) (np, rl)).2 pas (fin + i)))
    (fun i y h => Sta w h) Fr m
    (g_cell rfl rfl rfl (F.cellIs (x := "taken") rfl ct)) (fun xv h1 hk hx => by subst hx; exact itr_list hA.hd (hvs.at fun o e => hk _ o e).isList) (fun _ => rfl) (by simpa using hDF) lv hFr ?_ ⟨F, fun _ _ => rfl, by simpa using R⟩ Z ?_ ?_
  · intro i y h h' z2_ hk
    refine el0_3 z2_ fun h1 h2 h3 => ?_
    try clear z2_
    exact ⟨h1.frame fun b o hb e => hk b o (.inl hb) e, h2, h3.frame fun b o hb e => hk b o (.inr ((fpi b).mp hb)) e⟩
  · intro i m₁ Fr' v h tk E' Q' hi hP z3_ Z₁ lv₁ hMF hFF hK hFd q
    refine el0_3 z3_ fun F₁ hm R₁ => ?_
    try clear z3_
    obtain ⟨j, t, ej⟩ := jobV hvi hP
    have hj := List.mem_of_getElem? ej
    have et : js.take (i + 1) = js.take i ++ [j] := by (refine rwR List.take_succ ?_; refine rwR ej ?_); rfl
    refine wpAny_assign_Name (fra_local F₁ rfl rfl fun h₂ tk₂ F₂ sb₂ => ?_)
    have kx₂ : Kx (OwnA (eL L)) h h₂ := Kx.same sb₂ own_locals
    have Z₂ := Z₁.step' ((kx₂.mono fun b => .inl).mono hMF)
    have R₂ := R₁.frame (h' := h₂) fun b o hb e => kx₂ b o (fun q => hap b q ((fpi b).mp hb)) e
    have h0 := hout i j ej
    have h1 := hz i
    refine wpAny_execs_cons (wpAny_Expr_any (meth_call1 (s := { s with heap := h₂, toks := tk₂ }) (S := hS S ((js.take i).foldl (doneS S.su) (np, rl)).1 r ((js.take i).foldl (doneS S.su) (np, rl)).2 pas (fin + i)) Z₂.now R₂ (g_local rfl rfl F₂.ns (by (refine rwR (upd_ne (by decide)) ?_; refine rwR (hm _ (by decide)) ?_); exact ms)) (k_done w) (ty_fn w 120 (by simp)) (k_keepf w 120 (by simp)) sh_done (g_local rfl rfl F₂.ns upd_eq) ?_))
    rintro v h₃ tk₃ hk₃ rfl
    have hk₃ : Kp h₂ h₃ := hk₃
    refine wpAny_call ?_
    refine call_done_code (s := { s with heap := h₃, toks := tk₃ }) (S := hS S ((js.take i).foldl (doneS S.su) (np, rl)).1 r ((js.take i).foldl (doneS S.su) (np, rl)).2 pas (fin + i)) (r := r) (l := ((js.take i).foldl (doneS S.su) (np, rl)).2) (js := [j]) (vs := [.int j t]) (hA.mono (by decide))
      ((Z₂.mono fun b hb => hMF b (.inr ((fpi b).mp hb))).step' (Kx.of hk₃)) (R₂.keeps hk₃) rfl (.cons _ _ .nil) (by simpa using hjs j hj) (by simpa using hsu j hj) ?_ ?_ (by simpa using hzs j hj) (by simp) ?_
    · intro i' j' e'
      cases i' with
      | zero => simp at e'; subst e'; exact h0
      | succ i' => simp at e'
    · intro i'
      cases i' with
      | zero => exact h1
      | succ i' =>
        have h2 := hz (i + 1)
        (replace h2 := et ▸ h2; replace h2 := List.foldl_append ▸ h2)
        simpa using h2
    · intro h' tk' R' kx'
      refine wpAny_execs_nil ?_
      have kx' : Kx S.fp h₂ h' := fun b o hb e => kx' b o (fun q => hb ((fpi b).mp q)) (hk₃ _ _ e)
      have kx : Kx (Or2 (OwnA (eL L)) S.fp) h h' := (kx₂.mono fun b => .inl).trans' (kx'.mono fun b => .inr)
      have F' : Fra (eL L) h' (upd m₁ "job" (.int j t)) cm := F₂.kx kx' hap
      have R'' : SorAt prog w h' (hS S ((js.take (i + 1)).foldl (doneS S.su) (np, rl)).1 r ((js.take (i + 1)).foldl (doneS S.su) (np, rl)).2 pas (fin + ((i + 1 : Nat) : Int))) := by
        (refine rwR et ?_; refine rwR List.foldl_append ?_)
        have e : fin + ((i + 1 : Nat) : Int) = fin + i + (([j] : List Nat).length : Int) := by simp; lia
        (refine rwR e ?_)
        exact R'
      refine q .next (upd m₁ "job" (.int j t)) h' tk' (.inl rfl) ⟨F', fun x hx => (upd_ne hx).trans (hm x hx), R''⟩ kx (fun _ => id) (fun _ => .inl) (lvM F' R'') ?_
      exact (Z₁.step' (kx.mono hMF)).mono fun b hb => hb.elim id (hMF b)
  · intro m₁ h' tk z4_ Z₁ lv₁ hK _
    refine el0_3 z4_ fun F₁ hm R₁ => ?_
    try clear z4_
    have e : js.take (List.toArray vs).size = js := List.take_of_length_le (by (refine rwR List.size_toArray ?_; refine rwR hvl ?_); exact Nat.le_refl _)
    (replace R₁ := e ▸ R₁)
    have e2 : (((List.toArray vs).size : Nat) : Int) = (js.length : Int) := by (refine rwR List.size_toArray ?_; refine rwR hvl ?_; with_reducible rfl)
    (replace R₁ := e2 ▸ R₁)
    exact k h' tk m₁ F₁ hm R₁ hK
end
end Mine
end
section
open PySem PySem.Calls PySem.W PyProof.Rows
set_option maxRecDepth 100000
set_option genInjectivity false
set_option genSizeOf false
set_option genSizeOfSpec false
namespace Mine
theorem toI_filter (l t : List Nat) : (toI l).filter (fun i => !decide (i ∈ toI t)) = toI (l.filter fun j => !t.contains j) := by
  unfold toI
  (refine rwR List.filter_map ?_)
  congr 1
  apply List.filter_congr
  intro j _
  (refine rwR (propext Bool.eq_iff_iff) ?_)
  simp
  constructor
  · intro h hj; exact h j hj rfl
  · intro h x hx e; exact h (by have : x = j := Int.ofNat.inj e; exact this ▸ hx)
section
variable {prog : Program} {w : World} {A : Around} {E : Value → Shared → Prop} {s : Shared} {h : Heap} {env : Env}
theorem lf_left {L Dl Dt : Addr} {m cm : Str → Option Value} {left taken : List Nat} {Q : Flow → Shared → Prop} (hA : Ok 5 A) (F : Fra (eL L) s.heap m cm) (cl : cm "left" = some (.ref Dl)) (hL : LI s.heap Dl (toI left)) (ct : cm "taken" = some (.ref Dt)) (hT : LI s.heap Dt (toI taken)) (hz : left.length ≤ 1000)
    (k : ∀ h' tk D, Fra (eL L) h' m (upd cm "left" (.ref D)) → s.heap.get? D = none → LI h' D (toI (left.filter fun j => !taken.contains j)) → Kx (OwnA (eL L)) s.heap h' → Q .next { s with heap := h', toks := tk }) :
    wpAny (model prog w) A (exec (hrBody.getD 7 ps) (eL L)) Q E s := by
  obtain ⟨vs, hvs, hvi⟩ := hL
  try clear hL
  have hvl : vs.length = left.length := by (refine rwR (IntsAre.len hvi) ?_; refine rwR (toI_len _) ?_; with_reducible rfl)
  refine asg_cell (c := L + 1 + 1 + 1) (h := s.heap) F rfl rfl rfl (CompRun.gives (comp_local (n := (List.toArray vs).size) (P := fun i v => (List.toArray vs)[i]? = some v) (cl := [("taken", L + 1 + 1 + 1 + 1)]) rfl (by decide) rfl (by (refine rwR List.size_toArray ?_); (exact Nat.le_trans (Nat.le_of_eq (by assumption)) (Nat.le_trans (by assumption) (by decide))))
    (g_cell rfl rfl rfl (F.cellIs (x := "left") rfl cl)) (fun x h1 hk hx => by subst hx; exact ⟨_, itr_list hA.hd (hvs.at fun o e => hk _ o e).isList⟩)
    (fun v => match v with | .int i _ => !decide (i ∈ toI taken) | _ => false) (fun v y as => as = [] ∧ y = v) ?_ ?_) rfl rfl (by decide) (fun _ => rfl)) (Kp.refl _) rfl ?_
  · intro C i v h' m' hk hP hm hv
    refine el2_2 (IntsAre.get' hvi (by simpa using hP)) fun kk t ek r1_ => ?_
    obtain rfl := r1_
    refine gives_tests_one ((gb_notin (gv_int (g_local rfl rfl hm hv)) (g_cell rfl rfl rfl ((F.cellIs (x := "taken") rfl ct).keeps hk)) (hT.keeps hk)).mono fun b _ _ hb => hb)
  · intro C i v h' m' hk hP hp hm hv
    exact (g_local rfl rfl hm hv).mono fun v h'' hk hv => ⟨[], by simp, rfl, hv⟩
  · intro v h₁ h₂ tk₂ z2_ hk₁ sb₂ F₂
    refine el2_4 z2_ fun D ys r3_ hDn hD h3 => ?_
    try clear z2_
    obtain rfl := r3_
    have x := h3.ints (ns := toI left) (q := fun i => !decide (i ∈ toI taken)) (f := id) (fun us h1 h2 => ints_of_items hvi h1 h2) (fun i t _ => rfl) (fun i t y as _ hf => ⟨t, hf.2⟩)
    (replace x := (List.map_id _) ▸ x; replace x := (toI_filter _ _) ▸ x)
    have kx₂ : Kx (OwnA (eL L)) h₁ h₂ := Kx.same sb₂ (own_cell (x := "left") rfl)
    have Do : ¬ OwnA (eL L) D := Live.not F.live hDn
    exact k h₂ tk₂ D F₂ hDn ⟨ys, hD.at fun o e => kx₂ _ o Do e, x⟩ ((Kx.of hk₁).trans' kx₂)
theorem lf_append {L lf D : Addr} {m cm : Str → Option Value} {xs : List Value} {Q : Flow → Shared → Prop} (F : Fra (eL L) s.heap m cm) (ml : m "lefts" = some (.ref lf)) (cl : cm "left" = some (.ref D)) (hl : s.heap.PlainList lf (List.toArray xs)) (hz : xs.length ≤ 1000)
    (k : ∀ h' tk, h'.PlainList lf (List.toArray (xs ++ [.ref D])) → Kx (· = lf) s.heap h' → Q .next { s with heap := h', toks := tk }) :
    wpAny (model prog w) A (exec (hrBody.getD 8 ps) (eL L)) Q E s := by
  refine wpAny_Expr_any (wpAny_Call_append rfl rfl rfl rfl ?_)
  refine (g_local (prog := prog) (w := w) (A := A) (h := s.heap) rfl rfl F.ns ml).useV (Kp.refl _) fun h₁ tk₁ hk₁ => ?_
  have hl₁ : h₁.PlainList lf (List.toArray xs) := hl.at fun o e => hk₁ _ o e
  refine ⟨lf, List.toArray xs, rfl, ?_, ?_⟩
  · refine el1_1 hl₁ fun kf ef => ?_
    try clear hl₁
    exact ⟨_, kf, ef, rfl, rfl, rfl⟩
  refine (g_cell (prog := prog) (w := w) (A := A) (h := h₁) rfl rfl rfl ((F.keeps hk₁).cellIs (x := "left") rfl cl)).useV (Kp.refl _) fun h₂ tk₂ hk₂ => ?_
  refine list_append_gives (hl₁.at fun o e => hk₂ _ o e) (by (exact Nat.le_trans (by assumption) (by decide))) fun h₃ hl₃ sb₃ => ?_
  exact k h₃ tk₂ hl₃ ((Kx.of (hk₁.trans hk₂)).trans' (Kx.same sb₃ rfl))
theorem g_meth0 {o : Expr} {name : Str} {apos pos : Pos} {S : Sor} {f : Addr} {pl : Sem Bool} {R1 : Value → Heap → Prop} (S₀ : Sta w h) (R : SorAt prog w h S) (x : GV prog w A h (eval o env) (.ref S.a))
    (hf : findIn (K w) (.ref 137) name = some (some (.ref f))) (ht : typeIn (K w) (.ref f) = some (.type "function")) (hk : keepIn (K w) (.ref f) = true) (hsh : ∀ es, Ents S.nd S.rv S.pas S.fin es → getL name es = some none)
    (c : ∀ h', Kp h h' → Gives prog w A h' (call (.ref f) [.ref S.a]) R1)
    (he : eval (.Call (.Attribute o name apos) [] [] pos) env = (do
      let ov ← eval o env
      standAt apos.atName
      let (f, first) ← holding [ov] (getMethod ov name pl)
      callWith pos f first (backTo pos (starEach [] env)) (backToKw pos (keywordEach [] env))) := by rfl) :
    Gives prog w A h (eval (.Call (.Attribute o name apos) [] [] pos) env) R1 := fun s E hs =>
  meth_call0 (pl := pl) (s := s) (S := S) (S₀.keeps hs) (R.keeps hs) (x.up hs) hf ht hk hsh (fun h' tk hk' => (c h' (hs.trans hk')).use (Kp.refl _) fun v h'' tk' hk'' hv => ⟨hv, h'', tk', rfl, hk'.trans hk''⟩) he
theorem gv_nenil {l : Expr} {p pos : Pos} {D : Addr} {ns : List Int} (hu : A.units + 64 < cLine) (x : GV prog w A h (eval l env) (.ref D)) (hD : LI h D ns) (hm : behindInMarks .NotEq (.List [] p) = false := by with_unfolding_all rfl) :
    GV prog w A h (eval (.Compare l [.NotEq] [.List [] p] pos) env) (.bool (!decide (ns = []))) :=
  g_cmp x g_list0 (fun _ _ _ _ e => e) (fun a b' h' hk ha hb => by
    subst ha
    obtain ⟨vs, hl, hi⟩ := hD
    try clear hD
    refine el1_3 hb fun D2 r4_ _ hD2 => ?_
    try clear hb
    obtain rfl := r4_
    intro s E hs
    exact ne_intsK ((hl.at fun o e => hs _ o (hk _ o e)).isList) hi (vs := vs) (us := []) (ms := []) ((hD2.at fun o e => hs _ o e).isList) .nil hu ⟨rfl, keeps_refl s⟩) hm
theorem lf_active {T : Sor} {L r D : Addr} {l left : List Nat} {m cm : Str → Option Value} (hA : Ok 25 A) (S₀ : Sta w h) (F : Fra (eL L) h m cm) (R : SorAt prog w h T) (hr : T.rdy = some (r, l)) (hz : l.length ≤ 1000) (ms : m "sorter" = some (.ref T.a)) (cl : cm "left" = some (.ref D)) (hL : LI h D (toI left))
    (hac : (decide (T.fin < T.pas) || !l.isEmpty) = !decide (left = [])) :
    GB prog w A h (isTrue (cmpL (hrBody.getD 9 ps)) (eL L) (eval (cmpL (hrBody.getD 9 ps)) (eL L))) false := by
  refine g_test (R1 := fun v _ => v = .bool (!decide (left = []))) (R2 := fun v _ => v = .bool (!decide (left = []))) (g_meth0 (S := T) S₀ R (g_local rfl rfl F.ns ms) (k_active w) (ty_fn w 106 (by simp)) (k_keepf w 106 (by simp)) sh_active fun h' hk => ?_) ?_ (fun _ _ _ _ e => e) fun a b h' hk ha hb => ?_
  · (refine rwL hac ?_)
    exact call_active (hA.mono (by decide)) (S₀.keeps hk) (R.keeps hk) hr hz
  · have e : (!decide (left = [])) = !decide (toI left = []) := by cases left <;> simp [toI]
    (refine rwR e ?_)
    exact gv_nenil (by have := hA.un; unfold cLine; lia) (g_cell rfl rfl rfl (F.cellIs (x := "left") rfl cl)) hL
  · subst ha hb
    exact fun s' E' hs' => wpAny_isNot_self rfl ⟨rfl, keeps_refl s'⟩
end
end Mine
end
section
open PySem PySem.Calls PySem.W PyProof.Rows
set_option maxRecDepth 100000
set_option genInjectivity false
set_option genSizeOf false
set_option genSizeOfSpec false
namespace Mine
section
variable {prog : Program} {w : World} {A : Around} {E : Value → Shared → Prop} {s : Shared} {h : Heap} {env : Env}
noncomputable def Mo (L : Addr) (S : Sor) (lf : Addr) (b : Addr) : Prop := OwnA (eL L) b ∨ S.fp b ∨ b = lf
theorem lf_hour {L r lf aN aF D wl : Addr} {S : Sor} {l0 : List Nat} {m cm : Str → Option Value} {n hands hour : Nat} {th to : Tok} {nd : Nat → List Nat} {rk : Nat → Nat} {ah : Nat → Nat → Bool} {fol : List Int} {np : Nat → Int} {rl left W : List Nat} {pas fin : Int} {ts : List (Addr × Int × Int)} {xs : List Value} {Fr : Addr → Prop} {Q : Flow → Shared → Prop}
    (hA : Ok 30 A) (hn : n ≤ 6) (hh1 : 1 ≤ hands) (hnd : ∀ a b, a < n → b < n → (a ∈ nd b ↔ ah a b = true)) (hnz : ∀ j, j < n → (nd j).length ≤ 100 ∧ ∀ a ∈ nd j, a < n) (hrk : ∀ b, b < n → ∀ a ∈ nd b, rk a < rk b) (hfol : ∀ j, j < n → fol[j]? = some (cnt n (ah j) : Int))
    (hr : S.rdy = some (r, l0)) (sk : ∀ j, j ∈ S.keys ↔ j < n) (ssu : ∀ a b, b < n → (S.su a).count b = (nd b).count a) (ssn : ∀ a, ∀ b ∈ S.su a, b < n) (ssl : ∀ a, (S.su a).length ≤ 2000)
    (hap : ∀ b, OwnA (eL L) b → ¬ S.fp b) (lfo : ¬ OwnA (eL L) lf) (lfs : ¬ S.fp lf)
    (lv : Live Fr s.heap) (hFr : ∀ b, Mo L S lf b → Fr b) (Z : Fz Fr (fun h => Sta w h ∧ NdAt h aN n nd ∧ LI h aF fol) s.heap) (ZL : LI s.heap D (toI left)) (hDF : ¬ Fr D) (ZW : WAt s.heap wl ts) (hwF : ¬ Fr wl) (htF : ∀ q ∈ ts, ¬ Fr q.1)
    (F : Fra (eL L) s.heap m cm) (ms : m "sorter" = some (.ref S.a)) (mh : m "hands" = some (.int hands th)) (ml : m "lefts" = some (.ref lf)) (mw : m "waiting" = some (.ref wl)) (mo : m "hour" = some (.int hour to)) (cn : cm "needs" = some (.ref aN)) (cf : cm "followers" = some (.ref aF)) (cl : cm "left" = some (.ref D))
    (R : SorAt prog w s.heap (hS S np r rl pas fin)) (J : JI n nd left W np rl) (hpas : pas = fin + W.length) (hts : ts.map (·.2) = W.map (keyOf fun j => (cnt n (ah j) : Int))) (hl : s.heap.PlainList lf (List.toArray xs)) (hxz : xs.length ≤ 1000) (hne : left ≠ [])
    (k : ∀ h' tk m' cm' np' rl' pas' fin' W' (ts' : List (Addr × Int × Int)) D' wl' taken, Fra (eL L) h' m' cm' → (∀ x : Str, x ≠ "given" → x ≠ "waiting" → x ≠ "job" → m' x = m x) → m' "waiting" = some (.ref wl') → (∀ x : Str, x ≠ "left" → x ≠ "taken" → cm' x = cm x) → cm' "left" = some (.ref D') →
      SorAt prog w h' (hS S np' r rl' pas' fin') → JI n nd (left.filter fun j => !taken.contains j) W' np' rl' → pas' = fin' + W'.length → ts'.map (·.2) = W'.map (keyOf fun j => (cnt n (ah j) : Int)) → h'.PlainList lf (List.toArray (xs ++ [.ref D'])) → Kx (Mo L S lf) s.heap h' →
      LI h' D' (toI (left.filter fun j => !taken.contains j)) → s.heap.get? D' = none → WAt h' wl' ts' → s.heap.get? wl' = none → (∀ q ∈ ts', q ∈ ts ∨ s.heap.get? q.1 = none) → Taken n hands ah left taken → (left.filter fun j => !taken.contains j).length < left.length → Q .next { s with heap := h', toks := tk }) :
    wpAny (model prog w) A (execs hrBody (eL L)) Q E s := by
  have fpi : ∀ {np rl pas fin} b, (hS S np r rl pas fin).fp b ↔ S.fp b := fun b => fp_h hr b
  have hapT : ∀ {np rl pas fin} b, OwnA (eL L) b → ¬ (hS S np r rl pas fin).fp b := fun b hb q => hap b hb ((fpi b).mp q)
  have moO : ∀ b, OwnA (eL L) b → Mo L S lf b := fun b => .inl
  have moS : ∀ b, S.fp b → Mo L S lf b := fun b hb => .inr (.inl hb)
  have moT : ∀ {np rl pas fin} b, (hS S np r rl pas fin).fp b → Mo L S lf b := fun b hb => moS b ((fpi b).mp hb)
  have lvM : ∀ {h : Heap} {m' cm' : Str → Option Value} {np rl pas fin} {xs : List Value}, Fra (eL L) h m' cm' → SorAt prog w h (hS S np r rl pas fin) → h.PlainList lf (List.toArray xs) → Live (Mo L S lf) h := fun F R hl b hb => by
    (refine Or.elim hb (fun q => ?_) fun zo0 => Or.elim zo0 (fun q => ?_) fun q => ?_) <;> clear hb
    · exact F.live b q
    · exact R.live b ((fpi b).mpr q)
    · (refine rwR q ?_); obtain ⟨kk, e⟩ := hl; exact ⟨_, e⟩
  have notFr : ∀ {b : Addr}, s.heap.get? b = none → ¬ Fr b := fun hb => Live.not lv hb
  have lastF : ∀ {h' : Heap}, Kx (Mo L S lf) s.heap h' → Sta w h' ∧ NdAt h' aN n nd ∧ LI h' aF fol := fun kx => Z _ (kx.mono hFr)
  have JL : rl.length ≤ n := J.rlen
  show wpAny _ _ (execs [hrBody.getD 0 ps, hrBody.getD 1 ps, hrBody.getD 2 ps, hrBody.getD 3 ps, hrBody.getD 4 ps, hrBody.getD 5 ps, hrBody.getD 6 ps, hrBody.getD 7 ps, hrBody.getD 8 ps, hrBody.getD 9 ps] (eL L)) _ _ _
  refine wpAny_execs_cons (lf_ready (T := hS S np r rl pas fin) (hA.mono (by decide)) F (Z.left.mono fun b hb => hFr b (moT b hb)) R rfl (fun j hj => (sk j).mpr (J.lt (J.mem.mp hj).1)) (by lia) hapT ms ?_)
  intro h₁ tk₁ tp vs F₁ R₁ kq₁ tpn htp hvs
  have R₁ : SorAt prog w h₁ (hS S (rl.foldl (fun np j => fup np j (-1)) np) r [] (pas + rl.length) fin) := R₁
  have J₁ := J.ready
  generalize (rl.foldl (fun np j => fup np j (-1)) np) = np₁ at R₁ J₁
  have kx₁ : Kx (Mo L S lf) s.heap h₁ := kq₁.mono fun b hb => hb.elim (moO b) (moT b)
  have hl₁ : h₁.PlainList lf (List.toArray xs) := hl.at fun o e => kq₁ _ o (fun q => q.elim lfo fun q => lfs ((fpi _).mp q)) e
  have ms₁ : upd m "given" (.ref tp) "sorter" = some (.ref S.a) := (upd_ne (by decide)).trans ms
  have tpF := notFr tpn
  refine wpAny_execs_cons (lf_again (s := { s with heap := h₁, toks := tk₁ }) (T := hS S np₁ r [] (pas + rl.length) fin) (hA.mono (by decide)) F₁ ((Z.step' (kx₁.mono hFr)).left.mono fun b hb => hFr b (moT b hb)) R₁ rfl hapT ms₁ upd_eq htp ?_)
  intro h₂ tk₂ F₂ R₂ kq₂
  have kq₂ : Kx (hS S np₁ r [] (pas + rl.length) fin).fp h₁ h₂ := kq₂
  have kx₂ : Kx (Mo L S lf) s.heap h₂ := kx₁.trans' (kq₂.mono fun b hb => moT b hb)
  have hl₂ : h₂.PlainList lf (List.toArray xs) := hl₁.at fun o e => kq₂ _ o (fun q => lfs ((fpi _).mp q)) e
  have htp₂ : IsTup h₂ tp (List.toArray vs) := by obtain ⟨o, e, rr⟩ := htp; exact ⟨o, kq₂ _ o (fun q => tpF (hFr _ (moT _ q))) e, rr⟩
  refine el0_3 (lastF kx₂) fun S₂ N₂ LF₂ => ?_
  have ZW₂ : WAt h₂ wl ts := ZW.frame (kx₂.mono hFr) hwF htF
  have wrl : (W ++ rl).length ≤ n := nodup_len J₁.wn fun j hj => J.lt (J₁.wl j hj)
  have wsum : W.length + rl.length ≤ n := by (replace wrl := List.length_append ▸ wrl); exact wrl
  refine wpAny_execs_cons (lf_sort (s := { s with heap := h₂, toks := tk₂ }) (rl := rl) (W := W) (fo := fun j => (cnt n (ah j) : Int)) (ts := ts) (hA.mono (by decide)) S₂ F₂ upd_eq htp₂ hvs cf LF₂ (fun j hj => by
    have := J.lt (J.mem.mp hj).1
    exact ⟨by (with_reducible exact Nat.lt_of_lt_of_le (by assumption) (Nat.le_trans (by assumption) (by decide))), hfol j this⟩) ((upd_ne (by decide)).trans mw) ZW₂ hts (fun q hq ho => htF q hq (hFr _ (moO _ ho))) J₁.wn (by (exact Nat.le_trans (by assumption) (by assumption))) ?_)
  intro h₃ tk₃ D₃ ts₃ W₃ F₃ D₃n hW₃ hts₃ W₃n W₃m W₃s hts₃' kq₃
  have kq₃ : Kx (OwnA (eL L)) h₂ h₃ := kq₃
  have D₃n : h₂.get? D₃ = none := D₃n
  have hts₃' : ∀ q ∈ ts₃, q ∈ ts ∨ h₂.get? q.1 = none := hts₃'
  have J₃ : JI n nd left W₃ np₁ [] := J₁.perm W₃n W₃m
  have lvM₂ := lvM F₂ R₂ hl₂
  have new₂ : ∀ b, h₂.get? b = none → s.heap.get? b = none := fun b hb => (dead_back kx₂ hb).resolve_left (Live.not lvM₂ hb)
  have kx₃ : Kx (Mo L S lf) s.heap h₃ := kx₂.trans' (kq₃.mono moO)
  have hl₃ : h₃.PlainList lf (List.toArray xs) := hl₂.at fun o e => kq₃ _ o lfo e
  have R₃ : SorAt prog w h₃ (hS S np₁ r [] (pas + rl.length) fin) := R₂.frame fun b o hb e => kq₃ b o (fun q => hapT b q hb) e
  have m₃h : upd (upd m "given" (.ref tp)) "waiting" (.ref D₃) "hands" = some (.int hands th) := (upd_ne (by decide)).trans ((upd_ne (by decide)).trans mh)
  have len₃ : W₃.length = W.length + rl.length := by
    have h1 : W₃.length ≤ (W ++ rl).length := by
      have := List.Nodup.length_le_of_subset W₃n (l₂ := W ++ rl) fun j hj => (W₃m j).mp hj
      exact this
    have h2 : (W ++ rl).length ≤ W₃.length := List.Nodup.length_le_of_subset J₁.wn fun j hj => (W₃m j).mpr hj
    rw [List.length_append] at h1 h2; lia
  have D₃F := notFr (new₂ _ D₃n)
  have ts₃F : ∀ q ∈ ts₃, ¬ Fr q.1 := fun q hq => (hts₃' q hq).elim (htF q) fun z => notFr (new₂ _ z)
  refine wpAny_execs_cons (lf_taken (s := { s with heap := h₃, toks := tk₃ }) (W := W₃) (fo := fun j => (cnt n (ah j) : Int)) (hA.mono (by decide)) F₃ upd_eq hW₃ hts₃ m₃h (by lia) ?_)
  intro h₄ tk₄ Dt F₄ Dtn hT₄ kq₄
  have kq₄ : Kx (OwnA (eL L)) h₃ h₄ := kq₄
  have Dtn : h₃.get? Dt = none := Dtn
  have lvM₃ := lvM F₃ R₃ hl₃
  have new₃ : ∀ b, h₃.get? b = none → s.heap.get? b = none := fun b hb => (dead_back kx₃ hb).resolve_left (Live.not lvM₃ hb)
  have DtF := notFr (new₃ _ Dtn)
  have kx₄ : Kx (Mo L S lf) s.heap h₄ := kx₃.trans' (kq₄.mono moO)
  have hl₄ : h₄.PlainList lf (List.toArray xs) := hl₃.at fun o e => kq₄ _ o lfo e
  have R₄ : SorAt prog w h₄ (hS S np₁ r [] (pas + rl.length) fin) := R₃.frame fun b o hb e => kq₄ b o (fun q => hapT b q hb) e
  have hW₄ : WAt h₄ D₃ ts₃ := hW₃.frame kq₄ (fun q => D₃F (hFr _ (moO _ q))) fun x hx q => ts₃F x hx (hFr _ (moO _ q))
  refine el0_3 (lastF kx₄) fun S₄ N₄ LF₄ => ?_
  have c₄l : upd cm "taken" (.ref Dt) "left" = some (.ref D) := (upd_ne (by decide)).trans cl
  have c₄n : upd cm "taken" (.ref Dt) "needs" = some (.ref aN) := (upd_ne (by decide)).trans cn
  have c₄t : upd cm "taken" (.ref Dt) "taken" = some (.ref Dt) := upd_eq
  have c₄o : ∀ x : Str, x ≠ "taken" → upd cm "taken" (.ref Dt) x = cm x := fun x hx => upd_ne hx
  generalize upd cm "taken" (.ref Dt) = cm₄ at F₄ c₄l c₄n c₄t c₄o
  have ZL₄ : LI h₄ D (toI left) := ZL.at fun o e => kx₄ _ o (fun q => hDF (hFr _ q)) e
  have tkW : ∀ j ∈ W₃.take hands, j ∈ W₃ := fun j hj => List.mem_of_mem_take hj
  refine wpAny_execs_cons (wpAny_If ((lf_check (n := n) (nd := nd) (hA.mono (by decide)) F₄ c₄t hT₄ c₄l ZL₄ c₄n N₄ (by (exact Nat.le_trans (by assumption) (by decide))) (fun j hj => (hnz j hj).1) (fun j hj => J₃.lt (J₃.wl j (tkW j hj))) (by (refine rwR List.length_take ?_); lia) (fun j hj => J₃.w0 j (tkW j hj))).useV (Kp.refl _) fun h₅ tk₅ hk₅ => ?_))
  refine wpAny_execs_nil ?_
  have F₅ := F₄.keeps hk₅
  have len₃t : ts₃.length = W₃.length := by have := congrArg List.length hts₃; simpa using this
  refine wpAny_execs_cons (lf_rest (s := { s with heap := h₅, toks := tk₅ }) (hA.mono (by decide)) F₅ upd_eq (hW₄.keeps hk₅) m₃h (by lia) ?_)
  intro h₆ tk₆ D₆ F₆ D₆n hW₆ kq₆
  have kq₆ : Kx (OwnA (eL L)) h₅ h₆ := kq₆
  have D₆n : h₅.get? D₆ = none := D₆n
  have kx₅ : Kx (Mo L S lf) s.heap h₅ := kx₄.trans' (Kx.of hk₅)
  have hl₅ : h₅.PlainList lf (List.toArray xs) := hl₄.at fun o e => hk₅ _ o e
  have R₅ := R₄.keeps hk₅
  have lvM₅ := lvM F₅ R₅ hl₅
  have new₅ : ∀ b, h₅.get? b = none → s.heap.get? b = none := fun b hb => (dead_back kx₅ hb).resolve_left (Live.not lvM₅ hb)
  have D₆F := notFr (new₅ _ D₆n)
  have kx₆ : Kx (Mo L S lf) s.heap h₆ := kx₅.trans' (kq₆.mono moO)
  have hl₆ : h₆.PlainList lf (List.toArray xs) := hl₅.at fun o e => kq₆ _ o lfo e
  have R₆ : SorAt prog w h₆ (hS S np₁ r [] (pas + rl.length) fin) := R₅.frame fun b o hb e => kq₆ b o (fun q => hapT b q hb) e
  have hW₆' : WAt h₆ D₆ (ts₃.drop hands) := ⟨hW₆, fun q hq => by
    refine el3_2 ((hW₄.keeps hk₅).2 q (List.mem_of_mem_drop hq)) fun t u o e rr => ?_
    exact ⟨t, u, o, kq₆ _ o (fun z => ts₃F q (List.mem_of_mem_drop hq) (hFr _ (moO _ z))) e, rr⟩⟩
  have hT₆ : LI h₆ Dt (toI (W₃.take hands)) := hT₄.at fun o e => kq₆ _ o (fun z => DtF (hFr _ (moO _ z))) (hk₅ _ o e)
  have m₆o : ∀ x : Str, x ≠ "given" → x ≠ "waiting" → upd (upd (upd m "given" (.ref tp)) "waiting" (.ref D₃)) "waiting" (.ref D₆) x = m x := fun x h1 h2 => (upd_ne h2).trans ((upd_ne h2).trans (upd_ne h1))
  have m₆w : upd (upd (upd m "given" (.ref tp)) "waiting" (.ref D₃)) "waiting" (.ref D₆) "waiting" = some (.ref D₆) := upd_eq
  generalize upd (upd (upd m "given" (.ref tp)) "waiting" (.ref D₃)) "waiting" (.ref D₆) = m₆ at F₆ m₆o m₆w
  have m₆s : m₆ "sorter" = some (.ref S.a) := (m₆o _ (by decide) (by decide)).trans ms
  have m₆h : m₆ "hour" = some (.int hour to) := (m₆o _ (by decide) (by decide)).trans mo
  generalize htk : W₃.take hands = taken at *
  generalize hWr : W₃.drop hands = Wr at *
  have hsp : W₃ = taken ++ Wr := by (refine rwL htk ?_; refine rwL hWr ?_; refine rwR (List.take_append_drop _ _) ?_; with_reducible rfl)
  have TK : Taken n hands ah left taken := by (refine rwL htk ?_); exact J₃.taken hnd W₃s
  have LS : (left.filter fun j => !taken.contains j).length < left.length := by (refine rwL htk ?_); exact J₃.less hrk hh1 hne
  have J₆ : JI n nd left (taken ++ Wr) np₁ [] := by (refine rwL hsp ?_); exact J₃
  have tkk : ∀ j ∈ taken, j ∈ S.keys := fun j hj => (sk j).mpr (TK.free j hj |>.1 |> J.lt)
  have tsu : ∀ j ∈ taken, ∀ b ∈ S.su j, b ∈ S.keys := fun j hj b hb => (sk b).mpr (ssn j b hb)
  obtain ⟨out1, out2⟩ := J₆.out (su := S.su) (fun j _ b hb => ssu j b hb) (fun j _ b hb => ssn j b hb)
  have J₈ := J₆.dones (su := S.su) (fun j _ b hb => ssu j b hb) (fun j _ b hb => ssn j b hb)
  have tlen : taken.length ≤ n := nodup_len TK.nodup fun j hj => J.lt (TK.free j hj).1
  have wlen : W.length + rl.length = taken.length + Wr.length := by (refine rwL len₃ ?_; refine rwR hsp ?_; refine rwR List.length_append ?_; with_reducible rfl)
  have tail : ∀ h₈ tk₈ m₈ (E' : Value → Shared → Prop), Fra (eL L) h₈ m₈ cm₄ → (∀ x : Str, x ≠ "job" → m₈ x = m₆ x) → SorAt prog w h₈ (hS S (taken.foldl (doneS S.su) (np₁, [])).1 r (taken.foldl (doneS S.su) (np₁, [])).2 (pas + rl.length) (fin + taken.length)) → Kx (Or2 (OwnA (eL L)) S.fp) h₆ h₈ →
      wpAny (model prog w) A (execs [hrBody.getD 7 ps, hrBody.getD 8 ps, hrBody.getD 9 ps] (eL L)) Q E' { s with heap := h₈, toks := tk₈ } := by
    intro h₈ tk₈ m₈ E' F₈ hm₈ R₈ kq₈
    have kx₈ : Kx (Mo L S lf) s.heap h₈ := kx₆.trans' (kq₈.mono fun b hb => hb.elim (moO b) (moS b))
    have off : ∀ {b : Addr}, ¬ Fr b → ¬ Or2 (OwnA (eL L)) S.fp b := fun hb q => hb (hFr _ (q.elim (moO _) (moS _)))
    have hl₈ : h₈.PlainList lf (List.toArray xs) := hl₆.at fun o e => kq₈ _ o (fun q => q.elim lfo lfs) e
    have hT₈ : LI h₈ Dt (toI taken) := hT₆.at fun o e => kq₈ _ o (off DtF) e
    have hW₈ : WAt h₈ D₆ (ts₃.drop hands) := hW₆'.frame kq₈ (off D₆F) fun q hq => off (ts₃F q (List.mem_of_mem_drop hq))
    have ZL₈ : LI h₈ D (toI left) := ZL.at fun o e => kx₈ _ o (fun q => hDF (hFr _ q)) e
    refine wpAny_execs_cons (lf_left (s := { s with heap := h₈, toks := tk₈ }) (hA.mono (by decide)) F₈ c₄l ZL₈ c₄t hT₈ (by have := J.sub.length_le; (replace this := List.length_range ▸ this); lia) ?_)
    intro h₉ tk₉ D₉ F₉ D₉n hL₉ kq₉
    have kq₉ : Kx (OwnA (eL L)) h₈ h₉ := kq₉
    have D₉n : h₈.get? D₉ = none := D₉n
    have lvM₈ := lvM F₈ R₈ hl₈
    have new₈ : ∀ b, h₈.get? b = none → s.heap.get? b = none := fun b hb => (dead_back kx₈ hb).resolve_left (Live.not lvM₈ hb)
    have D₉F := notFr (new₈ _ D₉n)
    have kx₉ : Kx (Mo L S lf) s.heap h₉ := kx₈.trans' (kq₉.mono moO)
    have hl₉ : h₉.PlainList lf (List.toArray xs) := hl₈.at fun o e => kq₉ _ o lfo e
    have R₉ := R₈.frame (h' := h₉) fun b o hb e => kq₉ b o (fun q => hapT b q hb) e
    have m₈o : ∀ x : Str, x ≠ "given" → x ≠ "waiting" → x ≠ "job" → m₈ x = m x := fun x h1 h2 h3 => (hm₈ x h3).trans (m₆o x h1 h2)
    refine wpAny_execs_cons (lf_append (s := { s with heap := h₉, toks := tk₉ }) (xs := xs) F₉ ((m₈o _ (by decide) (by decide) (by decide)).trans ml) upd_eq hl₉ hxz ?_)
    intro h₁₀ tk₁₀ hl₁₀ kq₁₀
    have kq₁₀ : Kx (· = lf) h₉ h₁₀ := kq₁₀
    have kx₁₀ : Kx (Mo L S lf) s.heap h₁₀ := kx₉.trans' (kq₁₀.mono fun b hb => .inr (.inr hb))
    have F₁₀ : Fra (eL L) h₁₀ m₈ (upd cm₄ "left" (.ref D₉)) := F₉.kx kq₁₀ fun b hb q => lfo (q ▸ hb)
    have R₁₀ := R₉.frame (h' := h₁₀) fun b o hb e => kq₁₀ b o (fun q => lfs (q ▸ (fpi b).mp hb)) e
    have off' : ∀ {b : Addr}, ¬ Fr b → b ≠ lf := fun hb q => hb (hFr _ (.inr (.inr q)))
    have hL₁₀ : LI h₁₀ D₉ (toI (left.filter fun j => !taken.contains j)) := hL₉.at fun o e => kq₁₀ _ o (off' D₉F) e
    have hW₁₀ : WAt h₁₀ D₆ (ts₃.drop hands) := (hW₈.frame kq₉ (fun q => D₆F (hFr _ (moO _ q))) fun q hq z => ts₃F q (List.mem_of_mem_drop hq) (hFr _ (moO _ z))).frame kq₁₀ (off' D₆F) fun q hq => off' (ts₃F q (List.mem_of_mem_drop hq))
    refine el0_3 (lastF kx₁₀) fun S₁₀ _ _ => ?_
    have hp' : pas + rl.length = fin + taken.length + Wr.length := by (refine rwR hpas ?_); lia
    refine wpAny_execs_cons (wpAny_If ((lf_active (T := hS S (taken.foldl (doneS S.su) (np₁, [])).1 r (taken.foldl (doneS S.su) (np₁, [])).2 (pas + rl.length) (fin + taken.length)) (hA.mono (by decide)) S₁₀ F₁₀ R₁₀ rfl (by have := J₈.rlen; lia) ((m₈o _ (by decide) (by decide) (by decide)).trans ms) upd_eq hL₁₀ (J₈.active hrk hp')).useV (Kp.refl _) fun h₁₁ tk₁₁ hk₁₁ => ?_))
    refine wpAny_execs_nil ?_
    refine wpAny_execs_nil ?_
    refine k h₁₁ tk₁₁ m₈ (upd cm₄ "left" (.ref D₉)) _ _ (pas + rl.length) (fin + taken.length) Wr (ts₃.drop hands) D₉ D₆ taken (F₁₀.keeps hk₁₁) m₈o ((hm₈ _ (by decide)).trans m₆w) (fun x h1 h2 => (upd_ne h1).trans (c₄o x h2)) upd_eq (R₁₀.keeps hk₁₁) J₈ hp' ?_ (hl₁₀.at fun o e => hk₁₁ _ o e) (kx₁₀.trans' (Kx.of hk₁₁)) (hL₁₀.keeps hk₁₁) (new₈ _ D₉n) (hW₁₀.keeps hk₁₁) (new₅ _ D₆n) ?_ TK LS
    · (refine rwR List.map_drop ?_; refine rwR hts₃ ?_; refine rwL hWr ?_; refine rwR List.map_drop ?_; with_reducible rfl)
    · intro q hq
      exact (hts₃' q (List.mem_of_mem_drop hq)).imp_right (new₂ _)
  refine wpAny_execs_cons (wpAny_If ((gb_eq (prog := prog) (w := w) (A := A) (h := h₆) (env := eL L) (gi_mod (by decide) (by decide) (gv_int (g_local rfl rfl F₆.ns m₆h)) g_int) g_int).use (Kp.refl _) fun b h₇ tk₇ hk₇ hb => ?_))
  clear hb
  have F₇ := F₆.keeps hk₇
  have R₇ := R₆.keeps hk₇
  have hT₇ := hT₆.keeps hk₇
  have kx₇ : Kx (Mo L S lf) s.heap h₇ := kx₆.trans' (Kx.of hk₇)
  have lvF₇ : Live Fr h₇ := lv.step kx₇ (lvM F₇ R₇ (hl₆.at fun o e => hk₇ _ o e))
  have Z₇ : Fz Fr (Sta w) h₇ := (Z.step' (kx₇.mono hFr)).left
  cases b with
  | true =>
    refine wpAny_execs_cons (lf_dones (s := { s with heap := h₇, toks := tk₇ }) (S := S) (js := taken) (hA.mono (by decide)) F₇ (Z₇.mono fun b hb => hFr b (moS b hb)) hr R₇ hap m₆s c₄t hT₇ tkk tsu out1 (fun i => by have := out2 i; lia) (fun j _ => by have := ssl j; (exact Nat.le_trans (by assumption) (by decide))) (by lia) ?_)
    intro h₈ tk₈ F₈ R₈ kq₈
    have kq₈ : Kx S.fp h₇ h₈ := kq₈
    refine wpAny_execs_nil ?_
    exact tail h₈ tk₈ m₆ _ F₈ (fun _ _ => rfl) R₈ ((Kx.of hk₇).trans' (kq₈.mono fun b => .inr))
  | false =>
    refine wpAny_execs_cons (lf_doneloop (s := { s with heap := h₇, toks := tk₇ }) (S := S) (js := taken) (Fr := Fr) (hA.mono (by decide)) F₇ lvF₇ (fun b hb => hFr b (hb.elim (moO b) (moS b))) Z₇ hr R₇ hap m₆s c₄t hT₇ DtF tkk tsu out1 (fun i => by have := out2 i; lia) (fun j _ => by have := ssl j; (exact Nat.le_trans (by assumption) (by decide))) ?_)
    intro h₈ tk₈ m₈ F₈ hm₈ R₈ kq₈
    have kq₈ : Kx (Or2 (OwnA (eL L)) S.fp) h₇ h₈ := kq₈
    refine wpAny_execs_nil ?_
    exact tail h₈ tk₈ m₈ _ F₈ hm₈ R₈ ((Kx.of hk₇).trans' kq₈)
end
end Mine
end
section
open PySem PySem.Calls PySem.W PyProof.Rows
set_option maxRecDepth 100000
set_option genInjectivity false
set_option genSizeOf false
set_option genSizeOfSpec false
namespace Mine
structure HSt where
  m : Str → Option Value
  cm : Str → Option Value
  np : Nat → Int
  rl : List Nat
  left : List Nat
  W : List Nat
  pas : Int
  fin : Int
  ts : List (Addr × Int × Int)
  D : Addr
  wl : Addr
  rs : List Addr
  ls : List (List Nat)
structure HG (prog : Program) (w : World) (L r lf : Addr) (S : Sor) (n hands : Nat) (nd : Nat → List Nat) (ah : Nat → Nat → Bool) (m cm : Str → Option Value) (i : Nat) (y : HSt) (h : Heap) : Prop where
  fra : Fra (eL L) h y.m y.cm
  mo : ∀ x : Str, x ≠ "given" → x ≠ "waiting" → x ≠ "job" → x ≠ "hour" → y.m x = m x
  mw : y.m "waiting" = some (.ref y.wl)
  co : ∀ x : Str, x ≠ "left" → x ≠ "taken" → y.cm x = cm x
  cl : y.cm "left" = some (.ref y.D)
  sor : SorAt prog w h (hS S y.np r y.rl y.pas y.fin)
  ji : JI n nd y.left y.W y.np y.rl
  pas : y.pas = y.fin + y.W.length
  ts : y.ts.map (·.2) = y.W.map (keyOf fun j => (cnt n (ah j) : Int))
  pl : h.PlainList lf (List.toArray (y.rs.map Value.ref))
  rl : y.rs.length = y.ls.length
  lz : y.ls.length ≤ i + 1
  hrs : Hrs n hands ah y.ls y.left
  less : y.left.length + i ≤ n
  nD : ¬ Mo L S lf y.D
  nw : ¬ Mo L S lf y.wl
  nt : ∀ q ∈ y.ts, ¬ Mo L S lf q.1
noncomputable def HT (w : World) (n : Nat) (nd : Nat → List Nat) (fol : List Int) (aN aF : Addr) (y : HSt) (h : Heap) : Prop :=
  (Sta w h ∧ NdAt h aN n nd ∧ LI h aF fol) ∧ LI h y.D (toI y.left) ∧ WAt h y.wl y.ts ∧ All2 (fun r ns => LI h r ns) y.rs (toII y.ls)
section
variable {prog : Program} {w : World} {A : Around} {E : Value → Shared → Prop} {s : Shared} {h : Heap} {env : Env}
theorem mo_live {L r lf : Addr} {S : Sor} {l0 : List Nat} (hr : S.rdy = some (r, l0)) {m' cm' : Str → Option Value} {np rl pas fin} {xs : List Value} (F : Fra (eL L) h m' cm') (R : SorAt prog w h (hS S np r rl pas fin)) (hl : h.PlainList lf (List.toArray xs)) : Live (Mo L S lf) h := fun b hb => by
  (refine Or.elim hb (fun q => ?_) fun zo0 => Or.elim zo0 (fun q => ?_) fun q => ?_) <;> clear hb
  · exact F.live b q
  · exact R.live b ((fp_h hr b).mpr q)
  · (refine rwR q ?_); obtain ⟨kk, e⟩ := hl; exact ⟨_, e⟩
theorem HG.frame {L r lf : Addr} {S : Sor} {l0 : List Nat} (hr : S.rdy = some (r, l0)) {n hands : Nat} {nd : Nat → List Nat} {ah : Nat → Nat → Bool} {m cm : Str → Option Value} {i : Nat} {y : HSt} {h h' : Heap} (x : HG prog w L r lf S n hands nd ah m cm i y h) (hk : ∀ b o, Mo L S lf b → h.get? b = some o → h'.get? b = some o) : HG prog w L r lf S n hands nd ah m cm i y h' :=
  { x with fra := x.fra.frame fun b o hb e => hk b o (.inl hb) e, sor := x.sor.frame fun b o hb e => hk b o (.inr (.inl ((fp_h hr b).mp hb))) e, pl := x.pl.at fun o e => hk _ o (.inr (.inr rfl)) e }
theorem lf_hours {L r lf aN aF : Addr} {S : Sor} {l0 : List Nat} {m cm : Str → Option Value} {n hands : Nat} {th : Tok} {nd : Nat → List Nat} {rk : Nat → Nat} {ah : Nat → Nat → Bool} {fol : List Int} {y0 : HSt} {Q : Flow → Shared → Prop}
    (hA : Ok 30 A) (hn : n ≤ 6) (hh1 : 1 ≤ hands) (hnd : ∀ a b, a < n → b < n → (a ∈ nd b ↔ ah a b = true)) (hnz : ∀ j, j < n → (nd j).length ≤ 100 ∧ ∀ a ∈ nd j, a < n) (hrk : ∀ b, b < n → ∀ a ∈ nd b, rk a < rk b) (hfol : ∀ j, j < n → fol[j]? = some (cnt n (ah j) : Int))
    (hr : S.rdy = some (r, l0)) (sk : ∀ j, j ∈ S.keys ↔ j < n) (ssu : ∀ a b, b < n → (S.su a).count b = (nd b).count a) (ssn : ∀ a, ∀ b ∈ S.su a, b < n) (ssl : ∀ a, (S.su a).length ≤ 2000)
    (hap : ∀ b, OwnA (eL L) b → ¬ S.fp b) (lfo : ¬ OwnA (eL L) lf) (lfs : ¬ S.fp lf)
    (ms : m "sorter" = some (.ref S.a)) (mh : m "hands" = some (.int hands th)) (ml : m "lefts" = some (.ref lf)) (cn : cm "needs" = some (.ref aN)) (cf : cm "followers" = some (.ref aF))
    (G0 : HG prog w L r lf S n hands nd ah m cm 0 y0 s.heap) (T0 : Fz (Mo L S lf) (HT w n nd fol aN aF y0) s.heap)
    (k : ∀ h' tk y, HG prog w L r lf S n hands nd ah m cm n y h' → HT w n nd fol aN aF y h' → Kx (Mo L S lf) s.heap h' → Q .next { s with heap := h', toks := tk }) :
    wpAny (model prog w) A (exec (lfBody.getD 7 ps) (eL L)) Q E s := by
  refine el0_2 T0.now fun q1_ _ => ?_
  refine el0_3 q1_ fun S₀ N₀ _ => ?_
  try clear q1_
  refine for_fz (σ := HSt) (n := n) (P := fun i v => i < n ∧ ∃ t, v = .int (0 + i * 1) t) (src := []) (fun _ => Mo L S lf) (HG prog w L r lf S n hands nd ah m cm) (fun _ y h => HT w n nd fol aN aF y h) (Mo L S lf) y0
    (g_range1 (n_range S₀ rfl rfl rfl rfl) (g_lenNd N₀ (by (exact Nat.le_trans (by assumption) (by decide))) (n_len S₀ rfl rfl rfl rfl) (g_cell rfl rfl rfl (G0.fra.cellIs (x := "needs") rfl ((G0.co _ (by decide) (by decide)).trans cn)))))
    (fun xv h1 hk hx => by obtain ⟨r, t, u, z, rfl, hr⟩ := hx; exact itr_range1 hA.hd (by (exact Nat.le_trans (by assumption) (by decide))) hr) (fun _ => rfl) (by simp) (mo_live hr G0.fra G0.sor G0.pl) (fun _ => id) ?_ G0 T0 ?_ ?_
  · intro i y h h' x hk
    exact x.frame hr hk
  · intro i y Fr' v h tk E' Q' hi z2_ G₁ Z₁ lv₁ hMF hFF hK hFd q
    obtain ⟨_, t, r3_⟩ := z2_
    try clear z2_
    obtain rfl := r3_
    have ei : (0 + (i : Int) * 1) = ((i : Nat) : Int) := by (with_reducible exact Mine.zi _)
    (refine rwR ei ?_)
    refine wpAny_assign_Name (fra_local G₁.fra rfl rfl fun h₂ tk₂ F₂ sb₂ => ?_)
    have kx₂ : Kx (OwnA (eL L)) h h₂ := Kx.same sb₂ own_locals
    have kM₂ : Kx (Mo L S lf) h h₂ := kx₂.mono fun b => .inl
    have Z₂ := Z₁.step' (kM₂.mono hMF)
    have R₂ : SorAt prog w h₂ (hS S y.np r y.rl y.pas y.fin) := G₁.sor.frame fun b o hb e => kx₂ b o (fun q => hap b q ((fp_h hr b).mp hb)) e
    have hl₂ : h₂.PlainList lf (List.toArray (y.rs.map Value.ref)) := G₁.pl.at fun o e => kx₂ _ o lfo e
    have ZM₂ : Fz (Mo L S lf) (HT w n nd fol aN aF y) h₂ := Z₂.mono hMF
    have lvM₂ := mo_live hr F₂ R₂ hl₂
    have m₂o : ∀ x : Str, x ≠ "given" → x ≠ "waiting" → x ≠ "job" → x ≠ "hour" → upd y.m "hour" (.int (i : Nat) t) x = m x := fun x h1 h2 h3 h4 => (upd_ne h4).trans (G₁.mo x h1 h2 h3 h4)
    have c₂o := G₁.co
    refine el0_4 ZM₂.now fun B₂ L₂ W₂ _ => ?_
    show wpAny _ _ (execs [(forBody (lfBody.getD 7 ps)).getD 0 ps] (eL L)) _ _ _
    refine wpAny_execs_cons ?_
    refine wpAny_If ((gb_nenil (prog := prog) (w := w) (h := h₂) (env := eL L) (b := !decide (y.left = [])) (R1 := fun v h' => v = .ref y.D ∧ Kp h₂ h') (by have := hA.un; unfold cLine; lia) ((g_cell rfl rfl rfl (F₂.cellIs (x := "left") rfl G₁.cl)).mono fun v h' hk hv => ⟨hv, hk⟩) (fun v a b hk hx => ⟨hx.1, hx.2.trans hk⟩) ?_).use (Kp.refl _) fun b h₃ tk₃ hk₃ hb => ?_)
    · intro v h' z4_
      refine el0_2 z4_ fun r5_ hk => ?_
      try clear z4_
      obtain rfl := r5_
      refine ⟨y.D, toI y.left, rfl, L₂.keeps hk, ?_⟩
      cases y.left <;> simp [toI]
    subst hb
    have F₃ := F₂.keeps hk₃
    have R₃ := R₂.keeps hk₃
    have hl₃ : h₃.PlainList lf (List.toArray (y.rs.map Value.ref)) := hl₂.at fun o e => hk₃ _ o e
    have kM₃ : Kx (Mo L S lf) h h₃ := kM₂.trans' (Kx.of hk₃)
    have ZM₃ := ZM₂.step' (Kx.of hk₃)
    have lvM₃ := mo_live hr F₃ R₃ hl₃
    by_cases hne : y.left = []
    · (refine rwR (decide_eq_true hne) ?_; refine rwR (if_neg (by decide)) ?_)
      refine wpAny_execs_nil ?_
      refine wpAny_execs_nil ?_
      refine q .next { y with m := upd y.m "hour" (.int (i : Nat) t) } h₃ tk₃ (.inl rfl) { G₁ with fra := F₃, mo := m₂o, mw := (show upd y.m "hour" (.int (i : Nat) t) "waiting" = some (.ref y.wl) from (upd_ne (by decide)).trans G₁.mw), sor := R₃, pl := hl₃, lz := Nat.le_succ_of_le G₁.lz, less := ?_ } kM₃ (fun _ => id) (fun _ => .inl) lvM₃ ?_
      · show y.left.length + (i + 1) ≤ n
        (refine rwR hne ?_); simp; lia
      · exact (Z₂.step' (Kx.of hk₃)).mono fun b hb => hb.elim id (hMF b)
    · (refine rwR (decide_eq_false hne) ?_; refine rwR (if_pos (by decide)) ?_)
      refine el0_4 ZM₃.now fun B₃ L₃ W₃ _ => ?_
      refine lf_hour (s := { s with heap := h₃, toks := tk₃ }) (Fr := Mo L S lf) (rk := rk) (hour := i) hA hn hh1 hnd hnz hrk hfol hr sk ssu ssn ssl hap lfo lfs lvM₃ (fun _ => id) (ZM₃.imp fun _ z => z.1) L₃ G₁.nD W₃ G₁.nw G₁.nt F₃ ((m₂o _ (by decide) (by decide) (by decide) (by decide)).trans ms) ((m₂o _ (by decide) (by decide) (by decide) (by decide)).trans mh) ((m₂o _ (by decide) (by decide) (by decide) (by decide)).trans ml)
        (show upd y.m "hour" (.int (i : Nat) t) "waiting" = some (.ref y.wl) from (upd_ne (by decide)).trans G₁.mw) upd_eq ((c₂o _ (by decide) (by decide)).trans cn) ((c₂o _ (by decide) (by decide)).trans cf) G₁.cl R₃ G₁.ji G₁.pas G₁.ts hl₃ (by (refine rwR (List.length_map _) ?_; refine rwR G₁.rl ?_); have := G₁.lz; lia) hne ?_
      intro h' tk' m' cm' np' rl' pas' fin' W' ts' D' wl' taken F' hm' mw' hc' cl' R' J' hp' hts' hl' kx' LI' D'n WA' wl'n hts'' TK LS
      have kx' : Kx (Mo L S lf) h₃ h' := kx'
      have D'n : h₃.get? D' = none := D'n
      have wl'n : h₃.get? wl' = none := wl'n
      have hts'' : ∀ q ∈ ts', q ∈ y.ts ∨ h₃.get? q.1 = none := hts''
      refine wpAny_execs_nil ?_
      have kM : Kx (Mo L S lf) h h' := kM₃.trans' kx'
      have lvM' := mo_live hr F' R' hl'
      have lv₃ : Live Fr' h₃ := lv₁.step kM₃ lvM₃
      refine q .next ⟨m', cm', np', rl', y.left.filter fun j => !taken.contains j, W', pas', fin', ts', D', wl', y.rs ++ [D'], y.ls ++ [y.left.filter fun j => !taken.contains j]⟩ h' tk' (.inl rfl)
        ⟨F', fun x h1 h2 h3 h4 => (hm' x h1 h2 h3).trans (m₂o x h1 h2 h3 h4), mw', fun x h1 h2 => (hc' x h1 h2).trans (c₂o x h1 h2), cl', R', J', hp', hts', by (refine rwR List.map_append ?_); exact hl', by (refine rwR List.length_append ?_; refine rwR List.length_append ?_; refine rwR G₁.rl ?_); rfl, ?_, G₁.hrs.snoc hne TK, ?_, Live.not lvM₃ D'n, Live.not lvM₃ wl'n, fun q hq => (hts'' q hq).elim (G₁.nt q) fun z => Live.not lvM₃ z⟩ kM (fun _ => id) (fun _ => .inl) lvM' ?_
      · have := G₁.lz; simp; lia
      · have := G₁.less; show (y.left.filter fun j => !taken.contains j).length + (i + 1) ≤ n; lia
      · refine Fz.mono (M := Fr') ?_ fun b hb => hb.elim id (hMF b)
        intro h₄ k₄
        have k34 : Kx Fr' h₃ h₄ := (kx'.mono hMF).trans' k₄
        refine el0_4 (Z₂ h₄ ((Kx.of hk₃).trans' k34)) fun Ba La Wa Aa => ?_
        refine ⟨Ba, LI'.at fun o e => k₄ _ o (Live.not lv₃ D'n) e, ⟨WA'.1.at fun o e => k₄ _ o (Live.not lv₃ wl'n) e, fun q hq => ?_⟩, ?_⟩
        · refine Or.elim (hts'' q hq) (fun z => ?_) fun z => ?_
          · exact Wa.2 q z
          · refine el3_2 (WA'.2 q hq) fun t1 u1 o e rr => ?_
            exact ⟨t1, u1, o, k₄ _ o (Live.not lv₃ z) e, rr⟩
        · show All2 _ (y.rs ++ [D']) (toII (y.ls ++ [_]))
          unfold toII at Aa ⊢
          (refine rwR List.map_append ?_)
          exact Aa.append (.cons (LI'.at fun o e => k₄ _ o (Live.not lv₃ D'n) e) .nil)
  · intro y h' tk G₁ Z₁ lv₁ hK _
    exact k h' tk y G₁ Z₁.now hK
end
end Mine
end
section
open PySem PySem.Calls PySem.W PyProof.Rows
set_option maxRecDepth 100000
set_option genInjectivity false
set_option genSizeOf false
set_option genSizeOfSpec false
namespace Mine
section
variable {prog : Program} {w : World} {A : Around} {E : Value → Shared → Prop} {s : Shared} {h : Heap} {env : Env}
theorem call_lefts {outer : List Env} {aN aF : Addr} {n hands : Nat} {th : Tok} {nd : Nat → List Nat} {rk : Nat → Nat} {ah : Nat → Nat → Bool} {fol : List Int} {Q : Value → Shared → Prop}
    (hA : Ok 45 A) (hfr : A.frames = some outer) (hF0 : s.heap.FunFrames noHeap outer) (hS0 : Fz (· ∈ frs outer) (Sta w) s.heap) (hZ : ∀ h', Kf (frs outer) (fun _ => False) s.heap h' → Sta w h' ∧ NdAt h' aN n nd ∧ LI h' aF fol)
    (hn : n ≤ 6) (hh1 : 1 ≤ hands) (hnd : ∀ a b, a < n → b < n → (a ∈ nd b ↔ ah a b = true)) (hnz : ∀ j, j < n → (nd j).length ≤ 100 ∧ ∀ a ∈ nd j, a < n) (hrk : ∀ b, b < n → ∀ a ∈ nd b, rk a < rk b) (hfol : ∀ j, j < n → fol[j]? = some (cnt n (ah j) : Int))
    (k : ∀ h' tk lf rs lefts, Kf (frs outer) (fun _ => False) s.heap h' → s.heap.get? lf = none → LLr h' lf rs (toII lefts) → Hours n hands ah lefts → lefts.length ≤ n + 1 → Q (.ref lf) { s with heap := h', toks := tk }) :
    wpAny (model prog w) A (call (.ref 146) [.ref aN, .ref aF, .int hands th]) Q E s := by
  have S₀ : Sta w s.heap := hS0.now
  refine el2_1 (fn_lefts w) fun d sl hf => ?_
  refine call_rule (n := 44) (body := lfBody) (binds := [("needs", .ref aN), ("followers", .ref aF), ("hands", .int hands th)]) (RB := fun _ => True) hA (S₀.X _ _ hf) rfl S₀.lim (codeRec_of S₀.X (cd_lefts w)) rfl rfl (fun s' E' hs' => wpAny_of_eq rfl ⟨⟨rfl, trivial⟩, keeps_refl s'⟩) ?_ ?_
  · intro k x hx
    rcases List.mem_cons.mp hx with rfl | hx
    · exact .inr ⟨rfl, rfl⟩
    rcases List.mem_cons.mp hx with rfl | hx
    · exact .inr ⟨rfl, rfl⟩
    · (refine rwR (List.mem_singleton.mp hx) ?_); exact .inl rfl
  intro L h₀ h₁ tk E' hL _ hk₀ _ hk₁ F hO hOk
  have cn : bindC (callEnvC fdLefts L 146).kindOf [("needs", Value.ref aN), ("followers", .ref aF), ("hands", .int hands th)] (fun _ => none) "needs" = some (.ref aN) := rfl
  have cf : bindC (callEnvC fdLefts L 146).kindOf [("needs", Value.ref aN), ("followers", .ref aF), ("hands", .int hands th)] (fun _ => none) "followers" = some (.ref aF) := rfl
  have mh : bindL (callEnvC fdLefts L 146).kindOf [("needs", Value.ref aN), ("followers", .ref aF), ("hands", .int hands th)] (fun _ => none) "hands" = some (.int hands th) := rfl
  generalize bindC (callEnvC fdLefts L 146).kindOf [("needs", Value.ref aN), ("followers", .ref aF), ("hands", .int hands th)] (fun _ => none) = cm at F cn cf
  generalize bindL (callEnvC fdLefts L 146).kindOf [("needs", Value.ref aN), ("followers", .ref aF), ("hands", .int hands th)] (fun _ => none) = m at F mh
  have hOs : ∀ b, OwnA (eL L) b → s.heap.get? b = none := fun b hb => dead_kp hk₀ (hO b hb)
  show wpAny _ _ (execs (lfBody.getD 0 ps :: lfBody.getD 1 ps :: lfBody.getD 2 ps :: lfBody.getD 3 ps :: [lfBody.getD 4 ps, lfBody.getD 5 ps, lfBody.getD 6 ps, lfBody.getD 7 ps, lfBody.getD 8 ps]) (eL L)) _ _ _
  refine lf_head (s := { s with heap := h₁, toks := tk }) (s0 := s.heap) (outer := outer) (rk := rk) (hOk.mono (by decide)) (Around.frames_deeper hfr) hF0 hS0 hZ F (hk₀.trans hk₁) hOs cn (by (exact Nat.le_trans (by assumption) (by decide))) hnz hrk ?_
  intro h₂ tk₂ m₂ S r l0 E₂ F₂ hm₂ ms₂ RD hr JS hpas hfin fpd hap kf₂
  have fs : ∀ {h' : Heap}, Kx (Or2 (OwnA (eL L)) S.fp) h₂ h' → Kf (frs outer) (fun _ => False) s.heap h' := fun kx => kf₂.kx kx fun b hb => hb.elim (hOs b) (fpd b)
  refine el0_3 (hZ _ kf₂) fun S₂ N₂ LF₂ => ?_
  have mh₂ : m₂ "hands" = some (.int hands th) := (hm₂ _ (by decide) (by decide)).trans mh
  refine wpAny_execs_cons (asg_cell (h0 := h₂) (t0 := tk₂) (c := L + 1 + 1 + 1) (h := h₂) F₂ rfl rfl rfl (CompRun.gives (comp_local (n := n) (P := fun i v => i < n ∧ ∃ t, v = .int (0 + i * 1) t) (cl := []) rfl (by decide) rfl (by (exact Nat.le_trans (by assumption) (by decide)))
    (g_range1 (n_range S₂ rfl rfl rfl rfl) (g_lenNd N₂ (by (exact Nat.le_trans (by assumption) (by decide))) (n_len S₂ rfl rfl rfl rfl) (g_cell rfl rfl rfl (F₂.cellIs (x := "needs") rfl cn))))
    (fun x h1 hk hx => by obtain ⟨r, t, u, z, rfl, hr⟩ := hx; exact ⟨_, itr_range1 hOk.hd (by (exact Nat.le_trans (by assumption) (by decide))) hr⟩)
    (fun _ => true) (fun v y as => as = [] ∧ y = v) (fun C i v h' m' hk hP hm hv => gives_tests_nil) (fun C i v h' m' hk hP _ hm hv => (g_local rfl rfl hm hv).mono fun v h'' hk hv => ⟨[], by simp, rfl, hv⟩)) rfl rfl (by decide) (fun _ => rfl)) (Kp.refl _) rfl ?_)
  intro v h₃ h₄ tk₄ z1_ hk₃ sb₄ F₄
  refine el2_4 z1_ fun D ys r2_ hDn hD h3 => ?_
  try clear z1_
  obtain rfl := r2_
  have hDn : h₂.get? D = none := hDn
  have hk₃ : Kp h₂ h₃ := hk₃
  have x := h3.ints (ns := (List.range n).map fun j => (0 : Int) + (j : Nat) * 1) (q := fun _ => true) (f := id) (fun vs h1 h2 => ints_of_range h1 h2) (fun i t _ => rfl) (fun i t y as _ hf => ⟨t, hf.2⟩)
  have e : List.map id (List.filter (fun _ => true) (List.map (fun j : Nat => (0 : Int) + (j : Nat) * 1) (List.range n))) = toI (List.range n) := by
    (refine rwR (filter_tt _) ?_; refine rwR (List.map_id _) ?_)
    unfold toI
    exact List.map_congr_left fun j _ => by (with_reducible exact Mine.zi _)
  (replace x := e ▸ x)
  have kx₄ : Kx (OwnA (eL L)) h₃ h₄ := Kx.same sb₄ (own_cell (x := "left") rfl)
  have Do : ¬ OwnA (eL L) D := Live.not F₂.live hDn
  have lvS₂ : Live S.fp h₂ := RD.at'.live
  have Ds : ¬ S.fp D := Live.not lvS₂ hDn
  have LD₄ : LI h₄ D (toI (List.range n)) := ⟨ys, hD.at fun o e => kx₄ _ o Do e, x⟩
  have kO₄ : Kx (OwnA (eL L)) h₂ h₄ := (Kx.of hk₃).trans' kx₄
  have c₄l : upd cm "left" (.ref D) "left" = some (.ref D) := upd_eq
  have c₄n : upd cm "left" (.ref D) "needs" = some (.ref aN) := (upd_ne (by decide)).trans cn
  have c₄f : upd cm "left" (.ref D) "followers" = some (.ref aF) := (upd_ne (by decide)).trans cf
  generalize upd cm "left" (.ref D) = cm₄ at F₄ c₄l c₄n c₄f
  refine wpAny_execs_cons (asg_local (h0 := h₄) (t0 := tk₄) (h := h₄) F₄ rfl rfl (g_list1 (g_cell rfl rfl rfl (F₄.cellIs (x := "left") rfl c₄l))) (Kp.refl _) rfl ?_)
  intro v h₅ h₆ tk₆ z3_ hk₅ sb₆ F₆
  refine el3_5 z3_ fun lf u h₀' r4_ lfn hlf r5_ _ => ?_
  try clear z3_
  obtain rfl := r4_
  obtain rfl := r5_
  have lfn : h₄.get? lf = none := lfn
  have hk₅ : Kp h₄ h₅ := hk₅
  have kx₆ : Kx (OwnA (eL L)) h₅ h₆ := Kx.same sb₆ own_locals
  have lfo : ¬ OwnA (eL L) lf := Live.not F₄.live lfn
  have lfn₂ : h₂.get? lf = none := (dead_back kO₄ lfn).resolve_left lfo
  have lfs : ¬ S.fp lf := Live.not lvS₂ lfn₂
  have lfD : D ≠ lf := fun q => by obtain ⟨_, ⟨_, e⟩, _⟩ := LD₄; (exact nosome2 q (lfn) e)
  have hlf₆ : h₆.PlainList lf #[.ref D] := hlf.at fun o e => kx₆ _ o lfo e
  have kO₆ : Kx (OwnA (eL L)) h₂ h₆ := kO₄.trans' ((Kx.of hk₅).trans' kx₆)
  have LD₆ : LI h₆ D (toI (List.range n)) := LD₄.at fun o e => kx₆ _ o Do (hk₅ _ o e)
  refine wpAny_execs_cons (asg_local1 (h0 := h₆) (t0 := tk₆) (h := h₆) F₆ rfl rfl g_list0 (Kp.refl _) rfl ?_)
  intro wl h₇ h₈ tk₈ z6_ hk₇ sb₈ F₈
  refine el0_2 z6_ fun wln hwl => ?_
  try clear z6_
  have wln : h₆.get? wl = none := wln
  have hk₇ : Kp h₆ h₇ := hk₇
  have kx₈ : Kx (OwnA (eL L)) h₇ h₈ := Kx.same sb₈ own_locals
  have wlo : ¬ OwnA (eL L) wl := Live.not F₆.live wln
  have wln₂ : h₂.get? wl = none := (dead_back kO₆ wln).resolve_left wlo
  have wls : ¬ S.fp wl := Live.not lvS₂ wln₂
  have wll : wl ≠ lf := fun q => by obtain ⟨_, e⟩ := hlf₆; (replace e := Eq.symm q ▸ e; replace e := wln ▸ e); cases e
  have hwl₈ : h₈.PlainList wl #[] := hwl.at fun o e => kx₈ _ o wlo e
  have hlf₈ : h₈.PlainList lf #[.ref D] := hlf₆.at fun o e => kx₈ _ o lfo (hk₇ _ o e)
  have kO₈ : Kx (OwnA (eL L)) h₂ h₈ := kO₆.trans' ((Kx.of hk₇).trans' kx₈)
  have LD₈ : LI h₈ D (toI (List.range n)) := LD₆.at fun o e => kx₈ _ o Do (hk₇ _ o e)
  have m₈w : upd (upd m₂ "lefts" (.ref lf)) "waiting" (.ref wl) "waiting" = some (.ref wl) := upd_eq
  have m₈l : upd (upd m₂ "lefts" (.ref lf)) "waiting" (.ref wl) "lefts" = some (.ref lf) := (upd_ne (by decide)).trans upd_eq
  have m₈s : upd (upd m₂ "lefts" (.ref lf)) "waiting" (.ref wl) "sorter" = some (.ref S.a) := (upd_ne (by decide)).trans ((upd_ne (by decide)).trans ms₂)
  have m₈h : upd (upd m₂ "lefts" (.ref lf)) "waiting" (.ref wl) "hands" = some (.int hands th) := (upd_ne (by decide)).trans ((upd_ne (by decide)).trans mh₂)
  generalize upd (upd m₂ "lefts" (.ref lf)) "waiting" (.ref wl) = m₈ at F₈ m₈w m₈l m₈s m₈h
  have nDm : ¬ Mo L S lf D := fun q => q.elim Do fun q => q.elim Ds lfD
  have nWm : ¬ Mo L S lf wl := fun q => q.elim wlo fun q => q.elim wls wll
  have moS : ∀ {b}, Mo L S lf b → s.heap.get? b = none := fun {b} hb => by
    (refine Or.elim hb (fun q => ?_) fun zo0 => Or.elim zo0 (fun q => ?_) fun q => ?_) <;> clear hb
    · exact hOs b q
    · exact fpd b q
    · (refine rwR q ?_)
      cases e : s.heap.get? lf with
      | none => rfl
      | some o => obtain ⟨sl, e2⟩ := kf₂.live (fun q => q) e; (exact nosome (lfn₂) e2)
  have kf₈ : Kf (frs outer) (fun _ => False) s.heap h₈ := kf₂.kx kO₈ hOs
  have SR : SorAt prog w h₈ (hS S S.np r l0 S.pas S.fin) := by
    have e : hS S S.np r l0 S.pas S.fin = S := by cases S; simp at hr; simp [hr]
    (refine rwR e ?_)
    exact RD.at'.frame fun b o hb e => kO₈ b o (fun q => hap b q hb) e
  refine wpAny_execs_cons (lf_hours (s := { s with heap := h₈, toks := tk₈ }) (S := S) (r := r) (lf := lf) (aN := aN) (aF := aF) (n := n) (hands := hands) (nd := nd) (ah := ah) (fol := fol) (rk := rk) (y0 := ⟨m₈, cm₄, S.np, l0, List.range n, [], S.pas, S.fin, [], D, wl, [D], [List.range n]⟩)
    (hOk.mono (by decide)) hn hh1 hnd hnz hrk hfol hr RD.keys RD.su RD.sun RD.sul hap lfo lfs m₈s m₈h m₈l c₄n c₄f
    ⟨F₈, fun _ _ _ _ _ => rfl, m₈w, fun _ _ _ => rfl, c₄l, SR, JS, by (refine rwR hpas ?_; refine rwR hfin ?_); rfl, rfl, hlf₈, rfl, by simp, Hrs.first, by simp, nDm, nWm, by simp⟩ ?_ ?_)
  · intro h' kx
    have kx : Kx (Mo L S lf) h₈ h' := kx
    refine ⟨hZ h' (kf₈.kx kx fun b hb => moS hb), LD₈.at fun o e => kx _ o nDm e, ⟨hwl₈.at fun o e => kx _ o nWm e, by simp⟩, .cons (LD₈.at fun o e => kx _ o nDm e) .nil⟩
  intro h₉ tk₉ y G T kM
  have kM : Kx (Mo L S lf) h₈ h₉ := kM
  refine el0_4 T fun _ _ _ TA => ?_
  try clear T
  have ml₉ : y.m "lefts" = some (.ref lf) := (G.mo _ (by decide) (by decide) (by decide) (by decide)).trans m₈l
  have hl0 : y.left = [] := by
    have := G.less
    exact List.length_eq_zero_iff.mp (by lia)
  refine wpAny_execs_cons (wpAny_Return_some ?_)
  refine (g_local (prog := prog) (w := w) (h := h₉) rfl rfl G.fra.ns ml₉).useV (Kp.refl _) fun h₁₀ tk₁₀ hk₁₀ => ?_
  have kf₁₀ : Kf (frs outer) (fun _ => False) s.heap h₁₀ := (kf₈.kx kM fun b hb => moS hb).kx (M := fun _ => False) (Kx.of hk₁₀) fun _ q => q.elim
  refine k h₁₀ tk₁₀ lf y.rs y.ls kf₁₀ (moS (.inr (.inr rfl))) ⟨G.pl.at fun o e => hk₁₀ _ o e, TA.mono fun _ _ z => z.keeps hk₁₀⟩ ?_ G.lz
  have := G.hrs
  (replace this := hl0 ▸ this)
  exact this.hours
end
end Mine
end
section
open PySem PySem.Calls PySem.W PyProof.Rows
set_option maxRecDepth 100000
set_option genInjectivity false
set_option genSizeOf false
set_option genSizeOfSpec false
namespace Mine
noncomputable abbrev eW (L : Addr) : Env := callEnvC fdLaw L 156
noncomputable def lwBody : List Stmt := bodyOf (topS 10)
noncomputable abbrev Nums := KTD.Nums
theorem Nums.at {h h' : Heap} {a : Addr} {ns : List Int} (x : Nums h a ns) (k : ∀ o, h.get? a = some o → h'.get? a = some o) : Nums h' a ns :=
  let ⟨vs, ⟨o, ho, r⟩, i⟩ := x; ⟨vs, ⟨o, k _ ho, r⟩, i⟩
theorem ints_set {vs : List Value} {ns : List Int} (x : IntsAre vs ns) (i : Nat) (k : Int) (t : Tok) : IntsAre (vs.set i (.int k t)) (ns.set i k) := by
  induction x generalizing i with
  | nil => exact .nil
  | cons n t' x ih => cases i with
    | zero => exact .cons _ _ x
    | succ i => exact .cons _ _ (ih i)
theorem mod7 (i : Nat) : ((i : Int) % 7).toNat = i % 7 ∧ 0 ≤ (i : Int) % 7 ∧ (i : Int) % 7 < 7 := by (exact ⟨(congrArg Int.toNat (Int.natCast_emod i 7).symm).trans (Int.toNat_natCast _), Int.emod_nonneg _ (by decide), Int.emod_lt_of_pos _ (by decide)⟩)
section
variable {prog : Program} {w : World} {A : Around} {E : Value → Shared → Prop} {s : Shared} {h : Heap} {env : Env}
theorem law_step {L nA : Addr} {m cm : Str → Option Value} {i : Nat} {v : Int} {t u : Tok} {ns : List Int} {Q : Flow → Shared → Prop} (F : Fra (eW L) s.heap m cm) (mp : m "place" = some (.int i t)) (mx : m "x" = some (.int v u)) (cN : cm "numbers" = some (.ref nA)) (hN : Nums s.heap nA ns) (hl : ns.length = 7)
    (k : ∀ h' tk ns', ns'.length = 7 → Nums h' nA ns' → Kx (· = nA) s.heap h' → Q .next { s with heap := h', toks := tk }) :
    wpAny (model prog w) A (execs (forBody (lwBody.getD 1 ps)) (eW L)) Q E s := by
  refine el1_2 hN fun vs hvs hvi => ?_
  try clear hN
  have hvl : vs.length = 7 := by (refine rwR (IntsAre.len hvi) ?_; refine rwR hl ?_; with_reducible rfl)
  refine el0_3 (mod7 i) fun m1 m2 m3 => ?_
  have hlt : i % 7 < 7 := Nat.mod_lt _ (by decide)
  obtain ⟨old, eo⟩ : ∃ old, ns[i % 7]? = some old := ⟨ns[i % 7]'(by (exact Nat.lt_of_lt_of_le (by assumption) (Nat.le_of_eq (Eq.symm (by assumption))))), by simp⟩
  refine el1_1 (IntsAre.get hvi eo) fun to eto => ?_
  show wpAny _ _ (execs [(forBody (lwBody.getD 1 ps)).getD 0 ps] (eW L)) _ _ _
  refine wpAny_execs_cons (PySem.wpAny_AugAssign_SubscriptAny ?_)
  refine (g_cell (prog := prog) (w := w) (A := A) (h := s.heap) rfl rfl rfl (F.cellIs (x := "numbers") rfl cN)).useV (Kp.refl _) fun h₁ t₁ hk₁ => ?_
  refine (gi_mod (prog := prog) (w := w) (A := A) (h := h₁) (env := eW L) (by decide) (by decide) (gv_int (g_local rfl rfl (F.keeps hk₁).ns mp)) g_int).useI (Kp.refl _) fun ti h₂ t₂ hk₂ => ?_
  have hv₂ : h₂.IsList nA (List.toArray vs) := hvs.at fun o e => hk₂ _ o (hk₁ _ o e)
  refine wpAny_getItem_list hv₂ m2 (by lia) (x := .int old to) (by (refine rwR m1 ?_); simpa using eto) ?_
  refine (g_local (prog := prog) (w := w) (A := A) (h := h₂) rfl rfl ((F.keeps hk₁).keeps hk₂).ns mx).useV (Kp.refl _) fun h₃ t₃ hk₃ => ?_
  refine PyProof.Rows.iadd_int ?_
  refine wpAny_setItem_list (s := { s with heap := h₃, toks := t₃ + 1 }) (hv₂.at fun o e => hk₃ _ o e) m2 (by lia) (by simp; lia) fun h₄ hl₄ sb₄ => ?_
  refine wpAny_execs_nil ?_
  have hl₄ : h₄.IsList nA ((List.toArray vs).setIfInBounds ((i : Int) % 7).toNat (.int (old + v) t₃)) := hl₄
  have sb₄ : Heap.SameBut nA h₃ h₄ := sb₄
  refine k h₄ (t₃ + 1) (ns.set (i % 7) (old + v)) (by simp [hl]) ⟨vs.set (i % 7) (.int (old + v) t₃), ?_, ints_set hvi _ _ _⟩ ?_
  · (replace hl₄ := m1 ▸ hl₄)
    simpa using hl₄
  · exact (Kx.of ((hk₁.trans hk₂).trans hk₃)).trans' (Kx.same sb₄ rfl)
theorem n_enum {pos : Pos} (S : Sta w h) (hk : env.scope.kind = .function) (hx : env.kindOf "enumerate" = some .globalImplicit) (hg : env.globals = mainGlobals) (hb : env.builtins = builtinsNs) :
    GV prog w A h (eval (.Name "enumerate" pos) env) (.type "enumerate") := g_builtin S (by kernel_rfl) (by decide +kernel) (by decide) hk hx hg hb
theorem law_enum {L nA sc : Addr} {m cm : Str → Option Value} {ns ks : List Int} {vs : List Value} {Q : Flow → Shared → Prop} (hh : A.handled = none) (S₀ : Sta w s.heap) (F : Fra (eW L) s.heap m cm) (msc : m "script" = some (.ref sc)) (hsc : s.heap.IsList sc (List.toArray vs)) (hks : IntsAre vs ks)
    (cN : cm "numbers" = some (.ref nA)) (hN : Nums s.heap nA ns) (hl : ns.length = 7) (hno : ¬ OwnA (eW L) nA) (hso : ¬ OwnA (eW L) sc) (hsn : sc ≠ nA)
    (k : ∀ h' tk m' ns', Fra (eW L) h' m' cm → (∀ x : Str, x ≠ "place" → x ≠ "x" → m' x = m x) → ns'.length = 7 → Nums h' nA ns' → Kx (Or2 (OwnA (eW L)) (· = nA)) s.heap h' → Q .next { s with heap := h', toks := tk }) :
    wpAny (model prog w) A (exec (lwBody.getD 1 ps) (eW L)) Q E s := by
  refine wpAny_For ?_ (fun _ => rfl)
  refine PyProof.Rows.Call_Name1 ((n_enum (prog := prog) (w := w) (A := A) S₀ (env := eW L) rfl rfl rfl rfl).useV (Kp.refl _) fun h₁ t₁ hk₁ => ?_) rfl
  refine PySem.callWith_type1 ?_
  refine (g_local (prog := prog) (w := w) (A := A) (h := h₁) rfl rfl (F.keeps hk₁).ns msc).useV (Kp.refl _) fun h₂ t₂ hk₂ => ?_
  have k2 : Kp s.heap h₂ := hk₁.trans hk₂
  refine call_enumerate_list (s := { s with heap := h₂, toks := t₂ }) (hsc.at fun o e => k2 _ o e) fun h₃ he hit hz hk₃ => ?_
  have hk₃ : Kp h₂ h₃ := hk₃
  have k3 : Kp s.heap h₃ := k2.trans hk₃
  have he : IsEnum h₃ (h₂.objs.size + 1) h₂.objs.size 0 .none := he
  have hit : h₃.IsListIter h₂.objs.size sc 0 := hit
  have dE : h₂.get? (h₂.objs.size + 1) = none := Heap.get?_none_of_le (Nat.le_succ _)
  have dI : h₂.get? h₂.objs.size = none := none_size _
  have eIne : h₂.objs.size + 1 ≠ h₂.objs.size := Nat.succ_ne_self _
  show wpAny _ _ (pyIter (.ref (h₂.objs.size + 1))) _ _ { s with heap := h₃, toks := t₂ }
  generalize h₂.objs.size + 1 = e at he dE eIne ⊢
  generalize h₂.objs.size = it at he hit dI eIne
  refine wpAny_pyIter_enum he ?_
  have F₂ := F.keeps k2
  have eO : ¬ OwnA (eW L) e := Live.not F₂.live dE
  have iO : ¬ OwnA (eW L) it := Live.not F₂.live dI
  have liveN : ∀ {b}, h₂.get? b = none → b ≠ nA := fun {b} hb q => by obtain ⟨us, ⟨o, ho, _⟩, _⟩ := hN; (exact nosome3 q (k2 _ _ ho) hb)
  have liveS : ∀ {b}, h₂.get? b = none → b ≠ sc := fun {b} hb q => by obtain ⟨o, ho, _⟩ := hsc; (exact nosome3 q (k2 _ _ ho) hb)
  refine codeAny_forLoop_any
    (fun k s' => ∃ h' tk m' ns' i old, s' = { s with heap := h', toks := tk } ∧ IsEnum h' e it ((i : Nat) : Int) old ∧ h'.IsListIter it sc i ∧ h'.IsList sc (List.toArray vs) ∧ Fra (eW L) h' m' cm ∧ (∀ x : Str, x ≠ "place" → x ≠ "x" → m' x = m x) ∧ ns'.length = 7 ∧ Nums h' nA ns' ∧ i ≤ vs.length ∧
      k = vs.length + 1 - i ∧ ∀ b o, ¬ OwnA (eW L) b → b ≠ nA → b ≠ e → b ≠ it → s.heap.get? b = some o → h'.get? b = some o) ?_ (vs.length + 1)
    ⟨h₃, t₂, m, ns, 0, .none, rfl, he, hit, hsc.at fun o e => k3 _ o e, F.keeps k3, fun _ _ _ => rfl, hl, hN.at fun o e => k3 _ o e, Nat.zero_le _, rfl, fun b o _ _ _ _ x => k3 b o x⟩
  intro kk s' z1_
  refine el6_11 z1_ fun H tk m' ns' i old r2_ he' hit' hl' F' hm' hnl hN' hi r3_ hk => ?_
  try clear z1_
  obtain rfl := r2_
  obtain rfl := r3_
  cases hv : (List.toArray vs)[i]? with
  | none =>
    have hsz : i = vs.length := Nat.le_antisymm hi (by simpa using hv)
    refine wpAny_pyNext_enum_end hh he' hit' hl' hv fun h₄ he₄ => wpAny_execs_nil ?_
    have he₄ : Heap.ExtBut it H h₄ := he₄
    refine k h₄ tk m' ns' (F'.frame fun b o hb x => he₄ b o (fun q => iO (q ▸ hb)) x) hm' hnl (hN'.at fun o x => he₄ _ o (Ne.symm (liveN dI)) x) fun b o hb x => ?_
    have hbe : b ≠ e := fun q => by (exact nosome2 q (dead_kp k2 dE) x)
    have hbi : b ≠ it := fun q => by (exact nosome2 q (dead_kp k2 dI) x)
    exact he₄ b o hbi (hk b o (fun q => hb (.inl q)) (fun q => hb (.inr q)) hbe hbi x)
  | some v =>
    have hlt : i < vs.length := by have := (Array.getElem?_eq_some_iff.mp hv).1; simpa using this
    refine el2_2 (IntsAre.get' hks (i := i) (v := v) (by simpa using hv)) fun kv tv ek r4_ => ?_
    obtain rfl := r4_
    have heH : e < H.objs.size := Heap.lt_size he'
    refine el1_2 (id hit') fun oi hoi _ => ?_
    have hiH : it < H.objs.size := Heap.lt_size hoi
    refine el1_2 (id hl') fun ol hol _ => ?_
    have hlH : sc < H.objs.size := Heap.lt_size hol
    refine wpAny_pyNext_enum_item he' hit' hl' hv eIne fun h₄ heo hit₄ ht₄ hz₄ hk₄ => ?_
    refine wpAny_letOwnedTupleGo_enum heo fun h₅ he₅ hs₅ => ?_
    have hs₅ : Heap.SameBut e h₄ h₅ := hs₅
    have ht₅ : h₅.IsTuple H.objs.size #[.int i tk, .int kv tv] := ⟨_, (hs₅.2 _ (Nat.ne_of_gt heH)).trans ht₄, rfl, _, rfl⟩
    have hz₅ : h₅.objs.size = H.objs.size + 1 := hs₅.1.trans hz₄
    refine wpAny_assign_Tuple hh ht₅ rfl rfl fun h₆ hx₆ => ?_
    have hx₆ : Heap.ExtBut h₅.objs.size h₅ h₆ := hx₆
    have up₆ : ∀ b o, b ≠ e → b ≠ it → H.get? b = some o → h₆.get? b = some o := fun b o hb hb' x =>
      hx₆ b o (by (refine rwR hz₅ ?_); exact Nat.ne_of_lt (Nat.lt_succ_of_lt (Heap.lt_size x))) (hs₅.extBut b o hb (hk₄ b o hb hb' x))
    have F₆ : Fra (eW L) h₆ m' cm := F'.frame fun b o hb x => up₆ b o (fun q => eO (q ▸ hb)) (fun q => iO (q ▸ hb)) x
    show wpAny _ A (do holding [Value.int kv tv] (assign (.Name "place" _) (eW L) (.int i tk)); do holding [] (assign (.Name "x" _) (eW L) (.int kv tv)); pure ()) _ _ _
    refine wpAny_bind (wpAny_holding (wpAny_assign_Name (fra_local F₆ rfl rfl fun h₇ tk₇ F₇ sb₇ => ?_)))
    refine wpAny_bind (wpAny_holding (wpAny_assign_Name (fra_local F₇ rfl rfl fun h₈ tk₈ F₈ sb₈ => wpAny_pure ?_)))
    have sb₇ : Heap.SameBut L h₆ h₇ := sb₇
    have sb₈ : Heap.SameBut L h₇ h₈ := sb₈
    have up₈ : ∀ b o, ¬ OwnA (eW L) b → h₆.get? b = some o → h₈.get? b = some o := fun b o hb x => sb₈.extBut b o (fun q => hb (q ▸ own_locals)) (sb₇.extBut b o (fun q => hb (q ▸ own_locals)) x)
    have nA₈ : Nums h₈ nA ns' := hN'.at fun o x => up₈ _ o hno (up₆ _ o (Ne.symm (liveN dE)) (Ne.symm (liveN dI)) x)
    refine law_step (s := { s with heap := h₈, toks := tk₈ }) (i := i) (v := kv) F₈ ((upd_ne (by decide)).trans upd_eq) upd_eq cN nA₈ hnl ?_
    intro h₉ tk₉ ns₉ hl₉ hN₉ kx₉
    have kx₉ : Kx (· = nA) h₈ h₉ := kx₉
    refine ⟨vs.length + 1 - (i + 1), by (exact Nat.sub_lt_sub_left (Nat.lt_succ_of_lt (by assumption)) (Nat.lt_succ_self _)), h₉, tk₉, _, ns₉, i + 1, .int kv tv, rfl, ?_, ?_, ?_, F₈.kx kx₉ (fun b hb q => hno (q ▸ hb)), fun x h1 h2 => (upd_ne h2).trans ((upd_ne h1).trans (hm' x h1 h2)), hl₉, hN₉, hlt, rfl, fun b o hb hbn hbe hbi x => ?_⟩
    · have : ((i + 1 : Nat) : Int) = (i : Int) + 1 := by push_cast; rfl
      (refine rwR this ?_)
      exact kx₉ _ _ (liveN dE) (up₈ _ _ eO (hx₆ _ _ (by (refine rwR hz₅ ?_); exact Nat.ne_of_lt (Nat.lt_succ_of_lt heH)) he₅))
    · refine (hit₄.extBut hs₅.extBut (Ne.symm eIne)).at fun o x => kx₉ _ _ (liveN dI) (up₈ _ _ iO (hx₆ _ _ (by (refine rwR hz₅ ?_); exact Nat.ne_of_lt (Nat.lt_succ_of_lt hiH)) x))
    · exact hl'.at fun o x => kx₉ _ _ hsn (up₈ _ _ hso (up₆ _ _ (Ne.symm (liveS dE)) (Ne.symm (liveS dI)) x))
    · exact kx₉ _ _ hbn (up₈ _ _ hb (up₆ _ _ hbe hbi (hk b o hb hbn hbe hbi x)))
end
end Mine
end
section
open PySem PySem.Calls PySem.W PyProof.Rows
set_option maxRecDepth 100000
set_option genInjectivity false
set_option genSizeOf false
set_option genSizeOfSpec false
namespace Mine
inductive JobsAt (h : Heap) (r : Addr) (n : Nat) : Prop
  | mk (t u z : Tok) (e : IsRange h r 0 n 1 t u z) : JobsAt h r n
theorem JobsAt.at {h h' : Heap} {r : Addr} {n : Nat} (x : JobsAt h r n) (k : ∀ o, h.get? r = some o → h'.get? r = some o) : JobsAt h' r n := let ⟨t, u, z, e⟩ := x; ⟨t, u, z, k _ e⟩
theorem JobsAt.keeps {h h' : Heap} {r : Addr} {n : Nat} (x : JobsAt h r n) (k : Kp h h') : JobsAt h' r n := x.at fun o e => k _ o e
noncomputable abbrev RP (n : Nat) (i : Nat) (v : Value) : Prop := i < n ∧ ∃ t, v = .int (0 + i * 1) t
theorem range_ints (n : Nat) : ((List.range n).map fun j => (0 : Int) + (j : Nat) * 1) = toI (List.range n) := by
  unfold toI; exact List.map_congr_left fun j _ => by (with_reducible exact Mine.zi _)
theorem made_ints {h₀ h : Heap} {n : Nat} {F : Value → Value → List (Addr × Obj) → Prop} {ys : List Value} {f : Nat → Int} (M : MadeL h₀ n (RP n) (fun _ => true) F ys h) (hF : ∀ (i : Nat) t y as, F (.int i t) y as → isI (f i) y) : IntsAre ys ((List.range n).map f) := by
  have x := M.ints (ns := toI (List.range n)) (q := fun _ => true) (f := fun i => f i.toNat) (fun vs h1 h2 => by (refine rwL (range_ints _) ?_); exact ints_of_range h1 h2) (fun i t _ => rfl) (fun i t y as hi hf => by
    obtain ⟨j, _, rfl⟩ : ∃ j ∈ List.range n, (j : Int) = i := by simpa [toI] using hi
    simpa using hF j t y as hf)
  (replace x := (filter_tt _) ▸ x)
  have : (toI (List.range n)).map (fun i => f i.toNat) = (List.range n).map f := by
    unfold toI; (refine rwR List.map_map ?_); exact List.map_congr_left fun j _ => by simp
  rwa [this] at x
theorem made_rows {h₀ h : Heap} {G : Nat → Obj → Prop} {l : List Nat} {vs ys : List Value} (x : IntsAre vs (toI l))
    (y : All2 (fun v y => Made1 h₀ (fun v y as => ∃ (i : Nat) (t : Tok) (D : Addr) (o : Obj), v = .int i t ∧ y = .ref D ∧ as = [(D, o)] ∧ G i o) v y h) vs ys) :
    ∃ rows : List Addr, ys = rows.map Value.ref ∧ All2 (fun r i => h₀.get? r = none ∧ ∃ o, h.get? r = some o ∧ G i o) rows l := by
  induction l generalizing vs ys with
  | nil => cases x; cases y; exact ⟨[], rfl, .nil⟩
  | cons j l ih =>
    cases x with
    | cons _ t0 x =>
      cases y with
      | cons y t =>
        refine el1_2 (ih x t) fun rows e1 e2 => ?_
        obtain ⟨as, has, i, t', D, o, ev, r1_, r2_, hG⟩ := y
        try clear y
        obtain rfl := r1_
        obtain rfl := r2_
        have ej : j = i := by cases ev; rfl
        subst ej
        refine el0_2 (has (D, o) (List.mem_singleton.mpr rfl)) fun a1 a2 => ?_
        exact ⟨D :: rows, by (refine rwR e1 ?_); rfl, .cons ⟨a1, o, a2, hG⟩ e2⟩
theorem all2_range {α : Type} {F : α → Nat → Prop} {rows : List α} {n : Nat} (x : All2 F rows (List.range n)) : rows.length = n ∧ ∀ (i : Nat) r, rows[i]? = some r → F r i := by
  refine ⟨by (refine rwR x.length ?_); simp, fun i r e => ?_⟩
  refine el1_2 (all2_get x e) fun b eb hb => ?_
  have : b = i := by
    have hi : i < n := by
      have := (List.getElem?_eq_some_iff.mp eb).1
      simpa using this
    (replace eb := (List.getElem?_range hi) ▸ eb)
    exact (Option.some.inj eb).symm
  exact this ▸ hb
section
variable {prog : Program} {w : World} {A : Around} {E : Value → Shared → Prop} {s : Shared} {h : Heap} {env : Env}
theorem itr_jobs {r : Addr} {n : Nat} (hh : A.handled = none) (hn : n ≤ 1000) (x : JobsAt h r n) : Itr prog w A h (.ref r) n (RP n) := by
  obtain ⟨t, u, z, e⟩ := x; exact ⟨_, itr_range1 hh (by (exact Nat.le_trans (by assumption) (by decide))) e⟩
theorem gi_num {value slice : Expr} {pos : Pos} {nA : Addr} {ns : List Int} {j : Nat} (hN : Nums h nA ns) (hj : j < ns.length) (hz : ns.length ≤ 1000) (x : GV prog w A h (eval value env) (.ref nA)) (y : GI prog w A h (eval slice env) j) (hsl : ∀ o i, subscripted slice false o i = operate [o, i] (getItem o i)) :
    GI prog w A h (eval (.Subscript value slice pos) env) (ns.getD j 0) := by
  refine el1_2 hN fun vs hvs hvi => ?_
  try clear hN
  have ej : ns[j]? = some (ns.getD j 0) := by (refine rwR (List.getD_eq_getElem?_getD) ?_; refine rwR (List.getElem?_eq_getElem hj) ?_); rfl
  refine el1_1 (IntsAre.get hvi ej) fun t et => ?_
  exact gv_int (g_item (l := nA) (k := (j : Nat)) (items := List.toArray vs) (v := .int (ns.getD j 0) t) x y hvs (by lia) (by lia) (by simpa using et) hsl)
theorem gi_numk {value slice : Expr} {pos : Pos} {nA : Addr} {ns : List Int} {j : Nat} {k : Int} (hkk : ns.getD j 0 = k) (hN : Nums h nA ns) (hj : j < ns.length) (hz : ns.length ≤ 1000) (x : GV prog w A h (eval value env) (.ref nA)) (y : GI prog w A h (eval slice env) j) (hsl : ∀ o i, subscripted slice false o i = operate [o, i] (getItem o i)) :
    GI prog w A h (eval (.Subscript value slice pos) env) k := by (refine rwL hkk ?_); exact gi_num hN hj hz x y hsl
theorem LI.nums {l : Addr} {ns : List Int} (x : LI h l ns) : Nums h l ns := let ⟨vs, a, b⟩ := x; ⟨vs, a.isList, b⟩
theorem Nums.keeps {h h' : Heap} {a : Addr} {ns : List Int} (x : Nums h a ns) (k : Kp h h') : Nums h' a ns := x.at fun o e => k _ o e
theorem law_numbers {L : Addr} : Gives prog w A h (eval (asgVal (lwBody.getD 0 ps)) (eW L)) (fun v h' => ∃ D, v = .ref D ∧ h.get? D = none ∧ Nums h' D [0, 0, 14, 8, 3, 2, 12]) := fun s E hs => by
  refine wpAny_List ?_
  refine wpAny_items_cons (g_int.use hs fun v1 h1 t1 k1 e1 => ?_)
  refine wpAny_items_cons (g_int.use (hs.trans k1) fun v2 h2 t2 k2 e2 => ?_)
  refine wpAny_items_cons (g_int.use ((hs.trans k1).trans k2) fun v3 h3 t3 k3 e3 => ?_)
  refine wpAny_items_cons (g_int.use (((hs.trans k1).trans k2).trans k3) fun v4 h4 t4 k4 e4 => ?_)
  refine wpAny_items_cons (g_int.use ((((hs.trans k1).trans k2).trans k3).trans k4) fun v5 h5 t5 k5 e5 => ?_)
  refine wpAny_items_cons (g_int.use (((((hs.trans k1).trans k2).trans k3).trans k4).trans k5) fun v6 h6 t6 k6 e6 => ?_)
  refine wpAny_items_cons (g_int.use ((((((hs.trans k1).trans k2).trans k3).trans k4).trans k5).trans k6) fun v7 h7 t7 k7 e7 => ?_)
  refine wpAny_items_nil ⟨by (refine rwR sizeLine_eq ?_); simp, ⟨_, rfl, ?_, [v1, v2, v3, v4, v5, v6, v7], ⟨_, Heap.get?_push_size _ rfl, rfl, 0, rfl⟩, ?_⟩, _, _, rfl, ((((((k1.trans k2).trans k3).trans k4).trans k5).trans k6).trans k7).trans (Kp.push _ _)⟩
  · cases e : h.get? h7.objs.size with
    | none => rfl
    | some o => exact absurd (Heap.lt_size (k7 _ _ (k6 _ _ (k5 _ _ (k4 _ _ (k3 _ _ (k2 _ _ (k1 _ _ (hs _ _ e))))))))) (Nat.lt_irrefl _)
  · refine el1_1 e1 fun _ r3_ => ?_
    try clear e1
    obtain rfl := r3_
    refine el1_1 e2 fun _ r4_ => ?_
    try clear e2
    obtain rfl := r4_
    refine el1_1 e3 fun _ r5_ => ?_
    try clear e3
    obtain rfl := r5_
    refine el1_1 e4 fun _ r6_ => ?_
    try clear e4
    obtain rfl := r6_
    refine el1_1 e5 fun _ r7_ => ?_
    try clear e5
    obtain rfl := r7_
    refine el1_1 e6 fun _ r8_ => ?_
    try clear e6
    obtain rfl := r8_
    refine el1_1 e7 fun _ r9_ => ?_
    try clear e7
    obtain rfl := r9_
    exact .cons _ _ (.cons _ _ (.cons _ _ (.cons _ _ (.cons _ _ (.cons _ _ (.cons _ _ .nil))))))
theorem law_jobs {L nA : Addr} {m cm : Str → Option Value} {ns : List Int} (S : Sta w h) (F : Fra (eW L) h m cm) (cN : cm "numbers" = some (.ref nA)) (hN : Nums h nA ns) (hl : ns.length = 7) :
    Gives prog w A h (eval (asgVal (lwBody.getD 2 ps)) (eW L)) (fun v h' => ∃ r, v = .ref r ∧ JobsAt h' r (4 + (ns.getD 0 0 % 3).toNat)) := by
  have e : (((4 + (ns.getD 0 0 % 3).toNat : Nat)) : Int) = 4 + ns.getD 0 0 % 3 := by lia
  refine (g_range1 (n := 4 + (ns.getD 0 0 % 3).toNat) (n_range S rfl rfl rfl rfl) ?_).mono fun v h' _ ⟨r, t, u, z, e1, e2⟩ => ⟨r, e1, t, u, z, e2⟩
  (refine rwR e ?_)
  exact gi_add g_int (gi_mod (by decide) (by decide) (gi_num (j := 0) hN (by lia) (by lia) (g_cell rfl rfl rfl (F.cellIs (x := "numbers") rfl cN)) g_int (fun _ _ => rfl)) g_int)
noncomputable def beOf (ns : List Int) (j : Nat) : Int := ns.getD (1 + j) 0 % 7
noncomputable def enOf (ns : List Int) (j : Nat) : Int := beOf ns j + ns.getD (1 + j) 0 / 7 % 4
theorem job_cast {i : Nat} {v : Value} {n : Nat} (h : RP n i v) : i < n ∧ ∃ t, v = .int (i : Nat) t := by
  obtain ⟨h1, t, r10_⟩ := h
  try clear h
  obtain rfl := r10_
  exact ⟨h1, t, by (refine rwR (show (0 + (i : Int) * 1) = ((i : Nat) : Int) by (with_reducible exact Mine.zi _)) ?_; with_reducible rfl)⟩
theorem law_begin {L nA r : Addr} {m cm : Str → Option Value} {n : Nat} {ns : List Int} (hA : Ok 5 A) (F : Fra (eW L) h m cm) (cN : cm "numbers" = some (.ref nA)) (hN : Nums h nA ns) (hl : ns.length = 7) (cJ : cm "jobs" = some (.ref r)) (hJ : JobsAt h r n) (hn : n ≤ 6) :
    Gives prog w A h (eval (asgVal (lwBody.getD 3 ps)) (eW L)) (fun v h' => ∃ D, v = .ref D ∧ h.get? D = none ∧ LI h' D ((List.range n).map (beOf ns))) := by
  refine (CompRun.gives (comp_local (n := n) (P := RP n) (cl := [("numbers", L + 1)]) rfl (by decide) rfl (by (exact Nat.le_trans (by assumption) (by decide)))
    (g_cell rfl rfl rfl (F.cellIs (x := "jobs") rfl cJ)) (fun x h1 hk hx => by subst hx; exact itr_jobs hA.hd (by (exact Nat.le_trans (by assumption) (by decide))) (hJ.keeps hk))
    (fun _ => true) (fun v y as => as = [] ∧ ∃ (i : Nat) (t : Tok), v = .int i t ∧ isI (beOf ns i) y) (fun C i v h' m' hk hP hm hv => gives_tests_nil) ?_) rfl rfl (by decide) (fun _ => rfl)).mono ?_
  · intro C i v h' m' hk hP _ hm hv
    obtain ⟨hi, t, r11_⟩ := job_cast hP
    obtain rfl := r11_
    refine (gi_mod (i := ns.getD (1 + i) 0) (by decide) (by decide) (gi_num (j := 1 + i) (hN.keeps hk) (by lia) (by lia) (g_cell rfl rfl rfl ((F.cellIs (x := "numbers") rfl cN).keeps hk)) ?_ (fun _ _ => rfl)) g_int).mono fun v h'' _ hv => ⟨[], by simp, rfl, i, t, rfl, hv⟩
    have : ((1 + i : Nat) : Int) = 1 + (i : Int) := by lia
    (refine rwR this ?_)
    exact gi_add g_int (gv_int (g_local rfl rfl hm hv))
  · intro v h' hk z12_
    refine el2_4 z12_ fun D ys r13_ h1 h2 h3 => ?_
    try clear z12_
    obtain rfl := r13_
    exact ⟨D, rfl, h1, ys, h2, made_ints h3 fun i t y as hf => by obtain ⟨_, i', t', e, hy⟩ := hf; cases e; exact hy⟩
theorem law_end {L nA r aB : Addr} {m cm : Str → Option Value} {n : Nat} {ns : List Int} (hA : Ok 5 A) (F : Fra (eW L) h m cm) (cN : cm "numbers" = some (.ref nA)) (hN : Nums h nA ns) (hl : ns.length = 7) (cJ : cm "jobs" = some (.ref r)) (hJ : JobsAt h r n) (hn : n ≤ 6) (cB : cm "begin" = some (.ref aB)) (hB : LI h aB ((List.range n).map (beOf ns))) :
    Gives prog w A h (eval (asgVal (lwBody.getD 4 ps)) (eW L)) (fun v h' => ∃ D, v = .ref D ∧ h.get? D = none ∧ LI h' D ((List.range n).map (enOf ns))) := by
  refine (CompRun.gives (comp_local (n := n) (P := RP n) (cl := [("numbers", L + 1), ("begin", L + 1 + 1 + 1)]) rfl (by decide) rfl (by (exact Nat.le_trans (by assumption) (by decide)))
    (g_cell rfl rfl rfl (F.cellIs (x := "jobs") rfl cJ)) (fun x h1 hk hx => by subst hx; exact itr_jobs hA.hd (by (exact Nat.le_trans (by assumption) (by decide))) (hJ.keeps hk))
    (fun _ => true) (fun v y as => as = [] ∧ ∃ (i : Nat) (t : Tok), v = .int i t ∧ isI (enOf ns i) y) (fun C i v h' m' hk hP hm hv => gives_tests_nil) ?_) rfl rfl (by decide) (fun _ => rfl)).mono ?_
  · intro C i v h' m' hk hP _ hm hv
    obtain ⟨hi, t, r14_⟩ := job_cast hP
    obtain rfl := r14_
    have hb : ((List.range n).map (beOf ns)).getD i 0 = beOf ns i := by (refine rwR (List.getD_eq_getElem?_getD) ?_; refine rwR (List.getElem?_map) ?_; refine rwR (List.getElem?_range hi) ?_); rfl
    refine (gi_add (gi_numk (j := i) hb (hB.keeps hk).nums (by simpa using hi) (by simp; (exact Nat.le_trans (by assumption) (by decide))) (g_cell rfl rfl rfl ((F.cellIs (x := "begin") rfl cB).keeps hk)) (gv_int (g_local rfl rfl hm hv)) (fun _ _ => rfl)) (gi_mod (i := ns.getD (1 + i) 0 / 7) (by decide) (by decide) (gi_div (by decide) (by decide) (gi_num (j := 1 + i) (hN.keeps hk) (by lia) (by lia) (g_cell rfl rfl rfl ((F.cellIs (x := "numbers") rfl cN).keeps hk)) ?_ (fun _ _ => rfl)) g_int) g_int)).mono fun v h'' _ hv => ⟨[], by simp, rfl, i, t, rfl, hv⟩
    have : ((1 + i : Nat) : Int) = 1 + (i : Int) := by lia
    (refine rwR this ?_)
    exact gi_add g_int (gv_int (g_local rfl rfl hm hv))
  · intro v h' hk z15_
    refine el2_4 z15_ fun D ys r16_ h1 h2 h3 => ?_
    try clear z15_
    obtain rfl := r16_
    exact ⟨D, rfl, h1, ys, h2, made_ints h3 fun i t y as hf => by obtain ⟨_, i', t', e, hy⟩ := hf; cases e; exact hy⟩
end
end Mine
end
section
open PySem PySem.Calls PySem.W PyProof.Rows
set_option maxRecDepth 100000
set_option genInjectivity false
set_option genSizeOf false
set_option genSizeOfSpec false
namespace Mine
noncomputable def ahOf (ns : List Int) (a b : Nat) : Bool := decide (enOf ns a < beOf ns b)
noncomputable def ndOf (n : Nat) (ah : Nat → Nat → Bool) (b : Nat) : List Nat := (((List.range n).filter fun a => ah a b).map fun a => List.replicate (1 + (a + b) % 2) a).flatten
theorem mem_ndOf {n : Nat} {ah : Nat → Nat → Bool} {a b : Nat} : a ∈ ndOf n ah b ↔ a < n ∧ ah a b = true := by
  unfold ndOf
  simp only [List.mem_flatten, List.mem_map, List.mem_filter, List.mem_range]
  constructor
  · intro z1_
    refine el1_2 z1_ fun l q2_ ha => ?_
    try clear z1_
    refine el1_2 q2_ fun x hx r3_ => ?_
    try clear q2_
    obtain rfl := r3_
    rw [List.mem_replicate] at ha
    (refine rwR ha.2 ?_); exact hx
  · intro h
    exact ⟨_, ⟨a, h, rfl⟩, by (refine rwR (propext List.mem_replicate) ?_); exact ⟨by lia, rfl⟩⟩
theorem len_flat {f : Nat → List Nat} (hf : ∀ a, (f a).length ≤ 2) : ∀ l : List Nat, ((l.map f).flatten).length ≤ 2 * l.length
  | [] => by simp
  | x :: l => by have h1 := hf x; have h2 := len_flat hf l; (refine rwR List.map_cons ?_; refine rwR List.flatten_cons ?_; refine rwR List.length_append ?_; refine rwR List.length_cons ?_); lia
theorem len_ndOf (n : Nat) (ah : Nat → Nat → Bool) (b : Nat) : (ndOf n ah b).length ≤ 2 * n := by
  have h1 := len_flat (f := fun a => List.replicate (1 + (a + b) % 2) a) (fun a => by (refine rwR List.length_replicate ?_); lia) ((List.range n).filter fun a => ah a b)
  have h2 := List.length_filter_le (fun a => ah a b) (List.range n)
  (replace h2 := List.length_range ▸ h2)
  unfold ndOf
  lia
theorem made_vals {h₀ h : Heap} {n : Nat} {g : Nat → Value} {ys : List Value} (M : MadeL h₀ n (RP n) (fun _ => true) (fun v y as => as = [] ∧ ∃ (i : Nat) (t : Tok), v = .int i t ∧ y = g i) ys h) : ys = (List.range n).map g := by
  obtain ⟨vs, h1, h2, h3⟩ := M
  try clear M
  (replace h3 := (filter_tt _) ▸ h3)
  have hi : IntsAre vs (toI (List.range n)) := by (refine rwL (range_ints _) ?_); exact ints_of_range h1 h2
  have key : ∀ {l : List Nat} {vs ys : List Value}, IntsAre vs (toI l) → All2 (fun v y => Made1 h₀ (fun v y as => as = [] ∧ ∃ (i : Nat) (t : Tok), v = .int i t ∧ y = g i) v y h) vs ys → ys = l.map g := by
    intro l
    induction l with
    | nil => intro vs ys a b; cases a; cases b; rfl
    | cons j l ih =>
      intro vs ys a b
      cases a with
      | cons _ t0 x =>
        cases b with
        | cons y t =>
          obtain ⟨as, _, _, i, t', ev, r4_⟩ := y
          try clear y
          obtain rfl := r4_
          have : j = i := by cases ev; rfl
          subst this
          (refine rwR (ih x t) ?_); rfl
  exact key hi h3
section
variable {prog : Program} {w : World} {A : Around} {E : Value → Shared → Prop} {s : Shared} {h : Heap} {env : Env}
theorem getD_map {f : Nat → Int} {n i : Nat} (hi : i < n) : ((List.range n).map f).getD i 0 = f i := by (refine rwR (List.getD_eq_getElem?_getD) ?_; refine rwR (List.getElem?_map) ?_; refine rwR (List.getElem?_range hi) ?_); rfl
theorem law_ahead {L r aB aE : Addr} {m cm : Str → Option Value} {n : Nat} {ns : List Int} (hA : Ok 5 A) (F : Fra (eW L) h m cm) (cJ : cm "jobs" = some (.ref r)) (hJ : JobsAt h r n) (hn : n ≤ 6) (cB : cm "begin" = some (.ref aB)) (hB : LI h aB ((List.range n).map (beOf ns))) (cE : cm "end" = some (.ref aE)) (hE : LI h aE ((List.range n).map (enOf ns))) :
    Gives prog w A h (eval (asgVal (lwBody.getD 5 ps)) (eW L)) (fun v h' => ∃ D, v = .ref D ∧ h.get? D = none ∧ MatAt h' D n (ahOf ns)) := by
  refine (CompRun.gives (comp_cell (n := n) (P := RP n) (cl := [("jobs", L + 1 + 1), ("end", L + 1 + 1 + 1 + 1), ("begin", L + 1 + 1 + 1)]) rfl (fun _ _ => rfl) rfl (by (exact Nat.le_trans (by assumption) (by decide)))
    (g_cell rfl rfl rfl (F.cellIs (x := "jobs") rfl cJ)) (fun x h1 hk hx => by subst hx; exact itr_jobs hA.hd (by (exact Nat.le_trans (by assumption) (by decide))) (hJ.keeps hk))
    (fun _ => true) (fun v y as => ∃ (i : Nat) (t : Tok) (D : Addr) (o : Obj), v = .int i t ∧ y = .ref D ∧ as = [(D, o)] ∧ ∃ k, o = ({ cls := .type "list", data := .seq (List.toArray ((List.range n).map fun j => Value.bool (ahOf ns i j))) k } : Obj)) (fun C i v h' hk hP hv => gives_tests_nil) ?_) rfl rfl (by decide) (fun _ => rfl)).mono ?_
  · intro C i v h' hk hP _ hv
    obtain ⟨hi, t, r5_⟩ := job_cast hP
    obtain rfl := r5_
    refine (CompRun.gives (comp_local (n := n) (P := RP n) (cl := [("end", L + 1 + 1 + 1 + 1), ("begin", L + 1 + 1 + 1), ("a", C + 1)]) rfl (by decide) rfl (by (exact Nat.le_trans (by assumption) (by decide)))
      (g_cell rfl rfl rfl ((F.cellIs (x := "jobs") rfl cJ).keeps hk)) (fun x h1 hk1 hx => by subst hx; exact itr_jobs hA.hd (by (exact Nat.le_trans (by assumption) (by decide))) (hJ.keeps (hk.trans hk1)))
      (fun _ => true) (fun v y as => as = [] ∧ ∃ (j : Nat) (t : Tok), v = .int j t ∧ y = Value.bool (ahOf ns i j)) (fun C i v h' m' hk hP hm hv => gives_tests_nil) ?_) rfl rfl (by decide) (fun _ => rfl)).mono ?_
    · intro C' j v2 h2 m2 hk2 hP2 _ hm2 hv2
      obtain ⟨hj, t2, r6_⟩ := job_cast hP2
      obtain rfl := r6_
      have k2 := hk.trans hk2
      refine (gv_lt (gi_numk (j := i) (getD_map hi) (hE.keeps k2).nums (by simpa using hi) (by simp; (exact Nat.le_trans (by assumption) (by decide))) (g_cell rfl rfl rfl ((F.cellIs (x := "end") rfl cE).keeps k2)) (gv_int (g_cell rfl rfl rfl (hv.keeps hk2))) (fun _ _ => rfl))
        (gi_numk (j := j) (getD_map hj) (hB.keeps k2).nums (by simpa using hj) (by simp; (exact Nat.le_trans (by assumption) (by decide))) (g_cell rfl rfl rfl ((F.cellIs (x := "begin") rfl cB).keeps k2)) (gv_int (g_local rfl rfl hm2 hv2)) (fun _ _ => rfl))).mono fun v h'' _ hv => ⟨[], by simp, rfl, j, t2, rfl, hv⟩
    · intro v2 h2 hk2 z7_
      refine el2_4 z7_ fun D ys r8_ h1 q9_ h3 => ?_
      try clear z7_
      obtain rfl := r8_
      refine el1_1 q9_ fun kk hkk => ?_
      try clear q9_
      have e := made_vals h3
      (replace hkk := e ▸ hkk)
      refine ⟨[(D, _)], fun q hq => ?_, i, t, D, _, rfl, rfl, rfl, kk, rfl⟩
      (refine rwR (List.mem_singleton.mp hq) ?_)
      exact ⟨h1, hkk⟩
  · intro v h' hk z10_
    obtain ⟨D, ys, r11_, h1, h2, vs, e1, e2, h3⟩ := z10_
    try clear z10_
    obtain rfl := r11_
    (replace h3 := (filter_tt _) ▸ h3)
    have hi : IntsAre vs (toI (List.range n)) := by (refine rwL (range_ints _) ?_); exact ints_of_range e1 e2
    obtain ⟨rows, rfl, hrows⟩ := made_rows (G := fun i o => ∃ k, o = ({ cls := .type "list", data := .seq (List.toArray ((List.range n).map fun j => Value.bool (ahOf ns i j))) k } : Obj)) hi h3
    refine el0_2 (all2_range hrows) fun rl rr => ?_
    refine ⟨D, rfl, h1, rows, rl, h2, fun i r e => ?_⟩
    obtain ⟨_, o, eo, kk, r12_⟩ := rr i r e
    obtain rfl := r12_
    exact ⟨kk, eo⟩
theorem rep_ints {a : Int} {t : Tok} : ∀ k : Nat, IntsAre (List.replicate k (.int a t)) (List.replicate k a)
  | 0 => .nil
  | k + 1 => by (refine rwR List.replicate_succ ?_; refine rwR List.replicate_succ ?_); exact .cons _ _ (rep_ints k)
theorem same_rep {v : Value} {us zs : List Value} (x : All2 (fun _ z => z = v) us zs) : zs = List.replicate us.length v := by
  induction x with
  | nil => rfl
  | cons h _ ih => (refine rwR ih ?_; refine rwR h ?_); rfl
theorem needs_conv {b : Nat} {ah : Nat → Nat → Bool} {l : List Nat} {vs : List Value} {zss : List (List Value)} (y : IntsAre vs (toI l))
    (x : All2 (Inner (fun v => match v with | .int a _ => 1 + (a.toNat + b) % 2 | _ => 0) (fun v j u => j < (match v with | .int a _ => 1 + (a.toNat + b) % 2 | _ => 0) ∧ ∃ t, u = .int (0 + j * 1) t) (fun _ _ => true) (fun v _ z => z = v)) (vs.filter fun v => match v with | .int a _ => ah a.toNat b | _ => false) zss) :
    IntsAre zss.flatten (toI (((l.filter fun a => ah a b).map fun a => List.replicate (1 + (a + b) % 2) a).flatten)) := by
  induction l generalizing vs zss with
  | nil => cases y; cases x; exact .nil
  | cons a l ih =>
    cases y with
    | cons _ t0 y =>
      (replace x := List.filter_cons ▸ x)
      (refine rwR List.filter_cons ?_)
      by_cases c : ah a b = true
      · (refine rwR (if_pos c) ?_)
        have x' := (if_pos (show ah (a : Int).toNat b = true from c) ▸ x : All2 _ (Value.int (a : Int) t0 :: _) zss)
        cases x' with
        | cons h t =>
          refine el1_3 h fun us u1 u2 u3 => ?_
          try clear h
          (replace u3 := (filter_tt _) ▸ u3)
          (refine rwR (same_rep u3) ?_; refine rwR u1 ?_; refine rwR List.flatten_cons ?_; refine rwR List.map_cons ?_; refine rwR List.flatten_cons ?_)
          have e2 : toI (List.replicate (1 + (a + b) % 2) a ++ ((l.filter fun a => ah a b).map fun a => List.replicate (1 + (a + b) % 2) a).flatten) = List.replicate (1 + (a + b) % 2) (a : Int) ++ toI (((l.filter fun a => ah a b).map fun a => List.replicate (1 + (a + b) % 2) a).flatten) := by
            unfold toI; (refine rwR List.map_append ?_; refine rwR List.map_replicate ?_; with_reducible rfl)
          (refine rwR e2 ?_)
          exact IntsAre.append (rep_ints _) (ih y t)
      · (refine rwR (if_neg c) ?_)
        have x' := (if_neg (show ¬ ah (a : Int).toNat b = true from c) ▸ x : All2 _ _ zss)
        exact ih y x'
theorem law_needs {L r aA : Addr} {m cm : Str → Option Value} {n : Nat} {ah : Nat → Nat → Bool} {Q : Flow → Shared → Prop} (hA : Ok 5 A) (S : Sta w s.heap) (F : Fra (eW L) s.heap m cm) (cJ : cm "jobs" = some (.ref r)) (hJ : JobsAt s.heap r n) (hn : n ≤ 6) (cA : cm "ahead" = some (.ref aA)) (hM : MatAt s.heap aA n ah)
    (k : ∀ D h' tk, s.heap.get? D = none → NdAt h' D n (ndOf n ah) → Fra (eW L) h' (upd m "needs" (.ref D)) cm → (∀ b o, b ≠ L → s.heap.get? b = some o → h'.get? b = some o) → Q .next { s with heap := h', toks := tk }) :
    wpAny (model prog w) A (exec (lwBody.getD 6 ps) (eW L)) Q E s := by
  refine CompRun.assign (h := s.heap) (comp_cell (n := n) (P := RP n) (cl := [("jobs", L + 1 + 1), ("ahead", L + 1 + 1 + 1 + 1 + 1)]) rfl (fun _ _ => rfl) rfl (by (exact Nat.le_trans (by assumption) (by decide)))
    (g_cell rfl rfl rfl (F.cellIs (x := "jobs") rfl cJ)) (fun x h1 hk hx => by subst hx; exact itr_jobs hA.hd (by (exact Nat.le_trans (by assumption) (by decide))) (hJ.keeps hk))
    (fun _ => true) (fun v y as => ∃ (i : Nat) (t : Tok) (D : Addr) (o : Obj), v = .int i t ∧ y = .ref D ∧ as = [(D, o)] ∧ ∃ us k, IntsAre us (toI (ndOf n ah i)) ∧ o = ({ cls := .type "list", data := .seq (List.toArray us) k } : Obj)) (fun C i v h' hk hP hv => gives_tests_nil) ?_) rfl rfl rfl (by decide) (fun _ => rfl) rfl rfl (Kp.refl _) F.ns ?_
  · intro C i v h' hk hP _ hv
    obtain ⟨hi, t, r13_⟩ := job_cast hP
    obtain rfl := r13_
    have S' := S.keeps hk
    refine (CompRun.gives (comp_two (n := n) (B := 2) (P := RP n) (cl := [("b", C + 1), ("ahead", L + 1 + 1 + 1 + 1 + 1)])
      (Rit' := fun v x h' => ∃ (a : Nat) (t : Tok) (rr : Addr), v = .int a t ∧ x = .ref rr ∧ JobsAt h' rr (1 + (a + i) % 2))
      (fun v => match v with | .int a _ => 1 + (a.toNat + i) % 2 | _ => 0) (fun v j u => j < (match v with | .int a _ => 1 + (a.toNat + i) % 2 | _ => 0) ∧ ∃ t, u = .int (0 + j * 1) t) (fun v => match v with | .int a _ => ah a.toNat i | _ => false) (fun _ _ => true) (fun v _ z => z = v)
      rfl (fun _ _ => rfl) (by decide) rfl rfl (by decide) (by (exact Nat.le_trans (by assumption) (by decide))) ?_ (by decide)
      (g_cell rfl rfl rfl ((F.cellIs (x := "jobs") rfl cJ).keeps hk)) (fun x h1 hk1 hx => by subst hx; exact itr_jobs hA.hd (by (exact Nat.le_trans (by assumption) (by decide))) (hJ.keeps (hk.trans hk1))) ?_ ?_ ?_ ?_ ?_) rfl rfl (by decide) (fun _ => rfl)).mono ?_
    · intro v
      cases v <;> simp
      lia
    · intro C' a v2 h2 m2 hk2 hP2 hm2 hv2
      obtain ⟨ha, t2, r14_⟩ := job_cast hP2
      obtain rfl := r14_
      have k2 := hk.trans hk2
      refine gives_tests_one ((gb_plain (g_mat (hM.keeps k2) ha hi (by (exact Nat.le_trans (by assumption) (by decide))) (g_cell rfl rfl rfl ((F.cellIs (x := "ahead") rfl cA).keeps k2)) (gv_int (g_local rfl rfl hm2 hv2)) (gv_int (g_cell rfl rfl rfl (hv.keeps hk2))) (fun _ _ => rfl) (fun _ _ => rfl)) rfl).mono fun b _ _ hb => ?_)
      (refine rwR hb ?_); simp
    · intro C' a v2 h2 m2 hk2 hP2 _ hm2 hv2
      obtain ⟨ha, t2, r15_⟩ := job_cast hP2
      obtain rfl := r15_
      refine (g_range1 (n := 1 + (a + i) % 2) (n_range (S'.keeps hk2) rfl rfl rfl rfl) ?_).mono fun v h'' _ ⟨rr, t, u, z, e1, e2⟩ => ⟨a, t2, rr, rfl, e1, t, u, z, e2⟩
      have : ((1 + (a + i) % 2 : Nat) : Int) = 1 + ((a : Int) + (i : Int)) % 2 := by lia
      (refine rwR this ?_)
      exact gi_add g_int (gi_mod (by decide) (by decide) (gi_add (gv_int (g_local rfl rfl hm2 hv2)) (gv_int (g_cell rfl rfl rfl (hv.keeps hk2)))) g_int)
    · intro a v2 xv h2 hk2 hP2 z16_
      obtain ⟨a', t2, rr, r17_, r18_, u1, u2, u3, hr⟩ := z16_
      try clear z16_
      obtain rfl := r17_
      obtain rfl := r18_
      refine ⟨[], ?_, by simp⟩
      have I := itr_range1 (prog := prog) (w := w) (A := A) hA.hd (by lia) hr
      have e : (1 + (a' + i) % 2) = 1 + ((a' : Int).toNat + i) % 2 := by simp
      (replace I := e ▸ I)
      exact I
    · intro C' a v2 j u h2 m2 hk2 hP2 hP3 hm2 hv2 hu2
      exact gives_tests_nil
    · intro C' a v2 j u h2 m2 hk2 hP2 hP3 _ hm2 hv2 hu2
      exact (g_local rfl rfl hm2 hv2).mono fun z _ _ hz => hz
    · intro v2 h2 hk2 z19_
      obtain ⟨D, ys, r20_, h1, q21_, vs', zss, r22_, e1, e2, h3⟩ := z19_
      try clear z19_
      obtain rfl := r20_
      refine el1_1 q21_ fun kk hkk => ?_
      try clear q21_
      obtain rfl := r22_
      have hi' : IntsAre vs' (toI (List.range n)) := by (refine rwL (range_ints _) ?_); exact ints_of_range e1 e2
      have hz := needs_conv hi' h3
      refine ⟨[(D, _)], fun q hq => ?_, i, t, D, _, rfl, rfl, rfl, zss.flatten, kk, hz, rfl⟩
      (refine rwR (List.mem_singleton.mp hq) ?_)
      exact ⟨h1, hkk⟩
  · intro D vs h' tk hD hDL hl hM' hns hkk
    obtain ⟨us, e1, e2, h3⟩ := hM'
    try clear hM'
    (replace h3 := (filter_tt _) ▸ h3)
    have hi : IntsAre us (toI (List.range n)) := by (refine rwL (range_ints _) ?_); exact ints_of_range e1 e2
    obtain ⟨rows, rfl, hrows⟩ := made_rows (G := fun i o => ∃ us k, IntsAre us (toI (ndOf n ah i)) ∧ o = ({ cls := .type "list", data := .seq (List.toArray us) k } : Obj)) hi h3
    refine el0_2 (all2_range hrows) fun rl rr => ?_
    refine k D h' tk hD ⟨rows, rl, hl, fun i r e => ?_⟩ ⟨hns, fun nm c e => ?_, F.apart, F.above⟩ hkk
    · obtain ⟨_, o, eo, us, kk, hus, r23_⟩ := rr i r e
      obtain rfl := r23_
      exact ⟨us, ⟨kk, eo⟩, hus⟩
    · refine el1_2 (F.cell nm c e) fun o ho hd => ?_
      exact ⟨o, hkk _ _ (Nat.ne_of_gt (F.above nm c (mem_of_lookup e))) ho, hd⟩
theorem law_followers {L r aA : Addr} {m cm : Str → Option Value} {n : Nat} {ah : Nat → Nat → Bool} {Q : Flow → Shared → Prop} (hA : Ok 5 A) (S : Sta w s.heap) (F : Fra (eW L) s.heap m cm) (cJ : cm "jobs" = some (.ref r)) (hJ : JobsAt s.heap r n) (hn : n ≤ 6) (cA : cm "ahead" = some (.ref aA)) (hM : MatAt s.heap aA n ah)
    (k : ∀ D h' tk, s.heap.get? D = none → LI h' D ((List.range n).map fun j => (cnt n (ah j) : Int)) → Fra (eW L) h' (upd m "followers" (.ref D)) cm → (∀ b o, b ≠ L → s.heap.get? b = some o → h'.get? b = some o) → Q .next { s with heap := h', toks := tk }) :
    wpAny (model prog w) A (exec (lwBody.getD 7 ps) (eW L)) Q E s := by
  refine CompRun.assign (h := s.heap) (comp_cell (n := n) (P := RP n) (cl := [("jobs", L + 1 + 1), ("ahead", L + 1 + 1 + 1 + 1 + 1)]) rfl (fun _ _ => rfl) rfl (by (exact Nat.le_trans (by assumption) (by decide)))
    (g_cell rfl rfl rfl (F.cellIs (x := "jobs") rfl cJ)) (fun x h1 hk hx => by subst hx; exact itr_jobs hA.hd (by (exact Nat.le_trans (by assumption) (by decide))) (hJ.keeps hk))
    (fun _ => true) (fun v y as => as = [] ∧ ∃ (i : Nat) (t : Tok), v = .int i t ∧ isI (cnt n (ah i) : Int) y) (fun C i v h' hk hP hv => gives_tests_nil) ?_) rfl rfl rfl (by decide) (fun _ => rfl) rfl rfl (Kp.refl _) F.ns ?_
  · intro C i v h' hk hP _ hv
    obtain ⟨hi, t, r24_⟩ := job_cast hP
    obtain rfl := r24_
    have S' := S.keeps hk
    refine (g_call1 (R := fun v _ => isI (cnt n (ah i) : Int) v) (n_len S' rfl rfl rfl rfl) (CompRun.gives (comp_local (n := n) (P := RP n) (cl := [("ahead", L + 1 + 1 + 1 + 1 + 1), ("a", C + 1)]) rfl (by decide) rfl (by (exact Nat.le_trans (by assumption) (by decide)))
      (g_cell rfl rfl rfl ((F.cellIs (x := "jobs") rfl cJ).keeps hk)) (fun x h1 hk1 hx => by subst hx; exact itr_jobs hA.hd (by (exact Nat.le_trans (by assumption) (by decide))) (hJ.keeps (hk.trans hk1)))
      (fun v => match v with | .int b _ => ah i b.toNat | _ => false) (fun v y as => as = [] ∧ y = v) ?_ ?_) rfl rfl (by decide) (fun _ => rfl)) ?_ rfl).mono fun v h'' _ hv => ⟨[], by simp, rfl, i, t, rfl, hv⟩
    · intro C' b v2 h2 m2 hk2 hP2 hm2 hv2
      obtain ⟨hb, t2, r25_⟩ := job_cast hP2
      obtain rfl := r25_
      have k2 := hk.trans hk2
      refine gives_tests_one ((gb_plain (g_mat (hM.keeps k2) hi hb (by (exact Nat.le_trans (by assumption) (by decide))) (g_cell rfl rfl rfl ((F.cellIs (x := "ahead") rfl cA).keeps k2)) (gv_int (g_cell rfl rfl rfl (hv.keeps hk2))) (gv_int (g_local rfl rfl hm2 hv2)) (fun _ _ => rfl) (fun _ _ => rfl)) rfl).mono fun b _ _ hb => ?_)
      (refine rwR hb ?_); simp
    · intro C' b v2 h2 m2 hk2 hP2 _ hm2 hv2
      exact (g_local rfl rfl hm2 hv2).mono fun v h'' hk hv => ⟨[], by simp, rfl, hv⟩
    · intro v2 h2 hk2 z26_
      refine el2_4 z26_ fun D ys r27_ h1 h2' h3 => ?_
      try clear z26_
      obtain rfl := r27_
      have x := h3.ints (ns := toI (List.range n)) (q := fun b => ah i b.toNat) (f := id) (fun vs h1 h2 => by (refine rwL (range_ints _) ?_); exact ints_of_range h1 h2) (fun i t _ => rfl) (fun i t y as _ hf => ⟨t, hf.2⟩)
      have hl : ys.length = cnt n (ah i) := by
        (refine rwR (IntsAre.len x) ?_; refine rwR (List.map_id _) ?_)
        unfold toI cnt
        (refine rwR List.filter_map ?_; refine rwR (List.length_map _) ?_)
        congr 1
      have hle : cnt n (ah i) ≤ n := by unfold cnt; have := List.length_filter_le (ah i) (List.range n); simpa using this
      intro s' E' hs'
      refine call_len_list ((h2'.at fun o e => hs' _ o e).isList) (by (refine rwR List.size_toArray ?_); lia) ⟨⟨s'.toks + 1, by (refine rwR List.size_toArray ?_; refine rwR hl ?_; with_reducible rfl)⟩, toks_keeps s' _⟩
  · intro D vs h' tk hD hDL hl hM' hns hkk
    refine k D h' tk hD ⟨vs, hl, made_ints hM' fun i t y as hf => by obtain ⟨_, i', t', e, hy⟩ := hf; cases e; exact hy⟩ ⟨hns, fun nm c e => ?_, F.apart, F.above⟩ hkk
    refine el1_2 (F.cell nm c e) fun o ho hd => ?_
    exact ⟨o, hkk _ _ (Nat.ne_of_gt (F.above nm c (mem_of_lookup e))) ho, hd⟩
end
end Mine
end
section
open PySem PySem.Calls PySem.W PyProof.Rows
set_option maxRecDepth 100000
set_option genInjectivity false
set_option genSizeOf false
set_option genSizeOfSpec false
namespace Mine
noncomputable def hdBody : List Stmt := forBody (lwBody.getD 8 ps)
noncomputable def LT (w : World) (n : Nat) (ah : Nat → Nat → Bool) (r aA aN aF : Addr) (h : Heap) : Prop := Sta w h ∧ JobsAt h r n ∧ MatAt h aA n ah ∧ NdAt h aN n (ndOf n ah) ∧ LI h aF ((List.range n).map fun j => (cnt n (ah j) : Int))
section
variable {prog : Program} {w : World} {A : Around} {E : Value → Shared → Prop} {s : Shared} {h : Heap} {env : Env}
theorem g_callK2 {x : Str} {p pos : Pos} {e1 e2 : Expr} {f : Addr} {R1 R2 R : Value → Heap → Prop} (S : Sta w h) (hk : keepIn (K w) (.ref f) = true) (fn : GV prog w A h (eval (.Name x p) env) (.ref f)) (a : Gives prog w A h (eval e1 env) R1) (b : Gives prog w A h (eval e2 env) R2) (m1 : ∀ v a b, Kp a b → R1 v a → R1 v b)
    (c : ∀ v u h', Kp h h' → R1 v h' → R2 u h' → Gives prog w A h' (call (.ref f) [v, u]) R) (hst : starEach [e1, e2] env = [(false, eval e1 env), (false, eval e2 env)] := by rfl) : Gives prog w A h (eval (.Call (.Name x p) [e1, e2] [] pos) env) R := fun s E hs => by
  refine PyProof.Rows.Call_Name2 (fn.useV hs fun h1 t1 hk1 => ?_) hst
  refine callWith_of rfl (keeps_K hk) (evalArgs_plain (spliced_cons (a.use (hs.trans hk1) fun v h2 t2 hk2 hv => spliced_cons (b.use ((hs.trans hk1).trans hk2) fun u h3 t3 hk3 hu => spliced_nil ⟨S.X.keeps (((hs.trans hk1).trans hk2).trans hk3), ?_⟩))))
  exact (c v u h3 (((hs.trans hk1).trans hk2).trans hk3) (m1 _ _ _ hk3 hv) hu).use (Kp.refl _) fun v h4 t4 hk4 hv => ⟨hv, h4, t4, rfl, ((hk1.trans hk2).trans hk3).trans hk4⟩
theorem call3 {x : Str} {p pos : Pos} {e1 e2 e3 : Expr} {f : Addr} {v1 v2 v3 : Value} {Q : Value → Shared → Prop} (S : Sta w s.heap) (hk : keepIn (K w) (.ref f) = true) (fn : GV prog w A s.heap (eval (.Name x p) env) (.ref f)) (a : GV prog w A s.heap (eval e1 env) v1) (b : GV prog w A s.heap (eval e2 env) v2) (c : GV prog w A s.heap (eval e3 env) v3)
    (k : ∀ h' tk, Kp s.heap h' → wpAny (model prog w) A (call (.ref f) [v1, v2, v3]) Q E { s with heap := h', toks := tk }) (hst : starEach [e1, e2, e3] env = [(false, eval e1 env), (false, eval e2 env), (false, eval e3 env)] := by rfl) :
    wpAny (model prog w) A (eval (.Call (.Name x p) [e1, e2, e3] [] pos) env) Q E s := by
  refine Call_Name (by (refine rwR hst ?_; with_reducible rfl)) (fn.useV (Kp.refl _) fun h1 t1 hk1 => ?_)
  refine callWith_of rfl (keeps_K hk) (evalArgs_plain (spliced_cons (a.use hk1 fun u1 h2 t2 hk2 hu1 => spliced_cons (b.use (hk1.trans hk2) fun u2 h3 t3 hk3 hu2 => spliced_cons (c.use ((hk1.trans hk2).trans hk3) fun u3 h4 t4 hk4 hu3 => spliced_nil ⟨S.X.keeps (((hk1.trans hk2).trans hk3).trans hk4), ?_⟩)))))
  subst hu1 hu2 hu3
  exact k h4 t4 (((hk1.trans hk2).trans hk3).trans hk4)
theorem bits_ne {n mask : Nat} (h1 : 1 ≤ mask) (h2 : mask < 2 ^ n) : bitsOf n mask ≠ [] := fun e => by
  have := maskOf_bitsOf n mask h2
  (replace this := e ▸ this)
  simp [maskOf] at this
  lia
theorem law_hours {L r aA aN aF fwA lf : Addr} {rs : List Addr} {m cm : Str → Option Value} {n hands : Nat} {ah : Nat → Nat → Bool} {be en : Nat → Int} {fw : List Int} {lefts : List (List Nat)} {Q : Flow → Shared → Prop} (hA : Ok 10 A) (hn : n ≤ 6)
    (hah : ∀ a b, a < n → b < n → ah a b = decide (en a < be b)) (FO : FwOk n hands ah fw) (hfl : fw.length = 2 ^ n) (H : Hours n hands ah lefts) (hlz : lefts.length ≤ n + 1)
    (F : Fra (eW L) s.heap m cm) (Z : Fz (OwnA (eW L)) (fun h => LT w n ah r aA aN aF h ∧ LI h fwA fw ∧ LLr h lf rs (toII lefts)) s.heap) (mf : m "fewest" = some (.ref fwA)) (ml : m "lefts" = some (.ref lf))
    (k : ∀ h' tk m', Fra (eW L) h' m' cm → (∀ x : Str, x ≠ "hour" → m' x = m x) → Kx (OwnA (eW L)) s.heap h' → Q .next { s with heap := h', toks := tk }) :
    wpAny (model prog w) A (exec (hdBody.getD 3 ps) (eW L)) Q E s := by
  have p6 : (2 : Nat) ^ n ≤ 2 ^ 6 := Nat.pow_le_pow_right (by decide) hn
  refine el0_3 Z.now fun q1_ _ hls => ?_
  refine el0_2 q1_ fun S₀ _ => ?_
  try clear q1_
  have rl : ∀ {h : Heap}, LLr h lf rs (toII lefts) → rs.length = lefts.length := fun x => by (refine rwR x.2.length ?_); simp [toII]
  have hrl := rl hls
  have glen : ∀ {h : Heap} {m' : Str → Option Value} {p1 p2 p3 : Pos}, Sta w h → LLr h lf rs (toII lefts) → Fra (eW L) h m' cm → m' "lefts" = some (.ref lf) → GI prog w A h (eval (.Call (.Name "len" p1) [.Name "lefts" p2] [] p3) (eW L)) (lefts.length : Nat) := fun {h m' p1 p2 p3} S x F e => by
    have := gi_len (prog := prog) (w := w) (A := A) (env := eW L) (p := p1) (e := .Name "lefts" p2) (pos := p3) (n_len S rfl rfl rfl rfl) (g_local rfl rfl F.ns e) x.1.isList (by simp; lia)
    simpa [hrl] using this
  refine for_fz (σ := (Str → Option Value)) (n := lefts.length) (P := RP lefts.length) (src := []) (fun _ => OwnA (eW L)) (fun i y h => Fra (eW L) h y cm ∧ (∀ x : Str, x ≠ "hour" → y x = m x)) (fun _ _ h => LT w n ah r aA aN aF h ∧ LI h fwA fw ∧ LLr h lf rs (toII lefts)) (OwnA (eW L)) m
    (g_range1 (n_range S₀ rfl rfl rfl rfl) (glen S₀ hls F ml)) (fun xv h1 hk hx => by obtain ⟨r, t, u, z, rfl, hr⟩ := hx; exact itr_range1 hA.hd (by lia) hr) (fun _ => rfl) (by simp) F.live (fun _ => id) ?_ ⟨F, fun _ _ => rfl⟩ Z ?_ ?_
  · intro i y h h' z2_ hk
    refine el0_2 z2_ fun h1 h2 => ?_
    try clear z2_
    exact ⟨h1.frame hk, h2⟩
  · intro i m₁ Fr' v h tk E' Q' hi hP z3_ Z₁ lv₁ hMF hFF hK hFd q
    refine el0_2 z3_ fun F₁ hm => ?_
    try clear z3_
    obtain ⟨_, t, r4_⟩ := job_cast hP
    obtain rfl := r4_
    refine wpAny_assign_Name (fra_local F₁ rfl rfl fun h₂ tk₂ F₂ sb₂ => ?_)
    have kx₂ : Kx (OwnA (eW L)) h h₂ := Kx.same sb₂ own_locals
    have Z₂ := Z₁.step' (kx₂.mono hMF)
    refine el0_3 Z₂.now fun q5_ LF₂ ll₂ => ?_
    refine el0_2 q5_ fun S₂ _ => ?_
    try clear q5_
    have m₂ : ∀ x : Str, x ≠ "hour" → upd m₁ "hour" (.int (i : Nat) t) x = m x := fun x hx => (upd_ne hx).trans (hm x hx)
    obtain ⟨l, el⟩ : ∃ l, lefts[i]? = some l := ⟨lefts[i]'hi, by simp⟩
    obtain ⟨ra, era⟩ : ∃ ra, rs[i]? = some ra := ⟨rs[i]'(by (exact Nat.lt_of_lt_of_le (by assumption) (Nat.le_of_eq (Eq.symm (by assumption))))), by simp⟩
    have PL := plain_law hah FO hfl H (lefts.length - 1 - i) i l (by (exact (congrArg (· + 1) (Nat.add_sub_cancel' (Nat.le_sub_one_of_lt hi))).trans (Nat.sub_add_cancel (Nat.lt_of_le_of_lt (Nat.zero_le _) hi)))) el
    have hsub := H.sub l (List.mem_of_getElem? el)
    have hml := maskOf_lt hsub
    refine el1_2 (all2_get ll₂.2 era) fun ns en' hLl => ?_
    have ens : ns = toI l := by
      unfold toII at en'
      (replace en' := (List.getElem?_map) ▸ en'; replace en' := el ▸ en')
      exact (Option.some.inj en').symm
    subst ens
    show wpAny _ _ (execs [(forBody (hdBody.getD 3 ps)).getD 0 ps] (eW L)) _ _ _
    refine wpAny_execs_cons (wpAny_If ((gb_ne (prog := prog) (w := w) (A := A) (h := h₂) (env := eW L) (i := ((lefts.length - 1 - i : Nat) : Int)) (j := (lefts.length : Int) - 1 - (i : Int))
      (gi_numk (j := maskOf l) (by (refine rwR (List.getD_eq_getElem?_getD) ?_; refine rwR PL ?_); rfl) LF₂.nums (by (exact Nat.lt_of_lt_of_le (by assumption) (Nat.le_of_eq (Eq.symm (by assumption))))) (by (exact Nat.le_trans (Nat.le_of_eq (by assumption)) (Nat.le_trans (by assumption) (by decide)))) (g_local rfl rfl F₂.ns ((m₂ _ (by decide)).trans mf))
        (g_summask (cl := []) (p := l) (r := ra) hA.hd hLl (fun j hj => by have := List.mem_range.mp (hsub.subset hj); (exact Nat.le_trans (Nat.le_of_lt (by assumption)) (Nat.le_trans (by assumption) (by decide)))) (by have := hsub.length_le; (replace this := List.length_range ▸ this); lia) (n_sum S₂ rfl rfl rfl rfl)
          (g_item (l := lf) (k := (i : Nat)) (items := List.toArray (rs.map Value.ref)) (g_local rfl rfl F₂.ns ((m₂ _ (by decide)).trans ml)) (gv_int (g_local rfl rfl F₂.ns upd_eq)) ll₂.1.isList (by lia) (by lia) (by simp [era]) (fun _ _ => rfl))
          rfl (by decide) rfl (fun C h' m' j t hk hm hj hz => gi_pow2 (by (exact Nat.le_trans (by assumption) (by decide))) g_int (gv_int (g_local rfl rfl hm hj))) rfl (by decide) (fun _ => rfl) rfl) (fun _ _ => rfl))
      (gi_sub (gi_sub (glen S₂ ll₂ F₂ ((m₂ _ (by decide)).trans ml)) g_int) (gv_int (g_local rfl rfl F₂.ns upd_eq)))).use (Kp.refl _) fun b h₃ tk₃ hk₃ hb => ?_))
    have e0 : ((lefts.length - 1 - i : Nat) : Int) = (lefts.length : Int) - 1 - (i : Int) := by (exact (Int.ofNat_sub (Nat.le_sub_one_of_lt hi)).trans (congrArg (· - (i : Int)) (Int.ofNat_sub (Nat.lt_of_le_of_lt (Nat.zero_le _) hi))))
    (replace hb := e0 ▸ hb)
    have hb : b = false := by (refine rwR hb ?_); simp
    subst hb
    refine wpAny_execs_nil ?_
    refine wpAny_execs_nil ?_
    have kx : Kx (OwnA (eW L)) h h₃ := kx₂.trans' (Kx.of hk₃)
    refine q .next (upd m₁ "hour" (.int (i : Nat) t)) h₃ tk₃ (.inl rfl) ⟨F₂.keeps hk₃, m₂⟩ kx (fun _ => id) (fun _ => .inl) (F₂.keeps hk₃).live ?_
    exact (Z₁.step' (kx.mono hMF)).mono fun b hb => hb.elim id (hMF b)
  · intro m₁ h' tk z6_ Z₁ lv₁ hK _
    refine el0_2 z6_ fun F₁ hm => ?_
    try clear z6_
    exact k h' tk m₁ F₁ hm hK
end
end Mine
end
section
open PySem PySem.Calls PySem.W PyProof.Rows
set_option maxRecDepth 100000
set_option genInjectivity false
set_option genSizeOf false
set_option genSizeOfSpec false
namespace Mine
section
variable {prog : Program} {w : World} {A : Around} {E : Value → Shared → Prop} {s : Shared} {h : Heap} {env : Env}
theorem g_lenJobs {e : Expr} {p pos : Pos} {r : Addr} {n : Nat} (hJ : JobsAt h r n) (hn : n ≤ 1000) (f : GV prog w A h (eval (.Name "len" p) env) (.builtin "len")) (x : GV prog w A h (eval e env) (.ref r)) (hs : starEach [e] env = [(false, eval e env)] := by rfl) :
    GI prog w A h (eval (.Call (.Name "len" p) [e] [] pos) env) n :=
  g_call1 f x (fun v h' hk hv => by
    subst hv
    obtain ⟨t, u, z, e⟩ := hJ
    try clear hJ
    exact fun s E hs => call_len_range (n := n) (hs _ _ (hk _ _ e)) (by (refine rwR (rangeSize_one _ _) ?_); split <;> lia) (by lia) ⟨⟨_, rfl⟩, toks_keeps s _⟩) hs
theorem own_not_list {m cm : Str → Option Value} {l : Addr} {xs : List Value} (F : Fra env h m cm) (x : h.PlainList l (List.toArray xs)) : ¬ OwnA env l := fun q => by
  refine el1_1 x fun kk e => ?_
  try clear x
  rcases q with rfl | ⟨nm, q⟩
  · refine el3_3 F.ns fun o es ep ho hd _ => ?_
    (replace ho := e ▸ ho)
    cases ho
    cases hd
  · refine el1_2 (F.cell nm l q) fun o ho hd => ?_
    (replace ho := e ▸ ho)
    cases ho
    cases hd
theorem all2_rows {rs : List Addr} {nss : List (List Int)} (x : All2 (fun r ns => LI h r ns) rs nss) : ∀ r ∈ rs, ∃ xs, h.PlainList r (List.toArray xs) := fun r hr => by
  obtain ⟨ns, _, vs, y, _⟩ := all2_mem x hr
  exact ⟨vs, y⟩
theorem fra_kf {L : Addr} {h' : Heap} {m cm : Str → Option Value} (F : Fra (eW L) h m cm) (kf : Kf [L] (fun _ => False) h h') : Fra (eW L) h' m cm := by
  refine ⟨ns_slots F.ns fun o e => kf.slot L o List.mem_cons_self id e, fun nm c hc => ?_, F.apart, F.above⟩
  refine el1_2 (F.cell nm c hc) fun o ho hd => ?_
  exact ⟨o, kf.keep c o id (fun q => by
    have : L < c := F.above nm c (mem_of_lookup hc)
    (replace this := (List.mem_singleton.mp q) ▸ this)
    exact Nat.lt_irrefl _ this) ho, hd⟩
theorem law_hands {L r aA aN aF : Addr} {m cm : Str → Option Value} {n : Nat} {ah : Nat → Nat → Bool} {be en : Nat → Int} {rk : Nat → Nat} {Q : Flow → Shared → Prop} (hA : Ok 50 A) (hfr : A.frames = some [eW L]) (hn : n ≤ 6)
    (hah : ∀ a b, a < n → b < n → ah a b = decide (en a < be b)) (hrk : ∀ a b, a < n → b < n → ah a b = true → rk a < rk b)
    (F : Fra (eW L) s.heap m cm) (Z : Fz (OwnA (eW L)) (LT w n ah r aA aN aF) s.heap) (cJ : cm "jobs" = some (.ref r)) (cA : cm "ahead" = some (.ref aA)) (mN : m "needs" = some (.ref aN)) (mF : m "followers" = some (.ref aF))
    (k : ∀ h' tk m', Fra (eW L) h' m' cm → Kx (OwnA (eW L)) s.heap h' → Q .next { s with heap := h', toks := tk }) :
    wpAny (model prog w) A (exec (lwBody.getD 8 ps) (eW L)) Q E s := by
  refine el0_3 Z.now fun S₀ J₀ _ => ?_
  refine for_fz (σ := (Str → Option Value)) (n := n) (P := fun i v => i < n ∧ ∃ t, v = .int ((1 : Nat) + i * 1) t) (src := []) (fun _ => OwnA (eW L)) (fun i y h => Fra (eW L) h y cm ∧ (∀ x : Str, x ≠ "hands" → x ≠ "fewest" → x ≠ "lefts" → x ≠ "hour" → y x = m x)) (fun _ _ h => LT w n ah r aA aN aF h) (OwnA (eW L)) m
    (g_range2 (a := (1 : Nat)) (b := ((1 + n : Nat) : Int)) (n_range S₀ rfl rfl rfl rfl) g_int ?_) (fun xv h1 hk hx => by obtain ⟨r, t, u, z, rfl, hr⟩ := hx; exact itr_range2 hA.hd (by lia) hr) (fun _ => rfl) (by simp) F.live (fun _ => id) ?_ ⟨F, fun _ _ _ _ _ => rfl⟩ Z ?_ ?_
  · have e : ((1 + n : Nat) : Int) = (n : Int) + 1 := by lia
    (refine rwR e ?_)
    exact gi_add (g_lenJobs J₀ (by (exact Nat.le_trans (by assumption) (by decide))) (n_len S₀ rfl rfl rfl rfl) (g_cell rfl rfl rfl (F.cellIs (x := "jobs") rfl cJ))) g_int
  · intro i y h h' z1_ hk
    refine el0_2 z1_ fun h1 h2 => ?_
    try clear z1_
    exact ⟨h1.frame hk, h2⟩
  · intro i m₁ Fr' v h tk E' Q' hi z2_ z3_ Z₁ lv₁ hMF hFF hK hFd q
    obtain ⟨_, t, r4_⟩ := z2_
    try clear z2_
    obtain rfl := r4_
    refine el0_2 z3_ fun F₁ hm => ?_
    try clear z3_
    have ei : (((1 : Nat) : Int) + (i : Int) * 1) = ((i + 1 : Nat) : Int) := by lia
    (refine rwR ei ?_)
    refine wpAny_assign_Name (fra_local F₁ rfl rfl fun h₂ tk₂ F₂ sb₂ => ?_)
    have kx₂ : Kx (OwnA (eW L)) h h₂ := Kx.same sb₂ own_locals
    have Z₂ : Fz (OwnA (eW L)) (LT w n ah r aA aN aF) h₂ := (Z₁.mono hMF).step' kx₂
    have m₂h : upd m₁ "hands" (.int ((i + 1 : Nat) : Int) t) "hands" = some (.int ((i + 1 : Nat) : Int) t) := upd_eq
    have m₂ : ∀ x : Str, x ≠ "hands" → x ≠ "fewest" → x ≠ "lefts" → x ≠ "hour" → upd m₁ "hands" (.int ((i + 1 : Nat) : Int) t) x = m x := fun x h1 h2 h3 h4 => (upd_ne h1).trans (hm x h1 h2 h3 h4)
    generalize upd m₁ "hands" (.int ((i + 1 : Nat) : Int) t) = mm at F₂ m₂h m₂
    refine el0_4 Z₂.now fun S₂ J₂ M₂ _ => ?_
    show wpAny _ _ (execs [hdBody.getD 0 ps, hdBody.getD 1 ps, hdBody.getD 2 ps, hdBody.getD 3 ps] (eW L)) _ _ _
    refine wpAny_execs_cons (asg_local (h0 := h₂) (t0 := tk₂) (h := h₂) (R := fun v h' => ∃ D fw, v = .ref D ∧ h₂.get? D = none ∧ LI h' D fw ∧ FwOk n (i + 1) ah fw ∧ fw.length = 2 ^ n) F₂ rfl rfl
      (g_callK2 (R1 := fun v _ => v = .ref aA) (R2 := fun v _ => v = .int ((i + 1 : Nat) : Int) t) S₂ (k_keepf w 151 (by simp)) (g_global S₂ (gl_fewest w) rfl rfl rfl) (g_cell rfl rfl rfl (F₂.cellIs (x := "ahead") rfl cA)) (g_local rfl rfl F₂.ns m₂h) (fun _ _ _ _ e => e) ?_) (Kp.refl _) rfl ?_)
    · rintro v u h' hk rfl rfl
      refine (call_fewest (n := n) (hands := i + 1) (ah := ah) (hA.mono (by decide)) (S₂.keeps hk) (M₂.keeps hk) (by (exact Nat.le_trans (by assumption) (by decide))) (by lia) ?_).mono fun v h'' _ zx => el2_3 zx fun D fw e1 e2 e3 => ⟨D, fw, e1, dead_kp hk e2, e3⟩
      intro mask h1 h2
      refine el1_2 (least (rk := rk) (bits_ne h1 h2)) fun x hx hx' => ?_
      refine ⟨x, hx, fun a ha => ?_⟩
      cases e : ah a x with
      | false => rfl
      | true =>
        have q1 := hrk a x (bitsOf_lt ha) (bitsOf_lt hx) e
        have q2 := hx' a ha
        lia
    intro v h₃ h₄ tk₄ z5_ hk₃ sb₄ F₄
    refine el2_5 z5_ fun fwA fw r6_ fwn hfw FO hfl => ?_
    try clear z5_
    obtain rfl := r6_
    have hk₃ : Kp h₂ h₃ := hk₃
    have kx₄ : Kx (OwnA (eW L)) h₃ h₄ := Kx.same sb₄ own_locals
    have fwo : ¬ OwnA (eW L) fwA := Live.not F₂.live fwn
    have hfw₄ : LI h₄ fwA fw := hfw.at fun o e => kx₄ _ o fwo e
    have kO₄ : Kx (OwnA (eW L)) h₂ h₄ := (Kx.of hk₃).trans' kx₄
    have Z₄ := Z₂.step' kO₄
    refine el0_5 Z₄.now fun S₄ J₄ M₄ N₄ L₄ => ?_
    have m₄f : upd mm "fewest" (.ref fwA) "fewest" = some (.ref fwA) := upd_eq
    have m₄h : upd mm "fewest" (.ref fwA) "hands" = some (.int ((i + 1 : Nat) : Int) t) := (upd_ne (by decide)).trans m₂h
    have m₄ : ∀ x : Str, x ≠ "hands" → x ≠ "fewest" → x ≠ "lefts" → x ≠ "hour" → upd mm "fewest" (.ref fwA) x = m x := fun x h1 h2 h3 h4 => (upd_ne h2).trans (m₂ x h1 h2 h3 h4)
    generalize upd mm "fewest" (.ref fwA) = m4 at F₄ m₄f m₄h m₄
    refine wpAny_execs_cons (wpAny_Assign_Name (call3 (s := { s with heap := h₄, toks := tk₄ }) S₄ (k_keepf w 146 (by simp)) (g_global S₄ (gl_lefts w) rfl rfl rfl) (g_local rfl rfl F₄.ns ((m₄ _ (by decide) (by decide) (by decide) (by decide)).trans mN)) (g_local rfl rfl F₄.ns ((m₄ _ (by decide) (by decide) (by decide) (by decide)).trans mF)) (g_local rfl rfl F₄.ns m₄h) ?_))
    intro h₅ tk₅ hk₅
    have hk₅ : Kp h₄ h₅ := hk₅
    have F₅ := F₄.keeps hk₅
    have Z₅ := Z₄.step' (Kx.of hk₅)
    have ff : h₅.FunFrames noHeap [eW L] := by
      refine el3_3 F₅.ns fun o es ep ho hd _ => ?_
      exact ⟨(by show ScopeKind.function ≠ ScopeKind.module; decide), ⟨L, o, rfl, noHeap_get _, ho, fun vs => by (refine rwR hd ?_); simp⟩, trivial⟩
    have kfx : ∀ {h' : Heap}, Kf [L] (fun _ => False) h₅ h' → Kx (OwnA (eW L)) h₅ h' := fun kf b o hb e => kf.keep b o id (fun q => hb (List.mem_singleton.mp q ▸ own_locals)) e
    refine call_lefts (s := { s with heap := h₅, toks := tk₅ }) (outer := [eW L]) (aN := aN) (aF := aF) (n := n) (hands := i + 1) (nd := ndOf n ah) (rk := rk) (ah := ah) (fol := (List.range n).map fun j => (cnt n (ah j) : Int)) (hA.mono (by decide)) hfr ff ?_ ?_ hn (by lia) ?_ ?_ ?_ ?_ ?_
    · intro h' kx
      exact (Z₅ h' (fun b o hb e => kx b o (fun q => hb (by have q : b ∈ [L] := q; exact List.mem_singleton.mp q ▸ own_locals)) e)).1
    · intro h' kf
      have kf : Kf [L] (fun _ => False) h₅ h' := kf
      refine el0_5 (Z₅ h' (kfx kf)) fun a1 _ _ a4 a5 => ?_
      exact ⟨a1, a4, a5⟩
    · intro a b ha hb
      (refine rwR (propext mem_ndOf) ?_)
      exact ⟨fun q => q.2, fun q => ⟨ha, q⟩⟩
    · intro j hj
      have := len_ndOf n ah j
      exact ⟨by lia, fun a ha => (mem_ndOf.mp ha).1⟩
    · intro b hb a ha
      refine el0_2 (mem_ndOf.mp ha) fun q1 q2 => ?_
      exact hrk a b q1 hb q2
    · intro j hj
      (refine rwR (List.getElem?_map) ?_; refine rwR (List.getElem?_range hj) ?_); rfl
    intro h₆ tk₆ lf rs lefts kf₆ lfn hll HH hlz
    have kf₆ : Kf [L] (fun _ => False) h₅ h₆ := kf₆
    have lfn : h₅.get? lf = none := lfn
    have F₆ := fra_kf F₅ kf₆
    have kx₆ := kfx kf₆
    refine fra_local F₆ rfl rfl fun h₇ tk₇ F₇ sb₇ => ?_
    have kx₇ : Kx (OwnA (eW L)) h₆ h₇ := Kx.same sb₇ own_locals
    have lfo : ¬ OwnA (eW L) lf := own_not_list F₆ hll.1
    have rso : ∀ r ∈ rs, ¬ OwnA (eW L) r := fun r hr => by obtain ⟨xs, hx⟩ := all2_rows hll.2 r hr; exact own_not_list F₆ hx
    have Zll₇ : Fz (OwnA (eW L)) (fun h => LLr h lf rs (toII lefts)) h₇ := (LLr.fz hll lfo rso).step' kx₇
    have k47 : Kx (OwnA (eW L)) h₄ h₇ := ((Kx.of hk₅).trans' kx₆).trans' kx₇
    have Zfw₇ : Fz (OwnA (eW L)) (fun h => LI h fwA fw) h₇ := (Fz.li hfw₄ fwo).step' k47
    have Z₇ := Z₄.step' k47
    have m₇f : upd m4 "lefts" (.ref lf) "fewest" = some (.ref fwA) := (upd_ne (by decide)).trans m₄f
    have m₇l : upd m4 "lefts" (.ref lf) "lefts" = some (.ref lf) := upd_eq
    have m₇ : ∀ x : Str, x ≠ "hands" → x ≠ "fewest" → x ≠ "lefts" → x ≠ "hour" → upd m4 "lefts" (.ref lf) x = m x := fun x h1 h2 h3 h4 => (upd_ne h3).trans (m₄ x h1 h2 h3 h4)
    generalize upd m4 "lefts" (.ref lf) = m7 at F₇ m₇f m₇l m₇
    refine wpAny_execs_cons (wpAny_If (wpAny_isTrue_Compare1 ((g_local (prog := prog) (w := w) (A := A) (h := h₇) rfl rfl F₇.ns m₇l).useV (Kp.refl _) fun h₈ tk₈ hk₈ => ?_)))
    refine (g_none (prog := prog) (w := w) (A := A) (h := h₈)).useV (Kp.refl _) fun h₉ tk₉ hk₉ => ?_
    refine is_none (wpAny_truthy_bool ?_)
    (refine rwR (show (Value.ref lf == Value.none) = false from rfl) ?_; refine rwR (if_neg (by decide)) ?_)
    refine wpAny_execs_nil ?_
    have k79 : Kp h₇ h₉ := hk₈.trans hk₉
    refine wpAny_execs_cons (law_hours (s := { s with heap := h₉, toks := tk₉ }) (r := r) (aA := aA) (aN := aN) (aF := aF) (hands := i + 1) (hA.mono (by decide)) hn hah FO hfl HH hlz (F₇.keeps k79) (((Z₇.and (Zfw₇.and Zll₇)).step' (Kx.of k79)).imp fun _ z => z) m₇f m₇l ?_)
    intro h₁₀ tk₁₀ m₁₀ F₁₀ hm₁₀ kx₁₀
    have kx₁₀ : Kx (OwnA (eW L)) h₉ h₁₀ := kx₁₀
    refine wpAny_execs_nil ?_
    have kx : Kx (OwnA (eW L)) h h₁₀ := (((kx₂.trans' kO₄).trans' k47).trans' (Kx.of k79)).trans' kx₁₀
    refine q .next m₁₀ h₁₀ tk₁₀ (.inl rfl) ⟨F₁₀, fun x h1 h2 h3 h4 => (hm₁₀ x h4).trans (m₇ x h1 h2 h3 h4)⟩ kx (fun _ => id) (fun _ => .inl) F₁₀.live ?_
    exact (Z₁.step' (kx.mono hMF)).mono fun b hb => hb.elim id (hMF b)
  · intro m₁ h' tk z7_ Z₁ lv₁ hK _
    refine el0_2 z7_ fun F₁ hm => ?_
    try clear z7_
    exact k h' tk m₁ F₁ hK
end
end Mine
end
section
open PySem PySem.Calls PySem.W PyProof.Rows
set_option maxRecDepth 100000
set_option genInjectivity false
set_option genSizeOf false
set_option genSizeOfSpec false
namespace Mine
theorem be_nonneg (ns : List Int) (j : Nat) : 0 ≤ beOf ns j := by unfold beOf; lia
theorem be_le_en (ns : List Int) (j : Nat) : beOf ns j ≤ enOf ns j := by unfold enOf; lia
section
variable {prog : Program} {w : World} {A : Around} {E : Value → Shared → Prop} {s : Shared} {h : Heap} {env : Env} {m cm : Str → Option Value}
theorem fz_li {l : Addr} {ns : List Int} (F : Fra env h m cm) (x : LI h l ns) : Fz (OwnA env) (fun h => LI h l ns) h := by
  obtain ⟨vs, y, _⟩ := id x
  exact Fz.li x (own_not_list F y)
theorem fz_mat {a : Addr} {n : Nat} {ah : Nat → Nat → Bool} (F : Fra env h m cm) (x : MatAt h a n ah) : Fz (OwnA env) (fun h => MatAt h a n ah) h := fun h' k => by
  obtain ⟨rows, h1, h2, h3⟩ := x
  try clear x
  exact ⟨rows, h1, h2.at fun o e => k _ o (own_not_list F h2) e, fun i r e => (h3 i r e).at fun o e' => k _ o (own_not_list F (h3 i r e)) e'⟩
theorem fz_nd {a : Addr} {n : Nat} {nd : Nat → List Nat} (F : Fra env h m cm) (x : NdAt h a n nd) : Fz (OwnA env) (fun h => NdAt h a n nd) h := fun h' k => by
  obtain ⟨rows, h1, h2, h3⟩ := x
  try clear x
  exact ⟨rows, h1, h2.at fun o e => k _ o (own_not_list F h2) e, fun i r e => fz_li F (h3 i r e) h' k⟩
theorem fz_jobs {r : Addr} {n : Nat} (F : Fra env h m cm) (x : JobsAt h r n) : Fz (OwnA env) (fun h => JobsAt h r n) h := fun h' k => by
  refine x.at fun o e => k _ o (fun q => ?_) e
  obtain ⟨t, u, z, e'⟩ := x
  try clear x
  have e' : h.get? r = some _ := e'
  rcases q with rfl | ⟨nm, q⟩
  · refine el3_3 F.ns fun o es ep ho hd _ => ?_
    (replace ho := e' ▸ ho)
    cases ho
    cases hd
  · refine el1_2 (F.cell nm r q) fun o ho hd => ?_
    (replace ho := e' ▸ ho)
    cases ho
    cases hd
theorem fz_nums {l : Addr} {ns : List Int} (F : Fra env h m cm) (x : Nums h l ns) : Fz (OwnA env) (fun h => Nums h l ns) h := fun h' k => by
  refine x.at fun o e => k _ o (fun q => ?_) e
  refine el1_2 x fun vs q1_ _ => ?_
  try clear x
  obtain ⟨o', e', _, n', hd'⟩ := q1_
  try clear q1_
  rcases q with rfl | ⟨nm, q⟩
  · refine el3_3 F.ns fun o es ep ho hd _ => ?_
    (replace ho := e' ▸ ho)
    cases ho
    (replace hd := hd' ▸ hd)
    cases hd
  · refine el1_2 (F.cell nm l q) fun o ho hd => ?_
    (replace ho := e' ▸ ho)
    cases ho
    (replace hd := hd' ▸ hd)
    cases hd
set_option maxHeartbeats 8000000 in
theorem call_law {sc : Addr} {vs : List Value} {ks : List Int} {Q : Value → Shared → Prop} (hA : Ok 60 A) (hfr : A.frames = some []) (S₀ : Sta w s.heap) (hsc : s.heap.IsList sc (List.toArray vs)) (hks : IntsAre vs ks)
    (k : ∀ h' tk, Kp s.heap h' → Q (.bool true) { s with heap := h', toks := tk }) : wpAny (model prog w) A (call (.ref 156) [.ref sc]) Q E s := by
  refine el2_1 (fn_law w) fun d sl hf => ?_
  refine call_rule (n := 59) (body := lwBody) (binds := [("script", .ref sc)]) (RB := fun _ => True) hA (S₀.X _ _ hf) rfl S₀.lim (codeRec_of S₀.X (cd_law w)) rfl rfl (fun s' E' hs' => wpAny_of_eq rfl ⟨⟨rfl, trivial⟩, keeps_refl s'⟩) ?_ ?_
  · intro k x hx
    (refine rwR (List.mem_singleton.mp hx) ?_); exact .inl rfl
  intro L h₀ h₁ tk E' hL _ hk₀ _ hk₁ F hO hOk
  have ms : bindL (callEnvC fdLaw L 156).kindOf [("script", Value.ref sc)] (fun _ => none) "script" = some (.ref sc) := rfl
  generalize bindC (callEnvC fdLaw L 156).kindOf [("script", Value.ref sc)] (fun _ => none) = cm at F
  generalize bindL (callEnvC fdLaw L 156).kindOf [("script", Value.ref sc)] (fun _ => none) = m at F ms
  have hOs : ∀ b, OwnA (eW L) b → s.heap.get? b = none := fun b hb => dead_kp hk₀ (hO b hb)
  have k01 : Kp s.heap h₁ := hk₀.trans hk₁
  have up : ∀ {M : Addr → Prop} {h h' : Heap}, Kp s.heap h → Kx M h h' → (∀ b, M b → s.heap.get? b = none) → Kp s.heap h' := fun hk kx hM b o e => kx b o (fun q => by (exact nosome (hM b q) e)) (hk b o e)
  have hA5 : Ok 5 (A.deeper (eW L)) := hOk.mono (by decide)
  show wpAny _ _ (execs [lwBody.getD 0 ps, lwBody.getD 1 ps, lwBody.getD 2 ps, lwBody.getD 3 ps, lwBody.getD 4 ps, lwBody.getD 5 ps, lwBody.getD 6 ps, lwBody.getD 7 ps, lwBody.getD 8 ps, lwBody.getD 9 ps] (eW L)) _ _ _
  refine wpAny_execs_cons (asg_cell1 (h0 := h₁) (t0 := tk) (c := L + 1) (h := h₁) F rfl rfl rfl law_numbers (Kp.refl _) rfl ?_)
  intro nA h₂ h₃ tk₃ z2_ hk₂ sb₃ F₃
  refine el0_2 z2_ fun nAn hN₂ => ?_
  try clear z2_
  have hk₂ : Kp h₁ h₂ := hk₂
  have nAn : h₁.get? nA = none := nAn
  have kx₃ : Kx (OwnA (eW L)) h₂ h₃ := Kx.same sb₃ (own_cell (x := "numbers") rfl)
  have hN₃ := fz_nums (F.keeps hk₂) hN₂ _ kx₃
  have k03 : Kp s.heap h₃ := up (k01.trans hk₂) kx₃ hOs
  have nAo : ¬ OwnA (eW L) nA := Live.not F.live nAn
  have sco : ¬ OwnA (eW L) sc := fun q => by obtain ⟨o, e, _⟩ := hsc; (exact nosome (hOs _ q) e)
  have scn : sc ≠ nA := fun q => by obtain ⟨o, e, _⟩ := hsc; (replace nAn := Eq.symm q ▸ nAn; replace nAn := (k01 _ _ e) ▸ nAn); cases nAn
  have c₃ : upd cm "numbers" (.ref nA) "numbers" = some (.ref nA) := upd_eq
  generalize upd cm "numbers" (.ref nA) = cm₃ at F₃ c₃
  refine wpAny_execs_cons (law_enum (s := { s with heap := h₃, toks := tk₃ }) hOk.hd (S₀.keeps k03) F₃ ms (hsc.at fun o e => k03 _ o e) hks c₃ hN₃ rfl nAo sco scn ?_)
  intro h₄ tk₄ m₄ ns F₄ _ hnl hN₄ kx₄
  have kx₄ : Kx (Or2 (OwnA (eW L)) (· = nA)) h₃ h₄ := kx₄
  have k04 : Kp s.heap h₄ := up k03 kx₄ fun b hb => hb.elim (hOs b) fun q => q ▸ dead_kp k01 nAn
  generalize hn0 : 4 + (ns.getD 0 0 % 3).toNat = n
  have hn : n ≤ 6 := by lia
  refine wpAny_execs_cons (asg_cell1 (h0 := h₄) (t0 := tk₄) (c := L + 1 + 1) (h := h₄) F₄ rfl rfl rfl (law_jobs (S₀.keeps k04) F₄ c₃ hN₄ hnl) (Kp.refl _) rfl ?_)
  rintro r h₅ h₆ tk₆ hJ₅ hk₅ sb₆ F₆
  have hk₅ : Kp h₄ h₅ := hk₅
  (replace hJ₅ := hn0 ▸ hJ₅)
  have kx₆ : Kx (OwnA (eW L)) h₅ h₆ := Kx.same sb₆ (own_cell (x := "jobs") rfl)
  have hJ₆ := fz_jobs (F₄.keeps hk₅) hJ₅ _ kx₆
  have hN₆ := fz_nums (F₄.keeps hk₅) (hN₄.keeps hk₅) _ kx₆
  have k06 : Kp s.heap h₆ := up (k04.trans hk₅) kx₆ hOs
  have c₆n : upd cm₃ "jobs" (.ref r) "numbers" = some (.ref nA) := (upd_ne (by decide)).trans c₃
  have c₆j : upd cm₃ "jobs" (.ref r) "jobs" = some (.ref r) := upd_eq
  generalize upd cm₃ "jobs" (.ref r) = cm₆ at F₆ c₆n c₆j
  refine wpAny_execs_cons (asg_cell1 (h0 := h₆) (t0 := tk₆) (c := L + 1 + 1 + 1) (h := h₆) F₆ rfl rfl rfl (law_begin hA5 F₆ c₆n hN₆ hnl c₆j hJ₆ hn) (Kp.refl _) rfl ?_)
  intro aB h₇ h₈ tk₈ z3_ hk₇ sb₈ F₈
  refine el0_2 z3_ fun _ hB₇ => ?_
  try clear z3_
  have hk₇ : Kp h₆ h₇ := hk₇
  have kx₈ : Kx (OwnA (eW L)) h₇ h₈ := Kx.same sb₈ (own_cell (x := "begin") rfl)
  have hJ₈ := fz_jobs (F₆.keeps hk₇) (hJ₆.keeps hk₇) _ kx₈
  have hN₈ := fz_nums (F₆.keeps hk₇) (hN₆.keeps hk₇) _ kx₈
  have hB₈ := fz_li (F₆.keeps hk₇) hB₇ _ kx₈
  have k08 : Kp s.heap h₈ := up (k06.trans hk₇) kx₈ hOs
  have c₈n : upd cm₆ "begin" (.ref aB) "numbers" = some (.ref nA) := (upd_ne (by decide)).trans c₆n
  have c₈j : upd cm₆ "begin" (.ref aB) "jobs" = some (.ref r) := (upd_ne (by decide)).trans c₆j
  have c₈b : upd cm₆ "begin" (.ref aB) "begin" = some (.ref aB) := upd_eq
  generalize upd cm₆ "begin" (.ref aB) = cm₈ at F₈ c₈n c₈j c₈b
  refine wpAny_execs_cons (asg_cell1 (h0 := h₈) (t0 := tk₈) (c := L + 1 + 1 + 1 + 1) (h := h₈) F₈ rfl rfl rfl (law_end hA5 F₈ c₈n hN₈ hnl c₈j hJ₈ hn c₈b hB₈) (Kp.refl _) rfl ?_)
  intro aE h₉ h₁₀ tk₁₀ z4_ hk₉ sb₁₀ F₁₀
  refine el0_2 z4_ fun _ hE₉ => ?_
  try clear z4_
  have hk₉ : Kp h₈ h₉ := hk₉
  have kx₁₀ : Kx (OwnA (eW L)) h₉ h₁₀ := Kx.same sb₁₀ (own_cell (x := "end") rfl)
  have hJ₁₀ := fz_jobs (F₈.keeps hk₉) (hJ₈.keeps hk₉) _ kx₁₀
  have hB₁₀ := fz_li (F₈.keeps hk₉) (hB₈.keeps hk₉) _ kx₁₀
  have hE₁₀ := fz_li (F₈.keeps hk₉) hE₉ _ kx₁₀
  have k010 : Kp s.heap h₁₀ := up (k08.trans hk₉) kx₁₀ hOs
  have c₁₀j : upd cm₈ "end" (.ref aE) "jobs" = some (.ref r) := (upd_ne (by decide)).trans c₈j
  have c₁₀b : upd cm₈ "end" (.ref aE) "begin" = some (.ref aB) := (upd_ne (by decide)).trans c₈b
  have c₁₀e : upd cm₈ "end" (.ref aE) "end" = some (.ref aE) := upd_eq
  generalize upd cm₈ "end" (.ref aE) = cm₁₀ at F₁₀ c₁₀j c₁₀b c₁₀e
  refine wpAny_execs_cons (asg_cell1 (h0 := h₁₀) (t0 := tk₁₀) (c := L + 1 + 1 + 1 + 1 + 1) (h := h₁₀) F₁₀ rfl rfl rfl (law_ahead hA5 F₁₀ c₁₀j hJ₁₀ hn c₁₀b hB₁₀ c₁₀e hE₁₀) (Kp.refl _) rfl ?_)
  intro aA h₁₁ h₁₂ tk₁₂ z5_ hk₁₁ sb₁₂ F₁₂
  refine el0_2 z5_ fun _ hM₁₁ => ?_
  try clear z5_
  have hk₁₁ : Kp h₁₀ h₁₁ := hk₁₁
  have kx₁₂ : Kx (OwnA (eW L)) h₁₁ h₁₂ := Kx.same sb₁₂ (own_cell (x := "ahead") rfl)
  have hJ₁₂ := fz_jobs (F₁₀.keeps hk₁₁) (hJ₁₀.keeps hk₁₁) _ kx₁₂
  have hM₁₂ := fz_mat (F₁₀.keeps hk₁₁) hM₁₁ _ kx₁₂
  have k012 : Kp s.heap h₁₂ := up (k010.trans hk₁₁) kx₁₂ hOs
  have c₁₂j : upd cm₁₀ "ahead" (.ref aA) "jobs" = some (.ref r) := (upd_ne (by decide)).trans c₁₀j
  have c₁₂a : upd cm₁₀ "ahead" (.ref aA) "ahead" = some (.ref aA) := upd_eq
  generalize upd cm₁₀ "ahead" (.ref aA) = cm₁₂ at F₁₂ c₁₂j c₁₂a
  refine wpAny_execs_cons (law_needs (s := { s with heap := h₁₂, toks := tk₁₂ }) hA5 (S₀.keeps k012) F₁₂ c₁₂j hJ₁₂ hn c₁₂a hM₁₂ ?_)
  intro aN h₁₃ tk₁₃ _ hNd₁₃ F₁₃ hkk₁₃
  have kx₁₃ : Kx (OwnA (eW L)) h₁₂ h₁₃ := fun b o hb e => hkk₁₃ b o (fun q => hb (q ▸ own_locals)) e
  have hJ₁₃ := fz_jobs F₁₂ hJ₁₂ _ kx₁₃
  have hM₁₃ := fz_mat F₁₂ hM₁₂ _ kx₁₃
  have k013 : Kp s.heap h₁₃ := up k012 kx₁₃ hOs
  have m₁₃ : upd m₄ "needs" (.ref aN) "needs" = some (.ref aN) := upd_eq
  generalize upd m₄ "needs" (.ref aN) = mm at F₁₃ m₁₃
  refine wpAny_execs_cons (law_followers (s := { s with heap := h₁₃, toks := tk₁₃ }) hA5 (S₀.keeps k013) F₁₃ c₁₂j hJ₁₃ hn c₁₂a hM₁₃ ?_)
  intro aF h₁₄ tk₁₄ _ hF₁₄ F₁₄ hkk₁₄
  have kx₁₄ : Kx (OwnA (eW L)) h₁₃ h₁₄ := fun b o hb e => hkk₁₄ b o (fun q => hb (q ▸ own_locals)) e
  have k014 : Kp s.heap h₁₄ := up k013 kx₁₄ hOs
  have Z : Fz (OwnA (eW L)) (LT w n (ahOf ns) r aA aN aF) h₁₄ := fun h' kx => by
    have kx13 : Kx (OwnA (eW L)) h₁₃ h' := kx₁₄.trans' kx
    exact ⟨S₀.keeps (up k014 kx hOs), fz_jobs F₁₃ hJ₁₃ _ kx13, fz_mat F₁₃ hM₁₃ _ kx13, fz_nd F₁₃ hNd₁₃ _ kx13, fz_li F₁₄ hF₁₄ _ kx⟩
  refine wpAny_execs_cons (law_hands (s := { s with heap := h₁₄, toks := tk₁₄ }) (be := beOf ns) (en := enOf ns) (rk := fun j => (enOf ns j).toNat) (hOk.mono (by decide)) (Around.frames_deeper hfr) hn (fun a b _ _ => rfl) ?_ F₁₄ Z c₁₂j c₁₂a ((upd_ne (by decide)).trans m₁₃) upd_eq ?_)
  · intro a b _ _ hab
    have h1 : enOf ns a < beOf ns b := by simpa [ahOf] using hab
    have h2 := be_nonneg ns a
    have h3 := be_le_en ns a
    have h4 := be_le_en ns b
    show (enOf ns a).toNat < (enOf ns b).toNat
    (exact (Int.toNat_lt_toNat (Int.lt_of_le_of_lt h2 (Int.lt_of_le_of_lt h3 (Int.lt_of_lt_of_le h1 h4)))).mpr (Int.lt_of_lt_of_le h1 h4))
  intro h₁₅ tk₁₅ m₁₅ F₁₅ kx₁₅
  have kx₁₅ : Kx (OwnA (eW L)) h₁₄ h₁₅ := kx₁₅
  refine wpAny_execs_cons (wpAny_Return_some (g_bool.useV (Kp.refl _) fun h₁₆ tk₁₆ hk₁₆ => ?_))
  exact k h₁₆ tk₁₆ ((up k014 kx₁₅ hOs).trans hk₁₆)
end
end Mine
end
open PySem PySem.Calls PySem.W PySem.W.X PySem.W.ZRun PyProof.Rows
set_option maxRecDepth 100000
set_option maxHeartbeats 8000000
theorem PySem.Challenge.cw_dq0084_01_holds : PySem.Challenge.rw_dq0084_01.Holds :=
  Mine.hd (by
    k_fill
    intro w s₀ s₁ mg mb G y fa o pm cd doc dV kV ho hd hcd hD hmg hg args vals as L hpre hlay hrd hwl hlo
    have KX : (Mine.K w).In s₁.heap := InK.keeps w _ _ (z_facts (K := Mine.hd.heap_168) (fun _ => by rfl) y).2.1 (Laid.keeps L)
    refine Ground.open G ?_
    intro T B D TE TW
    x_fa T KX hmg
    clear hd hcd hD hmg ho y
    wrow_args hpre hlay hrd hwl hlo
    rename_i ks _ _ _ _ _ _ _ sc vs _ hL _ _ _ hI _ _ _
    refine Mine.call_law (s := s₁) (sc := sc) (vs := vs) (ks := ks) ⟨rfl, by decide, by decide⟩ rfl ⟨KX, ⟨mg, T.g⟩, ⟨mb, T.b, T.builtins⟩, T.nolimit⟩ hL hI ?_
    intro h' tk hk
    have hp : PySem.Challenge.rw_dq0084_01.row.claim.post [ofPy (PyData.list (List.map PyData.int ks))] (WData.bool true) [ofPy (PyData.list (List.map PyData.int ks))] = true := by
      refine postW_of (r := PySem.Challenge.rw_dq0084_01.row.toRowW) (X := true) ?_ ?_ rfl
      · rfl
      · wtm_val
    exact GoodW.toG ⟨.inl ⟨.bool true, .bool true, [], rfl, fun cls => rfl, .bool true, hp, fun _ => ⟨.nil, fun a ha => nomatch ha⟩⟩, hk, rfl, hg⟩)

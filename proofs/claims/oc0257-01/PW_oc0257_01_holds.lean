import PyProof.Rows.All
import Wide.All
import OpenK.AllK
import Wide.FinOn
import Lean
import PySem.Challenge.RW_oc0257_01
open PySem PySem.W PyProof.Rows
set_option Elab.async false
set_option compiler.extract_closed false
set_option linter.all false
set_option maxHeartbeats 8000000
set_option maxRecDepth 100000
set_option synthInstance.maxHeartbeats 2000000
set_option synthInstance.maxSize 4000
namespace Mine
section
open PySem PySem.W PyProof.Rows PySem.Calls PySem.Spec
theorem neW : Nonempty World := ⟨{ draws := fun _ _ => 0, params := { strHash := fun _ => 0, shareClass := fun _ => 0, mergeTok := fun t => t, idOf := fun _ => 0, idOfShared := fun _ _ => 0, followText := fun _ => true, idOfImm := fun _ => 0 } }⟩
theorem neM : Nonempty Sre.M := ⟨{ code := #[], text := #[], lim := 0, start := 0, pc := 0, pos := 0, handed := 0, marks := #[] }⟩
theorem neA : Nonempty Around := ⟨{ depth := 0 }⟩
theorem neS : Nonempty Shared := ⟨{ toks := 1 }⟩
theorem neD : Nonempty Drawn := ⟨by constructor <;> exact default⟩
noncomputable def u3 {A0 A1 A2 : Type} (f : A0 → A1 → A2 → Prop) (x : (A0 × A1) × A2) : Prop := f x.1.1 x.1.2 x.2
noncomputable def u5 {A0 A1 A2 A3 A4 : Type} (f : A0 → A1 → A2 → A3 → A4 → Prop) (x : ((A0 × A1) × A2) × A3 × A4) : Prop := f x.1.1.1 x.1.1.2 x.1.2 x.2.1 x.2.2
noncomputable def u8 {A0 A1 A2 A3 A4 A5 A6 A7 : Type} (f : A0 → A1 → A2 → A3 → A4 → A5 → A6 → A7 → Prop) (x : ((A0 × A1) × A2 × A3) × (A4 × A5) × A6 × A7) : Prop := f x.1.1.1 x.1.1.2 x.1.2.1 x.1.2.2 x.2.1.1 x.2.1.2 x.2.2.1 x.2.2.2
noncomputable def u9 {A0 A1 A2 A3 A4 A5 A6 A7 A8 : Type} (f : A0 → A1 → A2 → A3 → A4 → A5 → A6 → A7 → A8 → Prop) (x : (((A0 × A1) × A2) × A3 × A4) × (A5 × A6) × A7 × A8) : Prop := f x.1.1.1.1 x.1.1.1.2 x.1.1.2 x.1.2.1 x.1.2.2 x.2.1.1 x.2.1.2 x.2.2.1 x.2.2.2
noncomputable def u11 {A0 A1 A2 A3 A4 A5 A6 A7 A8 A9 A10 : Type} (f : A0 → A1 → A2 → A3 → A4 → A5 → A6 → A7 → A8 → A9 → A10 → Prop) (x : (((A0 × A1) × A2) × (A3 × A4) × A5) × ((A6 × A7) × A8) × A9 × A10) : Prop := f x.1.1.1.1 x.1.1.1.2 x.1.1.2 x.1.2.1.1 x.1.2.1.2 x.1.2.2 x.2.1.1.1 x.2.1.1.2 x.2.1.2 x.2.2.1 x.2.2.2
noncomputable def u12 {A0 A1 A2 A3 A4 A5 A6 A7 A8 A9 A10 A11 : Type} (f : A0 → A1 → A2 → A3 → A4 → A5 → A6 → A7 → A8 → A9 → A10 → A11 → Prop) (x : (((A0 × A1) × A2) × (A3 × A4) × A5) × ((A6 × A7) × A8) × (A9 × A10) × A11) : Prop := f x.1.1.1.1 x.1.1.1.2 x.1.1.2 x.1.2.1.1 x.1.2.1.2 x.1.2.2 x.2.1.1.1 x.2.1.1.2 x.2.1.2 x.2.2.1.1 x.2.2.1.2 x.2.2.2
noncomputable def u13 {A0 A1 A2 A3 A4 A5 A6 A7 A8 A9 A10 A11 A12 : Type} (f : A0 → A1 → A2 → A3 → A4 → A5 → A6 → A7 → A8 → A9 → A10 → A11 → A12 → Prop) (x : (((A0 × A1) × A2 × A3) × (A4 × A5) × A6) × ((A7 × A8) × A9) × (A10 × A11) × A12) : Prop := f x.1.1.1.1 x.1.1.1.2 x.1.1.2.1 x.1.1.2.2 x.1.2.1.1 x.1.2.1.2 x.1.2.2 x.2.1.1.1 x.2.1.1.2 x.2.1.2 x.2.2.1.1 x.2.2.1.2 x.2.2.2
noncomputable def u14 {A0 A1 A2 A3 A4 A5 A6 A7 A8 A9 A10 A11 A12 A13 : Type} (f : A0 → A1 → A2 → A3 → A4 → A5 → A6 → A7 → A8 → A9 → A10 → A11 → A12 → A13 → Prop) (x : (((A0 × A1) × A2 × A3) × (A4 × A5) × A6) × ((A7 × A8) × A9 × A10) × (A11 × A12) × A13) : Prop := f x.1.1.1.1 x.1.1.1.2 x.1.1.2.1 x.1.1.2.2 x.1.2.1.1 x.1.2.1.2 x.1.2.2 x.2.1.1.1 x.2.1.1.2 x.2.1.2.1 x.2.1.2.2 x.2.2.1.1 x.2.2.1.2 x.2.2.2
noncomputable def u15 {A0 A1 A2 A3 A4 A5 A6 A7 A8 A9 A10 A11 A12 A13 A14 : Type} (f : A0 → A1 → A2 → A3 → A4 → A5 → A6 → A7 → A8 → A9 → A10 → A11 → A12 → A13 → A14 → Prop) (x : (((A0 × A1) × A2 × A3) × (A4 × A5) × A6 × A7) × ((A8 × A9) × A10 × A11) × (A12 × A13) × A14) : Prop := f x.1.1.1.1 x.1.1.1.2 x.1.1.2.1 x.1.1.2.2 x.1.2.1.1 x.1.2.1.2 x.1.2.2.1 x.1.2.2.2 x.2.1.1.1 x.2.1.1.2 x.2.1.2.1 x.2.1.2.2 x.2.2.1.1 x.2.2.1.2 x.2.2.2
noncomputable def u16 {A0 A1 A2 A3 A4 A5 A6 A7 A8 A9 A10 A11 A12 A13 A14 A15 : Type} (f : A0 → A1 → A2 → A3 → A4 → A5 → A6 → A7 → A8 → A9 → A10 → A11 → A12 → A13 → A14 → A15 → Prop) (x : (((A0 × A1) × A2 × A3) × (A4 × A5) × A6 × A7) × ((A8 × A9) × A10 × A11) × (A12 × A13) × A14 × A15) : Prop := f x.1.1.1.1 x.1.1.1.2 x.1.1.2.1 x.1.1.2.2 x.1.2.1.1 x.1.2.1.2 x.1.2.2.1 x.1.2.2.2 x.2.1.1.1 x.2.1.1.2 x.2.1.2.1 x.2.1.2.2 x.2.2.1.1 x.2.2.1.2 x.2.2.2.1 x.2.2.2.2
noncomputable def u17 {A0 A1 A2 A3 A4 A5 A6 A7 A8 A9 A10 A11 A12 A13 A14 A15 A16 : Type} (f : A0 → A1 → A2 → A3 → A4 → A5 → A6 → A7 → A8 → A9 → A10 → A11 → A12 → A13 → A14 → A15 → A16 → Prop) (x : ((((A0 × A1) × A2) × A3 × A4) × (A5 × A6) × A7 × A8) × ((A9 × A10) × A11 × A12) × (A13 × A14) × A15 × A16) : Prop := f x.1.1.1.1.1 x.1.1.1.1.2 x.1.1.1.2 x.1.1.2.1 x.1.1.2.2 x.1.2.1.1 x.1.2.1.2 x.1.2.2.1 x.1.2.2.2 x.2.1.1.1 x.2.1.1.2 x.2.1.2.1 x.2.1.2.2 x.2.2.1.1 x.2.2.1.2 x.2.2.2.1 x.2.2.2.2
noncomputable def u18 {A0 A1 A2 A3 A4 A5 A6 A7 A8 A9 A10 A11 A12 A13 A14 A15 A16 A17 : Type} (f : A0 → A1 → A2 → A3 → A4 → A5 → A6 → A7 → A8 → A9 → A10 → A11 → A12 → A13 → A14 → A15 → A16 → A17 → Prop) (x : ((((A0 × A1) × A2) × A3 × A4) × (A5 × A6) × A7 × A8) × (((A9 × A10) × A11) × A12 × A13) × (A14 × A15) × A16 × A17) : Prop := f x.1.1.1.1.1 x.1.1.1.1.2 x.1.1.1.2 x.1.1.2.1 x.1.1.2.2 x.1.2.1.1 x.1.2.1.2 x.1.2.2.1 x.1.2.2.2 x.2.1.1.1.1 x.2.1.1.1.2 x.2.1.1.2 x.2.1.2.1 x.2.1.2.2 x.2.2.1.1 x.2.2.1.2 x.2.2.2.1 x.2.2.2.2
noncomputable def u19 {A0 A1 A2 A3 A4 A5 A6 A7 A8 A9 A10 A11 A12 A13 A14 A15 A16 A17 A18 : Type} (f : A0 → A1 → A2 → A3 → A4 → A5 → A6 → A7 → A8 → A9 → A10 → A11 → A12 → A13 → A14 → A15 → A16 → A17 → A18 → Prop) (x : ((((A0 × A1) × A2) × A3 × A4) × ((A5 × A6) × A7) × A8 × A9) × (((A10 × A11) × A12) × A13 × A14) × (A15 × A16) × A17 × A18) : Prop := f x.1.1.1.1.1 x.1.1.1.1.2 x.1.1.1.2 x.1.1.2.1 x.1.1.2.2 x.1.2.1.1.1 x.1.2.1.1.2 x.1.2.1.2 x.1.2.2.1 x.1.2.2.2 x.2.1.1.1.1 x.2.1.1.1.2 x.2.1.1.2 x.2.1.2.1 x.2.1.2.2 x.2.2.1.1 x.2.2.1.2 x.2.2.2.1 x.2.2.2.2
noncomputable def u25 {A0 A1 A2 A3 A4 A5 A6 A7 A8 A9 A10 A11 A12 A13 A14 A15 A16 A17 A18 A19 A20 A21 A22 A23 A24 : Type} (f : A0 → A1 → A2 → A3 → A4 → A5 → A6 → A7 → A8 → A9 → A10 → A11 → A12 → A13 → A14 → A15 → A16 → A17 → A18 → A19 → A20 → A21 → A22 → A23 → A24 → Prop) (x : ((((A0 × A1) × A2 × A3) × (A4 × A5) × A6) × ((A7 × A8) × A9) × (A10 × A11) × A12) × (((A13 × A14) × A15) × (A16 × A17) × A18) × ((A19 × A20) × A21) × (A22 × A23) × A24) : Prop := f x.1.1.1.1.1 x.1.1.1.1.2 x.1.1.1.2.1 x.1.1.1.2.2 x.1.1.2.1.1 x.1.1.2.1.2 x.1.1.2.2 x.1.2.1.1.1 x.1.2.1.1.2 x.1.2.1.2 x.1.2.2.1.1 x.1.2.2.1.2 x.1.2.2.2 x.2.1.1.1.1 x.2.1.1.1.2 x.2.1.1.2 x.2.1.2.1.1 x.2.1.2.1.2 x.2.1.2.2 x.2.2.1.1.1 x.2.2.1.1.2 x.2.2.1.2 x.2.2.2.1.1 x.2.2.2.1.2 x.2.2.2.2
noncomputable def u26 {A0 A1 A2 A3 A4 A5 A6 A7 A8 A9 A10 A11 A12 A13 A14 A15 A16 A17 A18 A19 A20 A21 A22 A23 A24 A25 : Type} (f : A0 → A1 → A2 → A3 → A4 → A5 → A6 → A7 → A8 → A9 → A10 → A11 → A12 → A13 → A14 → A15 → A16 → A17 → A18 → A19 → A20 → A21 → A22 → A23 → A24 → A25 → Prop) (x : ((((A0 × A1) × A2 × A3) × (A4 × A5) × A6) × ((A7 × A8) × A9) × (A10 × A11) × A12) × (((A13 × A14) × A15 × A16) × (A17 × A18) × A19) × ((A20 × A21) × A22) × (A23 × A24) × A25) : Prop := f x.1.1.1.1.1 x.1.1.1.1.2 x.1.1.1.2.1 x.1.1.1.2.2 x.1.1.2.1.1 x.1.1.2.1.2 x.1.1.2.2 x.1.2.1.1.1 x.1.2.1.1.2 x.1.2.1.2 x.1.2.2.1.1 x.1.2.2.1.2 x.1.2.2.2 x.2.1.1.1.1 x.2.1.1.1.2 x.2.1.1.2.1 x.2.1.1.2.2 x.2.1.2.1.1 x.2.1.2.1.2 x.2.1.2.2 x.2.2.1.1.1 x.2.2.1.1.2 x.2.2.1.2 x.2.2.2.1.1 x.2.2.2.1.2 x.2.2.2.2
theorem aO {α : Sort _} (ne : Nonempty α) (P : α → Prop) (h : P (@Classical.epsilon α ne fun x => ¬ P x)) : ∀ x, P x := fun x => Classical.byContradiction fun hx => (Classical.epsilon_spec_aux ne (fun x => ¬ P x) ⟨x, hx⟩) h
theorem ltA {u a b c d : Nat} (h : u + c < d) (e : Nat.ble (a + b) c = true) : u + a + b < d := Nat.lt_of_le_of_lt (Nat.le_trans (Nat.le_of_eq (Nat.add_assoc u a b)) (Nat.add_le_add_left (Nat.le_of_ble_eq_true e) u)) h
theorem ltB {u b c d : Nat} (h : u + c < d) (e : Nat.ble b c = true) : u + b < d := Nat.lt_of_le_of_lt (Nat.add_le_add_left (Nat.le_of_ble_eq_true e) u) h
theorem ltC {u c d : Nat} (h : u + c < d) : u < d := Nat.lt_of_le_of_lt (Nat.le_add_right u c) h
theorem leS {a n : Nat} (h : a ≤ n) (e : Nat.ble n 16777216 = true) : a ≤ sizeLine := Nat.le_trans h (Nat.le_of_ble_eq_true e)
theorem sNil {α : Type _} {X : List α} : ∀ p ∈ ([] : List α), p ∈ X := fun _ h => nomatch h
theorem sCons {α : Type _} {a : α} {L X : List α} (h : a ∈ X) (k : ∀ p ∈ L, p ∈ X) : ∀ p ∈ a :: L, p ∈ X := List.forall_mem_cons.mpr ⟨h, k⟩
theorem sApp {α : Type _} {L M X : List α} (h : ∀ p ∈ L, p ∈ X) (k : ∀ p ∈ M, p ∈ X) : ∀ p ∈ L ++ M, p ∈ X := fun p m => (List.mem_append.mp m).elim (h p) (k p)
theorem sId {α : Type _} {X : List α} : ∀ p ∈ X, p ∈ X := fun _ h => h
theorem sTl {α : Type _} {a : α} {L X : List α} (h : ∀ p ∈ L, p ∈ X) : ∀ p ∈ L, p ∈ a :: X := fun p m => .tail _ (h p m)
theorem sLe {α : Type _} {L X Y : List α} (h : ∀ p ∈ L, p ∈ X) : ∀ p ∈ L, p ∈ X ++ Y := fun p m => List.mem_append.mpr (.inl (h p m))
theorem sRi {α : Type _} {L X Y : List α} (h : ∀ p ∈ L, p ∈ Y) : ∀ p ∈ L, p ∈ X ++ Y := fun p m => List.mem_append.mpr (.inr (h p m))
theorem mLe {α : Type _} {a : α} {X Y : List α} (h : a ∈ X) : a ∈ X ++ Y := List.mem_append.mpr (.inl h)
theorem mRi {α : Type _} {a : α} {X Y : List α} (h : a ∈ Y) : a ∈ X ++ Y := List.mem_append.mpr (.inr h)
theorem aL {α : Type} {M : Model} {A : Around} {t : Sem α} {Q : α → Shared → Prop} {E : Value → Shared → Prop} {h : Heap} {g : Array GenState} {d : _} {tk : Nat} {o : OsState} (H : ∀ tk', wpAny M A t Q E ⟨h, g, d, tk', o⟩) : wpAny M A t Q E ⟨h, g, d, tk, o⟩ := H tk
noncomputable def Held (P : Prop) : Prop := P
theorem held {P : Prop} (h : Held P) : P := h
end
set_option hygiene false in
local macro_rules | `(tactic| walk_at $s:str) => `(tactic| k_extra $s)
def hyg (t : Lean.Syntax) : Lean.MacroM Lean.Syntax := t.replaceM fun s => match s with
 | .ident i r n p => do if n.toString.endsWith "'" then return some (.ident i r (← Lean.Macro.addMacroScope n) p) else return none
 | _ => return none
def wa (k : String) : Lean.MacroM Lean.Syntax := do return (← `(tactic| walk_at $(Lean.Syntax.mkStrLit k):str)).raw
local macro_rules | `(tactic| case fresh => $t) => do `(tactic| ($(⟨← hyg t⟩)))
set_option hygiene false in
local macro_rules | `(tactic| omega) => `(tactic| first | (with_reducible first | assumption | exact Nat.le_of_ble_eq_true rfl | exact ltC (by assumption) | exact ltA (by assumption) rfl | exact ltB (by assumption) rfl | exact leS (by assumption) rfl | exact Nat.le_trans (by assumption) (Nat.le_of_ble_eq_true rfl)) | lia)
section
theorem bj {P0 P1 : Prop} {C : Prop} (h : P0 ∧ P1) (k : P0 → P1 → C) : C := k h.1 h.2
theorem jR {P0 P1 P2 : Prop} {C : Prop} (h : P0 ∧ P1 ∧ P2) (k : P0 → P1 → P2 → C) : C := k h.1 h.2.1 h.2.2
theorem x0_3 {P0 P1 P2 P3 : Prop} {C : Prop} (h : P0 ∧ P1 ∧ P2 ∧ P3) (k : P0 → P1 → P2 → P3 → C) : C := k h.1 h.2.1 h.2.2.1 h.2.2.2
theorem fe {P0 P1 P2 P3 P4 : Prop} {C : Prop} (h : P0 ∧ P1 ∧ P2 ∧ P3 ∧ P4) (k : P0 → P1 → P2 → P3 → P4 → C) : C := k h.1 h.2.1 h.2.2.1 h.2.2.2.1 h.2.2.2.2
theorem x0_5 {P0 P1 P2 P3 P4 P5 : Prop} {C : Prop} (h : P0 ∧ P1 ∧ P2 ∧ P3 ∧ P4 ∧ P5) (k : P0 → P1 → P2 → P3 → P4 → P5 → C) : C := k h.1 h.2.1 h.2.2.1 h.2.2.2.1 h.2.2.2.2.1 h.2.2.2.2.2
theorem x0_6 {P0 P1 P2 P3 P4 P5 P6 : Prop} {C : Prop} (h : P0 ∧ P1 ∧ P2 ∧ P3 ∧ P4 ∧ P5 ∧ P6) (k : P0 → P1 → P2 → P3 → P4 → P5 → P6 → C) : C := k h.1 h.2.1 h.2.2.1 h.2.2.2.1 h.2.2.2.2.1 h.2.2.2.2.2.1 h.2.2.2.2.2.2
theorem x0_7 {P0 P1 P2 P3 P4 P5 P6 P7 : Prop} {C : Prop} (h : P0 ∧ P1 ∧ P2 ∧ P3 ∧ P4 ∧ P5 ∧ P6 ∧ P7) (k : P0 → P1 → P2 → P3 → P4 → P5 → P6 → P7 → C) : C := k h.1 h.2.1 h.2.2.1 h.2.2.2.1 h.2.2.2.2.1 h.2.2.2.2.2.1 h.2.2.2.2.2.2.1 h.2.2.2.2.2.2.2
theorem aT {α0 : Sort _} {P0 : α0 → Prop} {C : Prop} (h : ∃ a0, P0 a0) (k : ∀ a0, P0 a0 → C) : C := Exists.elim h fun a0 h => k a0 h
theorem aJ {α0 : Sort _} {P0 P1 : α0 → Prop} {C : Prop} (h : ∃ a0, P0 a0 ∧ P1 a0) (k : ∀ a0, P0 a0 → P1 a0 → C) : C := Exists.elim h fun a0 h => k a0 h.1 h.2
theorem jQ {α0 : Sort _} {P0 P1 P2 : α0 → Prop} {C : Prop} (h : ∃ a0, P0 a0 ∧ P1 a0 ∧ P2 a0) (k : ∀ a0, P0 a0 → P1 a0 → P2 a0 → C) : C := Exists.elim h fun a0 h => k a0 h.1 h.2.1 h.2.2
theorem lw {α0 : Sort _} {P0 P1 P2 P3 : α0 → Prop} {C : Prop} (h : ∃ a0, P0 a0 ∧ P1 a0 ∧ P2 a0 ∧ P3 a0) (k : ∀ a0, P0 a0 → P1 a0 → P2 a0 → P3 a0 → C) : C := Exists.elim h fun a0 h => k a0 h.1 h.2.1 h.2.2.1 h.2.2.2
theorem x1_5 {α0 : Sort _} {P0 P1 P2 P3 P4 P5 : α0 → Prop} {C : Prop} (h : ∃ a0, P0 a0 ∧ P1 a0 ∧ P2 a0 ∧ P3 a0 ∧ P4 a0 ∧ P5 a0) (k : ∀ a0, P0 a0 → P1 a0 → P2 a0 → P3 a0 → P4 a0 → P5 a0 → C) : C := Exists.elim h fun a0 h => k a0 h.1 h.2.1 h.2.2.1 h.2.2.2.1 h.2.2.2.2.1 h.2.2.2.2.2
theorem bX {α0 : Sort _} {α1 : Sort _} {P0 : α0 → α1 → Prop} {C : Prop} (h : ∃ a0 a1, P0 a0 a1) (k : ∀ a0 a1, P0 a0 a1 → C) : C := Exists.elim h fun a0 h => Exists.elim h fun a1 h => k a0 a1 h
theorem bg {α0 : Sort _} {α1 : Sort _} {P0 P1 : α0 → α1 → Prop} {C : Prop} (h : ∃ a0 a1, P0 a0 a1 ∧ P1 a0 a1) (k : ∀ a0 a1, P0 a0 a1 → P1 a0 a1 → C) : C := Exists.elim h fun a0 h => Exists.elim h fun a1 h => k a0 a1 h.1 h.2
theorem fa {α0 : Sort _} {α1 : Sort _} {P0 P1 P2 : α0 → α1 → Prop} {C : Prop} (h : ∃ a0 a1, P0 a0 a1 ∧ P1 a0 a1 ∧ P2 a0 a1) (k : ∀ a0 a1, P0 a0 a1 → P1 a0 a1 → P2 a0 a1 → C) : C := Exists.elim h fun a0 h => Exists.elim h fun a1 h => k a0 a1 h.1 h.2.1 h.2.2
theorem x2_4 {α0 : Sort _} {α1 : Sort _} {P0 P1 P2 P3 P4 : α0 → α1 → Prop} {C : Prop} (h : ∃ a0 a1, P0 a0 a1 ∧ P1 a0 a1 ∧ P2 a0 a1 ∧ P3 a0 a1 ∧ P4 a0 a1) (k : ∀ a0 a1, P0 a0 a1 → P1 a0 a1 → P2 a0 a1 → P3 a0 a1 → P4 a0 a1 → C) : C := Exists.elim h fun a0 h => Exists.elim h fun a1 h => k a0 a1 h.1 h.2.1 h.2.2.1 h.2.2.2.1 h.2.2.2.2
theorem cq {α0 : Sort _} {α1 : Sort _} {α2 : Sort _} {P0 P1 : α0 → α1 → α2 → Prop} {C : Prop} (h : ∃ a0 a1 a2, P0 a0 a1 a2 ∧ P1 a0 a1 a2) (k : ∀ a0 a1 a2, P0 a0 a1 a2 → P1 a0 a1 a2 → C) : C := Exists.elim h fun a0 h => Exists.elim h fun a1 h => Exists.elim h fun a2 h => k a0 a1 a2 h.1 h.2
theorem gO {α0 : Sort _} {α1 : Sort _} {α2 : Sort _} {P0 P1 P2 : α0 → α1 → α2 → Prop} {C : Prop} (h : ∃ a0 a1 a2, P0 a0 a1 a2 ∧ P1 a0 a1 a2 ∧ P2 a0 a1 a2) (k : ∀ a0 a1 a2, P0 a0 a1 a2 → P1 a0 a1 a2 → P2 a0 a1 a2 → C) : C := Exists.elim h fun a0 h => Exists.elim h fun a1 h => Exists.elim h fun a2 h => k a0 a1 a2 h.1 h.2.1 h.2.2
theorem lu {α0 : Sort _} {α1 : Sort _} {α2 : Sort _} {P0 P1 P2 P3 : α0 → α1 → α2 → Prop} {C : Prop} (h : ∃ a0 a1 a2, P0 a0 a1 a2 ∧ P1 a0 a1 a2 ∧ P2 a0 a1 a2 ∧ P3 a0 a1 a2) (k : ∀ a0 a1 a2, P0 a0 a1 a2 → P1 a0 a1 a2 → P2 a0 a1 a2 → P3 a0 a1 a2 → C) : C := Exists.elim h fun a0 h => Exists.elim h fun a1 h => Exists.elim h fun a2 h => k a0 a1 a2 h.1 h.2.1 h.2.2.1 h.2.2.2
theorem x3_4 {α0 : Sort _} {α1 : Sort _} {α2 : Sort _} {P0 P1 P2 P3 P4 : α0 → α1 → α2 → Prop} {C : Prop} (h : ∃ a0 a1 a2, P0 a0 a1 a2 ∧ P1 a0 a1 a2 ∧ P2 a0 a1 a2 ∧ P3 a0 a1 a2 ∧ P4 a0 a1 a2) (k : ∀ a0 a1 a2, P0 a0 a1 a2 → P1 a0 a1 a2 → P2 a0 a1 a2 → P3 a0 a1 a2 → P4 a0 a1 a2 → C) : C := Exists.elim h fun a0 h => Exists.elim h fun a1 h => Exists.elim h fun a2 h => k a0 a1 a2 h.1 h.2.1 h.2.2.1 h.2.2.2.1 h.2.2.2.2
theorem x3_7 {α0 : Sort _} {α1 : Sort _} {α2 : Sort _} {P0 P1 P2 P3 P4 P5 P6 P7 : α0 → α1 → α2 → Prop} {C : Prop} (h : ∃ a0 a1 a2, P0 a0 a1 a2 ∧ P1 a0 a1 a2 ∧ P2 a0 a1 a2 ∧ P3 a0 a1 a2 ∧ P4 a0 a1 a2 ∧ P5 a0 a1 a2 ∧ P6 a0 a1 a2 ∧ P7 a0 a1 a2) (k : ∀ a0 a1 a2, P0 a0 a1 a2 → P1 a0 a1 a2 → P2 a0 a1 a2 → P3 a0 a1 a2 → P4 a0 a1 a2 → P5 a0 a1 a2 → P6 a0 a1 a2 → P7 a0 a1 a2 → C) : C := Exists.elim h fun a0 h => Exists.elim h fun a1 h => Exists.elim h fun a2 h => k a0 a1 a2 h.1 h.2.1 h.2.2.1 h.2.2.2.1 h.2.2.2.2.1 h.2.2.2.2.2.1 h.2.2.2.2.2.2.1 h.2.2.2.2.2.2.2
theorem bO {α0 : Sort _} {α1 : Sort _} {α2 : Sort _} {α3 : Sort _} {P0 : α0 → α1 → α2 → α3 → Prop} {C : Prop} (h : ∃ a0 a1 a2 a3, P0 a0 a1 a2 a3) (k : ∀ a0 a1 a2 a3, P0 a0 a1 a2 a3 → C) : C := Exists.elim h fun a0 h => Exists.elim h fun a1 h => Exists.elim h fun a2 h => Exists.elim h fun a3 h => k a0 a1 a2 a3 h
theorem x4_2 {α0 : Sort _} {α1 : Sort _} {α2 : Sort _} {α3 : Sort _} {P0 P1 P2 : α0 → α1 → α2 → α3 → Prop} {C : Prop} (h : ∃ a0 a1 a2 a3, P0 a0 a1 a2 a3 ∧ P1 a0 a1 a2 a3 ∧ P2 a0 a1 a2 a3) (k : ∀ a0 a1 a2 a3, P0 a0 a1 a2 a3 → P1 a0 a1 a2 a3 → P2 a0 a1 a2 a3 → C) : C := Exists.elim h fun a0 h => Exists.elim h fun a1 h => Exists.elim h fun a2 h => Exists.elim h fun a3 h => k a0 a1 a2 a3 h.1 h.2.1 h.2.2
theorem x5_8 {α0 : Sort _} {α1 : Sort _} {α2 : Sort _} {α3 : Sort _} {α4 : Sort _} {P0 P1 P2 P3 P4 P5 P6 P7 P8 : α0 → α1 → α2 → α3 → α4 → Prop} {C : Prop} (h : ∃ a0 a1 a2 a3 a4, P0 a0 a1 a2 a3 a4 ∧ P1 a0 a1 a2 a3 a4 ∧ P2 a0 a1 a2 a3 a4 ∧ P3 a0 a1 a2 a3 a4 ∧ P4 a0 a1 a2 a3 a4 ∧ P5 a0 a1 a2 a3 a4 ∧ P6 a0 a1 a2 a3 a4 ∧ P7 a0 a1 a2 a3 a4 ∧ P8 a0 a1 a2 a3 a4) (k : ∀ a0 a1 a2 a3 a4, P0 a0 a1 a2 a3 a4 → P1 a0 a1 a2 a3 a4 → P2 a0 a1 a2 a3 a4 → P3 a0 a1 a2 a3 a4 → P4 a0 a1 a2 a3 a4 → P5 a0 a1 a2 a3 a4 → P6 a0 a1 a2 a3 a4 → P7 a0 a1 a2 a3 a4 → P8 a0 a1 a2 a3 a4 → C) : C := Exists.elim h fun a0 h => Exists.elim h fun a1 h => Exists.elim h fun a2 h => Exists.elim h fun a3 h => Exists.elim h fun a4 h => k a0 a1 a2 a3 a4 h.1 h.2.1 h.2.2.1 h.2.2.2.1 h.2.2.2.2.1 h.2.2.2.2.2.1 h.2.2.2.2.2.2.1 h.2.2.2.2.2.2.2.1 h.2.2.2.2.2.2.2.2
noncomputable def jI : Stmt → Option (Arguments × List Stmt × Scope)
 | .FunctionDef _ a b _ _ _ s _ _ _ => some (a, b, s)
 | _ => none
noncomputable def inClass : Stmt → Nat → Option Stmt
 | .ClassDef _ _ _ b _ _ _ _ _ _ _, j => b[j]?
 | _, _ => none
noncomputable def cv (i : Nat) : Option (Arguments × List Stmt × Scope) := (PySem.Challenge.pw_oc0257_01.main.body[i]?).bind jI
noncomputable def cb (i j : Nat) : Option (Arguments × List Stmt × Scope) := (PySem.Challenge.pw_oc0257_01.main.body[i]?).bind fun s => (inClass s j).bind jI
noncomputable def fd_1 : { x : Arguments × List Stmt × Scope // cv 1 = some x } := ⟨_, rfl⟩
noncomputable def fd_1A : Arguments := by
 refine' (?f : ∀ (a b : Arguments), a = b → Arguments) _ _ (?h : fd_1.1.1 = _)
 case f => exact fun _ b _ => b
 case h => (unfold fd_1; dsimp only; exact rfl)
noncomputable def fd_1B : List Stmt := by
 refine' (?f : ∀ (a b : List Stmt), a = b → List Stmt) _ _ (?h : fd_1.1.2.1 = _)
 case f => exact fun _ b _ => b
 case h => (unfold fd_1; dsimp only; exact rfl)
noncomputable def fd_1S : Scope := by
 refine' (?f : ∀ (a b : Scope), a = b → Scope) _ _ (?h : fd_1.1.2.2 = _)
 case f => exact fun _ b _ => b
 case h => (unfold fd_1; dsimp only; exact rfl)
noncomputable def fd_12 : { x : Arguments × List Stmt × Scope // cv 12 = some x } := ⟨_, rfl⟩
noncomputable def fd_12A : Arguments := by
 refine' (?f : ∀ (a b : Arguments), a = b → Arguments) _ _ (?h : fd_12.1.1 = _)
 case f => exact fun _ b _ => b
 case h => (unfold fd_12; dsimp only; exact rfl)
noncomputable def fd_12B : List Stmt := by
 refine' (?f : ∀ (a b : List Stmt), a = b → List Stmt) _ _ (?h : fd_12.1.2.1 = _)
 case f => exact fun _ b _ => b
 case h => (unfold fd_12; dsimp only; exact rfl)
noncomputable def fd_12S : Scope := by
 refine' (?f : ∀ (a b : Scope), a = b → Scope) _ _ (?h : fd_12.1.2.2 = _)
 case f => exact fun _ b _ => b
 case h => (unfold fd_12; dsimp only; exact rfl)
noncomputable def dr : { x : Arguments × List Stmt × Scope // cb 16 1 = some x } := ⟨_, rfl⟩
noncomputable def jE : Arguments := by
 refine' (?f : ∀ (a b : Arguments), a = b → Arguments) _ _ (?h : dr.1.1 = _)
 case f => exact fun _ b _ => b
 case h => (unfold dr; dsimp only; exact rfl)
noncomputable def jD : List Stmt := by
 refine' (?f : ∀ (a b : List Stmt), a = b → List Stmt) _ _ (?h : dr.1.2.1 = _)
 case f => exact fun _ b _ => b
 case h => (unfold dr; dsimp only; exact rfl)
noncomputable def jC : Scope := by
 refine' (?f : ∀ (a b : Scope), a = b → Scope) _ _ (?h : dr.1.2.2 = _)
 case f => exact fun _ b _ => b
 case h => (unfold dr; dsimp only; exact rfl)
noncomputable def dq : { x : Arguments × List Stmt × Scope // cb 18 0 = some x } := ⟨_, rfl⟩
noncomputable def jB : Arguments := by
 refine' (?f : ∀ (a b : Arguments), a = b → Arguments) _ _ (?h : dq.1.1 = _)
 case f => exact fun _ b _ => b
 case h => (unfold dq; dsimp only; exact rfl)
noncomputable def jA : List Stmt := by
 refine' (?f : ∀ (a b : List Stmt), a = b → List Stmt) _ _ (?h : dq.1.2.1 = _)
 case f => exact fun _ b _ => b
 case h => (unfold dq; dsimp only; exact rfl)
noncomputable def jz : Scope := by
 refine' (?f : ∀ (a b : Scope), a = b → Scope) _ _ (?h : dq.1.2.2 = _)
 case f => exact fun _ b _ => b
 case h => (unfold dq; dsimp only; exact rfl)
noncomputable def dm : { x : Arguments × List Stmt × Scope // cb 18 1 = some x } := ⟨_, rfl⟩
noncomputable def jy : Arguments := by
 refine' (?f : ∀ (a b : Arguments), a = b → Arguments) _ _ (?h : dm.1.1 = _)
 case f => exact fun _ b _ => b
 case h => (unfold dm; dsimp only; exact rfl)
noncomputable def jx : List Stmt := by
 refine' (?f : ∀ (a b : List Stmt), a = b → List Stmt) _ _ (?h : dm.1.2.1 = _)
 case f => exact fun _ b _ => b
 case h => (unfold dm; dsimp only; exact rfl)
noncomputable def jw : Scope := by
 refine' (?f : ∀ (a b : Scope), a = b → Scope) _ _ (?h : dm.1.2.2 = _)
 case f => exact fun _ b _ => b
 case h => (unfold dm; dsimp only; exact rfl)
noncomputable def dk : { x : Arguments × List Stmt × Scope // cb 18 2 = some x } := ⟨_, rfl⟩
noncomputable def jv : Arguments := by
 refine' (?f : ∀ (a b : Arguments), a = b → Arguments) _ _ (?h : dk.1.1 = _)
 case f => exact fun _ b _ => b
 case h => (unfold dk; dsimp only; exact rfl)
noncomputable def ju : List Stmt := by
 refine' (?f : ∀ (a b : List Stmt), a = b → List Stmt) _ _ (?h : dk.1.2.1 = _)
 case f => exact fun _ b _ => b
 case h => (unfold dk; dsimp only; exact rfl)
noncomputable def jt : Scope := by
 refine' (?f : ∀ (a b : Scope), a = b → Scope) _ _ (?h : dk.1.2.2 = _)
 case f => exact fun _ b _ => b
 case h => (unfold dk; dsimp only; exact rfl)
noncomputable def dj : { x : Arguments × List Stmt × Scope // cb 18 3 = some x } := ⟨_, rfl⟩
noncomputable def js : Arguments := by
 refine' (?f : ∀ (a b : Arguments), a = b → Arguments) _ _ (?h : dj.1.1 = _)
 case f => exact fun _ b _ => b
 case h => (unfold dj; dsimp only; exact rfl)
noncomputable def jr : List Stmt := by
 refine' (?f : ∀ (a b : List Stmt), a = b → List Stmt) _ _ (?h : dj.1.2.1 = _)
 case f => exact fun _ b _ => b
 case h => (unfold dj; dsimp only; exact rfl)
noncomputable def jq : Scope := by
 refine' (?f : ∀ (a b : Scope), a = b → Scope) _ _ (?h : dj.1.2.2 = _)
 case f => exact fun _ b _ => b
 case h => (unfold dj; dsimp only; exact rfl)
noncomputable def di : { x : Arguments × List Stmt × Scope // cb 18 4 = some x } := ⟨_, rfl⟩
noncomputable def jp : Arguments := by
 refine' (?f : ∀ (a b : Arguments), a = b → Arguments) _ _ (?h : di.1.1 = _)
 case f => exact fun _ b _ => b
 case h => (unfold di; dsimp only; exact rfl)
noncomputable def jo : List Stmt := by
 refine' (?f : ∀ (a b : List Stmt), a = b → List Stmt) _ _ (?h : di.1.2.1 = _)
 case f => exact fun _ b _ => b
 case h => (unfold di; dsimp only; exact rfl)
noncomputable def jn : Scope := by
 refine' (?f : ∀ (a b : Scope), a = b → Scope) _ _ (?h : di.1.2.2 = _)
 case f => exact fun _ b _ => b
 case h => (unfold di; dsimp only; exact rfl)
noncomputable def dh : { x : Arguments × List Stmt × Scope // cb 18 5 = some x } := ⟨_, rfl⟩
noncomputable def jm : Arguments := by
 refine' (?f : ∀ (a b : Arguments), a = b → Arguments) _ _ (?h : dh.1.1 = _)
 case f => exact fun _ b _ => b
 case h => (unfold dh; dsimp only; exact rfl)
noncomputable def jl : List Stmt := by
 refine' (?f : ∀ (a b : List Stmt), a = b → List Stmt) _ _ (?h : dh.1.2.1 = _)
 case f => exact fun _ b _ => b
 case h => (unfold dh; dsimp only; exact rfl)
noncomputable def jk : Scope := by
 refine' (?f : ∀ (a b : Scope), a = b → Scope) _ _ (?h : dh.1.2.2 = _)
 case f => exact fun _ b _ => b
 case h => (unfold dh; dsimp only; exact rfl)
noncomputable def dg : { x : Arguments × List Stmt × Scope // cb 18 6 = some x } := ⟨_, rfl⟩
noncomputable def jj : Arguments := by
 refine' (?f : ∀ (a b : Arguments), a = b → Arguments) _ _ (?h : dg.1.1 = _)
 case f => exact fun _ b _ => b
 case h => (unfold dg; dsimp only; exact rfl)
noncomputable def ji : List Stmt := by
 refine' (?f : ∀ (a b : List Stmt), a = b → List Stmt) _ _ (?h : dg.1.2.1 = _)
 case f => exact fun _ b _ => b
 case h => (unfold dg; dsimp only; exact rfl)
noncomputable def jh : Scope := by
 refine' (?f : ∀ (a b : Scope), a = b → Scope) _ _ (?h : dg.1.2.2 = _)
 case f => exact fun _ b _ => b
 case h => (unfold dg; dsimp only; exact rfl)
noncomputable def df : { x : Arguments × List Stmt × Scope // cb 18 7 = some x } := ⟨_, rfl⟩
noncomputable def jg : Arguments := by
 refine' (?f : ∀ (a b : Arguments), a = b → Arguments) _ _ (?h : df.1.1 = _)
 case f => exact fun _ b _ => b
 case h => (unfold df; dsimp only; exact rfl)
noncomputable def jf : List Stmt := by
 refine' (?f : ∀ (a b : List Stmt), a = b → List Stmt) _ _ (?h : df.1.2.1 = _)
 case f => exact fun _ b _ => b
 case h => (unfold df; dsimp only; exact rfl)
noncomputable def je : Scope := by
 refine' (?f : ∀ (a b : Scope), a = b → Scope) _ _ (?h : df.1.2.2 = _)
 case f => exact fun _ b _ => b
 case h => (unfold df; dsimp only; exact rfl)
noncomputable def de : { x : Arguments × List Stmt × Scope // cb 18 8 = some x } := ⟨_, rfl⟩
noncomputable def jd : Arguments := by
 refine' (?f : ∀ (a b : Arguments), a = b → Arguments) _ _ (?h : de.1.1 = _)
 case f => exact fun _ b _ => b
 case h => (unfold de; dsimp only; exact rfl)
noncomputable def jc : List Stmt := by
 refine' (?f : ∀ (a b : List Stmt), a = b → List Stmt) _ _ (?h : de.1.2.1 = _)
 case f => exact fun _ b _ => b
 case h => (unfold de; dsimp only; exact rfl)
noncomputable def jb : Scope := by
 refine' (?f : ∀ (a b : Scope), a = b → Scope) _ _ (?h : de.1.2.2 = _)
 case f => exact fun _ b _ => b
 case h => (unfold de; dsimp only; exact rfl)
noncomputable def db : { x : Arguments × List Stmt × Scope // cb 18 9 = some x } := ⟨_, rfl⟩
noncomputable def ja : Arguments := by
 refine' (?f : ∀ (a b : Arguments), a = b → Arguments) _ _ (?h : db.1.1 = _)
 case f => exact fun _ b _ => b
 case h => (unfold db; dsimp only; exact rfl)
noncomputable def iZ : List Stmt := by
 refine' (?f : ∀ (a b : List Stmt), a = b → List Stmt) _ _ (?h : db.1.2.1 = _)
 case f => exact fun _ b _ => b
 case h => (unfold db; dsimp only; exact rfl)
noncomputable def iY : Scope := by
 refine' (?f : ∀ (a b : Scope), a = b → Scope) _ _ (?h : db.1.2.2 = _)
 case f => exact fun _ b _ => b
 case h => (unfold db; dsimp only; exact rfl)
noncomputable def fd_20 : { x : Arguments × List Stmt × Scope // cv 20 = some x } := ⟨_, rfl⟩
noncomputable def fd_20A : Arguments := by
 refine' (?f : ∀ (a b : Arguments), a = b → Arguments) _ _ (?h : fd_20.1.1 = _)
 case f => exact fun _ b _ => b
 case h => (unfold fd_20; dsimp only; exact rfl)
noncomputable def fd_20B : List Stmt := by
 refine' (?f : ∀ (a b : List Stmt), a = b → List Stmt) _ _ (?h : fd_20.1.2.1 = _)
 case f => exact fun _ b _ => b
 case h => (unfold fd_20; dsimp only; exact rfl)
noncomputable def fd_20S : Scope := by
 refine' (?f : ∀ (a b : Scope), a = b → Scope) _ _ (?h : fd_20.1.2.2 = _)
 case f => exact fun _ b _ => b
 case h => (unfold fd_20; dsimp only; exact rfl)
noncomputable def fd_21 : { x : Arguments × List Stmt × Scope // cv 21 = some x } := ⟨_, rfl⟩
noncomputable def fd_21A : Arguments := by
 refine' (?f : ∀ (a b : Arguments), a = b → Arguments) _ _ (?h : fd_21.1.1 = _)
 case f => exact fun _ b _ => b
 case h => (unfold fd_21; dsimp only; exact rfl)
noncomputable def fd_21B : List Stmt := by
 refine' (?f : ∀ (a b : List Stmt), a = b → List Stmt) _ _ (?h : fd_21.1.2.1 = _)
 case f => exact fun _ b _ => b
 case h => (unfold fd_21; dsimp only; exact rfl)
noncomputable def fd_21S : Scope := by
 refine' (?f : ∀ (a b : Scope), a = b → Scope) _ _ (?h : fd_21.1.2.2 = _)
 case f => exact fun _ b _ => b
 case h => (unfold fd_21; dsimp only; exact rfl)
noncomputable def fd_22 : { x : Arguments × List Stmt × Scope // cv 22 = some x } := ⟨_, rfl⟩
noncomputable def fd_22A : Arguments := by
 refine' (?f : ∀ (a b : Arguments), a = b → Arguments) _ _ (?h : fd_22.1.1 = _)
 case f => exact fun _ b _ => b
 case h => (unfold fd_22; dsimp only; exact rfl)
noncomputable def fd_22B : List Stmt := by
 refine' (?f : ∀ (a b : List Stmt), a = b → List Stmt) _ _ (?h : fd_22.1.2.1 = _)
 case f => exact fun _ b _ => b
 case h => (unfold fd_22; dsimp only; exact rfl)
noncomputable def fd_22S : Scope := by
 refine' (?f : ∀ (a b : Scope), a = b → Scope) _ _ (?h : fd_22.1.2.2 = _)
 case f => exact fun _ b _ => b
 case h => (unfold fd_22; dsimp only; exact rfl)
noncomputable def fd_23 : { x : Arguments × List Stmt × Scope // cv 23 = some x } := ⟨_, rfl⟩
noncomputable def fd_23A : Arguments := by
 refine' (?f : ∀ (a b : Arguments), a = b → Arguments) _ _ (?h : fd_23.1.1 = _)
 case f => exact fun _ b _ => b
 case h => (unfold fd_23; dsimp only; exact rfl)
noncomputable def fd_23B : List Stmt := by
 refine' (?f : ∀ (a b : List Stmt), a = b → List Stmt) _ _ (?h : fd_23.1.2.1 = _)
 case f => exact fun _ b _ => b
 case h => (unfold fd_23; dsimp only; exact rfl)
noncomputable def fd_23S : Scope := by
 refine' (?f : ∀ (a b : Scope), a = b → Scope) _ _ (?h : fd_23.1.2.2 = _)
 case f => exact fun _ b _ => b
 case h => (unfold fd_23; dsimp only; exact rfl)
noncomputable def fd_24 : { x : Arguments × List Stmt × Scope // cv 24 = some x } := ⟨_, rfl⟩
noncomputable def fd_24A : Arguments := by
 refine' (?f : ∀ (a b : Arguments), a = b → Arguments) _ _ (?h : fd_24.1.1 = _)
 case f => exact fun _ b _ => b
 case h => (unfold fd_24; dsimp only; exact rfl)
noncomputable def fd_24B : List Stmt := by
 refine' (?f : ∀ (a b : List Stmt), a = b → List Stmt) _ _ (?h : fd_24.1.2.1 = _)
 case f => exact fun _ b _ => b
 case h => (unfold fd_24; dsimp only; exact rfl)
noncomputable def fd_24S : Scope := by
 refine' (?f : ∀ (a b : Scope), a = b → Scope) _ _ (?h : fd_24.1.2.2 = _)
 case f => exact fun _ b _ => b
 case h => (unfold fd_24; dsimp only; exact rfl)
noncomputable def fd_4 : { x : Arguments × List Stmt × Scope // cv 4 = some x } := ⟨_, rfl⟩
noncomputable def fd_4A : Arguments := by
 refine' (?f : ∀ (a b : Arguments), a = b → Arguments) _ _ (?h : fd_4.1.1 = _)
 case f => exact fun _ b _ => b
 case h => (unfold fd_4; dsimp only; exact rfl)
noncomputable def fd_4B : List Stmt := by
 refine' (?f : ∀ (a b : List Stmt), a = b → List Stmt) _ _ (?h : fd_4.1.2.1 = _)
 case f => exact fun _ b _ => b
 case h => (unfold fd_4; dsimp only; exact rfl)
noncomputable def fd_4S : Scope := by
 refine' (?f : ∀ (a b : Scope), a = b → Scope) _ _ (?h : fd_4.1.2.2 = _)
 case f => exact fun _ b _ => b
 case h => (unfold fd_4; dsimp only; exact rfl)
noncomputable def fd_9 : { x : Arguments × List Stmt × Scope // cv 9 = some x } := ⟨_, rfl⟩
noncomputable def fd_9A : Arguments := by
 refine' (?f : ∀ (a b : Arguments), a = b → Arguments) _ _ (?h : fd_9.1.1 = _)
 case f => exact fun _ b _ => b
 case h => (unfold fd_9; dsimp only; exact rfl)
noncomputable def fd_9B : List Stmt := by
 refine' (?f : ∀ (a b : List Stmt), a = b → List Stmt) _ _ (?h : fd_9.1.2.1 = _)
 case f => exact fun _ b _ => b
 case h => (unfold fd_9; dsimp only; exact rfl)
noncomputable def fd_9S : Scope := by
 refine' (?f : ∀ (a b : Scope), a = b → Scope) _ _ (?h : fd_9.1.2.2 = _)
 case f => exact fun _ b _ => b
 case h => (unfold fd_9; dsimp only; exact rfl)
noncomputable def lj : Params → Frag := fun P =>
 (nat_lit 3, { cls := Value.type "dict", data := Data.dict #[{ hash := PyData.keyHash P (Str.ofString "__name__"), key := Value.str (Str.ofString "__name__") 165, val := Value.str (Str.ofString "law_oc0257_01") 799 }, { hash := PyData.keyHash P (Str.ofString "__doc__"), key := Value.str (Str.ofString "__doc__") 166, val := Value.none }, { hash := PyData.keyHash P (Str.ofString "__package__"), key := Value.str (Str.ofString "__package__") 167, val := Value.none }, { hash := PyData.keyHash P (Str.ofString "__loader__"), key := Value.str (Str.ofString "__loader__") 168, val := Value.builtin "__main__.__loader__#opaque" }, { hash := PyData.keyHash P (Str.ofString "__spec__"), key := Value.str (Str.ofString "__spec__") 169, val := Value.none }, { hash := PyData.keyHash P (Str.ofString "__annotations__"), key := Value.str (Str.ofString "__annotations__") 170, val := Value.ref 6 }, { hash := PyData.keyHash P (Str.ofString "__builtins__"), key := Value.str (Str.ofString "__builtins__") 171, val := Value.ref 4 }, { hash := PyData.keyHash P (Str.ofString "__file__"), key := Value.str (Str.ofString "__file__") 173, val := Value.str (Str.ofString "/claim/cut.py") 172 }, { hash := PyData.keyHash P (Str.ofString "__cached__"), key := Value.str (Str.ofString "__cached__") 174, val := Value.none }, { hash := PyData.keyHash P (Str.ofString "_sre"), key := Value.str (Str.ofString "_sre") 275, val := Value.ref 12 }, { hash := PyData.keyHash P (Str.ofString "_wall"), key := Value.str (Str.ofString "_wall") 288, val := Value.ref 38 }, { hash := PyData.keyHash P (Str.ofString "_twin_re_7"), key := Value.str (Str.ofString "_twin_re_7") 318, val := Value.ref 43 }, { hash := PyData.keyHash P (Str.ofString "unmatched"), key := Value.str (Str.ofString "unmatched") 327, val := Value.ref 50 }, { hash := PyData.keyHash P (Str.ofString "HEADER_TOKEN_RE"), key := Value.str (Str.ofString "HEADER_TOKEN_RE") 375, val := Value.ref 55 }, { hash := PyData.keyHash P (Str.ofString "HEADER_QUOTED_VALUE_RE"), key := Value.str (Str.ofString "HEADER_QUOTED_VALUE_RE") 453, val := Value.ref 60 }, { hash := PyData.keyHash P (Str.ofString "HEADER_VALUE_RE"), key := Value.str (Str.ofString "HEADER_VALUE_RE") 508, val := Value.ref 65 }, { hash := PyData.keyHash P (Str.ofString "HEADER_ESCAPE_RE"), key := Value.str (Str.ofString "HEADER_ESCAPE_RE") 531, val := Value.ref 70 }, { hash := PyData.keyHash P (Str.ofString "split_header_words"), key := Value.str (Str.ofString "split_header_words") 547, val := Value.ref 77 }, { hash := PyData.keyHash P (Str.ofString "HEADER_JOIN_TOKEN_RE"), key := Value.str (Str.ofString "HEADER_JOIN_TOKEN_RE") 576, val := Value.ref 82 }, { hash := PyData.keyHash P (Str.ofString "HEADER_JOIN_ESCAPE_RE"), key := Value.str (Str.ofString "HEADER_JOIN_ESCAPE_RE") 604, val := Value.ref 87 }, { hash := PyData.keyHash P (Str.ofString "join_header_words"), key := Value.str (Str.ofString "join_header_words") 616, val := Value.ref 94 }, { hash := PyData.keyHash P (Str.ofString "_NODE_OUT"), key := Value.str (Str.ofString "_NODE_OUT") 621, val := Value.int (-1) 620 }, { hash := PyData.keyHash P (Str.ofString "_NODE_DONE"), key := Value.str (Str.ofString "_NODE_DONE") 624, val := Value.int (-2) 623 }, { hash := PyData.keyHash P (Str.ofString "_NodeInfo"), key := Value.str (Str.ofString "_NodeInfo") 661, val := Value.ref 113 }, { hash := PyData.keyHash P (Str.ofString "CycleError"), key := Value.str (Str.ofString "CycleError") 679, val := Value.ref 128 }, { hash := PyData.keyHash P (Str.ofString "TopologicalSorter"), key := Value.str (Str.ofString "TopologicalSorter") 798, val := Value.ref 210 }, { hash := PyData.keyHash P (Str.ofString "_law_row"), key := Value.str (Str.ofString "_law_row") 809, val := Value.ref 221 }, { hash := PyData.keyHash P (Str.ofString "_law_text"), key := Value.str (Str.ofString "_law_text") 815, val := Value.ref 226 }, { hash := PyData.keyHash P (Str.ofString "_law_rounds"), key := Value.str (Str.ofString "_law_rounds") 821, val := Value.ref 231 }, { hash := PyData.keyHash P (Str.ofString "_law_told"), key := Value.str (Str.ofString "_law_told") 831, val := Value.ref 238 }, { hash := PyData.keyHash P (Str.ofString "law"), key := Value.str (Str.ofString "law") 837, val := Value.ref 243 }] 31 }) ::
 (nat_lit 32, { cls := Value.type "tuple", data := Data.seq #[] }) ::
 (nat_lit 34, { cls := Value.type "tuple", data := Data.seq #[Value.str (Str.ofString "k") 285] }) ::
 (nat_lit 35, { cls := Value.type "tuple", data := Data.seq #[] }) ::
 (nat_lit 37, { cls := Value.type "code", data := Data.fields #[Value.str (Str.ofString "_wall") 282, Value.str (Str.ofString "_wall") 283, Value.str (Str.ofString "/claim/cut.py") 284, Value.int 2 0, Value.int 1 0, Value.int 0 0, Value.int 0 0, Value.int 3 0, Value.ref 32, Value.bool true, Value.int 276 0, Value.ref 33, Value.none, Value.ref 34, Value.ref 35, Value.ref 36, Value.int 286 0, Value.int 2 0, Value.str (Str.ofString "/claim/cut.py") 287] }) ::
 (nat_lit 38, { cls := Value.type "function", data := Data.func { name := Str.ofString "_wall", qualname := Str.ofString "_wall", params := fd_1A, body := FuncBody.stmts fd_1B, scope := fd_1S, globals := 3, closure := [], defaults := Value.none, kwdefaults := Value.none, pyModule := Value.str (Str.ofString "__main__") 164, code := Value.ref 37 } }) ::
 (nat_lit 42, { cls := Value.type "tuple", data := Data.seq (List.toArray (Value.int 14 0 :: Value.int 4 0 :: Value.int 0 0 :: Value.int 0 0 :: Value.int 4294967295 0 :: Value.int 6 0 :: Value.int 0 0 :: Value.int 24 0 :: Value.int 13 0 :: Value.int 0 0 :: Value.int 4294967295 0 :: Value.int 13 0 :: Value.int 8 0 :: Value.int 16 0 :: Value.int 61 0 :: Value.int 8 0 :: Value.int 12 0 :: Value.int 16 0 :: Value.int 59 0 :: Value.int 0 0 :: Value.int 1 0 :: Value.int 1 0 :: [])) }) ::
 (nat_lit 43, { cls := Value.type "re.Pattern", data := Data.fields #[Value.str (Str.ofString "^[=\\s;]*") 292, Value.int 32 317, Value.int 0 0, Value.none, Value.none, Value.ref 42, Value.int 0 0] }) ::
 (nat_lit 44, { cls := Value.type "tuple", data := Data.seq #[] }) ::
 (nat_lit 46, { cls := Value.type "tuple", data := Data.seq #[Value.str (Str.ofString "match") 322, Value.str (Str.ofString "start") 323, Value.str (Str.ofString "end") 324] }) ::
 (nat_lit 47, { cls := Value.type "tuple", data := Data.seq #[] }) ::
 (nat_lit 49, { cls := Value.type "code", data := Data.fields #[Value.str (Str.ofString "unmatched") 319, Value.str (Str.ofString "unmatched") 320, Value.str (Str.ofString "/claim/cut.py") 321, Value.int 7 0, Value.int 1 0, Value.int 0 0, Value.int 0 0, Value.int 3 0, Value.ref 44, Value.bool true, Value.int 276 0, Value.ref 45, Value.none, Value.ref 46, Value.ref 47, Value.ref 48, Value.int 325 0, Value.int 7 0, Value.str (Str.ofString "/claim/cut.py") 326] }) ::
 (nat_lit 50, { cls := Value.type "function", data := Data.func { name := Str.ofString "unmatched", qualname := Str.ofString "unmatched", params := fd_4A, body := FuncBody.stmts fd_4B, scope := fd_4S, globals := 3, closure := [], defaults := Value.none, kwdefaults := Value.none, pyModule := Value.str (Str.ofString "cpy313.http.cookiejar") 289, code := Value.ref 49 } }) ::
 (nat_lit 54, { cls := Value.type "tuple", data := Data.seq (List.toArray (Value.int 14 0 :: Value.int 4 0 :: Value.int 0 0 :: Value.int 1 0 :: Value.int 4294967295 0 :: Value.int 6 0 :: Value.int 0 0 :: Value.int 24 0 :: Value.int 9 0 :: Value.int 0 0 :: Value.int 4294967295 0 :: Value.int 13 0 :: Value.int 4 0 :: Value.int 8 0 :: Value.int 12 0 :: Value.int 0 0 :: Value.int 1 0 :: Value.int 17 0 :: Value.int 0 0 :: Value.int 24 0 :: Value.int 19 0 :: Value.int 1 0 :: Value.int 4294967295 0 :: Value.int 13 0 :: Value.int 14 0 :: Value.int 21 0 :: Value.int 9 0 :: Value.int 0 0 :: Value.int 671092736 0 :: Value.int 0 0 :: Value.int 0 0 :: Value.int 0 0 :: Value.int 0 0 :: Value.int 0 0 :: Value.int 0 0 :: Value.int 8 0 :: Value.int 12 0 :: Value.int 0 0 :: Value.int 1 0 :: Value.int 17 0 :: Value.int 1 0 :: Value.int 1 0 :: [])) }) ::
 (nat_lit 55, { cls := Value.type "re.Pattern", data := Data.fields #[Value.str (Str.ofString "^\\s*([^=\\s;,]+)") 329, Value.int 32 374, Value.int 1 0, Value.none, Value.none, Value.ref 54, Value.int 0 0] }) ::
 (nat_lit 59, { cls := Value.type "tuple", data := Data.seq (List.toArray (Value.int 14 0 :: Value.int 4 0 :: Value.int 0 0 :: Value.int 3 0 :: Value.int 4294967295 0 :: Value.int 6 0 :: Value.int 0 0 :: Value.int 24 0 :: Value.int 9 0 :: Value.int 0 0 :: Value.int 4294967295 0 :: Value.int 13 0 :: Value.int 4 0 :: Value.int 8 0 :: Value.int 12 0 :: Value.int 0 0 :: Value.int 1 0 :: Value.int 16 0 :: Value.int 61 0 :: Value.int 24 0 :: Value.int 9 0 :: Value.int 0 0 :: Value.int 4294967295 0 :: Value.int 13 0 :: Value.int 4 0 :: Value.int 8 0 :: Value.int 12 0 :: Value.int 0 0 :: Value.int 1 0 :: Value.int 16 0 :: Value.int 34 0 :: Value.int 17 0 :: Value.int 0 0 :: Value.int 24 0 :: Value.int 12 0 :: Value.int 0 0 :: Value.int 4294967295 0 :: Value.int 13 0 :: Value.int 7 0 :: Value.int 21 0 :: Value.int 16 0 :: Value.int 34 0 :: Value.int 16 0 :: Value.int 92 0 :: Value.int 0 0 :: Value.int 1 0 :: Value.int 23 0 :: Value.int 19 0 :: Value.int 0 0 :: Value.int 4294967295 0 :: Value.int 16 0 :: Value.int 92 0 :: Value.int 2 0 :: Value.int 24 0 :: Value.int 12 0 :: Value.int 0 0 :: Value.int 4294967295 0 :: Value.int 13 0 :: Value.int 7 0 :: Value.int 21 0 :: Value.int 16 0 :: Value.int 34 0 :: Value.int 16 0 :: Value.int 92 0 :: Value.int 0 0 :: Value.int 1 0 :: Value.int 18 0 :: Value.int 17 0 :: Value.int 1 0 :: Value.int 16 0 :: Value.int 34 0 :: Value.int 1 0 :: [])) }) ::
 (nat_lit 60, { cls := Value.type "re.Pattern", data := Data.fields #[Value.str (Str.ofString "^\\s*=\\s*\\\"([^\\\"\\\\]*(?:\\\\.[^\\\"\\\\]*)*)\\\"") 377, Value.int 32 452, Value.int 1 0, Value.none, Value.none, Value.ref 59, Value.int 0 0] }) ::
 (nat_lit 64, { cls := Value.type "tuple", data := Data.seq (List.toArray (Value.int 14 0 :: Value.int 4 0 :: Value.int 0 0 :: Value.int 1 0 :: Value.int 4294967295 0 :: Value.int 6 0 :: Value.int 0 0 :: Value.int 24 0 :: Value.int 9 0 :: Value.int 0 0 :: Value.int 4294967295 0 :: Value.int 13 0 :: Value.int 4 0 :: Value.int 8 0 :: Value.int 12 0 :: Value.int 0 0 :: Value.int 1 0 :: Value.int 16 0 :: Value.int 61 0 :: Value.int 24 0 :: Value.int 9 0 :: Value.int 0 0 :: Value.int 4294967295 0 :: Value.int 13 0 :: Value.int 4 0 :: Value.int 8 0 :: Value.int 12 0 :: Value.int 0 0 :: Value.int 1 0 :: Value.int 17 0 :: Value.int 0 0 :: Value.int 24 0 :: Value.int 14 0 :: Value.int 0 0 :: Value.int 4294967295 0 :: Value.int 13 0 :: Value.int 9 0 :: Value.int 21 0 :: Value.int 8 0 :: Value.int 12 0 :: Value.int 16 0 :: Value.int 59 0 :: Value.int 16 0 :: Value.int 44 0 :: Value.int 0 0 :: Value.int 1 0 :: Value.int 17 0 :: Value.int 1 0 :: Value.int 1 0 :: [])) }) ::
 (nat_lit 65, { cls := Value.type "re.Pattern", data := Data.fields #[Value.str (Str.ofString "^\\s*=\\s*([^\\s;,]*)") 455, Value.int 32 507, Value.int 1 0, Value.none, Value.none, Value.ref 64, Value.int 0 0] }) ::
 (nat_lit 69, { cls := Value.type "tuple", data := Data.seq #[Value.int 14 0, Value.int 8 0, Value.int 1 0, Value.int 2 0, Value.int 2 0, Value.int 1 0, Value.int 1 0, Value.int 92 0, Value.int 0 0, Value.int 16 0, Value.int 92 0, Value.int 17 0, Value.int 0 0, Value.int 2 0, Value.int 17 0, Value.int 1 0, Value.int 1 0] }) ::
 (nat_lit 70, { cls := Value.type "re.Pattern", data := Data.fields #[Value.str (Str.ofString "\\\\(.)") 510, Value.int 32 530, Value.int 1 0, Value.none, Value.none, Value.ref 69, Value.int 0 0] }) ::
 (nat_lit 71, { cls := Value.type "tuple", data := Data.seq #[] }) ::
 (nat_lit 73, { cls := Value.type "tuple", data := Data.seq #[Value.str (Str.ofString "header_values") 535, Value.str (Str.ofString "result") 536, Value.str (Str.ofString "text") 537, Value.str (Str.ofString "orig_text") 538, Value.str (Str.ofString "pairs") 539, Value.str (Str.ofString "m") 540, Value.str (Str.ofString "name") 541, Value.str (Str.ofString "value") 542, Value.str (Str.ofString "non_junk") 543, Value.str (Str.ofString "nr_junk_chars") 544] }) ::
 (nat_lit 74, { cls := Value.type "tuple", data := Data.seq #[] }) ::
 (nat_lit 76, { cls := Value.type "code", data := Data.fields #[Value.str (Str.ofString "split_header_words") 532, Value.str (Str.ofString "split_header_words") 533, Value.str (Str.ofString "/claim/cut.py") 534, Value.int 14 0, Value.int 1 0, Value.int 0 0, Value.int 0 0, Value.int 3 0, Value.ref 71, Value.bool true, Value.int 276 0, Value.ref 72, Value.none, Value.ref 73, Value.ref 74, Value.ref 75, Value.int 545 0, Value.int 14 0, Value.str (Str.ofString "/claim/cut.py") 546] }) ::
 (nat_lit 77, { cls := Value.type "function", data := Data.func { name := Str.ofString "split_header_words", qualname := Str.ofString "split_header_words", params := fd_9A, body := FuncBody.stmts fd_9B, scope := fd_9S, globals := 3, closure := [], defaults := Value.none, kwdefaults := Value.none, pyModule := Value.str (Str.ofString "cpy313.http.cookiejar") 289, code := Value.ref 76 } }) ::
 (nat_lit 81, { cls := Value.type "tuple", data := Data.seq (List.toArray (Value.int 14 0 :: Value.int 4 0 :: Value.int 0 0 :: Value.int 1 0 :: Value.int 4294967295 0 :: Value.int 24 0 :: Value.int 16 0 :: Value.int 1 0 :: Value.int 4294967295 0 :: Value.int 13 0 :: Value.int 11 0 :: Value.int 9 0 :: Value.int 0 0 :: Value.int 67071226 0 :: Value.int 3355443198 0 :: Value.int 1476395007 0 :: Value.int 0 0 :: Value.int 0 0 :: Value.int 0 0 :: Value.int 0 0 :: Value.int 0 0 :: Value.int 1 0 :: Value.int 1 0 :: [])) }) ::
 (nat_lit 82, { cls := Value.type "re.Pattern", data := Data.fields #[Value.str (Str.ofString "[!#$%&'*+\\-.^_`|~0-9A-Za-z]+") 549, Value.int 32 575, Value.int 0 0, Value.none, Value.none, Value.ref 81, Value.int 0 0] }) ::
 (nat_lit 86, { cls := Value.type "tuple", data := Data.seq (List.toArray (Value.int 14 0 :: Value.int 9 0 :: Value.int 4 0 :: Value.int 1 0 :: Value.int 1 0 :: Value.int 16 0 :: Value.int 34 0 :: Value.int 16 0 :: Value.int 92 0 :: Value.int 0 0 :: Value.int 17 0 :: Value.int 0 0 :: Value.int 13 0 :: Value.int 6 0 :: Value.int 16 0 :: Value.int 34 0 :: Value.int 16 0 :: Value.int 92 0 :: Value.int 0 0 :: Value.int 17 0 :: Value.int 1 0 :: Value.int 1 0 :: [])) }) ::
 (nat_lit 87, { cls := Value.type "re.Pattern", data := Data.fields #[Value.str (Str.ofString "([\\\"\\\\])") 578, Value.int 32 603, Value.int 1 0, Value.none, Value.none, Value.ref 86, Value.int 0 0] }) ::
 (nat_lit 88, { cls := Value.type "tuple", data := Data.seq #[] }) ::
 (nat_lit 90, { cls := Value.type "tuple", data := Data.seq #[Value.str (Str.ofString "lists") 608, Value.str (Str.ofString "headers") 609, Value.str (Str.ofString "pairs") 610, Value.str (Str.ofString "attr") 611, Value.str (Str.ofString "k") 612, Value.str (Str.ofString "v") 613] }) ::
 (nat_lit 91, { cls := Value.type "tuple", data := Data.seq #[] }) ::
 (nat_lit 93, { cls := Value.type "code", data := Data.fields #[Value.str (Str.ofString "join_header_words") 605, Value.str (Str.ofString "join_header_words") 606, Value.str (Str.ofString "/claim/cut.py") 607, Value.int 53 0, Value.int 1 0, Value.int 0 0, Value.int 0 0, Value.int 3 0, Value.ref 88, Value.bool true, Value.int 276 0, Value.ref 89, Value.none, Value.ref 90, Value.ref 91, Value.ref 92, Value.int 614 0, Value.int 53 0, Value.str (Str.ofString "/claim/cut.py") 615] }) ::
 (nat_lit 94, { cls := Value.type "function", data := Data.func { name := Str.ofString "join_header_words", qualname := Str.ofString "join_header_words", params := fd_12A, body := FuncBody.stmts fd_12B, scope := fd_12S, globals := 3, closure := [], defaults := Value.none, kwdefaults := Value.none, pyModule := Value.str (Str.ofString "cpy313.http.cookiejar") 289, code := Value.ref 93 } }) ::
 (nat_lit 102, { cls := Value.type "tuple", data := Data.seq #[Value.str (Str.ofString "node") 637, Value.str (Str.ofString "npredecessors") 638, Value.str (Str.ofString "successors") 639] }) ::
 (nat_lit 103, { cls := Value.type "tuple", data := Data.seq #[] }) ::
 (nat_lit 105, { cls := Value.type "tuple", data := Data.seq #[Value.str (Str.ofString "self") 644, Value.str (Str.ofString "node") 645] }) ::
 (nat_lit 106, { cls := Value.type "tuple", data := Data.seq #[] }) ::
 (nat_lit 108, { cls := Value.type "code", data := Data.fields #[Value.str (Str.ofString "__init__") 641, Value.str (Str.ofString "_NodeInfo.__init__") 642, Value.str (Str.ofString "/claim/cut.py") 643, Value.int 73 0, Value.int 2 0, Value.int 0 0, Value.int 0 0, Value.int 3 0, Value.ref 103, Value.bool true, Value.int 276 0, Value.ref 104, Value.none, Value.ref 105, Value.ref 106, Value.ref 107, Value.int 646 0, Value.int 73 0, Value.str (Str.ofString "/claim/cut.py") 647] }) ::
 (nat_lit 109, { cls := Value.type "function", data := Data.func { name := Str.ofString "__init__", qualname := Str.ofString "_NodeInfo.__init__", params := jE, body := FuncBody.stmts jD, scope := jC, globals := 3, closure := [], defaults := Value.none, kwdefaults := Value.none, pyModule := Value.str (Str.ofString "cpy313.graphlib") 617, code := Value.ref 108 } }) ::
 (nat_lit 110, { cls := Value.type "tuple", data := Data.seq #[Value.str (Str.ofString "node") 649, Value.str (Str.ofString "npredecessors") 650, Value.str (Str.ofString "successors") 651] }) ::
 (nat_lit 112, { cls := Value.type "dict", data := Data.dict #[{ hash := PyData.keyHash P (Str.ofString "__module__"), key := Value.str (Str.ofString "__module__") 632, val := Value.str (Str.ofString "cpy313.graphlib") 617 }, { hash := PyData.keyHash P (Str.ofString "__firstlineno__"), key := Value.str (Str.ofString "__firstlineno__") 636, val := Value.int 70 635 }, { hash := PyData.keyHash P (Str.ofString "__slots__"), key := Value.str (Str.ofString "__slots__") 640, val := Value.ref 102 }, { hash := PyData.keyHash P (Str.ofString "__init__"), key := Value.str (Str.ofString "__init__") 648, val := Value.ref 109 }, { hash := PyData.keyHash P (Str.ofString "__static_attributes__"), key := Value.str (Str.ofString "__static_attributes__") 652, val := Value.ref 110 }, { hash := PyData.keyHash P (Str.ofString "node"), key := Value.str (Str.ofString "node") 654, val := Value.ref 114 }, { hash := PyData.keyHash P (Str.ofString "npredecessors"), key := Value.str (Str.ofString "npredecessors") 656, val := Value.ref 115 }, { hash := PyData.keyHash P (Str.ofString "successors"), key := Value.str (Str.ofString "successors") 658, val := Value.ref 116 }, { hash := PyData.keyHash P (Str.ofString "__doc__"), key := Value.str (Str.ofString "__doc__") 659, val := Value.none }] 5 }) ::
 (nat_lit 113, { cls := Value.type "type", data := Data.cls { name := Str.ofString "_NodeInfo", bases := [Value.type "object"], mro := [Value.ref 113, Value.type "object"], ns := 112, qualname := Str.ofString "_NodeInfo", hasDict := false, slotNames := [Str.ofString "node", Str.ofString "npredecessors", Str.ofString "successors"] }, slots := #[none, none, some (Value.str (Str.ofString "_NodeInfo") 625), some (Value.str (Str.ofString "_NodeInfo") 633), some (Value.builtin "object.__new__"), some (Value.bool false)] }) ::
 (nat_lit 114, { cls := Value.type "member_descriptor", data := Data.fields #[Value.str (Str.ofString "node") 653, Value.ref 113, Value.builtin "proto.slot", Value.builtin "proto.slot#set", Value.int 2 0] }) ::
 (nat_lit 115, { cls := Value.type "member_descriptor", data := Data.fields #[Value.str (Str.ofString "npredecessors") 655, Value.ref 113, Value.builtin "proto.slot", Value.builtin "proto.slot#set", Value.int 1 0] }) ::
 (nat_lit 116, { cls := Value.type "member_descriptor", data := Data.fields #[Value.str (Str.ofString "successors") 657, Value.ref 113, Value.builtin "proto.slot", Value.builtin "proto.slot#set", Value.int 0 0] }) ::
 (nat_lit 119, { cls := Value.type "tuple", data := Data.seq #[Value.type "ValueError"] }) ::
 (nat_lit 126, { cls := Value.type "tuple", data := Data.seq #[] }) ::
 (nat_lit 127, { cls := Value.type "dict", data := Data.dict #[{ hash := PyData.keyHash P (Str.ofString "__module__"), key := Value.str (Str.ofString "__module__") 669, val := Value.str (Str.ofString "cpy313.graphlib") 617 }, { hash := PyData.keyHash P (Str.ofString "__firstlineno__"), key := Value.str (Str.ofString "__firstlineno__") 673, val := Value.int 77 672 }, { hash := PyData.keyHash P (Str.ofString "__static_attributes__"), key := Value.str (Str.ofString "__static_attributes__") 674, val := Value.ref 126 }, { hash := PyData.keyHash P (Str.ofString "__weakref__"), key := Value.str (Str.ofString "__weakref__") 676, val := Value.ref 129 }, { hash := PyData.keyHash P (Str.ofString "__doc__"), key := Value.str (Str.ofString "__doc__") 677, val := Value.none }] 3 }) ::
 (nat_lit 128, { cls := Value.type "type", data := Data.cls { name := Str.ofString "CycleError", bases := [Value.type "ValueError"], mro := [Value.ref 128, Value.type "ValueError", Value.type "Exception", Value.type "BaseException", Value.type "object"], ns := 127, qualname := Str.ofString "CycleError" }, slots := #[some (Value.ref 119), none, some (Value.str (Str.ofString "CycleError") 662), some (Value.str (Str.ofString "CycleError") 670), some (Value.builtin "ValueError.__new__"), some (Value.bool true)] }) ::
 (nat_lit 129, { cls := Value.type "getset_descriptor", data := Data.fields #[Value.str (Str.ofString "__weakref__") 675, Value.ref 128, Value.builtin "ExceptionGroup.__weakref__", Value.none] }) ::
 (nat_lit 139, { cls := Value.type "tuple", data := Data.seq #[Value.none] }) ::
 (nat_lit 140, { cls := Value.type "tuple", data := Data.seq #[] }) ::
 (nat_lit 142, { cls := Value.type "tuple", data := Data.seq #[Value.str (Str.ofString "self") 695, Value.str (Str.ofString "graph") 696, Value.str (Str.ofString "node") 697, Value.str (Str.ofString "predecessors") 698] }) ::
 (nat_lit 143, { cls := Value.type "tuple", data := Data.seq #[] }) ::
 (nat_lit 145, { cls := Value.type "code", data := Data.fields #[Value.str (Str.ofString "__init__") 692, Value.str (Str.ofString "TopologicalSorter.__init__") 693, Value.str (Str.ofString "/claim/cut.py") 694, Value.int 81 0, Value.int 2 0, Value.int 0 0, Value.int 0 0, Value.int 3 0, Value.ref 140, Value.bool true, Value.int 276 0, Value.ref 141, Value.none, Value.ref 142, Value.ref 143, Value.ref 144, Value.int 699 0, Value.int 81 0, Value.str (Str.ofString "/claim/cut.py") 700] }) ::
 (nat_lit 146, { cls := Value.type "function", data := Data.func { name := Str.ofString "__init__", qualname := Str.ofString "TopologicalSorter.__init__", params := jB, body := FuncBody.stmts jA, scope := jz, globals := 3, closure := [], defaults := Value.ref 139, kwdefaults := Value.none, pyModule := Value.str (Str.ofString "cpy313.graphlib") 617, code := Value.ref 145 } }) ::
 (nat_lit 147, { cls := Value.type "tuple", data := Data.seq #[] }) ::
 (nat_lit 149, { cls := Value.type "tuple", data := Data.seq #[Value.str (Str.ofString "self") 705, Value.str (Str.ofString "node") 706, Value.str (Str.ofString "result") 707] }) ::
 (nat_lit 150, { cls := Value.type "tuple", data := Data.seq #[] }) ::
 (nat_lit 152, { cls := Value.type "code", data := Data.fields #[Value.str (Str.ofString "_get_nodeinfo") 702, Value.str (Str.ofString "TopologicalSorter._get_nodeinfo") 703, Value.str (Str.ofString "/claim/cut.py") 704, Value.int 90 0, Value.int 2 0, Value.int 0 0, Value.int 0 0, Value.int 3 0, Value.ref 147, Value.bool true, Value.int 276 0, Value.ref 148, Value.none, Value.ref 149, Value.ref 150, Value.ref 151, Value.int 708 0, Value.int 90 0, Value.str (Str.ofString "/claim/cut.py") 709] }) ::
 (nat_lit 153, { cls := Value.type "function", data := Data.func { name := Str.ofString "_get_nodeinfo", qualname := Str.ofString "TopologicalSorter._get_nodeinfo", params := jy, body := FuncBody.stmts jx, scope := jw, globals := 3, closure := [], defaults := Value.none, kwdefaults := Value.none, pyModule := Value.str (Str.ofString "cpy313.graphlib") 617, code := Value.ref 152 } }) ::
 (nat_lit 154, { cls := Value.type "tuple", data := Data.seq #[] }) ::
 (nat_lit 156, { cls := Value.type "tuple", data := Data.seq #[Value.str (Str.ofString "self") 714, Value.str (Str.ofString "node") 715, Value.str (Str.ofString "predecessors") 716, Value.str (Str.ofString "nodeinfo") 717, Value.str (Str.ofString "pred") 718, Value.str (Str.ofString "pred_info") 719] }) ::
 (nat_lit 157, { cls := Value.type "tuple", data := Data.seq #[] }) ::
 (nat_lit 159, { cls := Value.type "code", data := Data.fields #[Value.str (Str.ofString "add") 711, Value.str (Str.ofString "TopologicalSorter.add") 712, Value.str (Str.ofString "/claim/cut.py") 713, Value.int 95 0, Value.int 2 0, Value.int 0 0, Value.int 0 0, Value.int 7 0, Value.ref 154, Value.bool true, Value.int 276 0, Value.ref 155, Value.none, Value.ref 156, Value.ref 157, Value.ref 158, Value.int 720 0, Value.int 95 0, Value.str (Str.ofString "/claim/cut.py") 721] }) ::
 (nat_lit 160, { cls := Value.type "function", data := Data.func { name := Str.ofString "add", qualname := Str.ofString "TopologicalSorter.add", params := jv, body := FuncBody.stmts ju, scope := jt, globals := 3, closure := [], defaults := Value.none, kwdefaults := Value.none, pyModule := Value.str (Str.ofString "cpy313.graphlib") 617, code := Value.ref 159 } }) ::
 (nat_lit 161, { cls := Value.type "tuple", data := Data.seq #[] }) ::
 (nat_lit 164, { cls := Value.type "code", data := Data.fields #[Value.str (Str.ofString "prepare") 723, Value.str (Str.ofString "TopologicalSorter.prepare") 724, Value.str (Str.ofString "/claim/cut.py") 725, Value.int 104 0, Value.int 1 0, Value.int 0 0, Value.int 0 0, Value.int 3 0, Value.ref 161, Value.bool true, Value.int 276 0, Value.ref 162, Value.none, Value.none, Value.none, Value.ref 163, Value.int 726 0, Value.int 104 0, Value.str (Str.ofString "/claim/cut.py") 727] }) ::
 (nat_lit 165, { cls := Value.type "function", data := Data.func { name := Str.ofString "prepare", qualname := Str.ofString "TopologicalSorter.prepare", params := js, body := FuncBody.stmts jr, scope := jq, globals := 3, closure := [], defaults := Value.none, kwdefaults := Value.none, pyModule := Value.str (Str.ofString "cpy313.graphlib") 617, code := Value.ref 164 } }) ::
 (nat_lit 166, { cls := Value.type "tuple", data := Data.seq #[] }) ::
 (nat_lit 168, { cls := Value.type "tuple", data := Data.seq #[Value.str (Str.ofString "self") 732, Value.str (Str.ofString "result") 733, Value.str (Str.ofString "n2i") 734, Value.str (Str.ofString "node") 735] }) ::
 (nat_lit 169, { cls := Value.type "tuple", data := Data.seq #[] }) ::
 (nat_lit 171, { cls := Value.type "code", data := Data.fields #[Value.str (Str.ofString "get_ready") 729, Value.str (Str.ofString "TopologicalSorter.get_ready") 730, Value.str (Str.ofString "/claim/cut.py") 731, Value.int 112 0, Value.int 1 0, Value.int 0 0, Value.int 0 0, Value.int 3 0, Value.ref 166, Value.bool true, Value.int 276 0, Value.ref 167, Value.none, Value.ref 168, Value.ref 169, Value.ref 170, Value.int 736 0, Value.int 112 0, Value.str (Str.ofString "/claim/cut.py") 737] }) ::
 (nat_lit 172, { cls := Value.type "function", data := Data.func { name := Str.ofString "get_ready", qualname := Str.ofString "TopologicalSorter.get_ready", params := jp, body := FuncBody.stmts jo, scope := jn, globals := 3, closure := [], defaults := Value.none, kwdefaults := Value.none, pyModule := Value.str (Str.ofString "cpy313.graphlib") 617, code := Value.ref 171 } }) ::
 (nat_lit 173, { cls := Value.type "tuple", data := Data.seq #[] }) ::
 (nat_lit 175, { cls := Value.type "tuple", data := Data.seq #[Value.str (Str.ofString "self") 742] }) ::
 (nat_lit 176, { cls := Value.type "tuple", data := Data.seq #[] }) ::
 (nat_lit 178, { cls := Value.type "code", data := Data.fields #[Value.str (Str.ofString "is_active") 739, Value.str (Str.ofString "TopologicalSorter.is_active") 740, Value.str (Str.ofString "/claim/cut.py") 741, Value.int 123 0, Value.int 1 0, Value.int 0 0, Value.int 0 0, Value.int 3 0, Value.ref 173, Value.bool true, Value.int 276 0, Value.ref 174, Value.none, Value.ref 175, Value.ref 176, Value.ref 177, Value.int 743 0, Value.int 123 0, Value.str (Str.ofString "/claim/cut.py") 744] }) ::
 (nat_lit 179, { cls := Value.type "function", data := Data.func { name := Str.ofString "is_active", qualname := Str.ofString "TopologicalSorter.is_active", params := jm, body := FuncBody.stmts jl, scope := jk, globals := 3, closure := [], defaults := Value.none, kwdefaults := Value.none, pyModule := Value.str (Str.ofString "cpy313.graphlib") 617, code := Value.ref 178 } }) ::
 (nat_lit 180, { cls := Value.type "tuple", data := Data.seq #[] }) ::
 (nat_lit 182, { cls := Value.type "tuple", data := Data.seq #[Value.str (Str.ofString "self") 749] }) ::
 (nat_lit 183, { cls := Value.type "tuple", data := Data.seq #[] }) ::
 (nat_lit 185, { cls := Value.type "code", data := Data.fields #[Value.str (Str.ofString "__bool__") 746, Value.str (Str.ofString "TopologicalSorter.__bool__") 747, Value.str (Str.ofString "/claim/cut.py") 748, Value.int 128 0, Value.int 1 0, Value.int 0 0, Value.int 0 0, Value.int 3 0, Value.ref 180, Value.bool true, Value.int 276 0, Value.ref 181, Value.none, Value.ref 182, Value.ref 183, Value.ref 184, Value.int 750 0, Value.int 128 0, Value.str (Str.ofString "/claim/cut.py") 751] }) ::
 (nat_lit 186, { cls := Value.type "function", data := Data.func { name := Str.ofString "__bool__", qualname := Str.ofString "TopologicalSorter.__bool__", params := jj, body := FuncBody.stmts ji, scope := jh, globals := 3, closure := [], defaults := Value.none, kwdefaults := Value.none, pyModule := Value.str (Str.ofString "cpy313.graphlib") 617, code := Value.ref 185 } }) ::
 (nat_lit 187, { cls := Value.type "tuple", data := Data.seq #[] }) ::
 (nat_lit 189, { cls := Value.type "tuple", data := Data.seq #[Value.str (Str.ofString "self") 756, Value.str (Str.ofString "nodes") 757, Value.str (Str.ofString "n2i") 758, Value.str (Str.ofString "node") 759, Value.str (Str.ofString "nodeinfo") 760, Value.str (Str.ofString "stat") 761, Value.str (Str.ofString "successor") 762, Value.str (Str.ofString "successor_info") 763] }) ::
 (nat_lit 190, { cls := Value.type "tuple", data := Data.seq #[] }) ::
 (nat_lit 192, { cls := Value.type "code", data := Data.fields #[Value.str (Str.ofString "done") 753, Value.str (Str.ofString "TopologicalSorter.done") 754, Value.str (Str.ofString "/claim/cut.py") 755, Value.int 131 0, Value.int 1 0, Value.int 0 0, Value.int 0 0, Value.int 7 0, Value.ref 187, Value.bool true, Value.int 276 0, Value.ref 188, Value.none, Value.ref 189, Value.ref 190, Value.ref 191, Value.int 764 0, Value.int 131 0, Value.str (Str.ofString "/claim/cut.py") 765] }) ::
 (nat_lit 193, { cls := Value.type "function", data := Data.func { name := Str.ofString "done", qualname := Str.ofString "TopologicalSorter.done", params := jg, body := FuncBody.stmts jf, scope := je, globals := 3, closure := [], defaults := Value.none, kwdefaults := Value.none, pyModule := Value.str (Str.ofString "cpy313.graphlib") 617, code := Value.ref 192 } }) ::
 (nat_lit 194, { cls := Value.type "tuple", data := Data.seq #[] }) ::
 (nat_lit 196, { cls := Value.type "tuple", data := Data.seq #[Value.str (Str.ofString "self") 770, Value.str (Str.ofString "n2i") 771, Value.str (Str.ofString "stack") 772, Value.str (Str.ofString "itstack") 773, Value.str (Str.ofString "seen") 774, Value.str (Str.ofString "node2stacki") 775, Value.str (Str.ofString "node") 776] }) ::
 (nat_lit 197, { cls := Value.type "tuple", data := Data.seq #[] }) ::
 (nat_lit 199, { cls := Value.type "code", data := Data.fields #[Value.str (Str.ofString "_find_cycle") 767, Value.str (Str.ofString "TopologicalSorter._find_cycle") 768, Value.str (Str.ofString "/claim/cut.py") 769, Value.int 154 0, Value.int 1 0, Value.int 0 0, Value.int 0 0, Value.int 3 0, Value.ref 194, Value.bool true, Value.int 276 0, Value.ref 195, Value.none, Value.ref 196, Value.ref 197, Value.ref 198, Value.int 777 0, Value.int 154 0, Value.str (Str.ofString "/claim/cut.py") 778] }) ::
 (nat_lit 200, { cls := Value.type "function", data := Data.func { name := Str.ofString "_find_cycle", qualname := Str.ofString "TopologicalSorter._find_cycle", params := jd, body := FuncBody.stmts jc, scope := jb, globals := 3, closure := [], defaults := Value.none, kwdefaults := Value.none, pyModule := Value.str (Str.ofString "cpy313.graphlib") 617, code := Value.ref 199 } }) ::
 (nat_lit 201, { cls := Value.type "tuple", data := Data.seq #[] }) ::
 (nat_lit 203, { cls := Value.type "tuple", data := Data.seq #[Value.str (Str.ofString "self") 783] }) ::
 (nat_lit 204, { cls := Value.type "tuple", data := Data.seq #[] }) ::
 (nat_lit 206, { cls := Value.type "code", data := Data.fields #[Value.str (Str.ofString "static_order") 780, Value.str (Str.ofString "TopologicalSorter.static_order") 781, Value.str (Str.ofString "/claim/cut.py") 782, Value.int 183 0, Value.int 1 0, Value.int 0 0, Value.int 0 0, Value.int 3 0, Value.ref 201, Value.bool true, Value.int 276 0, Value.ref 202, Value.none, Value.ref 203, Value.ref 204, Value.ref 205, Value.int 784 0, Value.int 183 0, Value.str (Str.ofString "/claim/cut.py") 785] }) ::
 (nat_lit 207, { cls := Value.type "function", data := Data.func { name := Str.ofString "static_order", qualname := Str.ofString "TopologicalSorter.static_order", params := ja, body := FuncBody.stmts iZ, scope := iY, globals := 3, closure := [], defaults := Value.none, kwdefaults := Value.none, pyModule := Value.str (Str.ofString "cpy313.graphlib") 617, code := Value.ref 206 } }) ::
 (nat_lit 208, { cls := Value.type "tuple", data := Data.seq #[Value.str (Str.ofString "_nfinished") 787, Value.str (Str.ofString "_node2info") 788, Value.str (Str.ofString "_npassedout") 789, Value.str (Str.ofString "_ready_nodes") 790] }) ::
 (nat_lit 209, { cls := Value.type "dict", data := Data.dict #[{ hash := PyData.keyHash P (Str.ofString "__module__"), key := Value.str (Str.ofString "__module__") 687, val := Value.str (Str.ofString "cpy313.graphlib") 617 }, { hash := PyData.keyHash P (Str.ofString "__firstlineno__"), key := Value.str (Str.ofString "__firstlineno__") 691, val := Value.int 79 690 }, { hash := PyData.keyHash P (Str.ofString "__init__"), key := Value.str (Str.ofString "__init__") 701, val := Value.ref 146 }, { hash := PyData.keyHash P (Str.ofString "_get_nodeinfo"), key := Value.str (Str.ofString "_get_nodeinfo") 710, val := Value.ref 153 }, { hash := PyData.keyHash P (Str.ofString "add"), key := Value.str (Str.ofString "add") 722, val := Value.ref 160 }, { hash := PyData.keyHash P (Str.ofString "prepare"), key := Value.str (Str.ofString "prepare") 728, val := Value.ref 165 }, { hash := PyData.keyHash P (Str.ofString "get_ready"), key := Value.str (Str.ofString "get_ready") 738, val := Value.ref 172 }, { hash := PyData.keyHash P (Str.ofString "is_active"), key := Value.str (Str.ofString "is_active") 745, val := Value.ref 179 }, { hash := PyData.keyHash P (Str.ofString "__bool__"), key := Value.str (Str.ofString "__bool__") 752, val := Value.ref 186 }, { hash := PyData.keyHash P (Str.ofString "done"), key := Value.str (Str.ofString "done") 766, val := Value.ref 193 }, { hash := PyData.keyHash P (Str.ofString "_find_cycle"), key := Value.str (Str.ofString "_find_cycle") 779, val := Value.ref 200 }, { hash := PyData.keyHash P (Str.ofString "static_order"), key := Value.str (Str.ofString "static_order") 786, val := Value.ref 207 }, { hash := PyData.keyHash P (Str.ofString "__static_attributes__"), key := Value.str (Str.ofString "__static_attributes__") 791, val := Value.ref 208 }, { hash := PyData.keyHash P (Str.ofString "__dict__"), key := Value.str (Str.ofString "__dict__") 793, val := Value.ref 211 }, { hash := PyData.keyHash P (Str.ofString "__weakref__"), key := Value.str (Str.ofString "__weakref__") 795, val := Value.ref 212 }, { hash := PyData.keyHash P (Str.ofString "__doc__"), key := Value.str (Str.ofString "__doc__") 796, val := Value.none }] 4 }) ::
 (nat_lit 210, { cls := Value.type "type", data := Data.cls { name := Str.ofString "TopologicalSorter", bases := [Value.type "object"], mro := [Value.ref 210, Value.type "object"], ns := 209, qualname := Str.ofString "TopologicalSorter" }, slots := #[none, none, some (Value.str (Str.ofString "TopologicalSorter") 680), some (Value.str (Str.ofString "TopologicalSorter") 688), some (Value.builtin "object.__new__"), some (Value.bool true)] }) ::
 (nat_lit 211, { cls := Value.type "getset_descriptor", data := Data.fields #[Value.str (Str.ofString "__dict__") 792, Value.ref 210, Value.builtin "function.__dict__", Value.builtin "function.__dict__#set"] }) ::
 (nat_lit 212, { cls := Value.type "getset_descriptor", data := Data.fields #[Value.str (Str.ofString "__weakref__") 794, Value.ref 210, Value.builtin "ExceptionGroup.__weakref__", Value.none] }) ::
 (nat_lit 215, { cls := Value.type "tuple", data := Data.seq #[] }) ::
 (nat_lit 217, { cls := Value.type "tuple", data := Data.seq #[Value.str (Str.ofString "x") 804, Value.str (Str.ofString "names") 805, Value.str (Str.ofString "row") 806] }) ::
 (nat_lit 218, { cls := Value.type "tuple", data := Data.seq #[] }) ::
 (nat_lit 220, { cls := Value.type "code", data := Data.fields #[Value.str (Str.ofString "_law_row") 801, Value.str (Str.ofString "_law_row") 802, Value.str (Str.ofString "/claim/cut.py") 803, Value.int 186 0, Value.int 1 0, Value.int 0 0, Value.int 0 0, Value.int 3 0, Value.ref 215, Value.bool true, Value.int 276 0, Value.ref 216, Value.none, Value.ref 217, Value.ref 218, Value.ref 219, Value.int 807 0, Value.int 186 0, Value.str (Str.ofString "/claim/cut.py") 808] }) ::
 (nat_lit 221, { cls := Value.type "function", data := Data.func { name := Str.ofString "_law_row", qualname := Str.ofString "_law_row", params := fd_20A, body := FuncBody.stmts fd_20B, scope := fd_20S, globals := 3, closure := [], defaults := Value.none, kwdefaults := Value.none, pyModule := Value.str (Str.ofString "law_oc0257_01") 799, code := Value.ref 220 } }) ::
 (nat_lit 222, { cls := Value.type "tuple", data := Data.seq #[] }) ::
 (nat_lit 225, { cls := Value.type "code", data := Data.fields #[Value.str (Str.ofString "_law_text") 810, Value.str (Str.ofString "_law_text") 811, Value.str (Str.ofString "/claim/cut.py") 812, Value.int 190 0, Value.int 1 0, Value.int 0 0, Value.int 0 0, Value.int 3 0, Value.ref 222, Value.bool true, Value.int 276 0, Value.ref 223, Value.none, Value.none, Value.none, Value.ref 224, Value.int 813 0, Value.int 190 0, Value.str (Str.ofString "/claim/cut.py") 814] }) ::
 (nat_lit 226, { cls := Value.type "function", data := Data.func { name := Str.ofString "_law_text", qualname := Str.ofString "_law_text", params := fd_21A, body := FuncBody.stmts fd_21B, scope := fd_21S, globals := 3, closure := [], defaults := Value.none, kwdefaults := Value.none, pyModule := Value.str (Str.ofString "law_oc0257_01") 799, code := Value.ref 225 } }) ::
 (nat_lit 227, { cls := Value.type "tuple", data := Data.seq #[] }) ::
 (nat_lit 230, { cls := Value.type "code", data := Data.fields #[Value.str (Str.ofString "_law_rounds") 816, Value.str (Str.ofString "_law_rounds") 817, Value.str (Str.ofString "/claim/cut.py") 818, Value.int 200 0, Value.int 2 0, Value.int 0 0, Value.int 0 0, Value.int 3 0, Value.ref 227, Value.bool true, Value.int 276 0, Value.ref 228, Value.none, Value.none, Value.none, Value.ref 229, Value.int 819 0, Value.int 200 0, Value.str (Str.ofString "/claim/cut.py") 820] }) ::
 (nat_lit 231, { cls := Value.type "function", data := Data.func { name := Str.ofString "_law_rounds", qualname := Str.ofString "_law_rounds", params := fd_22A, body := FuncBody.stmts fd_22B, scope := fd_22S, globals := 3, closure := [], defaults := Value.none, kwdefaults := Value.none, pyModule := Value.str (Str.ofString "law_oc0257_01") 799, code := Value.ref 230 } }) ::
 (nat_lit 232, { cls := Value.type "tuple", data := Data.seq #[] }) ::
 (nat_lit 234, { cls := Value.type "tuple", data := Data.seq #[Value.str (Str.ofString "sorter") 825, Value.str (Str.ofString "ring") 826, Value.str (Str.ofString "rounds") 827, Value.str (Str.ofString "ready") 828] }) ::
 (nat_lit 235, { cls := Value.type "tuple", data := Data.seq #[] }) ::
 (nat_lit 237, { cls := Value.type "code", data := Data.fields #[Value.str (Str.ofString "_law_told") 822, Value.str (Str.ofString "_law_told") 823, Value.str (Str.ofString "/claim/cut.py") 824, Value.int 207 0, Value.int 1 0, Value.int 0 0, Value.int 0 0, Value.int 3 0, Value.ref 232, Value.bool true, Value.int 276 0, Value.ref 233, Value.none, Value.ref 234, Value.ref 235, Value.ref 236, Value.int 829 0, Value.int 207 0, Value.str (Str.ofString "/claim/cut.py") 830] }) ::
 (nat_lit 238, { cls := Value.type "function", data := Data.func { name := Str.ofString "_law_told", qualname := Str.ofString "_law_told", params := fd_23A, body := FuncBody.stmts fd_23B, scope := fd_23S, globals := 3, closure := [], defaults := Value.none, kwdefaults := Value.none, pyModule := Value.str (Str.ofString "law_oc0257_01") 799, code := Value.ref 237 } }) ::
 (nat_lit 239, { cls := Value.type "tuple", data := Data.seq #[] }) ::
 (nat_lit 242, { cls := Value.type "code", data := Data.fields #[Value.str (Str.ofString "law") 832, Value.str (Str.ofString "law") 833, Value.str (Str.ofString "/claim/cut.py") 834, Value.int 218 0, Value.int 1 0, Value.int 0 0, Value.int 0 0, Value.int 3 0, Value.ref 239, Value.bool true, Value.int 276 0, Value.ref 240, Value.none, Value.none, Value.none, Value.ref 241, Value.int 835 0, Value.int 218 0, Value.str (Str.ofString "/claim/cut.py") 836] }) ::
 (nat_lit 243, { cls := Value.type "function", data := Data.func { name := Str.ofString "law", qualname := Str.ofString "law", params := fd_24A, body := FuncBody.stmts fd_24B, scope := fd_24S, globals := 3, closure := [], defaults := Value.none, kwdefaults := Value.none, pyModule := Value.str (Str.ofString "law_oc0257_01") 799, code := Value.ref 242 } }) :: []
noncomputable def hd.heap_39 : Params → Frag := by
 refine' (?f : ∀ (a b : Params → Frag), a = b → (Params → Frag)) _ _ (?h : lj = _)
 case f => exact fun _ b _ => b
 case h =>
  delta lj fd_1A fd_1B fd_1S fd_12A fd_12B fd_12S jE jD jC jB jA jz jy jx jw jv ju jt js jr jq jp jo jn jm jl jk jj ji jh jg jf je jd jc jb ja iZ iY fd_20A fd_20B fd_20S fd_21A fd_21B fd_21S fd_22A fd_22B fd_22S fd_23A fd_23B fd_23S fd_24A fd_24B fd_24S fd_4A fd_4B fd_4S fd_9A fd_9B fd_9S
  exact rfl
end
section
open PySem PySem.W PyProof.Rows PySem.Calls PySem.Spec
noncomputable abbrev Row := List (Str × Option Str)
noncomputable def datV : Option Str → Dat
 | none => .none
 | some v => .str v
noncomputable def datP (p : Str × Option Str) : Dat := .tuple [.str p.1, datV p.2]
noncomputable def datR (r : Row) : Dat := .list (r.map datP)
noncomputable def datRs (rs : List Row) : Dat := .list (rs.map datR)
noncomputable def nm (i : Nat) : Str := [Str.ofString "a", Str.ofString "b c", Str.ofString "d\"", Str.ofString "", Str.ofString "e\\"].getD i Str.empty
noncomputable def rowOf (x : Int) : Row :=
 [(Str.ofString "job", some (nm (x.fmod 5).toNat)), (Str.ofString "after", some (nm ((x.fdiv 5).fmod 5).toNat))] ++
  if (x.fdiv 25).fmod 2 = 1 then [(Str.ofString "late", none), (Str.ofString "after", some (nm ((x.fdiv 5 + 2).fmod 5).toNat))] else []
section
variable {l : List (Addr × Obj)} {d a b c e f g i j k : Nat}
theorem lt0 (h : ∀ p ∈ l, p.1 < d) : ∀ q ∈ l, q.1 < d := h
theorem lt1 (h : a < d ∧ AllLt d l) : ∀ q ∈ l, q.1 < d := tb_ltOf h.2
theorem lt2 (h : a < d ∧ b < d ∧ AllLt d l) : ∀ q ∈ l, q.1 < d := tb_ltOf h.2.2
theorem lt3 (h : a < d ∧ b < d ∧ c < d ∧ AllLt d l) : ∀ q ∈ l, q.1 < d := tb_ltOf h.2.2.2
theorem lt4 (h : a < d ∧ b < d ∧ c < d ∧ e < d ∧ AllLt d l) : ∀ q ∈ l, q.1 < d := tb_ltOf h.2.2.2.2
theorem lt5 (h : a < d ∧ b < d ∧ c < d ∧ e < d ∧ f < d ∧ AllLt d l) : ∀ q ∈ l, q.1 < d := tb_ltOf h.2.2.2.2.2
theorem lt6 (h : a < d ∧ b < d ∧ c < d ∧ e < d ∧ f < d ∧ g < d ∧ AllLt d l) : ∀ q ∈ l, q.1 < d := tb_ltOf h.2.2.2.2.2.2
theorem lt7 (h : a < d ∧ b < d ∧ c < d ∧ e < d ∧ f < d ∧ g < d ∧ i < d ∧ AllLt d l) : ∀ q ∈ l, q.1 < d := tb_ltOf h.2.2.2.2.2.2.2
theorem lt8 (h : a < d ∧ b < d ∧ c < d ∧ e < d ∧ f < d ∧ g < d ∧ i < d ∧ j < d ∧ AllLt d l) : ∀ q ∈ l, q.1 < d := tb_ltOf h.2.2.2.2.2.2.2.2
theorem lt9 (h : a < d ∧ b < d ∧ c < d ∧ e < d ∧ f < d ∧ g < d ∧ i < d ∧ j < d ∧ k < d ∧ AllLt d l) : ∀ q ∈ l, q.1 < d := tb_ltOf h.2.2.2.2.2.2.2.2.2
theorem ordNil {news : List (Addr × Obj)} : ∀ q ∈ news, ∀ p ∈ ([] : List (Addr × Obj)), q.1 < p.1 := fun _ _ _ h => nomatch h
theorem ordCons {news tl : List (Addr × Obj)} {p₀ : Addr × Obj} (h : ∀ q ∈ news, q.1 < p₀.1) (r : ∀ q ∈ news, ∀ p ∈ tl, q.1 < p.1) : ∀ q ∈ news, ∀ p ∈ p₀ :: tl, q.1 < p.1 := fun q hq p hp => by
 rcases List.mem_cons.mp hp with rfl | hp
 ·exact h q hq
 ·exact r q hq p hp
end
theorem rlA10 : True := by
 k_with_none
 trivial
noncomputable def Pure1 (w : World) (f : Addr) (args : List Value) (Pre : List (Addr × Obj) → Prop) (Post : List (Addr × Obj) → Value → Prop) : Prop :=
 ∀ (p : Program) (loose : List Str) (mean : ExcName → Option Value) (mg mb : Str → Option Value) (dp un : Nat) (gd : Option (List Code)) (cn : Str) (cs : Scope) (a : Addr) (ccd : Value) (cl : List (Str × Addr)) (outer : List Env) (A₀ : Around) (base h₀ : Heap) (L : Addr) (m : Str → Option Value) (news : List (Addr × Obj)) (s : Shared) (Q E : Value → Shared → Prop),
  Below A₀ base outer h₀ → Fr h₀ L s.heap m → (Mine.hd.heap_39 w.params).In h₀ → News h₀ L s.heap news → Top p loose mean mg mb h₀ → cs.kind = .function → dp + 20 < recursionLimit → un + 200 < cLine → Pre news →
  (∀ r tl h' tk', Fr h₀ L h' m → News h₀ L h' (tl ++ news) → (∀ q ∈ news, ∀ p ∈ tl, q.1 < p.1) → Post (tl ++ news) r → Q r { s with heap := h', toks := tk' }) →
  wpAny (model PySem.Challenge.rw_oc0257_01.prog w) (ktrTop dp un gd cn cs L a ccd cl outer) (call (.ref f) args) Q E s
theorem asIf {m : Str → Option Value} {x : Str} {v : Option Value} (h : m x = v) : m = fun y => if y = x then v else m y := by
 funext y
 by_cases e : y = x
 ·rw [if_pos e, e, h]
 ·rw [if_neg e]
section
variable {prog : Program} {w : World} {A : Around} {E : Value → Shared → Prop} {s : Shared} {env : Env} {h₀ : Heap}
inductive jP (h₀ : Heap) (L : Addr) (gS : Array GenState) (dS : Drawn) (oS : OsState) (I : Addr) (o : Obj) (J : (Str → Option Value) → List (Addr × Obj) → Prop) (s₃ : Shared) : Prop where
 | mk : ∀ h' tk' m' nx', (s₃ = ⟨h', gS, dS, tk', oS⟩) → (Fr h₀ L h' m') → (News h₀ L h' (nx' ++ [(I, o)])) → ((∀ p ∈ nx', p.1 ≠ I)) → (J m' nx') → jP h₀ L gS dS oS I o J s₃
noncomputable def cG (h₀ : Heap) (L : Addr) (s : Shared) (I : Addr) (o : Obj) (J : (Str → Option Value) → List (Addr × Obj) → Prop) (s₃ : Shared) : Prop := jP h₀ L s.gens s.drawn s.os I o J s₃
noncomputable def cp (h₀ : Heap) (L : Addr) (s : Shared) (I : Addr) (o : Obj) (J : (Str → Option Value) → List (Addr × Obj) → Prop) (Q : Flow → Shared → Prop) (f : Flow) (s₃ : Shared) : Prop :=
 match f with
 | .ret v => Q (.ret v) s₃
 | .brk => Q .next s₃
 | _ => cG h₀ L s I o J s₃
noncomputable def cR (target : Expr) : Prop := (∃ x p, target = .Name x p) ∨ ∃ es k p, target = .Tuple es k p
theorem eN {target : Expr} (ht : cR target) {I l : Addr} {i : Nat} {v : Value} {Q : Unit → Shared → Prop} (hit : s.heap.IsListIter I l i) (hQ : Q () s) :
  wpAny (model prog w) A (letOwnedTupleGo target (.ref I) v) Q E s := by
 rcases ht with ⟨x, p, rfl⟩ | ⟨es, k, p, rfl⟩
 ·exact wpAny_pure hQ
 ·cases v with
  | ref T => exact wpAny_letOwnedTupleGo_listiter hit hQ
  | _ => exact wpAny_pure hQ
noncomputable def bB (prog : Program) (w : World) (A : Around) (s : Shared) (env : Env) (h₀ : Heap) (R : Result → Shared → Prop) (target : Expr) (body : List Stmt) (l : Addr) (I : Addr) (vs : List Value) (nn : Nat) (m₀ : Str → Option Value) (news : List (Prod Addr Obj)) (Q : Flow → Shared → Prop) (J : Nat → (Str → Option Value) → List (Prod Addr Obj) → Prop) : Prop := ∀ (hh : A.handled = none) (hIL : I ≠ env.locals) (hI0 : h₀.get? I = none) (hit : s.heap.IsListIter I l 0) (F : Fr h₀ env.locals s.heap m₀) (N : News h₀ env.locals s.heap news) (hnI : ∀ p ∈ news, p.1 ≠ I) (hj : J 0 m₀ news) (hkeep : ∀ i m nx, J i m nx → (l, listOf vs.toArray nn) ∈ nx) (turn : ∀ i v m₁ nx h tk o, vs[i]? = some v → J i m₁ nx → (∀ p ∈ nx, p.1 ≠ I) → Fr h₀ env.locals h m₁ → News h₀ env.locals h (nx ++ [(I, o)]) →
   wpAny (model prog w) A (assign target env v) (fun _ s₂ => wpAny (model prog w) A (execs body env) (cp h₀ env.locals s I o (J (i + 1)) Q) (notedBy (model prog w) A env fun e s' => R (.error e) s') s₂) (notedBy (model prog w) A env fun e s' => R (.error e) s') { s with heap := h, toks := tk }) (done : ∀ m₁ nx h tk, J vs.length m₁ nx → Fr h₀ env.locals h m₁ → News h₀ env.locals h nx → Q .next { s with heap := h, toks := tk }) (hR : ∀ f s', Q f s' → R (.ok f) s') (ht : cR target), codeAny (model prog w) A (.forLoop target (.ref I) body [] env) R s
noncomputable def au : ((((Program × World) × Around) × Shared × Env) × (Heap × (Result → Shared → Prop)) × Expr × (List Stmt)) × ((Addr × Addr) × (List Value) × Nat) × ((Str → Option Value) × (List (Prod Addr Obj))) × (Flow → Shared → Prop) × (Nat → (Str → Option Value) → List (Prod Addr Obj) → Prop) := @Classical.epsilon _ (by have := neW; have := neA; have := neS; infer_instance) fun x => ¬ u17 bB x
theorem fK : u17 bB au := by
 intro hh hIL hI0 hit F N hnI hj hkeep turn done hR ht
 refine codeAny_forLoop_any
  (fun k s' => ∃ h' tk m' nx i, s' = { (au.1.1.2.1) with heap := h', toks := tk } ∧ h'.IsListIter (au.2.1.1.2) (au.2.1.1.1) i ∧ Fr (au.1.2.1.1) (au.1.1.2.2).locals h' m' ∧ News (au.1.2.1.1) (au.1.1.2.2).locals h' nx ∧ (∀ p ∈ nx, p.1 ≠ (au.2.1.1.2)) ∧ (au.2.2.2.2) i m' nx ∧ i ≤ (au.2.1.2.1).length ∧ k = (au.2.1.2.1).length + 1 - i) ?_ ((au.2.1.2.1).length + 1)
  ⟨(au.1.1.2.1).heap, (au.1.1.2.1).toks, (au.2.2.1.1), (au.2.2.1.2), 0, rfl, hit, F, N, hnI, hj, Nat.zero_le _, rfl⟩
 rintro k s' ⟨h', tk, m', nx, i, rfl, hit', F', N', hn', hJ, hi, rfl⟩
 have hl' : h'.IsList (au.2.1.1.1) (au.2.1.2.1).toArray := ⟨_, (N' _ (hkeep _ _ _ hJ)).1, rfl, (au.2.1.2.2), rfl⟩
 have old : ∀ b o, (au.1.2.1.1).get? b = some o → b ≠ (au.2.1.1.2) := fun b o e hb => by rw [hb, hI0] at e; cases e
 by_cases hlt : i < (au.2.1.2.1).length
 ·obtain ⟨v, hv⟩ : ∃ v, (au.2.1.2.1)[i]? = some v := ⟨(au.2.1.2.1)[i], by simp [hlt]⟩
  have hv' : (au.2.1.2.1).toArray[i]? = some v := by simpa using hv
  refine wpAny_pyNext_list_item hit' hl' hv' fun h₁ hit₁ hs₁ => ?_
  have F₁ : Fr (au.1.2.1.1) (au.1.1.2.2).locals h₁ m' := ⟨F'.ns.at' fun o e => (hs₁.2 _ (Ne.symm hIL)).trans e, fun b o e => (hs₁.2 b (old b o e)).trans (F'.keep b o e), F'.above⟩
  refine aJ (id hit₁) ?_; intro oI hoI hcI
  have N₁ : News (au.1.2.1.1) (au.1.1.2.2).locals h₁ (nx ++ [((au.2.1.1.2), oI)]) := fun p hp => by
   rcases List.mem_append.mp hp with hp | hp
   ·exact ⟨(hs₁.2 _ (hn' p hp)).trans (N' p hp).1, (N' p hp).2⟩
   ·rw [List.mem_singleton.mp hp]
    exact ⟨hoI, hIL, hI0⟩
  refine eN ht hit₁ ?_
  refine wpAny_mono (turn i v m' nx h₁ tk oI hv hJ hn' F₁ N₁) (fun _ s₂ h₂ => wpAny_mono h₂ (fun f s₃ h₃ => ?_) fun _ _ e => e) fun _ _ e => e
  have fin : cG (au.1.2.1.1) (au.1.1.2.2).locals (au.1.1.2.1) (au.2.1.1.2) oI ((au.2.2.2.2) (i + 1)) s₃ → ∃ m, m < (au.2.1.2.1).length + 1 - i ∧ ∃ h' tk m' nx j, s₃ = { (au.1.1.2.1) with heap := h', toks := tk } ∧ h'.IsListIter (au.2.1.1.2) (au.2.1.1.1) j ∧ Fr (au.1.2.1.1) (au.1.1.2.2).locals h' m' ∧ News (au.1.2.1.1) (au.1.1.2.2).locals h' nx ∧ (∀ p ∈ nx, p.1 ≠ (au.2.1.1.2)) ∧ (au.2.2.2.2) j m' nx ∧ j ≤ (au.2.1.2.1).length ∧ m = (au.2.1.2.1).length + 1 - j := by
   rintro ⟨h₃', tk₃, m₃, nx₃, rfl, F₃, N₃, hn₃, hJ₃⟩
   refine ⟨(au.2.1.2.1).length + 1 - (i + 1), by omega, h₃', tk₃, m₃, nx₃, i + 1, rfl, ⟨oI, (N₃ _ (List.mem_append.mpr (.inr (.head _)))).1, hcI⟩, F₃, fun p hp => N₃ p (List.mem_append.mpr (.inl hp)), hn₃, hJ₃, hlt, rfl⟩
  cases f with
  | next => exact fin h₃
  | cont => exact fin h₃
  | brk => exact hR _ _ h₃
  | ret v => exact hR _ _ h₃
 ·have hin : i = (au.2.1.2.1).length := by omega
  subst hin
  refine wpAny_pyNext_list_end hh hit' hl' (by simp) fun h₁ he₁ => wpAny_execs_nil (hR _ _ ?_)
  exact done m' nx h₁ _ hJ ⟨F'.ns.at' fun o e => he₁ _ o (Ne.symm hIL) e, fun b o e => he₁ b o (old b o e) (F'.keep b o e), F'.above⟩ fun p hp => ⟨he₁ _ _ (hn' p hp) (N' p hp).1, (N' p hp).2⟩
theorem cE {R : Result → Shared → Prop} {target : Expr} {body : List Stmt} {l I : Addr} {vs : List Value} {nn : Nat} {m₀ : Str → Option Value} {news : List (Addr × Obj)} {Q : Flow → Shared → Prop} (J : Nat → (Str → Option Value) → List (Addr × Obj) → Prop) : bB prog w A s env h₀ R target body l I vs nn m₀ news Q J := @aO _ _ (u17 bB) fK (((((prog, w), A), (s, env)), ((h₀, R), (target, body))), (((l, I), (vs, nn)), ((m₀, news), (Q, J))))
theorem dw {target iter : Expr} {body : List Stmt} {pos : Pos} {l : Addr} {vs : List Value} {nn : Nat} {m₀ : Str → Option Value} {news : List (Addr × Obj)} {Q : Flow → Shared → Prop}
  (J : Nat → (Str → Option Value) → List (Addr × Obj) → Prop) (hh : A.handled = none) (F : Fr h₀ env.locals s.heap m₀) (N : News h₀ env.locals s.heap news)
  (hiter : ∀ Q' : Value → Shared → Prop, Q' (.ref l) s → wpAny (model prog w) A (eval iter env) Q' E s) (hj : J 0 m₀ news)
  (hkeep : ∀ i m nx, J i m nx → (l, listOf vs.toArray nn) ∈ nx)
  (turn : ∀ I i v m₁ nx h tk o, vs[i]? = some v → J i m₁ nx → (∀ p ∈ nx, p.1 ≠ I) → (∀ p ∈ news, p.1 < I) → Fr h₀ env.locals h m₁ → News h₀ env.locals h (nx ++ [(I, o)]) →
   wpAny (model prog w) A (assign target env v) (fun _ s₂ => wpAny (model prog w) A (execs body env) (cp h₀ env.locals s I o (J (i + 1)) Q) E s₂) E { s with heap := h, toks := tk })
  (done : ∀ m₁ nx h tk, J vs.length m₁ nx → Fr h₀ env.locals h m₁ → News h₀ env.locals h nx → Q .next { s with heap := h, toks := tk })
  (hs : ∀ x, foldedSetIterable iter env x = pure x := by intro _; rfl)
  (ht : cR target := by first | exact .inl ⟨_, _, rfl⟩ | exact .inr ⟨_, _, _, rfl⟩)
  (hE : PassesOwn (model prog w) A env E := by passes_own) :
  wpAny (model prog w) A (exec (.For target iter body [] pos) env) Q E s := by
 have hol : s.heap.get? l = some (listOf vs.toArray nn) := (N _ (hkeep _ _ _ hj)).1
 have hls : s.heap.IsList l vs.toArray := ⟨_, hol, rfl, nn, rfl⟩
 refine wpAny_For (hiter _ (wpAny_pyIter_list hls ?_)) hs
 have hlt : ∀ b o, s.heap.get? b = some o → b ≠ s.heap.objs.size := fun b o e => Nat.ne_of_lt (Heap.lt_size e)
 refine cq (id F.ns) ?_; intro oL _ _ hoL _
 refine cE (R := fun r s' => match r with | .ok f => Q f s' | .error e => cameBackBy (model prog w) A env E e s') (Q := Q) (s := { s with heap := s.heap.push _ }) (I := s.heap.objs.size) (l := l) (vs := vs) (nn := nn) (m₀ := m₀) (news := news) J hh (Ne.symm (hlt _ _ hoL)) ?_ ⟨_, Heap.get?_push_size _ rfl, rfl, rfl⟩ (F.push _) (fun p hp => ⟨Heap.get?_push_of_some _ (N p hp).1, (N p hp).2⟩) (fun p hp => hlt _ _ (N p hp).1) hj hkeep ?_ done (fun _ _ h => h) ht
 ·exact next_is_new F
 ·intro i v m₁ nx h tk o hv hJ hn F₁ N₁
  refine wpAny_passesOwn hE ?_
  refine wpAny_mono (turn s.heap.objs.size i v m₁ nx h tk o hv hJ hn (fun p hp => Heap.lt_size (N p hp).1) F₁ N₁) (fun _ s₂ h₂ => ?_) fun _ _ e => e
  exact wpAny_passesOwn hE h₂
end
theorem fz : PlainAttrs "re.Pattern" :=
 ⟨⟨"object.__getattribute__", by rw [typeLookup_type, builtinLookup_eq_fast]; kernel_rfl, by decide +kernel⟩, by rw [typeLookup_type, builtinLookup_eq_fast]; kernel_rfl⟩
theorem fA : PlainAttrs "re.Match" :=
 ⟨⟨"object.__getattribute__", by rw [typeLookup_type, builtinLookup_eq_fast]; kernel_rfl, by decide +kernel⟩, by rw [typeLookup_type, builtinLookup_eq_fast]; kernel_rfl⟩
theorem cV : Manifest.owners.lookup (String.ofList ['n', 'r', 'e', 't', 't', 'a', 'P', '.', 'e', 'r'].reverse) = some Manifest.sig_re_Pattern := by kernel_rfl
theorem gD : Manifest.owners.lookup (String.ofList ['h', 'c', 't', 'a', 'M', '.', 'e', 'r'].reverse) = some Manifest.sig_re_Match := by kernel_rfl
theorem slot_fullmatch : Slot "re.Pattern" "fullmatch" "re.Pattern.fullmatch" :=
 .of (owner := "re.Pattern") (n := "fullmatch") (by rw [typeLookup_type, builtinLookup_eq_fast]; kernel_rfl) (by decide +kernel) (by decide +kernel) (by decide +kernel)
  (by first | exact .inl (by decide +kernel) | exact .inr (by decide +kernel)) (by rw [isSubtype_type]; kernel_rfl)
theorem cK : typeOf (.builtin "re.Pattern.fullmatch") = pure (.type "method_descriptor") := by show builtinType _ = _; rw [builtinType_eq_fast]; kernel_rfl
theorem cH : entryFor table "re.Pattern.fullmatch" = some Builtin.«re.Pattern.fullmatch» := entryFor_of_tree (by kernel_rfl)
theorem cO (a b : Value) : argsOk "re.Pattern.fullmatch" ⟨[a, b], []⟩ := by
 unfold argsOk; rw [signature?_of (id := "re.Pattern.fullmatch") (n := ['h', 'c', 't', 'a', 'm', 'l', 'l', 'u', 'f']) (o := ['n', 'r', 'e', 't', 't', 'a', 'P', '.', 'e', 'r']) (by kernel_rfl) cV]; kernel_rfl
theorem slot_search : Slot "re.Pattern" "search" "re.Pattern.search" :=
 .of (owner := "re.Pattern") (n := "search") (by rw [typeLookup_type, builtinLookup_eq_fast]; kernel_rfl) (by decide +kernel) (by decide +kernel) (by decide +kernel)
  (by first | exact .inl (by decide +kernel) | exact .inr (by decide +kernel)) (by rw [isSubtype_type]; kernel_rfl)
theorem cJ : typeOf (.builtin "re.Pattern.search") = pure (.type "method_descriptor") := by show builtinType _ = _; rw [builtinType_eq_fast]; kernel_rfl
theorem ee : entryFor table "re.Pattern.search" = some Builtin.«re.Pattern.search» := entryFor_of_tree (by kernel_rfl)
theorem eO (a b : Value) : argsOk "re.Pattern.search" ⟨[a, b], []⟩ := by
 unfold argsOk; rw [signature?_of (id := "re.Pattern.search") (n := ['h', 'c', 'r', 'a', 'e', 's']) (o := ['n', 'r', 'e', 't', 't', 'a', 'P', '.', 'e', 'r']) (by kernel_rfl) cV]; kernel_rfl
theorem slot_sub : Slot "re.Pattern" "sub" "re.Pattern.sub" :=
 .of (owner := "re.Pattern") (n := "sub") (by rw [typeLookup_type, builtinLookup_eq_fast]; kernel_rfl) (by decide +kernel) (by decide +kernel) (by decide +kernel)
  (by first | exact .inl (by decide +kernel) | exact .inr (by decide +kernel)) (by rw [isSubtype_type]; kernel_rfl)
theorem fg : typeOf (.builtin "re.Pattern.sub") = pure (.type "method_descriptor") := by show builtinType _ = _; rw [builtinType_eq_fast]; kernel_rfl
theorem mE : entryFor table "re.Pattern.sub" = some Builtin.«re.Pattern.sub» := entryFor_of_tree (by kernel_rfl)
theorem args_sub (a b c : Value) : argsOk "re.Pattern.sub" ⟨[a, b, c], []⟩ := by
 unfold argsOk; rw [signature?_of (id := "re.Pattern.sub") (n := ['b', 'u', 's']) (o := ['n', 'r', 'e', 't', 't', 'a', 'P', '.', 'e', 'r']) (by kernel_rfl) cV]; kernel_rfl
theorem slot_subn : Slot "re.Pattern" "subn" "re.Pattern.subn" :=
 .of (owner := "re.Pattern") (n := "subn") (by rw [typeLookup_type, builtinLookup_eq_fast]; kernel_rfl) (by decide +kernel) (by decide +kernel) (by decide +kernel)
  (by first | exact .inl (by decide +kernel) | exact .inr (by decide +kernel)) (by rw [isSubtype_type]; kernel_rfl)
theorem lB : typeOf (.builtin "re.Pattern.subn") = pure (.type "method_descriptor") := by show builtinType _ = _; rw [builtinType_eq_fast]; kernel_rfl
theorem kM : entryFor table "re.Pattern.subn" = some Builtin.«re.Pattern.subn» := entryFor_of_tree (by kernel_rfl)
theorem mJ (a b c : Value) : argsOk "re.Pattern.subn" ⟨[a, b, c], []⟩ := by
 unfold argsOk; rw [signature?_of (id := "re.Pattern.subn") (n := ['n', 'b', 'u', 's']) (o := ['n', 'r', 'e', 't', 't', 'a', 'P', '.', 'e', 'r']) (by kernel_rfl) cV]; kernel_rfl
theorem slot_group : Slot "re.Match" "group" "re.Match.group" :=
 .of (owner := "re.Match") (n := "group") (by rw [typeLookup_type, builtinLookup_eq_fast]; kernel_rfl) (by decide +kernel) (by decide +kernel) (by decide +kernel)
  (by first | exact .inl (by decide +kernel) | exact .inr (by decide +kernel)) (by rw [isSubtype_type]; kernel_rfl)
theorem dC : typeOf (.builtin "re.Match.group") = pure (.type "method_descriptor") := by show builtinType _ = _; rw [builtinType_eq_fast]; kernel_rfl
theorem jG : entryFor table "re.Match.group" = some Builtin.«re.Match.group» := entryFor_of_tree (by kernel_rfl)
theorem kW (a b : Value) : argsOk "re.Match.group" ⟨[a, b], []⟩ := by
 unfold argsOk; rw [signature?_of (id := "re.Match.group") (n := ['p', 'u', 'o', 'r', 'g']) (o := ['h', 'c', 't', 'a', 'M', '.', 'e', 'r']) (by kernel_rfl) gD]; kernel_rfl
theorem slot_span : Slot "re.Match" "span" "re.Match.span" :=
 .of (owner := "re.Match") (n := "span") (by rw [typeLookup_type, builtinLookup_eq_fast]; kernel_rfl) (by decide +kernel) (by decide +kernel) (by decide +kernel)
  (by first | exact .inl (by decide +kernel) | exact .inr (by decide +kernel)) (by rw [isSubtype_type]; kernel_rfl)
theorem lC : typeOf (.builtin "re.Match.span") = pure (.type "method_descriptor") := by show builtinType _ = _; rw [builtinType_eq_fast]; kernel_rfl
theorem kO : entryFor table "re.Match.span" = some Builtin.«re.Match.span» := entryFor_of_tree (by kernel_rfl)
theorem mK (a b : Value) : argsOk "re.Match.span" ⟨[a, b], []⟩ := by
 unfold argsOk; rw [signature?_of (id := "re.Match.span") (n := ['n', 'a', 'p', 's']) (o := ['h', 'c', 't', 'a', 'M', '.', 'e', 'r']) (by kernel_rfl) gD]; kernel_rfl
end
section
open PySem PySem.W PyProof.Rows PySem.Calls PySem.Spec
open PySem.Builtin.Re
section
open Sre
theorem ce {m : M} (h : m.outcome.isSome = true) : ∀ n, M.runFor n m = m
 | 0 => rfl
 | n + 1 => by rw [M.runFor, if_pos h]
theorem bq (b : Nat) : ∀ (a : Nat) (m : M), M.runFor (a + b) m = M.runFor b (M.runFor a m)
 | 0, m => by rw [Nat.zero_add]; rfl
 | a + 1, m => by
  have e : a + 1 + b = (a + b) + 1 := by omega
  rw [e, M.runFor, M.runFor]
  by_cases h : m.outcome.isSome = true
  ·rw [if_pos h, if_pos h, ce h]
  ·rw [if_neg h, if_neg h, bq b a]
end
section
variable {M : Model} {A : Around} {E : Value → Shared → Prop} {s : Shared}
theorem fW {Q : Sre.M → Shared → Prop} : ∀ (k turns : Nat) (m : Sre.M), k < turns → (Sre.M.runFor (4 * (k + 1)) m).outcome.isSome = true → Q (Sre.M.runFor (4 * (k + 1)) m) s → wpAny M A (reDrive turns m) Q E s
 | k, 0, _, h, _, _ => absurd h (Nat.not_lt_zero _)
 | k, t + 1, m, h, ho, hQ => by
  show wpAny M A (if (m.runFor reTurnSteps).outcome.isSome = true then pure (m.runFor reTurnSteps) else do rule "sre.turn"; reDrive t (m.runFor reTurnSteps)) Q E s
  have e4 : reTurnSteps = 4 := rfl
  rw [e4]
  by_cases h1 : (m.runFor 4).outcome.isSome = true
  ·rw [if_pos h1]
   have e : 4 * (k + 1) = 4 + 4 * k := by omega
   rw [e, bq, ce h1] at hQ
   exact wpAny_pure hQ
  ·rw [if_neg h1]
   cases k with
   | zero => exact absurd ho h1
   | succ k =>
    have e : 4 * (k + 1 + 1) = 4 + 4 * (k + 1) := by omega
    rw [e, bq] at ho hQ
    exact wpAny_bind (wpAny_rule (fW k t _ (by omega) ho hQ))
theorem cU {Q : Unit → Shared → Prop} (c : Nat → Bool) (f : Nat → String) (h : Q () s) : ∀ l : List Nat, wpAny M A (forIn l PUnit.unit fun i _ => if c i = true then do rule (f i); pure (ForInStep.yield PUnit.unit) else pure (ForInStep.yield PUnit.unit)) Q E s
 | [] => wpAny_pure h
 | i :: l => by
  rw [List.forIn_cons]
  cases q : c i with
  | true => exact wpAny_bind (wpAny_bind (wpAny_rule (wpAny_pure (cU c f h l))))
  | false => exact wpAny_bind (wpAny_pure (cU c f h l))
theorem bD {Q : Option Sre.M → Shared → Prop} {m : Sre.M} (k : Nat) (hk : k < 2 ^ 64) (ho : (Sre.M.runFor (4 * (k + 1)) m).outcome = some .matched) (hQ : Q (some (Sre.M.runFor (4 * (k + 1)) m)) s) : wpAny M A (reRunToEnd m) Q E s := by
 unfold reRunToEnd
 refine wpAny_bind (fW k (2 ^ 64) m hk (by rw [ho]; rfl) ?_)
 refine wpAny_bind (cU _ _ ?_ _)
 rw [ho]
 exact wpAny_pure hQ
theorem bP {Q : Option Sre.M → Shared → Prop} {m : Sre.M} (k : Nat) (hk : k < 2 ^ 64) (ho : (Sre.M.runFor (4 * (k + 1)) m).outcome = some .failed) (hQ : Q none s) : wpAny M A (reRunToEnd m) Q E s := by
 unfold reRunToEnd
 refine wpAny_bind (fW k (2 ^ 64) m hk (by rw [ho]; rfl) ?_)
 refine wpAny_bind (cU _ _ ?_ _)
 rw [ho]
 exact wpAny_pure hQ
end
noncomputable def bZ (code : List Nat) : List Value := code.map fun (c : Nat) => Value.int (c : Int) 0
noncomputable def PatAt (h : Heap) (P : Addr) (g : Nat) (code : List Nat) : Prop :=
 ∃ v0 v1 C, h.get? P = some { cls := .type "re.Pattern", data := .fields #[v0, v1, .int (g : Int) 0, .none, .none, .ref C, .int 0 0] } ∧ h.get? C = some { cls := .type "tuple", data := .seq (bZ code).toArray }
theorem PatAt.keeps {h h' : Heap} {P : Addr} {g : Nat} {code : List Nat} (x : PatAt h P g code) (k : ∀ b o, h.get? b = some o → h'.get? b = some o) : PatAt h' P g code := by
 refine cq (x) ?_; (try clear x); intro v0 v1 C a b
 exact ⟨v0, v1, C, k _ _ a, k _ _ b⟩
theorem dA (code : List Nat) : ((bZ code).toArray.map reRawOf).map (·.toNat) = code.toArray := by
 apply Array.ext'
 simp only [bZ, Array.toList_map, List.map_map]
 induction code with
 | nil => rfl
 | cons c r ih => simp only [List.map_cons, Function.comp_apply, reRawOf, Int.toNat_natCast, ih]
section
variable {M : Model} {A : Around} {E : Value → Shared → Prop} {s : Shared}
theorem mf (id f : String) (T : Str) (t : Tok) : reNamed id f ["string", "pos", "endpos"] 1 [.str T t] [] = pure [some (.str T t), none, none] := by rfl
theorem cS {id f : String} {P : Addr} {T : Str} {t : Tok} {g : Nat} {code : List Nat} {Q : ReTarget → Shared → Prop} (hp : PatAt s.heap P g code) (hsz : T.cps.size ≤ 2 ^ 63 - 1)
  (h : Q { pattern := .ref P, string := .str T t, code := code.toArray, text := T.cps, kind := 0, groups := g, pos := 0, lim := T.cps.size } s) :
  wpAny M A (reTarget id f ⟨[.ref P, .str T t], []⟩) Q E s := by
 refine cq (hp) ?_; (try clear hp); intro v0 v1 C a b
 unfold reTarget
 refine wpAny_bind (m := reNamed id f ["string", "pos", "endpos"] 1 [.str T t] []) (wpAny_of_eq (mf _ _ _ _) ?_)
 refine wpAny_bind (wpAny_pure (wpAny_bind (wpAny_pure ?_)))
 refine wpAny_bind (wpAny_fieldsOf a rfl ?_)
 refine wpAny_bind (m := reTextOf (.str T t)) (wpAny_of_eq (a := (T.cps, 0)) rfl ?_)
 refine wpAny_bind (m := reNoCollectionInside (.str T t) 0) (wpAny_of_eq (a := ()) rfl ?_)
 refine wpAny_bind (m := reRawItems (.ref C)) ?_
 unfold reRawItems
 refine wpAny_bind (wpAny_seqItems b rfl (wpAny_pure (wpAny_pure ?_)))
 have e1 : (((some (bZ code).toArray).getD #[]).map reRawOf).map (·.toNat) = code.toArray := dA code
 have e2 : min (0 : Int).toNat T.cps.size = 0 := by simp
 have e3 : min (2 ^ 63 - 1 : Int).toNat T.cps.size = T.cps.size := by
  have : (2 ^ 63 - 1 : Int).toNat = 2 ^ 63 - 1 := by decide
  rw [this]; omega
 have e4 : reRawNat (.int (g : Int) 0) = g := by simp [reRawNat]
 show Q { pattern := .ref P, string := .str T t, code := (((some (bZ code).toArray).getD #[]).map reRawOf).map (·.toNat), text := T.cps, kind := 0, groups := reRawNat (.int (g : Int) 0), pos := min (0 : Int).toNat T.cps.size, lim := min (2 ^ 63 - 1 : Int).toNat T.cps.size } s
 rw [e1, e2, e3, e4]
 exact h
noncomputable def aK (str pat : Value) (lim : Nat) (li : Int) (tu : Addr) : Obj := { cls := .type "re.Match", data := .fields #[str, pat, rawInt 0, rawInt lim, rawInt li, .ref tu] }
noncomputable def bl (vs : List Value) : Obj := { cls := .type "tuple", data := .seq vs.toArray }
theorem me (pat str : Value) (pos lim : Nat) (m : Sre.M) : reNewMatch pat str 0 pos lim m = (do newFields "re.Match" [str, pat, rawInt pos, rawInt lim, rawInt m.lastindex, ← newTuple [rawInt m.start, rawInt m.handed]]) := by rfl
theorem gF {pat str : Value} {pos lim b e : Nat} {m : Sre.M} (h1 : (1 : Int) ≤ m.lastmark) (hb : m.marks.getD 0 none = some b) (he : m.marks.getD 1 none = some e) (hbe : b ≤ e) :
  reNewMatch pat str 1 pos lim m = (do newFields "re.Match" [str, pat, rawInt pos, rawInt lim, rawInt m.lastindex, ← newTuple [rawInt m.start, rawInt m.handed, rawInt b, rawInt e]]) := by
 have hn : ¬ e < b := by omega
 unfold reNewMatch
 have r1 : List.range 1 = [0] := rfl
 simp only [r1, List.flatMap_cons, List.flatMap_nil, List.append_nil, List.any_cons, List.any_nil, Nat.mul_zero, Nat.zero_add, hb, he, Int.natCast_one, h1, if_true, decide_true, Bool.true_and, decide_eq_false hn, Bool.or_false, Bool.false_eq_true, if_false]
section
variable {h₀ : Heap} {L : Addr} {mm : Str → Option Value} {news : List (Addr × Obj)}
theorem dG {str pat : Value} {lim : Nat} {li : Int} {spans : List Value} {Q : Value → Shared → Prop} (F : Fr h₀ L s.heap mm) (N : News h₀ L s.heap news) (hl : spans.length ≤ 10)
  (h : ∀ tu ma h', Fr h₀ L h' mm → News h₀ L h' ((ma, aK str pat lim li tu) :: (tu, bl spans) :: news) → (∀ p ∈ news, p.1 < tu) → tu < ma → Q (.ref ma) { s with heap := h' }) :
  wpAny M A (do newFields "re.Match" [str, pat, rawInt (0 : Nat), rawInt lim, rawInt li, ← newTuple spans]) Q E s := by
 refine wpAny_bind (newTuple_N F N (fun h' F' N' => ?_) (by have : sizeLine = 16777216 := rfl; omega))
 refine wpAny_newObj_type (h _ _ _ (F'.push _) (N'.push F' _) (fun p hp => Heap.lt_size (N p hp).1) (Heap.lt_size (N' _ (.head _)).1)) (by size_fits)
end
end
section
variable {prog : Program} {w : World} {A : Around} {E : Value → Shared → Prop} {s : Shared} {h₀ : Heap} {L : Addr} {mm : Str → Option Value} {news : List (Addr × Obj)}
theorem bT {P : Addr} {T : Str} {t : Tok} {g : Nat} {code : List Nat} {Q : Value → Shared → Prop} (hp : PatAt s.heap P g code) (hsz : T.cps.size ≤ 2 ^ 63 - 1) (k : Nat) (hk : k < 2 ^ 64)
  (ho : (Sre.M.runFor (4 * (k + 1)) (Sre.forMatch code.toArray T.cps g 0 T.cps.size true false)).outcome = some .failed) (h : Q .none s) :
  wpAny (model prog w) A (call (.builtin "re.Pattern.fullmatch") [.ref P, .str T t]) Q E s := by
 refine cq (id hp) ?_; intro v0 v1 C a b
 refine wpAny_call (codeAny_call_builtin slot_fullmatch.plain cH (slot_fullmatch.check _ _ _ _ _ _ _ _ ⟨_, a, rfl⟩ (cO _ _) ?_))
 unfold Builtin.«re.Pattern.fullmatch»
 refine wpAny_bind (cS hp hsz ?_)
 unfold reAnswer
 exact wpAny_bind (bP k hk ho (wpAny_pure h))
theorem gq {P : Addr} {T : Str} {t : Tok} {code : List Nat} {Q : Value → Shared → Prop} (F : Fr h₀ L s.heap mm) (N : News h₀ L s.heap news) (hp : PatAt s.heap P 0 code) (hsz : T.cps.size ≤ 2 ^ 63 - 1) (k : Nat) (hk : k < 2 ^ 64)
  (ho : (Sre.M.runFor (4 * (k + 1)) (Sre.forMatch code.toArray T.cps 0 0 T.cps.size true false)).outcome = some .matched)
  (h : ∀ li spans tu ma h', Fr h₀ L h' mm → News h₀ L h' ((ma, aK (.str T t) (.ref P) T.cps.size li tu) :: (tu, bl spans) :: news) → (∀ p ∈ news, p.1 < tu) → tu < ma → Q (.ref ma) { s with heap := h' }) :
  wpAny (model prog w) A (call (.builtin "re.Pattern.fullmatch") [.ref P, .str T t]) Q E s := by
 refine cq (id hp) ?_; intro v0 v1 C a b
 refine wpAny_call (codeAny_call_builtin slot_fullmatch.plain cH (slot_fullmatch.check _ _ _ _ _ _ _ _ ⟨_, a, rfl⟩ (cO _ _) ?_))
 unfold Builtin.«re.Pattern.fullmatch»
 refine wpAny_bind (cS hp hsz ?_)
 unfold reAnswer
 refine wpAny_bind (bD k hk ho ?_)
 dsimp only
 rw [me]
 exact wpAny_bind (dG F N (by show (2 : Nat) ≤ 10; decide) fun tu ma h' F' N' l1 l2 => wpAny_pure (h _ _ tu ma h' F' N' l1 l2))
end
section
variable {w : World} {h : Heap}
noncomputable def cJT : List Nat := [14, 4, 0, 1, 4294967295, 24, 16, 1, 4294967295, 13, 11, 9, 0, 67071226, 3355443198, 1476395007, 0, 0, 0, 0, 0, 1, 1]
noncomputable def cJE : List Nat := [14, 9, 4, 1, 1, 16, 34, 16, 92, 0, 17, 0, 13, 6, 16, 34, 16, 92, 0, 17, 1, 1]
theorem patJT (X : (Mine.hd.heap_39 w.params).In h) : PatAt h 82 0 cJT := ⟨_, _, 81, X 82 _ rfl, X 81 _ rfl⟩
theorem patJE (X : (Mine.hd.heap_39 w.params).In h) : PatAt h 87 1 cJE := ⟨_, _, 86, X 87 _ rfl, X 86 _ rfl⟩
end
section
variable {prog : Program} {w : World} {A : Around} {E : Value → Shared → Prop} {s : Shared} {h₀ : Heap} {L : Addr} {m : Str → Option Value} {news rest : List (Addr × Obj)}
theorem bc {name : Str} {id : String} {pl : Sem Bool} {P : Addr} {g : Nat} {code : List Nat} {Q : Value × List Value → Shared → Prop} (slot : Slot "re.Pattern" name id) (hty : typeOf (.builtin id) = pure (.type "method_descriptor"))
  (hp : PatAt s.heap P g code) (h : Q (.builtin id, [.ref P]) s) : wpAny (model prog w) A (getMethod (.ref P) name pl) Q E s := by
 refine cq (hp) ?_; (try clear hp); intro v0 v1 C a b
 exact getMethod_builtin ⟨_, a, rfl⟩ fz slot hty (fun x e => by cases e; exact ⟨_, a, rfl⟩) h
theorem be {d : Addr} {vs : List Value} {k : Nat} {x : Value} {Q : Value → Shared → Prop} (F : Fr h₀ L s.heap m) (N : News h₀ L s.heap ((d, listOf vs.toArray k) :: rest)) (hne : ∀ p ∈ rest, p.1 ≠ d) (hsz : vs.length ≤ sizeLine)
  (h : ∀ h', Fr h₀ L h' m → News h₀ L h' ((d, listOf (vs ++ [x]).toArray (k + 1)) :: rest) → Q .none { s with heap := h' }) : wpAny (model prog w) A (call (.builtin "list.append") [.ref d, x]) Q E s := by
 refine append_K F N (Upd.head hne) (fun h' F' N' => h h' F' ?_) (by simpa using hsz)
 have e : vs.toArray.push x = (vs ++ [x]).toArray := by simp
 rw [← e]; exact N'
end
theorem fm_a {w : World} {prog : Program} {A : Around} {E : Value → Shared → Prop} {s : Shared} {h₀ : Heap} {L : Addr} {m : Str → Option Value} {news : List (Addr × Obj)} {t : Tok} {Q : Value → Shared → Prop} (F : Fr h₀ L s.heap m) (N : News h₀ L s.heap news) (X : (Mine.hd.heap_39 w.params).In s.heap)
  (h : ∀ li spans tu ma h', Fr h₀ L h' m → News h₀ L h' ((ma, aK (.str (nm 0) t) (.ref 82) 1 li tu) :: (tu, bl spans) :: news) → (∀ p ∈ news, p.1 < tu) → tu < ma → Q (.ref ma) { s with heap := h' }) :
  wpAny (model prog w) A (call (.builtin "re.Pattern.fullmatch") [.ref 82, .str (nm 0) t]) Q E s :=
 gq F N (patJT X) (by decide) 3 (by decide) (by rfl) h
theorem iX {w : World} {prog : Program} {A : Around} {E : Value → Shared → Prop} {s : Shared} {n : Nat} {t : Tok} {Q : Value → Shared → Prop} (X : (Mine.hd.heap_39 w.params).In s.heap) (h0 : n ≠ 0) (h5 : n < 5)
  (h : Q .none s) : wpAny (model prog w) A (call (.builtin "re.Pattern.fullmatch") [.ref 82, .str (nm n) t]) Q E s := by
 match n, h0, h5 with
 | 1, _, _ => exact bT (patJT X) (by decide) 4 (by decide) (by rfl) h
 | 2, _, _ => exact bT (patJT X) (by decide) 4 (by decide) (by rfl) h
 | 3, _, _ => exact bT (patJT X) (by decide) 4 (by decide) (by rfl) h
 | 4, _, _ => exact bT (patJT X) (by decide) 4 (by decide) (by rfl) h
theorem News.sub {h₀ h : Heap} {L : Addr} {l l' : List (Addr × Obj)} (N : News h₀ L h l) (hs : ∀ p ∈ l', p ∈ l) : News h₀ L h l' := fun p hp => N p (hs p hp)
noncomputable def CodeIn (qual : Str) (c : Addr) (nx : List (Addr × Obj)) : Prop := ∃ oc vs t, (c, oc) ∈ nx ∧ oc.data = .fields vs ∧ vs[1]? = some (.str qual t)
theorem CodeIn.mono {qual : Str} {c : Addr} {l l' : List (Addr × Obj)} (x : CodeIn qual c l) (hs : ∀ p ∈ l, p ∈ l') : CodeIn qual c l' := by
 refine cq (x) ?_; (try clear x); intro oc vs t hm r
 exact ⟨oc, vs, t, hs _ hm, r⟩
noncomputable def TabOk (qual : Str) (line col : Nat) (ps : Array Value) (nx : List (Addr × Obj)) : Prop := ps = #[] ∨ ∃ c, ps = #[rawInt line, rawInt col, .ref c] ∧ CodeIn qual c nx
theorem TabOk.mono {qual : Str} {line col : Nat} {ps : Array Value} {l l' : List (Addr × Obj)} (x : TabOk qual line col ps l) (hs : ∀ p ∈ l, p ∈ l') : TabOk qual line col ps l' := by
 rcases x with x | ⟨c, e, x⟩
 ·exact .inl x
 ·exact .inr ⟨c, e, x.mono hs⟩
section
variable {M : Model} {A : Around} {E : Value → Shared → Prop} {s : Shared} {h₀ : Heap} {L a c P : Addr} {m mg mb : Str → Option Value} {cn : Str} {cs : Scope} {ccd : Value} {cl : List (Str × Addr)} {rest : List (Addr × Obj)}
 {p : Program} {loose : List Str} {mean : ExcName → Option Value} {params : Arguments} {body : Expr} {scope : Scope} {ps : Array Value} {pos : Pos}
theorem eM {qual : Str} {rest0 : List (Addr × Obj)} {Q : Value → Shared → Prop} (F : Fr h₀ L s.heap m) (N : News h₀ L s.heap ((P, tabObj ps) :: rest)) (T : Top p loose mean mg mb h₀) (C : CodeHd h₀ c P) (hcd : ccd = .ref c) (hne : ∀ p ∈ rest, p.1 ≠ P)
  (hq : (envX cn cs L a ccd cl).qual ++ "<lambda>" = qual) (hT : TabOk qual pos.line pos.col ps rest0) (h0 : ∀ p ∈ rest0, p ∈ rest)
  (hdef : defaultsOf params (envX cn cs L a ccd cl) = ([], [])) (hcl : closureFor scope (envX cn cs L a ccd cl) = pure [])
  (h : ∀ f c' ctv ps' add h' tk, Fr h₀ L h' m → News h₀ L h' ((f, kla_obj "<lambda>" qual params body scope [] ((mg "__name__").getD .none) c' ctv) :: (P, tabObj ps') :: (add ++ rest)) →
   TabOk qual pos.line pos.col ps' (add ++ rest0) → CodeIn qual c' (add ++ rest) → (∀ q ∈ (P, tabObj ps) :: rest, ∀ p ∈ add, q.1 < p.1) → (∀ q ∈ (P, tabObj ps) :: (add ++ rest), q.1 < f) → Q (.ref f) { s with heap := h', toks := tk }) :
  wpAny M A (eval (.Lambda params body scope pos) (envX cn cs L a ccd cl)) Q E s := by
 subst hq
 refine kla_eval hdef ?_
 rcases hT with rfl | ⟨c', rfl, hC⟩
 ·refine kla_nest F N T C hcd (UpdF.head hne) (by trivial) (by rfl) hcl ?_
  intro f c' oc vs t ctv h' tk F' N' hd hv l1 l2
  refine h f c' ctv _ [(c', oc)] h' tk F' (News.sub N' ?_) (.inr ⟨c', rfl, oc, vs, t, .head _, hd, hv⟩) ⟨oc, vs, t, .head _, hd, hv⟩ ?_ ?_
  ·intro q hq
   rcases List.mem_cons.mp hq with rfl | hq
   ·exact .head _
   ·rcases List.mem_cons.mp hq with rfl | hq
    ·exact .tail _ (.tail _ (.head _))
    ·rcases List.mem_cons.mp hq with rfl | hq
     ·exact .tail _ (.head _)
     ·exact .tail _ (.tail _ (.tail _ hq))
  ·intro q hq r hr
   rw [List.mem_singleton.mp hr]
   exact l1 q hq
  ·intro q hq
   rcases List.mem_cons.mp hq with rfl | hq
   ·exact Nat.lt_trans (l1 _ (.head _)) l2
   ·rcases List.mem_cons.mp hq with rfl | hq
    ·exact l2
    ·exact Nat.lt_trans (l1 _ (.tail _ hq)) l2
 ·refine kla_hit (c' := c') F N T C hcd (.head _) ?_ ?_ hcl ?_
  ·exact trivial
  ·exact codeAmong_snoc (c := .ref c') [] trivial rfl
  ·intro f ctv h' tk F' N' l1
   refine h f c' ctv _ [] h' tk F' N' (.inr ⟨c', rfl, hC⟩) (hC.mono h0) (fun _ _ _ h => nomatch h) l1
end
theorem bG : entryFor table "re.Pattern.sub.loop" = some Builtin.«re.Pattern.sub.loop» := entryFor_of_tree (by kernel_rfl)
theorem bf : plainId "re.Pattern.sub.loop" = true := by decide +kernel
theorem hX : typeLookup (.type "function") "__call__" = pure (some (.builtin "function.__call__")) := by rw [typeLookup_type, builtinLookup_eq_fast]; kernel_rfl
theorem gp : typeLookup (.type "str") "__call__" = pure none := by rw [typeLookup_type, builtinLookup_eq_fast]; kernel_rfl
section
variable {prog : Program} {w : World} {A : Around} {E : Value → Shared → Prop} {s : Shared} {h₀ : Heap} {L : Addr} {m : Str → Option Value} {news rest : List (Addr × Obj)} {R : Result → Shared → Prop}
theorem cL {d : Addr} {vs : List Value} {k : Nat} {x : Value} {M : Model} {Q : Unit → Shared → Prop} (F : Fr h₀ L s.heap m) (N : News h₀ L s.heap ((d, listOf vs.toArray k) :: rest)) (hne : ∀ p ∈ rest, p.1 ≠ d) (hsz : vs.length ≤ 1000)
  (h : ∀ h', Fr h₀ L h' m → News h₀ L h' ((d, listOf (vs ++ [x]).toArray (k + 1)) :: rest) → Q () { s with heap := h' }) : wpAny M A (updateSeq d (·.push x)) Q E s := by
 have z := N _ (.head _)
 have e0 : sizeLine = 16777216 := rfl
 refine wpAny_updateSeq z.1 rfl ?_ (by simp; omega) (by simp; omega)
 have hs : Heap.SameBut d s.heap (s.heap.update d (Obj.mapSeq (·.push x))) := Heap.SameBut.update ..
 refine h _ (F.change hs z.2.1 z.2.2) ?_
 have ho : (s.heap.update d (Obj.mapSeq (·.push x))).get? d = some (listOf (vs ++ [x]).toArray (k + 1)) := by
  rw [Heap.get?_update_self _ z.1 rfl]
  have e1 : ((vs ++ [x]).toArray.size == vs.toArray.size) = false := by simp
  show some ({ cls := .type "list", data := .seq (vs.toArray.push x) (if (vs.toArray.push x).size == vs.toArray.size then k else k + 1) } : Obj) = _
  have e2 : vs.toArray.push x = (vs ++ [x]).toArray := by simp
  rw [e2, e1]; rfl
 exact news_set (pre := []) (post := rest) N (fun _ h => nomatch h) hne hs ho
theorem ff {P : Addr} {T : Str} {t : Tok} {g : Nat} {code : List Nat} {Q : ReTarget → Shared → Prop} {M : Model} (hp : PatAt s.heap P g code)
  (h : Q { pattern := .ref P, string := .str T t, code := code.toArray, text := T.cps, kind := 0, groups := g, pos := 0, lim := T.cps.size } s) :
  wpAny M A (reWholeTarget (.ref P) (.str T t)) Q E s := by
 refine cq (hp) ?_; (try clear hp); intro v0 v1 C a b
 unfold reWholeTarget
 refine wpAny_bind (wpAny_fieldsOf a rfl ?_)
 refine wpAny_bind (m := reTextOf (.str T t)) (wpAny_of_eq (a := (T.cps, 0)) rfl ?_)
 refine wpAny_bind (m := reNoCollectionInside (.str T t) 0) (wpAny_of_eq (a := ()) rfl ?_)
 refine wpAny_bind (m := reRawItems (.ref C)) ?_
 unfold reRawItems
 refine wpAny_bind (wpAny_seqItems b rfl (wpAny_pure (wpAny_pure ?_)))
 have e1 : (((some (bZ code).toArray).getD #[]).map reRawOf).map (·.toNat) = code.toArray := dA code
 have e4 : reRawNat (.int (g : Int) 0) = g := by simp [reRawNat]
 show Q { pattern := .ref P, string := .str T t, code := (((some (bZ code).toArray).getD #[]).map reRawOf).map (·.toNat), text := T.cps, kind := 0, groups := reRawNat (.int (g : Int) 0), pos := 0, lim := T.cps.size } s
 rw [e1, e4]
 exact h
theorem ci {x : Array Nat} {b e : Nat} {M : Model} {Q : Value → Shared → Prop} (hsz : x.size ≤ 1000000) (h : ∀ t k, Q (.str ⟨x.extract b e⟩ t) { s with toks := k }) : wpAny M A (reSlice x 0 b e) Q E s := by
 unfold reSlice
 rw [if_pos (by rfl)]
 refine wpAny_mkStr (h _ _) ?_
 have e0 : sizeLine = 16777216 := rfl
 have : (x.extract b e).size ≤ x.size := by rw [Array.size_extract]; omega
 show (x.extract b e).size ≤ sizeLine
 omega
noncomputable def aF (T : Str) (done : Nat) : List Str := if done < T.cps.size then [⟨T.cps.extract done T.cps.size⟩] else []
noncomputable def bz (A : Around) (E : Value → Shared → Prop) (s : Shared) (P : Addr) (T : Str) (t : Tok) (g : Nat) (code : List Nat) (n : Nat) (done : Nat) (start : Nat) (must : Bool) (wc : Bool) (pl : Addr) (Q : Fin → Shared → Prop) : Prop := ∀ (repl : Value) (way : Int) (hp : PatAt s.heap P g code) (hw : way = 1 ∨ (way = 0 ∧ ∃ x tt, repl = .str x tt)) (M : Model) (h : wpAny M A (reNextFound { pattern := .ref P, string := .str T t, code := code.toArray, text := T.cps, kind := 0, groups := g, pos := 0, lim := T.cps.size } start must) (fun om s' => wpAny M A (match om with
   | some mm => (do
    if done < mm.start then updateSeq pl (·.push (← reSlice T.cps 0 done mm.start))
    let item ← if way == 0 then pure repl else do
      let found ← reNewMatch (.ref P) (.str T t) g 0 T.cps.size mm
      holding [found] (if way == 1 then call repl [found] else do reExpand repl (← reFound found))
    if item != .none then updateSeq pl (·.push item)
    again (.builtin "re.Pattern.sub.loop" ⟨[.ref P, .str T t, repl, rawInt way, rawInt 0, rawInt ((n : Int) + 1), rawInt mm.handed, rawInt mm.handed, .bool (mm.handed == mm.start), .ref pl, .bool wc], []⟩))
   | none => (do
    if done < T.cps.size then updateSeq pl (·.push (← reSlice T.cps 0 done T.cps.size))
    let joiner ← reSlice T.cps 0 0 0
    let text ← if ((← seqItems? (.ref pl)).getD #[]).isEmpty then pure joiner else call (.builtin "str.join") [joiner, .ref pl]
    if wc then ret (← holding [text] do newTuple [text, ← mkInt n]) else ret text)) Q E s') E s), wpAny M A (Builtin.«re.Pattern.sub.loop» ⟨[.ref P, .str T t, repl, rawInt way, rawInt 0, rawInt n, rawInt done, rawInt start, .bool must, .ref pl, .bool wc], []⟩) Q E s
noncomputable def gc : (((Around × (Value → Shared → Prop)) × Shared × Addr) × (Str × Tok) × Nat × (List Nat)) × ((Nat × Nat) × Nat × Bool) × (Bool × Addr) × (Fin → Shared → Prop) := @Classical.epsilon _ (by have := neA; have := neS; infer_instance) fun x => ¬ u15 bz x
theorem fH : u15 bz gc := by
 intro repl way hp hw M h
 unfold Builtin.«re.Pattern.sub.loop»
 refine wpAny_bind (ff hp ?_)
 rcases hw with rfl | ⟨rfl, x, tt, rfl⟩
 ·refine wpAny_bind (wpAny_mono h (fun om s' h' => ?_) fun _ _ e => e)
  cases om with
  | none => exact h'
  | some mm => exact h'
 ·refine wpAny_bind (m := reLiteralCannotBeTurned (.str x tt)) (wpAny_of_eq (a := ()) rfl ?_)
  refine wpAny_bind (wpAny_mono h (fun om s' h' => ?_) fun _ _ e => e)
  cases om with
  | none => exact h'
  | some mm => exact h'
theorem bQ {P : Addr} {T : Str} {t : Tok} {g : Nat} {code : List Nat} {repl : Value} {way : Int} {n done start : Nat} {must wc : Bool} {pl : Addr} (hp : PatAt s.heap P g code) (hw : way = 1 ∨ (way = 0 ∧ ∃ x tt, repl = .str x tt))
  {Q : Fin → Shared → Prop} {M : Model}
  (h : wpAny M A (reNextFound { pattern := .ref P, string := .str T t, code := code.toArray, text := T.cps, kind := 0, groups := g, pos := 0, lim := T.cps.size } start must) (fun om s' => wpAny M A (match om with
   | some mm => (do
    if done < mm.start then updateSeq pl (·.push (← reSlice T.cps 0 done mm.start))
    let item ← if way == 0 then pure repl else do
      let found ← reNewMatch (.ref P) (.str T t) g 0 T.cps.size mm
      holding [found] (if way == 1 then call repl [found] else do reExpand repl (← reFound found))
    if item != .none then updateSeq pl (·.push item)
    again (.builtin "re.Pattern.sub.loop" ⟨[.ref P, .str T t, repl, rawInt way, rawInt 0, rawInt ((n : Int) + 1), rawInt mm.handed, rawInt mm.handed, .bool (mm.handed == mm.start), .ref pl, .bool wc], []⟩))
   | none => (do
    if done < T.cps.size then updateSeq pl (·.push (← reSlice T.cps 0 done T.cps.size))
    let joiner ← reSlice T.cps 0 0 0
    let text ← if ((← seqItems? (.ref pl)).getD #[]).isEmpty then pure joiner else call (.builtin "str.join") [joiner, .ref pl]
    if wc then ret (← holding [text] do newTuple [text, ← mkInt n]) else ret text)) Q E s') E s) :
  wpAny M A (Builtin.«re.Pattern.sub.loop» ⟨[.ref P, .str T t, repl, rawInt way, rawInt 0, rawInt n, rawInt done, rawInt start, .bool must, .ref pl, .bool wc], []⟩) Q E s := (@aO _ _ (u15 bz) fH ((((A, E), (s, P)), ((T, t), (g, code))), (((n, done), (start, must)), ((wc, pl), Q))) : bz A E s P T t g code n done start must wc pl Q) repl way hp hw M h
theorem dy {pv : List Value} {ps : List Str} (hv : StrsAre pv ps) : pv.toArray.isEmpty = ps.isEmpty := by cases hv <;> rfl
theorem ip : Txt.join Str.empty [] = Str.empty := by rfl
noncomputable def bx (prog : Program) (w : World) (A : Around) (s : Shared) (h₀ : Heap) (L : Addr) (m : Str → Option Value) (rest : List (Prod Addr Obj)) (R : Result → Shared → Prop) (P : Addr) (pl : Addr) (T : Str) (t : Tok) (g : Nat) (code : List Nat) (repl : Value) (way : Int) (n : Nat) (done : Nat) (start : Nat) (must : Bool) (pv : List Value) (ps : List Str) (k : Nat) (j : Nat) : Prop := ∀ (hp : PatAt s.heap P g code) (hw : way = 1 ∨ (way = 0 ∧ ∃ x tt, repl = .str x tt)) (F : Fr h₀ L s.heap m) (N : News h₀ L s.heap ((pl, listOf pv.toArray k) :: rest)) (hne : ∀ p ∈ rest, p.1 ≠ pl) (hv : StrsAre pv ps) (hsz : T.cps.size ≤ 1000000) (hps : (ps.map (·.length)).sum ≤ 1000000) (hpl : ps.length ≤ 900) (hj : j < 2 ^ 64) (ho : (Sre.M.runFor (4 * (j + 1)) (Sre.forSearch code.toArray T.cps g start T.cps.size must)).outcome = some .failed) (h : ∀ t' h' tk, Fr h₀ L h' m → News h₀ L h' rest → R (.ok (.ret (.str (Txt.join Str.empty (ps ++ aF T done)) t'))) { s with heap := h', toks := tk }), codeAny (model prog w) A (.builtin "re.Pattern.sub.loop" ⟨[.ref P, .str T t, repl, rawInt way, rawInt 0, rawInt n, rawInt done, rawInt start, .bool must, .ref pl, .bool false], []⟩) R s
noncomputable def aj : ((((Program × World) × Around × Shared) × (Heap × Addr) × (Str → Option Value)) × (((List (Prod Addr Obj)) × (Result → Shared → Prop)) × Addr) × (Addr × Str) × Tok) × (((Nat × (List Nat)) × Value) × (Int × Nat) × Nat) × ((Nat × Bool) × (List Value)) × ((List Str) × Nat) × Nat := @Classical.epsilon _ (by have := neW; have := neA; have := neS; infer_instance) fun x => ¬ u25 bx x
namespace n_subloop_none
noncomputable def done : Nat := aj.2.1.2.2
theorem fG : bx aj.1.1.1.1.1 aj.1.1.1.1.2 aj.1.1.1.2.1 aj.1.1.1.2.2 aj.1.1.2.1.1 aj.1.1.2.1.2 aj.1.1.2.2 aj.1.2.1.1.1 aj.1.2.1.1.2 aj.1.2.1.2 aj.1.2.2.1.1 aj.1.2.2.1.2 aj.1.2.2.2 aj.2.1.1.1.1 aj.2.1.1.1.2 aj.2.1.1.2 aj.2.1.2.1.1 aj.2.1.2.1.2 n_subloop_none.done aj.2.2.1.1.1 aj.2.2.1.1.2 aj.2.2.1.2 aj.2.2.2.1.1 aj.2.2.2.1.2 aj.2.2.2.2 := by
 intro hp hw F N hne hv hsz hps hpl hj ho h
 refine codeAny_builtin bG (bQ hp hw (bP (aj.2.2.2.2) hj ho ?_))
 have lenps : (aj.2.2.1.2).length = (aj.2.2.2.1.1).length := hv.len_eq
 have fin : ∀ {s' : Shared} {qv : List Value} {qs : List Str} {k' : Nat}, (∃ h' tk, s' = { (aj.1.1.1.2.2) with heap := h', toks := tk }) → StrsAre qv qs → qs = (aj.2.2.2.1.1) ++ aF (aj.1.2.2.1.2) done → Fr (aj.1.1.2.1.1) (aj.1.1.2.1.2) s'.heap (aj.1.1.2.2) → News (aj.1.1.2.1.1) (aj.1.1.2.1.2) s'.heap (((aj.1.2.2.1.1), listOf qv.toArray k') :: (aj.1.2.1.1.1)) →
   wpAny (model (aj.1.1.1.1.1) (aj.1.1.1.1.2)) ((aj.1.1.1.2.1).under (.builtin "re.Pattern.sub.loop" ⟨[.ref (aj.1.2.1.2), .str (aj.1.2.2.1.2) (aj.1.2.2.2), (aj.2.1.1.2), rawInt (aj.2.1.2.1.1), rawInt 0, rawInt (aj.2.1.2.1.2), rawInt done, rawInt (aj.2.2.1.1.1), .bool (aj.2.2.1.1.2), .ref (aj.1.2.2.1.1), .bool false], []⟩)) (do
    let joiner ← reSlice (aj.1.2.2.1.2).cps 0 0 0
    let text ← if ((← seqItems? (.ref (aj.1.2.2.1.1))).getD #[]).isEmpty then pure joiner else call (.builtin "str.join") [joiner, .ref (aj.1.2.2.1.1)]
    if false = true then ret (← holding [text] do newTuple [text, ← mkInt (aj.2.1.2.1.2)]) else ret text)
    (fun fin s' => match fin with | .done f => (aj.1.2.1.1.2) (.ok f) s' | .again c' => c'.quiet = true ∧ codeAny (model (aj.1.1.1.1.1) (aj.1.1.1.1.2)) (aj.1.1.1.2.1) c' (aj.1.2.1.1.2) s') (fun e s' => (aj.1.2.1.1.2) (.error e) s') s' := by
  rintro s' qv qs k' ⟨h', tk, rfl⟩ hqv hqs F' N'
  refine wpAny_bind (ci hsz fun t' k2 => ?_)
  refine wpAny_bind (wpAny_seqItems (N' _ (.head _)).1 rfl ?_)
  have e0 : (⟨(aj.1.2.2.1.2).cps.extract 0 0⟩ : Str) = Str.empty := by
   have : (aj.1.2.2.1.2).cps.extract 0 0 = #[] := by simp
   rw [this]; rfl
  rw [e0]
  show wpAny _ _ (if qv.toArray.isEmpty = true then _ else _) _ _ _
  rw [dy hqv]
  cases hqs0 : qs with
  | nil =>
   rw [hqs0] at hqs
   refine wpAny_pure ?_
   have := h t' h' k2 F' (fun p hp => N' p (.tail _ hp))
   rw [← hqs, ip] at this
   exact this
  | cons q0 qr =>
   rw [if_neg (by simp)]
   have hlen : (aF (aj.1.2.2.1.2) done).length ≤ 1 := by unfold aF; split <;> simp
   have hlp : ((aF (aj.1.2.2.1.2) done).map (·.length)).sum ≤ 1000000 := by
    unfold aF
    split
    ·have : ((aj.1.2.2.1.2).cps.extract done (aj.1.2.2.1.2).cps.size).size ≤ (aj.1.2.2.1.2).cps.size := by rw [Array.size_extract]; omega
     show ((aj.1.2.2.1.2).cps.extract done (aj.1.2.2.1.2).cps.size).size + 0 ≤ 1000000
     omega
    ·simp
   refine wpAny_bind (join_list (ys := qs) ⟨_, (N' _ (.head _)).1, rfl, k', rfl⟩ hqv ?_ ?_)
   ·have e1 : (qs.map (·.length)).sum = ((aj.2.2.2.1.1).map (·.length)).sum + ((aF (aj.1.2.2.1.2) done).map (·.length)).sum := by rw [hqs, List.map_append, List.sum_append]
    have e2 : Str.empty.length = 0 := rfl
    rw [e1, e2]; omega
   ·intro t2 k3
    have := h t2 h' k3 F' (fun p hp => N' p (.tail _ hp))
    rw [← hqs] at this
    exact wpAny_pure this
 by_cases hd : done < (aj.1.2.2.1.2).cps.size
 ·show wpAny _ _ (if done < (aj.1.2.2.1.2).cps.size then _ else _) _ _ _
  rw [if_pos hd]
  refine wpAny_bind (ci hsz fun t' k2 => ?_)
  refine wpAny_bind (cL F N hne (by omega) fun h' F' N' => ?_)
  exact fin ⟨h', k2, rfl⟩ (hv.append' (.cons _ t' .nil)) (by unfold aF; rw [if_pos hd]) F' N'
 ·show wpAny _ _ (if done < (aj.1.2.2.1.2).cps.size then _ else _) _ _ _
  rw [if_neg hd]
  exact fin ⟨(aj.1.1.1.2.2).heap, (aj.1.1.1.2.2).toks, rfl⟩ hv (by unfold aF; rw [if_neg hd, List.append_nil]) F N
end n_subloop_none
theorem aW {P pl : Addr} {T : Str} {t : Tok} {g : Nat} {code : List Nat} {repl : Value} {way : Int} {n done start : Nat} {must : Bool} {pv : List Value} {ps : List Str} {k : Nat} (hp : PatAt s.heap P g code) (hw : way = 1 ∨ (way = 0 ∧ ∃ x tt, repl = .str x tt))
  (F : Fr h₀ L s.heap m) (N : News h₀ L s.heap ((pl, listOf pv.toArray k) :: rest)) (hne : ∀ p ∈ rest, p.1 ≠ pl) (hv : StrsAre pv ps) (hsz : T.cps.size ≤ 1000000) (hps : (ps.map (·.length)).sum ≤ 1000000) (hpl : ps.length ≤ 900) (j : Nat) (hj : j < 2 ^ 64)
  (ho : (Sre.M.runFor (4 * (j + 1)) (Sre.forSearch code.toArray T.cps g start T.cps.size must)).outcome = some .failed)
  (h : ∀ t' h' tk, Fr h₀ L h' m → News h₀ L h' rest → R (.ok (.ret (.str (Txt.join Str.empty (ps ++ aF T done)) t'))) { s with heap := h', toks := tk }) :
  codeAny (model prog w) A (.builtin "re.Pattern.sub.loop" ⟨[.ref P, .str T t, repl, rawInt way, rawInt 0, rawInt n, rawInt done, rawInt start, .bool must, .ref pl, .bool false], []⟩) R s := (@aO _ _ (u25 bx) n_subloop_none.fG (((((prog, w), (A, s)), ((h₀, L), m)), (((rest, R), P), ((pl, T), t))), ((((g, code), repl), ((way, n), done)), (((start, must), pv), ((ps, k), j)))) : bx prog w A s h₀ L m rest R P pl T t g code repl way n done start must pv ps k j) hp hw F N hne hv hsz hps hpl hj ho h
noncomputable def bA (prog : Program) (w : World) (A : Around) (s : Shared) (h₀ : Heap) (L : Addr) (m : Str → Option Value) (rest : List (Prod Addr Obj)) (R : Result → Shared → Prop) (P : Addr) (pl : Addr) (f : Addr) (T : Str) (t : Tok) (code : List Nat) (n : Nat) (done : Nat) (start : Nat) (gb : Nat) (ge : Nat) (must : Bool) (pv : List Value) (ps : List Str) (k : Nat) (y : Str) (j : Nat) : Prop := ∀ (b : Nat) (e : Nat) (hp : PatAt s.heap P 1 code) (F : Fr h₀ L s.heap m) (N : News h₀ L s.heap ((pl, listOf pv.toArray k) :: rest)) (hne : ∀ p ∈ rest, p.1 ≠ pl) (hv : StrsAre pv ps) (hsz : T.cps.size ≤ 1000000) (hpl : ps.length ≤ 900) (hj : j < 2 ^ 64) (ho : (Sre.M.runFor (4 * (j + 1)) (Sre.forSearch code.toArray T.cps 1 start T.cps.size must)).outcome = some .matched) (hb : (Sre.M.runFor (4 * (j + 1)) (Sre.forSearch code.toArray T.cps 1 start T.cps.size must)).start = b) (he : (Sre.M.runFor (4 * (j + 1)) (Sre.forSearch code.toArray T.cps 1 start T.cps.size must)).handed = e) (hl : (1 : Int) ≤ (Sre.M.runFor (4 * (j + 1)) (Sre.forSearch code.toArray T.cps 1 start T.cps.size must)).lastmark) (hg1 : (Sre.M.runFor (4 * (j + 1)) (Sre.forSearch code.toArray T.cps 1 start T.cps.size must)).marks.getD 0 none = some gb) (hg2 : (Sre.M.runFor (4 * (j + 1)) (Sre.forSearch code.toArray T.cps 1 start T.cps.size must)).marks.getD 1 none = some ge) (hgg : gb ≤ ge) (hcall : ∀ (s' : Shared) (pv' : List Value) (k' : Nat) (li : Int) (tu ma : Addr) (Q' : Value → Shared → Prop), (∃ h' tk, s' = { s with heap := h', toks := tk }) → Fr h₀ L s'.heap m →
   News h₀ L s'.heap ((ma, aK (.str T t) (.ref P) T.cps.size li tu) :: (tu, bl [rawInt b, rawInt e, rawInt gb, rawInt ge]) :: (pl, listOf pv'.toArray k') :: rest) → (∀ p ∈ (pl, listOf pv'.toArray k') :: rest, p.1 < tu) → tu < ma →
   (∀ t' h' tk, Fr h₀ L h' m → News h₀ L h' ((pl, listOf pv'.toArray k') :: rest) → Q' (.str y t') { s with heap := h', toks := tk }) →
   wpAny (model prog w) (A.under (.builtin "re.Pattern.sub.loop" ⟨[.ref P, .str T t, .ref f, rawInt 1, rawInt 0, rawInt n, rawInt done, rawInt start, .bool must, .ref pl, .bool false], []⟩)) (call (.ref f) [.ref ma]) Q' (fun e s' => R (.error e) s') s') (h : ∀ pv' k' h' tk, Fr h₀ L h' m → News h₀ L h' ((pl, listOf pv'.toArray k') :: rest) → StrsAre pv' (ps ++ (if done < b then [⟨T.cps.extract done b⟩] else []) ++ [y]) →
   codeAny (model prog w) A (.builtin "re.Pattern.sub.loop" ⟨[.ref P, .str T t, .ref f, rawInt 1, rawInt 0, rawInt ((n + 1 : Nat) : Int), rawInt e, rawInt e, .bool (e == b), .ref pl, .bool false], []⟩) R { s with heap := h', toks := tk }), codeAny (model prog w) A (.builtin "re.Pattern.sub.loop" ⟨[.ref P, .str T t, .ref f, rawInt 1, rawInt 0, rawInt n, rawInt done, rawInt start, .bool must, .ref pl, .bool false], []⟩) R s
noncomputable def ai : ((((Program × World) × Around × Shared) × (Heap × Addr) × (Str → Option Value)) × (((List (Prod Addr Obj)) × (Result → Shared → Prop)) × Addr) × (Addr × Addr) × Str) × (((Tok × (List Nat)) × Nat × Nat) × (Nat × Nat) × Nat) × ((Bool × (List Value)) × (List Str)) × (Nat × Str) × Nat := @Classical.epsilon _ (by have := neW; have := neA; have := neS; infer_instance) fun x => ¬ u26 bA x
namespace n_subloop_call
noncomputable def f : PySem.Addr := ai.1.2.2.1.2
noncomputable def done : Nat := ai.2.1.1.2.2
theorem fJ : bA ai.1.1.1.1.1 ai.1.1.1.1.2 ai.1.1.1.2.1 ai.1.1.1.2.2 ai.1.1.2.1.1 ai.1.1.2.1.2 ai.1.1.2.2 ai.1.2.1.1.1 ai.1.2.1.1.2 ai.1.2.1.2 ai.1.2.2.1.1 n_subloop_call.f ai.1.2.2.2 ai.2.1.1.1.1 ai.2.1.1.1.2 ai.2.1.1.2.1 n_subloop_call.done ai.2.1.2.1.1 ai.2.1.2.1.2 ai.2.1.2.2 ai.2.2.1.1.1 ai.2.2.1.1.2 ai.2.2.1.2 ai.2.2.2.1.1 ai.2.2.2.1.2 ai.2.2.2.2 := by
 intro b e hp F N hne hv hsz hpl hj ho hb he hl hg1 hg2 hgg hcall h
 refine codeAny_builtin bG (bQ hp (.inl rfl) (bD (ai.2.2.2.2) hj ho ?_))
 have lenps : (ai.2.2.1.1.2).length = (ai.2.2.1.2).length := hv.len_eq
 generalize hM : Sre.M.runFor (4 * ((ai.2.2.2.2) + 1)) (Sre.forSearch (ai.2.1.1.1.2).toArray (ai.1.2.2.2).cps 1 (ai.2.1.2.1.1) (ai.1.2.2.2).cps.size (ai.2.2.1.1.1)) = mm at *
 subst hb he
 have fin : ∀ {s' : Shared} {qv : List Value} {qs : List Str} {k' : Nat}, (∃ h' tk, s' = { (ai.1.1.1.2.2) with heap := h', toks := tk }) → StrsAre qv qs → qs = (ai.2.2.1.2) ++ (if done < mm.start then [⟨(ai.1.2.2.2).cps.extract done mm.start⟩] else []) → Fr (ai.1.1.2.1.1) (ai.1.1.2.1.2) s'.heap (ai.1.1.2.2) → News (ai.1.1.2.1.1) (ai.1.1.2.1.2) s'.heap (((ai.1.2.2.1.1), listOf qv.toArray k') :: (ai.1.2.1.1.1)) →
   wpAny (model (ai.1.1.1.1.1) (ai.1.1.1.1.2)) ((ai.1.1.1.2.1).under (.builtin "re.Pattern.sub.loop" ⟨[.ref (ai.1.2.1.2), .str (ai.1.2.2.2) (ai.2.1.1.1.1), .ref f, rawInt 1, rawInt 0, rawInt (ai.2.1.1.2.1), rawInt done, rawInt (ai.2.1.2.1.1), .bool (ai.2.2.1.1.1), .ref (ai.1.2.2.1.1), .bool false], []⟩)) (do
    let found ← reNewMatch (.ref (ai.1.2.1.2)) (.str (ai.1.2.2.2) (ai.2.1.1.1.1)) 1 0 (ai.1.2.2.2).cps.size mm
    let item ← holding [found] (call (.ref f) [found])
    if item != .none then updateSeq (ai.1.2.2.1.1) (·.push item)
    again (.builtin "re.Pattern.sub.loop" ⟨[.ref (ai.1.2.1.2), .str (ai.1.2.2.2) (ai.2.1.1.1.1), .ref f, rawInt 1, rawInt 0, rawInt (((ai.2.1.1.2.1) : Int) + 1), rawInt mm.handed, rawInt mm.handed, .bool (mm.handed == mm.start), .ref (ai.1.2.2.1.1), .bool false], []⟩))
    (fun fin s' => match fin with | .done f => (ai.1.2.1.1.2) (.ok f) s' | .again c' => c'.quiet = true ∧ codeAny (model (ai.1.1.1.1.1) (ai.1.1.1.1.2)) (ai.1.1.1.2.1) c' (ai.1.2.1.1.2) s') (fun e s' => (ai.1.2.1.1.2) (.error e) s') s' := by
  rintro s' qv qs k' ⟨h', tk, rfl⟩ hqv hqs F' N'
  have lenq : qv.length = qs.length := hqv.len_eq
  have hq9 : qs.length ≤ 901 := by rw [hqs]; split <;> simp <;> omega
  rw [gF hl hg1 hg2 hgg]
  refine wpAny_bind (dG F' N' (by show (4 : Nat) ≤ 10; decide) fun tu ma h2 F2 N2 l1 l2 => ?_)
  refine wpAny_bind (wpAny_holding (hcall _ qv k' _ tu ma _ ⟨h2, tk, rfl⟩ F2 N2 l1 l2 fun t' h3 tk3 F3 N3 => ?_))
  have e1 : (Value.str (ai.2.2.2.1.2) t' != Value.none) = true := by rfl
  rw [if_pos e1]
  refine wpAny_bind (cL F3 N3 hne (by omega) fun h4 F4 N4 => ?_)
  refine wpAny_pure ⟨plainId_quiet bf _, ?_⟩
  have hq2 : StrsAre (qv ++ [Value.str (ai.2.2.2.1.2) t']) ((ai.2.2.1.2) ++ (if done < mm.start then [⟨(ai.1.2.2.2).cps.extract done mm.start⟩] else []) ++ [(ai.2.2.2.1.2)]) := by
   have := hqv.append' (StrsAre.cons (ai.2.2.2.1.2) t' StrsAre.nil)
   rw [hqs] at this
   exact this
  exact h _ _ h4 tk3 F4 N4 hq2
 by_cases hd : done < mm.start
 ·show wpAny _ _ (if done < mm.start then _ else _) _ _ _
  rw [if_pos hd]
  refine wpAny_bind (ci hsz fun t' k2 => ?_)
  refine wpAny_bind (cL F N hne (by omega) fun h' F' N' => ?_)
  exact fin ⟨h', k2, rfl⟩ (hv.append' (.cons _ t' .nil)) (by rw [if_pos hd]) F' N'
 ·show wpAny _ _ (if done < mm.start then _ else _) _ _ _
  rw [if_neg hd]
  exact fin ⟨(ai.1.1.1.2.2).heap, (ai.1.1.1.2.2).toks, rfl⟩ hv (by rw [if_neg hd, List.append_nil]) F N
end n_subloop_call
theorem bR {P pl f : Addr} {T : Str} {t : Tok} {code : List Nat} {n done start b e gb ge : Nat} {must : Bool} {pv : List Value} {ps : List Str} {k : Nat} {y : Str} (hp : PatAt s.heap P 1 code)
  (F : Fr h₀ L s.heap m) (N : News h₀ L s.heap ((pl, listOf pv.toArray k) :: rest)) (hne : ∀ p ∈ rest, p.1 ≠ pl) (hv : StrsAre pv ps) (hsz : T.cps.size ≤ 1000000) (hpl : ps.length ≤ 900) (j : Nat) (hj : j < 2 ^ 64)
  (ho : (Sre.M.runFor (4 * (j + 1)) (Sre.forSearch code.toArray T.cps 1 start T.cps.size must)).outcome = some .matched)
  (hb : (Sre.M.runFor (4 * (j + 1)) (Sre.forSearch code.toArray T.cps 1 start T.cps.size must)).start = b) (he : (Sre.M.runFor (4 * (j + 1)) (Sre.forSearch code.toArray T.cps 1 start T.cps.size must)).handed = e)
  (hl : (1 : Int) ≤ (Sre.M.runFor (4 * (j + 1)) (Sre.forSearch code.toArray T.cps 1 start T.cps.size must)).lastmark)
  (hg1 : (Sre.M.runFor (4 * (j + 1)) (Sre.forSearch code.toArray T.cps 1 start T.cps.size must)).marks.getD 0 none = some gb) (hg2 : (Sre.M.runFor (4 * (j + 1)) (Sre.forSearch code.toArray T.cps 1 start T.cps.size must)).marks.getD 1 none = some ge) (hgg : gb ≤ ge)
  (hcall : ∀ (s' : Shared) (pv' : List Value) (k' : Nat) (li : Int) (tu ma : Addr) (Q' : Value → Shared → Prop), (∃ h' tk, s' = { s with heap := h', toks := tk }) → Fr h₀ L s'.heap m →
   News h₀ L s'.heap ((ma, aK (.str T t) (.ref P) T.cps.size li tu) :: (tu, bl [rawInt b, rawInt e, rawInt gb, rawInt ge]) :: (pl, listOf pv'.toArray k') :: rest) → (∀ p ∈ (pl, listOf pv'.toArray k') :: rest, p.1 < tu) → tu < ma →
   (∀ t' h' tk, Fr h₀ L h' m → News h₀ L h' ((pl, listOf pv'.toArray k') :: rest) → Q' (.str y t') { s with heap := h', toks := tk }) →
   wpAny (model prog w) (A.under (.builtin "re.Pattern.sub.loop" ⟨[.ref P, .str T t, .ref f, rawInt 1, rawInt 0, rawInt n, rawInt done, rawInt start, .bool must, .ref pl, .bool false], []⟩)) (call (.ref f) [.ref ma]) Q' (fun e s' => R (.error e) s') s')
  (h : ∀ pv' k' h' tk, Fr h₀ L h' m → News h₀ L h' ((pl, listOf pv'.toArray k') :: rest) → StrsAre pv' (ps ++ (if done < b then [⟨T.cps.extract done b⟩] else []) ++ [y]) →
   codeAny (model prog w) A (.builtin "re.Pattern.sub.loop" ⟨[.ref P, .str T t, .ref f, rawInt 1, rawInt 0, rawInt ((n + 1 : Nat) : Int), rawInt e, rawInt e, .bool (e == b), .ref pl, .bool false], []⟩) R { s with heap := h', toks := tk }) :
  codeAny (model prog w) A (.builtin "re.Pattern.sub.loop" ⟨[.ref P, .str T t, .ref f, rawInt 1, rawInt 0, rawInt n, rawInt done, rawInt start, .bool must, .ref pl, .bool false], []⟩) R s := (@aO _ _ (u26 bA) n_subloop_call.fJ (((((prog, w), (A, s)), ((h₀, L), m)), (((rest, R), P), ((pl, f), T))), ((((t, code), (n, done)), ((start, gb), ge)), (((must, pv), ps), ((k, y), j)))) : bA prog w A s h₀ L m rest R P pl f T t code n done start gb ge must pv ps k y j) b e hp F N hne hv hsz hpl hj ho hb he hl hg1 hg2 hgg hcall h
end
section
variable {prog : Program} {w : World} {A : Around} {E : Value → Shared → Prop} {s : Shared} {h₀ : Heap} {L : Addr} {m : Str → Option Value} {news rest : List (Addr × Obj)} {R : Result → Shared → Prop}
theorem cz {name : Str} {id : String} {pl : Sem Bool} {ma tu : Addr} {str pat : Value} {lim : Nat} {li : Int} {Q : Value × List Value → Shared → Prop} (slot : Slot "re.Match" name id) (hty : typeOf (.builtin id) = pure (.type "method_descriptor"))
  (N : News h₀ L s.heap news) (hm : (ma, aK str pat lim li tu) ∈ news) (h : Q (.builtin id, [.ref ma]) s) : wpAny (model prog w) A (getMethod (.ref ma) name pl) Q E s :=
 getMethod_builtin ⟨_, (N _ hm).1, rfl⟩ fA slot hty (fun x e => by cases e; exact ⟨_, (N _ hm).1, rfl⟩) h
noncomputable def ba (xs : List Nat) : List Value := xs.map fun (c : Nat) => rawInt (c : Int)
theorem gU (xs : List Nat) : (ba xs).toArray.map reRawOf = (xs.map fun (c : Nat) => (c : Int)).toArray := by
 apply Array.ext'
 simp only [ba, Array.toList_map, List.map_map]
 induction xs with
 | nil => rfl
 | cons c r ih => simp only [List.map_cons, Function.comp_apply, ih]; rfl
theorem iV {M : Model} {ma tu : Addr} {str pat : Value} {lim : Nat} {li : Int} {xs : List Nat} {Q : ReFound → Shared → Prop} (N : News h₀ L s.heap news) (hm : (ma, aK str pat lim li tu) ∈ news) (ht : (tu, bl (ba xs)) ∈ news)
  (h : Q { fields := #[str, pat, rawInt (0 : Nat), rawInt lim, rawInt li, .ref tu], spans := (xs.map fun (c : Nat) => (c : Int)).toArray } s) : wpAny M A (reFound (.ref ma)) Q E s := by
 unfold reFound
 refine wpAny_bind (wpAny_fieldsOf (N _ hm).1 rfl ?_)
 refine wpAny_bind (m := reRawItems (.ref tu)) ?_
 unfold reRawItems
 refine wpAny_bind (wpAny_seqItems (N _ ht).1 rfl (wpAny_pure (wpAny_pure ?_)))
 show Q { fields := _, spans := (ba xs).toArray.map reRawOf } s
 rw [gU]
 exact h
theorem dM {ma tu : Addr} {T : Str} {t : Tok} {pat : Value} {lim : Nat} {li : Int} {b e gb ge : Nat} {tk : Tok} {Q : Value → Shared → Prop} (N : News h₀ L s.heap news) (hm : (ma, aK (.str T t) pat lim li tu) ∈ news) (ht : (tu, bl (ba [b, e, gb, ge])) ∈ news) (hsz : T.cps.size ≤ 1000000)
  (h : ∀ t' k, Q (.str ⟨T.cps.extract gb ge⟩ t') { s with toks := k }) : wpAny (model prog w) A (call (.builtin "re.Match.group") [.ref ma, .int 1 tk]) Q E s := by
 refine wpAny_call (codeAny_call_builtin slot_group.plain jG (slot_group.check _ _ _ _ _ _ _ _ ⟨_, (N _ hm).1, rfl⟩ (kW _ _) ?_))
 unfold Builtin.«re.Match.group»
 refine wpAny_bind (m := noKeywords "Match.group" _) (wpAny_pure ?_)
 refine wpAny_bind (iV N hm ht ?_)
 refine wpAny_bind (m := reGroupNumber _ _) (wpAny_of_eq (a := 1) (by rfl) ?_)
 refine wpAny_bind ?_
 unfold reGroupText
 have e1 : ¬ (((gb : Int) < 0 || (ge : Int) < 0) = true) := by simp
 show wpAny _ _ (if ((gb : Int) < 0 || (ge : Int) < 0) = true then _ else _) _ _ _
 rw [if_neg e1]
 refine wpAny_bind (m := reTextOf (.str T t)) (wpAny_of_eq (a := (T.cps, 0)) rfl ?_)
 exact ci hsz fun t' k => wpAny_pure (h t' k)
theorem fD : typeLookup (.type "re.Match") "__bool__" = pure none := by rw [typeLookup_type, builtinLookup_eq_fast]; kernel_rfl
theorem gE : typeLookup (.type "re.Match") "__len__" = pure none := by rw [typeLookup_type, builtinLookup_eq_fast]; kernel_rfl
theorem cu {ma tu : Addr} {str pat : Value} {lim : Nat} {li : Int} {Q : Bool → Shared → Prop} (N : News h₀ L s.heap news) (hm : (ma, aK str pat lim li tu) ∈ news) (h : Q true s) : wpAny (model prog w) A (truthy (.ref ma)) Q E s := by
 have hT : s.TypeIs (.ref ma) "re.Match" := ⟨_, (N _ hm).1, rfl⟩
 unfold truthy
 first
  | refine wpAny_bind (wpAny_callSpecial?_none (name := Str.ofString "__bool__") hT fD ?_)
  | refine wpAny_bind (wpAny_pure (wpAny_bind (wpAny_callSpecial?_none (name := Str.ofString "__bool__") hT fD ?_)))
 first
  | refine wpAny_bind (wpAny_specialOf (name := Str.ofString "__len__") hT gE ?_)
  | refine wpAny_bind (wpAny_pure (wpAny_bind (wpAny_specialOf (name := Str.ofString "__len__") hT gE ?_)))
 exact wpAny_pure h
theorem gH (id f : String) (a b : Value) : reNamed id f ["repl", "string", "count"] 2 [a, b] [] = pure [some a, some b, none] := by rfl
theorem iE {P f : Addr} {of : Obj} {T : Str} {t : Tok} {g : Nat} {code : List Nat} {Q : Value → Shared → Prop} (F : Fr h₀ L s.heap m) (N : News h₀ L s.heap news) (hp : PatAt s.heap P g code) (hf : (f, of) ∈ news) (hfc : of.cls = .type "function")
  (h : ∀ pl h', Fr h₀ L h' m → News h₀ L h' ((pl, listOf ([] : List Value).toArray 0) :: news) → (∀ p ∈ news, p.1 < pl) →
   codeAny (model prog w) A (.builtin "re.Pattern.sub.loop" ⟨[.ref P, .str T t, .ref f, rawInt 1, rawInt 0, rawInt ((0 : Nat) : Int), rawInt ((0 : Nat) : Int), rawInt ((0 : Nat) : Int), .bool false, .ref pl, .bool false], []⟩)
    (fun r s' => match r with | .ok (.ret v) => Q v s' | .ok _ => False | .error e => E e s') { s with heap := h' }) :
  wpAny (model prog w) A (call (.builtin "re.Pattern.sub") [.ref P, .ref f, .str T t]) Q E s := by
 refine cq (id hp) ?_; intro v0 v1 C a b
 refine wpAny_call (codeAny_call_builtin slot_sub.plain mE (slot_sub.check _ _ _ _ _ _ _ _ ⟨_, a, rfl⟩ (args_sub _ _ _) ?_))
 unfold Builtin.«re.Pattern.sub» reSubstitute
 refine wpAny_bind (m := reNamed _ _ _ _ _ _) (wpAny_of_eq (gH _ _ _ _) ?_)
 refine wpAny_bind (wpAny_pure ?_)
 refine wpAny_bind (wpAny_specialOf (name := Str.ofString "__call__") (T := "function") ⟨_, (N _ hf).1, hfc⟩ hX ?_)
 refine wpAny_bind (wpAny_pure ?_)
 refine wpAny_bind (wpAny_pure ?_)
 refine wpAny_bind (wpAny_holding (ff hp ?_))
 refine wpAny_bind (m := reNotHeld _ _) ?_
 unfold reNotHeld
 refine wpAny_bind (wpAny_isInstance (T := "str") (b := false) ?_ ?_ ?_)
 ·trivial
 ·rw [isSubtype_type]; kernel_rfl
 refine wpAny_pure ?_
 refine wpAny_bind (newList_N F N (fun h' F' N' => ?_) (by decide))
 exact wpAny_pure ⟨plainId_quiet bf _, h _ h' F' N' fun p hp => Heap.lt_size (N p hp).1⟩
end
noncomputable def esc (i : Nat) : Str := [Str.ofString "a", Str.ofString "b c", Str.ofString "d\\\"", Str.ofString "", Str.ofString "e\\\\"].getD i Str.empty
noncomputable def qv (i : Nat) : Str := [Str.ofString "a", Str.ofString "\"b c\"", Str.ofString "\"d\\\"\"", Str.ofString "\"\"", Str.ofString "\"e\\\\\""].getD i Str.empty
section
variable {prog : Program} {w : World} {A : Around} {E : Value → Shared → Prop} {s : Shared} {h₀ : Heap} {L : Addr} {m : Str → Option Value} {news : List (Addr × Obj)}
noncomputable def dO (prog : Program) (w : World) (A : Around) (E : Value → Shared → Prop) (s : Shared) (h₀ : Heap) (L : Addr) (m : Str → Option Value) (news : List (Addr × Obj)) (P f : Addr) (pre : Str) : Prop :=
 ∀ (s' : Shared) (nx : List (Addr × Obj)) (lim : Nat) (li : Int) (tu ma : Addr) (T : Str) (t : Tok) (b e gb ge : Nat) (Q' : Value → Shared → Prop), (∃ h' tk, s' = { s with heap := h', toks := tk }) → Fr h₀ L s'.heap m →
  News h₀ L s'.heap ((ma, aK (.str T t) (.ref P) lim li tu) :: (tu, bl (ba [b, e, gb, ge])) :: nx) → (∀ p ∈ news, p ∈ nx) → T.cps.size ≤ 1000000 →
  (∀ t' h' tk, Fr h₀ L h' m → News h₀ L h' nx → Q' (.str (pre ++ ⟨T.cps.extract gb ge⟩) t') { s with heap := h', toks := tk }) →
  wpAny (model prog w) A.in1 (call (.ref f) [.ref ma]) Q' E s'
theorem sub_nm {n : Nat} {t : Tok} {f : Addr} {of : Obj} {Q : Value → Shared → Prop} (hn0 : n ≠ 0) (hn5 : n < 5) (F : Fr h₀ L s.heap m) (N : News h₀ L s.heap news) (X : (Mine.hd.heap_39 w.params).In h₀) (hf : (f, of) ∈ news) (hfc : of.cls = .type "function")
  (hlam : dO prog w A E s h₀ L m news 87 f (Str.ofString "\\"))
  (h : ∀ t' h' tk, Fr h₀ L h' m → News h₀ L h' news → Q (.str (esc n) t') { s with heap := h', toks := tk }) :
  wpAny (model prog w) A (call (.builtin "re.Pattern.sub") [.ref 87, .ref f, .str (nm n) t]) Q E s := by
 have PJ : ∀ {h' : Heap}, Fr h₀ L h' m → PatAt h' 87 1 cJE := fun F' => patJE (X.keeps F'.keep)
 refine iE F N (PJ F) hf hfc fun pl h1 F1 N1 l1 => ?_
 have hne : ∀ p ∈ news, p.1 ≠ pl := fun p hp => Nat.ne_of_lt (l1 p hp)
 have hin1 : A.under (.builtin "re.Pattern.sub.loop" ⟨[.ref 87, .str (nm n) t, .ref f, rawInt 1, rawInt 0, rawInt ((0 : Nat) : Int), rawInt ((0 : Nat) : Int), rawInt ((0 : Nat) : Int), .bool false, .ref pl, .bool false], []⟩) = A.in1 := Around.under_plainId bf _
 match n, hn0, hn5 with
 | 1, _, _ =>
  refine aW (PJ F1) (.inl rfl) F1 N1 hne .nil (by decide) (by decide) (by decide) 2 (by decide) (by rfl) ?_
  intro t' h' tk F' N'
  exact h t' h' tk F' N'
 | 3, _, _ =>
  refine aW (PJ F1) (.inl rfl) F1 N1 hne .nil (by decide) (by decide) (by decide) 2 (by decide) (by rfl) ?_
  intro t' h' tk F' N'
  exact h t' h' tk F' N'
 | 2, _, _ =>
  refine bR (b := 1) (e := 2) (gb := 1) (ge := 2) (y := Str.ofString "\\\"") (PJ F1) F1 N1 hne .nil (by decide) (by decide) 5 (by decide) (by rfl) (by rfl) (by rfl) (by decide) (by rfl) (by rfl) (by decide) ?_ ?_
  ·intro s' pv' k' li tu ma Q' hs' F' N' l2 l3 hq
   rw [hin1]
   refine bX (hs') ?_; (try clear hs'); intro h2 tk2 xq0c; subst xq0c
   exact hlam _ _ _ _ _ _ _ _ 1 2 1 2 Q' ⟨h2, tk2, rfl⟩ F' N' (fun p hp => .tail _ hp) (by decide) (fun t' h' tk F'' N'' => hq t' h' tk F'' N'')
  ·intro pv' k' h' tk F' N' hv
   refine aW (PJ F') (.inl rfl) F' N' hne hv (by decide) (by decide) (by decide) 2 (by decide) (by rfl) ?_
   intro t' h'' tk' F'' N''
   exact h t' h'' tk' F'' N''
 | 4, _, _ =>
  refine bR (b := 1) (e := 2) (gb := 1) (ge := 2) (y := Str.ofString "\\\\") (PJ F1) F1 N1 hne .nil (by decide) (by decide) 5 (by decide) (by rfl) (by rfl) (by rfl) (by decide) (by rfl) (by rfl) (by decide) ?_ ?_
  ·intro s' pv' k' li tu ma Q' hs' F' N' l2 l3 hq
   rw [hin1]
   refine bX (hs') ?_; (try clear hs'); intro h2 tk2 xq1c; subst xq1c
   exact hlam _ _ _ _ _ _ _ _ 1 2 1 2 Q' ⟨h2, tk2, rfl⟩ F' N' (fun p hp => .tail _ hp) (by decide) (fun t' h' tk F'' N'' => hq t' h' tk F'' N'')
  ·intro pv' k' h' tk F' N' hv
   refine aW (PJ F') (.inl rfl) F' N' hne hv (by decide) (by decide) (by decide) 2 (by decide) (by rfl) ?_
   intro t' h'' tk' F'' N''
   exact h t' h'' tk' F'' N''
end
end
section
open PySem PySem.W PyProof.Rows PySem.Calls PySem.Spec
noncomputable abbrev PR := Str × Option Nat
noncomputable def toP (p : PR) : Str × Option Str := (p.1, p.2.map nm)
noncomputable def ptext (p : PR) : Str := match p.2 with
 | none => p.1
 | some i => p.1 ++ (Str.ofString "=" ++ qv i)
noncomputable def GoodP (p : PR) : Prop := (p.1 = Str.ofString "job" ∨ p.1 = Str.ofString "after" ∨ p.1 = Str.ofString "late") ∧ ∀ i, p.2 = some i → i < 5
noncomputable def rtext (r : List PR) : Str := Txt.join (Str.ofString "; ") (r.map ptext)
theorem aY {α : Type} {news : List (Addr × Obj)} {f : α → Dat} : ∀ {rs : List α} {vs : List Value} {i : Nat} {v : Value}, DatAll news vs (rs.map f) → vs[i]? = some v → ∃ r, rs[i]? = some r ∧ DatIn news v (f r)
 | [], _, _, _, h, e => by cases h; cases e
 | r :: rs, _, 0, v, h, e => by
  cases h with
  | cons h _ => cases e; exact ⟨r, rfl, h⟩
 | r :: rs, _, i + 1, v, h, e => by
  cases h with
  | cons _ h =>
   rw [List.getElem?_cons_succ] at e
   obtain ⟨r', h1, h2⟩ := aY h e
   exact ⟨r', by rw [List.getElem?_cons_succ]; exact h1, h2⟩
theorem ef {news : List (Addr × Obj)} {v : Value} {r : Row} (h : DatIn news v (datR r)) : ∃ b ws q, v = .ref b ∧ (b, listOf ws.toArray q) ∈ news ∧ DatAll news ws (r.map datP) := by
 unfold datR at h
 cases h with
 | list hm hd => exact ⟨_, _, _, rfl, hm, hd⟩
theorem eg {news : List (Addr × Obj)} {v : Value} {p : PR} (h : DatIn news v (datP (toP p))) : ∃ b t q x, v = .ref b ∧ (b, ({ cls := .type "tuple", data := .seq #[.str p.1 t, x] q } : Obj)) ∈ news ∧ ((p.2 = none ∧ x = .none) ∨ ∃ i t', p.2 = some i ∧ x = .str (nm i) t') := by
 obtain ⟨k, v'⟩ := p
 unfold datP toP at h
 cases h with
 | tuple hm hd =>
  cases hd with
  | cons h1 hd =>
   cases hd with
   | cons h2 hd =>
    cases hd
    cases h1
    cases v' with
    | none => cases h2; exact ⟨_, _, _, _, rfl, hm, .inl ⟨rfl, rfl⟩⟩
    | some i => cases h2; exact ⟨_, _, _, _, rfl, hm, .inr ⟨i, _, rfl, rfl⟩⟩
noncomputable def Tab1 (w : World) (f : Addr) (args : List Value) (P : Addr) (qual : Str) (line col : Nat) (Pre : List (Addr × Obj) → Prop) (Post : List (Addr × Obj) → Value → Prop) : Prop :=
 ∀ (p : Program) (loose : List Str) (mean : ExcName → Option Value) (mg mb : Str → Option Value) (dp un : Nat) (gd : Option (List Code)) (cn : Str) (cs : Scope) (a : Addr) (ccd : Value) (cl : List (Str × Addr)) (outer : List Env) (A₀ : Around) (base h₀ : Heap) (L : Addr) (m : Str → Option Value) (ps : Array Value) (news : List (Addr × Obj)) (s : Shared) (Q E : Value → Shared → Prop),
  Below A₀ base outer h₀ → Fr h₀ L s.heap m → (Mine.hd.heap_39 w.params).In h₀ → News h₀ L s.heap ((P, tabObj ps) :: news) → Top p loose mean mg mb h₀ → cs.kind = .function → dp + 40 < recursionLimit → un + 400 < cLine → (∀ p ∈ news, p.1 ≠ P) → TabOk qual line col ps news → Pre news →
  (∀ r ps' tl h' tk', Fr h₀ L h' m → News h₀ L h' ((P, tabObj ps') :: (tl ++ news)) → (∀ q ∈ news, ∀ p ∈ tl, q.1 < p.1) → (∀ p ∈ tl, p.1 ≠ P) → TabOk qual line col ps' (tl ++ news) → Post (tl ++ news) r → Q r { s with heap := h', toks := tk' }) →
  wpAny (model PySem.Challenge.rw_oc0257_01.prog w) (ktrTop dp un gd cn cs L a ccd cl outer) (call (.ref f) args) Q E s
noncomputable def qJ : Str := Str.ofString "join_header_words" ++ ".<locals>." ++ "<lambda>"
theorem rlB20 : True := by
 k_with_none
 k_with "getMethod ref" => (k_here; first | ((with_reducible show wpAny _ _ (getMethod (Value.ref 82) (Str.ofString "fullmatch") _) _ _ _); refine bc slot_fullmatch cK (patJT (by k_in)) ?_) | ((with_reducible show wpAny _ _ (getMethod (Value.ref 87) (Str.ofString "sub") _) _ _ _); refine bc slot_sub fg (patJE (by k_in)) ?_))
 k_with "call builtin:re.Pattern.fullmatch" => case fresh => (k_here; first | (refine fm_a (by k_asm) (by k_asm) (by k_in) ?_; intro li'' sp'' tu'' ma'' h'' F'' N'' l1' l2'; refine cu N'' (.head _) ?_) | (refine iX (by k_in) (by assumption) (by assumption) ?_))
 k_with "getMethod ref" => (k_here; (with_reducible show wpAny _ _ (getMethod (Value.ref _) (Str.ofString "group") _) _ _ _); refine cz slot_group dC (by k_asm) (List.Mem.head _) ?_)
 k_with "call builtin:re.Match.group" => (k_here; refine dM (by k_asm) (List.Mem.head _) (List.Mem.tail _ (List.Mem.head _)) (by assumption) ?_; intro _ _)
 k_with "convS str" => (k_here; refine convS_str ?_ (by first | assumption | size_fits); intro _ _)
 k_with "formatField str" => (k_here; refine field_str ?_ (by first | assumption | size_fits); intro _ _)
 trivial
theorem gI : Str.empty.length = 0 := rfl
theorem ib : (Str.ofString "=").length = 1 := rfl
theorem lk : (Str.ofString "\"").length = 1 := rfl
theorem rlB21 : True := by
 k_with "le" => ((with_reducible show PySem.Str.length _ ≤ sizeLine); (try dsimp only); simp only [Str.length_append, gI, ib, lk]; omega)
 trivial
theorem kt (n : Nat) : (nm n).length ≤ 3 := by
 match n with
 | 0 => decide
 | 1 => decide
 | 2 => decide
 | 3 => decide
 | 4 => decide
 | n + 5 => exact Nat.zero_le _
theorem iu (n : Nat) : (esc n).length ≤ 3 := by
 match n with
 | 0 => decide
 | 1 => decide
 | 2 => decide
 | 3 => decide
 | 4 => decide
 | n + 5 => exact Nat.zero_le _
theorem cf {p : PR} (h : GoodP p) : p.1.length ≤ 5 := by
 rcases h.1 with e | e | e <;> rw [e] <;> decide
theorem qv_len (n : Nat) : (qv n).length ≤ 6 := by
 match n with
 | 0 => decide
 | 1 => decide
 | 2 => decide
 | 3 => decide
 | 4 => decide
 | n + 5 => exact Nat.zero_le _
theorem eq {p : PR} (h : GoodP p) : (ptext p).length ≤ 12 := by
 have h1 := cf h
 obtain ⟨k, v⟩ := p
 cases v with
 | none => exact Nat.le_trans h1 (by decide)
 | some i =>
  show (k ++ (Str.ofString "=" ++ qv i)).length ≤ 12
  have := qv_len i
  rw [Str.length_append, Str.length_append, ib]
  dsimp only at h1
  omega
theorem fP {sep : Str} {ys : List Str} {n B : Nat} (hn : ys.length ≤ n) (hB : ∀ y ∈ ys, y.length ≤ B) (hs : sep.length ≤ 2) : (Txt.join sep ys).length ≤ n * (B + 2) := by
 show (Builtin.Str.glued sep ys).length ≤ _
 rw [StrLaws.glued_eq_join]
 have h1 := StrLaws.join_length_le sep ys
 have h2 := StrLaws.sumLen_le ys hB
 have h3 : ys.length * B + ys.length * sep.length ≤ n * (B + 2) := by
  rw [← Nat.mul_add]
  exact Nat.mul_le_mul hn (by omega)
 omega
theorem eo {r : List PR} (hr : r.length ≤ 10) (h : ∀ p ∈ r, GoodP p) : (rtext r).length ≤ 140 := by
 unfold rtext
 exact fP (n := 10) (B := 12) (by simpa using hr) (by intro y hy; obtain ⟨p, hp, rfl⟩ := List.mem_map.mp hy; exact eq (h p hp)) (by decide)
theorem jF {n : Nat} (h0 : n ≠ 0) (h5 : n < 5) : Str.ofString "\"" ++ (esc n ++ Str.ofString "\"") = qv n := by
 match n, h0, h5 with
 | 1, _, _ => decide
 | 2, _, _ => decide
 | 3, _, _ => decide
 | 4, _, _ => decide
theorem iQ (sep x : Str) (xs : List Str) : (Txt.join sep (x :: xs)).cps.toList = x.cps.toList ++ xs.flatMap fun y => sep.cps.toList ++ y.cps.toList := by
 have key : ∀ (xs : List Str) (acc : Array Nat), (xs.foldl (fun acc p => acc ++ sep.cps ++ p.cps) acc).toList = acc.toList ++ xs.flatMap fun y => sep.cps.toList ++ y.cps.toList := by
  intro xs
  induction xs with
  | nil => intro acc; simp
  | cons y ys ih =>
   intro acc
   rw [List.foldl_cons, ih]
   simp [List.append_assoc]
 exact key xs x.cps
theorem iN {c : Nat} {R : List Nat} (hc : Unicode.isSpace c = false) : Txt.lstrip ⟨(c :: R).toArray⟩ = ⟨(c :: R).toArray⟩ := by
 have lo : stripLo Unicode.isSpace true ⟨(c :: R).toArray⟩ = 0 := by
  show ((c :: R).takeWhile Unicode.isSpace).length = 0
  rw [List.takeWhile_cons, hc]; rfl
 show Txt.stripBy Unicode.isSpace true false _ = _
 unfold Txt.stripBy
 have : stripSame Unicode.isSpace true false ⟨(c :: R).toArray⟩ = true := by
  unfold stripSame
  rw [lo]
  show ((0 : Nat) == 0 && (c :: R).length == (c :: R).length) = true
  simp
 rw [if_pos this]
theorem dT {c : Nat} {R : List Nat} : Txt.startswith ⟨(c :: R).toArray⟩ (Str.ofString ",") = (c == 44) := by
 unfold Txt.startswith
 have e1 : (Str.ofString ",").cps = #[44] := rfl
 have e2 : (Str.ofString ",").length = 1 := rfl
 unfold Builtin.Str.subAt
 rw [e1, e2]
 have e3 : ((c :: R).toArray.extract 0 (0 + 1)) = #[c] := by
  apply Array.ext'
  simp
 show (decide (0 + 1 ≤ (c :: R).length) && ((c :: R).toArray.extract 0 (0 + 1) == #[44])) = _
 rw [e3]
 simp
section
variable {prog : Program} {w : World} {A : Around} {E : Value → Shared → Prop} {s : Shared} {Q : Value → Shared → Prop} {t u : Tok} {c : Nat} {R : List Nat}
theorem eI (hc : Unicode.isSpace c = false) (hsz : (c :: R).length ≤ 1000000) (h : ∀ t' k, Q (.str ⟨(c :: R).toArray⟩ t') { s with toks := k }) : wpAny (model prog w) A (call (.builtin "str.lstrip") [.str ⟨(c :: R).toArray⟩ t]) Q E s := by
 have e0 : sizeLine = 16777216 := rfl
 refine SC.lstrip (fun t' k => ?_) (by show (c :: R).length ≤ sizeLine; omega)
 rw [iN hc]; exact h t' k
theorem kc (h : Q (.bool true) s) : wpAny (model prog w) A (call (.builtin "str.startswith") [.str ⟨(44 :: R).toArray⟩ t, .str (Str.ofString ",") u]) Q E s := by
 refine SC.startswith ?_
 rw [dT]; exact h
theorem lN (h : Q (.bool false) s) : wpAny (model prog w) A (call (.builtin "str.startswith") [.str ⟨(59 :: R).toArray⟩ t, .str (Str.ofString ",") u]) Q E s := by
 refine SC.startswith ?_
 rw [dT]; exact h
end
end
section
open PySem PySem.W PyProof.Rows PySem.Calls PySem.Spec PyProof.Rows.LCg
section
variable {prog : Program} {w : World} {A : Around} {s : Shared} {h₀ : Heap} {L : Addr} {m : Str → Option Value}
inductive COutI (h₀ : Heap) (L : Addr) (m : Str → Option Value) (gS : Array GenState) (dS : Drawn) (oS : OsState) (I : Addr) (oI : Obj) (C : Addr) (J : List (Addr × Obj) → Prop) (s₃ : Shared) : Prop where
 | mk : ∀ h' tk' nx' oC' m₂', (s₃ = ⟨h', gS, dS, tk', oS⟩) → (NsObj oC' m₂') → (Fr h₀ L h' m) → (News h₀ L h' ((I, oI) :: (C, oC') :: nx')) → ((∀ p ∈ nx', p.1 ≠ I ∧ p.1 ≠ C)) → (J nx') → COutI h₀ L m gS dS oS I oI C J s₃
noncomputable def COut (h₀ : Heap) (L : Addr) (m : Str → Option Value) (s : Shared) (I : Addr) (oI : Obj) (C : Addr) (J : List (Addr × Obj) → Prop) (s₃ : Shared) : Prop := COutI h₀ L m s.gens s.drawn s.os I oI C J s₃
noncomputable abbrev bh (ifs : List Expr) (cenv : Env) : Sem Bool := forIn ifs true fun c r => if r = true then do let ok ← isTrue c cenv (eval c cenv); pure (ForInStep.yield ok) else pure (ForInStep.yield r)
noncomputable def ic (prog : Program) (w : World) (A : Around) (s : Shared) (h₀ : Heap) (L : Addr) (m : Str → Option Value) (e : Expr) (depth : Nat) (target : Expr) (iter : Expr) (ifs : List Expr) (emit : Sem Unit) (acc : Value) (cenv : Env) (I : Addr) (C : Addr) (n : Nat) (P : Nat → Value → Prop) (St : Nat → Heap → Prop) (fp : List Addr) (src : List (Prod Addr Obj)) (R : Result → Shared → Prop) (m₂ : Str → Option Value) (news : List (Prod Addr Obj)) (J : Nat → List (Prod Addr Obj) → Prop) : Prop := ∀ (hden : (model prog w).den (.compLoop e depth (.ref I) acc cenv) = (compTurn e depth (.ref I) acc cenv).onRaise (fun x => do noteFrame x cenv; theTreesLotGoes x)) (hq : (Code.compLoop e depth (.ref I) acc cenv).quiet = true) (hund : A.under (.compLoop e depth (.ref I) acc cenv) = A) (hturn : compTurn e depth (.ref I) acc cenv = (do
   standAt iter.pos
   match ← pyNext (.ref I) with
   | none => pure (.done .next)
   | some v =>
    letOwnedTupleGo target (.ref I) v
    assign target cenv v
    let ok ← bh ifs cenv
    if ok then emit
    again (.compLoop e depth (.ref I) acc cenv))) (W : Walks prog w A I fp [I] n P St) (hIo : ∀ i h, St i h → ∃ o, h.get? I = some o) (hfp : ∀ b ∈ fp, b = I ∨ ∃ o, (b, o) ∈ src) (hgo : ∀ i v (s : Shared) (Q : Unit → Shared → Prop) (E' : Value → Shared → Prop), St i s.heap → Q () s → wpAny (model prog w) A (letOwnedTupleGo target (.ref I) v) Q E' s) (hsrc : ∀ i nx, J i nx → ∀ p ∈ src, p ∈ nx) (hIL : L ≠ I) (hI₀ : h₀.get? I = none) (hCL : C ≠ L) (hC₀ : h₀.get? C = none) (hIC : I ≠ C) (hst : St 0 s.heap) (F : Fr h₀ L s.heap m) (N : News h₀ L s.heap news) (off : ∀ p ∈ news, p.1 ≠ I ∧ p.1 ≠ C) (mC : s.heap.Ns C m₂) (hJ : J 0 news) (turn : ∀ i v nx oI oC m₂ h tk (E' : Value → Shared → Prop), i < n → P i v → J i nx → NsObj oC m₂ → Fr h₀ L h m → News h₀ L h ((I, oI) :: (C, oC) :: nx) → (∀ p ∈ nx, p.1 ≠ I ∧ p.1 ≠ C) →
   wpAny (model prog w) A (assign target cenv v) (fun _ s₂ => wpAny (model prog w) A (bh ifs cenv) (fun ok s₃ =>
    if ok = true then wpAny (model prog w) A emit (fun _ s₄ => COut h₀ L m s I oI C (J (i + 1)) s₄) E' s₃ else COut h₀ L m s I oI C (J (i + 1)) s₃) E' s₂) E' { s with heap := h, toks := tk }) (done : ∀ nx oC m₂ h tk, J n nx → NsObj oC m₂ → Fr h₀ L h m → News h₀ L h ((C, oC) :: nx) → (∀ p ∈ nx, p.1 ≠ I ∧ p.1 ≠ C) → R (.ok .next) { s with heap := h, toks := tk }), codeAny (model prog w) A (.compLoop e depth (.ref I) acc cenv) R s
noncomputable def ay : ((((Program × World) × Around × Shared) × (Heap × Addr) × (Str → Option Value)) × ((Expr × Nat) × Expr) × (Expr × (List Expr)) × (Sem Unit)) × (((Value × Env) × Addr × Addr) × (Nat × (Nat → Value → Prop)) × (Nat → Heap → Prop)) × (((List Addr) × (List (Prod Addr Obj))) × (Result → Shared → Prop)) × ((Str → Option Value) × (List (Prod Addr Obj))) × (Nat → List (Prod Addr Obj) → Prop) := @Classical.epsilon _ (by have := neW; have := neA; have := neS; infer_instance) fun x => ¬ u26 ic x
namespace n_loopJ
noncomputable def e : PySem.Expr := ay.1.2.1.1.1
theorem m_loopJ : ic ay.1.1.1.1.1 ay.1.1.1.1.2 ay.1.1.1.2.1 ay.1.1.1.2.2 ay.1.1.2.1.1 ay.1.1.2.1.2 ay.1.1.2.2 n_loopJ.e ay.1.2.1.1.2 ay.1.2.1.2 ay.1.2.2.1.1 ay.1.2.2.1.2 ay.1.2.2.2 ay.2.1.1.1.1 ay.2.1.1.1.2 ay.2.1.1.2.1 ay.2.1.1.2.2 ay.2.1.2.1.1 ay.2.1.2.1.2 ay.2.1.2.2 ay.2.2.1.1.1 ay.2.2.1.1.2 ay.2.2.1.2 ay.2.2.2.1.1 ay.2.2.2.1.2 ay.2.2.2.2 := by
 intro hden hq hund hturn W hIo hfp hgo hsrc hIL hI₀ hCL hC₀ hIC hst F N off mC hJ turn done
 refine codeAny_loop hq (fun k s' => ∃ h' tk i m' nx, s' = { (ay.1.1.1.2.2) with heap := h', toks := tk } ∧ i ≤ (ay.2.1.2.1.1) ∧ k = (ay.2.1.2.1.1) + 1 - i ∧ (ay.2.1.2.2) i h' ∧ Fr (ay.1.1.2.1.1) (ay.1.1.2.1.2) h' (ay.1.1.2.2) ∧ h'.Ns (ay.2.1.1.2.2) m' ∧ News (ay.1.1.2.1.1) (ay.1.1.2.1.2) h' nx ∧ (∀ p ∈ nx, p.1 ≠ (ay.2.1.1.2.1) ∧ p.1 ≠ (ay.2.1.1.2.2)) ∧ (ay.2.2.2.2) i nx) ?_ ((ay.2.1.2.1.1) + 1)
  ⟨(ay.1.1.1.2.2).heap, (ay.1.1.1.2.2).toks, 0, (ay.2.2.2.1.1), (ay.2.2.2.1.2), rfl, Nat.zero_le _, rfl, hst, F, mC, N, off, hJ⟩
 rintro k s' ⟨h', tk, i, m', nx, rfl, hi, rfl, hst', F', hn', N', off', hJ'⟩
 rw [hden, hund]
 refine wpAny_noted ?_
 rw [hturn]
 refine wpAny_bind (wpAny_standAt (wpAny_bind ?_))
 by_cases hlt : i < (ay.2.1.2.1.1)
 ·refine W.item i _ _ _ hlt hst' fun v h₂ tk₂ hPv hst₂ hk₂ => ?_
  have F₂ : Fr (ay.1.1.2.1.1) (ay.1.1.2.1.2) h₂ (ay.1.1.2.2) := fr_but F' hk₂ hIL hI₀
  have N₂ : News (ay.1.1.2.1.1) (ay.1.1.2.1.2) h₂ nx := news_but N' hk₂ fun p hp => (off' p hp).1
  have hn₂ : h₂.Ns (ay.2.1.1.2.2) m' := hn'.at' fun o e => hk₂ _ o (by simpa using Ne.symm hIC) e
  refine aT (hIo _ _ hst₂) ?_; intro oI heI
  refine aJ (ns_obj hn₂) ?_; intro oC heC hoC
  have N₃ : News (ay.1.1.2.1.1) (ay.1.1.2.1.2) h₂ (((ay.2.1.1.2.1), oI) :: ((ay.2.1.1.2.2), oC) :: nx) := fun p hp => by
   rcases List.mem_cons.mp hp with rfl | hp
   ·exact ⟨heI, Ne.symm hIL, hI₀⟩
   ·rcases List.mem_cons.mp hp with rfl | hp
    ·exact ⟨heC, hCL, hC₀⟩
    ·exact N₂ p hp
  refine wpAny_bind (hgo _ _ _ _ _ hst₂ ?_)
  have fin : ∀ s₃, COut (ay.1.1.2.1.1) (ay.1.1.2.1.2) (ay.1.1.2.2) (ay.1.1.1.2.2) (ay.2.1.1.2.1) oI (ay.2.1.1.2.2) ((ay.2.2.2.2) (i + 1)) s₃ → ∃ k', k' < (ay.2.1.2.1.1) + 1 - i ∧ ∃ h' tk i m' nx, s₃ = { (ay.1.1.1.2.2) with heap := h', toks := tk } ∧ i ≤ (ay.2.1.2.1.1) ∧ k' = (ay.2.1.2.1.1) + 1 - i ∧ (ay.2.1.2.2) i h' ∧ Fr (ay.1.1.2.1.1) (ay.1.1.2.1.2) h' (ay.1.1.2.2) ∧ h'.Ns (ay.2.1.1.2.2) m' ∧ News (ay.1.1.2.1.1) (ay.1.1.2.1.2) h' nx ∧ (∀ p ∈ nx, p.1 ≠ (ay.2.1.1.2.1) ∧ p.1 ≠ (ay.2.1.1.2.2)) ∧ (ay.2.2.2.2) i nx := by
   rintro s₃ ⟨h₄, tk₄, nx₄, oC₄, m₄, rfl, hoC₄, F₄, N₄, off₄, hJ₄⟩
   refine ⟨(ay.2.1.2.1.1) + 1 - (i + 1), by omega (config := {}), h₄, tk₄, i + 1, m₄, nx₄, rfl, hlt, rfl, ?_, F₄, hoC₄.ns (N₄ _ (.tail _ (.head _))).1, fun p hp => N₄ p (.tail _ (.tail _ hp)), off₄, hJ₄⟩
   refine W.frame _ _ _ hst₂ fun b hb o e => ?_
   rcases hfp b hb with rfl | ⟨ob, hob⟩
   ·rw [heI] at e; cases e
    exact (N₄ _ (.head _)).1
   ·have h1 := (N₂ _ (hsrc _ _ hJ' _ hob)).1
    rw [h1] at e; cases e
    exact (N₄ _ (.tail _ (.tail _ (hsrc _ _ hJ₄ _ hob)))).1
  refine wpAny_bind (wpAny_mono (turn i v nx oI oC m' h₂ tk₂ _ hlt hPv hJ' hoC F₂ N₃ off') (fun _ s₂ h₂' => wpAny_bind (wpAny_mono h₂' (fun ok s₃ h₃ => ?_) fun _ _ y => y)) fun _ _ y => y)
  cases ok with
  | false => exact wpAny_pure ⟨rfl, fin _ h₃⟩
  | true => exact wpAny_bind (wpAny_mono h₃ (fun _ s₄ h₄ => wpAny_pure ⟨rfl, fin _ h₄⟩) fun _ _ y => y)
 ·obtain rfl : i = (ay.2.1.2.1.1) := Nat.le_antisymm hi (Nat.not_lt.mp hlt)
  refine W.done _ _ _ hst' fun h₂ tk₂ hk₂ => ?_
  have hn₂ : h₂.Ns (ay.2.1.1.2.2) m' := hn'.at' fun o e => hk₂ _ o (by simpa using Ne.symm hIC) e
  refine aJ (ns_obj hn₂) ?_; intro oC heC hoC
  have N₂ : News (ay.1.1.2.1.1) (ay.1.1.2.1.2) h₂ nx := news_but N' hk₂ fun p hp => (off' p hp).1
  refine wpAny_pure (done nx oC m' h₂ tk₂ hJ' hoC (fr_but F' hk₂ hIL hI₀) (fun p hp => ?_) off')
  rcases List.mem_cons.mp hp with rfl | hp
  ·exact ⟨heC, hCL, hC₀⟩
  ·exact N₂ p hp
end n_loopJ
theorem loopJ {e : Expr} {depth : Nat} {target iter : Expr} {ifs : List Expr} {emit : Sem Unit} {acc : Value} {cenv : Env} {I C : Addr} {n : Nat} {P : Nat → Value → Prop} {St : Nat → Heap → Prop} {fp : List Addr} {src : List (Addr × Obj)} {R : Result → Shared → Prop} {m₂ : Str → Option Value} {news : List (Addr × Obj)}
  (hden : (model prog w).den (.compLoop e depth (.ref I) acc cenv) = (compTurn e depth (.ref I) acc cenv).onRaise (fun x => do noteFrame x cenv; theTreesLotGoes x))
  (hq : (Code.compLoop e depth (.ref I) acc cenv).quiet = true) (hund : A.under (.compLoop e depth (.ref I) acc cenv) = A)
  (hturn : compTurn e depth (.ref I) acc cenv = (do
   standAt iter.pos
   match ← pyNext (.ref I) with
   | none => pure (.done .next)
   | some v =>
    letOwnedTupleGo target (.ref I) v
    assign target cenv v
    let ok ← bh ifs cenv
    if ok then emit
    again (.compLoop e depth (.ref I) acc cenv)))
  (W : Walks prog w A I fp [I] n P St) (hIo : ∀ i h, St i h → ∃ o, h.get? I = some o) (hfp : ∀ b ∈ fp, b = I ∨ ∃ o, (b, o) ∈ src)
  (hgo : ∀ i v (s : Shared) (Q : Unit → Shared → Prop) (E' : Value → Shared → Prop), St i s.heap → Q () s → wpAny (model prog w) A (letOwnedTupleGo target (.ref I) v) Q E' s)
  (J : Nat → List (Addr × Obj) → Prop) (hsrc : ∀ i nx, J i nx → ∀ p ∈ src, p ∈ nx)
  (hIL : L ≠ I) (hI₀ : h₀.get? I = none) (hCL : C ≠ L) (hC₀ : h₀.get? C = none) (hIC : I ≠ C)
  (hst : St 0 s.heap) (F : Fr h₀ L s.heap m) (N : News h₀ L s.heap news) (off : ∀ p ∈ news, p.1 ≠ I ∧ p.1 ≠ C) (mC : s.heap.Ns C m₂) (hJ : J 0 news)
  (turn : ∀ i v nx oI oC m₂ h tk (E' : Value → Shared → Prop), i < n → P i v → J i nx → NsObj oC m₂ → Fr h₀ L h m → News h₀ L h ((I, oI) :: (C, oC) :: nx) → (∀ p ∈ nx, p.1 ≠ I ∧ p.1 ≠ C) →
   wpAny (model prog w) A (assign target cenv v) (fun _ s₂ => wpAny (model prog w) A (bh ifs cenv) (fun ok s₃ =>
    if ok = true then wpAny (model prog w) A emit (fun _ s₄ => COut h₀ L m s I oI C (J (i + 1)) s₄) E' s₃ else COut h₀ L m s I oI C (J (i + 1)) s₃) E' s₂) E' { s with heap := h, toks := tk })
  (done : ∀ nx oC m₂ h tk, J n nx → NsObj oC m₂ → Fr h₀ L h m → News h₀ L h ((C, oC) :: nx) → (∀ p ∈ nx, p.1 ≠ I ∧ p.1 ≠ C) → R (.ok .next) { s with heap := h, toks := tk }) :
  codeAny (model prog w) A (.compLoop e depth (.ref I) acc cenv) R s := @aO _ _ (u26 ic) n_loopJ.m_loopJ (((((prog, w), (A, s)), ((h₀, L), m)), (((e, depth), target), ((iter, ifs), emit))), ((((acc, cenv), (I, C)), ((n, P), St)), (((fp, src), R), ((m₂, news), J)))) hden hq hund hturn W hIo hfp hgo hsrc hIL hI₀ hCL hC₀ hIC hst F N off mC hJ turn done
end
section
variable {prog : Program} {w : World} {A : Around} {s : Shared} {h₀ : Heap} {L : Addr} {m : Str → Option Value} {env : Env}
theorem lc (elt target iter : Expr) (ifs : List Expr) (scope : Scope) (pos : Pos) (it acc : Value) (env : Env) :
  compTurn (.ListComp elt [⟨target, iter, ifs, 0⟩] scope pos) 0 it acc env = (do
   standAt iter.pos
   match ← pyNext it with
   | none => pure (.done .next)
   | some v =>
    letOwnedTupleGo target it v
    assign target env v
    let ok ← bh ifs env
    if ok then (do let _ ← call (.builtin "list.append") [acc, ← eval elt env])
    again (.compLoop (.ListComp elt [⟨target, iter, ifs, 0⟩] scope pos) 0 it acc env)) := by rfl
inductive LOutI (h₀ : Heap) (L : Addr) (m : Str → Option Value) (gS : Array GenState) (dS : Drawn) (oS : OsState) (I : Addr) (oI : Obj) (C D : Addr) (ys : List Value) (J : List (Addr × Obj) → Prop) (s₃ : Shared) : Prop where
 | mk : ∀ h' tk' nx' oC' m₂', (s₃ = ⟨h', gS, dS, tk', oS⟩) → (NsObj oC' m₂') → (Fr h₀ L h' m) → (News h₀ L h' ((I, oI) :: (C, oC') :: (D, lst ys) :: nx')) → (Off3 I C D nx') → (J nx') → LOutI h₀ L m gS dS oS I oI C D ys J s₃
noncomputable def LOut (h₀ : Heap) (L : Addr) (m : Str → Option Value) (s : Shared) (I : Addr) (oI : Obj) (C D : Addr) (ys : List Value) (J : List (Addr × Obj) → Prop) (s₃ : Shared) : Prop := LOutI h₀ L m s.gens s.drawn s.os I oI C D ys J s₃
noncomputable def ey (prog : Program) (w : World) (A : Around) (s : Shared) (h₀ : Heap) (L : Addr) (m : Str → Option Value) (env : Env) (elt : Expr) (target : Expr) (iter : Expr) (ifs : List Expr) (scope : Scope) (cl : List (Prod Str Addr)) (pos : Pos) (I : Addr) (fp : List Addr) (src : List (Prod Addr Obj)) (n : Nat) (P : Nat → Value → Prop) (St : Nat → Heap → Prop) (news : List (Prod Addr Obj)) (E : Value → Shared → Prop) (RR : Value → Addr → Result → Shared → Prop) (J : Nat → List Value → List (Prod Addr Obj) → Prop) : Prop := ∀ (W : Walks prog w A I fp [I] n P St) (hIo : ∀ i h, St i h → ∃ o, h.get? I = some o) (hfp : ∀ b ∈ fp, b = I ∨ ∃ o, (b, o) ∈ src) (hlt : ∀ b ∈ fp, b < s.heap.objs.size) (hgo : ∀ i v (s : Shared) (Q : Unit → Shared → Prop) (E' : Value → Shared → Prop), St i s.heap → Q () s → wpAny (model prog w) A (letOwnedTupleGo target (.ref I) v) Q E' s) (hcell : ∀ y ∈ scope.names, y.2 ≠ .cell) (hkind : scope.kind = .function) (hst : St 0 s.heap) (F : Fr h₀ L s.heap m) (N : News h₀ L s.heap news) (hIL : L ≠ I) (hI₀ : h₀.get? I = none) (off : ∀ p ∈ news, p.1 ≠ I) (hsz : n ≤ sizeLine) (hsrc : ∀ i ys nx, J i ys nx → ∀ p ∈ src, p ∈ nx) (hJ : J 0 [] news) (turn : ∀ i v ys nx oI C oC D m₂ h tk (E' : Value → Shared → Prop), i < n → P i v → J i ys nx → NsObj oC m₂ → Fr h₀ L h m → News h₀ L h ((I, oI) :: (C, oC) :: (D, lst ys) :: nx) → Off3 I C D nx → ((@Ne Nat I C) ∧ (@Ne Nat I D) ∧ (@Ne Nat C D)) →
   wpAny (model prog w) A (assign target (compEnvC scope cl C env) v) (fun _ s₂ => wpAny (model prog w) A (bh ifs (compEnvC scope cl C env)) (fun ok s₃ =>
    if ok = true then wpAny (model prog w) A (eval elt (compEnvC scope cl C env)) (fun y s₄ => LOut h₀ L m s I oI C D ys (J (i + 1) (ys ++ [y])) s₄) E' s₃ else LOut h₀ L m s I oI C D ys (J (i + 1) ys) s₃) E' s₂) E' { s with heap := h, toks := tk }) (done : ∀ D C oC m₂ ys nx h tk, J n ys nx → NsObj oC m₂ → Fr h₀ L h m → News h₀ L h ((C, oC) :: (D, lst ys) :: nx) → (∀ p ∈ (D, lst ys) :: nx, p.1 ≠ C) → (∀ p ∈ nx, p.1 ≠ D) → RR (.ref D) C (.ok .next) { s with heap := h, toks := tk }), wpAny (model prog w) A (newList []) (fun acc s₃ => wpAny (model prog w) A (newFunctionEnv scope env.globals cl [] env.qual none .none (some env)) (fun cenv s₄ =>
   codeAny (model prog w) A (.compStart (.ListComp elt [⟨target, iter, ifs, 0⟩] scope pos) 0 (.ref I) acc { cenv with scope := relabel scope env }) (RR acc cenv.locals) s₄) E s₃) E s
noncomputable def ax : ((((Program × World) × Around × Shared) × (Heap × Addr) × (Str → Option Value)) × ((Env × Expr) × Expr) × (Expr × (List Expr)) × Scope) × ((((List (Prod Str Addr)) × Pos) × Addr) × ((List Addr) × (List (Prod Addr Obj))) × Nat) × (((Nat → Value → Prop) × (Nat → Heap → Prop)) × (List (Prod Addr Obj))) × ((Value → Shared → Prop) × (Value → Addr → Result → Shared → Prop)) × (Nat → List Value → List (Prod Addr Obj) → Prop) := @Classical.epsilon _ (by have := neW; have := neA; have := neS; infer_instance) fun x => ¬ u25 ey x
theorem ml : u25 ey ax := by
 intro W hIo hfp hlt hgo hcell hkind hst F N hIL hI₀ off hsz hsrc hJ turn done
 refine wpAny_newObj_type (wpAny_newFunctionEnv hcell (by intro y hy; simp at hy) (fun h₁ hns₁ hsb₁ => ?_) hkind)
 dsimp only at hns₁ hsb₁ ⊢
 generalize hH2 : (ax.1.1.1.2.2).heap.push { cls := .type "list", dict := none, data := .seq ([] : List Value).toArray } = H2 at hns₁ hsb₁ ⊢
 have hC : H2.objs.size = (ax.1.1.1.2.2).heap.objs.size + 1 := by rw [← hH2, Heap.size_push]
 have hDC : (ax.1.1.1.2.2).heap.objs.size ≠ H2.objs.size := by rw [hC]; exact Nat.ne_of_lt (Nat.lt_succ_self _)
 have below : ∀ b, b < (ax.1.1.1.2.2).heap.objs.size → b ≠ H2.objs.size ∧ b ≠ (ax.1.1.1.2.2).heap.objs.size := fun b hb => ⟨by rw [hC]; exact Nat.ne_of_lt (Nat.lt_succ_of_lt hb), Nat.ne_of_lt hb⟩
 have hIf : (ax.2.1.1.2) ∈ (ax.2.1.2.1.1) := W.sub (ax.2.1.1.2) (List.mem_singleton.mpr rfl)
 have hIlt : (ax.2.1.1.2) < (ax.1.1.1.2.2).heap.objs.size := hlt (ax.2.1.1.2) hIf
 have old : ∀ b o, (ax.1.1.1.2.2).heap.get? b = some o → h₁.get? b = some o := fun b o e => hsb₁.extBut b o (below b (Heap.lt_size e)).1 (Heap.get?_push_of_some _ (hH2 ▸ Heap.get?_push_of_some _ e))
 have hacc : h₁.get? (ax.1.1.1.2.2).heap.objs.size = some (lst []) := hsb₁.extBut _ _ hDC (Heap.get?_push_of_some _ (hH2 ▸ Heap.get?_push_size _ rfl))
 have hst₁ : (ax.2.2.1.1.2) 0 h₁ := W.frame _ _ _ hst fun b _ o e => old b o e
 have fresh : ∀ a, (ax.1.1.1.2.2).heap.objs.size ≤ a → (ax.1.1.1.2.2).heap.get? a = none := fun a ha => by
  cases e : (ax.1.1.1.2.2).heap.get? a with
  | none => rfl
  | some o' => exact absurd (Heap.lt_size e) (Nat.not_lt.mpr ha)
 have fresh₀ : ∀ a, (ax.1.1.1.2.2).heap.objs.size ≤ a → (ax.1.1.2.1.1).get? a = none := fun a ha => by
  cases e : (ax.1.1.2.1.1).get? a with
  | none => rfl
  | some o' => have := F.keep a o' e; rw [fresh a ha] at this; cases this
 have hD₀ : (ax.1.1.2.1.1).get? (ax.1.1.1.2.2).heap.objs.size = none := fresh₀ _ (Nat.le_refl _)
 have hC₀ : (ax.1.1.2.1.1).get? H2.objs.size = none := fresh₀ _ (by rw [hC]; exact Nat.le_succ _)
 have hLlt : (ax.1.1.2.1.2) < (ax.1.1.1.2.2).heap.objs.size := F.ns.lt
 have hDL : (ax.1.1.1.2.2).heap.objs.size ≠ (ax.1.1.2.1.2) := Ne.symm (below (ax.1.1.2.1.2) hLlt).2
 have hCL : H2.objs.size ≠ (ax.1.1.2.1.2) := Ne.symm (below (ax.1.1.2.1.2) hLlt).1
 have hCI : (ax.2.1.1.2) ≠ H2.objs.size := (below (ax.2.1.1.2) hIlt).1
 have hDI : (ax.2.1.1.2) ≠ (ax.1.1.1.2.2).heap.objs.size := (below (ax.2.1.1.2) hIlt).2
 have ltN : ∀ p ∈ (ax.2.2.1.2), p.1 < (ax.1.1.1.2.2).heap.objs.size := fun p hp => Heap.lt_size (N p hp).1
 generalize hDd : (ax.1.1.1.2.2).heap.objs.size = D at *
 generalize hCd : H2.objs.size = C at *
 have loop : ∀ s₃ : Shared, s₃ = { (ax.1.1.1.2.2) with heap := h₁, toks := (ax.1.1.1.2.2).toks + ([] : List (Str × Value)).length } →
   codeAny (model (ax.1.1.1.1.1) (ax.1.1.1.1.2)) (ax.1.1.1.2.1) (.compLoop (.ListComp (ax.1.2.1.1.2) [⟨(ax.1.2.1.2), (ax.1.2.2.1.1), (ax.1.2.2.1.2), 0⟩] (ax.1.2.2.2) (ax.2.1.1.1.2)) 0 (.ref (ax.2.1.1.2)) (.ref D) (compEnvC (ax.1.2.2.2) (ax.2.1.1.1.1) C (ax.1.2.1.1.1)))
    ((ax.2.2.2.1.2) (.ref D) C) s₃ := by
  rintro s₃ rfl
  refine loopJ (h₀ := (ax.1.1.2.1.1)) (L := (ax.1.1.2.1.2)) (m := (ax.1.1.2.2)) (C := C) (src := (ax.2.1.2.1.2)) (news := (D, lst []) :: (ax.2.2.1.2)) rfl rfl rfl (lc (ax.1.2.1.1.2) (ax.1.2.1.2) (ax.1.2.2.1.1) (ax.1.2.2.1.2) (ax.1.2.2.2) (ax.2.1.1.1.2) (.ref (ax.2.1.1.2)) (.ref D) (compEnvC (ax.1.2.2.2) (ax.2.1.1.1.1) C (ax.1.2.1.1.1))) W hIo hfp hgo
   (fun i nx => ∃ ys nx', nx = (D, lst ys) :: nx' ∧ ys.length ≤ i ∧ (∀ p ∈ nx', p.1 ≠ D) ∧ (ax.2.2.2.2) i ys nx') ?_ hIL hI₀ hCL hC₀ hCI hst₁ (F.keeps old) ?_ ?_ hns₁ ⟨[], (ax.2.2.1.2), rfl, Nat.le_refl _, fun p hp => Nat.ne_of_lt (ltN p hp), hJ⟩ ?_ ?_
  ·rintro i nx ⟨ys, nx', rfl, _, _, hj⟩ p hp
   exact .tail _ (hsrc i ys nx' hj p hp)
  ·intro p hp
   rcases List.mem_cons.mp hp with rfl | hp
   ·exact ⟨hacc, hDL, hD₀⟩
   ·exact ⟨old _ _ (N p hp).1, (N p hp).2⟩
  ·intro p hp
   rcases List.mem_cons.mp hp with rfl | hp
   ·exact ⟨Ne.symm hDI, hDC⟩
   ·exact ⟨off p hp, (below _ (ltN p hp)).1⟩
  ·rintro i v nx oI oC m₃ h tk E' hi hP ⟨ys, nx', rfl, hyl, hoD, hj⟩ hoC F' N' off'
   refine wpAny_mono (turn i v ys nx' oI C oC D m₃ h tk E' hi hP hj hoC F' N' (Off3.of fun p hp => ⟨(off' p (.tail _ hp)).1, (off' p (.tail _ hp)).2, hoD p hp⟩) ⟨hCI, hDI, Ne.symm hDC⟩) (fun _ s₂ h₂ => wpAny_mono h₂ (fun ok s₃ h₃ => ?_) fun _ _ y => y) fun _ _ y => y
   cases ok with
   | false =>
    obtain ⟨h₄, tk₄, nx₄, oC₄, m₄, rfl, a1, a2, a3, a4, a5⟩ := h₃
    refine ⟨h₄, tk₄, (D, lst ys) :: nx₄, oC₄, m₄, rfl, a1, a2, a3, ?_, ys, nx₄, rfl, Nat.le_succ_of_le hyl, fun p hp => (a4.mem p hp).2.2, a5⟩
    intro p hp
    rcases List.mem_cons.mp hp with rfl | hp
    ·exact ⟨Ne.symm hDI, hDC⟩
    ·exact ⟨(a4.mem p hp).1, (a4.mem p hp).2.1⟩
   | true =>
    refine wpAny_bind (wpAny_mono h₃ (fun y s₄ h₄ => ?_) fun _ _ y => y)
    obtain ⟨h₄, tk₄, nx₄, oC₄, m₄, rfl, a1, a2, a3, a4, a5⟩ := h₄
    have zD := (a3 _ (.tail _ (.tail _ (.head _)))).1
    refine wpAny_bind (append_at (hsz := by show ys.toArray.size ≤ sizeLine; rw [List.size_toArray]; omega) zD fun h₅ hs₅ hD₅ => wpAny_pure ?_)
    have a4' := a4.mem
    refine ⟨h₅, tk₄, (D, lst (ys ++ [y])) :: nx₄, oC₄, m₄, rfl, a1, a2.change hs₅ hDL hD₀, ?_, ?_, ys ++ [y], nx₄, rfl, by rw [List.length_append, List.length_singleton]; omega, fun p hp => (a4' p hp).2.2, a5⟩
    ·intro p hp
     rcases List.mem_cons.mp hp with rfl | hp
     ·exact ⟨hs₅.extBut _ _ hDI (a3 _ (.head _)).1, (a3 _ (.head _)).2⟩
     ·rcases List.mem_cons.mp hp with rfl | hp
      ·exact ⟨hs₅.extBut _ _ (Ne.symm hDC) (a3 _ (.tail _ (.head _))).1, (a3 _ (.tail _ (.head _))).2⟩
      ·rcases List.mem_cons.mp hp with rfl | hp
       ·exact ⟨hD₅.trans (congrArg some (lst_snoc ys y)), hDL, hD₀⟩
       ·have z := a3 p (.tail _ (.tail _ (.tail _ hp)))
        exact ⟨hs₅.extBut _ _ (a4' p hp).2.2 z.1, z.2⟩
    ·intro p hp
     rcases List.mem_cons.mp hp with rfl | hp
     ·exact ⟨Ne.symm hDI, hDC⟩
     ·exact ⟨(a4' p hp).1, (a4' p hp).2.1⟩
  ·rintro nx oC m₃ h tk ⟨ys, nx', rfl, hyl, hoD, hj⟩ hoC F' N' off'
   exact done D C oC m₃ ys nx' h tk hj hoC F' N' (fun p hp => (off' p hp).2) hoD
 exact codeAny_compStart_list (loop _ rfl) (W.self 0 _ _ _ hst₁ (loop _ rfl))
theorem lcBlock {elt target iter : Expr} {ifs : List Expr} {scope : Scope} {cl : List (Str × Addr)} {pos : Pos} {I : Addr} {fp : List Addr} {src : List (Addr × Obj)} {n : Nat} {P : Nat → Value → Prop} {St : Nat → Heap → Prop} {news : List (Addr × Obj)} {E : Value → Shared → Prop} {RR : Value → Addr → Result → Shared → Prop}
  (W : Walks prog w A I fp [I] n P St) (hIo : ∀ i h, St i h → ∃ o, h.get? I = some o) (hfp : ∀ b ∈ fp, b = I ∨ ∃ o, (b, o) ∈ src) (hlt : ∀ b ∈ fp, b < s.heap.objs.size)
  (hgo : ∀ i v (s : Shared) (Q : Unit → Shared → Prop) (E' : Value → Shared → Prop), St i s.heap → Q () s → wpAny (model prog w) A (letOwnedTupleGo target (.ref I) v) Q E' s)
  (hcell : ∀ y ∈ scope.names, y.2 ≠ .cell) (hkind : scope.kind = .function) (hst : St 0 s.heap)
  (F : Fr h₀ L s.heap m) (N : News h₀ L s.heap news) (hIL : L ≠ I) (hI₀ : h₀.get? I = none) (off : ∀ p ∈ news, p.1 ≠ I) (hsz : n ≤ sizeLine)
  (J : Nat → List Value → List (Addr × Obj) → Prop) (hsrc : ∀ i ys nx, J i ys nx → ∀ p ∈ src, p ∈ nx) (hJ : J 0 [] news)
  (turn : ∀ i v ys nx oI C oC D m₂ h tk (E' : Value → Shared → Prop), i < n → P i v → J i ys nx → NsObj oC m₂ → Fr h₀ L h m → News h₀ L h ((I, oI) :: (C, oC) :: (D, lst ys) :: nx) → Off3 I C D nx → ((@Ne Nat I C) ∧ (@Ne Nat I D) ∧ (@Ne Nat C D)) →
   wpAny (model prog w) A (assign target (compEnvC scope cl C env) v) (fun _ s₂ => wpAny (model prog w) A (bh ifs (compEnvC scope cl C env)) (fun ok s₃ =>
    if ok = true then wpAny (model prog w) A (eval elt (compEnvC scope cl C env)) (fun y s₄ => LOut h₀ L m s I oI C D ys (J (i + 1) (ys ++ [y])) s₄) E' s₃ else LOut h₀ L m s I oI C D ys (J (i + 1) ys) s₃) E' s₂) E' { s with heap := h, toks := tk })
  (done : ∀ D C oC m₂ ys nx h tk, J n ys nx → NsObj oC m₂ → Fr h₀ L h m → News h₀ L h ((C, oC) :: (D, lst ys) :: nx) → (∀ p ∈ (D, lst ys) :: nx, p.1 ≠ C) → (∀ p ∈ nx, p.1 ≠ D) → RR (.ref D) C (.ok .next) { s with heap := h, toks := tk }) :
  wpAny (model prog w) A (newList []) (fun acc s₃ => wpAny (model prog w) A (newFunctionEnv scope env.globals cl [] env.qual none .none (some env)) (fun cenv s₄ =>
   codeAny (model prog w) A (.compStart (.ListComp elt [⟨target, iter, ifs, 0⟩] scope pos) 0 (.ref I) acc { cenv with scope := relabel scope env }) (RR acc cenv.locals) s₄) E s₃) E s := @aO _ _ (u25 ey) ml (((((prog, w), (A, s)), ((h₀, L), m)), (((env, elt), target), ((iter, ifs), scope))), ((((cl, pos), I), ((fp, src), n)), (((P, St), news), ((E, RR), J)))) W hIo hfp hlt hgo hcell hkind hst F N hIL hI₀ off hsz hsrc hJ turn done
end
end
section
open PySem PySem.W PyProof.Rows PySem.Calls PySem.Spec
section
open Sre
noncomputable def sh (T : Array Nat) (n last : Nat) (m : M) : M := { m with text := T, lim := n, lastStart := last }
noncomputable def safe (P : Array Nat) (m : M) : Bool :=
 m.outcome.isSome || (m.text == P && m.lim == P.size &&
 match m.answer, m.frames with
 | some _, [] => true
 | some yes, f :: _ => match f.wait with
  | .nextStart => yes
  | .giveBack | .closeLoop | .maxBelow | .maxMore | .maxTail => true
  | _ => false
 | none, _ => decide (m.pc < m.code.size) && match ops[m.word 0]? with
  | some .SUCCESS => !m.wholeText
  | some .ANY | some .LITERAL | some .NOT_LITERAL | some .IN => decide (m.pos < m.lim)
  | some .AT => m.word 1 == 0
  | some .MARK | some .REPEAT | some .MAX_UNTIL | some .INFO => true
  | some .REPEAT_ONE => m.word 3 == 4294967295 && decide (m.pos ≤ m.lim) && decide (m.word 2 ≤ m.lim - m.pos) && match Sre.run m.code m.text (m.pc + 4) (m.lim - m.pos) m.pos 0 ((m.seen.add (m.word 0)).add (m.word 4)) with
   | .ok (k, _) => decide (m.pos + k < m.lim)
   | .error _ => false
  | _ => false)
theorem fv {code P T : Array Nat} {i : Nat} (hA : ∀ p, p < P.size → T.getD p 0 = P.getD p 0) : ∀ (r r' p found : Nat) (seen : Sre.Seen) (k : Nat) (seen' : Sre.Seen), r = P.size - p → r ≤ r' → p ≤ P.size → Sre.run code P i r p found seen = .ok (found + k, seen') → p + k < P.size → Sre.run code T i r' p found seen = .ok (found + k, seen')
 | 0, r', p, found, seen, k, seen', hr, _, hp, _, hk => by omega
 | r + 1, 0, p, found, seen, k, seen', hr, hrr, hp, h, hk => by omega
 | r + 1, r' + 1, p, found, seen, k, seen', hr, hrr, hp, h, hk => by
  have hpl : p < P.size := by omega
  rw [Sre.run] at h ⊢
  rw [hA p hpl]
  cases hx : accepts code i (P.getD p 0) seen with
  | error e => rw [hx] at h; cases h
  | ok ys =>
   obtain ⟨yes, seen1⟩ := ys
   rw [hx] at h
   cases yes with
   | false => exact h
   | true =>
    have h' : Sre.run code P i r (p + 1) (found + 1) seen1 = .ok (found + k, seen') := h
    show Sre.run code T i r' (p + 1) (found + 1) seen1 = _
    cases k with
    | zero =>
     have : ∀ (r p f : Nat) (s : Sre.Seen) (x : Nat) (s' : Sre.Seen), Sre.run code P i r p f s = .ok (x, s') → f ≤ x := by
      intro r
      induction r with
      | zero => intro p f s x s' h; cases h; exact Nat.le_refl _
      | succ r ih =>
       intro p f s x s' h
       rw [Sre.run] at h
       cases hx : accepts code i (P.getD p 0) s with
       | error e => rw [hx] at h; cases h
       | ok ys =>
        obtain ⟨yes, s1⟩ := ys
        rw [hx] at h
        cases yes with
        | false => cases h; exact Nat.le_refl _
        | true =>
         have := ih (p + 1) (f + 1) s1 x s' h
         omega
     have := this _ _ _ _ _ _ h'
     omega
    | succ k =>
     have e : found + (k + 1) = found + 1 + k := by omega
     rw [e] at h' ⊢
     exact fv hA r r' (p + 1) (found + 1) seen1 k seen' (by omega) (by omega) (by omega) h' (by omega)
theorem cc (T : Array Nat) (n last : Nat) (m : M) (f : Sre.Frame) (t p : Nat) (o : Bool) : (sh T n last m).attempt f t p o = sh T n last (m.attempt f t p o) := by
 show (if m.weight + 1 + f.kept.marks.size > 16777216 then _ else _) = sh T n last (if m.weight + 1 + f.kept.marks.size > 16777216 then _ else _)
 by_cases h : m.weight + 1 + f.kept.marks.size > 16777216
 ·rw [if_pos h, if_pos h]; rfl
 ·rw [if_neg h, if_neg h]; rfl
theorem eQ (T : Array Nat) (n last : Nat) (m : M) (w : Wait) (c : Int) (k : Sre.Kept) : (sh T n last m).afterRun w c k = sh T n last (m.afterRun w c k) := cc T n last m _ _ _ _
theorem cF (T : Array Nat) (n last : Nat) (m : M) (w : Wait) (i : Nat) (c : Int) (wh : Option Nat → Bool) : (sh T n last m).afterLoop w i c wh = sh T n last (m.afterLoop w i c wh) := cc T n last { m with inner := (m.loopAt i).outer } _ _ _ _
theorem iI (T : Array Nat) (n last : Nat) (m : M) (w : Wait) (i : Nat) (c : Int) (g : Bool) (k : Sre.Kept) : (sh T n last m).round w i c g k = sh T n last (m.round w i c g k) := cc T n last (m.setLoop i fun l => { l with count := c, began := if g then some m.pos else l.began }) _ _ _ _
theorem lU {T : Array Nat} {n last : Nat} (m : M) (f : Sre.Frame) (yes : Bool) (h : (match f.wait with
  | .nextStart => yes
  | .giveBack | .closeLoop | .maxBelow | .maxMore | .maxTail => true
  | _ => false) = true) : (sh T n last m).resume f yes = sh T n last (m.resume f yes) := by
 obtain ⟨wait, fpc, fpos, fo, fc, fk, fl, fb⟩ := f
 cases wait
 case nextStart =>
  have h : yes = true := h
  subst h; rfl
 case giveBack =>
  cases yes with
  | true => rfl
  | false =>
   show (if fc - 1 < m.word 2 then _ else _) = sh T n last (if fc - 1 < m.word 2 then _ else _)
   by_cases h1 : fc - 1 < m.word 2
   ·rw [if_pos h1, if_pos h1]; rfl
   ·rw [if_neg h1, if_neg h1]; exact eQ T n last { m.putBack fk with pos := fpos - 1 } _ _ _
 case closeLoop => rfl
 case maxBelow => cases yes <;> rfl
 case maxMore =>
  cases yes with
  | true => rfl
  | false => exact cF T n last (((m.setLoop fl fun l => { l with began := fb }).putBack fk).setLoop fl fun l => { l with count := fc - 1 }) .maxTail fl fc (fun _ => false)
 case maxTail => rfl
 all_goals exact Bool.noConfusion (show false = true from h)
theorem until_sh {T : Array Nat} {n last : Nat} (m : M) : (sh T n last m).until_ true = sh T n last (m.until_ true) := by
 cases hi : m.inner with
 | none =>
  have hi' : (sh T n last m).inner = none := hi
  unfold M.until_
  rw [hi, hi']
  rfl
 | some i =>
  have hi' : (sh T n last m).inner = some i := hi
  unfold M.until_
  rw [hi, hi']
  show (if (m.loopAt i).count + 1 < (m.code.getD ((m.loopAt i).pc + 2) 0 : Nat) then (sh T n last m).round _ _ _ _ _ else if _ then (sh T n last m).afterLoop _ _ _ _ else if _ then _ else _) = sh T n last (if (m.loopAt i).count + 1 < (m.code.getD ((m.loopAt i).pc + 2) 0 : Nat) then m.round _ _ _ _ _ else if _ then m.afterLoop _ _ _ _ else if _ then _ else _)
  split
  ·exact iI T n last m _ _ _ _ _
  ·split
   ·exact cF T n last m _ _ _ _
   ·have key : ∀ c : Bool, (if c = true then (sh T n last m).round .maxMore i ((m.loopAt i).count + 1) true (m.keep true) else (sh T n last m).afterLoop .maxTail i ((m.loopAt i).count + 1) fun _ => false) = sh T n last (if c = true then m.round .maxMore i ((m.loopAt i).count + 1) true (m.keep true) else m.afterLoop .maxTail i ((m.loopAt i).count + 1) fun _ => false) := by
     intro c
     cases c with
     | true => exact iI T n last m .maxMore i ((m.loopAt i).count + 1) true (m.keep true)
     | false => exact cF T n last m .maxTail i ((m.loopAt i).count + 1) (fun _ => false)
    exact key _
noncomputable def cY (P : Array Nat) (T : Array Nat) (n : Nat) (last : Nat) (m : Sre.M) : Prop := ∀ (hA : ∀ p, p < P.size → T.getD p 0 = P.getD p 0) (hn : P.size ≤ n) (hb : n < 4294967295) (hT : m.text = P) (hL : m.lim = P.size) (h : (match ops[m.word 0]? with
  | some .SUCCESS => !m.wholeText
  | some .ANY | some .LITERAL | some .NOT_LITERAL | some .IN => decide (m.pos < m.lim)
  | some .AT => m.word 1 == 0
  | some .MARK | some .REPEAT | some .MAX_UNTIL | some .INFO => true
  | some .REPEAT_ONE => m.word 3 == 4294967295 && decide (m.pos ≤ m.lim) && decide (m.word 2 ≤ m.lim - m.pos) && match Sre.run m.code m.text (m.pc + 4) (m.lim - m.pos) m.pos 0 ((m.seen.add (m.word 0)).add (m.word 4)) with
   | .ok (k, _) => decide (m.pos + k < m.lim)
   | .error _ => false
  | _ => false) = true), M.exec (sh T n last m) = sh T n last (M.exec m)
noncomputable def ab : (((Array Nat) × (Array Nat)) × Nat) × Nat × (Sre.M) := @Classical.epsilon _ (by have := neM; infer_instance) fun x => ¬ u5 cY x
theorem mo : u5 cY ab := by
 intro hA hn hb hT hL h
 have hw : ∀ k, (sh (ab.1.1.2) (ab.1.2) (ab.2.1) (ab.2.2)).word k = (ab.2.2).word k := fun _ => rfl
 unfold M.exec
 rw [hw 0]
 cases hop : ops[(ab.2.2).word 0]? with
 | none => rw [hop] at h; exact Bool.noConfusion (show false = true from h)
 | some op =>
  rw [hop] at h
  cases op
  case SUCCESS =>
   have h : (ab.2.2).wholeText = false := by simpa using h
   show (if (ab.2.2).outermost && (((ab.2.2).wholeText && (ab.2.2).pos != (ab.1.2)) || ((ab.2.2).mustAdvance && (ab.2.2).pos == (ab.2.2).start)) then _ else _) = sh (ab.1.1.2) (ab.1.2) (ab.2.1) (if (ab.2.2).outermost && (((ab.2.2).wholeText && (ab.2.2).pos != (ab.2.2).lim) || ((ab.2.2).mustAdvance && (ab.2.2).pos == (ab.2.2).start)) then _ else _)
   have hc : ((ab.2.2).outermost && (((ab.2.2).wholeText && (ab.2.2).pos != (ab.1.2)) || ((ab.2.2).mustAdvance && (ab.2.2).pos == (ab.2.2).start))) = ((ab.2.2).outermost && (((ab.2.2).wholeText && (ab.2.2).pos != (ab.2.2).lim) || ((ab.2.2).mustAdvance && (ab.2.2).pos == (ab.2.2).start))) := by rw [h]; rfl
   rw [hc]
   split <;> rfl
  case INFO => rfl
  case MARK => rfl
  case MAX_UNTIL => exact until_sh { (ab.2.2) with seen := (ab.2.2).seen.add ((ab.2.2).word 0), pc := (ab.2.2).pc + 1 }
  case REPEAT => exact cc (ab.1.1.2) (ab.1.2) (ab.2.1) { (ab.2.2) with seen := (ab.2.2).seen.add ((ab.2.2).word 0), loops := (ab.2.2).loops.push { pc := (ab.2.2).pc, outer := (ab.2.2).inner }, inner := some (ab.2.2).loops.size } _ _ _ _
  case AT =>
   have h : (ab.2.2).word 1 = 0 := by simpa using h
   show (match M.isAt (sh (ab.1.1.2) (ab.1.2) (ab.2.1) { (ab.2.2) with seen := (ab.2.2).seen.add ((ab.2.2).word 0) }) ((ab.2.2).word 1) with | .error why => _ | .ok yes => _) = sh (ab.1.1.2) (ab.1.2) (ab.2.1) (match M.isAt { (ab.2.2) with seen := (ab.2.2).seen.add ((ab.2.2).word 0) } ((ab.2.2).word 1) with | .error why => _ | .ok yes => _)
   rw [h]
   show (if (ab.2.2).pos == 0 then _ else _) = sh (ab.1.1.2) (ab.1.2) (ab.2.1) (if (ab.2.2).pos == 0 then _ else _)
   split <;> rfl
  case REPEAT_ONE =>
   dsimp only at h
   rw [Bool.and_eq_true, Bool.and_eq_true, Bool.and_eq_true] at h
   obtain ⟨⟨⟨h3, hp⟩, h2⟩, h⟩ := h
   have h3 : (ab.2.2).word 3 = 4294967295 := by simpa using h3
   have hp := of_decide_eq_true hp
   have h2 := of_decide_eq_true h2
   have r1 : ¬ (((ab.2.2).word 2 : Int) > ((ab.2.2).lim : Int) - (ab.2.2).pos) := by omega
   have r2 : ¬ (((ab.2.2).word 2 : Int) > ((ab.1.2) : Int) - (ab.2.2).pos) := by omega
   have t1 : min ((ab.2.2).word 3) (((ab.2.2).lim : Int) - (ab.2.2).pos).toNat = (ab.2.2).lim - (ab.2.2).pos := by rw [h3]; omega
   have t2 : min ((ab.2.2).word 3) (((ab.1.2) : Int) - (ab.2.2).pos).toNat = (ab.1.2) - (ab.2.2).pos := by rw [h3]; omega
   cases hx : Sre.run (ab.2.2).code (ab.2.2).text ((ab.2.2).pc + 4) ((ab.2.2).lim - (ab.2.2).pos) (ab.2.2).pos 0 (((ab.2.2).seen.add ((ab.2.2).word 0)).add ((ab.2.2).word 4)) with
   | error e => rw [hx] at h; exact Bool.noConfusion (show false = true from h)
   | ok ks =>
    obtain ⟨k, sn⟩ := ks
    rw [hx] at h
    have h := of_decide_eq_true h
    have hy : Sre.run (ab.2.2).code (ab.1.1.2) ((ab.2.2).pc + 4) ((ab.1.2) - (ab.2.2).pos) (ab.2.2).pos 0 (((ab.2.2).seen.add ((ab.2.2).word 0)).add ((ab.2.2).word 4)) = .ok (k, sn) := by
     have := fv (code := (ab.2.2).code) (P := (ab.1.1.1)) (T := (ab.1.1.2)) (i := (ab.2.2).pc + 4) hA ((ab.2.2).lim - (ab.2.2).pos) ((ab.1.2) - (ab.2.2).pos) (ab.2.2).pos 0 (((ab.2.2).seen.add ((ab.2.2).word 0)).add ((ab.2.2).word 4)) k sn (by rw [hL]) (by omega) (by omega) (by rw [← hT, hx, Nat.zero_add]) (by omega)
     rwa [Nat.zero_add] at this
    show (if ((ab.2.2).word 2 : Int) > ((ab.1.2) : Int) - (ab.2.2).pos then _ else match Sre.run (ab.2.2).code (ab.1.1.2) ((ab.2.2).pc + 4) (min ((ab.2.2).word 3) (((ab.1.2) : Int) - (ab.2.2).pos).toNat) (ab.2.2).pos 0 (((ab.2.2).seen.add ((ab.2.2).word 0)).add ((ab.2.2).word 4)) with | .error why => _ | .ok (k, seen) => _) = sh (ab.1.1.2) (ab.1.2) (ab.2.1) (if ((ab.2.2).word 2 : Int) > ((ab.2.2).lim : Int) - (ab.2.2).pos then _ else match Sre.run (ab.2.2).code (ab.2.2).text ((ab.2.2).pc + 4) (min ((ab.2.2).word 3) (((ab.2.2).lim : Int) - (ab.2.2).pos).toNat) (ab.2.2).pos 0 (((ab.2.2).seen.add ((ab.2.2).word 0)).add ((ab.2.2).word 4)) with | .error why => _ | .ok (k, seen) => _)
    rw [if_neg r1, if_neg r2, t1, t2, hx, hy]
    show (if k < (ab.2.2).word 2 then _ else _) = sh (ab.1.1.2) (ab.1.2) (ab.2.1) (if k < (ab.2.2).word 2 then _ else _)
    split
    ·rfl
    ·exact eQ (ab.1.1.2) (ab.1.2) (ab.2.1) { (ab.2.2) with seen := sn, pos := (ab.2.2).pos + k } .giveBack k ((ab.2.2).keep (ab.2.2).inner.isSome)
  case ANY =>
   have h := of_decide_eq_true h
   have h1 : ¬ ((ab.2.2).pos ≥ (ab.2.2).lim) := by omega
   have h2 : ¬ ((ab.2.2).pos ≥ (ab.1.2)) := by omega
   have hc : (ab.1.1.2).getD (ab.2.2).pos 0 = (ab.2.2).text.getD (ab.2.2).pos 0 := by rw [hT]; exact hA _ (by omega)
   show (if (ab.2.2).pos ≥ (ab.1.2) then _ else match accepts (ab.2.2).code (ab.2.2).pc ((ab.1.1.2).getD (ab.2.2).pos 0) ((ab.2.2).seen.add ((ab.2.2).word 0)) with | .error why => _ | .ok (false, seen) => _ | .ok (true, seen) => _) = sh (ab.1.1.2) (ab.1.2) (ab.2.1) (if (ab.2.2).pos ≥ (ab.2.2).lim then _ else match accepts (ab.2.2).code (ab.2.2).pc ((ab.2.2).text.getD (ab.2.2).pos 0) ((ab.2.2).seen.add ((ab.2.2).word 0)) with | .error why => _ | .ok (false, seen) => _ | .ok (true, seen) => _)
   rw [if_neg h1, if_neg h2, hc]
   cases hx : accepts (ab.2.2).code (ab.2.2).pc ((ab.2.2).text.getD (ab.2.2).pos 0) ((ab.2.2).seen.add ((ab.2.2).word 0)) with
   | error e => rfl
   | ok ys => obtain ⟨y, sn⟩ := ys; cases y <;> rfl
  case LITERAL =>
   have h := of_decide_eq_true h
   have h1 : ¬ ((ab.2.2).pos ≥ (ab.2.2).lim) := by omega
   have h2 : ¬ ((ab.2.2).pos ≥ (ab.1.2)) := by omega
   have hc : (ab.1.1.2).getD (ab.2.2).pos 0 = (ab.2.2).text.getD (ab.2.2).pos 0 := by rw [hT]; exact hA _ (by omega)
   show (if (ab.2.2).pos ≥ (ab.1.2) then _ else match accepts (ab.2.2).code (ab.2.2).pc ((ab.1.1.2).getD (ab.2.2).pos 0) ((ab.2.2).seen.add ((ab.2.2).word 0)) with | .error why => _ | .ok (false, seen) => _ | .ok (true, seen) => _) = sh (ab.1.1.2) (ab.1.2) (ab.2.1) (if (ab.2.2).pos ≥ (ab.2.2).lim then _ else match accepts (ab.2.2).code (ab.2.2).pc ((ab.2.2).text.getD (ab.2.2).pos 0) ((ab.2.2).seen.add ((ab.2.2).word 0)) with | .error why => _ | .ok (false, seen) => _ | .ok (true, seen) => _)
   rw [if_neg h1, if_neg h2, hc]
   cases hx : accepts (ab.2.2).code (ab.2.2).pc ((ab.2.2).text.getD (ab.2.2).pos 0) ((ab.2.2).seen.add ((ab.2.2).word 0)) with
   | error e => rfl
   | ok ys => obtain ⟨y, sn⟩ := ys; cases y <;> rfl
  case NOT_LITERAL =>
   have h := of_decide_eq_true h
   have h1 : ¬ ((ab.2.2).pos ≥ (ab.2.2).lim) := by omega
   have h2 : ¬ ((ab.2.2).pos ≥ (ab.1.2)) := by omega
   have hc : (ab.1.1.2).getD (ab.2.2).pos 0 = (ab.2.2).text.getD (ab.2.2).pos 0 := by rw [hT]; exact hA _ (by omega)
   show (if (ab.2.2).pos ≥ (ab.1.2) then _ else match accepts (ab.2.2).code (ab.2.2).pc ((ab.1.1.2).getD (ab.2.2).pos 0) ((ab.2.2).seen.add ((ab.2.2).word 0)) with | .error why => _ | .ok (false, seen) => _ | .ok (true, seen) => _) = sh (ab.1.1.2) (ab.1.2) (ab.2.1) (if (ab.2.2).pos ≥ (ab.2.2).lim then _ else match accepts (ab.2.2).code (ab.2.2).pc ((ab.2.2).text.getD (ab.2.2).pos 0) ((ab.2.2).seen.add ((ab.2.2).word 0)) with | .error why => _ | .ok (false, seen) => _ | .ok (true, seen) => _)
   rw [if_neg h1, if_neg h2, hc]
   cases hx : accepts (ab.2.2).code (ab.2.2).pc ((ab.2.2).text.getD (ab.2.2).pos 0) ((ab.2.2).seen.add ((ab.2.2).word 0)) with
   | error e => rfl
   | ok ys => obtain ⟨y, sn⟩ := ys; cases y <;> rfl
  case IN =>
   have h := of_decide_eq_true h
   have h1 : ¬ ((ab.2.2).pos ≥ (ab.2.2).lim) := by omega
   have h2 : ¬ ((ab.2.2).pos ≥ (ab.1.2)) := by omega
   have hc : (ab.1.1.2).getD (ab.2.2).pos 0 = (ab.2.2).text.getD (ab.2.2).pos 0 := by rw [hT]; exact hA _ (by omega)
   show (if (ab.2.2).pos ≥ (ab.1.2) then _ else match accepts (ab.2.2).code (ab.2.2).pc ((ab.1.1.2).getD (ab.2.2).pos 0) ((ab.2.2).seen.add ((ab.2.2).word 0)) with | .error why => _ | .ok (false, seen) => _ | .ok (true, seen) => _) = sh (ab.1.1.2) (ab.1.2) (ab.2.1) (if (ab.2.2).pos ≥ (ab.2.2).lim then _ else match accepts (ab.2.2).code (ab.2.2).pc ((ab.2.2).text.getD (ab.2.2).pos 0) ((ab.2.2).seen.add ((ab.2.2).word 0)) with | .error why => _ | .ok (false, seen) => _ | .ok (true, seen) => _)
   rw [if_neg h1, if_neg h2, hc]
   cases hx : accepts (ab.2.2).code (ab.2.2).pc ((ab.2.2).text.getD (ab.2.2).pos 0) ((ab.2.2).seen.add ((ab.2.2).word 0)) with
   | error e => rfl
   | ok ys => obtain ⟨y, sn⟩ := ys; cases y <;> rfl
  all_goals exact Bool.noConfusion (show false = true from h)
theorem exec_sh {P T : Array Nat} {n last : Nat} {m : M} : cY P T n last m := @aO _ _ (u5 cY) mo (((P, T), n), (last, m))
noncomputable def cX (P : Array Nat) (T : Array Nat) (n : Nat) (last : Nat) (m : Sre.M) : Prop := ∀ (hA : ∀ p, p < P.size → T.getD p 0 = P.getD p 0) (hn : P.size ≤ n) (hb : n < 4294967295) (h : safe P m = true), M.step (sh T n last m) = sh T n last (M.step m)
noncomputable def aB : (((Array Nat) × (Array Nat)) × Nat) × Nat × (Sre.M) := @Classical.epsilon _ (by have := neM; infer_instance) fun x => ¬ u5 cX x
theorem mj : u5 cX aB := by
 intro hA hn hb h
 unfold safe at h
 by_cases ho : (aB.2.2).outcome.isSome = true
 ·have ho' : (sh (aB.1.1.2) (aB.1.2) (aB.2.1) (aB.2.2)).outcome.isSome = true := ho
  rw [M.step, if_pos ho', M.step, if_pos ho]
 ·have ho' : ¬ (sh (aB.1.1.2) (aB.1.2) (aB.2.1) (aB.2.2)).outcome.isSome = true := ho
  rw [M.step, if_neg ho', M.step, if_neg ho]
  rw [Bool.eq_false_iff.mpr ho, Bool.false_or, Bool.and_eq_true, Bool.and_eq_true] at h
  obtain ⟨⟨hT, hL⟩, h⟩ := h
  have hT : (aB.2.2).text = (aB.1.1.1) := by simpa using hT
  have hL : (aB.2.2).lim = (aB.1.1.1).size := by simpa using hL
  cases ha : (aB.2.2).answer with
  | some yes =>
   have ha' : (sh (aB.1.1.2) (aB.1.2) (aB.2.1) (aB.2.2)).answer = some yes := ha
   rw [ha'] ; rw [ha] at h
   cases hf : (aB.2.2).frames with
   | nil =>
    have hf' : (sh (aB.1.1.2) (aB.1.2) (aB.2.1) (aB.2.2)).frames = [] := hf
    rw [hf']; rfl
   | cons f rest =>
    have hf' : (sh (aB.1.1.2) (aB.1.2) (aB.2.1) (aB.2.2)).frames = f :: rest := hf
    rw [hf']; rw [hf] at h
    exact lU { (aB.2.2) with answer := none, frames := rest, weight := (aB.2.2).weight - (1 + f.kept.marks.size), pc := f.pc, pos := f.pos, outermost := f.outermost } _ _ h
  | none =>
   have ha' : (sh (aB.1.1.2) (aB.1.2) (aB.2.1) (aB.2.2)).answer = none := ha
   rw [ha'] ; rw [ha] at h
   have h := (Bool.and_eq_true _ _).mp h
   have hpc := of_decide_eq_true h.1
   show (if (aB.2.2).pc < (aB.2.2).code.size then (sh (aB.1.1.2) (aB.1.2) (aB.2.1) (aB.2.2)).exec else _) = sh (aB.1.1.2) (aB.1.2) (aB.2.1) (if (aB.2.2).pc < (aB.2.2).code.size then _ else _)
   rw [if_pos hpc, if_pos hpc]
   exact exec_sh hA hn hb hT hL h.2
theorem step_sh {P T : Array Nat} {n last : Nat} {m : M} : cX P T n last m := @aO _ _ (u5 cX) mj (((P, T), n), (last, m))
noncomputable def dU (P : Array Nat) : Nat → M → Bool
 | 0, _ => true
 | k + 1, m => safe P m && dU P k (M.step m)
theorem cT {P T : Array Nat} {n last : Nat} (hA : ∀ p, p < P.size → T.getD p 0 = P.getD p 0) (hn : P.size ≤ n) (hb : n < 4294967295) : ∀ (k : Nat) (m : M), dU P k m = true → M.runFor k (sh T n last m) = sh T n last (M.runFor k m)
 | 0, _, _ => rfl
 | k + 1, m, h => by
  have h := (Bool.and_eq_true _ _).mp h
  rw [M.runFor, M.runFor]
  by_cases ho : m.outcome.isSome = true
  ·have ho' : (sh T n last m).outcome.isSome = true := ho
   rw [if_pos ho, if_pos ho']
  ·have ho' : ¬ (sh T n last m).outcome.isSome = true := ho
   rw [if_neg ho, if_neg ho', step_sh hA hn hb h.1]
   exact cT hA hn hb k _ h.2
end
end
section
open PySem PySem.W PyProof.Rows PySem.Calls PySem.Spec
open PySem.Builtin.Re
section
open Sre
theorem gf {T : Array Nat} {n last s : Nat} {first : Bool} (m : M) (h : m.hasFirstSet = false) : (sh T n last m).attemptFrom s first = sh T n last (m.attemptFrom s first) := by
 have h' : (sh T n last m).hasFirstSet = false := h
 unfold M.attemptFrom
 rw [h, h']
 exact cc T n last { m with start := s, pos := s, lastmark := -1, lastindex := -1 } _ _ _ _
theorem cD {code P T : Array Nat} {g n : Nat} {ma : Bool} (hfs : ∀ m : M, m.code = code → m.hasFirstSet = false) (hl : (header code).1 ≤ P.size) (hn : P.size ≤ n) : ∃ last, last ≤ n ∧ forSearch code T g 0 n ma = sh T n last (forSearch code P g 0 P.size ma) := by
 have c1 : ¬ ((decide (0 > n) || decide (n - 0 < (header code).1)) = true) := by simp; omega (config := {})
 have c2 : ¬ ((decide (0 > P.size) || decide (P.size - 0 < (header code).1)) = true) := by simp; omega (config := {})
 unfold forSearch
 dsimp only
 rw [if_neg c1, if_neg c2]
 refine ⟨(if decide ((header code).1 > 1) && !((header code).2 != 0 && code.getD 2 0 &&& 5 != 0) then max 0 (n - ((header code).1 - 1)) else n), ?_, ?_⟩
 ·split <;> omega (config := {})
 ·rw [← gf _ (hfs _ rfl)]
  rfl
structure Lost (code : Array Nat) (c0 s : Nat) (m : M) : Prop where
 ans : m.answer = some false
 out : m.outcome = none
 fr : ∃ f : Sre.Frame, m.frames = [f] ∧ f.wait = .nextStart ∧ f.pos = s ∧ f.pc = c0 ∧ f.kept.marks = #[]
 wt : m.weight ≤ 1
 cd : m.code = code
theorem mq {code : Array Nat} {c0 s : Nat} {m : M} (hfs : ∀ m : M, m.code = code → m.hasFirstSet = false) (h0 : code.getD c0 0 = 6) (h1 : code.getD (c0 + 1) 0 = 0) (hc : c0 < code.size) (L : Lost code c0 s m) (hs : s < m.lastStart) : Lost code c0 (s + 1) m.step.step ∧ m.step.step.lastStart = m.lastStart := by
 obtain ⟨ans, out, ⟨f, hf, hw, hp, hpc, hk⟩, wt, cd⟩ := L
 obtain ⟨code', text, lim, start, lastStart, wholeText, mustAdvance, pc, pos, handed, outermost, marks, lastmark, lastindex, loops, inner, frames, weight, answer, seen, outcome⟩ := m
 obtain ⟨wait, fpc, fpos, fo, fc, fk, fl, fb⟩ := f
 dsimp only at ans out hf hw hp hpc hk wt cd hs
 subst ans out hf hw hp hpc cd
 have w1 : weight - (1 + fk.marks.size) = 0 := by rw [hk]; show weight - (1 + 0) = 0; omega (config := {})
 have hst : M.step { code := code', text, lim, start, lastStart, wholeText, mustAdvance, pc, pos, handed, outermost, marks, lastmark, lastindex, loops, inner, frames := [{ wait := .nextStart, pc := fpc, pos := fpos, outermost := fo, count := fc, kept := fk, loop := fl, began := fb }], weight, answer := some false, seen, outcome := none } = { code := code', text, lim, start := fpos + 1, lastStart, wholeText, mustAdvance := false, pc := fpc, pos := fpos + 1, handed := fpos + 1, outermost := false, marks, lastmark := -1, lastindex := -1, loops, inner, frames := [{ wait := .nextStart, pc := fpc, pos := fpos + 1, outermost := false }], weight := 1, answer := none, seen, outcome := none } := by
  rw [M.step, if_neg (by simp)]
  show (if fpos < lastStart then M.attemptFrom _ _ _ else _) = _
  rw [if_pos hs]
  unfold M.attemptFrom
  rw [hfs _ rfl]
  show M.attempt _ _ _ _ _ = _
  unfold M.attempt
  dsimp only
  rw [w1]
  rfl
 rw [hst]
 have e : M.step { code := code', text, lim, start := fpos + 1, lastStart, wholeText, mustAdvance := false, pc := fpc, pos := fpos + 1, handed := fpos + 1, outermost := false, marks, lastmark := -1, lastindex := -1, loops, inner, frames := [{ wait := .nextStart, pc := fpc, pos := fpos + 1, outermost := false }], weight := 1, answer := none, seen, outcome := none } = { code := code', text, lim, start := fpos + 1, lastStart, wholeText, mustAdvance := false, pc := fpc, pos := fpos + 1, handed := fpos + 1, outermost := false, marks, lastmark := -1, lastindex := -1, loops, inner, frames := [{ wait := .nextStart, pc := fpc, pos := fpos + 1, outermost := false }], weight := 1, answer := some false, seen := (seen.add 6).add (43 + 0), outcome := none } := by
  rw [M.step, if_neg (by simp)]
  show (if fpc < code'.size then _ else _) = _
  rw [if_pos hc]
  unfold M.exec
  dsimp only [M.word]
  rw [Nat.add_zero, h0, h1]
  rfl
 rw [e]
 exact ⟨⟨rfl, rfl, ⟨_, rfl, rfl, rfl, rfl, rfl⟩, Nat.le_refl _, rfl⟩, rfl⟩
theorem lost_end {code : Array Nat} {c0 s : Nat} {m : M} (L : Lost code c0 s m) (hs : ¬ s < m.lastStart) : (M.runFor 2 m).outcome = some .failed := by
 obtain ⟨ans, out, ⟨f, hf, hw, hp, hpc, hk⟩, wt, cd⟩ := L
 obtain ⟨code', text, lim, start, lastStart, wholeText, mustAdvance, pc, pos, handed, outermost, marks, lastmark, lastindex, loops, inner, frames, weight, answer, seen, outcome⟩ := m
 obtain ⟨wait, fpc, fpos, fo, fc, fk, fl, fb⟩ := f
 dsimp only at ans out hf hw hp hpc hk wt cd hs
 subst ans out hf hw hp hpc cd
 have hst : M.step { code := code', text, lim, start, lastStart, wholeText, mustAdvance, pc, pos, handed, outermost, marks, lastmark, lastindex, loops, inner, frames := [{ wait := .nextStart, pc := fpc, pos := fpos, outermost := fo, count := fc, kept := fk, loop := fl, began := fb }], weight, answer := some false, seen, outcome := none } = { code := code', text, lim, start, lastStart, wholeText, mustAdvance, pc := fpc, pos := fpos, handed, outermost := fo, marks, lastmark, lastindex, loops, inner, frames := [], weight := weight - (1 + fk.marks.size), answer := some false, seen, outcome := none } := by
  rw [M.step, if_neg (by simp)]
  show (if fpos < lastStart then M.attemptFrom _ _ _ else _) = _
  rw [if_neg hs]
  rfl
 rw [M.runFor, if_neg (by simp), hst]
 rfl
theorem dH {code : Array Nat} {c0 : Nat} (hfs : ∀ m : M, m.code = code → m.hasFirstSet = false) (h0 : code.getD c0 0 = 6) (h1 : code.getD (c0 + 1) 0 = 0) (hc : c0 < code.size) : ∀ (d s : Nat) (m : M), Lost code c0 s m → m.lastStart - s = d → (M.runFor (2 * d + 2) m).outcome = some .failed
 | 0, s, m, L, hd => lost_end L (by omega (config := {}))
 | d + 1, s, m, L, hd => by
  obtain ⟨L', e'⟩ := mq hfs h0 h1 hc L (by omega (config := {}))
  have e : 2 * (d + 1) + 2 = 2 * d + 2 + 1 + 1 := by omega (config := {})
  have o1 : ¬ m.outcome.isSome = true := by rw [L.out]; simp
  rw [e, M.runFor, if_neg o1]
  have o2 : M.runFor (2 * d + 2 + 1) m.step = M.runFor (2 * d + 2) m.step.step := by
   rw [M.runFor]
   by_cases o : m.step.outcome.isSome = true
   ·have : m.step.step = m.step := by rw [M.step, if_pos o]
    have := L'.out
    rw [‹m.step.step = m.step›] at this
    rw [this] at o
    exact absurd o (by simp)
   ·rw [if_neg o]
  rw [o2]
  exact dH hfs h0 h1 hc d (s + 1) _ L' (by omega (config := {}))
end
theorem cI : typeOf (.builtin "re.Match.string") = pure (.type "member_descriptor") := by show builtinType _ = _; rw [builtinType_eq_fast]; kernel_rfl
theorem iv : entryFor table "re.Match.string" = some Builtin.«re.Match.string» := entryFor_of_tree (by kernel_rfl)
theorem gY : (".".intercalate ("re.Match.string".cutAt '.').dropLast) = "re.Match" := by
 have e0 : "re.Match.string".cutAt '.' = ["re", "Match", "string"] := by first | rfl | decide +kernel
 rw [e0]; decide +kernel
theorem iO : typeLookup (.type "re.Match") "string" = pure (some (.builtin "re.Match.string")) := by rw [typeLookup_type, builtinLookup_eq_fast]; kernel_rfl
theorem sub_mat : isSubtype (.type "re.Match") (.type "re.Match") = pure true := by rw [isSubtype_type]; kernel_rfl
theorem slot_mat_ga : Slot "re.Match" "__getattribute__" "object.__getattribute__" :=
 .of (owner := "object") (n := "__getattribute__") (by rw [typeLookup_type, builtinLookup_eq_fast]; kernel_rfl) (by decide +kernel) (by decide +kernel) (by decide +kernel)
  (by first | exact .inl (by decide +kernel) | exact .inr (by decide +kernel)) (by rw [isSubtype_type]; kernel_rfl)
theorem eP (a b : Value) : argsOk "object.__getattribute__" ⟨[a, b], []⟩ := by unfold argsOk; kernel_rfl
section
variable {prog : Program} {w : World} {A : Around} {E : Value → Shared → Prop} {h : Heap} {g : Array GenState} {d : Drawn} {t : Nat} {os : OsState} {a tu : Addr} {T : Str} {t0 : Tok} {pat : Value} {lim : Nat} {li : Int}
theorem jY {R : Result → Shared → Prop} (hx : h.get? a = some (aK (.str T t0) pat lim li tu)) (hq : R (.ok (.ret (.str T t0))) ⟨h, g, d, t, os⟩) :
  codeAny (model prog w) A (.call (.builtin "member_descriptor.__get__") ⟨[.builtin "re.Match.string", .ref a, .type "re.Match"], []⟩) R ⟨h, g, d, t, os⟩ := by
 have hT : (⟨h, g, d, t, os⟩ : Shared).TypeIs (.ref a) "re.Match" := ⟨_, hx, rfl⟩
 have hT5 : (⟨h, g, d, t, os⟩ : Shared).TypeIs (.builtin "re.Match.string") "member_descriptor" := cI
 have f8 : isSubtype (.type "re.Match") (.type (".".intercalate ("re.Match.string".cutAt '.').dropLast)) = pure true := by rw [gY]; exact sub_mat
 refine codeAny_call_builtin KF.slot_mem.plain KF.entry_mem (KF.slot_mem.check _ _ _ _ _ _ _ _ hT5 (KF.args_mem _ _ _) ?_)
 repeat (any_goals (first | assumption | wp_step))
 refine ⟨Code.quiet_builtin _ (by decide +kernel), codeAny_builtin iv ?_⟩
 unfold Builtin.«re.Match.string»
 repeat (any_goals (first | assumption | with_reducible refine wpAny_field hx rfl (i := 0) (v := .str T t0) rfl ?_ | wp_step))
theorem gT {tk : Tok} {Q : Fin → Shared → Prop} (hx : h.get? a = some (aK (.str T t0) pat lim li tu)) (hq : Q (.done (.ret (.str T t0))) ⟨h, g, d, t, os⟩) :
  wpAny (model prog w) A (Builtin.«object.__getattribute__» ⟨[.ref a, .str "string" tk], []⟩) Q E ⟨h, g, d, t, os⟩ := by
 have hT : (⟨h, g, d, t, os⟩ : Shared).TypeIs (.ref a) "re.Match" := ⟨_, hx, rfl⟩
 have hT5 : (⟨h, g, d, t, os⟩ : Shared).TypeIs (.builtin "re.Match.string") "member_descriptor" := cI
 have f4 := iO
 have f5 := cI
 have f6 := KF.slot_mem.lookup
 have f7 := KF.slot_mset.lookup
 repeat (any_goals (first | assumption | wp_step))
 refine jY hx ?_
 repeat (any_goals (first | assumption | wp_step))
theorem lM {tk : Tok} {fill expr : Bool} {Q : Value → Shared → Prop} (hx : h.get? a = some (aK (.str T t0) pat lim li tu)) (hq : Q (.str T t0) ⟨h, g, d, t, os⟩) :
  wpAny (model prog w) A (getAttrBy (.ref a) (.str "string" tk) fill expr) Q E ⟨h, g, d, t, os⟩ := by
 have hT : (⟨h, g, d, t, os⟩ : Shared).TypeIs (.ref a) "re.Match" := ⟨_, hx, rfl⟩
 have f2 := slot_mat_ga.lookup
 have f3 := slot_mat_ga.bind (.ref a)
 have hx0 : (expr && onTheHeap (Value.builtin "object.__getattribute__")) = false := by cases expr <;> rfl
 repeat (any_goals (first | assumption | wp_step))
 refine codeAny_call_builtin slot_mat_ga.plain F.entry_object_getattribute (slot_mat_ga.check _ _ _ _ _ _ _ _ hT (eP _ _) (gT hx ?_))
 repeat (any_goals (first | assumption | wp_step))
theorem iG {expr : Bool} {Q : Value → Shared → Prop} (hx : h.get? a = some (aK (.str T t0) pat lim li tu)) (hq : Q (.str T t0) ⟨h, g, d, t + 1, os⟩) :
  wpAny (model prog w) A (getAttr (.ref a) "string" expr) Q E ⟨h, g, d, t, os⟩ := by
 unfold getAttr
 repeat (any_goals (first | assumption | with_reducible apply lM hx | wp_step))
end
section
variable {prog : Program} {w : World} {A : Around} {E : Value → Shared → Prop} {s : Shared} {h₀ : Heap} {L : Addr} {mm : Str → Option Value} {news : List (Addr × Obj)}
theorem fu {P : Addr} {T : Str} {t : Tok} {g : Nat} {code : List Nat} {Q : Value → Shared → Prop} (hp : PatAt s.heap P g code) (hsz : T.cps.size ≤ 1000000) (k : Nat) (hk : k < 2 ^ 64)
  (ho : (Sre.M.runFor (4 * (k + 1)) (Sre.forSearch code.toArray T.cps g 0 T.cps.size false)).outcome = some .failed) (h : Q .none s) :
  wpAny (model prog w) A (call (.builtin "re.Pattern.search") [.ref P, .str T t]) Q E s := by
 refine cq (id hp) ?_; intro v0 v1 C a b
 refine wpAny_call (codeAny_call_builtin slot_search.plain ee (slot_search.check _ _ _ _ _ _ _ _ ⟨_, a, rfl⟩ (eO _ _) ?_))
 unfold Builtin.«re.Pattern.search»
 refine wpAny_bind (cS hp (by omega) ?_)
 unfold reAnswer
 exact wpAny_bind (bP k hk ho (wpAny_pure h))
theorem eF {P : Addr} {T : Str} {t : Tok} {code : List Nat} {b e gb ge : Nat} {Q : Value → Shared → Prop} (F : Fr h₀ L s.heap mm) (N : News h₀ L s.heap news) (hp : PatAt s.heap P 1 code) (hsz : T.cps.size ≤ 1000000) (k : Nat) (hk : k < 2 ^ 64) {M : Sre.M}
  (hM : Sre.M.runFor (4 * (k + 1)) (Sre.forSearch code.toArray T.cps 1 0 T.cps.size false) = M)
  (ho : M.outcome = some .matched) (hb : M.start = b) (he : M.handed = e) (hl : (1 : Int) ≤ M.lastmark) (hg1 : M.marks.getD 0 none = some gb) (hg2 : M.marks.getD 1 none = some ge) (hgg : gb ≤ ge)
  (h : ∀ li tu ma h', Fr h₀ L h' mm → News h₀ L h' ((ma, aK (.str T t) (.ref P) T.cps.size li tu) :: (tu, bl (ba [b, e, gb, ge])) :: news) → (∀ p ∈ news, p.1 < tu) → tu < ma → Q (.ref ma) { s with heap := h' }) :
  wpAny (model prog w) A (call (.builtin "re.Pattern.search") [.ref P, .str T t]) Q E s := by
 refine cq (id hp) ?_; intro v0 v1 C a c
 refine wpAny_call (codeAny_call_builtin slot_search.plain ee (slot_search.check _ _ _ _ _ _ _ _ ⟨_, a, rfl⟩ (eO _ _) ?_))
 unfold Builtin.«re.Pattern.search»
 refine wpAny_bind (cS hp (by omega) ?_)
 unfold reAnswer
 refine wpAny_bind (bD k hk (by dsimp only; rw [hM]; exact ho) ?_)
 dsimp only
 rw [hM, gF hl hg1 hg2 hgg, hb, he]
 exact wpAny_bind (dG F N (by show (4 : Nat) ≤ 10; decide) fun tu ma h' F' N' l1 l2 => wpAny_pure (h _ tu ma h' F' N' l1 l2))
theorem fR (pre R : List Nat) : ∀ p, p < pre.toArray.size → (pre ++ R).toArray.getD p 0 = pre.toArray.getD p 0 := by
 intro p hp
 have hp : p < pre.length := hp
 simp only [Array.getD_eq_getD_getElem?, List.getElem?_toArray]
 rw [List.getElem?_append_left hp]
theorem aX {P : Addr} {T : Str} {t : Tok} {code : List Nat} {b e gb ge : Nat} {Q : Value → Shared → Prop} (F : Fr h₀ L s.heap mm) (N : News h₀ L s.heap news) (hp : PatAt s.heap P 1 code) (hsz : T.cps.size ≤ 1000000) (k : Nat) (hk : k < 2 ^ 64) {M : Sre.M} (pre R : List Nat) (hT : T.cps = (pre ++ R).toArray)
  (hfs : ∀ m : Sre.M, m.code = code.toArray → m.hasFirstSet = false) (hlen : (Sre.header code.toArray).1 ≤ pre.length)
  (hsafe : dU pre.toArray (4 * (k + 1)) (Sre.forSearch code.toArray pre.toArray 1 0 pre.toArray.size false) = true)
  (hM : Sre.M.runFor (4 * (k + 1)) (Sre.forSearch code.toArray pre.toArray 1 0 pre.toArray.size false) = M)
  (ho : M.outcome = some .matched) (hb : M.start = b) (he : M.handed = e) (hl : (1 : Int) ≤ M.lastmark) (hg1 : M.marks.getD 0 none = some gb) (hg2 : M.marks.getD 1 none = some ge) (hgg : gb ≤ ge)
  (h : ∀ li tu ma h', Fr h₀ L h' mm → News h₀ L h' ((ma, aK (.str T t) (.ref P) T.cps.size li tu) :: (tu, bl (ba [b, e, gb, ge])) :: news) → (∀ p ∈ news, p.1 < tu) → tu < ma → Q (.ref ma) { s with heap := h' }) :
  wpAny (model prog w) A (call (.builtin "re.Pattern.search") [.ref P, .str T t]) Q E s := by
 have hn : pre.toArray.size ≤ T.cps.size := by rw [hT]; simp
 refine aJ (cD (code := code.toArray) (P := pre.toArray) (T := T.cps) (g := 1) (n := T.cps.size) (ma := false) hfs hlen hn) ?_; intro last _ hse
 have hrun := cT (P := pre.toArray) (T := T.cps) (n := T.cps.size) (last := last) (by rw [hT]; exact fR pre R) hn (by omega) _ _ hsafe
 rw [hM] at hrun
 refine eF F N hp hsz k hk (M := sh T.cps T.cps.size last M) (by rw [hse, hrun]) ho hb he hl hg1 hg2 hgg h
theorem bW {P : Addr} {T : Str} {t : Tok} {g : Nat} {code : List Nat} {Q : Value → Shared → Prop} (hp : PatAt s.heap P g code) (hsz : T.cps.size ≤ 1000000) (k : Nat) (pre R : List Nat) (hT : T.cps = (pre ++ R).toArray)
  (hfs : ∀ m : Sre.M, m.code = code.toArray → m.hasFirstSet = false) (hlen : (Sre.header code.toArray).1 ≤ pre.length) {c0 : Nat} (h0 : code.toArray.getD c0 0 = 6) (h1 : code.toArray.getD (c0 + 1) 0 = 0) (hc : c0 < code.toArray.size) (hk : k < 100)
  (hsafe : dU pre.toArray k (Sre.forSearch code.toArray pre.toArray g 0 pre.toArray.size false) = true)
  (hL : Lost code.toArray c0 0 (Sre.M.runFor k (Sre.forSearch code.toArray pre.toArray g 0 pre.toArray.size false))) (h : Q .none s) :
  wpAny (model prog w) A (call (.builtin "re.Pattern.search") [.ref P, .str T t]) Q E s := by
 have hn : pre.toArray.size ≤ T.cps.size := by rw [hT]; simp
 refine aJ (cD (code := code.toArray) (P := pre.toArray) (T := T.cps) (g := g) (n := T.cps.size) (ma := false) hfs hlen hn) ?_; intro last hlast hse
 have hrun := cT (P := pre.toArray) (T := T.cps) (n := T.cps.size) (last := last) (by rw [hT]; exact fR pre R) hn (by omega) _ _ hsafe
 have hL' : Lost code.toArray c0 0 (sh T.cps T.cps.size last (Sre.M.runFor k (Sre.forSearch code.toArray pre.toArray g 0 pre.toArray.size false))) := ⟨hL.ans, hL.out, hL.fr, hL.wt, hL.cd⟩
 have hf := dH hfs h0 h1 hc last 0 _ hL' (by show last - 0 = last; omega)
 rw [← hrun, ← hse, ← bq] at hf
 have hd : (Sre.M.runFor (k + (2 * last + 2)) (Sre.forSearch code.toArray T.cps g 0 T.cps.size false)).outcome.isSome = true := by rw [hf]; rfl
 refine fu hp hsz (k + (2 * last + 2)) (by omega) ?_ h
 have e : 4 * (k + (2 * last + 2) + 1) = (k + (2 * last + 2)) + (3 * (k + (2 * last + 2)) + 4) := by omega
 rw [e, bq, ce hd]
 exact hf
theorem lO {ma tu : Addr} {T : Str} {t : Tok} {pat : Value} {lim : Nat} {li : Int} {b e gb ge : Nat} {tk : Tok} {Q : Value → Shared → Prop} (F : Fr h₀ L s.heap mm) (N : News h₀ L s.heap news) (hm : (ma, aK (.str T t) pat lim li tu) ∈ news) (ht : (tu, bl (ba [b, e, gb, ge])) ∈ news)
  (h : ∀ tp t1 t2 h' k, Fr h₀ L h' mm → News h₀ L h' ((tp, { cls := .type "tuple", data := .seq #[.int b t1, .int e t2] }) :: news) → (∀ p ∈ news, p.1 < tp) → Q (.ref tp) { s with heap := h', toks := k }) : wpAny (model prog w) A (call (.builtin "re.Match.span") [.ref ma, .int 0 tk]) Q E s := by
 refine wpAny_call (codeAny_call_builtin slot_span.plain kO (slot_span.check _ _ _ _ _ _ _ _ ⟨_, (N _ hm).1, rfl⟩ (mK _ _) ?_))
 unfold Builtin.«re.Match.span» reOneGroup
 refine wpAny_bind (wpAny_bind (m := selfAndSome _ _ _ _ _) (wpAny_of_eq (a := (Value.ref ma, [Value.int 0 tk])) (by rfl) ?_))
 refine wpAny_bind (iV N hm ht ?_)
 refine wpAny_bind (m := reGroupNumber _ _) (wpAny_of_eq (a := 0) (by rfl) (wpAny_pure ?_))
 refine wpAny_bind (wpAny_mkInt (wpAny_bind (wpAny_mkInt (wpAny_bind ?_))))
 refine newTuple_N F N (fun h' F' N' => wpAny_pure ?_) (by size_fits)
 exact h _ _ _ h' _ F' N' (fun p hp => Heap.lt_size (N p hp).1)
end
section
variable {w : World} {h : Heap}
noncomputable def cJunk : List Nat := [14, 4, 0, 0, 4294967295, 6, 0, 24, 13, 0, 4294967295, 13, 8, 16, 61, 8, 12, 16, 59, 0, 1, 1]
noncomputable def cTok : List Nat := [14, 4, 0, 1, 4294967295, 6, 0, 24, 9, 0, 4294967295, 13, 4, 8, 12, 0, 1, 17, 0, 24, 19, 1, 4294967295, 13, 14, 21, 9, 0, 671092736, 0, 0, 0, 0, 0, 0, 8, 12, 0, 1, 17, 1, 1]
noncomputable def cQuo : List Nat := [14, 4, 0, 3, 4294967295, 6, 0, 24, 9, 0, 4294967295, 13, 4, 8, 12, 0, 1, 16, 61, 24, 9, 0, 4294967295, 13, 4, 8, 12, 0, 1, 16, 34, 17, 0, 24, 12, 0, 4294967295, 13, 7, 21, 16, 34, 16, 92, 0, 1, 23, 19, 0, 4294967295, 16, 92, 2, 24, 12, 0, 4294967295, 13, 7, 21, 16, 34, 16, 92, 0, 1, 18, 17, 1, 16, 34, 1]
noncomputable def cVal : List Nat := [14, 4, 0, 1, 4294967295, 6, 0, 24, 9, 0, 4294967295, 13, 4, 8, 12, 0, 1, 16, 61, 24, 9, 0, 4294967295, 13, 4, 8, 12, 0, 1, 17, 0, 24, 14, 0, 4294967295, 13, 9, 21, 8, 12, 16, 59, 16, 44, 0, 1, 17, 1, 1]
noncomputable def cEsc : List Nat := [14, 8, 1, 2, 2, 1, 1, 92, 0, 16, 92, 17, 0, 2, 17, 1, 1]
theorem lh (X : (Mine.hd.heap_39 w.params).In h) : PatAt h 43 0 cJunk := ⟨_, _, 42, X 43 _ rfl, X 42 _ rfl⟩
theorem dE (X : (Mine.hd.heap_39 w.params).In h) : PatAt h 55 1 cTok := ⟨_, _, 54, X 55 _ rfl, X 54 _ rfl⟩
theorem cx (X : (Mine.hd.heap_39 w.params).In h) : PatAt h 60 1 cQuo := ⟨_, _, 59, X 60 _ rfl, X 59 _ rfl⟩
theorem fB (X : (Mine.hd.heap_39 w.params).In h) : PatAt h 65 1 cVal := ⟨_, _, 64, X 65 _ rfl, X 64 _ rfl⟩
theorem patEsc (X : (Mine.hd.heap_39 w.params).In h) : PatAt h 70 1 cEsc := ⟨_, _, 69, X 70 _ rfl, X 69 _ rfl⟩
end
theorem fs_of {code : Array Nat} (h : (code.getD 2 0 == 4) = false) : ∀ m : Sre.M, m.code = code → m.hasFirstSet = false := by
 intro m e
 unfold Sre.M.hasFirstSet
 rw [e, h, Bool.and_false]
section
variable {prog : Program} {w : World} {A : Around} {E : Value → Shared → Prop} {s : Shared} {h₀ : Heap} {L : Addr} {mm : Str → Option Value} {news : List (Addr × Obj)} {T : Str} {t : Tok} {R : List Nat} {Q : Value → Shared → Prop}
noncomputable def tokP : List (List Nat × Nat × Nat) := [([106, 111, 98, 61], 0, 3), ([32, 106, 111, 98, 61], 1, 4), ([97, 102, 116, 101, 114, 61], 0, 5), ([108, 97, 116, 101, 59], 0, 4)]
theorem gQ {c : Nat} {pre : List Nat} {gb ge : Nat} (hc : tokP[c]? = some (pre, gb, ge)) (F : Fr h₀ L s.heap mm) (N : News h₀ L s.heap news) (X : (Mine.hd.heap_39 w.params).In s.heap) (hsz : T.cps.size ≤ 1000000) (hT : T.cps = (pre ++ R).toArray)
  (h : ∀ li tu ma h', Fr h₀ L h' mm → News h₀ L h' ((ma, aK (.str T t) (.ref 55) T.cps.size li tu) :: (tu, bl (ba [0, ge, gb, ge])) :: news) → (∀ p ∈ news, p.1 < tu) → tu < ma → Q (.ref ma) { s with heap := h' }) :
  wpAny (model prog w) A (call (.builtin "re.Pattern.search") [.ref 55, .str T t]) Q E s := by
 match c, hc with
 | 0, hc => cases hc; exact aX F N (dE X) hsz 4 (by decide) _ R hT (fs_of rfl) (by decide) (by kernel_rfl) rfl (by kernel_rfl) (by kernel_rfl) (by kernel_rfl) (by decide +kernel) (by kernel_rfl) (by kernel_rfl) (by decide) h
 | 1, hc => cases hc; exact aX F N (dE X) hsz 4 (by decide) _ R hT (fs_of rfl) (by decide) (by kernel_rfl) rfl (by kernel_rfl) (by kernel_rfl) (by kernel_rfl) (by decide +kernel) (by kernel_rfl) (by kernel_rfl) (by decide) h
 | 2, hc => cases hc; exact aX F N (dE X) hsz 4 (by decide) _ R hT (fs_of rfl) (by decide) (by kernel_rfl) rfl (by kernel_rfl) (by kernel_rfl) (by kernel_rfl) (by decide +kernel) (by kernel_rfl) (by kernel_rfl) (by decide) h
 | 3, hc => cases hc; exact aX F N (dE X) hsz 4 (by decide) _ R hT (fs_of rfl) (by decide) (by kernel_rfl) rfl (by kernel_rfl) (by kernel_rfl) (by kernel_rfl) (by decide +kernel) (by kernel_rfl) (by kernel_rfl) (by decide) h
 | c + 4, hc => exact absurd hc (by simp [tokP])
theorem tok_no {c : Nat} (hc : c = 59 ∨ c = 44) (X : (Mine.hd.heap_39 w.params).In s.heap) (hsz : T.cps.size ≤ 1000000) (hT : T.cps = ([c] ++ R).toArray) (h : Q .none s) :
  wpAny (model prog w) A (call (.builtin "re.Pattern.search") [.ref 55, .str T t]) Q E s := by
 rcases hc with rfl | rfl
 ·exact bW (dE X) hsz 5 _ R hT (fs_of rfl) (by decide) (c0 := 5) rfl rfl (by decide) (by decide) (by kernel_rfl) ⟨by kernel_rfl, by kernel_rfl, ⟨_, by rfl, by rfl, by rfl, by rfl, by rfl⟩, by decide +kernel, by kernel_rfl⟩ h
 ·exact bW (dE X) hsz 5 _ R hT (fs_of rfl) (by decide) (c0 := 5) rfl rfl (by decide) (by decide) (by kernel_rfl) ⟨by kernel_rfl, by kernel_rfl, ⟨_, by rfl, by rfl, by rfl, by rfl, by rfl⟩, by decide +kernel, by kernel_rfl⟩ h
theorem quo_yes {n : Nat} {e : Nat} (hn0 : n ≠ 0) (hn5 : n < 5) (he : e = (qv n).cps.size) (F : Fr h₀ L s.heap mm) (N : News h₀ L s.heap news) (X : (Mine.hd.heap_39 w.params).In s.heap) (hsz : T.cps.size ≤ 1000000) (hT : T.cps = ((61 :: (qv n).cps.toList) ++ R).toArray)
  (h : ∀ li tu ma h', Fr h₀ L h' mm → News h₀ L h' ((ma, aK (.str T t) (.ref 60) T.cps.size li tu) :: (tu, bl (ba [0, e + 1, 2, e])) :: news) → (∀ p ∈ news, p.1 < tu) → tu < ma → Q (.ref ma) { s with heap := h' }) :
  wpAny (model prog w) A (call (.builtin "re.Pattern.search") [.ref 60, .str T t]) Q E s := by
 subst he
 match n, hn0, hn5 with
 | 1, _, _ => exact aX F N (cx X) hsz 9 (by decide) _ R hT (fs_of rfl) (by decide) (by kernel_rfl) rfl (by kernel_rfl) (by kernel_rfl) (by kernel_rfl) (by decide +kernel) (by kernel_rfl) (by kernel_rfl) (by decide) h
 | 2, _, _ => exact aX F N (cx X) hsz 9 (by decide) _ R hT (fs_of rfl) (by decide) (by kernel_rfl) rfl (by kernel_rfl) (by kernel_rfl) (by kernel_rfl) (by decide +kernel) (by kernel_rfl) (by kernel_rfl) (by decide) h
 | 3, _, _ => exact aX F N (cx X) hsz 9 (by decide) _ R hT (fs_of rfl) (by decide) (by kernel_rfl) rfl (by kernel_rfl) (by kernel_rfl) (by kernel_rfl) (by decide +kernel) (by kernel_rfl) (by kernel_rfl) (by decide) h
 | 4, _, _ => exact aX F N (cx X) hsz 9 (by decide) _ R hT (fs_of rfl) (by decide) (by kernel_rfl) rfl (by kernel_rfl) (by kernel_rfl) (by kernel_rfl) (by decide +kernel) (by kernel_rfl) (by kernel_rfl) (by decide) h
noncomputable def aEnds : List (List Nat) := [[61, 97, 59], [61, 97, 44]]
theorem ko {pre : List Nat} (hc : pre = [59, 32, 97] ∨ pre = [61, 97, 59] ∨ pre = [61, 97, 44]) (X : (Mine.hd.heap_39 w.params).In s.heap) (hsz : T.cps.size ≤ 1000000) (hT : T.cps = (pre ++ R).toArray) (h : Q .none s) :
  wpAny (model prog w) A (call (.builtin "re.Pattern.search") [.ref 60, .str T t]) Q E s := by
 rcases hc with rfl | rfl | rfl
 ·exact bW (cx X) hsz 4 _ R hT (fs_of rfl) (by decide) (c0 := 5) rfl rfl (by decide) (by decide) (by kernel_rfl) ⟨by kernel_rfl, by kernel_rfl, ⟨_, by rfl, by rfl, by rfl, by rfl, by rfl⟩, by decide +kernel, by kernel_rfl⟩ h
 ·exact bW (cx X) hsz 7 _ R hT (fs_of rfl) (by decide) (c0 := 5) rfl rfl (by decide) (by decide) (by kernel_rfl) ⟨by kernel_rfl, by kernel_rfl, ⟨_, by rfl, by rfl, by rfl, by rfl, by rfl⟩, by decide +kernel, by kernel_rfl⟩ h
 ·exact bW (cx X) hsz 7 _ R hT (fs_of rfl) (by decide) (c0 := 5) rfl rfl (by decide) (by decide) (by kernel_rfl) ⟨by kernel_rfl, by kernel_rfl, ⟨_, by rfl, by rfl, by rfl, by rfl, by rfl⟩, by decide +kernel, by kernel_rfl⟩ h
theorem km (X : (Mine.hd.heap_39 w.params).In s.heap) (hT : T.cps = #[61, 97]) (h : Q .none s) :
  wpAny (model prog w) A (call (.builtin "re.Pattern.search") [.ref 60, .str T t]) Q E s :=
 fu (cx X) (by rw [hT]; decide) 1 (by decide) (by rw [hT]; rfl) h
theorem lb {pre : List Nat} (hc : pre = [61, 97, 59] ∨ pre = [61, 97, 44]) (F : Fr h₀ L s.heap mm) (N : News h₀ L s.heap news) (X : (Mine.hd.heap_39 w.params).In s.heap) (hsz : T.cps.size ≤ 1000000) (hT : T.cps = (pre ++ R).toArray)
  (h : ∀ li tu ma h', Fr h₀ L h' mm → News h₀ L h' ((ma, aK (.str T t) (.ref 65) T.cps.size li tu) :: (tu, bl (ba [0, 2, 1, 2])) :: news) → (∀ p ∈ news, p.1 < tu) → tu < ma → Q (.ref ma) { s with heap := h' }) :
  wpAny (model prog w) A (call (.builtin "re.Pattern.search") [.ref 65, .str T t]) Q E s := by
 rcases hc with rfl | rfl
 ·exact aX F N (fB X) hsz 4 (by decide) _ R hT (fs_of rfl) (by decide) (by kernel_rfl) rfl (by kernel_rfl) (by kernel_rfl) (by kernel_rfl) (by decide +kernel) (by kernel_rfl) (by kernel_rfl) (by decide) h
 ·exact aX F N (fB X) hsz 4 (by decide) _ R hT (fs_of rfl) (by decide) (by kernel_rfl) rfl (by kernel_rfl) (by kernel_rfl) (by kernel_rfl) (by decide +kernel) (by kernel_rfl) (by kernel_rfl) (by decide) h
theorem iD (F : Fr h₀ L s.heap mm) (N : News h₀ L s.heap news) (X : (Mine.hd.heap_39 w.params).In s.heap) (hT : T.cps = #[61, 97])
  (h : ∀ li tu ma h', Fr h₀ L h' mm → News h₀ L h' ((ma, aK (.str T t) (.ref 65) T.cps.size li tu) :: (tu, bl (ba [0, 2, 1, 2])) :: news) → (∀ p ∈ news, p.1 < tu) → tu < ma → Q (.ref ma) { s with heap := h' }) :
  wpAny (model prog w) A (call (.builtin "re.Pattern.search") [.ref 65, .str T t]) Q E s :=
 eF F N (fB X) (by rw [hT]; decide) 4 (by decide) (by rw [hT]) (by rfl) (by rfl) (by rfl) (by decide) (by rfl) (by rfl) (by decide) h
theorem val_no (X : (Mine.hd.heap_39 w.params).In s.heap) (hsz : T.cps.size ≤ 1000000) (hT : T.cps = ([59] ++ R).toArray) (h : Q .none s) :
  wpAny (model prog w) A (call (.builtin "re.Pattern.search") [.ref 65, .str T t]) Q E s :=
 bW (fB X) hsz 4 _ R hT (fs_of rfl) (by decide) (c0 := 5) rfl rfl (by decide) (by decide) (by kernel_rfl) ⟨by kernel_rfl, by kernel_rfl, ⟨_, by rfl, by rfl, by rfl, by rfl, by rfl⟩, by decide +kernel, by kernel_rfl⟩ h
end
section
variable {prog : Program} {w : World} {A : Around} {E : Value → Shared → Prop} {s : Shared} {h₀ : Heap} {L : Addr} {m : Str → Option Value} {news rest : List (Addr × Obj)} {R : Result → Shared → Prop}
noncomputable def bK (prog : Program) (w : World) (A : Around) (s : Shared) (h₀ : Heap) (L : Addr) (m : Str → Option Value) (rest : List (Prod Addr Obj)) (R : Result → Shared → Prop) (P : Addr) (pl : Addr) (T : Str) (x : Str) (t : Tok) (tx : Tok) (g : Nat) (code : List Nat) (n : Nat) (done : Nat) (start : Nat) (must : Bool) (pv : List Value) (ps : List Str) (k : Nat) (j : Nat) : Prop := ∀ (hp : PatAt s.heap P g code) (F : Fr h₀ L s.heap m) (N : News h₀ L s.heap ((pl, listOf pv.toArray k) :: rest)) (hne : ∀ p ∈ rest, p.1 ≠ pl) (hv : StrsAre pv ps) (hsz : T.cps.size ≤ 1000000) (hps : (ps.map (·.length)).sum ≤ 1000000) (hpl : ps.length ≤ 900) (hps0 : ps ≠ []) (hj : j < 2 ^ 64) (ho : (Sre.M.runFor (4 * (j + 1)) (Sre.forSearch code.toArray T.cps g start T.cps.size must)).outcome = some .failed) (h : ∀ t' t2 tp h' tk, Fr h₀ L h' m → News h₀ L h' ((tp, { cls := .type "tuple", data := .seq #[.str (Txt.join Str.empty (ps ++ aF T done)) t', .int n t2] }) :: rest) → (∀ p ∈ rest, p.1 < tp) → R (.ok (.ret (.ref tp))) { s with heap := h', toks := tk }), codeAny (model prog w) A (.builtin "re.Pattern.sub.loop" ⟨[.ref P, .str T t, .str x tx, rawInt 0, rawInt 0, rawInt n, rawInt done, rawInt start, .bool must, .ref pl, .bool true], []⟩) R s
noncomputable def ah : ((((Program × World) × Around × Shared) × (Heap × Addr) × (Str → Option Value)) × (((List (Prod Addr Obj)) × (Result → Shared → Prop)) × Addr) × (Addr × Str) × Str) × (((Tok × Tok) × Nat) × ((List Nat) × Nat) × Nat) × ((Nat × Bool) × (List Value)) × ((List Str) × Nat) × Nat := @Classical.epsilon _ (by have := neW; have := neA; have := neS; infer_instance) fun x => ¬ u25 bK x
namespace n_subnloop_none
noncomputable def done : Nat := ah.2.1.2.2
theorem eU : bK ah.1.1.1.1.1 ah.1.1.1.1.2 ah.1.1.1.2.1 ah.1.1.1.2.2 ah.1.1.2.1.1 ah.1.1.2.1.2 ah.1.1.2.2 ah.1.2.1.1.1 ah.1.2.1.1.2 ah.1.2.1.2 ah.1.2.2.1.1 ah.1.2.2.1.2 ah.1.2.2.2 ah.2.1.1.1.1 ah.2.1.1.1.2 ah.2.1.1.2 ah.2.1.2.1.1 ah.2.1.2.1.2 n_subnloop_none.done ah.2.2.1.1.1 ah.2.2.1.1.2 ah.2.2.1.2 ah.2.2.2.1.1 ah.2.2.2.1.2 ah.2.2.2.2 := by
 intro hp F N hne hv hsz hps hpl hps0 hj ho h
 refine codeAny_builtin bG (bQ hp (.inr ⟨rfl, (ah.1.2.2.2), (ah.2.1.1.1.2), rfl⟩) (bP (ah.2.2.2.2) hj ho ?_))
 have lenps : (ah.2.2.1.2).length = (ah.2.2.2.1.1).length := hv.len_eq
 have fin : ∀ {s' : Shared} {qv : List Value} {qs : List Str} {k' : Nat}, (∃ h' tk, s' = { (ah.1.1.1.2.2) with heap := h', toks := tk }) → StrsAre qv qs → qs = (ah.2.2.2.1.1) ++ aF (ah.1.2.2.1.2) done → Fr (ah.1.1.2.1.1) (ah.1.1.2.1.2) s'.heap (ah.1.1.2.2) → News (ah.1.1.2.1.1) (ah.1.1.2.1.2) s'.heap (((ah.1.2.2.1.1), listOf qv.toArray k') :: (ah.1.2.1.1.1)) →
   wpAny (model (ah.1.1.1.1.1) (ah.1.1.1.1.2)) ((ah.1.1.1.2.1).under (.builtin "re.Pattern.sub.loop" ⟨[.ref (ah.1.2.1.2), .str (ah.1.2.2.1.2) (ah.2.1.1.1.1), .str (ah.1.2.2.2) (ah.2.1.1.1.2), rawInt 0, rawInt 0, rawInt (ah.2.1.2.1.2), rawInt done, rawInt (ah.2.2.1.1.1), .bool (ah.2.2.1.1.2), .ref (ah.1.2.2.1.1), .bool true], []⟩)) (do
    let joiner ← reSlice (ah.1.2.2.1.2).cps 0 0 0
    let text ← if ((← seqItems? (.ref (ah.1.2.2.1.1))).getD #[]).isEmpty then pure joiner else call (.builtin "str.join") [joiner, .ref (ah.1.2.2.1.1)]
    if true = true then ret (← holding [text] do newTuple [text, ← mkInt (ah.2.1.2.1.2)]) else ret text)
    (fun fin s' => match fin with | .done f => (ah.1.2.1.1.2) (.ok f) s' | .again c' => c'.quiet = true ∧ codeAny (model (ah.1.1.1.1.1) (ah.1.1.1.1.2)) (ah.1.1.1.2.1) c' (ah.1.2.1.1.2) s') (fun e s' => (ah.1.2.1.1.2) (.error e) s') s' := by
  rintro s' qv qs k' ⟨h', tk, rfl⟩ hqv hqs F' N'
  refine wpAny_bind (ci hsz fun t' k2 => ?_)
  refine wpAny_bind (wpAny_seqItems (N' _ (.head _)).1 rfl ?_)
  have e0 : (⟨(ah.1.2.2.1.2).cps.extract 0 0⟩ : Str) = Str.empty := by
   have : (ah.1.2.2.1.2).cps.extract 0 0 = #[] := by simp
   rw [this]; rfl
  rw [e0]
  show wpAny _ _ (if qv.toArray.isEmpty = true then _ else _) _ _ _
  rw [dy hqv]
  cases hqs0 : qs with
  | nil =>
   rw [hqs0] at hqs
   exact absurd (List.append_eq_nil_iff.mp hqs.symm).1 hps0
  | cons q0 qr =>
   rw [if_neg (by simp)]
   have hlen : (aF (ah.1.2.2.1.2) done).length ≤ 1 := by unfold aF; split <;> simp
   have hlp : ((aF (ah.1.2.2.1.2) done).map (·.length)).sum ≤ 1000000 := by
    unfold aF
    split
    ·have : ((ah.1.2.2.1.2).cps.extract done (ah.1.2.2.1.2).cps.size).size ≤ (ah.1.2.2.1.2).cps.size := by rw [Array.size_extract]; omega
     show ((ah.1.2.2.1.2).cps.extract done (ah.1.2.2.1.2).cps.size).size + 0 ≤ 1000000
     omega
    ·simp
   refine wpAny_bind (join_list (ys := qs) ⟨_, (N' _ (.head _)).1, rfl, k', rfl⟩ hqv ?_ ?_)
   ·have e1 : (qs.map (·.length)).sum = ((ah.2.2.2.1.1).map (·.length)).sum + ((aF (ah.1.2.2.1.2) done).map (·.length)).sum := by rw [hqs, List.map_append, List.sum_append]
    have e2 : Str.empty.length = 0 := rfl
    rw [e1, e2]; omega
   ·intro t2 k3
    dsimp only; rw [if_pos rfl]
    refine wpAny_bind (wpAny_holding (wpAny_bind (wpAny_mkInt (newTuple_N (news := (ah.1.2.1.1.1)) F' (fun p hp => N' p (.tail _ hp)) (fun h2 F2 N2 => ?_) (by size_fits)))))
    refine wpAny_pure ?_
    have := h t2 k3 _ h2 (k3 + 1) F2 (by rw [← hqs]; exact N2) (fun p hp => Heap.lt_size (N' p (.tail _ hp)).1)
    exact this
 by_cases hd : done < (ah.1.2.2.1.2).cps.size
 ·show wpAny _ _ (if done < (ah.1.2.2.1.2).cps.size then _ else _) _ _ _
  rw [if_pos hd]
  refine wpAny_bind (ci hsz fun t' k2 => ?_)
  refine wpAny_bind (cL F N hne (by omega) fun h' F' N' => ?_)
  exact fin ⟨h', k2, rfl⟩ (hv.append' (.cons _ t' .nil)) (by unfold aF; rw [if_pos hd]) F' N'
 ·show wpAny _ _ (if done < (ah.1.2.2.1.2).cps.size then _ else _) _ _ _
  rw [if_neg hd]
  exact fin ⟨(ah.1.1.1.2.2).heap, (ah.1.1.1.2.2).toks, rfl⟩ hv (by unfold aF; rw [if_neg hd, List.append_nil]) F N
end n_subnloop_none
theorem gl {P pl : Addr} {T x : Str} {t tx : Tok} {g : Nat} {code : List Nat} {n done start : Nat} {must : Bool} {pv : List Value} {ps : List Str} {k : Nat} (hp : PatAt s.heap P g code)
  (F : Fr h₀ L s.heap m) (N : News h₀ L s.heap ((pl, listOf pv.toArray k) :: rest)) (hne : ∀ p ∈ rest, p.1 ≠ pl) (hv : StrsAre pv ps) (hsz : T.cps.size ≤ 1000000) (hps : (ps.map (·.length)).sum ≤ 1000000) (hpl : ps.length ≤ 900) (hps0 : ps ≠ []) (j : Nat) (hj : j < 2 ^ 64)
  (ho : (Sre.M.runFor (4 * (j + 1)) (Sre.forSearch code.toArray T.cps g start T.cps.size must)).outcome = some .failed)
  (h : ∀ t' t2 tp h' tk, Fr h₀ L h' m → News h₀ L h' ((tp, { cls := .type "tuple", data := .seq #[.str (Txt.join Str.empty (ps ++ aF T done)) t', .int n t2] }) :: rest) → (∀ p ∈ rest, p.1 < tp) → R (.ok (.ret (.ref tp))) { s with heap := h', toks := tk }) :
  codeAny (model prog w) A (.builtin "re.Pattern.sub.loop" ⟨[.ref P, .str T t, .str x tx, rawInt 0, rawInt 0, rawInt n, rawInt done, rawInt start, .bool must, .ref pl, .bool true], []⟩) R s := @aO _ _ (u25 bK) n_subnloop_none.eU (((((prog, w), (A, s)), ((h₀, L), m)), (((rest, R), P), ((pl, T), x))), ((((t, tx), g), ((code, n), done)), (((start, must), pv), ((ps, k), j)))) hp F N hne hv hsz hps hpl hps0 hj ho h
theorem gR {P pl : Addr} {T x : Str} {t tx : Tok} {g : Nat} {code : List Nat} {n start e : Nat} {must : Bool} {pv : List Value} {ps : List Str} {k : Nat} {M : Sre.M} (hp : PatAt s.heap P g code)
  (F : Fr h₀ L s.heap m) (N : News h₀ L s.heap ((pl, listOf pv.toArray k) :: rest)) (hne : ∀ p ∈ rest, p.1 ≠ pl) (hv : StrsAre pv ps) (hpl : ps.length ≤ 900) (j : Nat) (hj : j < 2 ^ 64)
  (hM : Sre.M.runFor (4 * (j + 1)) (Sre.forSearch code.toArray T.cps g start T.cps.size must) = M) (ho : M.outcome = some .matched) (hb : M.start = 0) (he : M.handed = e)
  (h : ∀ pv' k' h' tk, Fr h₀ L h' m → News h₀ L h' ((pl, listOf pv'.toArray k') :: rest) → StrsAre pv' (ps ++ [x]) →
   codeAny (model prog w) A (.builtin "re.Pattern.sub.loop" ⟨[.ref P, .str T t, .str x tx, rawInt 0, rawInt 0, rawInt ((n + 1 : Nat) : Int), rawInt e, rawInt e, .bool (e == 0), .ref pl, .bool true], []⟩) R { s with heap := h', toks := tk }) :
  codeAny (model prog w) A (.builtin "re.Pattern.sub.loop" ⟨[.ref P, .str T t, .str x tx, rawInt 0, rawInt 0, rawInt n, rawInt (0 : Nat), rawInt start, .bool must, .ref pl, .bool true], []⟩) R s := by
 refine codeAny_builtin bG (bQ hp (.inr ⟨rfl, x, tx, rfl⟩) (bD j hj (by rw [hM]; exact ho) ?_))
 have lenps : pv.length = ps.length := hv.len_eq
 rw [hM]
 subst he
 show wpAny _ _ (if 0 < M.start then _ else _) _ _ _
 rw [hb, if_neg (by omega)]
 refine wpAny_bind (wpAny_pure ?_)
 dsimp only
 rw [if_pos (by rfl)]
 refine wpAny_bind (cL F N hne (by omega) fun h' F' N' => ?_)
 refine wpAny_pure ⟨plainId_quiet bf _, ?_⟩
 exact h _ _ h' s.toks F' N' (hv.append' (.cons _ tx .nil))
theorem lG {P : Addr} {T x : Str} {t tx : Tok} {g : Nat} {code : List Nat} {Q : Value → Shared → Prop} (hx : x.cps.contains 92 = false) (F : Fr h₀ L s.heap m) (N : News h₀ L s.heap news) (hp : PatAt s.heap P g code)
  (h : ∀ pl h', Fr h₀ L h' m → News h₀ L h' ((pl, listOf ([] : List Value).toArray 0) :: news) → (∀ p ∈ news, p.1 < pl) →
   codeAny (model prog w) A (.builtin "re.Pattern.sub.loop" ⟨[.ref P, .str T t, .str x tx, rawInt 0, rawInt 0, rawInt ((0 : Nat) : Int), rawInt ((0 : Nat) : Int), rawInt ((0 : Nat) : Int), .bool false, .ref pl, .bool true], []⟩)
    (fun r s' => match r with | .ok (.ret v) => Q v s' | .ok _ => False | .error e => E e s') { s with heap := h' }) :
  wpAny (model prog w) A (call (.builtin "re.Pattern.subn") [.ref P, .str x tx, .str T t]) Q E s := by
 refine cq (id hp) ?_; intro v0 v1 C a b
 refine wpAny_call (codeAny_call_builtin slot_subn.plain kM (slot_subn.check _ _ _ _ _ _ _ _ ⟨_, a, rfl⟩ (mJ _ _ _) ?_))
 unfold Builtin.«re.Pattern.subn» reSubstitute
 refine wpAny_bind (m := reNamed _ _ _ _ _ _) (wpAny_of_eq (gH _ _ _ _) ?_)
 refine wpAny_bind (wpAny_pure ?_)
 refine wpAny_bind (wpAny_specialOf (name := Str.ofString "__call__") (T := "str") (typeIs_str _ _ _) gp ?_)
 refine wpAny_bind (m := asStr? (.str x tx)) (wpAny_of_eq (a := some x) rfl ?_)
 dsimp only
 rw [hx]
 refine wpAny_bind (wpAny_pure ?_)
 refine wpAny_bind (wpAny_pure ?_)
 refine wpAny_bind (wpAny_holding (ff hp ?_))
 refine wpAny_bind (newList_N F N (fun h' F' N' => ?_) (by decide))
 exact wpAny_pure ⟨plainId_quiet bf _, h _ h' F' N' fun p hp => Heap.lt_size (N p hp).1⟩
end
section
open Sre
theorem kJ {T : Array Nat} {n : Nat} (hn : 3 ≤ n) : Lost cJunk.toArray 5 2 (M.runFor 1 (forSearch cJunk.toArray T 0 2 n false)) ∧ (M.runFor 1 (forSearch cJunk.toArray T 0 2 n false)).lastStart = n := by
 have c1 : ¬ ((decide (2 > n) || decide (n - 2 < (header cJunk.toArray).1)) = true) := by
  have : (header cJunk.toArray).1 = 0 := by rfl
  rw [this]; simp; omega
 have e : forSearch cJunk.toArray T 0 2 n false = { code := cJunk.toArray, text := T, lim := n, start := 2, lastStart := n, pc := 5, pos := 2, handed := 2, outermost := true, marks := #[], frames := [{ wait := .nextStart, pc := 5, pos := 2, outermost := true }], weight := 1, seen := ({} : Sre.Seen).add 14 } := by
  unfold forSearch
  dsimp only
  rw [if_neg c1]
  rfl
 rw [e]
 exact ⟨⟨by rfl, by rfl, ⟨_, by rfl, by rfl, by rfl, by rfl, by rfl⟩, Nat.le_of_eq (by rfl), by rfl⟩, by rfl⟩
theorem mv {T : Array Nat} {n : Nat} (hn : 3 ≤ n) : (M.runFor (4 * (2 * n + 2 + 1)) (forSearch cJunk.toArray T 0 2 n false)).outcome = some .failed := by
 refine bj (kJ (T := T) hn) ?_; intro L e
 have hf := dH (fs_of rfl) rfl rfl (by decide) (n - 2) 2 _ L (by rw [e])
 rw [← bq] at hf
 have hd : (Sre.M.runFor (1 + (2 * (n - 2) + 2)) (Sre.forSearch cJunk.toArray T 0 2 n false)).outcome.isSome = true := by rw [hf]; rfl
 have e : 4 * (2 * n + 2 + 1) = (1 + (2 * (n - 2) + 2)) + (4 * (2 * n + 2 + 1) - (1 + (2 * (n - 2) + 2))) := by omega
 rw [e, bq, ce hd]
 exact hf
end
section
variable {prog : Program} {w : World} {A : Around} {E : Value → Shared → Prop} {s : Shared} {h₀ : Heap} {L : Addr} {m : Str → Option Value} {news : List (Addr × Obj)} {Q : Value → Shared → Prop}
theorem lF {T : Str} {t tx : Tok} {c : Nat} {R : List Nat} (hc : c = 97 ∨ c = 108) (F : Fr h₀ L s.heap m) (N : News h₀ L s.heap news) (X : (Mine.hd.heap_39 w.params).In h₀) (hsz : T.cps.size ≤ 1000000) (hT : T.cps = ([59, 32, c] ++ R).toArray)
  (h : ∀ t' t2 tp h' tk, Fr h₀ L h' m → News h₀ L h' ((tp, { cls := .type "tuple", data := .seq #[.str ⟨(c :: R).toArray⟩ t', .int 1 t2] }) :: news) → (∀ p ∈ news, p.1 < tp) → Q (.ref tp) { s with heap := h', toks := tk }) :
  wpAny (model prog w) A (call (.builtin "re.Pattern.subn") [.ref 43, .str (Str.ofString "") tx, .str T t]) Q E s := by
 have PJ : ∀ {h' : Heap}, Fr h₀ L h' m → PatAt h' 43 0 cJunk := fun F' => lh (X.keeps F'.keep)
 have h3 : 3 ≤ T.cps.size := by rw [hT]; simp
 refine lG (by kernel_rfl) F N (PJ F) fun pl h1 F1 N1 l1 => ?_
 have hne : ∀ p ∈ news, p.1 ≠ pl := fun p hp => Nat.ne_of_lt (l1 p hp)
 have hn : [59, 32, c].toArray.size ≤ T.cps.size := h3
 refine aJ (cD (code := cJunk.toArray) (P := [59, 32, c].toArray) (T := T.cps) (g := 0) (n := T.cps.size) (ma := false) (fs_of rfl) (Nat.zero_le _) hn) ?_; intro last _ hse
 have hsafe : dU [59, 32, c].toArray (4 * (3 + 1)) (Sre.forSearch cJunk.toArray [59, 32, c].toArray 0 0 [59, 32, c].toArray.size false) = true := by
  rcases hc with rfl | rfl <;> kernel_rfl
 have hrun := cT (P := [59, 32, c].toArray) (T := T.cps) (n := T.cps.size) (last := last) (by rw [hT]; exact fR _ R) hn (by omega) _ _ hsafe
 have ho : (Sre.M.runFor (4 * (3 + 1)) (Sre.forSearch cJunk.toArray [59, 32, c].toArray 0 0 [59, 32, c].toArray.size false)).outcome = some .matched ∧ (Sre.M.runFor (4 * (3 + 1)) (Sre.forSearch cJunk.toArray [59, 32, c].toArray 0 0 [59, 32, c].toArray.size false)).start = 0 ∧ (Sre.M.runFor (4 * (3 + 1)) (Sre.forSearch cJunk.toArray [59, 32, c].toArray 0 0 [59, 32, c].toArray.size false)).handed = 2 := by
  rcases hc with rfl | rfl <;> exact ⟨by kernel_rfl, by kernel_rfl, by kernel_rfl⟩
 generalize Sre.M.runFor (4 * (3 + 1)) (Sre.forSearch cJunk.toArray [59, 32, c].toArray 0 0 [59, 32, c].toArray.size false) = M0 at hrun ho
 refine gR (PJ F1) F1 N1 hne .nil (by decide) 3 (by decide) (M := sh T.cps T.cps.size last M0) (by rw [hse, hrun]) ho.1 ho.2.1 ho.2.2 ?_
 intro pv' k' h' tk F' N' hv
 refine gl (PJ F') F' N' hne hv hsz (by decide) (by decide) (by simp) (2 * T.cps.size + 2) (by omega) (mv h3) ?_
 intro t' t2 tp h2 tk2 F2 N2 l2
 refine h t' t2 tp h2 tk2 F2 ?_ l2
 have e : Txt.join Str.empty ([] ++ [Str.ofString ""] ++ aF T 2) = ⟨(c :: R).toArray⟩ := by
  unfold aF
  rw [if_pos (by omega)]
  show Txt.join Str.empty [Str.ofString "", ⟨T.cps.extract 2 T.cps.size⟩] = _
  have e1 : T.cps.extract 2 T.cps.size = (c :: R).toArray := by
   rw [hT]
   apply Array.ext'
   simp
  rw [e1]
  show Builtin.Str.glued _ _ = _
  unfold Builtin.Str.glued
  have e2 : (Str.ofString "").cps = #[] := by kernel_rfl
  simp [Str.empty, e2]
 rw [e] at N2
 exact N2
theorem sub_esc {n : Nat} {t : Tok} {f : Addr} {of : Obj} (hn0 : n ≠ 0) (hn5 : n < 5) (F : Fr h₀ L s.heap m) (N : News h₀ L s.heap news) (X : (Mine.hd.heap_39 w.params).In h₀) (hf : (f, of) ∈ news) (hfc : of.cls = .type "function")
  (hlam : dO prog w A E s h₀ L m news 70 f (Str.ofString ""))
  (h : ∀ t' h' tk, Fr h₀ L h' m → News h₀ L h' news → Q (.str (nm n) t') { s with heap := h', toks := tk }) :
  wpAny (model prog w) A (call (.builtin "re.Pattern.sub") [.ref 70, .ref f, .str (esc n) t]) Q E s := by
 have PJ : ∀ {h' : Heap}, Fr h₀ L h' m → PatAt h' 70 1 cEsc := fun F' => patEsc (X.keeps F'.keep)
 refine iE F N (PJ F) hf hfc fun pl h1 F1 N1 l1 => ?_
 have hne : ∀ p ∈ news, p.1 ≠ pl := fun p hp => Nat.ne_of_lt (l1 p hp)
 have hin1 : A.under (.builtin "re.Pattern.sub.loop" ⟨[.ref 70, .str (esc n) t, .ref f, rawInt 1, rawInt 0, rawInt ((0 : Nat) : Int), rawInt ((0 : Nat) : Int), rawInt ((0 : Nat) : Int), .bool false, .ref pl, .bool false], []⟩) = A.in1 := Around.under_plainId bf _
 match n, hn0, hn5 with
 | 1, _, _ =>
  refine aW (PJ F1) (.inl rfl) F1 N1 hne .nil (by decide) (by decide) (by decide) 4 (by decide) (by kernel_rfl) ?_
  intro t' h' tk F' N'
  exact h t' h' tk F' N'
 | 3, _, _ =>
  refine aW (PJ F1) (.inl rfl) F1 N1 hne .nil (by decide) (by decide) (by decide) 4 (by decide) (by kernel_rfl) ?_
  intro t' h' tk F' N'
  exact h t' h' tk F' N'
 | 2, _, _ =>
  refine bR (b := 1) (e := 3) (gb := 2) (ge := 3) (y := Str.ofString "\"") (PJ F1) F1 N1 hne .nil (by decide) (by decide) 5 (by decide) (by kernel_rfl) (by kernel_rfl) (by kernel_rfl) (by decide +kernel) (by kernel_rfl) (by kernel_rfl) (by decide) ?_ ?_
  ·intro s' pv' k' li tu ma Q' hs' F' N' l2 l3 hq
   rw [hin1]
   refine bX (hs') ?_; (try clear hs'); intro h2 tk2 xq2c; subst xq2c
   exact hlam _ _ _ _ _ _ _ _ 1 3 2 3 Q' ⟨h2, tk2, rfl⟩ F' N' (fun p hp => .tail _ hp) (by decide) (fun t' h' tk F'' N'' => hq t' h' tk F'' N'')
  ·intro pv' k' h' tk F' N' hv
   refine aW (PJ F') (.inl rfl) F' N' hne hv (by decide) (by decide) (by decide) 4 (by decide) (by kernel_rfl) ?_
   intro t' h'' tk' F'' N''
   exact h t' h'' tk' F'' N''
 | 4, _, _ =>
  refine bR (b := 1) (e := 3) (gb := 2) (ge := 3) (y := Str.ofString "\\") (PJ F1) F1 N1 hne .nil (by decide) (by decide) 5 (by decide) (by kernel_rfl) (by kernel_rfl) (by kernel_rfl) (by decide +kernel) (by kernel_rfl) (by kernel_rfl) (by decide) ?_ ?_
  ·intro s' pv' k' li tu ma Q' hs' F' N' l2 l3 hq
   rw [hin1]
   refine bX (hs') ?_; (try clear hs'); intro h2 tk2 xq3c; subst xq3c
   exact hlam _ _ _ _ _ _ _ _ 1 3 2 3 Q' ⟨h2, tk2, rfl⟩ F' N' (fun p hp => .tail _ hp) (by decide) (fun t' h' tk F'' N'' => hq t' h' tk F'' N'')
  ·intro pv' k' h' tk F' N' hv
   refine aW (PJ F') (.inl rfl) F' N' hne hv (by decide) (by decide) (by decide) 4 (by decide) (by kernel_rfl) ?_
   intro t' h'' tk' F'' N''
   exact h t' h'' tk' F'' N''
end
end
section
open PySem PySem.W PyProof.Rows PySem.Calls PySem.Spec
theorem kh (x : Str) : Txt.slice x none (some ((0 : Nat) : Int)) = Str.empty := by
 show StrLaws.sliceText x none (some 0) = _
 rw [StrLaws.sliceText_to ⟨by omega, by omega⟩]
 simp [Str.empty]
theorem ft {x : Str} {e : Nat} (he : e ≤ x.cps.size) : Txt.slice x (some (e : Int)) none = ⟨(x.cps.toList.drop e).toArray⟩ := by
 show StrLaws.sliceText x (some (e : Int)) none = _
 rw [StrLaws.sliceText_from ⟨by omega, by rw [Array.length_toList]; omega⟩]
 congr 2
 rw [List.take_of_length_le]
 ·simp
 ·simp
theorem rlD80 : True := by
 k_with_none
 k_with "getMethod ref" => (k_here; (with_reducible show wpAny _ _ (getMethod (Value.ref _) (Str.ofString "span") _) _ _ _); refine cz slot_span lC (by k_asm) (by assumption) ?_)
 k_with "call builtin:re.Match.span" => case fresh => (k_here; refine lO (by k_asm) (by k_asm) (by assumption) (by assumption) ?_; intro tp' t1' t2' h'' k' F'' N'' l1'; have hT' := News.isTup N'' (List.Mem.head _))
 k_with "getAttr ref" => (k_here; (with_reducible show wpAny _ _ (getAttr (Value.ref _) (Str.ofString "string") _) _ _ _); refine iG (by first | exact (News.get (by k_asm) (List.Mem.tail _ (by assumption))) | exact (News.get (by k_asm) (by assumption))) ?_)
 k_with "binaryOp Add str str" => (k_here; refine held ?_)
 trivial
theorem bv (w : World) (ma tu : Addr) (T : Str) (t : Tok) (pat : Value) (lim : Nat) (li : Int) (e gb ge : Nat) (hT : T.cps.size ≤ 1000000) (he : e ≤ T.cps.size) : Pure1 w 50 [.ref ma] (fun nx => (ma, aK (.str T t) pat lim li tu) ∈ nx ∧ (tu, bl (ba [0, e, gb, ge])) ∈ nx) (fun _ r => ∃ t', r = .str ⟨(T.cps.toList.drop e).toArray⟩ t') := by
 unfold Pure1
 k_fill
 intro p loose mean mg mb dp un gd cn cs a ccd cl outer A₀ base h₀ L m news s Q E B F X N TT hk hd hu hpre hret
 obtain ⟨hm, ht⟩ := hpre
 refine wpAny_call ?_
 k_dflt cell_enter
 k_steps
 unfold Held
 rw [kh, ft he]
 refine PyProof.Rows.add_str ?_ ?_
 ·intro t9 k9
  rw [Str.empty_append]
  k_steps
  refine hret _ [_] _ _ (by assumption) (by assumption) ?_ ⟨_, rfl⟩
  intro q hq p hp
  rw [List.mem_singleton.mp hp]
  have h1 := ‹∀ p ∈ news, p.1 < _›
  exact h1 q hq
 ·have e0 : sizeLine = 16777216 := rfl
  have e1 : Str.empty.length = 0 := rfl
  show Str.empty.length + (T.cps.toList.drop e).length ≤ sizeLine
  rw [List.length_drop, Array.length_toList]
  omega
theorem rlD90 : True := by
 k_with_none
 k_with "mine hide" => first | (refine (?_ : let gk : Prop := wpAny _ ak _ _ _ _; gk); (try clear gk); intro gk) | (refine (?_ : let ak : Around := _; let gk : Prop := wpAny _ ak _ _ _ _; gk); intro ak; (try clear gk); intro gk) | (refine (?_ : let gk : Prop := _; gk); (try clear gk); intro gk)
 k_with "mine in" => first | (with_reducible assumption) | (with_reducible exact sId) | ((with_reducible refine sTl ?_); walk_at "mine in") | ((with_reducible refine sLe ?_); walk_at "mine in") | ((with_reducible refine sRi ?_); walk_at "mine in")
 k_with "mine memb" => first | assumption | exact List.Mem.head _ | (refine List.Mem.tail _ ?_; walk_at "mine memb") | (refine mLe ?_; walk_at "mine memb") | (refine mRi ?_; walk_at "mine memb")
 k_with "mine open" => first | (refine (?_ : let gk : Prop := wpAny _ ak _ _ _ _; Held gk); (try clear gk); intro gk; show gk) | (refine (?_ : let ak : Around := _; let gk : Prop := wpAny _ ak _ _ _ _; Held gk); intro ak; (try clear gk); intro gk; show gk) | (refine (?_ : let gk : Prop := _; Held gk); (try clear gk); intro gk; show gk)
 k_with "mine sub" => first | (with_reducible exact sId) | (with_reducible exact sNil) | ((with_reducible refine sCons ?_ ?_); (· walk_at "mine memb"); (· walk_at "mine sub")) | ((with_reducible refine sApp ?_ ?_); (· walk_at "mine sub"); (· walk_at "mine sub")) | walk_at "mine in"
 trivial
noncomputable def qS : Str := Str.ofString "split_header_words" ++ ".<locals>." ++ "<lambda>"
noncomputable def rowL : List PR → List Nat
 | [] => []
 | p :: ps => (ptext p).cps.toList ++ ps.flatMap fun p => 59 :: 32 :: (ptext p).cps.toList
noncomputable def semi (ps : List PR) : List Nat := ps.flatMap fun p => 59 :: 32 :: (ptext p).cps.toList
noncomputable def comma (rs : List (List PR)) : List Nat := rs.flatMap fun r => 44 :: 32 :: rowL r
noncomputable def htext (rs : List (List PR)) : Str := Txt.join (Str.ofString ", ") (rs.map rtext)
noncomputable def OkS : List PR → Prop
 | [] => True
 | p :: ps => ((p.1 = Str.ofString "after" ∧ ∃ i, i < 5 ∧ p.2 = some i) ∨ (p = (Str.ofString "late", none) ∧ ∃ i q, ps = (Str.ofString "after", some i) :: q)) ∧ OkS ps
noncomputable def OkR (r : List PR) : Prop := ∃ i ps, i < 5 ∧ r = (Str.ofString "job", some i) :: ps ∧ OkS ps ∧ ps.length ≤ 3
theorem rlD91 : True := by
 k_with "call builtin:isinstance" => (k_here; refine IsiPair.list_str (o := listOf _ _) (News.get (by k_asm) (List.Mem.tail _ (by assumption))) rfl ?_)
 k_with "getMethod ref" => (k_here; first | ((with_reducible show wpAny _ _ (getMethod (Value.ref 55) _ _) _ _ _); refine bc slot_search cJ (dE (by k_in)) ?_) | ((with_reducible show wpAny _ _ (getMethod (Value.ref 60) _ _) _ _ _); refine bc slot_search cJ (cx (by k_in)) ?_) | ((with_reducible show wpAny _ _ (getMethod (Value.ref 65) _ _) _ _ _); refine bc slot_search cJ (fB (by k_in)) ?_) | ((with_reducible show wpAny _ _ (getMethod (Value.ref 43) _ _) _ _ _); refine bc slot_subn lB (lh (by k_in)) ?_) | ((with_reducible show wpAny _ _ (getMethod (Value.ref 70) _ _) _ _ _); refine bc slot_sub fg (patEsc (by k_in)) ?_))
 k_with "exec While" => (k_here; refine held ?_)
 k_with "call builtin:str.rstrip" => (k_here; refine held ?_)
 k_with "truthy ref" => (k_here; (with_reducible show wpAny _ _ (truthy (Value.ref Pq)) _ _ _); refine held ?_)
 k_with "truthy str" => (k_here; (with_reducible show wpAny _ _ (truthy (Value.str ⟨T9.cps.extract gb9 ge9⟩ _)) _ _ _); refine held ?_)
 trivial
theorem lstrip44 {prog : Program} {w : World} {A : Around} {E : Value → Shared → Prop} {s : Shared} {Q : Value → Shared → Prop} {t : Tok} {R : List Nat} (hsz : (44 :: R).length ≤ 1000000) (h : ∀ t' k, Q (.str ⟨(44 :: R).toArray⟩ t') { s with toks := k }) : wpAny (model prog w) A (call (.builtin "str.lstrip") [.str ⟨(44 :: R).toArray⟩ t]) Q E s := eI (by rfl) hsz h
theorem lstrip59 {prog : Program} {w : World} {A : Around} {E : Value → Shared → Prop} {s : Shared} {Q : Value → Shared → Prop} {t : Tok} {R : List Nat} (hsz : (59 :: R).length ≤ 1000000) (h : ∀ t' k, Q (.str ⟨(59 :: R).toArray⟩ t') { s with toks := k }) : wpAny (model prog w) A (call (.builtin "str.lstrip") [.str ⟨(59 :: R).toArray⟩ t]) Q E s := eI (by rfl) hsz h
theorem rlD92 : True := by
 k_with "call builtin:str.lstrip" => (k_here; first | (refine lstrip44 (by assumption) ?_; intro _ _) | (refine lstrip59 (by assumption) ?_; intro _ _))
 k_with "call builtin:str.startswith" => (k_here; first | refine kc ?_ | refine lN ?_)
 trivial
noncomputable def Stand (cs : List Nat) (dn rem : List PR) (rs : List (List PR)) (n : Nat) : Prop :=
 (∃ sp p ps, rem = p :: ps ∧ cs = sp ++ ((ptext p).cps.toList ++ (semi ps ++ comma rs)) ∧ ((dn = [] ∧ (sp = [] ∨ sp = [32]) ∧ ∃ i, i < 5 ∧ p = (Str.ofString "job", some i)) ∨ (sp = [] ∧ OkS (p :: ps))) ∧ OkS ps ∧ n = 1 + 2 * (ps.length + (rs.map List.length).sum)) ∨
 (dn ≠ [] ∧ cs = semi rem ++ comma rs ∧ OkS rem ∧ n = 2 * (rem.length + (rs.map List.length).sum))
inductive gh (pfx : List (List PR)) (H I : Addr) (o : Obj) (old : List (Addr × Obj)) (whole : List (List PR)) (n : Nat) (m : Str → Option Value) (nx : List (Addr × Obj)) : Prop where
 | mk : ∀ (u2 : Str → Option Value) (cs : List Nat) (tt : Tok) (Pq : Addr) (pvs : List Value) (k2 : Nat) (rvs2 : List Value) (k3 : Nat) (ps2 : Array Value) (add2 : List (Addr × Obj)) (done : List (List PR)) (dn rem : List PR) (rs' : List (List PR)), (m = (fun y => if y = Str.ofString "text" then some (Value.str ⟨cs.toArray⟩ tt) else if y = Str.ofString "pairs" then some (.ref Pq) else if y = Str.ofString "result" then some (.ref H) else u2 y)) → (nx = (Pq, listOf pvs.toArray k2) :: (H, listOf rvs2.toArray k3) :: (72, tabObj ps2) :: (add2 ++ old ++ [(I, o)])) → (DatAll (add2 ++ old) pvs (dn.map fun p => datP (toP p))) → (DatAll (add2 ++ old) rvs2 ((pfx ++ done).map fun r => datR (r.map toP))) → (TabOk qS 29 49 ps2 (add2 ++ old)) → ((∀ p ∈ add2, I < p.1 ∧ p.1 ≠ Pq)) → (I < Pq) → ((∀ p ∈ old, p.1 ≠ Pq)) → (whole = done ++ (dn ++ rem) :: rs') → (cs.length ≤ 10000) → (Stand cs dn rem rs' n) → gh pfx H I o old whole n m nx
theorem fC {pfx : List (List PR)} {H I : Addr} {o : Obj} {old : List (Addr × Obj)} {whole : List (List PR)} {g' : Heap} {L' : Addr} {s : Shared} {Q : Flow → Shared → Prop} {n : Nat} {Pq : Addr} {pvs : List Value} {rvs2 : List Value} {k3 : Nat} {add2 : List (Addr × Obj)} {done : List (List PR)} {dn : List PR} {rs' : List (List PR)} {p : PR} {ps9 : List PR}
  (hD1 : DatAll (add2 ++ old) pvs (dn.map fun p => datP (toP p))) (hD2 : DatAll (add2 ++ old) rvs2 ((pfx ++ done).map fun r => datR (r.map toP))) (hIq : I < Pq) (hnq : ∀ p ∈ old, p.1 ≠ Pq) (hsplit : whole = done ++ (dn ++ p :: ps9) :: rs') (hcl : (semi ps9 ++ comma rs').length ≤ 10000) (hok : OkS ps9) (hn : n = 1 + 2 * (ps9.length + (rs'.map List.length).sum))
  {s₃ : Shared} {h3 : Heap} {tk3 : Nat} {m3 : Str → Option Value} {tup : Addr} {kk : Nat} {ps3 : Array Value} {add3 : List (Addr × Obj)} {tt3 : Tok} (e3 : s₃ = { s with heap := h3, toks := tk3 }) (mt : m3 (Str.ofString "text") = some (.str ⟨(semi ps9 ++ comma rs').toArray⟩ tt3)) (mp : m3 (Str.ofString "pairs") = some (.ref Pq)) (mr : m3 (Str.ofString "result") = some (.ref H))
  (F : Fr g' L' h3 m3) (N : News g' L' h3 ((Pq, listOf (pvs ++ [Value.ref tup]).toArray kk) :: (H, listOf rvs2.toArray k3) :: (72, tabObj ps3) :: (add3 ++ old ++ [(I, o)]))) (hd : DatIn (add3 ++ old) (.ref tup) (datP (toP p))) (hsub : ∀ q ∈ add2, q ∈ add3) (hT : TabOk qS 29 49 ps3 (add3 ++ old)) (hA : ∀ q ∈ add3, I < q.1 ∧ q.1 ≠ Pq) :
  WhileStep2 g' L' s (gh pfx H I o old whole) Q n .next s₃ := by
 have hsub' : ∀ q ∈ add2 ++ old, q ∈ add3 ++ old := by
  intro q hq
  rcases List.mem_append.mp hq with hq | hq
  ·exact List.mem_append.mpr (.inl (hsub q hq))
  ·exact List.mem_append.mpr (.inr hq)
 refine ⟨h3, tk3, m3, _, 2 * (ps9.length + (rs'.map List.length).sum), e3, F, N, by omega, m3, semi ps9 ++ comma rs', tt3, Pq, pvs ++ [Value.ref tup], kk, rvs2, k3, ps3, add3, done, dn ++ [p], ps9, rs', ?_, rfl, ?_, hD2.mono hsub', hT, hA, hIq, hnq, ?_, hcl, .inr ⟨by simp, rfl, hok, rfl⟩⟩
 ·funext y
  by_cases e1 : y = Str.ofString "text"
  ·rw [if_pos e1, e1, mt]
  ·rw [if_neg e1]
   by_cases e2 : y = Str.ofString "pairs"
   ·rw [if_pos e2, e2, mp]
   ·rw [if_neg e2]
    by_cases e3 : y = Str.ofString "result"
    ·rw [if_pos e3, e3, mr]
    ·rw [if_neg e3]
 ·rw [List.map_append]
  exact (hD1.mono hsub').append (.one hd)
 ·rw [hsplit]; simp
theorem rowRead {pfx : List (List PR)} {H I : Addr} {o : Obj} {old : List (Addr × Obj)} {whole : List (List PR)} {g' : Heap} {L' : Addr} {s : Shared} {Q : Flow → Shared → Prop} {n : Nat} {Pq Pn : Addr} {pvs : List Value} {k2 : Nat} {rvs2 : List Value} {add2 : List (Addr × Obj)} {ps2 : Array Value} {done : List (List PR)} {dn : List PR} {r9 : List PR} {rs9 : List (List PR)}
  (hD1 : DatAll (add2 ++ old) pvs (dn.map fun p => datP (toP p))) (hD2 : DatAll (add2 ++ old) rvs2 ((pfx ++ done).map fun r => datR (r.map toP))) (hT : TabOk qS 29 49 ps2 (add2 ++ old)) (hA : ∀ p ∈ add2, I < p.1 ∧ p.1 ≠ Pn) (hIq : I < Pq) (hqn : Pq < Pn) (hnq : ∀ p ∈ old, p.1 ≠ Pn) (hsplit : whole = done ++ (dn ++ []) :: r9 :: rs9) (hcl : (32 :: (rowL r9 ++ comma rs9)).length ≤ 10000) (hok : OkR r9) (hn : n = 2 * (r9.length + (rs9.map List.length).sum))
  {s₃ : Shared} {h3 : Heap} {tk3 : Nat} {m3 : Str → Option Value} {kk : Nat} {tt3 : Tok} (e3 : s₃ = { s with heap := h3, toks := tk3 }) (mt : m3 (Str.ofString "text") = some (.str ⟨(32 :: (rowL r9 ++ comma rs9)).toArray⟩ tt3)) (mp : m3 (Str.ofString "pairs") = some (.ref Pn)) (mr : m3 (Str.ofString "result") = some (.ref H))
  (F : Fr g' L' h3 m3) (N : News g' L' h3 ((Pn, listOf ([] : List Value).toArray 0) :: (H, listOf (rvs2 ++ [Value.ref Pq]).toArray kk) :: (72, tabObj ps2) :: (((Pq, listOf pvs.toArray k2) :: add2) ++ old ++ [(I, o)]))) :
  WhileStep2 g' L' s (gh pfx H I o old whole) Q n .next s₃ := by
 have hsub' : ∀ q ∈ add2 ++ old, q ∈ ((Pq, listOf pvs.toArray k2) :: add2) ++ old := fun q hq => .tail _ hq
 obtain ⟨i, ps, hi, rfl, hops, hl⟩ := hok
 refine ⟨h3, tk3, m3, _, 1 + 2 * (ps.length + (rs9.map List.length).sum), e3, F, N, ?_, m3, 32 :: (rowL ((Str.ofString "job", some i) :: ps) ++ comma rs9), tt3, Pn, [], 0, rvs2 ++ [Value.ref Pq], kk, ps2, (Pq, listOf pvs.toArray k2) :: add2, done ++ [dn], [], (Str.ofString "job", some i) :: ps, rs9, ?_, rfl, .nil, ?_, hT.mono hsub', ?_, Nat.lt_trans hIq hqn, hnq, ?_, hcl, .inl ⟨[32], (Str.ofString "job", some i), ps, rfl, ?_, .inl ⟨rfl, .inr rfl, i, hi, rfl⟩, hops, rfl⟩⟩
 ·rw [hn, List.length_cons]; omega
 ·funext y
  by_cases e1 : y = Str.ofString "text"
  ·rw [if_pos e1, e1, mt]
  ·rw [if_neg e1]
   by_cases e2 : y = Str.ofString "pairs"
   ·rw [if_pos e2, e2, mp]
   ·rw [if_neg e2]
    by_cases e3 : y = Str.ofString "result"
    ·rw [if_pos e3, e3, mr]
    ·rw [if_neg e3]
 ·rw [← List.append_assoc, List.map_append]
  refine (hD2.mono hsub').append (.one ?_)
  unfold datR
  refine DatIn.list (.head _) ?_
  rw [List.map_map]
  exact hD1.mono hsub'
 ·intro q hq
  rcases List.mem_cons.mp hq with rfl | hq
  ·exact ⟨hIq, Nat.ne_of_lt hqn⟩
  ·exact hA q hq
 ·rw [hsplit]; simp
 ·show 32 :: (rowL ((Str.ofString "job", some i) :: ps) ++ comma rs9) = [32] ++ _
  simp [rowL, semi, List.append_assoc]
theorem junkRead {pfx : List (List PR)} {H I : Addr} {o : Obj} {old : List (Addr × Obj)} {whole : List (List PR)} {g' : Heap} {L' : Addr} {s : Shared} {Q : Flow → Shared → Prop} {n : Nat} {Pq : Addr} {pvs : List Value} {k2 : Nat} {rvs2 : List Value} {k3 : Nat} {add2 : List (Addr × Obj)} {ps2 : Array Value} {done : List (List PR)} {dn : List PR} {rs' : List (List PR)} {p : PR} {ps9 : List PR}
  (hD1 : DatAll (add2 ++ old) pvs (dn.map fun p => datP (toP p))) (hD2 : DatAll (add2 ++ old) rvs2 ((pfx ++ done).map fun r => datR (r.map toP))) (hT : TabOk qS 29 49 ps2 (add2 ++ old)) (hA : ∀ p ∈ add2, I < p.1 ∧ p.1 ≠ Pq) (hIq : I < Pq) (hnq : ∀ p ∈ old, p.1 ≠ Pq) (hsplit : whole = done ++ (dn ++ p :: ps9) :: rs') (hcl : ((ptext p).cps.toList ++ (semi ps9 ++ comma rs')).length ≤ 10000) (hok : OkS (p :: ps9)) (hn : n = 2 * ((p :: ps9).length + (rs'.map List.length).sum))
  {s₃ : Shared} {h3 : Heap} {tk3 : Nat} {m3 : Str → Option Value} {tt3 : Tok} (e3 : s₃ = { s with heap := h3, toks := tk3 }) (mt : m3 (Str.ofString "text") = some (.str ⟨((ptext p).cps.toList ++ (semi ps9 ++ comma rs')).toArray⟩ tt3)) (mp : m3 (Str.ofString "pairs") = some (.ref Pq)) (mr : m3 (Str.ofString "result") = some (.ref H))
  (F : Fr g' L' h3 m3) (N : News g' L' h3 ((Pq, listOf pvs.toArray k2) :: (H, listOf rvs2.toArray k3) :: (72, tabObj ps2) :: (add2 ++ old ++ [(I, o)]))) :
  WhileStep2 g' L' s (gh pfx H I o old whole) Q n .next s₃ := by
 refine ⟨h3, tk3, m3, _, 1 + 2 * (ps9.length + (rs'.map List.length).sum), e3, F, N, ?_, m3, (ptext p).cps.toList ++ (semi ps9 ++ comma rs'), tt3, Pq, pvs, k2, rvs2, k3, ps2, add2, done, dn, p :: ps9, rs', ?_, rfl, hD1, hD2, hT, hA, hIq, hnq, hsplit, hcl, .inl ⟨[], p, ps9, rfl, rfl, .inr ⟨rfl, hok⟩, hok.2, rfl⟩⟩
 ·rw [hn, List.length_cons]; omega
 ·funext y
  by_cases e1 : y = Str.ofString "text"
  ·rw [if_pos e1, e1, mt]
  ·rw [if_neg e1]
   by_cases e2 : y = Str.ofString "pairs"
   ·rw [if_pos e2, e2, mp]
   ·rw [if_neg e2]
    by_cases e3 : y = Str.ofString "result"
    ·rw [if_pos e3, e3, mr]
    ·rw [if_neg e3]
theorem jU {prog : Program} {w : World} {A : Around} {E : Value → Shared → Prop} {s : Shared} {Q : Bool → Shared → Prop} {T : Str} {t : Tok} (h0 : T.cps.size ≠ 0) (hsz : T.cps.size ≤ 1000000) (h : ∀ k, Q true { s with toks := k }) : wpAny (model prog w) A (truthy (.str T t)) Q E s := by
 refine PySem.P.truthy_str (by show ¬ ((T.cps.size : Nat) : Int) ≥ 2 ^ 63; omega) ?_
 have e : ((T.length : Int) != 0) = true := bne_iff_ne.mpr (by show ((T.cps.size : Nat) : Int) ≠ 0; omega)
 rw [e]; exact h _
theorem lE {prog : Program} {w : World} {A : Around} {E : Value → Shared → Prop} {s : Shared} {Q : Bool → Shared → Prop} {T : Str} {t : Tok} (h0 : T.cps.size = 0) (h : ∀ k, Q false { s with toks := k }) : wpAny (model prog w) A (truthy (.str T t)) Q E s := by
 refine PySem.P.truthy_str (by show ¬ ((T.cps.size : Nat) : Int) ≥ 2 ^ 63; omega) ?_
 have e : ((T.length : Int) != 0) = false := by show (((T.cps.size : Nat) : Int) != 0) = false; rw [h0]; rfl
 rw [e]; exact h _
theorem aS {α : Type} {f : α → Str} : ∀ {vs : List Value} {xs : List α} {i : Nat} {v : Value}, StrsAre vs (xs.map f) → vs[i]? = some v → ∃ x t, xs[i]? = some x ∧ v = .str (f x) t
 | _, [], i, v, h, hv => by cases h; cases hv
 | _, x :: xs, 0, v, h, hv => by cases h; cases hv; exact ⟨x, _, rfl, rfl⟩
 | _, x :: xs, i + 1, v, h, hv => by
  cases h with
  | cons _ _ h =>
   rw [List.getElem?_cons_succ] at hv
   obtain ⟨y, t, h1, h2⟩ := aS h hv
   exact ⟨y, t, by rw [List.getElem?_cons_succ]; exact h1, h2⟩
theorem gB {r : List PR} (h : r ≠ []) : (rtext r).cps.toList = rowL r := by
 cases r with
 | nil => exact absurd rfl h
 | cons p ps =>
  unfold rtext
  rw [List.map_cons, iQ, List.flatMap_map]
  rfl
theorem gL {r : List PR} {rs : List (List PR)} (h0 : ∀ r' ∈ r :: rs, r' ≠ []) : (htext (r :: rs)).cps.toList = rowL r ++ comma rs := by
 unfold htext
 rw [List.map_cons, iQ, List.flatMap_map, gB (h0 r (.head _))]
 congr 1
 have h1 : ∀ r' ∈ rs, r' ≠ [] := fun r' hr' => h0 r' (.tail _ hr')
 clear h0
 induction rs with
 | nil => rfl
 | cons q qs ih =>
  unfold comma at ih ⊢
  rw [List.flatMap_cons, List.flatMap_cons, ih (fun r' hr' => h1 r' (.tail _ hr')), gB (h1 q (.head _))]
  rfl
theorem flat_len {rss : List (List (List PR))} (h : ∀ rs ∈ rss, rs.length ≤ 20) (hl : rss.length ≤ 20) (i : Nat) : (rss.take i).flatten.length ≤ 400 := by
 have key : ∀ (l : List (List (List PR))), (∀ rs ∈ l, rs.length ≤ 20) → l.flatten.length ≤ 20 * l.length := by
  intro l
  induction l with
  | nil => intro _; simp
  | cons a l ih =>
   intro h
   have h1 := h a (.head _)
   have h2 := ih fun rs hr => h rs (.tail _ hr)
   rw [List.flatten_cons, List.length_append, List.length_cons]
   omega
 have h1 := key (rss.take i) fun rs hr => h rs (List.mem_of_mem_take hr)
 have h2 : (rss.take i).length ≤ rss.length := by rw [List.length_take]; omega
 omega
theorem okS_good {ps : List PR} (h : OkS ps) : ∀ p ∈ ps, GoodP p := by
 induction ps with
 | nil => intro p hp; cases hp
 | cons q ps ih =>
  intro p hp
  rcases List.mem_cons.mp hp with rfl | hp
  ·rcases h.1 with ⟨e, i, hi, e2⟩ | ⟨e, _⟩
   ·exact ⟨.inr (.inl e), fun j hj => by rw [e2] at hj; cases hj; exact hi⟩
   ·rw [e]; exact ⟨.inr (.inr rfl), fun j hj => nomatch hj⟩
  ·exact ih h.2 p hp
theorem cj {r : List PR} (h : OkR r) : ∀ p ∈ r, GoodP p := by
 obtain ⟨i, ps, hi, rfl, h, _⟩ := h
 intro p hp
 rcases List.mem_cons.mp hp with rfl | hp
 ·exact ⟨.inl rfl, fun j hj => by cases hj; exact hi⟩
 ·exact okS_good h p hp
theorem cy {r : List PR} (h : OkR r) : r ≠ [] ∧ r.length ≤ 10 := by
 obtain ⟨i, ps, hi, rfl, h, hl⟩ := h
 exact ⟨by simp, by rw [List.length_cons]; omega⟩
theorem text_len {r0 : List PR} {rt : List (List PR)} (hl : (r0 :: rt).length ≤ 20) (h : ∀ r ∈ r0 :: rt, OkR r) : (rowL r0 ++ comma rt).length ≤ 20 * 142 := by
 rw [← gL (fun r' hr' => (cy (h r' hr')).1)]
 have := fP (sep := Str.ofString ", ") (ys := (r0 :: rt).map rtext) (n := 20) (B := 140) (by simpa using hl) (by intro y hy; obtain ⟨q, hq, rfl⟩ := List.mem_map.mp hy; exact eo (cy (h q hq)).2 (cj (h q hq))) (by decide)
 show (htext (r0 :: rt)).cps.toList.length ≤ _
 rw [Array.length_toList]
 exact this
theorem eD {c : Nat} {pre : List Nat} {gb ge : Nat} (hc : tokP[c]? = some (pre, gb, ge)) : pre ≠ [] := by
 match c, hc with
 | 0, hc => cases hc; simp
 | 1, hc => cases hc; simp
 | 2, hc => cases hc; simp
 | 3, hc => cases hc; simp
 | c + 4, hc => exact absurd hc (by simp [tokP])
theorem bY (key : Str) (n : Nat) : (ptext (key, some n)).cps.toList = key.cps.toList ++ (61 :: (qv n).cps.toList) := by
 show (key ++ (Str.ofString "=" ++ qv n)).cps.toList = _
 have e1 : ∀ a b : Str, (a ++ b).cps.toList = a.cps.toList ++ b.cps.toList := fun a b => by
  show (a.cps ++ b.cps).toList = _
  simp
 rw [e1, e1]
 rfl
theorem kl {n : Nat} (h0 : n ≠ 0) (h5 : n < 5) (tail : List Nat) : (⟨(⟨((61 :: (qv n).cps.toList) ++ tail).toArray⟩ : Str).cps.extract 2 (qv n).cps.size⟩ : Str) = esc n := by
 have key : ∀ q : List Nat, 2 ≤ q.length → (((61 :: q) ++ tail).toArray.extract 2 q.length) = ((q.drop 1).take (q.length - 2)).toArray := by
  intro q hq
  apply Array.ext'
  rw [Array.toList_extract]
  show List.extract ((61 :: q) ++ tail) 2 q.length = _
  rw [List.extract_eq_take_drop]
  show (((61 :: q) ++ tail).drop 2).take (q.length - 2) = (q.drop 1).take (q.length - 2)
  rw [List.drop_append_of_le_length (by simp; omega)]
  show (q.drop 1 ++ tail).take (q.length - 2) = _
  rw [List.take_append_of_le_length (by rw [List.length_drop]; omega)]
 show (⟨((61 :: (qv n).cps.toList) ++ tail).toArray.extract 2 (qv n).cps.size⟩ : Str) = esc n
 have e : (qv n).cps.size = (qv n).cps.toList.length := by simp
 rw [e]
 match n, h0, h5 with
 | 1, _, _ => rw [key _ (by decide)]; rfl
 | 2, _, _ => rw [key _ (by decide)]; rfl
 | 3, _, _ => rw [key _ (by decide)]; rfl
 | 4, _, _ => rw [key _ (by decide)]; rfl
theorem jW {prog : Program} {w : World} {A : Around} {E : Value → Shared → Prop} {s : Shared} {h₀ : Heap} {L : Addr} {m : Str → Option Value} {news : List (Addr × Obj)} {Q : Value → Shared → Prop} {n : Nat} {t : Tok} {f : Addr} {of : Obj} {x : Str} (hx : x = esc n) (hn0 : n ≠ 0) (hn5 : n < 5) (F : Fr h₀ L s.heap m) (N : News h₀ L s.heap news) (X : (Mine.hd.heap_39 w.params).In h₀) (hf : (f, of) ∈ news) (hfc : of.cls = .type "function")
  (hlam : dO prog w A E s h₀ L m news 70 f (Str.ofString ""))
  (h : ∀ t' h' tk, Fr h₀ L h' m → News h₀ L h' news → Q (.str (nm n) t') { s with heap := h', toks := tk }) :
  wpAny (model prog w) A (call (.builtin "re.Pattern.sub") [.ref 70, .ref f, .str x t]) Q E s := by
 subst hx
 exact sub_esc hn0 hn5 F N X hf hfc hlam h
theorem eW {pre : List Nat} {gb ge : Nat} {key : Str} (hkey : (⟨(pre.take ge).drop gb |>.toArray⟩ : Str) = key) (hge : ge ≤ pre.length) (X : List Nat) : (⟨(⟨(pre ++ X).toArray⟩ : Str).cps.extract gb ge⟩ : Str) = key := by
 rw [← hkey]
 congr 1
 apply Array.ext'
 rw [Array.toList_extract]
 show List.extract (pre ++ X) gb ge = (pre.take ge).drop gb
 rw [List.extract_eq_take_drop, ← List.drop_take, List.take_append_of_le_length hge]
theorem rstrip_a {prog : Program} {w : World} {A : Around} {E : Value → Shared → Prop} {s : Shared} {Q : Value → Shared → Prop} {x : Str} {t : Tok} (hx : x = nm 0) (h : ∀ t' k, Q (.str (nm 0) t') { s with toks := k }) : wpAny (model prog w) A (call (.builtin "str.rstrip") [.str x t]) Q E s := by
 subst hx
 have e : Txt.rstrip (nm 0) = nm 0 := by kernel_rfl
 refine SC.rstrip (fun t' k => ?_) (by decide)
 rw [e]; exact h t' k
theorem News.head1 {h₀ h : Heap} {L : Addr} {p : Addr × Obj} {l : List (Addr × Obj)} (N : News h₀ L h (p :: l)) : News h₀ L h [p] := News.sub N fun q hq => by rw [List.mem_singleton.mp hq]; exact .head _
theorem News.tail1 {h₀ h : Heap} {L : Addr} {p : Addr × Obj} {l : List (Addr × Obj)} (N : News h₀ L h (p :: l)) : News h₀ L h l := News.sub N fun _ hq => .tail _ hq
theorem News.cons1 {h₀ h : Heap} {L : Addr} {p : Addr × Obj} {l : List (Addr × Obj)} (N : News h₀ L h [p]) (N' : News h₀ L h l) : News h₀ L h (p :: l) := fun q hq => by
 rcases List.mem_cons.mp hq with rfl | hq
 ·exact N _ (.head _)
 ·exact N' _ hq
noncomputable def gg (tail : List Nat) : Prop := tail = [] ∨ (∃ R, tail = 59 :: 32 :: R) ∨ ∃ R, tail = 44 :: 32 :: R
theorem gy {ps : List PR} {rs : List (List PR)} {tail : List Nat} (h : semi ps ++ comma rs = tail) : gg tail := by
 subst h
 cases ps with
 | cons p ps => exact .inr (.inl ⟨_, rfl⟩)
 | nil =>
  cases rs with
  | nil => exact .inl rfl
  | cons r rs => exact .inr (.inr ⟨_, rfl⟩)
section
variable {prog : Program} {w : World} {A : Around} {E : Value → Shared → Prop} {s : Shared} {h₀ : Heap} {L : Addr} {mm : Str → Option Value} {news : List (Addr × Obj)} {T : Str} {t : Tok} {tail : List Nat} {Q : Value → Shared → Prop}
theorem quo_no_a (hk : gg tail) (X : (Mine.hd.heap_39 w.params).In s.heap) (hsz : T.cps.size ≤ 1000000) (hT : T.cps = (61 :: 97 :: tail).toArray) (h : Q .none s) :
  wpAny (model prog w) A (call (.builtin "re.Pattern.search") [.ref 60, .str T t]) Q E s := by
 rcases hk with rfl | ⟨R, rfl⟩ | ⟨R, rfl⟩
 ·exact km X hT h
 ·exact ko (pre := [61, 97, 59]) (R := 32 :: R) (.inr (.inl rfl)) X hsz hT h
 ·exact ko (pre := [61, 97, 44]) (R := 32 :: R) (.inr (.inr rfl)) X hsz hT h
theorem lz (hk : gg tail) (F : Fr h₀ L s.heap mm) (N : News h₀ L s.heap news) (X : (Mine.hd.heap_39 w.params).In s.heap) (hsz : T.cps.size ≤ 1000000) (hT : T.cps = (61 :: 97 :: tail).toArray)
  (h : ∀ li tu ma h', Fr h₀ L h' mm → News h₀ L h' ((ma, aK (.str T t) (.ref 65) T.cps.size li tu) :: (tu, bl (ba [0, 2, 1, 2])) :: news) → (∀ p ∈ news, p.1 < tu) → tu < ma → Q (.ref ma) { s with heap := h' }) :
  wpAny (model prog w) A (call (.builtin "re.Pattern.search") [.ref 65, .str T t]) Q E s := by
 rcases hk with rfl | ⟨R, rfl⟩ | ⟨R, rfl⟩
 ·exact iD F N X hT h
 ·exact lb (pre := [61, 97, 59]) (R := 32 :: R) (.inl rfl) F N X hsz hT h
 ·exact lb (pre := [61, 97, 44]) (R := 32 :: R) (.inr rfl) F N X hsz hT h
end
theorem my {dn : List PR} {sp : List Nat} {p : PR} {ps : List PR} (h : (dn = [] ∧ (sp = [] ∨ sp = [32]) ∧ ∃ i, i < 5 ∧ p = (Str.ofString "job", some i)) ∨ (sp = [] ∧ OkS (p :: ps))) :
  (∃ (c : Nat) (pre : List Nat) (gb ge : Nat) (key : Str) (n : Nat), tokP[c]? = some (pre, gb, ge) ∧ p = (key, some n) ∧ n < 5 ∧ sp ++ (ptext p).cps.toList = pre ++ (qv n).cps.toList ∧ pre.drop ge = [61] ∧ (⟨(pre.take ge).drop gb |>.toArray⟩ : Str) = key) ∨
  (sp = [] ∧ p = (Str.ofString "late", none) ∧ ∃ i q, ps = (Str.ofString "after", some i) :: q) := by
 rcases h with ⟨_, hsp, i, hi, rfl⟩ | ⟨rfl, h, _⟩
 ·rcases hsp with rfl | rfl
  ·exact .inl ⟨0, [106, 111, 98, 61], 0, 3, _, i, rfl, rfl, hi, by rw [bY]; rfl, rfl, by rfl⟩
  ·exact .inl ⟨1, [32, 106, 111, 98, 61], 1, 4, _, i, rfl, rfl, hi, by rw [bY]; rfl, rfl, by rfl⟩
 ·rcases h with ⟨e1, i, hi, e2⟩ | ⟨rfl, h⟩
  ·obtain ⟨k, v⟩ := p
   dsimp only at e1 e2
   subst e1 e2
   exact .inl ⟨2, [97, 102, 116, 101, 114, 61], 0, 5, _, i, rfl, rfl, hi, by rw [bY]; rfl, rfl, by rfl⟩
  ·exact .inr ⟨rfl, rfl, h⟩
theorem rlD93 : True := by
 k_with "getMethod ref" => (k_here; (with_reducible show wpAny _ _ (getMethod (Value.ref _) (Str.ofString "group") _) _ _ _); refine cz slot_group dC (by k_asm) (List.Mem.head _) ?_)
 k_with "call builtin:re.Match.group" => (k_here; refine dM (by k_asm) (List.Mem.head _) (List.Mem.tail _ (List.Mem.head _)) (by assumption) ?_; intro _ _)
 k_with "truthy str" => (k_here; first | (refine jU (by assumption) (by assumption) ?_; intro _) | (refine lE (by assumption) ?_; intro _))
 k_with "truthy ref" => (k_here; refine cu (by k_asm) (List.Mem.head _) ?_)
 trivial
inductive lq (rss : List (List (List PR))) (H : Addr) (news : List (Addr × Obj)) (i : Nat) (m : Str → Option Value) (nx : List (Addr × Obj)) : Prop where
 | mk : ∀ (u : Str → Option Value) (rvs : List Value) (k : Nat) (ps' : Array Value) (add : List (Addr × Obj)), (m = (fun y => if y = Str.ofString "result" then some (.ref H) else u y)) → (nx = (H, listOf rvs.toArray k) :: (72, tabObj ps') :: (add ++ news)) → (DatAll (add ++ news) rvs ((rss.take i).flatten.map fun r => datR (r.map toP))) → (TabOk qS 29 49 ps' (add ++ news)) → (∀ p ∈ add, H < p.1) → lq rss H news i m nx
noncomputable def cA (w : World) (l : Addr) (rss : List (List (List PR))) : Prop := ∀ (hrs : rss.length ≤ 20) (hg : ∀ rs ∈ rss, rs ≠ [] ∧ rs.length ≤ 20 ∧ ∀ r ∈ rs, OkR r), Tab1 w 77 [.ref l] 72 qS 29 49 (fun nx => ∃ vs nn, (l, listOf vs.toArray nn) ∈ nx ∧ StrsAre vs (rss.map htext)) (fun nx r => DatIn nx r (datRs (rss.flatten.map (·.map toP))))
noncomputable def aP : (World × Addr) × (List (List (List PR))) := @Classical.epsilon _ (by have := neW; infer_instance) fun x => ¬ u3 cA x
theorem ky : u3 cA aP := by
 intro hrs hg
 unfold Tab1
 k_fill
 intro p loose mean mg mb dp un gd cn cs a ccd cl outer A₀ base h₀ L m ps news s Q E B F X N T hk hd hu hP hTab hpre hret
 obtain ⟨vs, nn, hl0, hvs⟩ := hpre
 refine wpAny_call ?_
 k_dflt cell_enter
 k_steps
 rename_i g' L' hh1 FG B' X' T' tkx H hh2 lH hh3 F' N'
 have lH' : ∀ p ∈ (72, tabObj ps) :: news, p.1 < H := lt0 (by first | assumption | exact tb_ltOf lH)
 refine dw (l := (aP.1.2)) (vs := vs) (nn := nn) (lq (aP.2) H news) rfl F' N' (fun Q' h' => ?_) ?_ ?_ ?_ ?_
 ·k_steps
  exact h'
 ·exact ⟨_, [], 0, ps, [], rfl, rfl, .nil, hTab, fun _ h => nomatch h⟩
 ·rintro i m nx ⟨u, rvs, k, ps', add, rfl, rfl, hS, hTab', hadd⟩
  exact .tail _ (.tail _ (List.mem_append.mpr (.inr hl0)))
 ·intro I i v m₁ nx h tk o hv zp1 hI hIn F₁ N₁
  walk_at "mine hide"
  obtain ⟨u, rvs, k, ps', add, rfl, rfl, hS, hTab', hadd⟩ := zp1
  obtain ⟨rs, tv, hr, rfl⟩ : ∃ rs tv, (aP.2)[i]? = some rs ∧ v = .str (htext rs) tv := aS hvs hv
  k_steps
  rename_i hh4 Pp hh5 lP hh6 F₂ N₂
  walk_at "mine open"
  have hrm : rs ∈ (aP.2) := List.mem_of_getElem? hr
  obtain ⟨hrs0, hrs20, hrok⟩ := hg rs hrm
  obtain ⟨r0, rt, rfl⟩ : ∃ r0 rt, rs = r0 :: rt := by
   cases rs with
   | nil => exact absurd rfl hrs0
   | cons a b => exact ⟨a, b, rfl⟩
  have hne : ∀ r' ∈ r0 :: rt, r' ≠ [] := fun r' hr' => by obtain ⟨i, ps, _, e, _⟩ := hrok r' hr'; rw [e]; simp
  have hcps := gL hne
  have h72H : 72 < H := lH' _ (.head _)
  have hHP : H < Pp := lP (H, listOf rvs.toArray k) (.head _)
  have hIP : I < Pp := lP (I, o) (by simp)
  have hHI : H < I := hIn (H, listOf ([] : List Value).toArray 0) (.head _)
  have hnP : ∀ p ∈ add ++ news, p.1 < Pp := fun p hp => lP p (.tail _ (.tail _ (List.mem_append.mpr (.inl hp))))
  refine While_inv2 (h₀ := g') (L := L') (m := (fun y => if y = Str.ofString "text" then some (Value.str ⟨(rowL r0 ++ comma rt).toArray⟩ tv) else if y = Str.ofString "pairs" then some (.ref Pp) else if y = Str.ofString "result" then some (.ref H) else if y = Str.ofString "orig_text" then some (.str (htext (r0 :: rt)) tv) else u y)) (news := (Pp, listOf ([] : List Value).toArray 0) :: (H, listOf rvs.toArray k) :: (72, tabObj ps') :: ([] ++ (add ++ news) ++ [(I, o)]))
   (gh (((aP.2).take i).flatten) H I o (add ++ news) (r0 :: rt)) (n₀ := 1 + 2 * (r0.length - 1 + (rt.map List.length).sum)) ?_ ?_ ?_ ?_
  ·have ev : htext (r0 :: rt) = ⟨(rowL r0 ++ comma rt).toArray⟩ := by rw [← hcps]
   have em : (fun y => if y = Str.ofString "text" then some (Value.str ⟨(rowL r0 ++ comma rt).toArray⟩ tv) else if y = Str.ofString "pairs" then some (.ref Pp) else if y = Str.ofString "result" then some (.ref H) else if y = Str.ofString "orig_text" then some (.str (htext (r0 :: rt)) tv) else u y) = (fun y => if y = Str.ofString "pairs" then some (.ref Pp) else if y = Str.ofString "orig_text" then some (.str (htext (r0 :: rt)) tv) else if y = Str.ofString "text" then some (.str (htext (r0 :: rt)) tv) else if y = Str.ofString "result" then some (.ref H) else u y) := by
    rw [← ev]
    funext y
    by_cases e1 : y = Str.ofString "text"
    ·subst e1; rfl
    ·by_cases e2 : y = Str.ofString "pairs"
     ·subst e2; rfl
     ·by_cases e3 : y = Str.ofString "result"
      ·subst e3; rfl
      ·rw [if_neg e1, if_neg e2, if_neg e3, if_neg e2, if_neg e1, if_neg e3]
   rw [em]
   exact F₂
  ·exact News.sub N₂ (by
    walk_at "mine sub")
  ·obtain ⟨i0, ps0, hi0, e0, ho0, hl9⟩ := hrok r0 (.head _)
   refine ⟨(fun y => if y = Str.ofString "orig_text" then some (.str (htext (r0 :: rt)) tv) else u y), rowL r0 ++ comma rt, tv, Pp, [], 0, rvs, k, ps', [], [], [], r0, rt, rfl, rfl, .nil, by rw [List.append_nil]; exact hS, hTab', (fun _ h => nomatch h), hIP, fun p hp => Nat.ne_of_lt (hnP p hp), rfl, ?_, .inl ⟨[], (Str.ofString "job", some i0), ps0, e0, ?_, .inl ⟨rfl, .inl rfl, i0, hi0, rfl⟩, ho0, ?_⟩⟩
   ·exact Nat.le_trans (text_len hrs20 hrok) (by decide)
   ·rw [e0]; simp [rowL, semi, List.append_assoc]
   ·rw [e0]; simp
  ·intro n m₁ nx₁ h₁ tk₁ F₃ N₃ zp2
   walk_at "mine hide"
   obtain ⟨u2, cs, tt, Pq, pvs, k2, rvs2, k3, ps2, add2, done, dn, rem, rs', rfl, rfl, hD1, hD2, hT2, hA2, hIq, hnq, hsplit, hcl, hst⟩ := zp2
   have hdl : done.length ≤ 20 ∧ dn.length ≤ 4 := by
    have e1 := congrArg List.length hsplit
    simp only [List.length_append, List.length_cons] at e1
    have e2 : (dn ++ rem).length ≤ 4 := by
     obtain ⟨i, ps, _, e, _, hl⟩ := hrok (dn ++ rem) (by rw [hsplit]; simp)
     rw [e, List.length_cons]; omega
    rw [List.length_append] at e2
    simp only [List.length_cons] at hrs20
    constructor <;> omega
   replace hdl := held (P := Held (Held (done.length ≤ 20 ∧ dn.length ≤ 4))) hdl
   have hpl : pvs.length ≤ sizeLine := by
    obtain ⟨hdl1, hdl2⟩ : done.length ≤ 20 ∧ dn.length ≤ 4 := hdl
    have sl0 : sizeLine = 16777216 := rfl
    have e1 := hD1.length
    rw [List.length_map] at e1
    omega
   have hrl : rvs2.length ≤ sizeLine := by
    obtain ⟨hdl1, hdl2⟩ : done.length ≤ 20 ∧ dn.length ≤ 4 := hdl
    have sl0 : sizeLine = 16777216 := rfl
    have e1 := hD2.length
    rw [List.length_map, List.length_append] at e1
    have e2 := flat_len (fun rs h => (hg rs h).2.1) hrs i
    omega
   clear hdl
   rcases hst with ⟨sp, p, ps9, rfl, rfl, hkind, hok, rfl⟩ | ⟨hdn, rfl, hok, rfl⟩
   ·rcases my hkind with ⟨c, pre, gb, ge, key, n, hc, rfl, hn5, hpre, hdrop, hkey⟩ | ⟨rfl, rfl, i9, q9, rfl⟩
    ·have hT : sp ++ ((ptext (key, some n)).cps.toList ++ (semi ps9 ++ comma rs')) = pre ++ ((qv n).cps.toList ++ (semi ps9 ++ comma rs')) := by rw [← List.append_assoc, hpre, List.append_assoc]
     rw [hT] at hcl F₃
     generalize htail : semi ps9 ++ comma rs' = tail at *
     by_cases hn0 : n = 0
     ·subst hn0
      have hsz : (⟨(pre ++ ((qv 0).cps.toList ++ tail)).toArray⟩ : Str).cps.size ≤ 1000000 := by show (pre ++ ((qv 0).cps.toList ++ tail)).length ≤ 1000000; omega
      have hsz0 : (⟨(pre ++ ((qv 0).cps.toList ++ tail)).toArray⟩ : Str).cps.size ≠ 0 := by simp [eD hc]
      k_steps
      apply gQ hc (by assumption) (by assumption) (X'.keeps F₃.keep) hsz rfl
      intro li tu ma h4 F4 N4 l1 l2
      k_steps
      rename Fr _ _ _ _ => F5
      rename News _ _ _ _ => N5
      have hge : ge < pre.length := by
       have e1 : (pre.drop ge).length = 1 := by rw [hdrop]; rfl
       rw [List.length_drop] at e1; omega
      refine bv (aP.1.1) ma tu ⟨(pre ++ ((qv 0).cps.toList ++ tail)).toArray⟩ tt _ _ _ ge gb ge hsz (by show ge ≤ (pre ++ ((qv 0).cps.toList ++ tail)).length; rw [List.length_append]; omega) p loose mean mg mb (dp + 1) (un + 3) gd _ _ _ _ [] (envX cn cs L a ccd cl :: outer) _ _ g' L' _ _ _ _ _ B' F5 X' N5 T' rfl (by omega) (by omega) ⟨.head _, .tail _ (.head _)⟩ ?_
      intro r6 tl6 h6 tk6 F6 N6 l6 zp3
      walk_at "mine hide"
      obtain ⟨t6, rfl⟩ := zp3
      have ed : (⟨(pre ++ ((qv 0).cps.toList ++ tail)).toArray⟩ : Str).cps.toList.drop ge = 61 :: 97 :: tail := by
       show (pre ++ ((qv 0).cps.toList ++ tail)).drop ge = _
       rw [List.drop_append_of_le_length (by omega), hdrop]; rfl
      have hsz2 : (⟨(61 :: 97 :: tail).toArray⟩ : Str).cps.size ≤ 1000000 := by
       show (61 :: 97 :: tail).length ≤ 1000000
       rw [← ed]
       have := List.length_drop (l := pre ++ ((qv 0).cps.toList ++ tail)) (i := ge)
       show (List.drop ge (pre ++ ((qv 0).cps.toList ++ tail))).length ≤ 1000000
       omega
      first | k_unfold | (show gk; k_unfold)
      rw [ed]
      replace N6 := News.sub N6 (fun p hp => List.mem_append.mpr (.inr hp))
      k_steps
      rename Fr _ _ _ _ => F7
      rename News _ _ _ _ => N7
      apply quo_no_a (gy htail) (X'.keeps F7.keep) hsz2 rfl
      k_steps
      rename Fr _ _ _ _ => F8
      rename News _ _ _ _ => N8
      apply lz (gy htail) (by assumption) (by assumption) (X'.keeps F8.keep) hsz2 rfl
      intro li8 tu8 ma8 h8 F8 N8 l18 l28
      k_steps
      rename Fr _ _ _ _ => F9
      rename News _ _ _ _ => N9
      refine bv (aP.1.1) ma8 tu8 ⟨(61 :: 97 :: tail).toArray⟩ t6 _ _ _ 2 1 2 hsz2 (by show 2 ≤ (61 :: 97 :: tail).length; simp) p loose mean mg mb (dp + 1) (un + 3) gd _ _ _ _ [] (envX cn cs L a ccd cl :: outer) _ _ g' L' _ _ _ _ _ B' F9 X' N9 T' rfl (by omega) (by omega) ⟨.head _, .tail _ (.head _)⟩ ?_
      intro r10 tl10 h10 tk10 F10 N10 l10 zp4
      walk_at "mine hide"
      obtain ⟨t10, rfl⟩ := zp4
      have ed2 : (⟨(61 :: 97 :: tail).toArray⟩ : Str).cps.toList.drop 2 = tail := rfl
      first | k_unfold | (show gk; k_unfold)
      rw [ed2]
      replace N10 := News.sub N10 (fun p hp => List.mem_append.mpr (.inr hp))
      k_steps
      unfold Held
      apply rstrip_a (x := ⟨(⟨(61 :: 97 :: tail).toArray⟩ : Str).cps.extract 1 2⟩) (eW (pre := [61, 97]) rfl (by decide) tail)
      intro t15 k15
      k_steps
      rename_i D16 h16 F16 N16 l16
      have ekq : (⟨(⟨(pre ++ ((qv 0).cps.toList ++ tail)).toArray⟩ : Str).cps.extract gb ge⟩ : Str) = key := eW hkey (Nat.le_of_lt hge) _
      replace l16 := l16.2.2.2.2
      have l16' : ∀ p ∈ add2 ++ (add ++ news) ++ [(I, o)], p.1 < D16 := tb_ltOf l16.2.2.2
      have Nr : News g' L' h16 ((Pq, listOf pvs.toArray k2) :: ((H, listOf rvs2.toArray k3) :: (72, tabObj ps2) :: (add2 ++ (add ++ news) ++ [(I, o)]))) := News.tail1 (News.tail1 (News.tail1 (News.tail1 (News.tail1 N16))))
      obtain ⟨O16, t16, N16, hO⟩ : ∃ O t, News g' L' h16 [(D16, O)] ∧ O = ({ cls := .type "tuple", data := .seq #[Value.str (⟨(⟨(pre ++ ((qv 0).cps.toList ++ tail)).toArray⟩ : Str).cps.extract gb ge⟩ : Str) t, Value.str (nm 0) t15] } : Obj) := ⟨_, _, News.head1 N16, rfl⟩
      replace N16 := News.cons1 N16 Nr
      rw [ekq] at hO
      refine be (d := Pq) (vs := pvs) (k := k2) (rest := (H, listOf rvs2.toArray k3) :: (72, tabObj ps2) :: (((D16, O16) :: add2) ++ (add ++ news) ++ [(I, o)])) F16 (News.sub N16 (by
       walk_at "mine sub")) ?_ hpl ?_
      ·intro p hp
       simp only [List.cons_append, List.append_assoc, List.mem_append, List.mem_cons, List.not_mem_nil, or_false] at hp
       rcases hp with rfl | rfl | rfl | hp | hp | hp | rfl
       ·exact Nat.ne_of_lt (Nat.lt_trans hHI hIq)
       ·exact Nat.ne_of_lt (Nat.lt_trans h72H (Nat.lt_trans hHI hIq))
       ·exact Nat.ne_of_gt l16.1
       ·exact (hA2 p hp).2
       ·exact hnq p (List.mem_append.mpr (.inl hp))
       ·exact hnq p (List.mem_append.mpr (.inr hp))
       ·exact Nat.ne_of_lt hIq
      ·intro h17 F17 N17
       repeat (refine wpAny_execs_nil ?_)
       refine fC (p := (key, some 0)) (add3 := (D16, O16) :: add2) hD1 hD2 hIq hnq hsplit (by rw [htail]; rw [List.length_append] at hcl; simp only [List.length_append, List.length_cons] at hcl; omega) hok rfl rfl (by rw [htail]; rfl) rfl rfl F17 N17 ?_ ?_ ?_ ?_
       ·rw [hO]
        exact DatIn.tuple (vs := [_, _]) (.head _) (.cons (DatIn.str _ _) (.cons (DatIn.str _ _) .nil))
       ·intro q hq
        exact .tail _ hq
       ·exact TabOk.mono hT2 fun p hp => .tail _ hp
       ·intro q hq
        rcases List.mem_cons.mp hq with rfl | hq
        ·exact ⟨l16' (I, o) (by simp), Nat.ne_of_gt l16.1⟩
        ·exact hA2 q hq
     ·have hsz : (⟨(pre ++ ((qv n).cps.toList ++ tail)).toArray⟩ : Str).cps.size ≤ 1000000 := by show (pre ++ ((qv n).cps.toList ++ tail)).length ≤ 1000000; omega
      have hsz0 : (⟨(pre ++ ((qv n).cps.toList ++ tail)).toArray⟩ : Str).cps.size ≠ 0 := by simp [eD hc]
      k_steps
      apply gQ hc (by assumption) (by assumption) (X'.keeps F₃.keep) hsz rfl
      intro li tu ma h4 F4 N4 l1 l2
      k_steps
      rename Fr _ _ _ _ => F5
      rename News _ _ _ _ => N5
      have hge : ge < pre.length := by
       have e1 : (pre.drop ge).length = 1 := by rw [hdrop]; rfl
       rw [List.length_drop] at e1; omega
      refine bv (aP.1.1) ma tu ⟨(pre ++ ((qv n).cps.toList ++ tail)).toArray⟩ tt _ _ _ ge gb ge hsz (by show ge ≤ (pre ++ ((qv n).cps.toList ++ tail)).length; rw [List.length_append]; omega) p loose mean mg mb (dp + 1) (un + 3) gd _ _ _ _ [] (envX cn cs L a ccd cl :: outer) _ _ g' L' _ _ _ _ _ B' F5 X' N5 T' rfl (by omega) (by omega) ⟨.head _, .tail _ (.head _)⟩ ?_
      intro r6 tl6 h6 tk6 F6 N6 l6 zp5
      walk_at "mine hide"
      obtain ⟨t6, rfl⟩ := zp5
      have ed : (⟨(pre ++ ((qv n).cps.toList ++ tail)).toArray⟩ : Str).cps.toList.drop ge = (61 :: (qv n).cps.toList) ++ tail := by
       show (pre ++ ((qv n).cps.toList ++ tail)).drop ge = _
       rw [List.drop_append_of_le_length (by omega), hdrop]; rfl
      first | k_unfold | (show gk; k_unfold)
      rw [ed]
      replace N6 := News.sub N6 (fun p hp => List.mem_append.mpr (.inr hp))
      have hsz2 : (⟨((61 :: (qv n).cps.toList) ++ tail).toArray⟩ : Str).cps.size ≤ 1000000 := by
       show ((61 :: (qv n).cps.toList) ++ tail).length ≤ 1000000
       rw [← ed]
       have := List.length_drop (l := pre ++ ((qv n).cps.toList ++ tail)) (i := ge)
       show (List.drop ge (pre ++ ((qv n).cps.toList ++ tail))).length ≤ 1000000
       omega
      k_steps
      rename Fr _ _ _ _ => F7
      rename News _ _ _ _ => N7
      apply quo_yes hn0 hn5 rfl (by assumption) (by assumption) (X'.keeps F7.keep) hsz2 rfl
      intro li8 tu8 ma8 h8 F8 N8 l18 l28
      k_steps
      rename Fr _ _ _ _ => F9
      rename News _ _ _ _ => N9
      refine bv (aP.1.1) ma8 tu8 ⟨((61 :: (qv n).cps.toList) ++ tail).toArray⟩ t6 _ _ _ ((qv n).cps.size + 1) 2 (qv n).cps.size hsz2 (by show (qv n).cps.size + 1 ≤ ((61 :: (qv n).cps.toList) ++ tail).length; simp) p loose mean mg mb (dp + 1) (un + 3) gd _ _ _ _ [] (envX cn cs L a ccd cl :: outer) _ _ g' L' _ _ _ _ _ B' F9 X' N9 T' rfl (by omega) (by omega) ⟨.head _, .tail _ (.head _)⟩ ?_
      intro r10 tl10 h10 tk10 F10 N10 l10 zp6
      walk_at "mine hide"
      obtain ⟨t10, rfl⟩ := zp6
      have ed2 : (⟨((61 :: (qv n).cps.toList) ++ tail).toArray⟩ : Str).cps.toList.drop ((qv n).cps.size + 1) = tail := by
       show ((61 :: (qv n).cps.toList) ++ tail).drop ((qv n).cps.size + 1) = tail
       rw [List.drop_append, List.drop_of_length_le (by simp)]
       simp
      first | k_unfold | (show gk; k_unfold)
      rw [ed2]
      replace N10 := News.sub N10 (fun p hp => List.mem_append.mpr (.inr hp))
      k_steps
      rename Fr _ _ _ _ => F11
      rename News _ _ _ _ => N11
      refine eM (P := 72) (c := 76) (qual := qS) (rest0 := add2 ++ (add ++ news)) (rest := (Pq, listOf pvs.toArray k2) :: (H, listOf rvs2.toArray k3) :: (add2 ++ (add ++ news) ++ [(I, o)])) (ps := ps2) F11 (News.sub N11 (by
       walk_at "mine sub")) T' (codeHd_of_K X' (by rfl)) rfl ?_ rfl hT2 (by
       walk_at "mine sub") rfl rfl ?_
      ·intro p hp
       simp only [List.cons_append, List.append_assoc, List.mem_append, List.mem_cons, List.not_mem_nil, or_false] at hp
       rcases hp with rfl | rfl | hp | hp | hp | rfl
       ·exact Nat.ne_of_gt (Nat.lt_trans h72H (Nat.lt_trans hHI hIq))
       ·exact Nat.ne_of_gt h72H
       ·exact Nat.ne_of_gt (Nat.lt_trans h72H (Nat.lt_trans hHI (hA2 p hp).1))
       ·exact Nat.ne_of_gt (Nat.lt_trans h72H (hadd p hp))
       ·exact hP p hp
       ·exact Nat.ne_of_gt (Nat.lt_trans h72H hHI)
      ·intro f c' ctv ps3 addL h12 tk12 F12 N12 hT3 hC3 lL lf
       k_steps
       refine jW (kl hn0 hn5 tail) hn0 hn5 F12 N12 X' (.head _) rfl ?_ ?_
       ·intro s' nx lim li tu ma T9 t9' b9 e9 gb9 ge9 Q' hs' F13 N13 hsub hsz9 hq
        obtain ⟨h13, tk13, rfl⟩ := hs'
        obtain ⟨oc, vs9, t99, hoc, hdc, hvc⟩ := hC3
        refine wpAny_call ?_
        refine kla_code B' F13 X' N13 T' rfl rfl rfl (List.mem_cons_of_mem _ (List.mem_cons_of_mem _ (hsub _ (.head _)))) (codeRec_news N13 (List.mem_cons_of_mem _ (List.mem_cons_of_mem _ (hsub _ (.tail _ (.tail _ hoc))))) hdc hvc) ?_ rfl (locs rfl) ?_ rfl rfl rfl (by decide)
        ·show dp + 1 < recursionLimit
         omega
        ·intro g2 L2 h7 FG2 F14 N14 B7 X7 T7
         k_steps
         unfold Held
         have hY : (⟨T9.cps.extract gb9 ge9⟩ : Str).length ≤ 1000000 := by
          have e1 : (T9.cps.extract gb9 ge9).size ≤ T9.cps.size := by rw [Array.size_extract]; omega
          show (T9.cps.extract gb9 ge9).size ≤ 1000000
          omega
         generalize (⟨T9.cps.extract gb9 ge9⟩ : Str) = Y at *
         refine PySem.P.truthy_str (by omega) ?_
         have sl0 : sizeLine = 16777216 := rfl
         by_cases hY0 : Y.length = 0
         ·have eY : Y = Str.ofString "" := by
           have : Y.cps = #[] := Array.size_eq_zero_iff.mp hY0
           cases Y; cases this; rfl
          rw [if_neg (by rw [hY0]; decide)]
          k_steps
          rw [eY] at hq
          exact hq _ _ _ (by assumption) (News.sub (by assumption) (fun _ h => .tail _ (.tail _ h)))
         ·rw [if_pos (by simpa using hY0)]
          refine PyProof.Rows.add_str ?_ (by have : (Str.ofString "").length = 0 := rfl; omega)
          k_steps
          exact hq _ _ _ (by assumption) (News.sub (by assumption) (fun _ h => .tail _ (.tail _ h)))
       ·intro t15 h15 tk15 F15 N15
        replace N15 : News g' L' h15 ((Pq, listOf pvs.toArray k2) :: ((H, listOf rvs2.toArray k3) :: (72, tabObj ps3) :: ((addL ++ add2) ++ (add ++ news) ++ [(I, o)]))) := News.sub N15 (by
         walk_at "mine sub")
        k_steps
        rename_i D16 h16 F16 N16 l16
        have ekq : (⟨(⟨(pre ++ ((qv n).cps.toList ++ tail)).toArray⟩ : Str).cps.extract gb ge⟩ : Str) = key := eW hkey (Nat.le_of_lt hge) _
        have l16' : ∀ p ∈ (addL ++ add2) ++ (add ++ news) ++ [(I, o)], p.1 < D16 := tb_ltOf l16.2.2.2
        have lA3 : ∀ p ∈ addL, I < p.1 ∧ p.1 ≠ Pq := fun p hp => ⟨lL (I, o) (by simp) p hp, Nat.ne_of_gt (lL (Pq, listOf pvs.toArray k2) (.tail _ (.head _)) p hp)⟩
        obtain ⟨O16, t16, N16, hO⟩ : ∃ O t, News g' L' h16 ((D16, O) :: (Pq, listOf pvs.toArray k2) :: ((H, listOf rvs2.toArray k3) :: (72, tabObj ps3) :: ((addL ++ add2) ++ (add ++ news) ++ [(I, o)]))) ∧ O = ({ cls := .type "tuple", data := .seq #[Value.str (⟨(⟨(pre ++ ((qv n).cps.toList ++ tail)).toArray⟩ : Str).cps.extract gb ge⟩ : Str) t, Value.str (nm n) t15] } : Obj) := ⟨_, _, N16, rfl⟩
        rw [ekq] at hO
        refine be (d := Pq) (vs := pvs) (k := k2) (rest := (H, listOf rvs2.toArray k3) :: (72, tabObj ps3) :: (((D16, O16) :: (addL ++ add2)) ++ (add ++ news) ++ [(I, o)])) F16 (News.sub N16 (by
         walk_at "mine sub")) ?_ hpl ?_
        ·intro p hp
         simp only [List.cons_append, List.append_assoc, List.mem_append, List.mem_cons, List.not_mem_nil, or_false] at hp
         rcases hp with rfl | rfl | rfl | hp | hp | hp | hp | rfl
         ·exact Nat.ne_of_lt (Nat.lt_trans hHI hIq)
         ·exact Nat.ne_of_lt (Nat.lt_trans h72H (Nat.lt_trans hHI hIq))
         ·exact Nat.ne_of_gt l16.1
         ·exact (lA3 p hp).2
         ·exact (hA2 p hp).2
         ·exact hnq p (List.mem_append.mpr (.inl hp))
         ·exact hnq p (List.mem_append.mpr (.inr hp))
         ·exact Nat.ne_of_lt hIq
        ·intro h17 F17 N17
         repeat (refine wpAny_execs_nil ?_)
         refine fC (p := (key, some n)) (add3 := (D16, O16) :: (addL ++ add2)) hD1 hD2 hIq hnq hsplit (by rw [htail]; rw [List.length_append, List.length_append] at hcl; omega) hok rfl rfl (by rw [htail]; rfl) rfl rfl F17 N17 ?_ ?_ ?_ ?_
         ·rw [hO]
          exact DatIn.tuple (vs := [_, _]) (.head _) (.cons (DatIn.str _ _) (.cons (DatIn.str _ _) .nil))
         ·intro q hq
          exact .tail _ (List.mem_append.mpr (.inr hq))
         ·refine TabOk.mono hT3 ?_
          walk_at "mine sub"
         ·intro q hq
          rcases List.mem_cons.mp hq with rfl | hq
          ·exact ⟨l16' (I, o) (by simp), Nat.ne_of_gt l16.1⟩
          ·rcases List.mem_append.mp hq with hq | hq
           ·exact lA3 q hq
           ·exact hA2 q hq
    ·obtain ⟨R, htail⟩ : ∃ R, semi ((Str.ofString "after", some i9) :: q9) ++ comma rs' = 59 :: 32 :: 97 :: R := by
      refine ⟨[102, 116, 101, 114, 61] ++ ((qv i9).cps.toList ++ (semi q9 ++ comma rs')), ?_⟩
      show (59 :: 32 :: (ptext (Str.ofString "after", some i9)).cps.toList ++ semi q9) ++ comma rs' = _
      have e1 : (Str.ofString "after").cps.toList = [97, 102, 116, 101, 114] := rfl
      rw [bY, e1]
      simp
     have hT : [] ++ ((ptext (Str.ofString "late", none)).cps.toList ++ (semi ((Str.ofString "after", some i9) :: q9) ++ comma rs')) = [108, 97, 116, 101, 59] ++ (32 :: 97 :: R) := by rw [htail]; rfl
     rw [hT] at hcl F₃
     have hsz : (⟨([108, 97, 116, 101, 59] ++ (32 :: 97 :: R)).toArray⟩ : Str).cps.size ≤ 1000000 := by show ([108, 97, 116, 101, 59] ++ (32 :: 97 :: R)).length ≤ 1000000; omega
     have hsz0 : (⟨([108, 97, 116, 101, 59] ++ (32 :: 97 :: R)).toArray⟩ : Str).cps.size ≠ 0 := by simp
     k_steps
     apply gQ (c := 3) rfl (by assumption) (by assumption) (X'.keeps F₃.keep) hsz rfl
     intro li tu ma h4 F4 N4 l1 l2
     k_steps
     rename Fr _ _ _ _ => F5
     rename News _ _ _ _ => N5
     refine bv (aP.1.1) ma tu ⟨([108, 97, 116, 101, 59] ++ (32 :: 97 :: R)).toArray⟩ tt _ _ _ 4 0 4 hsz (by show 4 ≤ ([108, 97, 116, 101, 59] ++ (32 :: 97 :: R)).length; simp) p loose mean mg mb (dp + 1) (un + 3) gd _ _ _ _ [] (envX cn cs L a ccd cl :: outer) _ _ g' L' _ _ _ _ _ B' F5 X' N5 T' rfl (by omega) (by omega) ⟨.head _, .tail _ (.head _)⟩ ?_
     intro r6 tl6 h6 tk6 F6 N6 l6 zp7
     walk_at "mine hide"
     obtain ⟨t6, rfl⟩ := zp7
     have ed : (⟨([108, 97, 116, 101, 59] ++ (32 :: 97 :: R)).toArray⟩ : Str).cps.toList.drop 4 = 59 :: 32 :: 97 :: R := rfl
     have hsz2 : (⟨(59 :: 32 :: 97 :: R).toArray⟩ : Str).cps.size ≤ 1000000 := by
      show (59 :: 32 :: 97 :: R).length ≤ 1000000
      simp only [List.length_append, List.length_cons, List.length_nil] at hcl ⊢
      omega
     first | k_unfold | (show gk; k_unfold)
     rw [ed]
     replace N6 := News.sub N6 (fun p hp => List.mem_append.mpr (.inr hp))
     k_steps
     rename Fr _ _ _ _ => F7
     rename News _ _ _ _ => N7
     apply ko (pre := [59, 32, 97]) (R := R) (.inl rfl) (X'.keeps F7.keep) hsz2 rfl
     k_steps
     rename Fr _ _ _ _ => F8
     rename News _ _ _ _ => N8
     apply val_no (R := 32 :: 97 :: R) (X'.keeps F8.keep) hsz2 rfl
     have ekq : (⟨(⟨([108, 97, 116, 101, 59] ++ (32 :: 97 :: R)).toArray⟩ : Str).cps.extract 0 4⟩ : Str) = Str.ofString "late" := eW (pre := [108, 97, 116, 101, 59]) rfl (by decide) _
     k_steps
     rename_i D16 h16 F16 N16 l16
     replace l16 := l16.2.2
     have l16' : ∀ p ∈ add2 ++ (add ++ news) ++ [(I, o)], p.1 < D16 := tb_ltOf l16.2.2.2
     have Nr : News g' L' h16 ((Pq, listOf pvs.toArray k2) :: ((H, listOf rvs2.toArray k3) :: (72, tabObj ps2) :: (add2 ++ (add ++ news) ++ [(I, o)]))) := News.tail1 (News.tail1 (News.tail1 N16))
     obtain ⟨O16, t16, N16, hO⟩ : ∃ O t, News g' L' h16 [(D16, O)] ∧ O = ({ cls := .type "tuple", data := .seq #[Value.str (⟨(⟨([108, 97, 116, 101, 59] ++ (32 :: 97 :: R)).toArray⟩ : Str).cps.extract 0 4⟩ : Str) t, Value.none] } : Obj) := ⟨_, _, News.head1 N16, rfl⟩
     replace N16 := News.cons1 N16 Nr
     rw [ekq] at hO
     refine be (d := Pq) (vs := pvs) (k := k2) (rest := (H, listOf rvs2.toArray k3) :: (72, tabObj ps2) :: (((D16, O16) :: add2) ++ (add ++ news) ++ [(I, o)])) F16 (News.sub N16 (by
      walk_at "mine sub")) ?_ hpl ?_
     ·intro p hp
      simp only [List.cons_append, List.append_assoc, List.mem_append, List.mem_cons, List.not_mem_nil, or_false] at hp
      rcases hp with rfl | rfl | rfl | hp | hp | hp | rfl
      ·exact Nat.ne_of_lt (Nat.lt_trans hHI hIq)
      ·exact Nat.ne_of_lt (Nat.lt_trans h72H (Nat.lt_trans hHI hIq))
      ·exact Nat.ne_of_gt l16.1
      ·exact (hA2 p hp).2
      ·exact hnq p (List.mem_append.mpr (.inl hp))
      ·exact hnq p (List.mem_append.mpr (.inr hp))
      ·exact Nat.ne_of_lt hIq
     ·intro h17 F17 N17
      repeat (refine wpAny_execs_nil ?_)
      refine fC (p := (Str.ofString "late", none)) (add3 := (D16, O16) :: add2) hD1 hD2 hIq hnq hsplit (by rw [htail]; simp only [List.length_append, List.length_cons, List.length_nil] at hcl ⊢; omega) hok rfl rfl (by rw [htail]; rfl) rfl rfl F17 N17 ?_ ?_ ?_ ?_
      ·rw [hO]
       exact DatIn.tuple (vs := [_, _]) (.head _) (.cons (DatIn.str _ _) (.cons DatIn.none .nil))
      ·intro q hq
       exact .tail _ hq
      ·exact TabOk.mono hT2 fun p hp => .tail _ hp
      ·intro q hq
       rcases List.mem_cons.mp hq with rfl | hq
       ·exact ⟨l16' (I, o) (by simp), Nat.ne_of_gt l16.1⟩
       ·exact hA2 q hq
   ·cases rem with
    | nil =>
     cases rs' with
     | nil =>
      have hsz0 : (⟨(semi [] ++ comma []).toArray⟩ : Str).cps.size = 0 := rfl
      have hlp : pvs.length = dn.length := by have := hD1.length; simpa using this
      obtain ⟨x0, pt, rfl⟩ : ∃ x pt, pvs = x :: pt := by
       cases pvs with
       | nil => exact absurd (List.length_eq_zero_iff.mp hlp.symm) hdn
       | cons x pt => exact ⟨x, pt, rfl⟩
      replace N₃ : News g' L' h₁ ((H, listOf rvs2.toArray k3) :: ((Pq, listOf (x0 :: pt).toArray k2) :: (72, tabObj ps2) :: (add2 ++ (add ++ news)) ++ [(I, o)])) := News.sub N₃ (by
       walk_at "mine sub")
      replace F₃ : Fr g' L' h₁ _ := F₃
      k_steps
      unfold Held
      have hl5 : h₁.IsList Pq (x0 :: pt).toArray := N₃.isList (.tail _ (.head _))
      apply wpAny_truthy_list (items := (x0 :: pt).toArray) (l := Pq)
      ·exact hl5
      ·show ((x0 :: pt).length : Int) < 2 ^ 63
       have : sizeLine = 16777216 := rfl
       omega
      rw [if_pos (by rfl)]
      k_steps
      refine be F₃ N₃ ?_ hrl ?_
      ·intro p hp
       simp only [List.cons_append, List.append_assoc, List.mem_append, List.mem_cons, List.not_mem_nil, or_false] at hp
       rcases hp with rfl | rfl | hp | hp | hp | rfl
       ·exact Nat.ne_of_gt (Nat.lt_trans hHI hIq)
       ·exact Nat.ne_of_lt h72H
       ·exact Nat.ne_of_gt (Nat.lt_trans hHI (hA2 p hp).1)
       ·exact Nat.ne_of_gt (hadd p hp)
       ·exact Nat.ne_of_lt (lH' p (.tail _ hp))
       ·exact Nat.ne_of_gt hHI
      intro h6 F6 N6
      repeat (refine wpAny_execs_nil ?_)
      refine ⟨h6, _, _, (H, listOf (rvs2 ++ [Value.ref Pq]).toArray (k3 + 1)) :: (72, tabObj ps2) :: (((Pq, listOf (x0 :: pt).toArray k2) :: (add2 ++ add)) ++ news), rfl, F6, News.sub N6 (by
       walk_at "mine sub"), ?_, (fun y => if y = Str.ofString "text" then some (Value.str ⟨(semi [] ++ comma []).toArray⟩ tt) else if y = Str.ofString "pairs" then some (.ref Pq) else u2 y), _, _, ps2, (Pq, listOf (x0 :: pt).toArray k2) :: (add2 ++ add), ?_, rfl, ?_, ?_, ?_⟩
      ·intro p hp
       simp only [List.cons_append, List.append_assoc, List.mem_append, List.mem_cons] at hp
       rcases hp with rfl | rfl | rfl | hp | hp | hp
       ·exact Nat.ne_of_lt hHI
       ·exact Nat.ne_of_lt (Nat.lt_trans h72H hHI)
       ·exact Nat.ne_of_gt hIq
       ·exact Nat.ne_of_gt (hA2 p hp).1
       ·exact hI p (.tail _ (.tail _ (List.mem_append.mpr (.inl hp))))
       ·exact hI p (.tail _ (.tail _ (List.mem_append.mpr (.inr hp))))
      ·funext y
       by_cases e3 : y = Str.ofString "result"
       ·subst e3; rfl
       ·rw [if_neg e3]; (try dsimp only)
        rw [if_neg e3]
      ·have e5 : ((aP.2).take (i + 1)).flatten = (((aP.2).take i).flatten ++ done) ++ [dn] := by
        rw [List.take_add_one, hr, List.flatten_append]
        have := hsplit
        simp at this
        simp [this]
       rw [e5, List.map_append]
       have hs9 : ∀ p ∈ add2 ++ (add ++ news), p ∈ ((Pq, listOf (x0 :: pt).toArray k2) :: (add2 ++ add)) ++ news := by
        walk_at "mine sub"
       refine (hD2.mono hs9).append (.one ?_)
       unfold datR
       refine DatIn.list (.head _) ?_
       rw [List.map_map]
       exact hD1.mono hs9
      ·refine hT2.mono ?_
       walk_at "mine sub"
      ·intro p hp
       rcases List.mem_cons.mp hp with rfl | hp
       ·exact Nat.lt_trans hHI hIq
       ·rcases List.mem_append.mp hp with hp | hp
        ·exact Nat.lt_trans hHI (hA2 p hp).1
        ·exact hadd p hp
     | cons r9 rs9 =>
      have hsz0 : (⟨(44 :: 32 :: (rowL r9 ++ comma rs9)).toArray⟩ : Str).cps.size ≠ 0 := by simp
      have hcl' : (44 :: 32 :: (rowL r9 ++ comma rs9)).length ≤ 10000 := hcl
      have hsz : (⟨(44 :: 32 :: (rowL r9 ++ comma rs9)).toArray⟩ : Str).cps.size ≤ 1000000 := by show (44 :: 32 :: (rowL r9 ++ comma rs9)).length ≤ 1000000; omega
      have hlen : (44 :: 32 :: (rowL r9 ++ comma rs9)).length ≤ 1000000 := by omega
      have hcs : semi [] ++ comma (r9 :: rs9) = 44 :: 32 :: (rowL r9 ++ comma rs9) := rfl
      rw [hcs] at F₃
      k_steps
      apply tok_no (c := 44) (R := 32 :: (rowL r9 ++ comma rs9)) (.inr rfl) (X'.keeps F₃.keep) hsz rfl
      k_steps
      unfold Held
      rename_i t5 k5 h5 F5 N5
      have es : Txt.slice ⟨(44 :: 32 :: (rowL r9 ++ comma rs9)).toArray⟩ (some 1) none = ⟨(32 :: (rowL r9 ++ comma rs9)).toArray⟩ := ft (e := 1) (by simp)
      have hlp : pvs.length = dn.length := by have := hD1.length; simpa using this
      obtain ⟨x0, pt, rfl⟩ : ∃ x pt, pvs = x :: pt := by
       cases pvs with
       | nil => exact absurd (List.length_eq_zero_iff.mp hlp.symm) hdn
       | cons x pt => exact ⟨x, pt, rfl⟩
      have hl5 : h5.IsList Pq (x0 :: pt).toArray := N5.isList (.head _)
      apply wpAny_truthy_list (items := (x0 :: pt).toArray) (l := Pq)
      ·exact hl5
      ·show ((x0 :: pt).length : Int) < 2 ^ 63
       have : sizeLine = 16777216 := rfl
       omega
      rw [if_pos (by rfl)]
      replace N5 : News g' L' h5 ((H, listOf rvs2.toArray k3) :: ((Pq, listOf (x0 :: pt).toArray k2) :: (72, tabObj ps2) :: (add2 ++ (add ++ news)) ++ [(I, o)])) := News.sub N5 (by
       walk_at "mine sub")
      k_steps
      refine be F5 N5 ?_ hrl ?_
      ·intro p hp
       simp only [List.cons_append, List.append_assoc, List.mem_append, List.mem_cons, List.not_mem_nil, or_false] at hp
       rcases hp with rfl | rfl | hp | hp | hp | rfl
       ·exact Nat.ne_of_gt (Nat.lt_trans hHI hIq)
       ·exact Nat.ne_of_lt h72H
       ·exact Nat.ne_of_gt (Nat.lt_trans hHI (hA2 p hp).1)
       ·exact Nat.ne_of_gt (hadd p hp)
       ·exact Nat.ne_of_lt (lH' p (.tail _ hp))
       ·exact Nat.ne_of_gt hHI
      intro h6 F6 N6
      k_steps
      rename_i Pn h7 lPn h8 F8 N8
      have lPn' := tb_ltOf lPn.2
      refine rowRead (Pn := Pn) (k2 := k2) (kk := k3 + 1) hD1 hD2 hT2 ?_ hIq ?_ ?_ hsplit ?_ ?_ ?_ rfl (by rw [← es]; rfl) rfl rfl F8 (News.sub N8 (by
       walk_at "mine sub"))
      ·intro p hp
       exact ⟨(hA2 p hp).1, Nat.ne_of_lt (lPn' p (by simp [hp]))⟩
      ·exact lPn' (Pq, listOf (x0 :: pt).toArray k2) (.head _)
      ·intro p hp
       exact Nat.ne_of_lt (lPn' p (by rcases List.mem_append.mp hp with hp | hp <;> simp [hp]))
      ·simp only [List.length_cons] at hcl' ⊢; omega
      ·exact hrok r9 (by rw [hsplit]; simp)
      ·simp
    | cons p ps9 =>
     obtain ⟨c, R, hc, hcs⟩ : ∃ c R, (c = 97 ∨ c = 108) ∧ (ptext p).cps.toList ++ (semi ps9 ++ comma rs') = c :: R := by
      rcases hok.1 with ⟨e1, i9, hi9, e2⟩ | ⟨rfl, _⟩
      ·obtain ⟨k9, v9⟩ := p
       dsimp only at e1 e2
       subst e1 e2
       refine ⟨97, [102, 116, 101, 114, 61] ++ ((qv i9).cps.toList ++ (semi ps9 ++ comma rs')), .inl rfl, ?_⟩
       have e1 : (Str.ofString "after").cps.toList = [97, 102, 116, 101, 114] := rfl
       rw [bY, e1]
       simp
      ·exact ⟨108, [97, 116, 101] ++ (semi ps9 ++ comma rs'), .inr rfl, rfl⟩
     have hcs2 : semi (p :: ps9) ++ comma rs' = 59 :: 32 :: c :: R := by
      rw [← hcs]
      show (59 :: 32 :: (ptext p).cps.toList ++ semi ps9) ++ comma rs' = _
      simp
     rw [hcs2] at F₃ hcl
     have hsz0 : (⟨(59 :: 32 :: c :: R).toArray⟩ : Str).cps.size ≠ 0 := by simp
     have hsz : (⟨(59 :: 32 :: c :: R).toArray⟩ : Str).cps.size ≤ 1000000 := by show (59 :: 32 :: c :: R).length ≤ 1000000; omega
     have hlen : (59 :: 32 :: c :: R).length ≤ 1000000 := by omega
     k_steps
     apply tok_no (c := 59) (R := 32 :: c :: R) (.inl rfl) (X'.keeps F₃.keep) hsz rfl
     k_steps
     rename_i k5 h5 F5 N5 k6 t6 k7
     refine lF hc F5 N5 X' hsz rfl ?_
     intro t8 t9 tp h8 tk8 F8 N8 l8
     have hT8 := News.isTup N8 (List.Mem.head _)
     k_steps
     rename Heap => h9
     rename Fr _ _ _ _ => F9
     rename News _ _ _ _ => N9
     refine junkRead hD1 hD2 hT2 hA2 hIq hnq hsplit (by rw [hcs]; simp only [List.length_cons] at hcl ⊢; omega) hok rfl rfl (by rw [hcs]; rfl) rfl rfl F9 (News.tail1 N9)
 ·intro m nx h tk zp8 F₁ N₁
  walk_at "mine hide"
  obtain ⟨u, rvs, k, ps', add, rfl, rfl, hS, hTab', hadd⟩ := zp8
  k_steps
  refine hret _ ps' ((H, listOf rvs.toArray k) :: add) h _ (by assumption) (News.sub (by assumption) ?_) ?_ ?_ ?_ ?_
  ·walk_at "mine sub"
  ·intro q hq p hp
   rcases List.mem_cons.mp hp with rfl | hp
   ·exact lH' q (.tail _ hq)
   ·exact Nat.lt_trans (lH' q (.tail _ hq)) (hadd p hp)
  ·intro p hp
   have hH72 : 72 < H := lH' _ (.head _)
   rcases List.mem_cons.mp hp with rfl | hp
   ·exact Nat.ne_of_gt hH72
   ·exact Nat.ne_of_gt (Nat.lt_trans hH72 (hadd p hp))
  ·exact hTab'.mono fun p hp => .tail _ hp
  ·have hlen : vs.length = (aP.2).length := by have := hvs.len_eq; simpa using this
   rw [hlen, List.take_length] at hS
   unfold datRs
   refine DatIn.list (.head _) ?_
   rw [List.map_map]
   exact DatAll.mono (fun p hp => .tail _ hp) hS
theorem fq (w : World) (l : Addr) (rss : List (List (List PR))) : cA w l rss := @aO _ _ (u3 cA) ky ((w, l), rss)
theorem rlS10 : True := by
 k_with_none
 k_with "mine in" => first | (with_reducible assumption) | (with_reducible exact sId) | ((with_reducible refine sTl ?_); walk_at "mine in") | ((with_reducible refine sLe ?_); walk_at "mine in") | ((with_reducible refine sRi ?_); walk_at "mine in")
 k_with "mine memb" => first | assumption | exact List.Mem.head _ | (refine List.Mem.tail _ ?_; walk_at "mine memb") | (refine mLe ?_; walk_at "mine memb") | (refine mRi ?_; walk_at "mine memb")
 k_with "mine sub" => first | (with_reducible exact sId) | (with_reducible exact sNil) | ((with_reducible refine sCons ?_ ?_); (· walk_at "mine memb"); (· walk_at "mine sub")) | ((with_reducible refine sApp ?_ ?_); (· walk_at "mine sub"); (· walk_at "mine sub")) | walk_at "mine in"
 trivial
noncomputable def MutR (rm : Nat) (w : World) (f : Addr) (args : List Value) (news : List (Addr × Obj)) (Post : List (Addr × Obj) → Value → Prop) : Prop :=
 ∀ (p : Program) (loose : List Str) (mean : ExcName → Option Value) (mg mb : Str → Option Value) (dp un : Nat) (gd : Option (List Code)) (cn : Str) (cs : Scope) (a : Addr) (ccd : Value) (cl : List (Str × Addr)) (outer : List Env) (A₀ : Around) (base h₀ : Heap) (L : Addr) (m : Str → Option Value) (s : Shared) (Q E : Value → Shared → Prop),
  Below A₀ base outer h₀ → Fr h₀ L s.heap m → (Mine.hd.heap_39 w.params).In h₀ → News h₀ L s.heap news → Top p loose mean mg mb h₀ → cs.kind = .function → dp + rm < recursionLimit → un + 10 * rm < cLine →
  (∀ r news' h' tk', Fr h₀ L h' m → News h₀ L h' news' → Post news' r → Q r { s with heap := h', toks := tk' }) →
  wpAny (model PySem.Challenge.rw_oc0257_01.prog w) (ktrTop dp un gd cn cs L a ccd cl outer) (call (.ref f) args) Q E s
noncomputable abbrev SK (w : World) := PySem.strKind PySem.Challenge.rw_oc0257_01.prog w
noncomputable abbrev sdict (w : World) (t1 t2 t3 t4 : Tok) (D : Addr) (rv po nf : Value) (n : Nat) : Obj := dictOf [{ hash := PyData.keyHash w.params (Str.ofString "_node2info"), key := .str (Str.ofString "_node2info") t1, val := .ref D }, { hash := PyData.keyHash w.params (Str.ofString "_ready_nodes"), key := .str (Str.ofString "_ready_nodes") t2, val := rv }, { hash := PyData.keyHash w.params (Str.ofString "_npassedout"), key := .str (Str.ofString "_npassedout") t3, val := po }, { hash := PyData.keyHash w.params (Str.ofString "_nfinished"), key := .str (Str.ofString "_nfinished") t4, val := nf }] n
noncomputable abbrev aU (dv : Addr) (x : Str) (t : Tok) (np : Value) (sl : Addr) : Obj := { cls := .ref 113, dict := some dv, data := .plain, slots := #[some (.str x t), some np, some (.ref sl)] }
theorem news_rot {h₀ h : Heap} {L : Addr} {a b c d e f : Addr × Obj} {rest : List (Addr × Obj)} (N : News h₀ L h (a :: b :: c :: d :: e :: f :: rest)) : News h₀ L h (d :: e :: f :: b :: c :: a :: rest) := News.sub N fun p hp => by
 revert hp; revert p; walk_at "mine sub"
local macro_rules | `(tactic| k_all) => wa "mine k_all"
theorem rlS11 : True := by
 k_with "execs cons" => (k_here; (with_reducible refine aL ?_); (try clear tkw); intro tkw; (try k_fold); (with_reducible refine wpAny_execs_cons ?_); (try dsimp only))
 k_with "mine k_all" => first | assumption | exact List.forall_mem_nil _ | (refine' List.forall_mem_cons.mpr ⟨?_, ?_⟩; (focus k_ne); k_all)
 k_with "mine enter" => case fresh => (refine' code_def ?k1' ?k2' ?k3' ?k4' ?k5' ?kA' ?kF' ?kK' ?k6' ?k7' ?k8' ?k9' ?kB' ?_ ?c2' ?c3' ?c4' ?c5'; (case kA' => exact rfl); (case kF' => exact rfl); (case kK' => first | assumption | exact rfl); (case k1' => k_asm); (case k2' => k_asm); (case k3' => k_asm); (case k4' => k_asm); (case k5' => k_asm); (case k6' => k_is); (case k7' => k_is); (case k8' => first | ktr_room | ((show _ + 1 + 1 < recursionLimit); omega) | ((show _ + 1 < recursionLimit); omega)); (case k9' => exact BindsTo.of_eq rfl); (case c5' => decide); (case kB' => exact locs rfl); (case c2' => exact rfl); (case c3' => exact rfl); (case c4' => exact rfl); k_whole; intro g'' L'' h'' FG'' F'' N'' B'' X'' T''; (try dsimp only); (try k_lift B''); (try k_fold))
 trivial
section
variable {prog : Program} {w : World} {A : Around} {E : Value → Shared → Prop} {s : Shared} {h₀ : Heap} {L d : Addr} {news : List (Addr × Obj)} {o : Obj} {kvs : List (Str × Value)} {k : Str} {t : Tok} {v : Value}
theorem iU {Q : Value → Shared → Prop} (N : News h₀ L s.heap news) (hp : (d, o) ∈ news) (hd : o.IsDictOf (PySem.strKind prog w) kvs) (lo : (d == sysModules) = false) (hl : valueAt kvs k = some v) (h : Q v { s with toks := s.toks + 1 }) :
  wpAny (model prog w) A (call (.builtin "dict.get") [.ref d, .str k t]) Q E s := kdg_get1 N hp hd lo (strKind_is _ _ _ _) _ hl h
theorem get_none {Q : Value → Shared → Prop} (N : News h₀ L s.heap news) (hp : (d, o) ∈ news) (hd : o.IsDictOf (PySem.strKind prog w) kvs) (lo : (d == sysModules) = false) (hl : valueAt kvs k = none) (h : Q .none { s with toks := s.toks + 1 }) :
  wpAny (model prog w) A (call (.builtin "dict.get") [.ref d, .str k t]) Q E s := kdg_get1 N hp hd lo (strKind_is _ _ _ _) _ hl h
end
theorem rlS12 : True := by
 k_with "getMethod ref" => (k_here; (with_reducible show wpAny _ _ (getMethod (Value.ref _) (Str.ofString "get") _) _ _ _); refine kdg_method (by k_asm) (List.Mem.head _) (by assumption) ?_)
 k_with "call builtin:dict.get" => (k_here; first | refine iU (by k_asm) (List.Mem.head _) (by assumption) (by assumption) (by assumption) ?_ | refine get_none (by k_asm) (List.Mem.head _) (by assumption) (by assumption) (by assumption) ?_)
 k_with "setItem ref" => (k_here; refine held ?_)
 trivial
theorem iS (w : World) (S dx D X : Addr) (oD : Obj) (kvs : List (Str × Value)) (t1 t2 t3 t4 : Tok) (rv po nf : Value) (n : Nat) (x : Str) (t : Tok) (rest : List (Addr × Obj)) (hD : oD.IsDictOf (SK w) kvs) (lo : (D == sysModules) = false) (hv : valueAt kvs x = some (.ref X)) : MutR 20 w 153 [.ref S, .str x t] ((D, oD) :: (S, instObj 210 dx) :: (dx, sdict w t1 t2 t3 t4 D rv po nf n) :: rest) (fun nx r => nx = (D, oD) :: (S, instObj 210 dx) :: (dx, sdict w t1 t2 t3 t4 D rv po nf n) :: rest ∧ r = .ref X) := by
 unfold MutR
 k_fill
 intro p loose mean mg mb dp un gd cn cs a ccd cl outer A₀ base h₀ L m s Q E B F XX N T hk hd hu hret
 refine wpAny_call ?_
 k_dflt cell_enter
 k_steps
 exact hret _ _ _ _ (by assumption) (by assumption) ⟨rfl, rfl⟩
noncomputable def bE (w : World) (S : Addr) (dx : Addr) (D : Addr) (oD : Obj) (kvs : List (Prod Str Value)) (t1 : Tok) (t2 : Tok) (t3 : Tok) (t4 : Tok) (rv : Value) (po : Value) (nf : Value) (n : Nat) (x : Str) (t : Tok) (rest : List (Prod Addr Obj)) : Prop := ∀ (hD : oD.IsDictOf (SK w) kvs) (lo : (D == sysModules) = false) (hv : valueAt kvs x = none) (hsz : kvs.length ≤ sizeLine) (hSD : S ≠ D) (hxD : dx ≠ D) (hrD : ∀ p ∈ rest, p.1 ≠ D), MutR 20 w 153 [.ref S, .str x t] ((D, oD) :: (S, instObj 210 dx) :: (dx, sdict w t1 t2 t3 t4 D rv po nf n) :: rest) (fun nx r => ∃ X dv sl oD' tn, r = .ref X ∧ nx = (D, oD') :: (S, instObj 210 dx) :: (dx, sdict w t1 t2 t3 t4 D rv po nf n) :: (X, aU dv x t (.int 0 tn) sl) :: (dv, dictOf [] 0) :: (sl, listOf #[] 0) :: rest ∧ oD'.IsDictOf (SK w) (stored kvs x (.ref X)) ∧ D < dv ∧ S < dv ∧ dx < dv ∧ (∀ p ∈ rest, p.1 < dv) ∧ dv < X ∧ X < sl)
noncomputable def aZ : ((((World × Addr) × Addr) × Addr × Obj) × ((List (Prod Str Value)) × Tok) × Tok × Tok) × ((Tok × Value) × Value × Value) × (Nat × Str) × Tok × (List (Prod Addr Obj)) := @Classical.epsilon _ (by have := neW; infer_instance) fun x => ¬ u17 bE x
theorem gm : u17 bE aZ := by
 intro hD lo hv hsz hSD hxD hrD
 unfold MutR
 k_fill
 intro p loose mean mg mb dp un gd cn cs a ccd cl outer A₀ base h₀ L m s Q E B F XX N T hk hd hu hret
 refine wpAny_call ?_
 k_dflt walk_at "mine enter"
 k_steps
 refine call_cls (K := Mine.hd.heap_39 (aZ.1.1.1.1.1).params) (fI := 109) (by assumption) (by assumption) (by assumption) (by kernel_rfl) (by kernel_rfl) (by kernel_rfl) ?_
 intro X6 dx6 h6 F6 N6 l6 l6'
 have hX6 : ∀ p ∈ (aZ.2.2.2.2), p.1 ≠ X6 := fun p hp => Nat.ne_of_lt (Nat.lt_trans (l6 p (.tail _ (.tail _ (.tail _ hp)))) l6')
 have hr6 : ∀ p ∈ (aZ.2.2.2.2), p.1 < dx6 := fun p hp => l6 p (.tail _ (.tail _ (.tail _ hp)))
 k_lt l6
 k_lt2 l6'
 k_dflt walk_at "mine enter"
 k_steps
 rename_i SL h1 l1 h7 F7 N7 kF kN Tc kX
 refine kda_set (k := (aZ.2.2.1.2)) (o := (aZ.1.1.2.2)) (kvs := (aZ.1.2.1.1)) kF (news_rot kN) (UpdF.head ?_) hD (strKind_is _ _ _ _) hsz ?_
 ·refine List.forall_mem_cons.mpr ⟨hSD, List.forall_mem_cons.mpr ⟨hxD, List.forall_mem_cons.mpr ⟨Nat.ne_of_gt (Nat.lt_trans l6.1 l6'), List.forall_mem_cons.mpr ⟨Nat.ne_of_gt l6.1, List.forall_mem_cons.mpr ⟨Nat.ne_of_gt l1.2.2.1, hrD⟩⟩⟩⟩⟩
 ·intro h9 o9 F9 N9 hD9
  k_steps
  refine hret _ _ _ _ (by assumption) (by assumption) ⟨_, _, _, _, _, rfl, rfl, hD9, l6.1, l6.2.1, l6.2.2.1, hr6, l6', l1.1⟩
theorem iT (w : World) (S dx D : Addr) (oD : Obj) (kvs : List (Str × Value)) (t1 t2 t3 t4 : Tok) (rv po nf : Value) (n : Nat) (x : Str) (t : Tok) (rest : List (Addr × Obj)) : bE w S dx D oD kvs t1 t2 t3 t4 rv po nf n x t rest := @aO _ _ (u17 bE) gm (((((w, S), dx), (D, oD)), ((kvs, t1), (t2, t3))), (((t4, rv), (po, nf)), ((n, x), (t, rest))))
theorem rlS20 : True := by
 k_with_none
 k_with "mine hide" => first | (refine (?_ : let gk : Prop := wpAny _ ak _ _ _ _; gk); (try clear gk); intro gk) | (refine (?_ : let ak : Around := _; let gk : Prop := wpAny _ ak _ _ _ _; gk); intro ak; (try clear gk); intro gk) | (refine (?_ : let gk : Prop := _; gk); (try clear gk); intro gk)
 k_with "execs cons" => (k_here; (with_reducible refine aL ?_); (try clear tkw); intro tkw; (try k_fold); (with_reducible refine wpAny_execs_cons ?_); (try dsimp only))
 trivial
theorem fE {u v : Nat} (hu : u < 5) (hv : v < 5) (h : nm u = nm v) : u = v := by
 have key : ∀ u v : Fin 5, nm u.1 = nm v.1 → u = v := by decide
 exact congrArg Fin.val (key ⟨u, hu⟩ ⟨v, hv⟩ h)
theorem aV : ∀ (n : Nat) (l : List Nat), l.Nodup → (∀ x ∈ l, x < n) → l.length ≤ n
 | 0, l, _, h => by
  cases l with
  | nil => exact Nat.le_refl _
  | cons x l => exact absurd (h x (.head _)) (Nat.not_lt_zero _)
 | n + 1, l, nd, h => by
  by_cases hm : n ∈ l
  ·have h1 := aV n (l.erase n) (nd.erase n) (fun x hx => by
    have h2 := (nd.mem_erase_iff).mp hx
    have h3 := h x h2.2
    omega)
   rw [List.length_erase_of_mem hm] at h1
   omega
  ·have h1 := aV n l nd (fun x hx => by
    have h3 := h x hx
    have h4 : x ≠ n := fun e => hm (e ▸ hx)
    omega)
   omega
structure Gr where
 nodes : List Nat
 ia : Nat → Addr
 da : Nat → Addr
 sa : Nat → Addr
 np : Nat → Int
 su : Nat → List Nat
theorem neG : Nonempty Gr := ⟨⟨[], fun _ => 0, fun _ => 0, fun _ => 0, fun _ => 0, fun _ => []⟩⟩
noncomputable def Own (S dx D : Addr) (G : Gr) (a : Addr) : Prop := a = S ∨ a = dx ∨ a = D ∨ ∃ v ∈ G.nodes, a = G.ia v ∨ a = G.da v ∨ a = G.sa v
structure Apart (S dx D : Addr) (G : Gr) : Prop where
 s1 : S ≠ dx
 s2 : S ≠ D
 s3 : dx ≠ D
 i1 : ∀ v ∈ G.nodes, G.ia v ≠ S ∧ G.ia v ≠ dx ∧ G.ia v ≠ D
 d1 : ∀ v ∈ G.nodes, G.da v ≠ S ∧ G.da v ≠ dx ∧ G.da v ≠ D
 l1 : ∀ v ∈ G.nodes, G.sa v ≠ S ∧ G.sa v ≠ dx ∧ G.sa v ≠ D
 ii : ∀ u ∈ G.nodes, ∀ v ∈ G.nodes, u ≠ v → G.ia u ≠ G.ia v
 dd : ∀ u ∈ G.nodes, ∀ v ∈ G.nodes, u ≠ v → G.da u ≠ G.da v
 ll : ∀ u ∈ G.nodes, ∀ v ∈ G.nodes, u ≠ v → G.sa u ≠ G.sa v
 id : ∀ u ∈ G.nodes, ∀ v ∈ G.nodes, G.ia u ≠ G.da v
 il : ∀ u ∈ G.nodes, ∀ v ∈ G.nodes, G.ia u ≠ G.sa v
 dl : ∀ u ∈ G.nodes, ∀ v ∈ G.nodes, G.da u ≠ G.sa v
noncomputable def kvsOf (G : Gr) : List (Str × Value) := G.nodes.map fun v => (nm v, .ref (G.ia v))
structure SrtIn (w : World) (S dx D : Addr) (rv po nf : Value) (G : Gr) (news : List (Addr × Obj)) : Prop where
 inst : (S, instObj 210 dx) ∈ news
 fld : ∃ t1 t2 t3 t4, (dx, sdict w t1 t2 t3 t4 D rv po nf 4) ∈ news
 tab : ∃ oD, (D, oD) ∈ news ∧ oD.IsDictOf (SK w) (kvsOf G)
 lo : (D == sysModules) = false
 info : ∀ v ∈ G.nodes, ∃ t tn, (G.ia v, aU (G.da v) (nm v) t (.int (G.np v) tn) (G.sa v)) ∈ news
 dict : ∀ v ∈ G.nodes, (G.da v, dictOf [] 0) ∈ news
 succ : ∀ v ∈ G.nodes, ∃ ws k, (G.sa v, listOf ws.toArray k) ∈ news ∧ StrsAre ws ((G.su v).map nm)
 nd : G.nodes.Nodup
 lt5 : ∀ v ∈ G.nodes, v < 5
 none : ∀ v, v ∉ G.nodes → G.np v = 0 ∧ G.su v = []
 apart : Apart S dx D G
noncomputable def Kept (S dx D : Addr) (G G' : Gr) (news news' : List (Addr × Obj)) : Prop :=
 (∀ p ∈ news, ¬ Own S dx D G p.1 → p ∈ news') ∧ (∀ a, Own S dx D G' a → Own S dx D G a ∨ ∀ p ∈ news, p.1 < a) ∧ ∀ a, Own S dx D G a → Own S dx D G' a
theorem bk {G : Gr} (lt5 : ∀ v ∈ G.nodes, v < 5) {v : Nat} (hv : v < 5) : valueAt (kvsOf G) (nm v) = if v ∈ G.nodes then some (.ref (G.ia v)) else none := by
 have key : ∀ l : List Nat, (∀ u ∈ l, u < 5) → valueAt (l.map fun u => (nm u, Value.ref (G.ia u))) (nm v) = if v ∈ l then some (.ref (G.ia v)) else none := by
  intro l
  induction l with
  | nil => intro _; rfl
  | cons u l ih =>
   intro h
   have ih := ih fun x hx => h x (.tail _ hx)
   unfold valueAt at ih ⊢
   rw [List.map_cons, List.find?_cons]
   by_cases e : u = v
   ·subst e; simp
   ·have e2 : nm u ≠ nm v := fun q => e (fE (h u (.head _)) hv q)
    have e3 : (decide ((nm u, Value.ref (G.ia u)).1 = nm v)) = false := by simpa using e2
    rw [e3]
    dsimp only
    rw [ih]
    have e4 : (v ∈ u :: l) ↔ v ∈ l := by simp [Ne.symm e]
    simp only [e4]
 exact key _ lt5
noncomputable def touch (l : List Nat) (v : Nat) : List Nat := if v ∈ l then l else l ++ [v]
noncomputable def drawn (as : List Addr) (news : List (Addr × Obj)) : List (Addr × Obj) := news.filter fun p => decide (p.1 ∉ as)
theorem mem_drawn {as : List Addr} {news : List (Addr × Obj)} {p : Addr × Obj} : p ∈ drawn as news ↔ p ∈ news ∧ p.1 ∉ as := by
 unfold drawn; simp
theorem aE {as : List Addr} {news : List (Addr × Obj)} {a : Addr} (h : a ∈ as) : ∀ p ∈ drawn as news, p.1 ≠ a := fun p hp e => (mem_drawn.mp hp).2 (e ▸ h)
theorem aI {as : List Addr} {news : List (Addr × Obj)} : ∀ p ∈ drawn as news, p ∈ news := fun p hp => (mem_drawn.mp hp).1
theorem aM {h₀ h : Heap} {L : Addr} {news : List (Addr × Obj)} {p q : Addr × Obj} (N : News h₀ L h news) (hp : p ∈ news) (hq : q ∈ news) (e : p.1 = q.1) : p = q := by
 have h1 := (N p hp).1
 have h2 := (N q hq).1
 rw [e, h2] at h1
 exact Prod.ext e (Option.some.inj h1).symm
theorem SrtIn.keep {w : World} {S dx D : Addr} {rv po nf : Value} {G : Gr} {nx nx' : List (Addr × Obj)} (h : SrtIn w S dx D rv po nf G nx) (k : ∀ p ∈ nx, Own S dx D G p.1 → p ∈ nx') : SrtIn w S dx D rv po nf G nx' := by
 refine bO (h.fld) ?_; intro t1 t2 t3 t4 hf
 refine aJ (h.tab) ?_; intro oD ht hD
 refine ⟨k _ h.inst (.inl rfl), ⟨t1, t2, t3, t4, k _ hf (.inr (.inl rfl))⟩, ⟨oD, k _ ht (.inr (.inr (.inl rfl))), hD⟩, h.lo, ?_, ?_, ?_, h.nd, h.lt5, h.none, h.apart⟩
 ·intro v hv
  refine bX (h.info v hv) ?_; intro t tn a
  exact ⟨t, tn, k _ a (.inr (.inr (.inr ⟨v, hv, .inl rfl⟩)))⟩
 ·intro v hv
  exact k _ (h.dict v hv) (.inr (.inr (.inr ⟨v, hv, .inr (.inl rfl)⟩)))
 ·intro v hv
  refine bg (h.succ v hv) ?_; intro ws kk a b
  exact ⟨ws, kk, k _ a (.inr (.inr (.inr ⟨v, hv, .inr (.inr rfl)⟩))), b⟩
noncomputable def Gr.setNp (G : Gr) (v : Nat) (x : Int) : Gr := { G with np := fun u => if u = v then x else G.np u }
noncomputable def Gr.setSu (G : Gr) (v : Nat) (l : List Nat) : Gr := { G with su := fun u => if u = v then l else G.su u }
theorem SrtIn.toNp {w : World} {S dx D : Addr} {rv po nf : Value} {G : Gr} {nx nx' : List (Addr × Obj)} {v : Nat} {x : Int} (h : SrtIn w S dx D rv po nf G nx) (hv : v ∈ G.nodes) (new : ∃ t tn, (G.ia v, aU (G.da v) (nm v) t (.int x tn) (G.sa v)) ∈ nx') (k : ∀ p ∈ nx, p.1 ≠ G.ia v → p ∈ nx') : SrtIn w S dx D rv po nf (G.setNp v x) nx' := by
 refine bO (h.fld) ?_; intro t1 t2 t3 t4 hf
 refine aJ (h.tab) ?_; intro oD ht hD
 have A := h.apart
 refine ⟨k _ h.inst (Ne.symm (A.i1 v hv).1), ⟨t1, t2, t3, t4, k _ hf (Ne.symm (A.i1 v hv).2.1)⟩, ⟨oD, k _ ht (Ne.symm (A.i1 v hv).2.2), hD⟩, h.lo, ?_, ?_, ?_, h.nd, h.lt5, ?_, ⟨A.s1, A.s2, A.s3, A.i1, A.d1, A.l1, A.ii, A.dd, A.ll, A.id, A.il, A.dl⟩⟩
 ·intro u hu
  show ∃ t tn, (G.ia u, aU (G.da u) (nm u) t (.int (if u = v then x else G.np u) tn) (G.sa u)) ∈ nx'
  by_cases e : u = v
  ·subst e; rw [if_pos rfl]; exact new
  ·rw [if_neg e]
   refine bX (h.info u hu) ?_; intro t tn a
   exact ⟨t, tn, k _ a (A.ii u hu v hv e)⟩
 ·intro u hu
  exact k _ (h.dict u hu) (Ne.symm (A.id v hv u hu))
 ·intro u hu
  refine bg (h.succ u hu) ?_; intro ws kk a b
  exact ⟨ws, kk, k _ a (Ne.symm (A.il v hv u hu)), b⟩
 ·intro u hu
  have e : u ≠ v := fun e => hu (e ▸ hv)
  show (if u = v then x else G.np u) = 0 ∧ _
  rw [if_neg e]; exact h.none u hu
theorem SrtIn.toSu {w : World} {S dx D : Addr} {rv po nf : Value} {G : Gr} {nx nx' : List (Addr × Obj)} {v : Nat} {l : List Nat} (h : SrtIn w S dx D rv po nf G nx) (hv : v ∈ G.nodes) (new : ∃ ws k, (G.sa v, listOf ws.toArray k) ∈ nx' ∧ StrsAre ws (l.map nm)) (k : ∀ p ∈ nx, p.1 ≠ G.sa v → p ∈ nx') : SrtIn w S dx D rv po nf (G.setSu v l) nx' := by
 refine bO (h.fld) ?_; intro t1 t2 t3 t4 hf
 refine aJ (h.tab) ?_; intro oD ht hD
 have A := h.apart
 refine ⟨k _ h.inst (Ne.symm (A.l1 v hv).1), ⟨t1, t2, t3, t4, k _ hf (Ne.symm (A.l1 v hv).2.1)⟩, ⟨oD, k _ ht (Ne.symm (A.l1 v hv).2.2), hD⟩, h.lo, ?_, ?_, ?_, h.nd, h.lt5, ?_, ⟨A.s1, A.s2, A.s3, A.i1, A.d1, A.l1, A.ii, A.dd, A.ll, A.id, A.il, A.dl⟩⟩
 ·intro u hu
  refine bX (h.info u hu) ?_; intro t tn a
  exact ⟨t, tn, k _ a (A.il u hu v hv)⟩
 ·intro u hu
  exact k _ (h.dict u hu) (A.dl u hu v hv)
 ·intro u hu
  show ∃ ws kk, (G.sa u, listOf ws.toArray kk) ∈ nx' ∧ StrsAre ws ((if u = v then l else G.su u).map nm)
  by_cases e : u = v
  ·subst e; rw [if_pos rfl]; exact new
  ·rw [if_neg e]
   refine bg (h.succ u hu) ?_; intro ws kk a b
   exact ⟨ws, kk, k _ a (A.ll u hu v hv e), b⟩
 ·intro u hu
  have e : u ≠ v := fun e => hu (e ▸ hv)
  show _ ∧ (if u = v then l else G.su u) = []
  rw [if_neg e]; exact h.none u hu
theorem SrtIn.toFld {w : World} {S dx D : Addr} {rv po nf rv' po' nf' : Value} {G : Gr} {nx nx' : List (Addr × Obj)} (h : SrtIn w S dx D rv po nf G nx) (new : ∃ t1 t2 t3 t4, (dx, sdict w t1 t2 t3 t4 D rv' po' nf' 4) ∈ nx') (k : ∀ p ∈ nx, p.1 ≠ dx → p ∈ nx') : SrtIn w S dx D rv' po' nf' G nx' := by
 refine aJ (h.tab) ?_; intro oD ht hD
 have A := h.apart
 refine ⟨k _ h.inst A.s1, new, ⟨oD, k _ ht (Ne.symm A.s3), hD⟩, h.lo, ?_, ?_, ?_, h.nd, h.lt5, h.none, A⟩
 ·intro u hu
  refine bX (h.info u hu) ?_; intro t tn a
  exact ⟨t, tn, k _ a (A.i1 u hu).2.1⟩
 ·intro u hu
  exact k _ (h.dict u hu) (A.d1 u hu).2.1
 ·intro u hu
  refine bg (h.succ u hu) ?_; intro ws kk a b
  exact ⟨ws, kk, k _ a (A.l1 u hu).2.1, b⟩
theorem SrtIn.ownIn {w : World} {S dx D : Addr} {rv po nf : Value} {G : Gr} {nx : List (Addr × Obj)} (h : SrtIn w S dx D rv po nf G nx) {a : Addr} (ha : Own S dx D G a) : ∃ o, (a, o) ∈ nx := by
 refine bO (h.fld) ?_; intro t1 t2 t3 t4 hf
 refine aJ (h.tab) ?_; intro oD ht hD
 rcases ha with rfl | rfl | rfl | ⟨v, hv, rfl | rfl | rfl⟩
 ·exact ⟨_, h.inst⟩
 ·exact ⟨_, hf⟩
 ·exact ⟨_, ht⟩
 ·refine bX (h.info v hv) ?_; intro t tn a
  exact ⟨_, a⟩
 ·exact ⟨_, h.dict v hv⟩
 ·refine bg (h.succ v hv) ?_; intro ws kk a b
  exact ⟨_, a⟩
noncomputable def bS (w : World) (S : Addr) (dx : Addr) (D : Addr) (rv : Value) (po : Value) (nf : Value) (G : Gr) (v : Nat) (t : Tok) (news : List (Prod Addr Obj)) : Prop := ∀ (h : SrtIn w S dx D rv po nf G news) (hv : v < 5), MutR 20 w 153 [.ref S, .str (nm v) t] news (fun nx r => ∃ G', r = .ref (G'.ia v) ∧ SrtIn w S dx D rv po nf G' nx ∧ G'.nodes = touch G.nodes v ∧ G'.np = G.np ∧ G'.su = G.su ∧ Kept S dx D G G' news nx)
noncomputable def af : (((World × Addr) × Addr) × (Addr × Value) × Value) × ((Value × Gr) × Nat) × Tok × (List (Prod Addr Obj)) := @Classical.epsilon _ (by have := neW; have := neG; infer_instance) fun x => ¬ u11 bS x
theorem hV : u11 bS af := by
 intro h hv
 refine bO (h.fld) ?_; intro t1 t2 t3 t4 hfld
 refine aJ (h.tab) ?_; intro oD htab hD
 have hlen : (kvsOf (af.2.1.1.2)).length ≤ sizeLine := by
  have e0 : sizeLine = 16777216 := rfl
  have e1 := aV 5 _ h.nd h.lt5
  unfold kvsOf
  rw [List.length_map]
  omega
 have sub : ∀ p ∈ ((af.1.2.1.1), oD) :: ((af.1.1.1.2), instObj 210 (af.1.1.2)) :: ((af.1.1.2), sdict (af.1.1.1.1) t1 t2 t3 t4 (af.1.2.1.1) (af.1.2.1.2) (af.1.2.2) (af.2.1.1.1) 4) :: drawn [(af.1.2.1.1), (af.1.1.1.2), (af.1.1.2)] (af.2.2.2), p ∈ (af.2.2.2) := by
  intro p hp
  rcases List.mem_cons.mp hp with rfl | hp
  ·exact htab
  ·rcases List.mem_cons.mp hp with rfl | hp
   ·exact h.inst
   ·rcases List.mem_cons.mp hp with rfl | hp
    ·exact hfld
    ·exact aI p hp
 by_cases hm : (af.2.1.2) ∈ (af.2.1.1.2).nodes
 ·intro p loose mean mg mb dp un gd cn cs a ccd cl outer A₀ base h₀ L m s Q E B F XX N T hk hd hu hret
  have full : ∀ p ∈ (af.2.2.2), p ∈ ((af.1.2.1.1), oD) :: ((af.1.1.1.2), instObj 210 (af.1.1.2)) :: ((af.1.1.2), sdict (af.1.1.1.1) t1 t2 t3 t4 (af.1.2.1.1) (af.1.2.1.2) (af.1.2.2) (af.2.1.1.1) 4) :: drawn [(af.1.2.1.1), (af.1.1.1.2), (af.1.1.2)] (af.2.2.2) := by
   intro p hp
   by_cases e1 : p.1 = (af.1.2.1.1)
   ·rw [aM N hp htab e1]; exact .head _
   ·by_cases e2 : p.1 = (af.1.1.1.2)
    ·rw [aM N hp h.inst e2]; exact .tail _ (.head _)
    ·by_cases e3 : p.1 = (af.1.1.2)
     ·rw [aM N hp hfld e3]; exact .tail _ (.tail _ (.head _))
     ·exact .tail _ (.tail _ (.tail _ (mem_drawn.mpr ⟨hp, by simp [e1, e2, e3]⟩)))
  refine iS (af.1.1.1.1) (af.1.1.1.2) (af.1.1.2) (af.1.2.1.1) ((af.2.1.1.2).ia (af.2.1.2)) oD (kvsOf (af.2.1.1.2)) t1 t2 t3 t4 (af.1.2.1.2) (af.1.2.2) (af.2.1.1.1) 4 (nm (af.2.1.2)) (af.2.2.1) (drawn [(af.1.2.1.1), (af.1.1.1.2), (af.1.1.2)] (af.2.2.2)) hD h.lo (by rw [bk h.lt5 hv, if_pos hm]) p loose mean mg mb dp un gd cn cs a ccd cl outer A₀ base h₀ L m s Q E B F XX (News.sub N sub) T hk hd hu ?_
  intro r nx h' tk' F' N' zp1
  walk_at "mine hide"
  refine bj (zp1) ?_; (try clear zp1); intro xq21a; subst xq21a; intro xq21b; subst xq21b
  exact hret _ (af.2.2.2) h' tk' F' (News.sub N' full) ⟨(af.2.1.1.2), rfl, h, by unfold touch; rw [if_pos hm], rfl, rfl, fun p hp _ => hp, fun a ha => .inl ha, fun a ha => ha⟩
 ·intro p loose mean mg mb dp un gd cn cs a ccd cl outer A₀ base h₀ L m s Q E B F XX N T hk hd hu hret
  refine iT (af.1.1.1.1) (af.1.1.1.2) (af.1.1.2) (af.1.2.1.1) oD (kvsOf (af.2.1.1.2)) t1 t2 t3 t4 (af.1.2.1.2) (af.1.2.2) (af.2.1.1.1) 4 (nm (af.2.1.2)) (af.2.2.1) (drawn [(af.1.2.1.1), (af.1.1.1.2), (af.1.1.2)] (af.2.2.2)) hD h.lo (by rw [bk h.lt5 hv, if_neg hm]) hlen h.apart.s2 h.apart.s3 (aE (.head _)) p loose mean mg mb dp un gd cn cs a ccd cl outer A₀ base h₀ L m s Q E B F XX (News.sub N sub) T hk hd hu ?_
  intro r nx h' tk' F' N' zp2
  walk_at "mine hide"
  refine x5_8 (zp2) ?_; (try clear zp2); intro X dv sl oD' tn xq22f; subst xq22f; intro xq22g; subst xq22g; intro hD' l1 l2 l3 l4 l5 l6
  rw [stored_absent (by rw [bk h.lt5 hv, if_neg hm])] at hD'
  have hlt : ∀ p ∈ (af.2.2.2), p.1 < dv := by
   intro p hp
   by_cases e1 : p.1 = (af.1.2.1.1)
   ·rw [e1]; exact l1
   ·by_cases e2 : p.1 = (af.1.1.1.2)
    ·rw [e2]; exact l2
    ·by_cases e3 : p.1 = (af.1.1.2)
     ·rw [e3]; exact l3
     ·exact l4 p (mem_drawn.mpr ⟨hp, by simp [e1, e2, e3]⟩)
  have hI : ∀ u ∈ (af.2.1.1.2).nodes, (af.2.1.1.2).ia u < dv ∧ (af.2.1.1.2).da u < dv ∧ (af.2.1.1.2).sa u < dv := by
   intro u hu
   refine bX (h.info u hu) ?_; intro _ _ a1
   refine bg (h.succ u hu) ?_; intro _ _ a3 _
   exact ⟨hlt _ a1, hlt _ (h.dict u hu), hlt _ a3⟩
  have ne : ∀ u ∈ (af.2.1.1.2).nodes, u ≠ (af.2.1.2) := fun u hu e => hm (e ▸ hu)
  have keep : ∀ p ∈ (af.2.2.2), p.1 ≠ (af.1.2.1.1) → p ∈ ((af.1.2.1.1), oD') :: ((af.1.1.1.2), instObj 210 (af.1.1.2)) :: ((af.1.1.2), sdict (af.1.1.1.1) t1 t2 t3 t4 (af.1.2.1.1) (af.1.2.1.2) (af.1.2.2) (af.2.1.1.1) 4) :: (X, aU dv (nm (af.2.1.2)) (af.2.2.1) (.int 0 tn) sl) :: (dv, dictOf [] 0) :: (sl, listOf #[] 0) :: drawn [(af.1.2.1.1), (af.1.1.1.2), (af.1.1.2)] (af.2.2.2) := by
   intro p hp e1
   by_cases e2 : p.1 = (af.1.1.1.2)
   ·rw [aM N hp h.inst e2]; exact .tail _ (.head _)
   ·by_cases e3 : p.1 = (af.1.1.2)
    ·rw [aM N hp hfld e3]; exact .tail _ (.tail _ (.head _))
    ·exact .tail _ (.tail _ (.tail _ (.tail _ (.tail _ (.tail _ (mem_drawn.mpr ⟨hp, by simp [e1, e2, e3]⟩))))))
  have hnp := h.none (af.2.1.2) hm
  refine hret _ _ h' tk' F' N' ⟨⟨(af.2.1.1.2).nodes ++ [(af.2.1.2)], fun u => if u = (af.2.1.2) then X else (af.2.1.1.2).ia u, fun u => if u = (af.2.1.2) then dv else (af.2.1.1.2).da u, fun u => if u = (af.2.1.2) then sl else (af.2.1.1.2).sa u, (af.2.1.1.2).np, (af.2.1.1.2).su⟩, by simp, ?_, by unfold touch; rw [if_neg hm], rfl, rfl, fun p hp no => keep p hp fun e => no (.inr (.inr (.inl e))), ?_, ?_⟩
  ·refine ⟨.tail _ (.head _), ⟨_, _, _, _, .tail _ (.tail _ (.head _))⟩, ⟨oD', .head _, ?_⟩, h.lo, ?_, ?_, ?_, ?_, ?_, ?_, ?_⟩
   ·have e : kvsOf ⟨(af.2.1.1.2).nodes ++ [(af.2.1.2)], fun u => if u = (af.2.1.2) then X else (af.2.1.1.2).ia u, fun u => if u = (af.2.1.2) then dv else (af.2.1.1.2).da u, fun u => if u = (af.2.1.2) then sl else (af.2.1.1.2).sa u, (af.2.1.1.2).np, (af.2.1.1.2).su⟩ = kvsOf (af.2.1.1.2) ++ [(nm (af.2.1.2), Value.ref X)] := by
     unfold kvsOf
     rw [List.map_append]
     congr 1
     ·refine List.map_congr_left fun u hu => ?_
      simp [ne u hu]
     ·simp
    rw [e]; exact hD'
   ·intro u hu
    dsimp only at hu ⊢
    rcases List.mem_append.mp hu with hu | hu
    ·refine bX (h.info u hu) ?_; intro tt tt' a1
     refine ⟨tt, tt', ?_⟩
     simp only [ne u hu, if_false]
     exact keep _ a1 (h.apart.i1 u hu).2.2
    ·have e := List.mem_singleton.mp hu
     subst e
     rw [if_pos rfl, if_pos rfl, if_pos rfl, hnp.1]
     exact ⟨(af.2.2.1), tn, .tail _ (.tail _ (.tail _ (.head _)))⟩
   ·intro u hu
    dsimp only at hu ⊢
    rcases List.mem_append.mp hu with hu | hu
    ·rw [if_neg (ne u hu)]
     exact keep _ (h.dict u hu) (h.apart.d1 u hu).2.2
    ·rw [if_pos (List.mem_singleton.mp hu)]
     exact .tail _ (.tail _ (.tail _ (.tail _ (.head _))))
   ·intro u hu
    dsimp only at hu ⊢
    rcases List.mem_append.mp hu with hu | hu
    ·rw [if_neg (ne u hu)]
     refine bg (h.succ u hu) ?_; intro ws k a3 a4
     exact ⟨ws, k, keep _ a3 (h.apart.l1 u hu).2.2, a4⟩
    ·have e := List.mem_singleton.mp hu
     subst e
     rw [if_pos rfl, hnp.2]
     exact ⟨[], 0, .tail _ (.tail _ (.tail _ (.tail _ (.tail _ (.head _))))), .nil⟩
   ·rw [List.nodup_append]
    exact ⟨h.nd, by simp, fun x hx y hy => by rw [List.mem_singleton.mp hy]; exact ne x hx⟩
   ·intro u hu
    rcases List.mem_append.mp hu with hu | hu
    ·exact h.lt5 u hu
    ·rw [List.mem_singleton.mp hu]; exact hv
   ·intro u hu
    exact h.none u fun e => hu (List.mem_append.mpr (.inl e))
   ·have A := h.apart
    have mem : ∀ u, u ∈ (af.2.1.1.2).nodes ++ [(af.2.1.2)] → u ∈ (af.2.1.1.2).nodes ∨ u = (af.2.1.2) := fun u hu => by
     rcases List.mem_append.mp hu with hu | hu
     ·exact .inl hu
     ·exact .inr (List.mem_singleton.mp hu)
    have gd : ∀ a : Addr, a < dv → dv ≠ a := fun a h => Nat.ne_of_gt h
    have gX : ∀ a : Addr, a < dv → X ≠ a := fun a h => Nat.ne_of_gt (Nat.lt_trans h l5)
    have gs : ∀ a : Addr, a < dv → sl ≠ a := fun a h => Nat.ne_of_gt (Nat.lt_trans h (Nat.lt_trans l5 l6))
    refine ⟨A.s1, A.s2, A.s3, ?_, ?_, ?_, ?_, ?_, ?_, ?_, ?_, ?_⟩
    ·intro u hu
     dsimp only at hu ⊢
     rcases mem u hu with hu | rfl
     ·rw [if_neg (ne u hu)]; exact A.i1 u hu
     ·rw [if_pos rfl]; exact ⟨gX _ l2, gX _ l3, gX _ l1⟩
    ·intro u hu
     dsimp only at hu ⊢
     rcases mem u hu with hu | rfl
     ·rw [if_neg (ne u hu)]; exact A.d1 u hu
     ·rw [if_pos rfl]; exact ⟨gd _ l2, gd _ l3, gd _ l1⟩
    ·intro u hu
     dsimp only at hu ⊢
     rcases mem u hu with hu | rfl
     ·rw [if_neg (ne u hu)]; exact A.l1 u hu
     ·rw [if_pos rfl]; exact ⟨gs _ l2, gs _ l3, gs _ l1⟩
    ·intro u hu0 x hx0 nux
     dsimp only at hu0 hx0 ⊢
     rcases mem u hu0 with hu | eu <;> rcases mem x hx0 with hx | ex
     ·rw [if_neg (ne u hu), if_neg (ne x hx)]; exact A.ii u hu x hx nux
     ·subst ex; rw [if_neg (ne u hu), if_pos rfl]; exact Ne.symm (gX _ (hI u hu).1)
     ·subst eu; rw [if_pos rfl, if_neg (ne x hx)]; exact gX _ (hI x hx).1
     ·subst eu; exact absurd ex.symm nux
    ·intro u hu0 x hx0 nux
     dsimp only at hu0 hx0 ⊢
     rcases mem u hu0 with hu | eu <;> rcases mem x hx0 with hx | ex
     ·rw [if_neg (ne u hu), if_neg (ne x hx)]; exact A.dd u hu x hx nux
     ·subst ex; rw [if_neg (ne u hu), if_pos rfl]; exact Ne.symm (gd _ (hI u hu).2.1)
     ·subst eu; rw [if_pos rfl, if_neg (ne x hx)]; exact gd _ (hI x hx).2.1
     ·subst eu; exact absurd ex.symm nux
    ·intro u hu0 x hx0 nux
     dsimp only at hu0 hx0 ⊢
     rcases mem u hu0 with hu | eu <;> rcases mem x hx0 with hx | ex
     ·rw [if_neg (ne u hu), if_neg (ne x hx)]; exact A.ll u hu x hx nux
     ·subst ex; rw [if_neg (ne u hu), if_pos rfl]; exact Ne.symm (gs _ (hI u hu).2.2)
     ·subst eu; rw [if_pos rfl, if_neg (ne x hx)]; exact gs _ (hI x hx).2.2
     ·subst eu; exact absurd ex.symm nux
    ·intro u hu0 x hx0
     dsimp only at hu0 hx0 ⊢
     rcases mem u hu0 with hu | eu <;> rcases mem x hx0 with hx | ex
     ·rw [if_neg (ne u hu), if_neg (ne x hx)]; exact A.id u hu x hx
     ·subst ex; rw [if_neg (ne u hu), if_pos rfl]; exact Ne.symm (gd _ (hI u hu).1)
     ·subst eu; rw [if_pos rfl, if_neg (ne x hx)]; exact gX _ (hI x hx).2.1
     ·subst eu; subst ex; rw [if_pos rfl, if_pos rfl]; exact Nat.ne_of_gt l5
    ·intro u hu0 x hx0
     dsimp only at hu0 hx0 ⊢
     rcases mem u hu0 with hu | eu <;> rcases mem x hx0 with hx | ex
     ·rw [if_neg (ne u hu), if_neg (ne x hx)]; exact A.il u hu x hx
     ·subst ex; rw [if_neg (ne u hu), if_pos rfl]; exact Ne.symm (gs _ (hI u hu).1)
     ·subst eu; rw [if_pos rfl, if_neg (ne x hx)]; exact gX _ (hI x hx).2.2
     ·subst eu; subst ex; rw [if_pos rfl, if_pos rfl]; exact Nat.ne_of_lt l6
    ·intro u hu0 x hx0
     dsimp only at hu0 hx0 ⊢
     rcases mem u hu0 with hu | eu <;> rcases mem x hx0 with hx | ex
     ·rw [if_neg (ne u hu), if_neg (ne x hx)]; exact A.dl u hu x hx
     ·subst ex; rw [if_neg (ne u hu), if_pos rfl]; exact Ne.symm (gs _ (hI u hu).2.1)
     ·subst eu; rw [if_pos rfl, if_neg (ne x hx)]; exact gd _ (hI x hx).2.2
     ·subst eu; subst ex; rw [if_pos rfl, if_pos rfl]; exact Nat.ne_of_lt (Nat.lt_trans l5 l6)
  ·rintro a (ha | ha | ha | ⟨u, hu, ha⟩)
   ·exact .inl (.inl ha)
   ·exact .inl (.inr (.inl ha))
   ·exact .inl (.inr (.inr (.inl ha)))
   ·dsimp only at hu ha
    rcases List.mem_append.mp hu with hu | hu
    ·simp only [ne u hu, if_false] at ha
     exact .inl (.inr (.inr (.inr ⟨u, hu, ha⟩)))
    ·have e := List.mem_singleton.mp hu
     subst e
     simp only [if_true] at ha
     refine .inr fun p hp => ?_
     have := hlt p hp
     rcases ha with rfl | rfl | rfl
     ·exact Nat.lt_trans this l5
     ·exact this
     ·exact Nat.lt_trans this (Nat.lt_trans l5 l6)
  ·rintro a (ha | ha | ha | ⟨u, hu, ha⟩)
   ·exact .inl ha
   ·exact .inr (.inl ha)
   ·exact .inr (.inr (.inl ha))
   ·refine .inr (.inr (.inr ⟨u, List.mem_append.mpr (.inl hu), ?_⟩))
    dsimp only
    simp only [ne u hu, if_false]
    exact ha
theorem fQ (w : World) (S dx D : Addr) (rv po nf : Value) (G : Gr) (v : Nat) (t : Tok) (news : List (Addr × Obj)) : bS w S dx D rv po nf G v t news := @aO _ _ (u11 bS) hV ((((w, S), dx), ((D, rv), po)), (((nf, G), v), (t, news)))
theorem Kept.trans {w : World} {S dx D : Addr} {rv po nf : Value} {G G1 G2 : Gr} {n0 n1 n2 : List (Addr × Obj)} (h1 : SrtIn w S dx D rv po nf G1 n1) (k1 : Kept S dx D G G1 n0 n1) (k2 : Kept S dx D G1 G2 n1 n2) : Kept S dx D G G2 n0 n2 := by
 refine ⟨fun p hp no => ?_, fun a ha => ?_, fun a ha => k2.2.2 a (k1.2.2 a ha)⟩
 ·refine k2.1 p (k1.1 p hp no) fun ho => ?_
  rcases k1.2.1 _ ho with ho | ho
  ·exact no ho
  ·exact Nat.lt_irrefl _ (ho p hp)
 ·rcases k2.2.1 a ha with ha | ha
  ·exact k1.2.1 a ha
  ·refine .inr fun p hp => ?_
   by_cases ho : Own S dx D G p.1
   ·refine aT (h1.ownIn (k1.2.2 _ ho)) ?_; intro o hm
    exact ha (p.1, o) hm
   ·exact ha p (k1.1 p hp ho)
noncomputable abbrev tupOf (vs : List Value) (n : Nat) : Obj := { cls := .type "tuple", data := .seq vs.toArray n }
section
variable {prog : Program} {w : World} {A : Around} {E : Value → Shared → Prop} {s : Shared} {env : Env} {h₀ : Heap}
noncomputable def bF (prog : Program) (w : World) (A : Around) (s : Shared) (env : Env) (h₀ : Heap) (R : Result → Shared → Prop) (target : Expr) (body : List Stmt) (l : Addr) (I : Addr) (vs : List Value) (nn : Nat) (m₀ : Str → Option Value) (news : List (Prod Addr Obj)) (Q : Flow → Shared → Prop) (J : Nat → (Str → Option Value) → List (Prod Addr Obj) → Prop) : Prop := ∀ (hh : A.handled = none) (hIL : I ≠ env.locals) (hI0 : h₀.get? I = none) (hit : s.heap.IsTupleIter I l 0) (F : Fr h₀ env.locals s.heap m₀) (N : News h₀ env.locals s.heap news) (hnI : ∀ p ∈ news, p.1 ≠ I) (hj : J 0 m₀ news) (hkeep : ∀ i m nx, J i m nx → (l, tupOf vs nn) ∈ nx) (turn : ∀ i v m₁ nx h tk o, vs[i]? = some v → J i m₁ nx → (∀ p ∈ nx, p.1 ≠ I) → Fr h₀ env.locals h m₁ → News h₀ env.locals h (nx ++ [(I, o)]) →
   wpAny (model prog w) A (assign target env v) (fun _ s₂ => wpAny (model prog w) A (execs body env) (cp h₀ env.locals s I o (J (i + 1)) Q) (notedBy (model prog w) A env fun e s' => R (.error e) s') s₂) (notedBy (model prog w) A env fun e s' => R (.error e) s') { s with heap := h, toks := tk }) (done : ∀ m₁ nx h tk, J vs.length m₁ nx → Fr h₀ env.locals h m₁ → News h₀ env.locals h nx → Q .next { s with heap := h, toks := tk }) (hR : ∀ f s', Q f s' → R (.ok f) s') (ht : cR target), codeAny (model prog w) A (.forLoop target (.ref I) body [] env) R s
noncomputable def av : ((((Program × World) × Around) × Shared × Env) × (Heap × (Result → Shared → Prop)) × Expr × (List Stmt)) × ((Addr × Addr) × (List Value) × Nat) × ((Str → Option Value) × (List (Prod Addr Obj))) × (Flow → Shared → Prop) × (Nat → (Str → Option Value) → List (Prod Addr Obj) → Prop) := @Classical.epsilon _ (by have := neW; have := neA; have := neS; infer_instance) fun x => ¬ u17 bF x
theorem gn : u17 bF av := by
 intro hh hIL hI0 hit F N hnI hj hkeep turn done hR ht
 refine codeAny_forLoop_any
  (fun k s' => ∃ h' tk m' nx i, s' = { (av.1.1.2.1) with heap := h', toks := tk } ∧ h'.IsTupleIter (av.2.1.1.2) (av.2.1.1.1) i ∧ Fr (av.1.2.1.1) (av.1.1.2.2).locals h' m' ∧ News (av.1.2.1.1) (av.1.1.2.2).locals h' nx ∧ (∀ p ∈ nx, p.1 ≠ (av.2.1.1.2)) ∧ (av.2.2.2.2) i m' nx ∧ i ≤ (av.2.1.2.1).length ∧ k = (av.2.1.2.1).length + 1 - i) ?_ ((av.2.1.2.1).length + 1)
  ⟨(av.1.1.2.1).heap, (av.1.1.2.1).toks, (av.2.2.1.1), (av.2.2.1.2), 0, rfl, hit, F, N, hnI, hj, Nat.zero_le _, rfl⟩
 rintro k s' ⟨h', tk, m', nx, i, rfl, hit', F', N', hn', hJ, hi, rfl⟩
 have hl' : h'.IsTuple (av.2.1.1.1) (av.2.1.2.1).toArray := ⟨_, (N' _ (hkeep _ _ _ hJ)).1, rfl, (av.2.1.2.2), rfl⟩
 have old : ∀ b o, (av.1.2.1.1).get? b = some o → b ≠ (av.2.1.1.2) := fun b o e hb => by rw [hb, hI0] at e; cases e
 by_cases hlt : i < (av.2.1.2.1).length
 ·obtain ⟨v, hv⟩ : ∃ v, (av.2.1.2.1)[i]? = some v := ⟨(av.2.1.2.1)[i], by simp [hlt]⟩
  have hv' : (av.2.1.2.1).toArray[i]? = some v := by simpa using hv
  refine wpAny_pyNext_tuple_item hit' hl' hv' fun h₁ hit₁ hs₁ => ?_
  have F₁ : Fr (av.1.2.1.1) (av.1.1.2.2).locals h₁ m' := ⟨F'.ns.at' fun o e => (hs₁.2 _ (Ne.symm hIL)).trans e, fun b o e => (hs₁.2 b (old b o e)).trans (F'.keep b o e), F'.above⟩
  refine aJ (id hit₁) ?_; intro oI hoI hcI
  have N₁ : News (av.1.2.1.1) (av.1.1.2.2).locals h₁ (nx ++ [((av.2.1.1.2), oI)]) := fun p hp => by
   rcases List.mem_append.mp hp with hp | hp
   ·exact ⟨(hs₁.2 _ (hn' p hp)).trans (N' p hp).1, (N' p hp).2⟩
   ·rw [List.mem_singleton.mp hp]
    exact ⟨hoI, hIL, hI0⟩
  refine letGo_tupleiter hit₁ ?_
  refine wpAny_mono (turn i v m' nx h₁ tk oI hv hJ hn' F₁ N₁) (fun _ s₂ h₂ => wpAny_mono h₂ (fun f s₃ h₃ => ?_) fun _ _ e => e) fun _ _ e => e
  have fin : cG (av.1.2.1.1) (av.1.1.2.2).locals (av.1.1.2.1) (av.2.1.1.2) oI ((av.2.2.2.2) (i + 1)) s₃ → ∃ m, m < (av.2.1.2.1).length + 1 - i ∧ ∃ h' tk m' nx j, s₃ = { (av.1.1.2.1) with heap := h', toks := tk } ∧ h'.IsTupleIter (av.2.1.1.2) (av.2.1.1.1) j ∧ Fr (av.1.2.1.1) (av.1.1.2.2).locals h' m' ∧ News (av.1.2.1.1) (av.1.1.2.2).locals h' nx ∧ (∀ p ∈ nx, p.1 ≠ (av.2.1.1.2)) ∧ (av.2.2.2.2) j m' nx ∧ j ≤ (av.2.1.2.1).length ∧ m = (av.2.1.2.1).length + 1 - j := by
   rintro ⟨h₃', tk₃, m₃, nx₃, rfl, F₃, N₃, hn₃, hJ₃⟩
   refine ⟨(av.2.1.2.1).length + 1 - (i + 1), by omega, h₃', tk₃, m₃, nx₃, i + 1, rfl, ⟨oI, (N₃ _ (List.mem_append.mpr (.inr (.head _)))).1, hcI⟩, F₃, fun p hp => N₃ p (List.mem_append.mpr (.inl hp)), hn₃, hJ₃, hlt, rfl⟩
  cases f with
  | next => exact fin h₃
  | cont => exact fin h₃
  | brk => exact hR _ _ h₃
  | ret v => exact hR _ _ h₃
 ·have hin : i = (av.2.1.2.1).length := by omega
  subst hin
  refine wpAny_pyNext_tuple_end hh hit' hl' (by simp) fun h₁ he₁ => wpAny_execs_nil (hR _ _ ?_)
  exact done m' nx h₁ _ hJ ⟨F'.ns.at' fun o e => he₁ _ o (Ne.symm hIL) e, fun b o e => he₁ b o (old b o e) (F'.keep b o e), F'.above⟩ fun p hp => ⟨he₁ _ _ (hn' p hp) (N' p hp).1, (N' p hp).2⟩
theorem iW {R : Result → Shared → Prop} {target : Expr} {body : List Stmt} {l I : Addr} {vs : List Value} {nn : Nat} {m₀ : Str → Option Value} {news : List (Addr × Obj)} {Q : Flow → Shared → Prop} (J : Nat → (Str → Option Value) → List (Addr × Obj) → Prop) : bF prog w A s env h₀ R target body l I vs nn m₀ news Q J := @aO _ _ (u17 bF) gn (((((prog, w), A), (s, env)), ((h₀, R), (target, body))), (((l, I), (vs, nn)), ((m₀, news), (Q, J))))
theorem iC {target iter : Expr} {body : List Stmt} {pos : Pos} {l : Addr} {vs : List Value} {nn : Nat} {m₀ : Str → Option Value} {news : List (Addr × Obj)} {Q : Flow → Shared → Prop}
  (J : Nat → (Str → Option Value) → List (Addr × Obj) → Prop) (hh : A.handled = none) (F : Fr h₀ env.locals s.heap m₀) (N : News h₀ env.locals s.heap news)
  (hiter : ∀ Q' : Value → Shared → Prop, Q' (.ref l) s → wpAny (model prog w) A (eval iter env) Q' E s) (hj : J 0 m₀ news)
  (hkeep : ∀ i m nx, J i m nx → (l, tupOf vs nn) ∈ nx)
  (turn : ∀ I i v m₁ nx h tk o, vs[i]? = some v → J i m₁ nx → (∀ p ∈ nx, p.1 ≠ I) → (∀ p ∈ news, p.1 < I) → Fr h₀ env.locals h m₁ → News h₀ env.locals h (nx ++ [(I, o)]) →
   wpAny (model prog w) A (assign target env v) (fun _ s₂ => wpAny (model prog w) A (execs body env) (cp h₀ env.locals s I o (J (i + 1)) Q) E s₂) E { s with heap := h, toks := tk })
  (done : ∀ m₁ nx h tk, J vs.length m₁ nx → Fr h₀ env.locals h m₁ → News h₀ env.locals h nx → Q .next { s with heap := h, toks := tk })
  (hs : ∀ x, foldedSetIterable iter env x = pure x := by intro _; rfl)
  (ht : cR target := by first | exact .inl ⟨_, _, rfl⟩ | exact .inr ⟨_, _, _, rfl⟩)
  (hE : PassesOwn (model prog w) A env E := by passes_own) :
  wpAny (model prog w) A (exec (.For target iter body [] pos) env) Q E s := by
 have hol : s.heap.get? l = some (tupOf vs nn) := (N _ (hkeep _ _ _ hj)).1
 have hls : s.heap.IsTuple l vs.toArray := ⟨_, hol, rfl, nn, rfl⟩
 refine wpAny_For (hiter _ (wpAny_pyIter_tuple hls ?_)) hs
 have hlt : ∀ b o, s.heap.get? b = some o → b ≠ s.heap.objs.size := fun b o e => Nat.ne_of_lt (Heap.lt_size e)
 refine cq (id F.ns) ?_; intro oL _ _ hoL _
 refine iW (R := fun r s' => match r with | .ok f => Q f s' | .error e => cameBackBy (model prog w) A env E e s') (Q := Q) (s := { s with heap := s.heap.push _ }) (I := s.heap.objs.size) (l := l) (vs := vs) (nn := nn) (m₀ := m₀) (news := news) J hh (Ne.symm (hlt _ _ hoL)) ?_ ⟨_, Heap.get?_push_size _ rfl, rfl, rfl⟩ (F.push _) (fun p hp => ⟨Heap.get?_push_of_some _ (N p hp).1, (N p hp).2⟩) (fun p hp => hlt _ _ (N p hp).1) hj hkeep ?_ done (fun _ _ h => h) ht
 ·exact next_is_new F
 ·intro i v m₁ nx h tk o hv hJ hn F₁ N₁
  refine wpAny_passesOwn hE ?_
  refine wpAny_mono (turn s.heap.objs.size i v m₁ nx h tk o hv hJ hn (fun p hp => Heap.lt_size (N p hp).1) F₁ N₁) (fun _ s₂ h₂ => ?_) fun _ _ e => e
  exact wpAny_passesOwn hE h₂
end
section
variable {prog : Program} {w : World} {A : Around} {E : Value → Shared → Prop} {s : Shared} {env : Env} {h₀ : Heap}
theorem For_ledT {target iter : Expr} {body : List Stmt} {pos : Pos} {l : Addr} {vs : List Value} {nn : Nat} {m₀ : Str → Option Value} {news : List (Addr × Obj)} {Q : Flow → Shared → Prop}
  (J : Nat → (Str → Option Value) → List (Addr × Obj) → Prop) (hh : A.handled = none) (F : Fr h₀ env.locals s.heap m₀) (N : News h₀ env.locals s.heap news)
  (hiter : ∀ Q' : Value → Shared → Prop, (∀ k, Q' (.ref l) { s with toks := k }) → wpAny (model prog w) A (eval iter env) Q' E s) (hj : J 0 m₀ news)
  (hkeep : ∀ i m nx, J i m nx → (l, listOf vs.toArray nn) ∈ nx)
  (turn : ∀ I i v m₁ nx h tk o, vs[i]? = some v → J i m₁ nx → (∀ p ∈ nx, p.1 ≠ I) → (∀ p ∈ news, p.1 < I) → Fr h₀ env.locals h m₁ → News h₀ env.locals h (nx ++ [(I, o)]) →
   wpAny (model prog w) A (assign target env v) (fun _ s₂ => wpAny (model prog w) A (execs body env) (cp h₀ env.locals s I o (J (i + 1)) Q) E s₂) E { s with heap := h, toks := tk })
  (done : ∀ m₁ nx h tk, J vs.length m₁ nx → Fr h₀ env.locals h m₁ → News h₀ env.locals h nx → Q .next { s with heap := h, toks := tk })
  (hs : ∀ x, foldedSetIterable iter env x = pure x := by intro _; rfl)
  (ht : cR target := by first | exact .inl ⟨_, _, rfl⟩ | exact .inr ⟨_, _, _, rfl⟩)
  (hE : PassesOwn (model prog w) A env E := by passes_own) :
  wpAny (model prog w) A (exec (.For target iter body [] pos) env) Q E s := by
 have hol : s.heap.get? l = some (listOf vs.toArray nn) := (N _ (hkeep _ _ _ hj)).1
 have hls : s.heap.IsList l vs.toArray := ⟨_, hol, rfl, nn, rfl⟩
 refine wpAny_For (hiter _ fun kk => wpAny_pyIter_list (s := { s with toks := kk }) hls ?_) hs
 have hlt : ∀ b o, s.heap.get? b = some o → b ≠ s.heap.objs.size := fun b o e => Nat.ne_of_lt (Heap.lt_size e)
 obtain ⟨oL, _, _, hoL, _⟩ := id F.ns
 refine cE (R := fun r s' => match r with | .ok f => Q f s' | .error e => cameBackBy (model prog w) A env E e s') (Q := Q) (s := { s with heap := s.heap.push _, toks := kk }) (I := s.heap.objs.size) (l := l) (vs := vs) (nn := nn) (m₀ := m₀) (news := news) J hh (Ne.symm (hlt _ _ hoL)) ?_ ⟨_, Heap.get?_push_size _ rfl, rfl, rfl⟩ (F.push _) (fun p hp => ⟨Heap.get?_push_of_some _ (N p hp).1, (N p hp).2⟩) (fun p hp => hlt _ _ (N p hp).1) hj hkeep ?_ done (fun _ _ h => h) ht
 ·exact next_is_new F
 ·intro i v m₁ nx h tk o hv hJ hn F₁ N₁
  refine wpAny_passesOwn hE ?_
  refine wpAny_mono (turn s.heap.objs.size i v m₁ nx h tk o hv hJ hn (fun p hp => Heap.lt_size (N p hp).1) F₁ N₁) (fun _ s₂ h₂ => ?_) fun _ _ e => e
  exact wpAny_passesOwn hE h₂
end
section
variable {prog : Program} {w : World} {A : Around} {E : Value → Shared → Prop} {s : Shared} {env : Env} {h₀ : Heap}
end
end
section
open PySem PySem.W PyProof.Rows PySem.Calls PySem.Spec PyProof.Rows.LCg
section
variable {prog : Program} {w : World} {A : Around} {s s₁ : Shared} {h₀ h : Heap} {L : Addr} {m m₂ : Str → Option Value} {env : Env} {E : Value → Shared → Prop}
structure SrcW (prog : Program) (w : World) (A : Around) (s₁ : Shared) (xv : Value) (n : Nat) (P : Nat → Value → Prop) (src : List (Addr × Obj)) (fp : List Addr) (St : Nat → Heap → Prop) (oI : Obj) : Prop where
 it : ∀ (Q : Value → Shared → Prop) (E : Value → Shared → Prop), Q (.ref s₁.heap.objs.size) { s₁ with heap := s₁.heap.push oI } → wpAny (model prog w) A (pyIter xv) Q E s₁
 wk : Walks prog w A s₁.heap.objs.size fp [s₁.heap.objs.size] n P St
 io : ∀ i h, St i h → ∃ o, h.get? s₁.heap.objs.size = some o
 fp : ∀ b ∈ fp, b = s₁.heap.objs.size ∨ ∃ o, (b, o) ∈ src
 st : St 0 (s₁.heap.push oI)
theorem SrcW.list {l : Addr} {its : Array Value} {nn : Nat} {news : List (Addr × Obj)} (hh : A.handled = none) (N : News h₀ L s₁.heap news) (hm : (l, listOf its nn) ∈ news) :
  SrcW prog w A s₁ (.ref l) its.size (fun i v => its[i]? = some v) [(l, listOf its nn)] [s₁.heap.objs.size, l] (fun i h => h.IsListIter s₁.heap.objs.size l i ∧ h.IsList l its) { cls := .type "list_iterator", data := .fields #[.ref l, .int 0 0] } where
 it := fun Q E hQ => wpAny_pyIter_list (News.isList N hm) hQ
 wk := Walks.list hh _ _ (Nat.ne_of_lt (Heap.lt_size (N _ hm).1)) _
 io := fun i h st => by obtain ⟨o, e, _⟩ := st.1; exact ⟨o, e⟩
 fp := fun b hb => by
  rcases List.mem_cons.mp hb with rfl | hb
  ·exact .inl rfl
  ·rw [List.mem_singleton.mp hb]; exact .inr ⟨_, .head _⟩
 st := ⟨⟨_, Heap.get?_push_size _ rfl, rfl, rfl⟩, (News.isList N hm).push _⟩
theorem SrcW.range {r : Addr} {a b : Int} {t u v : Tok} {n : Nat} (hh : A.handled = none) (hr : IsRange s₁.heap r a b 1 t u v) (hsm : Builtin.Range.small a b 1 = true) (hn : Builtin.Range.rangeSize a b 1 = ((n : Nat) : Int)) :
  SrcW prog w A s₁ (.ref r) n (fun i v => ∃ t, v = .int (a + (i : Int)) t) [] [s₁.heap.objs.size] (fun i h => IsRangeIter h s₁.heap.objs.size (a + (i : Nat) * 1) ((n : Int) - (i : Nat)) 1) { cls := .type "range_iterator", data := .fields #[rawInt a, rawInt (Builtin.Range.rangeSize a b 1), rawInt 1] } where
 it := fun Q E hQ => wpAny_pyIter_range hr hsm hQ
 wk := range_walks hh a n
 io := fun i h st => ⟨_, st⟩
 fp := fun b hb => .inl (List.mem_singleton.mp hb)
 st := by show IsRangeIter _ _ _ _ _; rw [hn]; simpa using Heap.get?_push_size _ rfl
theorem SrcW.values {K : Type} [DecidableEq K] {knd : KeyKind prog w K} {v d : Addr} {kvs : List (K × Value)} {oD : Obj} {ep : Nat} {news : List (Addr × Obj)} (hh : A.handled = none) (N : News h₀ L s₁.heap news)
  (hv : (v, { cls := .type "dict_values", data := .fields #[.ref d] }) ∈ news) (hd : (d, oD) ∈ news) (ha : KdkAt knd oD kvs ep) :
  SrcW prog w A s₁ (.ref v) kvs.length (fun i v => ∃ k, kvs[i]? = some (k, v)) [(d, oD)] [s₁.heap.objs.size, d] (fun i h => h.IsValIter s₁.heap.objs.size d i kvs.length ep ∧ h.DictAt knd d kvs ep) { cls := .type "dict_valueiterator", data := .fields #[.ref d, .int 0 0, .int kvs.length 0, .int ep 0] } where
 it := fun Q E hQ => wpAny_pyIter_values ⟨_, (N _ hv).1, rfl, rfl⟩ (ha.dictAt (N _ hd).1) hQ
 wk := Walks.dictValues hh _ d (Nat.ne_of_lt (Heap.lt_size (N _ hd).1)) kvs ep
 io := fun i h st => by obtain ⟨o, e, _⟩ := st.1; exact ⟨o, e⟩
 fp := fun b hb => by
  rcases List.mem_cons.mp hb with rfl | hb
  ·exact .inl rfl
  ·rw [List.mem_singleton.mp hb]; exact .inr ⟨_, .head _⟩
 st := ⟨⟨_, Heap.get?_push_size _ rfl, rfl, rfl⟩, (ha.dictAt (N _ hd).1).push _⟩
noncomputable def LcB (prog : Program) (w : World) (A : Around) (E : Value → Shared → Prop) (env : Env) (e : Expr) (scope : Scope) (cl : List (Str × Addr)) (RR : Value → Addr → Result → Shared → Prop) (it : Value) (s₂ : Shared) : Prop :=
 wpAny (model prog w) A (newList []) (fun acc s₃ => wpAny (model prog w) A (newFunctionEnv scope env.globals cl [] env.qual none .none (some env)) (fun cenv s₄ =>
   codeAny (model prog w) A (.compStart e 0 it acc { cenv with scope := relabel scope env }) (RR acc cenv.locals) s₄) E s₃) E s₂
theorem bJ {elt target iter : Expr} {ifs : List Expr} {scope : Scope} {cl : List (Str × Addr)} {pos : Pos} {Q : Value → Shared → Prop}
  (hclos : closureFor scope env = pure cl) (hkind : scope.kind = .function) (hnames : ∀ y ∈ scope.names, y.2 = .local → scope.names.lookup y.1 = some .local)
  (h : wpAny (model prog w) A (eval iter env) (fun xv s₁ => wpAny (model prog w) A (pyIter xv) (LcB prog w A E env (.ListComp elt [⟨target, iter, ifs, 0⟩] scope pos) scope cl (compPost (model prog w) A E none Q)) E s₁) E s)
  (hs : ∀ x, foldedSetIterable iter env x = pure x := by intro _; rfl) :
  wpAny (model prog w) A (eval (.ListComp elt [⟨target, iter, ifs, 0⟩] scope pos) env) Q E s := by
 rw [eval_ListComp]
 exact wpAny_comprehension_free (use := none) rfl hs hclos hkind hnames h
theorem du {elt target iter : Expr} {ifs : List Expr} {y : Str} {py : Pos} {scope : Scope} {cl : List (Str × Addr)} {pos spos : Pos} {Q : Flow → Shared → Prop}
  (hsw : swapsWith (.ListComp elt [⟨target, iter, ifs, 0⟩] scope pos) (some (.Name y py)) spos.line env = pure true)
  (hclos : closureFor scope env = pure cl) (hkind : scope.kind = .function) (hnames : ∀ y ∈ scope.names, y.2 = .local → scope.names.lookup y.1 = some .local)
  (h : wpAny (model prog w) A (eval iter env) (fun xv s₁ => wpAny (model prog w) A (pyIter xv) (LcB prog w A E env (.ListComp elt [⟨target, iter, ifs, 0⟩] scope pos) scope cl (compPost (model prog w) A E (some (assign (.Name y py) env)) fun _ s' => Q .next s')) E s₁) E s)
  (hs : ∀ x, foldedSetIterable iter env x = pure x := by intro _; rfl) :
  wpAny (model prog w) A (exec (.Assign [.Name y py] (.ListComp elt [⟨target, iter, ifs, 0⟩] scope pos) spos) env) Q E s := by
 rw [exec_Assign_Name_used _ _ _ _ hsw]
 refine wpAny_bind (wpAny_standAt (wpAny_bind ?_))
 show wpAny _ A (do let _ ← comprehension (.ListComp elt [⟨target, iter, ifs, 0⟩] scope pos) scope env _ (newList []) false (eval iter env) (some (assign (.Name y py) env))) _ _ s
 exact wpAny_bind (wpAny_mono (wpAny_comprehension_free (use := some (assign (.Name y py) env)) (Q := fun _ s' => Q .next s') rfl hs hclos hkind hnames h) (fun _ s' hq => wpAny_pure (wpAny_pure hq)) fun _ _ e => e)
section
variable {elt target iter : Expr} {ifs : List Expr} {scope : Scope} {cl : List (Str × Addr)} {pos : Pos} {fp : List Addr} {src : List (Addr × Obj)} {n : Nat} {P : Nat → Value → Prop} {St : Nat → Heap → Prop} {oI : Obj} {xv : Value} {news : List (Addr × Obj)}
noncomputable def LTurn (prog : Program) (w : World) (A : Around) (s : Shared) (h₀ : Heap) (L : Addr) (m : Str → Option Value) (env : Env) (elt target : Expr) (ifs : List Expr) (scope : Scope) (cl : List (Str × Addr)) (n : Nat) (P : Nat → Value → Prop) (J : Nat → List Value → List (Addr × Obj) → Prop) : Prop :=
 ∀ i v ys nx I oI C oC D m₂ h tk (E' : Value → Shared → Prop), i < n → P i v → J i ys nx → NsObj oC m₂ → Fr h₀ L h m → News h₀ L h ((I, oI) :: (C, oC) :: (D, lst ys) :: nx) → Off3 I C D nx → ((@Ne Nat I C) ∧ (@Ne Nat I D) ∧ (@Ne Nat C D)) →
   wpAny (model prog w) A (assign target (compEnvC scope cl C env) v) (fun _ s₂ => wpAny (model prog w) A (bh ifs (compEnvC scope cl C env)) (fun ok s₃ =>
    if ok = true then wpAny (model prog w) A (eval elt (compEnvC scope cl C env)) (fun y s₄ => LOut h₀ L m s I oI C D ys (J (i + 1) (ys ++ [y])) s₄) E' s₃ else LOut h₀ L m s I oI C D ys (J (i + 1) ys) s₃) E' s₂) E' { s with heap := h, toks := tk }
theorem LC_gen {RR : Value → Addr → Result → Shared → Prop} (S : SrcW prog w A s₁ xv n P src fp St oI)
  (hgo : ∀ i v (s : Shared) (Q : Unit → Shared → Prop) (E' : Value → Shared → Prop), St i s.heap → Q () s → wpAny (model prog w) A (letOwnedTupleGo target (.ref s₁.heap.objs.size) v) Q E' s)
  (hcell : ∀ y ∈ scope.names, y.2 ≠ .cell) (hkind : scope.kind = .function) (F : Fr h₀ L s₁.heap m) (N : News h₀ L s₁.heap news) (hsz : n ≤ sizeLine)
  (J : Nat → List Value → List (Addr × Obj) → Prop) (hsrc : ∀ i ys nx, J i ys nx → ∀ p ∈ src, p ∈ nx) (hJ : J 0 [] news)
  (turn : LTurn prog w A s₁ h₀ L m env elt target ifs scope cl n P J)
  (done : ∀ D C oC m₂ ys nx h tk, J n ys nx → NsObj oC m₂ → Fr h₀ L h m → News h₀ L h ((C, oC) :: (D, lst ys) :: nx) → (∀ p ∈ (D, lst ys) :: nx, p.1 ≠ C) → (∀ p ∈ nx, p.1 ≠ D) → RR (.ref D) C (.ok .next) { s₁ with heap := h, toks := tk }) :
  wpAny (model prog w) A (pyIter xv) (LcB prog w A E env (.ListComp elt [⟨target, iter, ifs, 0⟩] scope pos) scope cl RR) E s₁ := by
 refine S.it _ _ ?_
 have up : ∀ b o, s₁.heap.get? b = some o → (s₁.heap.push oI).get? b = some o := fun b o e => Heap.get?_push_of_some _ e
 refine lcBlock S.wk S.io S.fp (fun b hb => ?_) hgo hcell hkind S.st (F.keeps up) (N.grown up) (Nat.ne_of_lt F.ns.lt) (next_is_new F) (fun p hp => Nat.ne_of_lt (Heap.lt_size (N p hp).1)) hsz J hsrc hJ ?_ ?_
 ·show b < (s₁.heap.push _).objs.size
  rw [Heap.size_push]
  rcases S.fp b hb with rfl | ⟨o, ho⟩
  ·exact Nat.lt_succ_self _
  ·exact Nat.lt_succ_of_lt (Heap.lt_size (N _ (hsrc 0 [] news hJ _ ho)).1)
 ·intro i v ys nx oI' C oC D m₂ h tk E' a1 a2 a3 a4 a5 a6 a7 a8
  exact turn i v ys nx _ oI' C oC D m₂ h tk E' a1 a2 a3 a4 a5 a6 a7 a8
 ·exact done
theorem cQ {Q : Value → Shared → Prop} (S : SrcW prog w A s₁ xv n P src fp St oI)
  (hgo : ∀ i v (s : Shared) (Q : Unit → Shared → Prop) (E' : Value → Shared → Prop), St i s.heap → Q () s → wpAny (model prog w) A (letOwnedTupleGo target (.ref s₁.heap.objs.size) v) Q E' s)
  (hcell : ∀ y ∈ scope.names, y.2 ≠ .cell) (hkind : scope.kind = .function) (F : Fr h₀ L s₁.heap m) (N : News h₀ L s₁.heap news) (hsz : n ≤ sizeLine)
  (J : Nat → List Value → List (Addr × Obj) → Prop) (hsrc : ∀ i ys nx, J i ys nx → ∀ p ∈ src, p ∈ nx) (hJ : J 0 [] news)
  (turn : LTurn prog w A s₁ h₀ L m env elt target ifs scope cl n P J)
  (done : ∀ D ys nx h tk, J n ys nx → Fr h₀ L h m → News h₀ L h ((D, lst ys) :: nx) → (∀ p ∈ nx, p.1 ≠ D) → Q (.ref D) { s₁ with heap := h, toks := tk }) :
  wpAny (model prog w) A (pyIter xv) (LcB prog w A E env (.ListComp elt [⟨target, iter, ifs, 0⟩] scope pos) scope cl (compPost (model prog w) A E none Q)) E s₁ := by
 refine LC_gen S hgo hcell hkind F N hsz J hsrc hJ turn ?_
 intro D C oC m₂ ys nx h tk hj hoC F' N' o1 o2
 have hc := N' _ (.head _)
 refine ⟨m₂, hoC.ns hc.1, fun h'' hs'' => done D ys nx h'' tk hj (F'.change hs'' hc.2.1 hc.2.2) (fun p hp => ?_) o2⟩
 exact ⟨hs''.extBut _ _ (o1 p hp) (N' p (.tail _ hp)).1, (N' p (.tail _ hp)).2⟩
theorem kZ {y : Str} {py : Pos} {Q : Shared → Prop} (hL : env.locals = L) (S : SrcW prog w A s₁ xv n P src fp St oI)
  (hgo : ∀ i v (s : Shared) (Q : Unit → Shared → Prop) (E' : Value → Shared → Prop), St i s.heap → Q () s → wpAny (model prog w) A (letOwnedTupleGo target (.ref s₁.heap.objs.size) v) Q E' s)
  (hcell : ∀ y ∈ scope.names, y.2 ≠ .cell) (hkind : scope.kind = .function) (hy : env.kindOf y = some .local) (hp : (env.scope.kind == .class || (env.scope.kind == .module && env.locals != env.globals)) = false) (F : Fr h₀ L s₁.heap m) (N : News h₀ L s₁.heap news) (hsz : n ≤ sizeLine)
  (J : Nat → List Value → List (Addr × Obj) → Prop) (hsrc : ∀ i ys nx, J i ys nx → ∀ p ∈ src, p ∈ nx) (hJ : J 0 [] news)
  (turn : LTurn prog w A s₁ h₀ L m env elt target ifs scope cl n P J)
  (done : ∀ D ys nx h tk, J n ys nx → Fr h₀ L h (fun z => if z = y then some (.ref D) else m z) → News h₀ L h ((D, lst ys) :: nx) → (∀ p ∈ nx, p.1 ≠ D) → Q { s₁ with heap := h, toks := tk }) :
  wpAny (model prog w) A (pyIter xv) (LcB prog w A E env (.ListComp elt [⟨target, iter, ifs, 0⟩] scope pos) scope cl (compPost (model prog w) A E (some (assign (.Name y py) env)) fun _ s' => Q s')) E s₁ := by
 subst hL
 refine LC_gen S hgo hcell hkind F N hsz J hsrc hJ turn ?_
 intro D C oC m₂ ys nx h tk hj hoC F' N' o1 o2
 have hc := N' _ (.head _)
 show wpAny _ A (assign (.Name y py) env (.ref D)) _ _ _
 refine wpAny_assign_Name (wpAny_storeName_local hy F'.ns (fun h₂ hn₂ hs₂ => ?_) hp)
 have hL₀ : h₀.get? env.locals = none := Heap.get?_none_of_le F'.above
 have F₂ : Fr h₀ env.locals h₂ (fun z => if z = y then some (.ref D) else m z) := ⟨hn₂, fun b o e => hs₂.extBut b o (fun q => by rw [q, hL₀] at e; cases e) (F'.keep b o e), F'.above⟩
 refine ⟨m₂, (hoC.ns hc.1).sameBut hs₂ hc.2.1, fun h'' hs'' => done D ys nx h'' _ hj (F₂.change hs'' hc.2.1 hc.2.2) (fun p hp => ?_) o2⟩
 have z : h₂.get? p.1 = some p.2 := hs₂.extBut _ _ (N' p (.tail _ hp)).2.1 (N' p (.tail _ hp)).1
 exact ⟨hs''.extBut _ _ (o1 p hp) z, (N' p (.tail _ hp)).2⟩
end
theorem bp {x : Str} {px : Pos} {scope : Scope} {cl : List (Str × Addr)} {I C : Addr} {oI oC : Obj} {rest : List (Addr × Obj)} {v : Value} {Q : Unit → Shared → Prop} (hoC : NsObj oC m₂) (F : Fr h₀ L s.heap m) (N : News h₀ L s.heap ((I, oI) :: (C, oC) :: rest)) (off : I ≠ C ∧ ∀ p ∈ rest, p.1 ≠ C)
  (hx : scope.names.lookup x = some .local) (hkind : scope.kind = .function)
  (k : ∀ h' tk oC' m₂', NsObj oC' m₂' → m₂' x = some v → Fr h₀ L h' m → News h₀ L h' ((I, oI) :: (C, oC') :: rest) → Q () { s with heap := h', toks := tk }) :
  wpAny (model prog w) A (assign (.Name x px) (compEnvC scope cl C env) v) Q E s := by
 have hc := N _ (.tail _ (.head _))
 refine wpAny_assign_Name (wpAny_storeName_local (lookup_relabel_local hx) (hoC.ns hc.1) (fun h₃ hn₃ hs₃ => ?_) (by simp [compEnvC, relabel, hkind]))
 refine aJ (ns_obj hn₃) ?_; intro oC' heC hoC'
 refine k h₃ _ oC' _ hoC' (by simp) (F.change hs₃ hc.2.1 hc.2.2) fun p hp => ?_
 rcases List.mem_cons.mp hp with rfl | hp
 ·exact ⟨hs₃.extBut _ _ off.1 (N _ (.head _)).1, (N _ (.head _)).2⟩
 ·rcases List.mem_cons.mp hp with rfl | hp
  ·exact ⟨heC, hc.2⟩
  ·have z := N p (.tail _ (.tail _ hp))
   exact ⟨hs₃.extBut _ _ (off.2 p hp) z.1, z.2⟩
theorem asg_pair {x x₂ : Str} {px px₂ tp : Pos} {tk0} {scope : Scope} {cl : List (Str × Addr)} {I C T : Addr} {oI oC : Obj} {rest : List (Addr × Obj)} {v₁ v₂ : Value} {k0 : Nat} {Q : Unit → Shared → Prop} (hh : A.handled = none) (hoC : NsObj oC m₂) (F : Fr h₀ L s.heap m) (N : News h₀ L s.heap ((I, oI) :: (C, oC) :: rest)) (off : I ≠ C ∧ ∀ p ∈ rest, p.1 ≠ C)
  (hT : (T, tupOf [v₁, v₂] k0) ∈ rest) (hx : scope.names.lookup x = some .local) (hx₂ : scope.names.lookup x₂ = some .local) (hxx : x ≠ x₂) (hkind : scope.kind = .function)
  (k : ∀ h' tk oC' m₂', NsObj oC' m₂' → m₂' x = some v₁ → m₂' x₂ = some v₂ → Fr h₀ L h' m → News h₀ L h' ((I, oI) :: (C, oC') :: rest) → Q () { s with heap := h', toks := tk }) :
  wpAny (model prog w) A (assign (.Tuple [.Name x px, .Name x₂ px₂] tk0 tp) (compEnvC scope cl C env) (.ref T)) Q E s := by
 have hc := N _ (.tail _ (.head _))
 have ht : IsTup s.heap T #[v₁, v₂] := ⟨_, (N _ (.tail _ (.tail _ hT))).1, rfl, k0, rfl⟩
 refine assign_Tuple_tuple hh ht rfl rfl fun h₅ he => ?_
 have he' : ∀ b o, s.heap.get? b = some o → h₅.get? b = some o := fun b o e => he b o (Nat.ne_of_lt (Heap.lt_size e)) e
 refine assignInOrder_cons (wpAny_assign_Name (wpAny_storeName_local (lookup_relabel_local hx) ((hoC.ns hc.1).at' fun o e => he' _ o e) (fun h₆ hn₆ hs₆ => ?_) (by simp [compEnvC, relabel, hkind])))
 refine assignInOrder_cons (wpAny_assign_Name (wpAny_storeName_local (lookup_relabel_local hx₂) hn₆ (fun h₃ hn₃ hs₃ => ?_) (by simp [compEnvC, relabel, hkind])))
 refine assignInOrder_nil ?_
 have old3 : ∀ b o, b ≠ C → s.heap.get? b = some o → h₃.get? b = some o := fun b o hb e => hs₃.extBut b o hb (hs₆.extBut b o hb (he' b o e))
 refine aJ (ns_obj hn₃) ?_; intro oC' heC hoC'
 refine k h₃ _ oC' _ hoC' (by simp [hxx]) (by simp) (((F.keeps he').change hs₆ hc.2.1 hc.2.2).change hs₃ hc.2.1 hc.2.2) fun p hp => ?_
 rcases List.mem_cons.mp hp with rfl | hp
 ·exact ⟨old3 _ _ off.1 (N _ (.head _)).1, (N _ (.head _)).2⟩
 ·rcases List.mem_cons.mp hp with rfl | hp
  ·exact ⟨heC, hc.2⟩
  ·have z := N p (.tail _ (.tail _ hp))
   exact ⟨old3 _ _ (off.2 p hp) z.1, z.2⟩
theorem go_name {x : Str} {px : Pos} {I : Addr} {St : Nat → Heap → Prop} : ∀ (i : Nat) (v : Value) (s : Shared) (Q : Unit → Shared → Prop) (E' : Value → Shared → Prop), St i s.heap → Q () s → wpAny (model prog w) A (letOwnedTupleGo (.Name x px) (.ref I) v) Q E' s :=
 fun _ _ _ _ _ _ h => wpAny_pure h
theorem go_list {target : Expr} {I l : Addr} {its : Array Value} (ht : cR target) : ∀ (i : Nat) (v : Value) (s : Shared) (Q : Unit → Shared → Prop) (E' : Value → Shared → Prop), (s.heap.IsListIter I l i ∧ s.heap.IsList l its) → Q () s → wpAny (model prog w) A (letOwnedTupleGo target (.ref I) v) Q E' s :=
 fun _ _ _ _ _ st h => eN ht st.1 h
theorem off_2 {I C D : Addr} {oD : Obj} {nx : List (Addr × Obj)} (h : Off3 I C D nx) (n : (@Ne Nat I C) ∧ (@Ne Nat I D) ∧ (@Ne Nat C D)) : I ≠ C ∧ ∀ p ∈ (D, oD) :: nx, p.1 ≠ C := ⟨n.1, fun p hp => by
 rcases List.mem_cons.mp hp with rfl | hp
 ·exact Ne.symm n.2.2
 ·exact (h.mem p hp).2.1⟩
end
local macro_rules | `(tactic| passes_own) => wa "mine passes_own"
local macro_rules | `(tactic| k_all) => wa "mine k_all"
theorem rlW10 : True := by
 k_with_none
 k_with "mine hide" => first | (refine (?_ : let gk : Prop := wpAny _ ak _ _ _ _; gk); (try clear gk); intro gk) | (refine (?_ : let ak : Around := _; let gk : Prop := wpAny _ ak _ _ _ _; gk); intro ak; (try clear gk); intro gk) | (refine (?_ : let gk : Prop := _; gk); (try clear gk); intro gk)
 k_with "mine open" => first | (refine (?_ : let gk : Prop := wpAny _ ak _ _ _ _; Held gk); (try clear gk); intro gk; show gk) | (refine (?_ : let ak : Around := _; let gk : Prop := wpAny _ ak _ _ _ _; Held gk); intro ak; (try clear gk); intro gk; show gk) | (refine (?_ : let gk : Prop := _; Held gk); (try clear gk); intro gk; show gk)
 k_with "execs cons" => (k_here; (with_reducible refine aL ?_); (try clear tkw); intro tkw; (try k_fold); (with_reducible refine wpAny_execs_cons ?_); (try dsimp only))
 k_with "mine passes_own" => first | assumption | with_reducible exact PySem.PassesOwn.leaving | with_reducible exact PySem.PassesOwn.looking | with_reducible exact PySem.PassesOwnAt.leaving | with_reducible exact PySem.PassesOwnAt.looking | exact PySem.PassesOwn.leaving | exact PySem.PassesOwn.looking | exact PySem.PassesOwnAt.leaving | exact PySem.PassesOwnAt.looking
 k_with "exec For" => (k_here; refine held ?_)
 k_with "mine k_all" => first | assumption | exact List.forall_mem_nil _ | (refine' List.forall_mem_cons.mpr ⟨?_, ?_⟩; (focus k_ne); k_all)
 k_with "eval ListComp" => (k_here; refine held ?_)
 k_with "call builtin:str.join" => (k_here; refine held ?_)
 k_with "pyIter str" => (k_here; refine held ?_)
 trivial
section
variable {prog : Program} {w : World} {A : Around} {s₁ : Shared}
theorem SrcW.ascii {x : Str} {t : Tok} (hh : A.handled = none) (ha : x.cps.all (· < 128) = true) :
  SrcW prog w A s₁ (.str x t) x.cps.size (SignAt x) [] [s₁.heap.objs.size] (fun i h => h.IsStrIter s₁.heap.objs.size "str_ascii_iterator" x t i) { cls := .type "str_ascii_iterator", data := .fields #[.str x t, .int 0 0] } where
 it := fun Q E hQ => wpAny_pyIter_ascii ha hQ
 wk := Walks.strAscii hh _ x t
 io := fun i h st => by obtain ⟨o, e, _⟩ := st; exact ⟨o, e⟩
 fp := fun b hb => .inl (List.mem_singleton.mp hb)
 st := ⟨_, Heap.get?_push_size _ rfl, rfl, rfl⟩
end
noncomputable def escC (c : Nat) : Str := if c = 34 ∨ c = 92 then ⟨#[92, c]⟩ else ⟨#[c]⟩
theorem nm_codes {n c i : Nat} (h5 : n < 5) (h0 : n ≠ 0) (h : (nm n).cps[i]? = some c) : c = 98 ∨ c = 32 ∨ c = 99 ∨ c = 100 ∨ c = 34 ∨ c = 101 ∨ c = 92 := by
 have hm : c ∈ (nm n).cps.toList := by
  rw [← Array.getElem?_toList] at h
  exact List.mem_of_getElem? h
 match n, h5, h0 with
 | 1, _, _ => exact (show ∀ c ∈ (nm 1).cps.toList, c = 98 ∨ c = 32 ∨ c = 99 ∨ c = 100 ∨ c = 34 ∨ c = 101 ∨ c = 92 by decide) c hm
 | 2, _, _ => exact (show ∀ c ∈ (nm 2).cps.toList, c = 98 ∨ c = 32 ∨ c = 99 ∨ c = 100 ∨ c = 34 ∨ c = 101 ∨ c = 92 by decide) c hm
 | 3, _, _ => exact (show ∀ c ∈ (nm 3).cps.toList, c = 98 ∨ c = 32 ∨ c = 99 ∨ c = 100 ∨ c = 34 ∨ c = 101 ∨ c = 92 by decide) c hm
 | 4, _, _ => exact (show ∀ c ∈ (nm 4).cps.toList, c = 98 ∨ c = 32 ∨ c = 99 ∨ c = 100 ∨ c = 34 ∨ c = 101 ∨ c = 92 by decide) c hm
theorem nm_ascii (n : Nat) (h : n < 5) : (nm n).cps.all (· < 128) = true := by
 have key : ∀ n : Fin 5, (nm n.1).cps.all (· < 128) = true := by decide +kernel
 exact key ⟨n, h⟩
theorem esc_join (n : Nat) (h : n < 5) : Txt.join (Str.ofString "") ((nm n).cps.toList.map escC) = esc n := by
 have key : ∀ n : Fin 5, Txt.join (Str.ofString "") ((nm n.1).cps.toList.map escC) = esc n.1 := by decide +kernel
 exact key ⟨n, h⟩
inductive TextJ (r : List PR) (Td : Addr) (news : List (Addr × Obj)) (i : Nat) (m : Str → Option Value) (nx : List (Addr × Obj)) : Prop where
 | mk : ∀ (u : Str → Option Value) (bvs : List Value) (k : Nat), (m = (fun y => if y = Str.ofString "told" then some (.ref Td) else u y)) → (nx = (Td, listOf bvs.toArray k) :: news) → (StrsAre bvs ((r.take i).map ptext)) → TextJ r Td news i m nx
theorem text_ok (w : World) (l : Addr) (r : List PR) (hrl : r.length ≤ 10) (hg : ∀ p ∈ r, GoodP p) : Pure1 w 226 [.ref l] (fun nx => DatIn nx (.ref l) (datR (r.map toP))) (fun nx res => ∃ t, res = .str (rtext r) t) := by
 unfold Pure1
 k_fill
 intro p loose mean mg mb dp un gd cn cs a ccd cl outer A₀ base h₀ L m news s Q E B F X N T hk hd hu hpre hret
 refine gO (ef hpre) ?_; intro b ws q hb hbm hws
 obtain rfl : l = b := by injection hb
 refine wpAny_call ?_
 k_dflt cell_enter
 k_steps
 rename_i g' L' h1 FG B' X' T' Td h2 lTd h3 F3 N3
 walk_at "mine open"
 refine dw (l := l) (vs := ws) (nn := q) (TextJ r Td news) rfl F3 N3 (fun Q' h' => ?_) ?_ ?_ ?_ ?_
 ·k_steps
  exact h'
 ·exact ⟨_, [], 0, asIf rfl, rfl, .nil⟩
 ·rintro i m nx ⟨u, bvs, k, rfl, rfl, hS⟩
  exact .tail _ hbm
 ·intro I i v m₁ nx hh tk o hv zp1 hI hIn F₁ N₁
  walk_at "mine hide"
  obtain ⟨u, bvs, k, rfl, rfl, hS⟩ := zp1
  refine aJ (aY (rs := r) (f := fun p => datP (toP p)) (by simpa [List.map_map, Function.comp_def] using hws) hv) ?_; intro pr hpr hDp
  refine x4_2 (eg hDp) ?_; intro b' t' q' x' xq3e; subst xq3e; intro hb' hx
  have hgp : GoodP pr := hg pr (List.mem_of_getElem? hpr)
  obtain ⟨pk, pv⟩ := pr
  replace F₁ : Fr g' L' hh _ := F₁
  replace N₁ : News g' L' hh _ := N₁
  have hT := News.isTup N₁ (List.mem_append.mpr (.inl (.tail _ hb')))
  have hbl : bvs.length ≤ sizeLine := by
   have e1 := hS.len_eq
   have e2 : sizeLine = 16777216 := rfl
   have e4 : ((r.take i).map ptext).length ≤ r.length := by rw [List.length_map, List.length_take]; omega
   omega
  have hneT : ∀ p ∈ news ++ [(I, o)], p.1 ≠ Td := fun p hp => by
   rcases List.mem_append.mp hp with hp | hp
   ·exact Nat.ne_of_lt (lTd p hp)
   ·rw [List.mem_singleton.mp hp]; exact Ne.symm (hI _ (.head _))
  have fin : ∀ (s₃ : Shared) (h3 : Heap) (tk3 : Nat) (m3 : Str → Option Value) (t3 : Tok) (k3 : Nat), s₃ = { s with heap := h3, toks := tk3 } → m3 (Str.ofString "told") = some (.ref Td) → Fr g' L' h3 m3 →
    News g' L' h3 ((Td, listOf (bvs.toArray.push (Value.str (ptext (pk, pv)) t3)) k3) :: (news ++ [(I, o)])) →
    cG g' L' s I o (TextJ r Td news (i + 1)) s₃ := by
   intro s₃ h3 tk3 m3 t3 k3 e3 ma F4 N4
   refine ⟨h3, tk3, m3, (Td, listOf (bvs.toArray.push (Value.str (ptext (pk, pv)) t3)) k3) :: news, e3, F4, N4, ?_, m3, bvs ++ [Value.str (ptext (pk, pv)) t3], k3, asIf ma, by simp, ?_⟩
   ·intro p hp
    rcases List.mem_cons.mp hp with rfl | hp
    ·exact hI (Td, listOf bvs.toArray k) (.head _)
    ·exact hI p (.tail _ hp)
   ·have : (r.take (i + 1)).map ptext = (r.take i).map ptext ++ [ptext (pk, pv)] := by
     rw [List.take_add_one, hpr]; simp
    rw [this]
    exact hS.append' (.cons _ _ .nil)
  rcases hx with ⟨rfl, rfl⟩ | ⟨n, t9, rfl, rfl⟩
  ·k_steps
   rename Heap => h4
   rename Fr _ _ _ _ => F4
   rename News _ _ _ _ => N4
   exact fin _ h4 _ _ t' _ rfl rfl F4 N4
  ·have hn5 : n < 5 := hgp.2 n rfl
   have hpk5 : pk.length ≤ 5 := cf hgp
   have hnm3 := kt n
   by_cases hn0 : n = 0
   ·subst hn0
    rw [show nm 0 = Str.ofString "a" from rfl] at hT
    k_steps
    rename_i t4 k4 hl4 h4 F4 N4
    have et : pk ++ Str.ofString "=a" = ptext (pk, some 0) := by
     show _ = pk ++ (Str.ofString "=" ++ qv 0)
     congr 1
    rw [et] at N4
    exact fin _ h4 _ _ _ _ rfl rfl F4 N4
   ·have hna : (nm n == Str.ofString "a") = false := by
     have key : ∀ n : Fin 5, n.1 ≠ 0 → (nm n.1 == Str.ofString "a") = false := by decide
     exact key ⟨n, hn5⟩ hn0
    k_steps
    ·rename_i t5 k5 hl5
     rename Heap => h4
     rename Fr _ _ _ _ => F4
     rename News _ _ _ _ => N4
     walk_at "mine open"
     refine bJ (cl := []) (by with_unfolding_all rfl) (by rfl) (by decide) ?_
     k_steps
     walk_at "mine open"
     generalize hn1 : (Td, listOf bvs.toArray k) :: news ++ [(I, o)] = n1 at N4
     refine cQ (SrcW.ascii rfl (nm_ascii n hn5)) (fun _ _ _ _ _ _ h => wpAny_pure h) (by decide) rfl F4 N4 ?_ (fun i ys nx => nx = n1 ∧ StrsAre ys (((nm n).cps.toList.take i).map escC)) (fun _ _ _ _ _ hp => (nomatch hp)) ⟨rfl, .nil⟩ ?_ ?_
     ·have e0 : sizeLine = 16777216 := rfl
      have : (nm n).cps.size = (nm n).length := rfl
      omega
     ·intro i2 v ys nx I2 oI C oC D2 m₂ h6 tk6 E' hi zp2 zp3 hoC F6 N6 off ne
      walk_at "mine hide"
      refine bg (zp2) ?_; (try clear zp2); intro c u6 hc xq5d; subst xq5d
      refine bj (zp3) ?_; (try clear zp3); intro xq6a; subst xq6a; intro hys
      refine bp hoC F6 N6 (off_2 off ne) rfl rfl fun h7 tk7 oC7 m7 hoC7 hm7 F7 N7 => ?_
      refine wpAny_tests_nil ?_
      rw [if_pos rfl]
      have hy : ∀ t3, StrsAre (ys ++ [.str (escC c) t3]) (((nm n).cps.toList.take (i2 + 1)).map escC) := fun t3 => by
       have : (nm n).cps.toList[i2]? = some c := by rw [Array.getElem?_toList]; exact hc
       rw [List.take_add_one, this, List.map_append]
       exact hys.append' (.cons _ _ .nil)
      rcases nm_codes hn5 hn0 hc with rfl | rfl | rfl | rfl | rfl | rfl | rfl
      ·rw [show (⟨#[98]⟩ : Str) = Str.ofString "b" from by decide] at hm7
       have hin : (Builtin.Str.occurrences (Str.ofString "\"\\") (Str.ofString "b") 0 (Str.ofString "\"\\").length 1).isEmpty = true := by decide +kernel
       k_steps
       all_goals first | exact absurd (hin.symm.trans (by assumption)) (by decide) | exact ⟨h7, _, nx, oC7, m7, rfl, hoC7, F7, N7, off, rfl, hy _⟩
      ·rw [show (⟨#[32]⟩ : Str) = Str.ofString " " from by decide] at hm7
       have hin : (Builtin.Str.occurrences (Str.ofString "\"\\") (Str.ofString " ") 0 (Str.ofString "\"\\").length 1).isEmpty = true := by decide +kernel
       k_steps
       all_goals first | exact absurd (hin.symm.trans (by assumption)) (by decide) | exact ⟨h7, _, nx, oC7, m7, rfl, hoC7, F7, N7, off, rfl, hy _⟩
      ·rw [show (⟨#[99]⟩ : Str) = Str.ofString "c" from by decide] at hm7
       have hin : (Builtin.Str.occurrences (Str.ofString "\"\\") (Str.ofString "c") 0 (Str.ofString "\"\\").length 1).isEmpty = true := by decide +kernel
       k_steps
       all_goals first | exact absurd (hin.symm.trans (by assumption)) (by decide) | exact ⟨h7, _, nx, oC7, m7, rfl, hoC7, F7, N7, off, rfl, hy _⟩
      ·rw [show (⟨#[100]⟩ : Str) = Str.ofString "d" from by decide] at hm7
       have hin : (Builtin.Str.occurrences (Str.ofString "\"\\") (Str.ofString "d") 0 (Str.ofString "\"\\").length 1).isEmpty = true := by decide +kernel
       k_steps
       all_goals first | exact absurd (hin.symm.trans (by assumption)) (by decide) | exact ⟨h7, _, nx, oC7, m7, rfl, hoC7, F7, N7, off, rfl, hy _⟩
      ·rw [show (⟨#[34]⟩ : Str) = Str.ofString "\"" from by decide] at hm7
       have hin : (Builtin.Str.occurrences (Str.ofString "\"\\") (Str.ofString "\"") 0 (Str.ofString "\"\\").length 1).isEmpty = false := by decide +kernel
       k_steps
       all_goals first | exact absurd (hin.symm.trans (by assumption)) (by decide) | exact ⟨h7, _, nx, oC7, m7, rfl, hoC7, F7, N7, off, rfl, hy _⟩
      ·rw [show (⟨#[101]⟩ : Str) = Str.ofString "e" from by decide] at hm7
       have hin : (Builtin.Str.occurrences (Str.ofString "\"\\") (Str.ofString "e") 0 (Str.ofString "\"\\").length 1).isEmpty = true := by decide +kernel
       k_steps
       all_goals first | exact absurd (hin.symm.trans (by assumption)) (by decide) | exact ⟨h7, _, nx, oC7, m7, rfl, hoC7, F7, N7, off, rfl, hy _⟩
      ·rw [show (⟨#[92]⟩ : Str) = Str.ofString "\\" from by decide] at hm7
       have hin : (Builtin.Str.occurrences (Str.ofString "\"\\") (Str.ofString "\\") 0 (Str.ofString "\"\\").length 1).isEmpty = false := by decide +kernel
       k_steps
       all_goals first | exact absurd (hin.symm.trans (by assumption)) (by decide) | exact ⟨h7, _, nx, oC7, m7, rfl, hoC7, F7, N7, off, rfl, hy _⟩
     ·intro D3 ys nx h6 tk6 zp4 F6 N6 oD3
      walk_at "mine hide"
      refine bj (zp4) ?_; (try clear zp4); intro xq7a; subst xq7a; intro hys
      have eL : (nm n).cps.toList.length = (nm n).cps.size := Array.length_toList
      rw [← eL, List.take_length] at hys
      k_steps
      walk_at "mine open"
      refine join_list (News.isList N6 (.head _)) hys ?_ ?_
      ·have h1 := StrLaws.sumLen_le (B := 2) ((nm n).cps.toList.map escC) (by
        intro y hy
        refine aJ (List.mem_map.mp hy) ?_; intro c _ xq8c; subst xq8c
        unfold escC
        split <;> exact Nat.le_of_ble_eq_true rfl)
       have h2 : ((nm n).cps.toList.map escC).length ≤ 3 := by rw [List.length_map, eL]; exact hnm3
       have h3 : (Str.ofString "").length = 0 := rfl
       have e0 : sizeLine = 16777216 := rfl
       rw [h3]
       omega
      intro t8 k8
      rw [esc_join n hn5]
      replace N6 : News g' L' h6 ((Td, listOf bvs.toArray k) :: (news ++ [(I, o)])) := News.sub N6 (fun q hq => .tail _ (by rw [← hn1]; exact hq))
      have hes3 := iu n
      k_steps
      rename_i t9' k9 hl9 h9 F9 N9
      have et : pk ++ Str.ofString "=\"" ++ esc n ++ Str.ofString "\"" = ptext (pk, some n) := by
       show _ = pk ++ (Str.ofString "=" ++ qv n)
       rw [← jF hn0 hn5]
       have e2 : Str.ofString "=\"" = Str.ofString "=" ++ Str.ofString "\"" := by decide
       rw [e2]
       simp only [Str.append_assoc]
      rw [et] at N9
      exact fin _ h9 _ _ _ _ rfl rfl F9 N9
 ·intro m nx h4 tk4 zp5 F4 N4
  walk_at "mine hide"
  obtain ⟨u, bvs, k, rfl, rfl, hS⟩ := zp5
  have hlen : ws.length = r.length := by
   have := hws.length
   simpa using this
  rw [hlen, List.take_length] at hS
  k_steps
  walk_at "mine open"
  refine join_list (N4.isList (.head _)) hS ?_ ?_
  ·have h1 := StrLaws.sumLen_le (B := 12) (r.map ptext) (by intro y hy; obtain ⟨q, hq, rfl⟩ := List.mem_map.mp hy; exact eq (hg q hq))
   have h2 : (r.map ptext).length ≤ 10 := by simpa using hrl
   have h3 : (Str.ofString "; ").length = 2 := rfl
   have e0 : sizeLine = 16777216 := rfl
   rw [h3]
   omega
  intro t9 k9
  k_steps
  refine hret _ [(Td, listOf bvs.toArray k)] _ _ (by assumption) (by assumption) ?_ ⟨_, rfl⟩
  intro q hq p hp
  rw [List.mem_singleton.mp hp]
  exact lTd q hq
end
section
open PySem PySem.W PyProof.Rows PySem.Calls PySem.Spec
local macro_rules | `(tactic| k_all) => wa "mine k_all"
theorem rlS30 : True := by
 k_with_none
 k_with "mine hide" => first | (refine (?_ : let gk : Prop := wpAny _ ak _ _ _ _; gk); (try clear gk); intro gk) | (refine (?_ : let ak : Around := _; let gk : Prop := wpAny _ ak _ _ _ _; gk); intro ak; (try clear gk); intro gk) | (refine (?_ : let gk : Prop := _; gk); (try clear gk); intro gk)
 k_with "mine open" => first | (refine (?_ : let gk : Prop := wpAny _ ak _ _ _ _; Held gk); (try clear gk); intro gk; show gk) | (refine (?_ : let ak : Around := _; let gk : Prop := wpAny _ ak _ _ _ _; Held gk); intro ak; (try clear gk); intro gk; show gk) | (refine (?_ : let gk : Prop := _; Held gk); (try clear gk); intro gk; show gk)
 k_with "execs cons" => (k_here; (with_reducible refine aL ?_); (try clear tkw); intro tkw; (try k_fold); (with_reducible refine wpAny_execs_cons ?_); (try dsimp only))
 k_with "mine k_all" => first | assumption | exact List.forall_mem_nil _ | (refine' List.forall_mem_cons.mpr ⟨?_, ?_⟩; (focus k_ne); k_all)
 k_with "exec For" => (k_here; refine held ?_)
 k_with "call ref" => (k_here; refine held ?_)
 trivial
noncomputable def jN (G : Gr) (v : Nat) (needs : List Nat) : Gr := { G with nodes := needs.foldl touch (touch G.nodes v), np := fun u => if u = v then G.np v + needs.length else G.np u, su := fun u => G.su u ++ (needs.filter (· = u)).map fun _ => v }
noncomputable def MutC (rm : Nat) (w : World) (f : Addr) (args : List Value) (news : List (Addr × Obj)) (Post : List (Addr × Obj) → Value → Prop) : Prop :=
 ∀ (p : Program) (loose : List Str) (mean : ExcName → Option Value) (mg mb : Str → Option Value) (dp un : Nat) (gd : Option (List Code)) (cn : Str) (cs : Scope) (a : Addr) (ccd : Value) (cl : List (Str × Addr)) (outer : List Env) (A₀ : Around) (base h₀ : Heap) (L : Addr) (m : Str → Option Value) (s : Shared) (Q E : Value → Shared → Prop),
  Below A₀ base outer h₀ → Fr h₀ L s.heap m → (Mine.hd.heap_39 w.params).In h₀ → News h₀ L s.heap news → Top p loose mean mg mb h₀ → cs.kind = .function → dp + rm < recursionLimit → un + 10 * rm < cLine →
  (∀ r news' h' tk', Fr h₀ L h' m → News h₀ L h' news' → Post news' r → Q r { s with heap := h', toks := tk' }) →
  codeAny (model PySem.Challenge.rw_oc0257_01.prog w) (ktrTop dp un gd cn cs L a ccd cl outer) (.call (.ref f) ⟨args, []⟩) (fun r s' => match r with | .ok (.ret v) => Q v s' | .ok _ => False | .error e => E e s') s
theorem MutC.toR {rm : Nat} {w : World} {f : Addr} {args : List Value} {news : List (Addr × Obj)} {Post : List (Addr × Obj) → Value → Prop} (h : MutC rm w f args news Post) : MutR rm w f args news Post :=
 fun p loose mean mg mb dp un gd cn cs a ccd cl outer A₀ base h₀ L m s Q E b1 b2 b3 b4 b5 b6 b7 b8 b9 => wpAny_call (h p loose mean mg mb dp un gd cn cs a ccd cl outer A₀ base h₀ L m s Q E b1 b2 b3 b4 b5 b6 b7 b8 b9)
inductive AddJ (w : World) (S dx D : Addr) (po nf : Value) (v : Nat) (t : Tok) (G : Gr) (D' : Addr) (ws : List Value) (needs : List Nat) (news : List (Addr × Obj)) (i : Nat) (m : Str → Option Value) (nx : List (Addr × Obj)) : Prop where
 | mk : ∀ (u : Str → Option Value) (G' : Gr), (m = (fun y => if y = Str.ofString "self" then some (.ref S) else if y = Str.ofString "node" then some (.str (nm v) t) else u y)) → (SrtIn w S dx D .none po nf G' nx) → ((D', tupOf ws 0) ∈ nx) → (¬ Own S dx D G' D') → (Kept S dx D G G' news nx) → (G'.nodes = (needs.take i).foldl touch (touch G.nodes v)) → (G'.np = (fun u => if u = v then G.np v + needs.length else G.np u)) → (G'.su = (fun u => G.su u ++ ((needs.take i).filter (· = u)).map fun _ => v)) → AddJ w S dx D po nf v t G D' ws needs news i m nx
noncomputable def im (w : World) (S : Addr) (dx : Addr) (D : Addr) (po : Value) (nf : Value) (G : Gr) (v : Nat) (t : Tok) (needs : List Nat) (ws : List Value) (news : List (Prod Addr Obj)) : Prop := ∀ (h : SrtIn w S dx D .none po nf G news) (hv : v < 5) (hn : ∀ u ∈ needs, u < 5) (hl : needs.length ≤ 4) (hws : StrsAre ws (needs.map nm)) (hsu : ∀ u ∈ G.nodes, (G.su u).length ≤ 100), MutC 24 w 160 (.ref S :: .str (nm v) t :: ws) news (fun nx r => ∃ G', r = .none ∧ SrtIn w S dx D .none po nf G' nx ∧ G'.nodes = needs.foldl touch (touch G.nodes v) ∧ G'.np = (fun u => if u = v then G.np v + needs.length else G.np u) ∧ G'.su = (fun u => G.su u ++ (needs.filter (· = u)).map fun _ => v) ∧ Kept S dx D G G' news nx)
noncomputable def ag : (((World × Addr) × Addr) × (Addr × Value) × Value) × ((Gr × Nat) × Tok) × ((List Nat) × (List Value)) × (List (Prod Addr Obj)) := @Classical.epsilon _ (by have := neW; have := neG; infer_instance) fun x => ¬ u12 im x
theorem m_add_c : u12 im ag := by
 intro h hv hn hl hws hsu
 refine bO (h.fld) ?_; intro t1 t2 t3 t4 hfld
 have hinst := h.inst
 unfold MutC
 k_fill
 intro p loose mean mg mb dp un gd cn cs a ccd cl outer A₀ base h₀ L m s Q E B F XX N T hk hd hu hret
 replace N : News h₀ L s.heap (((ag.1.1.1.2), instObj 210 (ag.1.1.2)) :: ((ag.1.1.2), sdict (ag.1.1.1.1) t1 t2 t3 t4 (ag.1.2.1.1) .none (ag.1.2.1.2) (ag.1.2.2) 4) :: (ag.2.2.2)) := News.sub N (List.forall_mem_cons.mpr ⟨hinst, List.forall_mem_cons.mpr ⟨hfld, fun _ h => h⟩⟩)
 have hwl : (ag.2.2.1.2).length ≤ 4 := by have e := hws.len_eq; rw [List.length_map] at e; omega
 k_dflt (
  refine' kp_rest (vs := (ag.2.2.1.2)) (binds := fun D' => [(Str.ofString "self", .ref (ag.1.1.1.2)), (Str.ofString "node", .str (nm (ag.2.1.1.2)) (ag.2.1.2)), (Str.ofString "predecessors", .ref D')]) (g₁ := fun D' => some [(Str.ofString "self", .ref (ag.1.1.1.2)), (Str.ofString "node", .str (nm (ag.2.1.1.2)) (ag.2.1.2)), (Str.ofString "predecessors", .ref D')]) ?k1 ?k2 ?k3 ?k4 ?k5 ?kA ?kF ?kK ?k6 ?k7 ?k8 ?kV ?kP ?kG ?kB ?_ ?c2 ?c3 ?c4 ?c5
  (case kA => exact rfl)
  (case kF => exact rfl)
  (case kK => first | assumption | exact rfl)
  (case k1 => k_asm)
  (case k2 => k_asm)
  (case k3 => k_asm)
  (case k4 => k_asm)
  (case k5 => k_asm)
  (case k6 => k_is)
  (case k7 => k_is)
  (case k8 => first | ktr_room | ((show _ + 1 + 1 < recursionLimit); omega) | ((show _ + 1 < recursionLimit); omega))
  (case kV => exact rfl)
  (case kP => (match (ag.2.2.1.2), hwl with
   | [], _ => exact rfl
   | [_], _ => exact rfl
   | [_, _], _ => exact rfl
   | [_, _, _], _ => exact rfl
   | [_, _, _, _], _ => exact rfl
   | _ :: _ :: _ :: _ :: _ :: _, hwl => exact absurd hwl (by simp)))
  (case kG => exact fun _ => rfl)
  (case kB => exact fun _ => locs rfl)
  (case c5 => decide)
  (case c2 => exact rfl)
  (case c3 => exact rfl)
  (case c4 => exact rfl)
  k_whole
  intro D' g' L' h' l1 FG' F' N' B' X' T'
  (try dsimp only)
  (try k_lift B')
  (try k_fold))
 k_steps
 walk_at "mine open"
 have hDt : ∀ a, Own (ag.1.1.1.2) (ag.1.1.2) (ag.1.2.1.1) (ag.2.1.1.1) a → a < D' := fun a ha => by
  refine aT (h.ownIn ha) ?_; intro o ho
  exact l1 (a, o) (.tail _ (.tail _ ho))
 have hS5 : SrtIn (ag.1.1.1.1) (ag.1.1.1.2) (ag.1.1.2) (ag.1.2.1.1) .none (ag.1.2.1.2) (ag.1.2.2) (ag.2.1.1.1) ((D', tupOf (ag.2.2.1.2) 0) :: ((ag.1.1.1.2), instObj 210 (ag.1.1.2)) :: ((ag.1.1.2), sdict (ag.1.1.1.1) t1 t2 t3 t4 (ag.1.2.1.1) .none (ag.1.2.1.2) (ag.1.2.2) 4) :: (ag.2.2.2)) := h.keep fun p hp _ => .tail _ (.tail _ (.tail _ hp))
 refine fQ (ag.1.1.1.1) (ag.1.1.1.2) (ag.1.1.2) (ag.1.2.1.1) .none (ag.1.2.1.2) (ag.1.2.2) (ag.2.1.1.1) (ag.2.1.1.2) (ag.2.1.2) _ hS5 hv p loose mean mg mb (dp + 1) (un + 3) gd _ _ _ _ [] (envX cn cs L a ccd cl :: outer) _ _ g' L' _ _ _ _ B' F' X' N' T' rfl (by omega) (by omega) ?_
 intro r6 nx6 h6 tk6 F6 N6 zp1
 walk_at "mine hide"
 refine x1_5 (zp1) ?_; (try clear zp1); intro G6 xq2b; subst xq2b; intro hS6 hn6 hp6 hs6 hk6
 have hv6 : (ag.2.1.1.2) ∈ G6.nodes := by rw [hn6]; unfold touch; split <;> simp_all
 refine bX (hS6.info (ag.2.1.1.2) hv6) ?_; intro ti tn hi6
 have hd6 := hS6.dict (ag.2.1.1.2) hv6
 have hDt6 : (D', tupOf (ag.2.2.1.2) 0) ∈ nx6 := hk6.1 _ (.head _) fun ho => Nat.lt_irrefl _ (hDt D' ho)
 have A6 := hS6.apart
 refine bO (hS6.fld) ?_; intro t1' t2' t3' t4' hfld6
 have hr6 : ∀ q ∈ drawn [G6.ia (ag.2.1.1.2), G6.da (ag.2.1.1.2), D', (ag.1.1.1.2), (ag.1.1.2)] nx6, q.1 ≠ G6.ia (ag.2.1.1.2) := aE (.head _)
 have e1 : G6.da (ag.2.1.1.2) ≠ G6.ia (ag.2.1.1.2) := Ne.symm (A6.id (ag.2.1.1.2) hv6 (ag.2.1.1.2) hv6)
 have e2 : D' ≠ G6.ia (ag.2.1.1.2) := fun e => by
  rcases hk6.2.1 _ (.inr (.inr (.inr ⟨(ag.2.1.1.2), hv6, .inl rfl⟩))) with ho | ho
  ·exact Nat.lt_irrefl _ (hDt D' (e ▸ ho))
  ·exact Nat.lt_irrefl _ (e ▸ ho (D', tupOf (ag.2.2.1.2) 0) (.head _))
 have e3 : (ag.1.1.1.2) ≠ G6.ia (ag.2.1.1.2) := Ne.symm (A6.i1 (ag.2.1.1.2) hv6).1
 have e4 : (ag.1.1.2) ≠ G6.ia (ag.2.1.1.2) := Ne.symm (A6.i1 (ag.2.1.1.2) hv6).2.1
 have one6 : ∀ q ∈ nx6, ∀ r ∈ nx6, q.1 = r.1 → q = r := fun q hq r hr e => aM N6 hq hr e
 replace N6 : News g' L' h6 ((G6.ia (ag.2.1.1.2), aU (G6.da (ag.2.1.1.2)) (nm (ag.2.1.1.2)) ti (.int (G6.np (ag.2.1.1.2)) tn) (G6.sa (ag.2.1.1.2))) :: (G6.da (ag.2.1.1.2), dictOf [] 0) :: (D', tupOf (ag.2.2.1.2) 0) :: ((ag.1.1.1.2), instObj 210 (ag.1.1.2)) :: ((ag.1.1.2), sdict (ag.1.1.1.1) t1' t2' t3' t4' (ag.1.2.1.1) .none (ag.1.2.1.2) (ag.1.2.2) 4) :: drawn [G6.ia (ag.2.1.1.2), G6.da (ag.2.1.1.2), D', (ag.1.1.1.2), (ag.1.1.2)] nx6) := News.sub N6 (List.forall_mem_cons.mpr ⟨hi6, List.forall_mem_cons.mpr ⟨hd6, List.forall_mem_cons.mpr ⟨hDt6, List.forall_mem_cons.mpr ⟨hS6.inst, List.forall_mem_cons.mpr ⟨hfld6, aI⟩⟩⟩⟩⟩)
 k_steps
 rename Fr _ _ _ _ => F7
 rename News _ _ _ _ => N7
 refine len_tuple (News.isTup N7 (.tail _ (.tail _ (.head _)))) (by rw [List.size_toArray]; omega) ?_
 k_steps
 rename Fr _ _ _ _ => F8
 rename News _ _ _ _ => N8
 walk_at "mine open"
 have keep8 : ∀ q ∈ nx6, q.1 ≠ G6.ia (ag.2.1.1.2) → q ∈ (G6.da (ag.2.1.1.2), dictOf [] 0) :: (D', tupOf (ag.2.2.1.2) 0) :: ((ag.1.1.1.2), instObj 210 (ag.1.1.2)) :: ((ag.1.1.2), sdict (ag.1.1.1.1) t1' t2' t3' t4' (ag.1.2.1.1) .none (ag.1.2.1.2) (ag.1.2.2) 4) :: drawn [G6.ia (ag.2.1.1.2), G6.da (ag.2.1.1.2), D', (ag.1.1.1.2), (ag.1.1.2)] nx6 := by
  intro q hq e1
  by_cases e2 : q.1 = G6.da (ag.2.1.1.2)
  ·rw [one6 q hq _ hd6 e2]; exact .head _
  ·by_cases e3 : q.1 = D'
   ·rw [one6 q hq _ hDt6 e3]; exact .tail _ (.head _)
   ·by_cases e4 : q.1 = (ag.1.1.1.2)
    ·rw [one6 q hq _ hS6.inst e4]; exact .tail _ (.tail _ (.head _))
    ·by_cases e5 : q.1 = (ag.1.1.2)
     ·rw [one6 q hq _ hfld6 e5]; exact .tail _ (.tail _ (.tail _ (.head _)))
     ·exact .tail _ (.tail _ (.tail _ (.tail _ (mem_drawn.mpr ⟨hq, by simp [e1, e2, e3, e4, e5]⟩))))
 have hwsl : (ag.2.2.1.2).length = (ag.2.2.1.1).length := by have e := hws.len_eq; rwa [List.length_map] at e
 have hk0 : Kept (ag.1.1.1.2) (ag.1.1.2) (ag.1.2.1.1) (ag.2.1.1.1) (ag.2.1.1.1) (ag.2.2.2) ((D', tupOf (ag.2.2.1.2) 0) :: ((ag.1.1.1.2), instObj 210 (ag.1.1.2)) :: ((ag.1.1.2), sdict (ag.1.1.1.1) t1 t2 t3 t4 (ag.1.2.1.1) .none (ag.1.2.1.2) (ag.1.2.2) 4) :: (ag.2.2.2)) := ⟨fun q hq _ => .tail _ (.tail _ (.tail _ hq)), fun a ha => .inl ha, fun a ha => ha⟩
 have hK6 : Kept (ag.1.1.1.2) (ag.1.1.2) (ag.1.2.1.1) (ag.2.1.1.1) G6 (ag.2.2.2) nx6 := Kept.trans hS5 hk0 hk6
 refine iC (l := D') (vs := (ag.2.2.1.2)) (nn := 0) (AddJ (ag.1.1.1.1) (ag.1.1.1.2) (ag.1.1.2) (ag.1.2.1.1) (ag.1.2.1.2) (ag.1.2.2) (ag.2.1.1.2) (ag.2.1.2) (ag.2.1.1.1) D' (ag.2.2.1.2) (ag.2.2.1.1) (ag.2.2.2)) rfl F8 N8 (fun Q' h' => ?_) ?_ ?_ ?_ ?_
 ·k_steps
  exact h'
 ·refine ⟨_, G6.setNp (ag.2.1.1.2) (G6.np (ag.2.1.1.2) + (ag.2.2.1.1).length), (?_ : _ = fun y => if y = Str.ofString "self" then some (.ref (ag.1.1.1.2)) else if y = Str.ofString "node" then some (.str (nm (ag.2.1.1.2)) (ag.2.1.2)) else (fun y => if y = Str.ofString "nodeinfo" then some (Value.ref (G6.ia (ag.2.1.1.2))) else List.lookup y [(Str.ofString "self", Value.ref (ag.1.1.1.2)), (Str.ofString "node", Value.str (nm (ag.2.1.1.2)) (ag.2.1.2)), (Str.ofString "predecessors", Value.ref D')].reverse) y), ?_, .tail _ (.tail _ (.head _)), ?_, ?_, hn6, ?_, ?_⟩
  ·funext y
   by_cases q1 : y = Str.ofString "self"
   ·subst q1; rfl
   ·by_cases q2 : y = Str.ofString "node"
    ·subst q2; rfl
    ·rw [if_neg q1, if_neg q2]
  ·refine hS6.toNp hv6 ?_ (fun q hq e => .tail _ (keep8 q hq e))
   rw [← hwsl]
   exact ⟨ti, _, .head _⟩
  ·intro ho
   have ho' : Own (ag.1.1.1.2) (ag.1.1.2) (ag.1.2.1.1) G6 D' := ho
   rcases hk6.2.1 _ ho' with ho | ho
   ·exact Nat.lt_irrefl _ (hDt D' ho)
   ·exact Nat.lt_irrefl _ (ho (D', tupOf (ag.2.2.1.2) 0) (.head _))
  ·refine Kept.trans hS6 hK6 ⟨fun q hq no => ?_, fun a ha => .inl ha, fun a ha => ha⟩
   exact .tail _ (keep8 q hq fun e => no (.inr (.inr (.inr ⟨(ag.2.1.1.2), hv6, .inl e⟩))))
  ·show (fun u => if u = (ag.2.1.1.2) then G6.np (ag.2.1.1.2) + (ag.2.2.1.1).length else G6.np u) = _
   rw [hp6]
  ·show G6.su = _
   rw [hs6]; simp
 ·rintro i m nx ⟨u, G', rfl, hS, hDt', _⟩
  exact hDt'
 ·intro I i vv m₁ nx hh tk o hvv zp2 hI hIn F₁ N₁
  walk_at "mine hide"
  obtain ⟨u, G', rfl, hS, hDt', hnoD, hK, hnod, hnp, hsu'⟩ := zp2
  refine bg (aS hws hvv) ?_; intro x tx hx xq6d; subst xq6d
  have hx5 : x < 5 := hn x (List.mem_of_getElem? hx)
  refine bO (hS.fld) ?_; intro s1 s2 s3 s4 sfld
  replace F₁ : Fr g' L' hh _ := F₁
  replace N₁ : News g' L' hh _ := N₁
  replace N₁ : News g' L' hh (((ag.1.1.1.2), instObj 210 (ag.1.1.2)) :: ((ag.1.1.2), sdict (ag.1.1.1.1) s1 s2 s3 s4 (ag.1.2.1.1) .none (ag.1.2.1.2) (ag.1.2.2) 4) :: (nx ++ [(I, o)])) := News.sub N₁ (List.forall_mem_cons.mpr ⟨List.mem_append.mpr (.inl hS.inst), List.forall_mem_cons.mpr ⟨List.mem_append.mpr (.inl sfld), fun _ h => h⟩⟩)
  k_steps
  rename Fr _ _ _ _ => F9
  rename News _ _ _ _ => N9
  walk_at "mine open"
  have hIo : ∀ a, Own (ag.1.1.1.2) (ag.1.1.2) (ag.1.2.1.1) G' a → a ≠ I := fun a ha => by
   refine aT (hS.ownIn ha) ?_; intro oo ho
   exact hI _ ho
  have hS9 : SrtIn (ag.1.1.1.1) (ag.1.1.1.2) (ag.1.1.2) (ag.1.2.1.1) .none (ag.1.2.1.2) (ag.1.2.2) G' (((ag.1.1.1.2), instObj 210 (ag.1.1.2)) :: ((ag.1.1.2), sdict (ag.1.1.1.1) s1 s2 s3 s4 (ag.1.2.1.1) .none (ag.1.2.1.2) (ag.1.2.2) 4) :: (nx ++ [(I, o)])) := hS.keep fun p hp _ => .tail _ (.tail _ (List.mem_append.mpr (.inl hp)))
  refine fQ (ag.1.1.1.1) (ag.1.1.1.2) (ag.1.1.2) (ag.1.2.1.1) .none (ag.1.2.1.2) (ag.1.2.2) G' x tx _ hS9 hx5 p loose mean mg mb (dp + 1) (un + 3) gd _ _ _ _ [] (envX cn cs L a ccd cl :: outer) _ _ g' L' _ _ _ _ B' F9 X' N9 T' rfl (by omega) (by omega) ?_
  intro r10 nx10 h10 tk10 F10 N10 zp3
  walk_at "mine hide"
  refine x1_5 (zp3) ?_; (try clear zp3); intro G10 xq9b; subst xq9b; intro hS10 hn10 hp10 hs10 hk10
  have hx10 : x ∈ G10.nodes := by rw [hn10]; unfold touch; split <;> simp_all
  refine bX (hS10.info x hx10) ?_; intro yi yn hi10
  have hd10 := hS10.dict x hx10
  refine bg (hS10.succ x hx10) ?_; intro sws sk hsl10 hss10
  have A10 := hS10.apart
  have one10 : ∀ q ∈ nx10, ∀ r ∈ nx10, q.1 = r.1 → q = r := fun q hq r hr e => aM N10 hq hr e
  have hn1 : G10.ia x ≠ G10.sa x := A10.il x hx10 x hx10
  have hn2 : G10.da x ≠ G10.sa x := A10.dl x hx10 x hx10
  have hr10 : ∀ q ∈ drawn [G10.sa x, G10.ia x, G10.da x] nx10, q.1 ≠ G10.sa x := aE (.head _)
  have hslen : sws.length ≤ sizeLine := by
   have e0 : sizeLine = 16777216 := rfl
   have e1 := hss10.len_eq
   rw [List.length_map, hs10, hsu'] at e1
   have e2 : ((ag.2.1.1.1).su x).length ≤ 100 := by
    by_cases hm : x ∈ (ag.2.1.1.1).nodes
    ·exact hsu x hm
    ·rw [(h.none x hm).2]; simp
   have e3 : (((ag.2.2.1.1).take i).filter (· = x)).length ≤ 4 := Nat.le_trans (List.length_filter_le _ _) (by rw [List.length_take]; omega)
   rw [List.length_append, List.length_map] at e1
   omega
  replace N10 : News g' L' h10 ((G10.sa x, listOf sws.toArray sk) :: (G10.ia x, aU (G10.da x) (nm x) yi (.int (G10.np x) yn) (G10.sa x)) :: (G10.da x, dictOf [] 0) :: drawn [G10.sa x, G10.ia x, G10.da x] nx10) := News.sub N10 (List.forall_mem_cons.mpr ⟨hsl10, List.forall_mem_cons.mpr ⟨hi10, List.forall_mem_cons.mpr ⟨hd10, aI⟩⟩⟩)
  k_steps
  rename Fr _ _ _ _ => F11
  rename News _ _ _ _ => N11
  have keep12 : ∀ q ∈ nx10, q.1 ≠ G10.sa x → q ∈ (G10.ia x, aU (G10.da x) (nm x) yi (.int (G10.np x) yn) (G10.sa x)) :: (G10.da x, dictOf [] 0) :: drawn [G10.sa x, G10.ia x, G10.da x] nx10 := by
   intro q hq e1
   by_cases e2 : q.1 = G10.ia x
   ·rw [one10 q hq _ hi10 e2]; exact .head _
   ·by_cases e3 : q.1 = G10.da x
    ·rw [one10 q hq _ hd10 e3]; exact .tail _ (.head _)
    ·exact .tail _ (.tail _ (mem_drawn.mpr ⟨hq, by simp [e1, e2, e3]⟩))
  have hnoI : ∀ a, Own (ag.1.1.1.2) (ag.1.1.2) (ag.1.2.1.1) G10 a → a ≠ I := fun a ha e => by
   rcases hk10.2.1 a ha with ho | ho
   ·exact hIo a ho e
   ·exact Nat.lt_irrefl _ (e ▸ ho (I, o) (.tail _ (.tail _ (List.mem_append.mpr (.inr (.head _))))))
  have hIm : (I, o) ∈ nx10 := hk10.1 _ (.tail _ (.tail _ (List.mem_append.mpr (.inr (.head _))))) fun ho => hIo I ho rfl
  have hnoD10 : ¬ Own (ag.1.1.1.2) (ag.1.1.2) (ag.1.2.1.1) G10 D' := fun ho => by
   rcases hk10.2.1 _ ho with ho | ho
   ·exact hnoD ho
   ·exact Nat.lt_irrefl _ (ho (D', tupOf (ag.2.2.1.2) 0) (.tail _ (.tail _ (List.mem_append.mpr (.inl hDt')))))
  have hDt10 : (D', tupOf (ag.2.2.1.2) 0) ∈ nx10 := hk10.1 _ (.tail _ (.tail _ (List.mem_append.mpr (.inl hDt')))) hnoD
  have hDI : D' ≠ I := hI _ hDt'
  have hK9 : Kept (ag.1.1.1.2) (ag.1.1.2) (ag.1.2.1.1) (ag.2.1.1.1) G' (ag.2.2.2) (((ag.1.1.1.2), instObj 210 (ag.1.1.2)) :: ((ag.1.1.2), sdict (ag.1.1.1.1) s1 s2 s3 s4 (ag.1.2.1.1) .none (ag.1.2.1.2) (ag.1.2.2) 4) :: (nx ++ [(I, o)])) := Kept.trans hS hK ⟨fun q hq _ => .tail _ (.tail _ (List.mem_append.mpr (.inl hq))), fun a ha => .inl ha, fun a ha => ha⟩
  have hK10 : Kept (ag.1.1.1.2) (ag.1.1.2) (ag.1.2.1.1) (ag.2.1.1.1) G10 (ag.2.2.2) nx10 := Kept.trans hS9 hK9 hk10
  have epush : sws.toArray.push (Value.str (nm (ag.2.1.1.2)) (ag.2.1.2)) = (sws ++ [Value.str (nm (ag.2.1.1.2)) (ag.2.1.2)]).toArray := by simp
  rw [epush] at N11
  generalize hled : (G10.sa x, listOf (sws ++ [Value.str (nm (ag.2.1.1.2)) (ag.2.1.2)]).toArray (sk + 1)) :: (G10.ia x, aU (G10.da x) (nm x) yi (.int (G10.np x) yn) (G10.sa x)) :: (G10.da x, dictOf [] 0) :: drawn [G10.sa x, G10.ia x, G10.da x] nx10 = led at N11
  have hkl : ∀ q ∈ nx10, q.1 ≠ G10.sa x → q ∈ led := fun q hq e => by rw [← hled]; exact .tail _ (keep12 q hq e)
  have hsaI : G10.sa x ≠ I := hnoI _ (.inr (.inr (.inr ⟨x, hx10, .inr (.inr rfl)⟩)))
  have hnl : (G10.sa x, listOf (sws ++ [Value.str (nm (ag.2.1.1.2)) (ag.2.1.2)]).toArray (sk + 1)) ∈ led := by rw [← hled]; exact .head _
  have hS12 : SrtIn (ag.1.1.1.1) (ag.1.1.1.2) (ag.1.1.2) (ag.1.2.1.1) .none (ag.1.2.1.2) (ag.1.2.2) (G10.setSu x (G10.su x ++ [(ag.2.1.1.2)])) led := hS10.toSu hx10 ⟨_, _, hnl, by rw [List.map_append]; exact hss10.append' (.cons _ _ .nil)⟩ hkl
  have hS13 : SrtIn (ag.1.1.1.1) (ag.1.1.1.2) (ag.1.1.2) (ag.1.2.1.1) .none (ag.1.2.1.2) (ag.1.2.2) (G10.setSu x (G10.su x ++ [(ag.2.1.1.2)])) (drawn [I] led) := hS12.keep fun q hq ho => mem_drawn.mpr ⟨hq, by simpa using hnoI _ ho⟩
  have eT : (ag.2.2.1.1).take (i + 1) = (ag.2.2.1.1).take i ++ [x] := by rw [List.take_add_one, hx]; rfl
  refine ⟨_, _, _, drawn [I] led, rfl, F11, ?_, aE (.head _), (fun y => if y = Str.ofString "pred_info" then some (Value.ref (G10.ia x)) else if y = Str.ofString "pred" then some (Value.str (nm x) tx) else u y), G10.setSu x (G10.su x ++ [(ag.2.1.1.2)]), ?_, hS13, ?_, hnoD10, ?_, ?_, ?_, ?_⟩
  ·refine News.sub N11 fun q hq => ?_
   rcases List.mem_append.mp hq with hq | hq
   ·exact aI q hq
   ·rw [List.mem_singleton.mp hq]
    exact hkl _ hIm (Ne.symm hsaI)
  ·funext y
   by_cases q1 : y = Str.ofString "self"
   ·subst q1; rfl
   ·by_cases q2 : y = Str.ofString "node"
    ·subst q2; rfl
    ·rw [if_neg q1, if_neg q2, if_neg q1, if_neg q2]
  ·refine mem_drawn.mpr ⟨hkl _ hDt10 fun e => hnoD10 (.inr (.inr (.inr ⟨x, hx10, .inr (.inr e)⟩))), by simpa using hDI⟩
  ·refine ⟨fun q hq no => ?_, hK10.2.1, hK10.2.2⟩
   have hq10 := hK10.1 q hq no
   have hno10 : ¬ Own (ag.1.1.1.2) (ag.1.1.2) (ag.1.2.1.1) G10 q.1 := fun ho => by
    rcases hK10.2.1 _ ho with ho | ho
    ·exact no ho
    ·exact Nat.lt_irrefl _ (ho q hq)
   refine mem_drawn.mpr ⟨hkl q hq10 fun e => hno10 (.inr (.inr (.inr ⟨x, hx10, .inr (.inr e)⟩))), ?_⟩
   have : q.1 ≠ I := hI q (hK.1 q hq no)
   simpa using this
  ·show G10.nodes = _
   rw [hn10, hnod, eT, List.foldl_append]; rfl
  ·show G10.np = _
   rw [hp10, hnp]
  ·show (fun y => if y = x then G10.su x ++ [(ag.2.1.1.2)] else G10.su y) = _
   funext y
   rw [hs10, hsu', eT, List.filter_append]
   by_cases e : y = x
   ·subst e; rw [if_pos rfl]; simp
   ·rw [if_neg e]
    have : (List.filter (fun z => decide (z = y)) [x]) = [] := by simp [Ne.symm e]
    rw [this, List.append_nil]
 ·intro m nx hh tk zp4 F₁ N₁
  walk_at "mine hide"
  obtain ⟨u, G', rfl, hS, hDt', hnoD, hK, hnod, hnp, hsu'⟩ := zp4
  rw [hwsl, List.take_length] at hnod hsu'
  k_steps
  exact hret _ nx hh _ (by assumption) (by assumption) ⟨G', rfl, hS, hnod, hnp, hsu', hK⟩
theorem add_c (w : World) (S dx D : Addr) (po nf : Value) (G : Gr) (v : Nat) (t : Tok) (needs : List Nat) (ws : List Value) (news : List (Addr × Obj)) (h : SrtIn w S dx D .none po nf G news) (hv : v < 5) (hn : ∀ u ∈ needs, u < 5) (hl : needs.length ≤ 4) (hws : StrsAre ws (needs.map nm)) (hsu : ∀ u ∈ G.nodes, (G.su u).length ≤ 100) :
  MutC 24 w 160 (.ref S :: .str (nm v) t :: ws) news (fun nx r => ∃ G', r = .none ∧ SrtIn w S dx D .none po nf G' nx ∧ G'.nodes = needs.foldl touch (touch G.nodes v) ∧ G'.np = (fun u => if u = v then G.np v + needs.length else G.np u) ∧ G'.su = (fun u => G.su u ++ (needs.filter (· = u)).map fun _ => v) ∧ Kept S dx D G G' news nx) := @aO _ _ (u12 im) m_add_c ((((w, S), dx), ((D, po), nf)), (((G, v), t), ((needs, ws), news))) h hv hn hl hws hsu
theorem eS {l : Addr} {items : Array Value} (hfit : (items.size : Int) < 2 ^ 63) : Meets (Builtin.«bool.__new__» ⟨[.type "bool", .ref l], []⟩) (fun _ R s => s.heap.IsList l items ∧ R (.ok (.ret (.bool (!items.isEmpty)))) { s with toks := s.toks + 1 + 1 }) :=
 Meets.of_wp fun prog w A R s hs => by
  obtain ⟨hp, g, d, tk, os⟩ := s
  have f1 := PySem.F.conv_sub_bool
  repeat (any_goals (first | assumption | with_reducible apply wpAny_truthy_list hs.1 hfit | wp_step))
  all_goals first | exact ⟨_, rfl, hs.2⟩ | skip
theorem ga {prog : Program} {w : World} {A : Around} {E : Value → Shared → Prop} {s : Shared} {l : Addr} {items : Array Value} {Q : Value → Shared → Prop} (hl : s.heap.IsList l items) (hfit : (items.size : Int) < 2 ^ 63) (h : Q (.bool (!items.isEmpty)) { s with toks := s.toks + 1 + 1 }) :
  wpAny (model prog w) A (call (.type "bool") [.ref l]) Q E s :=
 call_bool_1 (eS hfit) ⟨hl, rfl, h⟩
theorem dz {w : World} {S dx D : Addr} {rv po nf : Value} {G : Gr} {nx : List (Addr × Obj)} (h : SrtIn w S dx D rv po nf G nx) (one : ∀ q ∈ nx, ∀ r ∈ nx, q.1 = r.1 → q = r) {a : Addr} {vs : List Value} {n : Nat} (ht : (a, tupOf vs n) ∈ nx) : ¬ Own S dx D G a := by
 have key : ∀ o : Obj, (a, o) ∈ nx → o.cls = .type "tuple" := fun o ho => by
  have := one _ ho _ ht rfl
  rw [Prod.mk.injEq] at this
  rw [this.2]
 refine bO (h.fld) ?_; intro t1 t2 t3 t4 hf
 obtain ⟨oD, htab, es, ep, hx, hd, _⟩ := h.tab
 rintro (rfl | rfl | rfl | ⟨v, hv, rfl | rfl | rfl⟩)
 ·exact absurd (key _ h.inst) (by simp)
 ·exact absurd (key _ hf) (by simp)
 ·have e1 := key _ htab
  rw [hx.1] at e1
  exact absurd e1 (by simp)
 ·refine bX (h.info v hv) ?_; intro t tn b
  exact absurd (key _ b) (by simp)
 ·exact absurd (key _ (h.dict v hv)) (by simp)
 ·refine bg (h.succ v hv) ?_; intro ws kk b c
  exact absurd (key _ b) (by simp)
local macro_rules | `(tactic| k_all) => wa "mine k_all"
theorem rlS40 : True := by
 k_with_none
 k_with "mine hide" => first | (refine (?_ : let gk : Prop := wpAny _ ak _ _ _ _; gk); (try clear gk); intro gk) | (refine (?_ : let ak : Around := _; let gk : Prop := wpAny _ ak _ _ _ _; gk); intro ak; (try clear gk); intro gk) | (refine (?_ : let gk : Prop := _; gk); (try clear gk); intro gk)
 k_with "mine open" => first | (refine (?_ : let gk : Prop := wpAny _ ak _ _ _ _; Held gk); (try clear gk); intro gk; show gk) | (refine (?_ : let ak : Around := _; let gk : Prop := wpAny _ ak _ _ _ _; Held gk); intro ak; (try clear gk); intro gk; show gk) | (refine (?_ : let gk : Prop := _; Held gk); (try clear gk); intro gk; show gk)
 k_with "execs cons" => (k_here; (with_reducible refine aL ?_); (try clear tkw); intro tkw; (try k_fold); (with_reducible refine wpAny_execs_cons ?_); (try dsimp only))
 k_with "mine k_all" => first | assumption | exact List.forall_mem_nil _ | (refine' List.forall_mem_cons.mpr ⟨?_, ?_⟩; (focus k_ne); k_all)
 k_with "exec For" => (k_here; refine held ?_)
 k_with "call ref" => (k_here; refine held ?_)
 trivial
theorem mL (w : World) (S dx D R : Addr) (b : Int) (tb ta : Tok) (G : Gr) (vs : List Value) (k : Nat) (news : List (Addr × Obj)) (h : SrtIn w S dx D (.ref R) (.int b ta) (.int b tb) G news) (hR : (R, listOf vs.toArray k) ∈ news) (hvl : vs.length ≤ 1000) :
  MutR 20 w 179 [.ref S] news (fun nx r => nx = news ∧ r = .bool (!vs.isEmpty)) := by
 refine bO (h.fld) ?_; intro t1 t2 t3 t4 hfld
 have hinst := h.inst
 unfold MutR
 k_fill
 intro p loose mean mg mb dp un gd cn cs a ccd cl outer A₀ base h₀ L m s Q E B F XX N T hk hd hu hret
 replace N : News h₀ L s.heap ((R, listOf vs.toArray k) :: (S, instObj 210 dx) :: (dx, sdict w t1 t2 t3 t4 D (.ref R) (.int b ta) (.int b tb) 4) :: news) := News.sub N (List.forall_mem_cons.mpr ⟨hR, List.forall_mem_cons.mpr ⟨hinst, List.forall_mem_cons.mpr ⟨hfld, fun _ h => h⟩⟩⟩)
 refine wpAny_call ?_
 k_dflt cell_enter
 k_steps
 ·exact absurd (by assumption : b < b) (Int.lt_irrefl b)
 ·have N7 := ‹News _ _ _ ((R, listOf vs.toArray k) :: (S, instObj 210 dx) :: (dx, sdict w t1 t2 t3 t4 D (.ref R) (.int b ta) (.int b tb) 4) :: news)›
  refine ga (items := vs.toArray) (News.isList N7 (.head _)) (by rw [List.size_toArray]; omega) ?_
  k_steps
  refine hret _ news _ _ (by assumption) (News.sub (by assumption) fun q hq => .tail _ (.tail _ (.tail _ hq))) ⟨rfl, ?_⟩
  simp
theorem asIf3 {m : Str → Option Value} {a b c : Str} {va vb vc : Option Value} (ha : m a = va) (hb : m b = vb) (hc : m c = vc) : m = fun y => if y = a then va else if y = b then vb else if y = c then vc else m y := by
 funext y
 by_cases e1 : y = a
 ·rw [if_pos e1, e1, ha]
 ·rw [if_neg e1]
  by_cases e2 : y = b
  ·rw [if_pos e2, e2, hb]
  ·rw [if_neg e2]
   by_cases e3 : y = c
   ·rw [if_pos e3, e3, hc]
   ·rw [if_neg e3]
noncomputable def Gr.outs (G : Gr) (l : List Nat) : Gr := { G with np := fun u => if u ∈ l then -1 else G.np u }
theorem rlS41 : True := by
 k_with "subscriptTail Name" => (k_here; refine kda_item (by k_asm) (List.Mem.head _) (by assumption) (strKind_is _ _ _ _) (by assumption) ?_)
 trivial
inductive ReadyJ (w : World) (S dx D R : Addr) (b : Int) (ta tb : Tok) (vs : List Value) (k : Nat) (rs : List Nat) (Dt : Addr) (G : Gr) (news : List (Addr × Obj)) (i : Nat) (m : Str → Option Value) (nx : List (Addr × Obj)) : Prop where
 | mk : ∀ (u : Str → Option Value), (m = (fun y => if y = Str.ofString "self" then some (.ref S) else if y = Str.ofString "result" then some (.ref Dt) else if y = Str.ofString "n2i" then some (.ref D) else u y)) → (SrtIn w S dx D (.ref R) (.int b ta) (.int b tb) (G.outs (rs.take i)) nx) → ((Dt, tupOf vs 0) ∈ nx) → ((R, listOf vs.toArray k) ∈ nx) → (∀ p ∈ news, ¬ Own S dx D G p.1 → p ∈ nx) → ReadyJ w S dx D R b ta tb vs k rs Dt G news i m nx
noncomputable def dI (w : World) (S : Addr) (dx : Addr) (D : Addr) (R : Addr) (b : Int) (tb : Tok) (ta : Tok) (G : Gr) (vs : List Value) (k : Nat) (rs : List Nat) (news : List (Prod Addr Obj)) : Prop := ∀ (h : SrtIn w S dx D (.ref R) (.int b ta) (.int b tb) G news) (hR : (R, listOf vs.toArray k) ∈ news) (hRo : ¬ Own S dx D G R) (hvs : StrsAre vs (rs.map nm)) (hrs : ∀ v ∈ rs, v ∈ G.nodes) (hvl : vs.length ≤ 1000) (hne0 : vs ≠ []), MutR 20 w 172 [.ref S] news (fun nx r => ∃ T tp k', r = .ref T ∧ (T, tupOf vs 0) ∈ nx ∧ SrtIn w S dx D (.ref R) (.int (b + vs.length) tp) (.int b tb) (G.outs rs) nx ∧ (R, listOf #[] k') ∈ nx ∧ ∀ p ∈ news, ¬ Own S dx D G p.1 → p.1 ≠ R → p ∈ nx)
noncomputable def ad : (((World × Addr) × Addr × Addr) × (Addr × Int) × Tok) × ((Tok × Gr) × (List Value)) × (Nat × (List Nat)) × (List (Prod Addr Obj)) := @Classical.epsilon _ (by have := neW; have := neG; infer_instance) fun x => ¬ u13 dI x
theorem kz : u13 dI ad := by
 intro h hR hRo hvs hrs hvl hne0
 refine bO (h.fld) ?_; intro t1 t2 t3 t4 hfld
 have hinst := h.inst
 have hlen : (ad.2.1.2).length = (ad.2.2.1.2).length := by have e := hvs.len_eq; rwa [List.length_map] at e
 unfold MutR
 k_fill
 intro p loose mean mg mb dp un gd cn cs a ccd cl outer A₀ base h₀ L m s Q E B F XX N T hk hd hu hret
 replace N : News h₀ L s.heap (((ad.1.2.1.1), listOf (ad.2.1.2).toArray (ad.2.2.1.1)) :: ((ad.1.1.1.2), instObj 210 (ad.1.1.2.1)) :: ((ad.1.1.2.1), sdict (ad.1.1.1.1) t1 t2 t3 t4 (ad.1.1.2.2) (.ref (ad.1.2.1.1)) (.int (ad.1.2.1.2) (ad.2.1.1.1)) (.int (ad.1.2.1.2) (ad.1.2.2)) 4) :: (ad.2.2.2)) := News.sub N (List.forall_mem_cons.mpr ⟨hR, List.forall_mem_cons.mpr ⟨hinst, List.forall_mem_cons.mpr ⟨hfld, fun _ h => h⟩⟩⟩)
 refine wpAny_call ?_
 k_dflt cell_enter
 k_steps
 rename_i g' L' hh1 FG B' X' T' tk1 tk2 Dt hh2 hkp hh3 tk3 hh4 F5 N5
 walk_at "mine open"
 have one5 : ∀ q ∈ (Dt, tupOf (ad.2.1.2) 0) :: ((ad.1.2.1.1), listOf (ad.2.1.2).toArray (ad.2.2.1.1)) :: ((ad.1.1.1.2), instObj 210 (ad.1.1.2.1)) :: ((ad.1.1.2.1), sdict (ad.1.1.1.1) t1 t2 t3 t4 (ad.1.1.2.2) (.ref (ad.1.2.1.1)) (.int (ad.1.2.1.2) (ad.2.1.1.1)) (.int (ad.1.2.1.2) (ad.1.2.2)) 4) :: (ad.2.2.2), ∀ r ∈ (Dt, tupOf (ad.2.1.2) 0) :: ((ad.1.2.1.1), listOf (ad.2.1.2).toArray (ad.2.2.1.1)) :: ((ad.1.1.1.2), instObj 210 (ad.1.1.2.1)) :: ((ad.1.1.2.1), sdict (ad.1.1.1.1) t1 t2 t3 t4 (ad.1.1.2.2) (.ref (ad.1.2.1.1)) (.int (ad.1.2.1.2) (ad.2.1.1.1)) (.int (ad.1.2.1.2) (ad.1.2.2)) 4) :: (ad.2.2.2), q.1 = r.1 → q = r := fun q hq r hr e => aM N5 hq hr e
 have hS5 : SrtIn (ad.1.1.1.1) (ad.1.1.1.2) (ad.1.1.2.1) (ad.1.1.2.2) (.ref (ad.1.2.1.1)) (.int (ad.1.2.1.2) (ad.2.1.1.1)) (.int (ad.1.2.1.2) (ad.1.2.2)) (ad.2.1.1.2) ((Dt, tupOf (ad.2.1.2) 0) :: ((ad.1.2.1.1), listOf (ad.2.1.2).toArray (ad.2.2.1.1)) :: ((ad.1.1.1.2), instObj 210 (ad.1.1.2.1)) :: ((ad.1.1.2.1), sdict (ad.1.1.1.1) t1 t2 t3 t4 (ad.1.1.2.2) (.ref (ad.1.2.1.1)) (.int (ad.1.2.1.2) (ad.2.1.1.1)) (.int (ad.1.2.1.2) (ad.1.2.2)) 4) :: (ad.2.2.2)) := h.keep fun q hq _ => .tail _ (.tail _ (.tail _ (.tail _ hq)))
 have hDo : ¬ Own (ad.1.1.1.2) (ad.1.1.2.1) (ad.1.1.2.2) (ad.2.1.1.2) Dt := dz hS5 one5 (.head _)
 have hDR : Dt ≠ (ad.1.2.1.1) := fun e => by
  have := one5 _ (.head _) _ (.tail _ (.head _)) e
  rw [Prod.mk.injEq] at this
  exact absurd (congrArg Obj.cls this.2) (by simp)
 refine iC (l := Dt) (vs := (ad.2.1.2)) (nn := 0) (ReadyJ (ad.1.1.1.1) (ad.1.1.1.2) (ad.1.1.2.1) (ad.1.1.2.2) (ad.1.2.1.1) (ad.1.2.1.2) (ad.2.1.1.1) (ad.1.2.2) (ad.2.1.2) (ad.2.2.1.1) (ad.2.2.1.2) Dt (ad.2.1.1.2) (ad.2.2.2)) rfl F5 N5 (fun Q' h' => ?_) ?_ ?_ ?_ ?_
 ·k_steps
  exact h'
 ·refine ⟨_, asIf3 (by rfl) (by rfl) (by rfl), ?_, .head _, .tail _ (.head _), fun q hq _ => .tail _ (.tail _ (.tail _ (.tail _ hq)))⟩
  ·have e : (ad.2.1.1.2).outs ((ad.2.2.1.2).take 0) = (ad.2.1.1.2) := by unfold Gr.outs; simp
   rw [e]; exact hS5
 ·rintro i m nx ⟨u, rfl, hS, hDt', _⟩
  exact hDt'
 ·intro I i vv m₁ nx hh tk o hvv zp1 hI hIn F₁ N₁
  walk_at "mine hide"
  obtain ⟨u, rfl, hS, hDt', hRm, hkeep⟩ := zp1
  refine bg (aS hvs hvv) ?_; intro x tx hx xq8d; subst xq8d
  have hxn : x ∈ (ad.2.1.1.2).nodes := hrs x (List.mem_of_getElem? hx)
  have hx5 := h.lt5 x hxn
  refine aJ (hS.tab) ?_; intro oD htab hD
  refine bX (hS.info x hxn) ?_; intro yi yn hi
  have hdd := hS.dict x hxn
  have A := hS.apart
  have hval : valueAt (kvsOf ((ad.2.1.1.2).outs ((ad.2.2.1.2).take i))) (nm x) = some (.ref ((ad.2.1.1.2).ia x)) := by rw [bk hS.lt5 hx5]; exact if_pos hxn
  have hn1 : (ad.1.1.2.2) ≠ (ad.2.1.1.2).ia x := Ne.symm (A.i1 x hxn).2.2
  have hn2 : (ad.2.1.1.2).da x ≠ (ad.2.1.1.2).ia x := Ne.symm (A.id x hxn x hxn)
  replace F₁ : Fr g' L' hh _ := F₁
  replace N₁ : News g' L' hh _ := N₁
  have one1 : ∀ q ∈ nx ++ [(I, o)], ∀ r ∈ nx ++ [(I, o)], q.1 = r.1 → q = r := fun q hq r hr e => aM N₁ hq hr e
  have inl : ∀ q ∈ nx, q ∈ nx ++ [(I, o)] := fun q hq => List.mem_append.mpr (.inl hq)
  have hr1 : ∀ q ∈ drawn [(ad.1.1.2.2), (ad.2.1.1.2).ia x, (ad.2.1.1.2).da x] (nx ++ [(I, o)]), q.1 ≠ (ad.2.1.1.2).ia x := aE (.tail _ (.head _))
  replace N₁ : News g' L' hh (((ad.1.1.2.2), oD) :: ((ad.2.1.1.2).ia x, aU ((ad.2.1.1.2).da x) (nm x) yi (.int (((ad.2.1.1.2).outs ((ad.2.2.1.2).take i)).np x) yn) ((ad.2.1.1.2).sa x)) :: ((ad.2.1.1.2).da x, dictOf [] 0) :: drawn [(ad.1.1.2.2), (ad.2.1.1.2).ia x, (ad.2.1.1.2).da x] (nx ++ [(I, o)])) := News.sub N₁ (List.forall_mem_cons.mpr ⟨inl _ htab, List.forall_mem_cons.mpr ⟨inl _ hi, List.forall_mem_cons.mpr ⟨inl _ hdd, aI⟩⟩⟩)
  k_steps
  rename Fr _ _ _ _ => F9
  rename News _ _ _ _ => N9
  generalize hled : ((ad.1.1.2.2), oD) :: ((ad.2.1.1.2).ia x, _) :: ((ad.2.1.1.2).da x, dictOf [] 0) :: drawn [(ad.1.1.2.2), (ad.2.1.1.2).ia x, (ad.2.1.1.2).da x] (nx ++ [(I, o)]) = led at N9
  have hkl : ∀ q ∈ nx ++ [(I, o)], q.1 ≠ (ad.2.1.1.2).ia x → q ∈ led := fun q hq e => by
   rw [← hled]
   by_cases e1 : q.1 = (ad.1.1.2.2)
   ·rw [one1 q hq _ (inl _ htab) e1]; exact .head _
   ·by_cases e2 : q.1 = (ad.2.1.1.2).da x
    ·rw [one1 q hq _ (inl _ hdd) e2]; exact .tail _ (.tail _ (.head _))
    ·exact .tail _ (.tail _ (.tail _ (mem_drawn.mpr ⟨hq, by simp [e, e1, e2]⟩)))
  have hIo : ∀ a, Own (ad.1.1.1.2) (ad.1.1.2.1) (ad.1.1.2.2) (ad.2.1.1.2) a → a ≠ I := fun a ha => by
   refine aT (hS.ownIn ha) ?_; intro oo ho
   exact hI _ ho
  have hiaO : Own (ad.1.1.1.2) (ad.1.1.2.1) (ad.1.1.2.2) (ad.2.1.1.2) ((ad.2.1.1.2).ia x) := .inr (.inr (.inr ⟨x, hxn, .inl rfl⟩))
  have eT : (ad.2.2.1.2).take (i + 1) = (ad.2.2.1.2).take i ++ [x] := by rw [List.take_add_one, hx]; rfl
  have hS12 : SrtIn (ad.1.1.1.1) (ad.1.1.1.2) (ad.1.1.2.1) (ad.1.1.2.2) (.ref (ad.1.2.1.1)) (.int (ad.1.2.1.2) (ad.2.1.1.1)) (.int (ad.1.2.1.2) (ad.1.2.2)) (((ad.2.1.1.2).outs ((ad.2.2.1.2).take i)).setNp x (-1)) led := hS.toNp hxn (by rw [← hled]; exact ⟨yi, _, .tail _ (.head _)⟩) fun q hq e => hkl q (inl q hq) e
  have eG : ((ad.2.1.1.2).outs ((ad.2.2.1.2).take i)).setNp x (-1) = (ad.2.1.1.2).outs ((ad.2.2.1.2).take (i + 1)) := by
   unfold Gr.setNp Gr.outs
   rw [eT]
   congr 1
   funext y
   by_cases e : y = x
   ·subst e; simp
   ·simp [e]
  rw [eG] at hS12
  refine ⟨_, _, _, drawn [I] led, rfl, F9, ?_, aE (.head _), _, asIf3 (by rfl) (by rfl) (by rfl), hS12.keep fun q hq ho => mem_drawn.mpr ⟨hq, by simpa using hIo _ ho⟩, ?_, ?_, ?_⟩
  ·refine News.sub N9 fun q hq => ?_
   rcases List.mem_append.mp hq with hq | hq
   ·exact aI q hq
   ·rw [List.mem_singleton.mp hq]
    exact hkl _ (List.mem_append.mpr (.inr (.head _))) (Ne.symm (hIo _ hiaO))
  ·refine mem_drawn.mpr ⟨hkl _ (inl _ hDt') fun e => hDo (by have e' : Dt = (ad.2.1.1.2).ia x := e; rw [e']; exact hiaO), by simpa using hI _ hDt'⟩
  ·refine mem_drawn.mpr ⟨hkl _ (inl _ hRm) fun e => hRo (by have e' : (ad.1.2.1.1) = (ad.2.1.1.2).ia x := e; rw [e']; exact hiaO), by simpa using hI _ hRm⟩
  ·intro q hq no
   have hq' := hkeep q hq no
   refine mem_drawn.mpr ⟨hkl _ (inl _ hq') fun e => no (by rw [e]; exact hiaO), by simpa using hI _ hq'⟩
 ·intro m nx hh tk zp2 F₁ N₁
  walk_at "mine hide"
  obtain ⟨u, rfl, hS, hDt', hRm, hkeep⟩ := zp2
  rw [hlen, List.take_length] at hS
  refine bO (hS.fld) ?_; intro s1 s2 s3 s4 sfld
  have A := hS.apart
  have one1 : ∀ q ∈ nx, ∀ r ∈ nx, q.1 = r.1 → q = r := fun q hq r hr e => aM N₁ hq hr e
  have e1 : (ad.1.1.1.2) ≠ (ad.1.2.1.1) := fun e => hRo (.inl e.symm)
  have e2 : (ad.1.1.2.1) ≠ (ad.1.2.1.1) := fun e => hRo (.inr (.inl e.symm))
  have e3 : Dt ≠ (ad.1.1.2.1) := fun e => hDo (.inr (.inl e))
  have e4 : (ad.1.1.1.2) ≠ (ad.1.1.2.1) := A.s1
  have e5 : (ad.1.2.1.1) ≠ (ad.1.1.2.1) := Ne.symm e2
  have hr1 : ∀ q ∈ drawn [(ad.1.2.1.1), (ad.1.1.1.2), (ad.1.1.2.1), Dt] nx, q.1 ≠ (ad.1.2.1.1) := aE (.head _)
  have hr2 : ∀ q ∈ drawn [(ad.1.2.1.1), (ad.1.1.1.2), (ad.1.1.2.1), Dt] nx, q.1 ≠ (ad.1.1.2.1) := aE (.tail _ (.tail _ (.head _)))
  replace F₁ : Fr g' L' hh _ := F₁
  replace N₁ : News g' L' hh (((ad.1.2.1.1), listOf (ad.2.1.2).toArray (ad.2.2.1.1)) :: ((ad.1.1.1.2), instObj 210 (ad.1.1.2.1)) :: ((ad.1.1.2.1), sdict (ad.1.1.1.1) s1 s2 s3 s4 (ad.1.1.2.2) (.ref (ad.1.2.1.1)) (.int (ad.1.2.1.2) (ad.2.1.1.1)) (.int (ad.1.2.1.2) (ad.1.2.2)) 4) :: (Dt, tupOf (ad.2.1.2) 0) :: drawn [(ad.1.2.1.1), (ad.1.1.1.2), (ad.1.1.2.1), Dt] nx) := News.sub N₁ (List.forall_mem_cons.mpr ⟨hRm, List.forall_mem_cons.mpr ⟨hS.inst, List.forall_mem_cons.mpr ⟨sfld, List.forall_mem_cons.mpr ⟨hDt', aI⟩⟩⟩⟩)
  k_steps
  refine kl_clear F₁ N₁ (Upd.head (List.forall_mem_cons.mpr ⟨e1, List.forall_mem_cons.mpr ⟨e2, List.forall_mem_cons.mpr ⟨hDR, hr1⟩⟩⟩)) (by simpa using hne0) (by have e0 : sizeLine = 16777216 := rfl; simp; omega) ?_
  intro h6 F6 N6
  k_steps
  refine len_tuple (News.isTup N6 (.tail _ (.tail _ (.tail _ (.head _))))) (by rw [List.size_toArray]; omega) ?_
  k_steps
  have hS' : SrtIn (ad.1.1.1.1) (ad.1.1.1.2) (ad.1.1.2.1) (ad.1.1.2.2) (.ref (ad.1.2.1.1)) (.int (ad.1.2.1.2) (ad.2.1.1.1)) (.int (ad.1.2.1.2) (ad.1.2.2)) ((ad.2.1.1.2).outs (ad.2.2.1.2)) (drawn [(ad.1.2.1.1)] nx) := hS.keep fun q hq ho => mem_drawn.mpr ⟨hq, by simpa using fun e : q.1 = (ad.1.2.1.1) => hRo (e ▸ ho)⟩
  have NF := ‹News h₀ L _ (((ad.1.2.1.1), listOf #[] ((ad.2.2.1.1) + 1)) :: _)›
  refine hret _ _ _ _ (by assumption) NF ⟨Dt, _, _, rfl, .tail _ (.tail _ (.tail _ (.head _))), hS'.toFld ⟨_, _, _, _, .tail _ (.tail _ (.head _))⟩ ?_, .head _, ?_⟩
  ·intro q hq e
   refine bj (mem_drawn.mp hq) ?_; intro hq hqR
   have hqR : q.1 ≠ (ad.1.2.1.1) := by simpa using hqR
   by_cases q1 : q.1 = (ad.1.1.1.2)
   ·rw [one1 q hq _ hS.inst q1]; exact .tail _ (.head _)
   ·by_cases q2 : q.1 = Dt
    ·rw [one1 q hq _ hDt' q2]; exact .tail _ (.tail _ (.tail _ (.head _)))
    ·exact .tail _ (.tail _ (.tail _ (.tail _ (mem_drawn.mpr ⟨hq, by simp [hqR, q1, e, q2]⟩))))
  ·intro q hq no hqR
   have hq' := hkeep q hq no
   have q1 : q.1 ≠ (ad.1.1.1.2) := fun e => no (.inl e)
   have q3 : q.1 ≠ (ad.1.1.2.1) := fun e => no (.inr (.inl e))
   by_cases q2 : q.1 = Dt
   ·rw [one1 q hq' _ hDt' q2]; exact .tail _ (.tail _ (.tail _ (.head _)))
   ·exact .tail _ (.tail _ (.tail _ (.tail _ (mem_drawn.mpr ⟨hq', by simp [hqR, q1, q3, q2]⟩))))
theorem ready_ok (w : World) (S dx D R : Addr) (b : Int) (tb ta : Tok) (G : Gr) (vs : List Value) (k : Nat) (rs : List Nat) (news : List (Addr × Obj)) (h : SrtIn w S dx D (.ref R) (.int b ta) (.int b tb) G news) (hR : (R, listOf vs.toArray k) ∈ news) (hRo : ¬ Own S dx D G R) (hvs : StrsAre vs (rs.map nm)) (hrs : ∀ v ∈ rs, v ∈ G.nodes) (hvl : vs.length ≤ 1000) (hne0 : vs ≠ []) :
  MutR 20 w 172 [.ref S] news (fun nx r => ∃ T tp k', r = .ref T ∧ (T, tupOf vs 0) ∈ nx ∧ SrtIn w S dx D (.ref R) (.int (b + vs.length) tp) (.int b tb) (G.outs rs) nx ∧ (R, listOf #[] k') ∈ nx ∧ ∀ p ∈ news, ¬ Own S dx D G p.1 → p.1 ≠ R → p ∈ nx) := @aO _ _ (u13 dI) kz ((((w, S), (dx, D)), ((R, b), tb)), (((ta, G), vs), ((k, rs), news))) h hR hRo hvs hrs hvl hne0
local macro_rules | `(tactic| k_all) => wa "mine k_all"
theorem rlS50 : True := by
 k_with_none
 k_with "mine hide" => first | (refine (?_ : let gk : Prop := wpAny _ ak _ _ _ _; gk); (try clear gk); intro gk) | (refine (?_ : let ak : Around := _; let gk : Prop := wpAny _ ak _ _ _ _; gk); intro ak; (try clear gk); intro gk) | (refine (?_ : let gk : Prop := _; gk); (try clear gk); intro gk)
 k_with "mine open" => first | (refine (?_ : let gk : Prop := wpAny _ ak _ _ _ _; Held gk); (try clear gk); intro gk; show gk) | (refine (?_ : let ak : Around := _; let gk : Prop := wpAny _ ak _ _ _ _; Held gk); intro ak; (try clear gk); intro gk; show gk) | (refine (?_ : let gk : Prop := _; Held gk); (try clear gk); intro gk; show gk)
 k_with "execs cons" => (k_here; (with_reducible refine aL ?_); (try clear tkw); intro tkw; (try k_fold); (with_reducible refine wpAny_execs_cons ?_); (try dsimp only))
 k_with "mine k_all" => first | assumption | exact List.forall_mem_nil _ | (refine' List.forall_mem_cons.mpr ⟨?_, ?_⟩; (focus k_ne); k_all)
 k_with "exec For" => (k_here; refine held ?_)
 k_with "exec For Name Attribute cons nil" => (k_here; refine held ?_)
 k_with "subscriptTail Name" => (k_here; refine kda_item (by k_asm) (List.Mem.head _) (by assumption) (strKind_is _ _ _ _) (by assumption) ?_)
 k_with "getMethod ref" => (k_here; (with_reducible show wpAny _ _ (getMethod (Value.ref _) (Str.ofString "get") _) _ _ _); refine kdg_method (by k_asm) (List.Mem.head _) (by assumption) ?_)
 k_with "call builtin:dict.get" => (k_here; refine iU (by k_asm) (List.Mem.head _) (by assumption) (by assumption) (by assumption) ?_)
 trivial
theorem asIf2 {m : Str → Option Value} {a b : Str} {va vb : Option Value} (ha : m a = va) (hb : m b = vb) : m = fun y => if y = a then va else if y = b then vb else m y := by
 funext y
 by_cases e1 : y = a
 ·rw [if_pos e1, e1, ha]
 ·rw [if_neg e1]
  by_cases e2 : y = b
  ·rw [if_pos e2, e2, hb]
  ·rw [if_neg e2]
noncomputable def stepS (st : (Nat → Int) × List Nat) (s : Nat) : (Nat → Int) × List Nat := (fun u => if u = s then st.1 s - 1 else st.1 u, if st.1 s - 1 = 0 then st.2 ++ [s] else st.2)
noncomputable def eZ (su : Nat → List Nat) (st : (Nat → Int) × List Nat) (v : Nat) : (Nat → Int) × List Nat := (su v).foldl stepS (fun u => if u = v then -2 else st.1 u, st.2)
noncomputable def aQ (su : Nat → List Nat) (st : (Nat → Int) × List Nat) (l : List Nat) : (Nat → Int) × List Nat := l.foldl (eZ su) st
noncomputable def Gr.withNp (G : Gr) (np : Nat → Int) : Gr := { G with np := np }
theorem gz (l : List Nat) (st : (Nat → Int) × List Nat) : (l.foldl stepS st).2.length ≤ st.2.length + l.length := by
 induction l generalizing st with
 | nil => simp
 | cons x l ih =>
  rw [List.foldl_cons]
  refine Nat.le_trans (ih _) ?_
  unfold stepS
  dsimp only
  split <;> simp <;> omega
theorem jH {su : Nat → List Nat} (h : ∀ v, (su v).length ≤ 100) (l : List Nat) (st : (Nat → Int) × List Nat) : (aQ su st l).2.length ≤ st.2.length + 100 * l.length := by
 unfold aQ
 induction l generalizing st with
 | nil => simp
 | cons x l ih =>
  rw [List.foldl_cons]
  refine Nat.le_trans (ih _) ?_
  have h1 : (eZ su st x).2.length ≤ st.2.length + (su x).length := gz (su x) (fun u => if u = x then -2 else st.1 u, st.2)
  have h2 := h x
  rw [List.length_cons]
  omega
inductive DoneJa (w : World) (S dx D R : Addr) (po : Value) (b : Int) (G : Gr) (rs0 l : List Nat) (Dt : Addr) (ws : List Value) (news : List (Addr × Obj)) (i : Nat) (m : Str → Option Value) (nx : List (Addr × Obj)) : Prop where
 | mk : ∀ (u : Str → Option Value) (vs' : List Value) (k' : Nat) (tf : Tok), (m = (fun y => if y = Str.ofString "self" then some (.ref S) else if y = Str.ofString "n2i" then some (.ref D) else u y)) → (SrtIn w S dx D (.ref R) po (.int (b + i) tf) (G.withNp (aQ G.su (G.np, rs0) (l.take i)).1) nx) → ((Dt, tupOf ws 0) ∈ nx) → ((R, listOf vs'.toArray k') ∈ nx) → (StrsAre vs' ((aQ G.su (G.np, rs0) (l.take i)).2.map nm)) → (∀ p ∈ news, ¬ Own S dx D G p.1 → p.1 ≠ R → p ∈ nx) → DoneJa w S dx D R po b G rs0 l Dt ws news i m nx
noncomputable def fO (w : World) (S : Addr) (dx : Addr) (D : Addr) (R : Addr) (T : Addr) (po : Value) (b : Int) (tb : Tok) (G : Gr) (vs : List Value) (k : Nat) (rs0 : List Nat) (l : List Nat) (ws : List Value) (news : List (Prod Addr Obj)) : Prop := ∀ (h : SrtIn w S dx D (.ref R) po (.int b tb) G news) (hR : (R, listOf vs.toArray k) ∈ news) (hRo : ¬ Own S dx D G R) (hvs : StrsAre vs (rs0.map nm)) (hr0 : rs0.length ≤ 10) (hws : StrsAre ws (l.map nm)) (hl5 : l.length ≤ 5) (hln : ∀ v ∈ l, v ∈ G.nodes) (hcl : ∀ v ∈ G.nodes, ∀ s ∈ G.su v, s ∈ G.nodes) (hsl : ∀ v, (G.su v).length ≤ 100) (hout : ∀ i v, l[i]? = some v → (aQ G.su (G.np, rs0) (l.take i)).1 v = -1), MutC 20 w 193 (.ref S :: ws) news (fun nx r => ∃ vs' k' tf, r = .none ∧ SrtIn w S dx D (.ref R) po (.int (b + l.length) tf) (G.withNp (aQ G.su (G.np, rs0) l).1) nx ∧ (R, listOf vs'.toArray k') ∈ nx ∧ StrsAre vs' ((aQ G.su (G.np, rs0) l).2.map nm) ∧ ∀ p ∈ news, ¬ Own S dx D G p.1 → p.1 ≠ R → p ∈ nx)
noncomputable def aa : (((World × Addr) × Addr × Addr) × (Addr × Addr) × Value × Int) × ((Tok × Gr) × (List Value) × Nat) × ((List Nat) × (List Nat)) × (List Value) × (List (Prod Addr Obj)) := @Classical.epsilon _ (by have := neW; have := neG; infer_instance) fun x => ¬ u16 fO x
theorem m_done_c : u16 fO aa := by
 intro h hR hRo hvs hr0 hws hl5 hln hcl hsl hout
 refine bO (h.fld) ?_; intro t1 t2 t3 t4 hfld
 have hinst := h.inst
 have hlen : (aa.2.2.2.1).length = (aa.2.2.1.2).length := by have e := hws.len_eq; rwa [List.length_map] at e
 unfold MutC
 k_fill
 intro p loose mean mg mb dp un gd cn cs a ccd cl outer A₀ base h₀ L m s Q E B F XX N TT hk hd hu hret
 replace N : News h₀ L s.heap (((aa.1.1.1.2), instObj 210 (aa.1.1.2.1)) :: ((aa.1.1.2.1), sdict (aa.1.1.1.1) t1 t2 t3 t4 (aa.1.1.2.2) (.ref (aa.1.2.1.1)) (aa.1.2.2.1) (.int (aa.1.2.2.2) (aa.2.1.1.1)) 4) :: (aa.2.2.2.2)) := News.sub N (List.forall_mem_cons.mpr ⟨hinst, List.forall_mem_cons.mpr ⟨hfld, fun _ h => h⟩⟩)
 have hwl : (aa.2.2.2.1).length ≤ 5 := by omega
 k_dflt (
  refine' kp_rest (vs := (aa.2.2.2.1)) (binds := fun D' => [(Str.ofString "self", .ref (aa.1.1.1.2)), (Str.ofString "nodes", .ref D')]) (g₁ := fun D' => some [(Str.ofString "self", .ref (aa.1.1.1.2)), (Str.ofString "nodes", .ref D')]) ?k1 ?k2 ?k3 ?k4 ?k5 ?kA ?kF ?kK ?k6 ?k7 ?k8 ?kV ?kP ?kG ?kB ?_ ?c2 ?c3 ?c4 ?c5
  (case kA => exact rfl)
  (case kF => exact rfl)
  (case kK => first | assumption | exact rfl)
  (case k1 => k_asm)
  (case k2 => k_asm)
  (case k3 => k_asm)
  (case k4 => k_asm)
  (case k5 => k_asm)
  (case k6 => k_is)
  (case k7 => k_is)
  (case k8 => first | ktr_room | ((show _ + 1 + 1 < recursionLimit); omega) | ((show _ + 1 < recursionLimit); omega))
  (case kV => exact rfl)
  (case kP => (match (aa.2.2.2.1), hwl with
   | [], _ => exact rfl
   | [_], _ => exact rfl
   | [_, _], _ => exact rfl
   | [_, _, _], _ => exact rfl
   | [_, _, _, _], _ => exact rfl
   | [_, _, _, _, _], _ => exact rfl
   | _ :: _ :: _ :: _ :: _ :: _ :: _, hwl => exact absurd hwl (by simp)))
  (case kG => exact fun _ => rfl)
  (case kB => exact fun _ => locs rfl)
  (case c5 => decide)
  (case c2 => exact rfl)
  (case c3 => exact rfl)
  (case c4 => exact rfl)
  k_whole
  intro Dt g' L' h' l1 FG' F' N' B' X' T'
  (try dsimp only)
  (try k_lift B')
  (try k_fold))
 k_steps
 rename Fr _ _ _ _ => F5
 rename News _ _ _ _ => N5
 walk_at "mine open"
 have one5 : ∀ q ∈ (Dt, tupOf (aa.2.2.2.1) 0) :: ((aa.1.1.1.2), instObj 210 (aa.1.1.2.1)) :: ((aa.1.1.2.1), sdict (aa.1.1.1.1) t1 t2 t3 t4 (aa.1.1.2.2) (.ref (aa.1.2.1.1)) (aa.1.2.2.1) (.int (aa.1.2.2.2) (aa.2.1.1.1)) 4) :: (aa.2.2.2.2), ∀ r ∈ (Dt, tupOf (aa.2.2.2.1) 0) :: ((aa.1.1.1.2), instObj 210 (aa.1.1.2.1)) :: ((aa.1.1.2.1), sdict (aa.1.1.1.1) t1 t2 t3 t4 (aa.1.1.2.2) (.ref (aa.1.2.1.1)) (aa.1.2.2.1) (.int (aa.1.2.2.2) (aa.2.1.1.1)) 4) :: (aa.2.2.2.2), q.1 = r.1 → q = r := fun q hq r hr e => aM N5 hq hr e
 have hS5 : SrtIn (aa.1.1.1.1) (aa.1.1.1.2) (aa.1.1.2.1) (aa.1.1.2.2) (.ref (aa.1.2.1.1)) (aa.1.2.2.1) (.int (aa.1.2.2.2) (aa.2.1.1.1)) (aa.2.1.1.2) ((Dt, tupOf (aa.2.2.2.1) 0) :: ((aa.1.1.1.2), instObj 210 (aa.1.1.2.1)) :: ((aa.1.1.2.1), sdict (aa.1.1.1.1) t1 t2 t3 t4 (aa.1.1.2.2) (.ref (aa.1.2.1.1)) (aa.1.2.2.1) (.int (aa.1.2.2.2) (aa.2.1.1.1)) 4) :: (aa.2.2.2.2)) := h.keep fun q hq _ => .tail _ (.tail _ (.tail _ hq))
 have hDo : ¬ Own (aa.1.1.1.2) (aa.1.1.2.1) (aa.1.1.2.2) (aa.2.1.1.2) Dt := dz hS5 one5 (.head _)
 have hDR : Dt ≠ (aa.1.2.1.1) := Nat.ne_of_gt (l1 _ (.tail _ (.tail _ hR)))
 refine iC (l := Dt) (vs := (aa.2.2.2.1)) (nn := 0) (DoneJa (aa.1.1.1.1) (aa.1.1.1.2) (aa.1.1.2.1) (aa.1.1.2.2) (aa.1.2.1.1) (aa.1.2.2.1) (aa.1.2.2.2) (aa.2.1.1.2) (aa.2.2.1.1) (aa.2.2.1.2) Dt (aa.2.2.2.1) (aa.2.2.2.2)) rfl F5 N5 (fun Q' h' => ?_) ?_ ?_ ?_ ?_
 ·k_steps
  exact h'
 ·refine ⟨_, (aa.2.1.2.1), (aa.2.1.2.2), (aa.2.1.1.1), asIf2 (by rfl) (by rfl), ?_, .head _, .tail _ (.tail _ (.tail _ hR)), hvs, fun q hq _ _ => .tail _ (.tail _ (.tail _ hq))⟩
  have e : (aa.1.2.2.2) + ((0 : Nat) : Int) = (aa.1.2.2.2) := by simp
  rw [e]; exact hS5
 ·rintro i m nx ⟨u, vs', k', tf, rfl, hS, hDt', _⟩
  exact hDt'
 ·intro I i vv m₁ nx hh tk o hvv zp1 hI hIn F₁ N₁
  walk_at "mine hide"
  obtain ⟨u, vs', k', tf, rfl, hS, hDt', hRm, hvs', hkeep⟩ := zp1
  refine bg (aS hws hvv) ?_; intro v tx hx xq2d; subst xq2d
  have hvn : v ∈ (aa.2.1.1.2).nodes := hln v (List.mem_of_getElem? hx)
  have hv5 := h.lt5 v hvn
  generalize hst : aQ (aa.2.1.1.2).su ((aa.2.1.1.2).np, (aa.2.2.1.1)) ((aa.2.2.1.2).take i) = st at *
  have hnv : st.1 v = -1 := by rw [← hst]; exact hout i v hx
  refine aJ (hS.tab) ?_; intro oD htab hD
  refine bX (hS.info v hvn) ?_; intro yi yn hi
  have hi' : ((aa.2.1.1.2).ia v, aU ((aa.2.1.1.2).da v) (nm v) yi (.int (-1) yn) ((aa.2.1.1.2).sa v)) ∈ nx := by rw [← hnv]; exact hi
  have hdd : ((aa.2.1.1.2).da v, dictOf [] 0) ∈ nx := hS.dict v hvn
  refine bg (hS.succ v hvn) ?_; intro sws sk hsw hsS
  have hsw : ((aa.2.1.1.2).sa v, listOf sws.toArray sk) ∈ nx := hsw
  have hsS : StrsAre sws (((aa.2.1.1.2).su v).map nm) := hsS
  have A := hS.apart
  have lo := hS.lo
  have hval : valueAt (kvsOf ((aa.2.1.1.2).withNp st.1)) (nm v) = some (.ref ((aa.2.1.1.2).ia v)) := by rw [bk hS.lt5 hv5]; exact if_pos hvn
  have hn1 : (aa.1.1.2.2) ≠ (aa.2.1.1.2).ia v := Ne.symm (A.i1 v hvn).2.2
  have hn2 : (aa.2.1.1.2).da v ≠ (aa.2.1.1.2).ia v := Ne.symm (A.id v hvn v hvn)
  replace F₁ : Fr g' L' hh _ := F₁
  replace N₁ : News g' L' hh _ := N₁
  have one1 : ∀ q ∈ nx ++ [(I, o)], ∀ r ∈ nx ++ [(I, o)], q.1 = r.1 → q = r := fun q hq r hr e => aM N₁ hq hr e
  have inl : ∀ q ∈ nx, q ∈ nx ++ [(I, o)] := fun q hq => List.mem_append.mpr (.inl hq)
  have hr1 : ∀ q ∈ drawn [(aa.1.1.2.2), (aa.2.1.1.2).ia v, (aa.2.1.1.2).da v] (nx ++ [(I, o)]), q.1 ≠ (aa.2.1.1.2).ia v := aE (.tail _ (.head _))
  replace N₁ : News g' L' hh (((aa.1.1.2.2), oD) :: ((aa.2.1.1.2).ia v, aU ((aa.2.1.1.2).da v) (nm v) yi (.int (-1) yn) ((aa.2.1.1.2).sa v)) :: ((aa.2.1.1.2).da v, dictOf [] 0) :: drawn [(aa.1.1.2.2), (aa.2.1.1.2).ia v, (aa.2.1.1.2).da v] (nx ++ [(I, o)])) := News.sub N₁ (List.forall_mem_cons.mpr ⟨inl _ htab, List.forall_mem_cons.mpr ⟨inl _ hi', List.forall_mem_cons.mpr ⟨inl _ hdd, aI⟩⟩⟩)
  k_steps
  rename Fr _ _ _ _ => F6
  rename News _ _ _ _ => N6
  walk_at "mine open"
  generalize hled : ((aa.1.1.2.2), oD) :: ((aa.2.1.1.2).ia v, _) :: ((aa.2.1.1.2).da v, dictOf [] 0) :: drawn [(aa.1.1.2.2), (aa.2.1.1.2).ia v, (aa.2.1.1.2).da v] (nx ++ [(I, o)]) = led at N6
  have hkl : ∀ q ∈ nx ++ [(I, o)], q.1 ≠ (aa.2.1.1.2).ia v → q ∈ led := fun q hq e => by
   rw [← hled]
   by_cases e1 : q.1 = (aa.1.1.2.2)
   ·rw [one1 q hq _ (inl _ htab) e1]; exact .head _
   ·by_cases e2 : q.1 = (aa.2.1.1.2).da v
    ·rw [one1 q hq _ (inl _ hdd) e2]; exact .tail _ (.tail _ (.head _))
    ·exact .tail _ (.tail _ (.tail _ (mem_drawn.mpr ⟨hq, by simp [e, e1, e2]⟩)))
  have hIo : ∀ a, Own (aa.1.1.1.2) (aa.1.1.2.1) (aa.1.1.2.2) (aa.2.1.1.2) a → a ≠ I := fun a ha => by
   refine aT (hS.ownIn ha) ?_; intro oo ho
   exact hI _ ho
  have hOia : ∀ x ∈ (aa.2.1.1.2).nodes, Own (aa.1.1.1.2) (aa.1.1.2.1) (aa.1.1.2.2) (aa.2.1.1.2) ((aa.2.1.1.2).ia x) := fun x hx => .inr (.inr (.inr ⟨x, hx, .inl rfl⟩))
  have hRI : (aa.1.2.1.1) ≠ I := hI _ hRm
  have hDI : Dt ≠ I := hI _ hDt'
  have hS6 : SrtIn (aa.1.1.1.1) (aa.1.1.1.2) (aa.1.1.2.1) (aa.1.1.2.2) (.ref (aa.1.2.1.1)) (aa.1.2.2.1) (.int ((aa.1.2.2.2) + i) tf) ((aa.2.1.1.2).withNp (fun u => if u = v then -2 else st.1 u)) led := hS.toNp (x := -2) hvn (by rw [← hled]; exact ⟨yi, _, .tail _ (.head _)⟩) fun q hq e => hkl q (inl q hq) e
  have hnR : ∀ x ∈ (aa.2.1.1.2).nodes, (aa.1.2.1.1) ≠ (aa.2.1.1.2).ia x := fun x hx e => hRo (by rw [e]; exact hOia x hx)
  have hnD : ∀ x ∈ (aa.2.1.1.2).nodes, Dt ≠ (aa.2.1.1.2).ia x := fun x hx e => hDo (by rw [e]; exact hOia x hx)
  have hnI : ∀ x ∈ (aa.2.1.1.2).nodes, I ≠ (aa.2.1.1.2).ia x := fun x hx e => hIo _ (hOia x hx) e.symm
  have hst2 : st.2.length ≤ 510 := by
   rw [← hst]
   have := jH hsl ((aa.2.2.1.2).take i) ((aa.2.1.1.2).np, (aa.2.2.1.1))
   have e1 : ((aa.2.2.1.2).take i).length ≤ 5 := by rw [List.length_take]; omega
   have e2 : (((aa.2.1.1.2).np, (aa.2.2.1.1)) : (Nat → Int) × List Nat).2.length ≤ 10 := hr0
   omega
  refine For_ledT (l := (aa.2.1.1.2).sa v) (vs := sws) (nn := sk) (fun j m nx2 => ∃ (u : Str → Option Value) (vs2 : List Value) (k2 : Nat), m = (fun y => if y = Str.ofString "self" then some (.ref (aa.1.1.1.2)) else if y = Str.ofString "n2i" then some (.ref (aa.1.1.2.2)) else u y) ∧ SrtIn (aa.1.1.1.1) (aa.1.1.1.2) (aa.1.1.2.1) (aa.1.1.2.2) (.ref (aa.1.2.1.1)) (aa.1.2.2.1) (.int ((aa.1.2.2.2) + i) tf) ((aa.2.1.1.2).withNp ((((aa.2.1.1.2).su v).take j).foldl stepS (fun u => if u = v then -2 else st.1 u, st.2)).1) nx2 ∧ ((aa.2.1.1.2).sa v, listOf sws.toArray sk) ∈ nx2 ∧ (Dt, tupOf (aa.2.2.2.1) 0) ∈ nx2 ∧ (I, o) ∈ nx2 ∧ ((aa.1.2.1.1), listOf vs2.toArray k2) ∈ nx2 ∧ StrsAre vs2 (((((aa.2.1.1.2).su v).take j).foldl stepS (fun u => if u = v then -2 else st.1 u, st.2)).2.map nm) ∧ ∀ p ∈ (aa.2.2.2.2), ¬ Own (aa.1.1.1.2) (aa.1.1.2.1) (aa.1.1.2.2) (aa.2.1.1.2) p.1 → p.1 ≠ (aa.1.2.1.1) → p ∈ nx2) rfl F6 N6 (fun Q' h' => ?_) ?_ ?_ ?_ ?_
  ·rw [← hled] at N6
   k_steps
   exact h' _
  ·exact ⟨_, vs', k', asIf2 (by rfl) (by rfl), hS6, hkl _ (inl _ hsw) (Ne.symm (A.il v hvn v hvn)), hkl _ (inl _ hDt') (hnD v hvn), hkl _ (List.mem_append.mpr (.inr (.head _))) (hnI v hvn), hkl _ (inl _ hRm) (hnR v hvn), hvs', fun q hq no nr => hkl _ (inl _ (hkeep q hq no nr)) fun e => no (by rw [e]; exact hOia v hvn)⟩
  ·rintro j m nx2 ⟨u2, vs2, k2, rfl, hS2, hsw2, _⟩
   exact hsw2
  ·intro I2 j vv2 m₂ nx2 hh2 tk2 o2 hvv2 zp2 hI2 hIn2 F₂ N₂
   walk_at "mine hide"
   refine x3_7 (zp2) ?_; (try clear zp2); intro u2 vs2 k2 xq7d; subst xq7d; intro hS2 hsw2 hDt2 hI2m hRm2 hvs2 hkeep2
   refine bg (aS hsS hvv2) ?_; intro x tx2 hx2 xq8d; subst xq8d
   have hxn : x ∈ (aa.2.1.1.2).nodes := hcl v hvn x (List.mem_of_getElem? hx2)
   have hx5 := h.lt5 x hxn
   have hjlen : ((((aa.2.1.1.2).su v).take j).foldl stepS (fun u => if u = v then -2 else st.1 u, st.2)).2.length ≤ 1000 := by
    have e1 := gz (((aa.2.1.1.2).su v).take j) (fun u => if u = v then -2 else st.1 u, st.2)
    have e2 : (((aa.2.1.1.2).su v).take j).length ≤ 100 := by rw [List.length_take]; have := hsl v; omega
    dsimp only at e1
    omega
   have hvl2 : vs2.length ≤ sizeLine := by
    have e0 : sizeLine = 16777216 := rfl
    have e1 := hvs2.len_eq
    rw [List.length_map] at e1
    omega
   generalize hst2' : (((aa.2.1.1.2).su v).take j).foldl stepS (fun u => if u = v then -2 else st.1 u, st.2) = st2 at *
   have eT : (((aa.2.1.1.2).su v).take (j + 1)).foldl stepS (fun u => if u = v then -2 else st.1 u, st.2) = stepS st2 x := by
    rw [List.take_add_one, hx2, List.foldl_append, hst2']; rfl
   refine aJ (hS2.tab) ?_; intro oD2 htab2 hD2
   refine bX (hS2.info x hxn) ?_; intro yi2 yn2 hi2
   have hi2 : ((aa.2.1.1.2).ia x, aU ((aa.2.1.1.2).da x) (nm x) yi2 (.int (st2.1 x) yn2) ((aa.2.1.1.2).sa x)) ∈ nx2 := hi2
   have hdd2 : ((aa.2.1.1.2).da x, dictOf [] 0) ∈ nx2 := hS2.dict x hxn
   refine bO (hS2.fld) ?_; intro s1 s2 s3 s4 sfld
   have A2 := hS2.apart
   have hval2 : valueAt (kvsOf ((aa.2.1.1.2).withNp st2.1)) (nm x) = some (.ref ((aa.2.1.1.2).ia x)) := by rw [bk hS2.lt5 hx5]; exact if_pos hxn
   have m1 : (aa.1.1.2.2) ≠ (aa.2.1.1.2).ia x := Ne.symm (A2.i1 x hxn).2.2
   have m2 : (aa.2.1.1.2).da x ≠ (aa.2.1.1.2).ia x := Ne.symm (A2.id x hxn x hxn)
   have m3 : (aa.1.1.1.2) ≠ (aa.2.1.1.2).ia x := Ne.symm (A2.i1 x hxn).1
   have m4 : (aa.1.1.2.1) ≠ (aa.2.1.1.2).ia x := Ne.symm (A2.i1 x hxn).2.1
   have m5 : (aa.1.2.1.1) ≠ (aa.2.1.1.2).ia x := hnR x hxn
   have m6 : (aa.1.1.2.2) ≠ (aa.1.2.1.1) := fun e => hRo (.inr (.inr (.inl e.symm)))
   have m7 : (aa.2.1.1.2).ia x ≠ (aa.1.2.1.1) := Ne.symm m5
   have m8 : (aa.2.1.1.2).da x ≠ (aa.1.2.1.1) := fun e => hRo (.inr (.inr (.inr ⟨x, hxn, .inr (.inl e.symm)⟩)))
   have m9 : (aa.1.1.1.2) ≠ (aa.1.2.1.1) := fun e => hRo (.inl e.symm)
   have m10 : (aa.1.1.2.1) ≠ (aa.1.2.1.1) := fun e => hRo (.inr (.inl e.symm))
   replace F₂ : Fr g' L' hh2 _ := F₂
   replace N₂ : News g' L' hh2 _ := N₂
   have one2 : ∀ q ∈ nx2 ++ [(I2, o2)], ∀ r ∈ nx2 ++ [(I2, o2)], q.1 = r.1 → q = r := fun q hq r hr e => aM N₂ hq hr e
   have inl2 : ∀ q ∈ nx2, q ∈ nx2 ++ [(I2, o2)] := fun q hq => List.mem_append.mpr (.inl hq)
   have hr21 : ∀ q ∈ drawn [(aa.1.1.2.2), (aa.2.1.1.2).ia x, (aa.2.1.1.2).da x, (aa.1.1.1.2), (aa.1.1.2.1), (aa.1.2.1.1)] (nx2 ++ [(I2, o2)]), q.1 ≠ (aa.2.1.1.2).ia x := aE (.tail _ (.head _))
   have hr22 : ∀ q ∈ drawn [(aa.1.1.2.2), (aa.2.1.1.2).ia x, (aa.2.1.1.2).da x, (aa.1.1.1.2), (aa.1.1.2.1), (aa.1.2.1.1)] (nx2 ++ [(I2, o2)]), q.1 ≠ (aa.1.2.1.1) := aE (by simp)
   replace N₂ : News g' L' hh2 (((aa.1.1.2.2), oD2) :: ((aa.2.1.1.2).ia x, aU ((aa.2.1.1.2).da x) (nm x) yi2 (.int (st2.1 x) yn2) ((aa.2.1.1.2).sa x)) :: ((aa.2.1.1.2).da x, dictOf [] 0) :: ((aa.1.1.1.2), instObj 210 (aa.1.1.2.1)) :: ((aa.1.1.2.1), sdict (aa.1.1.1.1) s1 s2 s3 s4 (aa.1.1.2.2) (.ref (aa.1.2.1.1)) (aa.1.2.2.1) (.int ((aa.1.2.2.2) + i) tf) 4) :: ((aa.1.2.1.1), listOf vs2.toArray k2) :: drawn [(aa.1.1.2.2), (aa.2.1.1.2).ia x, (aa.2.1.1.2).da x, (aa.1.1.1.2), (aa.1.1.2.1), (aa.1.2.1.1)] (nx2 ++ [(I2, o2)])) := News.sub N₂ (List.forall_mem_cons.mpr ⟨inl2 _ htab2, List.forall_mem_cons.mpr ⟨inl2 _ hi2, List.forall_mem_cons.mpr ⟨inl2 _ hdd2, List.forall_mem_cons.mpr ⟨inl2 _ hS2.inst, List.forall_mem_cons.mpr ⟨inl2 _ sfld, List.forall_mem_cons.mpr ⟨inl2 _ hRm2, aI⟩⟩⟩⟩⟩⟩)
   have fin : ∀ (s₃ : Shared) (h3 : Heap) (tk3 : Nat) (m3 : Str → Option Value) (o3 : Tok) (vs3 : List Value) (k3 : Nat), s₃ = { s with heap := h3, toks := tk3 } → m3 (Str.ofString "self") = some (.ref (aa.1.1.1.2)) → m3 (Str.ofString "n2i") = some (.ref (aa.1.1.2.2)) → Fr g' L' h3 m3 →
     News g' L' h3 (((aa.1.1.2.2), oD2) :: ((aa.2.1.1.2).ia x, aU ((aa.2.1.1.2).da x) (nm x) yi2 (.int (st2.1 x - 1) o3) ((aa.2.1.1.2).sa x)) :: ((aa.2.1.1.2).da x, dictOf [] 0) :: ((aa.1.1.1.2), instObj 210 (aa.1.1.2.1)) :: ((aa.1.1.2.1), sdict (aa.1.1.1.1) s1 s2 s3 s4 (aa.1.1.2.2) (.ref (aa.1.2.1.1)) (aa.1.2.2.1) (.int ((aa.1.2.2.2) + i) tf) 4) :: ((aa.1.2.1.1), listOf vs3.toArray k3) :: drawn [(aa.1.1.2.2), (aa.2.1.1.2).ia x, (aa.2.1.1.2).da x, (aa.1.1.1.2), (aa.1.1.2.1), (aa.1.2.1.1)] (nx2 ++ [(I2, o2)])) → StrsAre vs3 ((stepS st2 x).2.map nm) →
     cG g' L' { s with heap := h', toks := tk2 } I2 o2 (fun m nx2 => ∃ (u : Str → Option Value) (vs2 : List Value) (k2 : Nat), m = (fun y => if y = Str.ofString "self" then some (.ref (aa.1.1.1.2)) else if y = Str.ofString "n2i" then some (.ref (aa.1.1.2.2)) else u y) ∧ SrtIn (aa.1.1.1.1) (aa.1.1.1.2) (aa.1.1.2.1) (aa.1.1.2.2) (.ref (aa.1.2.1.1)) (aa.1.2.2.1) (.int ((aa.1.2.2.2) + i) tf) ((aa.2.1.1.2).withNp ((((aa.2.1.1.2).su v).take (j + 1)).foldl stepS (fun u => if u = v then -2 else st.1 u, st.2)).1) nx2 ∧ ((aa.2.1.1.2).sa v, listOf sws.toArray sk) ∈ nx2 ∧ (Dt, tupOf (aa.2.2.2.1) 0) ∈ nx2 ∧ (I, o) ∈ nx2 ∧ ((aa.1.2.1.1), listOf vs2.toArray k2) ∈ nx2 ∧ StrsAre vs2 (((((aa.2.1.1.2).su v).take (j + 1)).foldl stepS (fun u => if u = v then -2 else st.1 u, st.2)).2.map nm) ∧ ∀ p ∈ (aa.2.2.2.2), ¬ Own (aa.1.1.1.2) (aa.1.1.2.1) (aa.1.1.2.2) (aa.2.1.1.2) p.1 → p.1 ≠ (aa.1.2.1.1) → p ∈ nx2) s₃ := by
    intro s₃ h3 tk3 m3 o3 vs3 k3 e3 ms mn F3 N3 hv3
    generalize hled2 : ((aa.1.1.2.2), oD2) :: ((aa.2.1.1.2).ia x, aU ((aa.2.1.1.2).da x) (nm x) yi2 (.int (st2.1 x - 1) o3) ((aa.2.1.1.2).sa x)) :: ((aa.2.1.1.2).da x, dictOf [] 0) :: ((aa.1.1.1.2), instObj 210 (aa.1.1.2.1)) :: ((aa.1.1.2.1), sdict (aa.1.1.1.1) s1 s2 s3 s4 (aa.1.1.2.2) (.ref (aa.1.2.1.1)) (aa.1.2.2.1) (.int ((aa.1.2.2.2) + i) tf) 4) :: ((aa.1.2.1.1), listOf vs3.toArray k3) :: drawn [(aa.1.1.2.2), (aa.2.1.1.2).ia x, (aa.2.1.1.2).da x, (aa.1.1.1.2), (aa.1.1.2.1), (aa.1.2.1.1)] (nx2 ++ [(I2, o2)]) = led2 at N3
    have hkl2 : ∀ q ∈ nx2 ++ [(I2, o2)], q.1 ≠ (aa.2.1.1.2).ia x → q.1 ≠ (aa.1.2.1.1) → q ∈ led2 := fun q hq e er => by
     rw [← hled2]
     by_cases e1 : q.1 = (aa.1.1.2.2)
     ·rw [one2 q hq _ (inl2 _ htab2) e1]; exact .head _
     ·by_cases e2 : q.1 = (aa.2.1.1.2).da x
      ·rw [one2 q hq _ (inl2 _ hdd2) e2]; exact .tail _ (.tail _ (.head _))
      ·by_cases e3 : q.1 = (aa.1.1.1.2)
       ·rw [one2 q hq _ (inl2 _ hS2.inst) e3]; exact .tail _ (.tail _ (.tail _ (.head _)))
       ·by_cases e4 : q.1 = (aa.1.1.2.1)
        ·rw [one2 q hq _ (inl2 _ sfld) e4]; exact .tail _ (.tail _ (.tail _ (.tail _ (.head _))))
        ·exact .tail _ (.tail _ (.tail _ (.tail _ (.tail _ (.tail _ (mem_drawn.mpr ⟨hq, by simp [e, e1, e2, e3, e4, er]⟩))))))
    have hIo2 : ∀ a, Own (aa.1.1.1.2) (aa.1.1.2.1) (aa.1.1.2.2) (aa.2.1.1.2) a → a ≠ I2 := fun a ha => by
     refine aT (hS2.ownIn ha) ?_; intro oo ho
     exact hI2 _ ho
    have hS2' : SrtIn (aa.1.1.1.1) (aa.1.1.1.2) (aa.1.1.2.1) (aa.1.1.2.2) (.ref (aa.1.2.1.1)) (aa.1.2.2.1) (.int ((aa.1.2.2.2) + i) tf) ((aa.2.1.1.2).withNp st2.1) (drawn [(aa.1.2.1.1)] nx2) := hS2.keep fun q hq ho => mem_drawn.mpr ⟨hq, by simpa using fun e : q.1 = (aa.1.2.1.1) => hRo (e ▸ ho)⟩
    have hS3 : SrtIn (aa.1.1.1.1) (aa.1.1.1.2) (aa.1.1.2.1) (aa.1.1.2.2) (.ref (aa.1.2.1.1)) (aa.1.2.2.1) (.int ((aa.1.2.2.2) + i) tf) ((aa.2.1.1.2).withNp (stepS st2 x).1) led2 := hS2'.toNp (x := st2.1 x - 1) hxn (by rw [← hled2]; exact ⟨yi2, o3, .tail _ (.head _)⟩) fun q hq e => hkl2 q (inl2 q (aI q hq)) e (by simpa using (mem_drawn.mp hq).2)
    have hnx : ∀ q ∈ nx2, q.1 ≠ (aa.2.1.1.2).ia x → q.1 ≠ (aa.1.2.1.1) → q ∈ drawn [I2] led2 := fun q hq e er => mem_drawn.mpr ⟨hkl2 q (inl2 q hq) e er, by simpa using hI2 q hq⟩
    rw [eT]
    refine ⟨h3, tk3, m3, drawn [I2] led2, e3, F3, ?_, aE (.head _), m3, vs3, k3, asIf2 ms mn, hS3.keep fun q hq ho => mem_drawn.mpr ⟨hq, by simpa using hIo2 _ ho⟩, ?_, ?_, ?_, ?_, hv3, ?_⟩
    ·refine News.sub N3 fun q hq => ?_
     rcases List.mem_append.mp hq with hq | hq
     ·exact aI q hq
     ·rw [List.mem_singleton.mp hq]
      exact hkl2 _ (List.mem_append.mpr (.inr (.head _))) (Ne.symm (hIo2 _ (hOia x hxn))) (Ne.symm (hI2 _ hRm2))
    ·exact hnx _ hsw2 (Ne.symm (A.il x hxn v hvn)) fun e => hRo (.inr (.inr (.inr ⟨v, hvn, .inr (.inr e.symm)⟩)))
    ·exact hnx _ hDt2 (hnD x hxn) hDR
    ·exact hnx _ hI2m (hnI x hxn) (Ne.symm hRI)
    ·refine mem_drawn.mpr ⟨by rw [← hled2]; simp, by simpa using hI2 _ hRm2⟩
    ·intro q hq no nr
     exact hnx _ (hkeep2 q hq no nr) (fun e => no (by rw [e]; exact hOia x hxn)) nr
   k_steps
   ·rename Fr _ _ _ _ => F9
    rename News _ _ _ _ => N9
    have hz : st2.1 x - 1 = 0 := by assumption
    have epush : vs2.toArray.push (Value.str (nm x) tx2) = (vs2 ++ [Value.str (nm x) tx2]).toArray := by simp
    rw [epush] at N9
    refine fin _ _ _ _ _ (vs2 ++ [Value.str (nm x) tx2]) (k2 + 1) rfl rfl rfl F9 N9 ?_
    have e : (stepS st2 x).2 = st2.2 ++ [x] := if_pos hz
    rw [e, List.map_append]
    exact hvs2.append' (.cons _ _ .nil)
   ·have hz : ¬ st2.1 x - 1 = 0 := by assumption
    refine fin _ _ _ _ _ vs2 k2 rfl rfl rfl (by assumption) (by assumption) ?_
    have e : (stepS st2 x).2 = st2.2 := if_neg hz
    rw [e]
    exact hvs2
  ·intro m nx2 hh2 tk2 zp3 F₂ N₂
   walk_at "mine hide"
   refine x3_7 (zp3) ?_; (try clear zp3); intro u2 vs2 k2 xq13d; subst xq13d; intro hS2 hsw2 hDt2 hI2m hRm2 hvs2 hkeep2
   have hsl2 : sws.length = ((aa.2.1.1.2).su v).length := by have e := hsS.len_eq; rwa [List.length_map] at e
   rw [hsl2, List.take_length] at hS2 hvs2
   have eT : aQ (aa.2.1.1.2).su ((aa.2.1.1.2).np, (aa.2.2.1.1)) ((aa.2.2.1.2).take (i + 1)) = ((aa.2.1.1.2).su v).foldl stepS (fun u => if u = v then -2 else st.1 u, st.2) := by
    rw [List.take_add_one, hx]
    unfold aQ at hst ⊢
    rw [List.foldl_append, hst]; rfl
   generalize hst9 : ((aa.2.1.1.2).su v).foldl stepS (fun u => if u = v then -2 else st.1 u, st.2) = st9 at *
   refine bO (hS2.fld) ?_; intro s1 s2 s3 s4 sfld
   have A2 := hS2.apart
   have one2 : ∀ q ∈ nx2, ∀ r ∈ nx2, q.1 = r.1 → q = r := fun q hq r hr e => aM N₂ hq hr e
   have m1 : (aa.1.1.1.2) ≠ (aa.1.1.2.1) := A2.s1
   have hr1 : ∀ q ∈ drawn [(aa.1.1.1.2), (aa.1.1.2.1)] nx2, q.1 ≠ (aa.1.1.2.1) := aE (.tail _ (.head _))
   replace F₂ : Fr g' L' hh2 _ := F₂
   replace N₂ : News g' L' hh2 (((aa.1.1.1.2), instObj 210 (aa.1.1.2.1)) :: ((aa.1.1.2.1), sdict (aa.1.1.1.1) s1 s2 s3 s4 (aa.1.1.2.2) (.ref (aa.1.2.1.1)) (aa.1.2.2.1) (.int ((aa.1.2.2.2) + i) tf) 4) :: drawn [(aa.1.1.1.2), (aa.1.1.2.1)] nx2) := News.sub N₂ (List.forall_mem_cons.mpr ⟨hS2.inst, List.forall_mem_cons.mpr ⟨sfld, aI⟩⟩)
   k_steps
   rename Fr _ _ _ _ => F9
   rename News _ _ _ _ => N9
   generalize hled3 : ((aa.1.1.1.2), instObj 210 (aa.1.1.2.1)) :: ((aa.1.1.2.1), _) :: drawn [(aa.1.1.1.2), (aa.1.1.2.1)] nx2 = led3 at N9
   have hkl3 : ∀ q ∈ nx2, q.1 ≠ (aa.1.1.2.1) → q ∈ led3 := fun q hq e => by
    rw [← hled3]
    by_cases e1 : q.1 = (aa.1.1.1.2)
    ·rw [one2 q hq _ hS2.inst e1]; exact .head _
    ·exact .tail _ (.tail _ (mem_drawn.mpr ⟨hq, by simp [e, e1]⟩))
   have hdxO : Own (aa.1.1.1.2) (aa.1.1.2.1) (aa.1.1.2.2) (aa.2.1.1.2) (aa.1.1.2.1) := .inr (.inl rfl)
   have hS9 : SrtIn (aa.1.1.1.1) (aa.1.1.1.2) (aa.1.1.2.1) (aa.1.1.2.2) (.ref (aa.1.2.1.1)) (aa.1.2.2.1) (.int ((aa.1.2.2.2) + i + 1) _) ((aa.2.1.1.2).withNp st9.1) led3 := hS2.toFld (by rw [← hled3]; exact ⟨s1, s2, s3, s4, .tail _ (.head _)⟩) hkl3
   have hnx : ∀ q ∈ nx2, q.1 ≠ (aa.1.1.2.1) → q.1 ≠ I → q ∈ drawn [I] led3 := fun q hq e er => mem_drawn.mpr ⟨hkl3 q hq e, by simpa using er⟩
   have ei : (aa.1.2.2.2) + ((i + 1 : Nat) : Int) = (aa.1.2.2.2) + i + 1 := by omega
   obtain ⟨tq8, hS8⟩ : ∃ tq, SrtIn (aa.1.1.1.1) (aa.1.1.1.2) (aa.1.1.2.1) (aa.1.1.2.2) (.ref (aa.1.2.1.1)) (aa.1.2.2.1) (.int ((aa.1.2.2.2) + ((i + 1 : Nat) : Int)) tq) ((aa.2.1.1.2).withNp (aQ (aa.2.1.1.2).su ((aa.2.1.1.2).np, (aa.2.2.1.1)) ((aa.2.2.1.2).take (i + 1))).1) (drawn [I] led3) := by
    rw [eT, ei]
    exact ⟨_, hS9.keep fun q hq ho => mem_drawn.mpr ⟨hq, by simpa using hIo _ ho⟩⟩
   have hvs8 : StrsAre vs2 ((aQ (aa.2.1.1.2).su ((aa.2.1.1.2).np, (aa.2.2.1.1)) ((aa.2.2.1.2).take (i + 1))).2.map nm) := by rw [eT]; exact hvs2
   refine ⟨_, _, _, drawn [I] led3, rfl, F9, ?_, aE (.head _), _, vs2, k2, _, asIf2 (by rfl) (by rfl), hS8, ?_, ?_, hvs8, ?_⟩
   ·refine News.sub N9 fun q hq => ?_
    rcases List.mem_append.mp hq with hq | hq
    ·exact aI q hq
    ·rw [List.mem_singleton.mp hq]
     exact hkl3 _ hI2m (Ne.symm (hIo _ hdxO))
   ·exact hnx _ hDt2 (fun e => hDo (.inr (.inl e))) hDI
   ·exact hnx _ hRm2 (fun e => hRo (.inr (.inl e))) hRI
   ·intro q hq no nr
    exact hnx _ (hkeep2 q hq no nr) (fun e => no (.inr (.inl e))) (hI q (hkeep q hq no nr))
 ·intro m nx hh tk zp4 F₁ N₁
  walk_at "mine hide"
  obtain ⟨u, vs', k', tf, rfl, hS, hDt', hRm, hvs', hkeep⟩ := zp4
  rw [hlen, List.take_length] at hS hvs'
  k_steps
  exact hret _ nx hh _ (by assumption) (by assumption) ⟨vs', k', tf, rfl, hS, hRm, hvs', hkeep⟩
theorem done_c (w : World) (S dx D R T : Addr) (po : Value) (b : Int) (tb : Tok) (G : Gr) (vs : List Value) (k : Nat) (rs0 : List Nat) (l : List Nat) (ws : List Value) (news : List (Addr × Obj)) (h : SrtIn w S dx D (.ref R) po (.int b tb) G news) (hR : (R, listOf vs.toArray k) ∈ news) (hRo : ¬ Own S dx D G R) (hvs : StrsAre vs (rs0.map nm)) (hr0 : rs0.length ≤ 10) (hws : StrsAre ws (l.map nm)) (hl5 : l.length ≤ 5) (hln : ∀ v ∈ l, v ∈ G.nodes) (hcl : ∀ v ∈ G.nodes, ∀ s ∈ G.su v, s ∈ G.nodes) (hsl : ∀ v, (G.su v).length ≤ 100) (hout : ∀ i v, l[i]? = some v → (aQ G.su (G.np, rs0) (l.take i)).1 v = -1) :
  MutC 20 w 193 (.ref S :: ws) news (fun nx r => ∃ vs' k' tf, r = .none ∧ SrtIn w S dx D (.ref R) po (.int (b + l.length) tf) (G.withNp (aQ G.su (G.np, rs0) l).1) nx ∧ (R, listOf vs'.toArray k') ∈ nx ∧ StrsAre vs' ((aQ G.su (G.np, rs0) l).2.map nm) ∧ ∀ p ∈ news, ¬ Own S dx D G p.1 → p.1 ≠ R → p ∈ nx) := @aO _ _ (u16 fO) m_done_c ((((w, S), (dx, D)), ((R, T), (po, b))), (((tb, G), (vs, k)), ((rs0, l), (ws, news)))) h hR hRo hvs hr0 hws hl5 hln hcl hsl hout
theorem jZ (q : List Nat) : ∀ (st : (Nat → Int) × List Nat), (∀ s ∈ q, (q.count s : Int) ≤ st.1 s) → st.2.Nodup → (∀ s ∈ st.2, s ∉ q) →
  (∀ s, (q.foldl stepS st).1 s = st.1 s - q.count s) ∧ (∀ s, s ∈ (q.foldl stepS st).2 ↔ s ∈ st.2 ∨ (s ∈ q ∧ st.1 s = q.count s)) ∧ (q.foldl stepS st).2.Nodup := by
 induction q with
 | nil => intro st _ hnd _; simpa using hnd
 | cons x q ih =>
  intro st hge hnd hdis
  have hx := hge x (.head _)
  rw [List.count_cons_self] at hx
  have hxs : x ∉ st.2 := fun h => hdis x h (.head _)
  have e1 : ∀ s, (stepS st x).1 s = if s = x then st.1 x - 1 else st.1 s := fun s => rfl
  have c1 : ∀ s, s ≠ x → (x :: q).count s = q.count s := fun s h => List.count_cons_of_ne (Ne.symm h)
  have ge' : ∀ s ∈ q, (q.count s : Int) ≤ (stepS st x).1 s := by
   intro s hs
   rw [e1]
   by_cases e : s = x
   ·subst e; rw [if_pos rfl]; omega
   ·rw [if_neg e]
    have := hge s (.tail _ hs)
    rwa [c1 s e] at this
  by_cases hz : st.1 x - 1 = 0
  ·have hq : q.count x = 0 := by omega
   have hxq : x ∉ q := List.count_eq_zero.mp hq
   have e2 : (stepS st x).2 = st.2 ++ [x] := if_pos hz
   obtain ⟨a, b, c⟩ := ih (stepS st x) ge' (by
    rw [e2, List.nodup_append]
    exact ⟨hnd, by simp, fun y hy z hz => by rw [List.mem_singleton.mp hz]; exact fun e => hxs (e ▸ hy)⟩) (by
    intro s hs
    rw [e2] at hs
    rcases List.mem_append.mp hs with hs | hs
    ·exact fun h => hdis s hs (.tail _ h)
    ·rw [List.mem_singleton.mp hs]; exact hxq)
   rw [List.foldl_cons]
   refine ⟨fun s => ?_, fun s => ?_, c⟩
   ·rw [a s, e1]
    by_cases e : s = x
    ·subst e; rw [if_pos rfl, List.count_cons_self]; omega
    ·rw [if_neg e, c1 s e]
   ·rw [b s, e2, e1]
    by_cases e : s = x
    ·subst e
     rw [List.count_cons_self]
     constructor
     ·intro _; exact .inr ⟨.head _, by omega⟩
     ·intro _; exact .inl (by simp)
    ·rw [if_neg e, c1 s e]
     simp [e]
  ·have e2 : (stepS st x).2 = st.2 := if_neg hz
   obtain ⟨a, b, c⟩ := ih (stepS st x) ge' (by rw [e2]; exact hnd) (by
    intro s hs
    rw [e2] at hs
    exact fun h => hdis s hs (.tail _ h))
   rw [List.foldl_cons]
   refine ⟨fun s => ?_, fun s => ?_, c⟩
   ·rw [a s, e1]
    by_cases e : s = x
    ·subst e; rw [if_pos rfl, List.count_cons_self]; omega
    ·rw [if_neg e, c1 s e]
   ·rw [b s, e2, e1]
    by_cases e : s = x
    ·subst e
     rw [List.count_cons_self, if_pos rfl]
     constructor
     ·rintro (h | ⟨h, h'⟩)
      ·exact .inl h
      ·exact .inr ⟨.head _, by omega⟩
     ·rintro (h | ⟨_, h'⟩)
      ·exact .inl h
      ·right
       have : 0 < q.count s := by omega
       exact ⟨List.count_pos_iff.mp this, by omega⟩
    ·rw [if_neg e, c1 s e]
     simp [e]
noncomputable abbrev Edge := Nat × Nat
noncomputable def prd (T : List Nat) (v : Nat) (e : Edge) : Bool := decide (e.1 = v ∧ e.2 ∉ T)
noncomputable def cnt (es : List Edge) (T : List Nat) (v : Nat) : Nat := es.countP (prd T v)
noncomputable def suOf (es : List Edge) (u : Nat) : List Nat := (es.filter fun e => decide (e.2 = u)).map (·.1)
theorem fZ (e : Edge) (es : List Edge) (T : List Nat) (v : Nat) : cnt (e :: es) T v = cnt es T v + if e.1 = v ∧ e.2 ∉ T then 1 else 0 := by
 unfold cnt
 rw [List.countP_cons]
 unfold prd
 simp only [decide_eq_true_eq]
theorem lJ (e : Edge) (es : List Edge) (u s : Nat) : (suOf (e :: es) u).count s = (suOf es u).count s + if e.1 = s ∧ e.2 = u then 1 else 0 := by
 unfold suOf
 rw [List.filter_cons]
 by_cases h : e.2 = u
 ·simp only [h, decide_true, if_true, List.map_cons, List.count_cons, and_true, beq_iff_eq]
 ·simp only [h, decide_false, Bool.false_eq_true, if_false, and_false, Nat.add_zero]
theorem cnt_more (es : List Edge) {T : List Nat} {u : Nat} (hu : u ∉ T) (s : Nat) : cnt es (T ++ [u]) s + (suOf es u).count s = cnt es T s := by
 induction es with
 | nil => rfl
 | cons e es ih =>
  obtain ⟨a, b⟩ := e
  rw [fZ, fZ, lJ]
  by_cases ha : a = s
  ·by_cases hb : b = u
   ·subst ha hb
    rw [if_neg (by simp), if_pos ⟨rfl, rfl⟩, if_pos ⟨rfl, hu⟩]
    omega
   ·rw [if_neg (c := a = s ∧ b = u) fun h => hb h.2]
    by_cases hT : b ∈ T
    ·rw [if_neg (by simp [hT]), if_neg (by simp [hT])]; omega
    ·rw [if_pos ⟨ha, by simp [hT, hb]⟩, if_pos ⟨ha, hT⟩]; omega
  ·rw [if_neg fun h => ha h.1, if_neg fun h => ha h.1, if_neg fun h => ha h.1]
   omega
theorem iy {es : List Edge} {T : List Nat} {s u : Nat} (h : (s, u) ∈ es) (hu : u ∉ T) : 0 < cnt es T s := by
 unfold cnt
 rw [List.countP_pos_iff]
 exact ⟨(s, u), h, by unfold prd; simp [hu]⟩
theorem mem_suOf {es : List Edge} {s u : Nat} : s ∈ suOf es u ↔ (s, u) ∈ es := by
 unfold suOf
 simp
structure KInv (es : List Edge) (nodes T : List Nat) (np : Nat → Int) (ready : List Nat) : Prop where
 np : ∀ v ∈ nodes, np v = if v ∈ T then -2 else (cnt es T v : Int)
 nd : ready.Nodup
 mem : ∀ v, v ∈ ready ↔ v ∈ nodes ∧ v ∉ T ∧ cnt es T v = 0
 closed : ∀ e ∈ es, e.1 ∈ T → e.2 ∈ T
structure KMid (es : List Edge) (nodes T ready P : List Nat) (st : (Nat → Int) × List Nat) : Prop where
 a : ∀ v ∈ nodes, v ∈ T ++ P → st.1 v = -2
 b : ∀ v ∈ ready, v ∉ P → st.1 v = -1
 c : ∀ v ∈ nodes, v ∉ T → v ∉ ready → st.1 v = (cnt es (T ++ P) v : Int)
 d : st.2.Nodup
 e : ∀ v, v ∈ st.2 ↔ v ∈ nodes ∧ v ∉ T ∧ v ∉ ready ∧ cnt es (T ++ P) v = 0
theorem mu {es : List Edge} {nodes T ready P : List Nat} {st : (Nat → Int) × List Nat} {np : Nat → Int} {u : Nat} (K : KInv es nodes T np ready) (hes : ∀ e ∈ es, e.1 ∈ nodes ∧ e.2 ∈ nodes) (M : KMid es nodes T ready P st) (hu : u ∈ ready) (huP : u ∉ P) (hP : ∀ v ∈ P, v ∈ ready) : KMid es nodes T ready (P ++ [u]) (eZ (suOf es) st u) := by
 have huT : u ∉ T := ((K.mem u).mp hu).2.1
 have huTP : u ∉ T ++ P := by simp [huT, huP]
 have key : ∀ s ∈ suOf es u, s ∈ nodes ∧ s ∉ T ∧ s ∉ ready := by
  intro s hs
  have he := mem_suOf.mp hs
  refine ⟨(hes _ he).1, fun h => huT (K.closed _ he h), fun h => ?_⟩
  have := ((K.mem s).mp h).2.2
  have := iy he huT
  omega
 have hne : ∀ s ∈ suOf es u, s ≠ u := fun s hs e => (key s hs).2.2 (e ▸ hu)
 have cm : ∀ s, cnt es (T ++ (P ++ [u])) s + (suOf es u).count s = cnt es (T ++ P) s := fun s => by
  have := cnt_more es huTP s
  rwa [List.append_assoc] at this
 obtain ⟨f1, f2, f3⟩ := jZ (suOf es u) (fun y => if y = u then -2 else st.1 y, st.2) (by
  intro s hs
  refine jR (key s hs) ?_; intro k1 k2 k3
  dsimp only
  rw [if_neg (hne s hs), M.c s k1 k2 k3]
  have := cm s
  omega) M.d (by
  intro s hs hs'
  have h1 := ((M.e s).mp hs).2.2.2
  have h2 := cm s
  have h3 : 0 < (suOf es u).count s := List.count_pos_iff.mpr hs'
  omega)
 dsimp only at f1 f2 f3
 have c0 : ∀ s, s ∉ suOf es u → (suOf es u).count s = 0 := fun s h => List.count_eq_zero.mpr h
 refine ⟨?_, ?_, ?_, f3, ?_⟩
 ·intro v hv hm
  show ((suOf es u).foldl stepS _).1 v = -2
  rw [f1 v]
  have hvs : v ∉ suOf es u := fun h => by
   rw [← List.append_assoc] at hm
   rcases List.mem_append.mp hm with hm | hm
   ·rcases List.mem_append.mp hm with hm | hm
    ·exact (key v h).2.1 hm
    ·exact (key v h).2.2 (hP v hm)
   ·exact hne v h (List.mem_singleton.mp hm)
  rw [c0 v hvs]
  by_cases e : v = u
  ·rw [if_pos e]; rfl
  ·rw [if_neg e, M.a v hv]
   ·rfl
   ·rw [← List.append_assoc] at hm
    rcases List.mem_append.mp hm with hm | hm
    ·exact hm
    ·exact absurd (List.mem_singleton.mp hm) e
 ·intro v hv hm
  have e : v ≠ u := fun e => hm (by simp [e])
  have hvP : v ∉ P := fun h => hm (by simp [h])
  show ((suOf es u).foldl stepS _).1 v = -1
  rw [f1 v, if_neg e, M.b v hv hvP, c0 v fun h => (key v h).2.2 hv]
  rfl
 ·intro v hv hT hr
  have e : v ≠ u := fun e => hr (e ▸ hu)
  show ((suOf es u).foldl stepS _).1 v = _
  rw [f1 v, if_neg e, M.c v hv hT hr]
  have := cm v
  omega
 ·intro v
  show v ∈ ((suOf es u).foldl stepS _).2 ↔ _
  rw [f2 v, M.e v]
  have h2 := cm v
  constructor
  ·rintro (⟨h3, h4, h5, h6⟩ | ⟨h3, h4⟩)
   ·exact ⟨h3, h4, h5, by omega⟩
   ·refine jR (key v h3) ?_; intro k1 k2 k3
    rw [if_neg (hne v h3), M.c v k1 k2 k3] at h4
    exact ⟨k1, k2, k3, by omega⟩
  ·rintro ⟨h3, h4, h5, h6⟩
   by_cases h7 : cnt es (T ++ P) v = 0
   ·exact .inl ⟨h3, h4, h5, h7⟩
   ·right
    have h8 : 0 < (suOf es u).count v := by omega
    have h9 := List.count_pos_iff.mp h8
    refine ⟨h9, ?_⟩
    rw [if_neg (hne v h9), M.c v h3 h4 h5]
    omega
theorem iw (su : Nat → List Nat) (st : (Nat → Int) × List Nat) (P : List Nat) (u : Nat) : aQ su st (P ++ [u]) = eZ su (aQ su st P) u := by
 unfold aQ; rw [List.foldl_append]; rfl
theorem gK {es : List Edge} {nodes T ready : List Nat} {np : Nat → Int} (K : KInv es nodes T np ready) (hes : ∀ e ∈ es, e.1 ∈ nodes ∧ e.2 ∈ nodes) : ∀ i, i ≤ ready.length → KMid es nodes T ready (ready.take i) (aQ (suOf es) (fun u => if u ∈ ready then -1 else np u, []) (ready.take i)) := by
 intro i
 induction i with
 | zero =>
  intro _
  refine ⟨?_, ?_, ?_, List.nodup_nil, ?_⟩
  ·intro v hv hm
   have hT : v ∈ T := by simpa using hm
   show (if v ∈ ready then -1 else np v) = -2
   rw [if_neg fun h => ((K.mem v).mp h).2.1 hT, K.np v hv, if_pos hT]
  ·intro v hv _
   exact if_pos hv
  ·intro v hv hT hr
   show (if v ∈ ready then -1 else np v) = _
   rw [if_neg hr, K.np v hv, if_neg hT]
   simp
  ·intro v
   show v ∈ [] ↔ _
   simp only [List.not_mem_nil, List.take_zero, List.append_nil, false_iff]
   rintro ⟨h1, h2, h3, h4⟩
   exact h3 ((K.mem v).mpr ⟨h1, h2, h4⟩)
 | succ i ih =>
  intro hi
  have hlt : i < ready.length := hi
  have e : ready.take (i + 1) = ready.take i ++ [ready[i]] := by rw [List.take_add_one, List.getElem?_eq_getElem hlt]; rfl
  rw [e, iw]
  refine mu K hes (ih (by omega)) (List.getElem_mem hlt) ?_ (fun v hv => List.mem_of_mem_take hv)
  intro hm
  obtain ⟨j, hj, hj'⟩ := List.mem_take_iff_getElem.mp hm
  exact (List.pairwise_iff_getElem.mp K.nd) j i (by omega) hlt (by omega) hj'
theorem round_ok {es : List Edge} {nodes T ready : List Nat} {np : Nat → Int} (K : KInv es nodes T np ready) (hes : ∀ e ∈ es, e.1 ∈ nodes ∧ e.2 ∈ nodes) :
  (∀ i v, ready[i]? = some v → (aQ (suOf es) (fun u => if u ∈ ready then -1 else np u, []) (ready.take i)).1 v = -1) ∧
  KInv es nodes (T ++ ready) (aQ (suOf es) (fun u => if u ∈ ready then -1 else np u, []) ready).1 (aQ (suOf es) (fun u => if u ∈ ready then -1 else np u, []) ready).2 := by
 constructor
 ·intro i v hv
  refine aT (List.getElem?_eq_some_iff.mp hv) ?_; intro hlt hv
  have M := gK K hes i (by omega)
  refine M.b v (hv ▸ List.getElem_mem hlt) fun hm => ?_
  obtain ⟨j, hj, hj'⟩ := List.mem_take_iff_getElem.mp hm
  exact (List.pairwise_iff_getElem.mp K.nd) j i (by omega) hlt (by omega) (hj'.trans hv.symm)
 ·have M := gK K hes ready.length (Nat.le_refl _)
  rw [List.take_length] at M
  refine ⟨?_, M.d, ?_, ?_⟩
  ·intro v hv
   by_cases hm : v ∈ T ++ ready
   ·rw [if_pos hm]; exact M.a v hv hm
   ·rw [if_neg hm]
    exact M.c v hv (fun h => hm (by simp [h])) (fun h => hm (by simp [h]))
  ·intro v
   rw [M.e v]
   simp only [List.mem_append, not_or]
   constructor
   ·rintro ⟨h1, h2, h3, h4⟩; exact ⟨h1, ⟨h2, h3⟩, h4⟩
   ·rintro ⟨h1, ⟨h2, h3⟩, h4⟩; exact ⟨h1, h2, h3, h4⟩
  ·intro e he hm
   rcases List.mem_append.mp hm with hm | hm
   ·exact List.mem_append.mpr (.inl (K.closed e he hm))
   ·refine List.mem_append.mpr (.inl ?_)
    have h1 := ((K.mem _).mp hm).2.2
    by_cases h2 : e.2 ∈ T
    ·exact h2
    ·exact absurd (iy (s := e.1) (u := e.2) he h2) (by omega)
noncomputable def relax (lv : Nat → Nat) (e : Edge) : Nat → Nat := fun u => if u = e.1 then max (lv e.1) (lv e.2 + 1) else lv u
noncomputable def turnL (es : List Edge) (lv : Nat → Nat) : Nat → Nat := es.foldl relax lv
noncomputable def aN (es : List Edge) : Nat → Nat → Nat
 | 0 => fun _ => 0
 | t + 1 => turnL es (aN es t)
theorem iK (lv : Nat → Nat) (e : Edge) (v : Nat) : lv v ≤ relax lv e v := by
 unfold relax
 by_cases h : v = e.1
 ·rw [if_pos h, h]; omega
 ·rw [if_neg h]; omega
theorem turn_le (es : List Edge) : ∀ (lv : Nat → Nat) (v : Nat), lv v ≤ turnL es lv v := by
 unfold turnL
 induction es with
 | nil => intro lv v; exact Nat.le_refl _
 | cons e es ih => intro lv v; rw [List.foldl_cons]; exact Nat.le_trans (iK lv e v) (ih _ v)
theorem gv (es : List Edge) : ∀ (lv : Nat → Nat) {s u : Nat}, (s, u) ∈ es → lv u + 1 ≤ turnL es lv s := by
 unfold turnL
 induction es with
 | nil => intro lv s u h; cases h
 | cons e es ih =>
  intro lv s u h
  rw [List.foldl_cons]
  rcases List.mem_cons.mp h with h | h
  ·subst h
   refine Nat.le_trans ?_ (turn_le es (relax lv (s, u)) s)
   unfold relax
   rw [if_pos rfl]
   exact Nat.le_max_right _ _
  ·exact Nat.le_trans (Nat.succ_le_succ (iK lv e u)) (ih (relax lv e) h)
theorem jT {es : List Edge} {C : Nat → Prop} {r : Nat → Nat} (hC : ∀ s u, (s, u) ∈ es → C s → C u ∧ r u + 1 ≤ r s) : ∀ {lv : Nat → Nat}, (∀ v, C v → lv v ≤ r v) → ∀ v, C v → turnL es lv v ≤ r v := by
 unfold turnL
 have key : ∀ (l : List Edge), (∀ e ∈ l, e ∈ es) → ∀ {lv : Nat → Nat}, (∀ v, C v → lv v ≤ r v) → ∀ v, C v → l.foldl relax lv v ≤ r v := by
  intro l
  induction l with
  | nil => intro _ lv h v hv; exact h v hv
  | cons e l ih =>
   intro hl lv h
   rw [List.foldl_cons]
   refine ih (fun x hx => hl x (.tail _ hx)) ?_
   intro v hv
   unfold relax
   by_cases e1 : v = e.1
   ·rw [if_pos e1]
    subst e1
    refine bj (hC e.1 e.2 (hl e (.head _)) hv) ?_; intro h1 h2
    have h3 := h _ hv
    have h4 := h _ h1
    omega
   ·rw [if_neg e1]; exact h v hv
 intro lv h
 exact key es (fun _ h => h) h
theorem dZ {es : List Edge} {C : Nat → Prop} {r : Nat → Nat} (hC : ∀ s u, (s, u) ∈ es → C s → C u ∧ r u + 1 ≤ r s) (t : Nat) : ∀ v, C v → aN es t v ≤ r v := by
 induction t with
 | zero => intro v _; exact Nat.zero_le _
 | succ t ih => exact jT hC ih
theorem eK {es : List Edge} {C : Nat → Prop} (hC : ∀ s, C s → ∃ u, (s, u) ∈ es ∧ C u) (t : Nat) : ∀ v, C v → t ≤ aN es t v := by
 induction t with
 | zero => intro v _; exact Nat.zero_le _
 | succ t ih =>
  intro v hv
  refine aJ (hC v hv) ?_; intro u he hu
  exact Nat.le_trans (Nat.succ_le_succ (ih u hu)) (gv es _ he)
theorem hZ {es : List Edge} {C : Nat → Prop} {r : Nat → Nat} (hC : ∀ s, C s → r s = 0 ∨ ∃ u, (s, u) ∈ es ∧ C u ∧ r u + 1 = r s) (t : Nat) : ∀ v, C v → min t (r v) ≤ aN es t v := by
 induction t with
 | zero => intro v _; omega
 | succ t ih =>
  intro v hv
  rcases hC v hv with h | ⟨u, he, hu, hr⟩
  ·omega
  ·have h1 := ih u hu
   have h2 := gv es (aN es t) he
   have h3 : aN es (t + 1) v = turnL es (aN es t) v := rfl
   omega
structure RInv (es : List Edge) (nodes : List Nat) (Rs : List (List Nat)) : Prop where
 sub : ∀ (k : Nat) (R : List Nat), Rs[k]? = some R → ∀ v ∈ R, v ∈ nodes ∧ (∀ u, (v, u) ∈ es → ∃ (j : Nat) (R' : List Nat), j < k ∧ Rs[j]? = some R' ∧ u ∈ R') ∧ (k = 0 ∨ ∃ u R', (v, u) ∈ es ∧ Rs[k - 1]? = some R' ∧ u ∈ R')
 one : ∀ (j k : Nat) (R R' : List Nat), Rs[j]? = some R → Rs[k]? = some R' → ∀ v, v ∈ R → v ∈ R' → j = k
 ne : ∀ R ∈ Rs, R ≠ []
 last : ∀ v ∈ nodes, v ∉ Rs.flatten → Rs ≠ [] → 0 < cnt es Rs.dropLast.flatten v
theorem rinv_nil (es : List Edge) (nodes : List Nat) : RInv es nodes [] := ⟨fun k R h => by simp at h, fun j k R R' h => by simp at h, fun R h => by simp at h, fun v _ _ h => absurd rfl h⟩
theorem fY {es : List Edge} {T : List Nat} {v : Nat} (h : 0 < cnt es T v) : ∃ u, (v, u) ∈ es ∧ u ∉ T := by
 unfold cnt at h
 refine aJ (List.countP_pos_iff.mp h) ?_; intro xq2a he hp
 obtain ⟨a, b⟩ := xq2a
 unfold prd at hp
 simp at hp
 exact ⟨b, hp.1 ▸ he, hp.2⟩
theorem lT {es : List Edge} {nodes ready : List Nat} {Rs : List (List Nat)} {np : Nat → Int} (H : RInv es nodes Rs) (K : KInv es nodes Rs.flatten np ready) (hne : ready ≠ []) : RInv es nodes (Rs ++ [ready]) := by
 have getL : ∀ {k : Nat} {R : List Nat}, (Rs ++ [ready])[k]? = some R → (Rs[k]? = some R) ∨ (k = Rs.length ∧ R = ready) := by
  intro k R h
  by_cases hk : k < Rs.length
  ·rw [List.getElem?_append_left hk] at h; exact .inl h
  ·rw [List.getElem?_append_right (by omega)] at h
   have hk' : k - Rs.length = 0 := by
    cases e : k - Rs.length with
    | zero => rfl
    | succ n => rw [e] at h; simp at h
   rw [hk'] at h
   simp at h
   exact .inr ⟨by omega, h.symm⟩
 have up : ∀ {k : Nat} {R : List Nat}, Rs[k]? = some R → (Rs ++ [ready])[k]? = some R := by
  intro k R h
  have := (List.getElem?_eq_some_iff.mp h).1
  rw [List.getElem?_append_left this]; exact h
 have memF : ∀ v, v ∈ Rs.flatten → ∃ (j : Nat) (R : List Nat), j < Rs.length ∧ Rs[j]? = some R ∧ v ∈ R := by
  intro v h
  refine aJ (List.mem_flatten.mp h) ?_; intro R hR hv
  obtain ⟨j, hj, rfl⟩ := List.mem_iff_getElem.mp hR
  exact ⟨j, _, hj, List.getElem?_eq_getElem hj, hv⟩
 have Fmem : ∀ {j : Nat} {R : List Nat} {v : Nat}, Rs[j]? = some R → v ∈ R → v ∈ Rs.flatten := fun h hv => List.mem_flatten.mpr ⟨_, List.mem_of_getElem? h, hv⟩
 refine ⟨?_, ?_, ?_, ?_⟩
 ·intro k R h v hv
  rcases getL h with h | ⟨rfl, rfl⟩
  ·refine jR (H.sub k R h v hv) ?_; intro h1 h2 h3
   refine ⟨h1, fun u hu => ?_, ?_⟩
   ·refine fa (h2 u hu) ?_; intro j R' a b c
    exact ⟨j, R', a, up b, c⟩
   ·rcases h3 with h3 | ⟨u, R', a, b, c⟩
    ·exact .inl h3
    ·exact .inr ⟨u, R', a, up b, c⟩
  ·refine jR ((K.mem v).mp hv) ?_; intro h1 h2 h3
   have hneed : ∀ u, (v, u) ∈ es → u ∈ Rs.flatten := fun u hu => by
    by_cases h : u ∈ Rs.flatten
    ·exact h
    ·exact absurd (iy hu h) (by omega)
   refine ⟨h1, fun u hu => ?_, ?_⟩
   ·refine fa (memF u (hneed u hu)) ?_; intro j R' a b c
    exact ⟨j, R', a, up b, c⟩
   ·by_cases h0 : Rs = []
    ·left; rw [h0]; rfl
    ·right
     refine aJ (fY (H.last v h1 h2 h0)) ?_; intro u hu hnu
     have hu' := hneed u hu
     have el : Rs = Rs.dropLast ++ [Rs.getLast h0] := (List.dropLast_concat_getLast h0).symm
     have hul : u ∈ Rs.getLast h0 := by
      rw [el, List.flatten_append] at hu'
      rcases List.mem_append.mp hu' with hu' | hu'
      ·exact absurd hu' hnu
      ·simpa using hu'
     have hlen : 0 < Rs.length := List.length_pos_iff.mpr h0
     refine ⟨u, Rs.getLast h0, hu, up ?_, hul⟩
     rw [List.getLast_eq_getElem, List.getElem?_eq_getElem (by omega)]
 ·intro j k R R' hj hk v hv hv'
  rcases getL hj with hj1 | ⟨ej, eR⟩ <;> rcases getL hk with hk1 | ⟨ek, eR'⟩
  ·exact H.one j k R R' hj1 hk1 v hv hv'
  ·rw [eR'] at hv'; exact absurd (Fmem hj1 hv) ((K.mem v).mp hv').2.1
  ·rw [eR] at hv; exact absurd (Fmem hk1 hv') ((K.mem v).mp hv).2.1
  ·omega
 ·intro R hR
  rcases List.mem_append.mp hR with hR | hR
  ·exact H.ne R hR
  ·rw [List.mem_singleton.mp hR]; exact hne
 ·intro v hv hnv _
  rw [List.dropLast_concat]
  rw [List.flatten_append] at hnv
  have h1 : v ∉ Rs.flatten := fun h => hnv (List.mem_append.mpr (.inl h))
  have h2 : v ∉ ready := fun h => hnv (List.mem_append.mpr (.inr (by simpa using h)))
  by_cases h3 : cnt es Rs.flatten v = 0
  ·exact absurd ((K.mem v).mpr ⟨hv, h1, h3⟩) h2
  ·omega
noncomputable def fy (Rs : List (List Nat)) (v : Nat) : Nat := Rs.findIdx fun R => decide (v ∈ R)
theorem dW {es : List Edge} {nodes : List Nat} {Rs : List (List Nat)} (H : RInv es nodes Rs) {k : Nat} {R : List Nat} (h : Rs[k]? = some R) {v : Nat} (hv : v ∈ R) : fy Rs v = k := by
 have hR := List.mem_of_getElem? h
 have hlt : fy Rs v < Rs.length := List.findIdx_lt_length_of_exists ⟨R, hR, by simpa using hv⟩
 have hp : v ∈ Rs[fy Rs v] := by
  have := List.findIdx_getElem (w := hlt)
  exact of_decide_eq_true this
 exact H.one _ _ _ _ (List.getElem?_eq_getElem hlt) h v hp hv
theorem eX {Rs : List (List Nat)} {v : Nat} (h : v ∈ Rs.flatten) : ∃ (k : Nat) (R : List Nat), Rs[k]? = some R ∧ v ∈ R := by
 refine aJ (List.mem_flatten.mp h) ?_; intro R hR hv
 obtain ⟨k, hk, e⟩ := List.mem_iff_getElem.mp hR
 exact ⟨k, R, by rw [← e]; exact List.getElem?_eq_getElem hk, hv⟩
theorem cw {es : List Edge} {nodes : List Nat} {Rs : List (List Nat)} (H : RInv es nodes Rs) (h5 : ∀ v ∈ nodes, v < 5) : Rs.length ≤ 5 := by
 have hh : ∀ R ∈ Rs, R.headD 0 ∈ R := fun R hR => by
  have := H.ne R hR
  cases R with
  | nil => exact absurd rfl this
  | cons a R => exact .head _
 have := aV 5 (Rs.map fun R => R.headD 0) (by
  rw [List.Nodup, List.pairwise_map, List.pairwise_iff_getElem]
  intro i j hi hj hij e
  have h1 := hh _ (List.getElem_mem hi)
  have h2 := hh _ (List.getElem_mem hj)
  rw [e] at h1
  have := H.one i j _ _ (List.getElem?_eq_getElem hi) (List.getElem?_eq_getElem hj) _ h1 h2
  omega) (by
  intro x hx
  refine aJ (List.mem_map.mp hx) ?_; intro R hR xq2c; subst xq2c
  obtain ⟨k, hk, e⟩ := List.mem_iff_getElem.mp hR
  exact h5 _ (H.sub k R (by rw [← e]; exact List.getElem?_eq_getElem hk) _ (hh R hR)).1)
 simpa using this
theorem dD {es : List Edge} {nodes : List Nat} {Rs : List (List Nat)} (H : RInv es nodes Rs) (h5 : ∀ v ∈ nodes, v < 5) {k : Nat} {R : List Nat} (h : Rs[k]? = some R) {v : Nat} (hv : v ∈ R) : aN es 5 v = k := by
 have up := dZ (es := es) (C := fun v => v ∈ Rs.flatten) (r := fy Rs) (by
  intro s u he hs
  refine bg (eX hs) ?_; intro k R hk hsR
  refine fa ((H.sub k R hk s hsR).2.1 u he) ?_; intro j R' hj hR' hu
  refine ⟨List.mem_flatten.mpr ⟨R', List.mem_of_getElem? hR', hu⟩, ?_⟩
  rw [dW H hk hsR, dW H hR' hu]
  exact hj) 5
 have lo := hZ (es := es) (C := fun v => v ∈ Rs.flatten) (r := fy Rs) (by
  intro s hs
  refine bg (eX hs) ?_; intro k R hk hsR
  rw [dW H hk hsR]
  rcases (H.sub k R hk s hsR).2.2 with h0 | ⟨u, R', he, hR', hu⟩
  ·exact .inl h0
  ·by_cases h0 : k = 0
   ·exact .inl h0
   ·refine .inr ⟨u, he, List.mem_flatten.mpr ⟨R', List.mem_of_getElem? hR', hu⟩, ?_⟩
    rw [dW H hR' hu]
    omega) 5
 have hf : v ∈ Rs.flatten := List.mem_flatten.mpr ⟨R, List.mem_of_getElem? h, hv⟩
 have h1 := up v hf
 have h2 := lo v hf
 have h3 := dW H h hv
 have h4 := cw H h5
 have h6 := (List.getElem?_eq_some_iff.mp h).1
 omega
theorem dQ {es : List Edge} {nodes : List Nat} {Rs : List (List Nat)} {np : Nat → Int} (K : KInv es nodes Rs.flatten np []) (hes : ∀ e ∈ es, e.1 ∈ nodes ∧ e.2 ∈ nodes) {v : Nat} (hv : v ∈ nodes) (hn : v ∉ Rs.flatten) (t : Nat) : t ≤ aN es t v := by
 refine eK (C := fun v => v ∈ nodes ∧ v ∉ Rs.flatten) ?_ t v ⟨hv, hn⟩
 rintro s ⟨hs, hns⟩
 have : 0 < cnt es Rs.flatten s := by
  by_cases h : cnt es Rs.flatten s = 0
  ·exact absurd ((K.mem s).mpr ⟨hs, hns, h⟩) (by simp)
  ·omega
 refine aJ (fY this) ?_; intro u hu hnu
 exact ⟨u, hu, (hes _ hu).2, hnu⟩
noncomputable def ord5 : List Nat := [3, 0, 1, 2, 4]
theorem ez (f : Nat → List Nat) (m : Nat) : ∀ d, (∀ k, k < m → f k ≠ []) → (∀ k, m ≤ k → k < m + d → f k = []) → ((List.range (m + d)).map f).filter (fun l => decide (l ≠ [])) = (List.range m).map f := by
 intro d h1 h2
 have key : ∀ d, (∀ k, m ≤ k → k < m + d → f k = []) → ((List.range (m + d)).map f).filter (fun l => decide (l ≠ [])) = (List.range m).map f := by
  intro d
  induction d with
  | zero =>
   intro _
   rw [Nat.add_zero, List.filter_eq_self]
   intro l hl
   refine aJ (List.mem_map.mp hl) ?_; intro k hk xq8c; subst xq8c
   simpa using h1 k (List.mem_range.mp hk)
  | succ d ih =>
   intro h
   have e : m + (d + 1) = (m + d) + 1 := by omega
   rw [e, List.range_succ, List.map_append, List.filter_append, ih fun k a b => h k a (by omega)]
   have : f (m + d) = [] := h _ (by omega) (by omega)
   simp [this]
 exact key d h2
theorem lS {es : List Edge} {nodes : List Nat} {Rs : List (List Nat)} {np : Nat → Int} (H : RInv es nodes Rs) (K : KInv es nodes Rs.flatten np []) (hes : ∀ e ∈ es, e.1 ∈ nodes ∧ e.2 ∈ nodes) (h5 : ∀ v, v ∈ nodes ↔ v < 5) :
  ((List.range 5).map fun k => ord5.filter fun v => decide (aN es 5 v = k)).filter (fun l => decide (l ≠ [])) = Rs.map fun R => ord5.filter fun v => decide (v ∈ R) := by
 have hord : ∀ v, v ∈ ord5 ↔ v < 5 := by
  intro v
  unfold ord5
  simp
  omega
 have h5' : ∀ v ∈ nodes, v < 5 := fun v hv => (h5 v).mp hv
 have hm := cw H h5'
 obtain ⟨d, hd⟩ : ∃ d, 5 = Rs.length + d := ⟨5 - Rs.length, by omega⟩
 have hlev : ∀ (k : Nat) (R : List Nat), Rs[k]? = some R → ∀ v, v < 5 → (aN es 5 v = k ↔ v ∈ R) := by
  intro k R hk v hv
  constructor
  ·intro e
   by_cases hf : v ∈ Rs.flatten
   ·refine bg (eX hf) ?_; intro k' R' hk' hv'
    have := dD H h5' hk' hv'
    have e2 : k' = k := by omega
    subst e2
    rw [hk] at hk'
    cases hk'
    exact hv'
   ·have := dQ K hes ((h5 v).mpr hv) hf 5
    have := (List.getElem?_eq_some_iff.mp hk).1
    omega
  ·exact dD H h5' hk
 have hF : ∀ (k : Nat) (R : List Nat), Rs[k]? = some R → (ord5.filter fun v => decide (aN es 5 v = k)) = ord5.filter fun v => decide (v ∈ R) := by
  intro k R hk
  refine List.filter_congr fun v hv => ?_
  have := hlev k R hk v ((hord v).mp hv)
  simp [this]
 have e0 := ez (fun k => ord5.filter fun v => decide (aN es 5 v = k)) Rs.length d (by
  intro k hk e
  have hk' := List.getElem?_eq_getElem hk
  rw [hF k _ hk'] at e
  have hne := H.ne _ (List.getElem_mem hk)
  refine aT (List.exists_mem_of_ne_nil _ hne) ?_; intro x hx
  have hx5 := h5' x (H.sub k _ hk' x hx).1
  have : x ∈ ord5.filter fun v => decide (v ∈ Rs[k]) := List.mem_filter.mpr ⟨(hord x).mpr hx5, by simpa using hx⟩
  rw [e] at this
  cases this) (by
  intro k h1 h2
  rw [List.filter_eq_nil_iff]
  intro v hv
  have hv5 := (hord v).mp hv
  simp only [decide_eq_true_eq]
  intro e
  by_cases hf : v ∈ Rs.flatten
  ·refine bg (eX hf) ?_; intro k' R' hk' hv'
   have := dD H h5' hk' hv'
   have := (List.getElem?_eq_some_iff.mp hk').1
   omega
  ·have := dQ K hes ((h5 v).mpr hv5) hf 5
   omega)
 rw [← hd] at e0
 rw [e0]
 apply List.ext_getElem?
 intro k
 rw [List.getElem?_map, List.getElem?_map]
 by_cases hk : k < Rs.length
 ·rw [List.getElem?_eq_getElem hk, List.getElem?_range hk]
  simp only [Option.map_some]
  rw [hF k _ (List.getElem?_eq_getElem hk)]
 ·rw [List.getElem?_eq_none (l := List.range Rs.length) (by rw [List.length_range]; omega), List.getElem?_eq_none (l := Rs) (by omega)]
  rfl
noncomputable def Link (su : Nat → List Nat) (fin : List Nat) (x : Nat × Nat) (v : Nat) : Prop := 0 < x.2 ∧ (su x.1)[x.2 - 1]? = some v ∧ ∀ u ∈ (su x.1).take (x.2 - 1), u ∈ fin
noncomputable def Path (su : Nat → List Nat) (fin : List Nat) : List (Nat × Nat) → Nat → Prop
 | [], _ => True
 | x :: r, v => Link su fin x v ∧ Path su fin r x.1
noncomputable def Idle (su : Nat → List Nat) (fin : List Nat) : List (Nat × Nat) → Prop
 | [] => True
 | x :: r => x.2 ≤ (su x.1).length ∧ (∀ u ∈ (su x.1).take x.2, u ∈ fin) ∧ Path su fin r x.1
structure Seen (nodes : List Nat) (su : Nat → List Nat) (fin ks : List Nat) : Prop where
 sub : ∀ v ∈ fin ++ ks, v ∈ nodes
 nd : (fin ++ ks).Nodup
 topo : ∀ a v b, fin = a ++ v :: b → ∀ u ∈ su v, u ∈ a
variable {su : Nat → List Nat} {fin fin' : List Nat} {nodes ks : List Nat}
theorem Link.mono {x : Nat × Nat} {v : Nat} (h : Link su fin x v) (k : ∀ u ∈ fin, u ∈ fin') : Link su fin' x v := ⟨h.1, h.2.1, fun u hu => k u (h.2.2 u hu)⟩
theorem Path.mono (k : ∀ u ∈ fin, u ∈ fin') : ∀ {stk : List (Nat × Nat)} {v : Nat}, Path su fin stk v → Path su fin' stk v
 | [], _, _ => trivial
 | _ :: _, _, h => ⟨h.1.mono k, Path.mono k h.2⟩
theorem mx {stk : List (Nat × Nat)} {v : Nat} (h : Path su fin stk v) : Idle su fin ((v, 0) :: stk) := ⟨Nat.zero_le _, by simp, h⟩
theorem Link.le {x : Nat × Nat} {v : Nat} (h : Link su fin x v) : x.2 ≤ (su x.1).length := by
 refine jR (h) ?_; (try clear h); intro h1 h2 _
 have := (List.getElem?_eq_some_iff.mp h2).1
 omega
theorem iR {x : Nat × Nat} {r : List (Nat × Nat)} {v : Nat} (h : Path su fin (x :: r) v) (hv : v ∈ fin) : Idle su fin (x :: r) := by
 refine bj (h) ?_; (try clear h); intro hl hp
 refine ⟨hl.le, ?_, hp⟩
 refine jR (hl) ?_; (try clear hl); intro h1 h2 h3
 have e : x.2 = (x.2 - 1) + 1 := by omega
 intro u hu
 rw [e, List.take_add_one, h2] at hu
 rcases List.mem_append.mp hu with hu | hu
 ·exact h3 u hu
 ·have : u = v := by simpa using hu
  rw [this]; exact hv
theorem lY {x : Nat × Nat} {r : List (Nat × Nat)} {u : Nat} (h : Idle su fin (x :: r)) (hu : (su x.1)[x.2]? = some u) : Path su fin ((x.1, x.2 + 1) :: r) u :=
 ⟨⟨Nat.succ_pos _, hu, h.2.1⟩, h.2.2⟩
theorem idle_all {x : Nat × Nat} {r : List (Nat × Nat)} (h : Idle su fin (x :: r)) (hn : (su x.1)[x.2]? = none) : (∀ u ∈ su x.1, u ∈ fin) ∧ x.2 = (su x.1).length := by
 have h1 := List.getElem?_eq_none_iff.mp hn
 refine ⟨fun u hu => h.2.1 u ?_, Nat.le_antisymm h.1 h1⟩
 rw [List.take_of_length_le h1]; exact hu
theorem idle_pop {x : Nat × Nat} {r : List (Nat × Nat)} (h : Idle su fin (x :: r)) : Idle su (fin ++ [x.1]) r := by
 cases r with
 | nil => trivial
 | cons y r =>
  have k : ∀ u ∈ fin, u ∈ fin ++ [x.1] := fun u hu => List.mem_append.mpr (.inl hu)
  exact iR (v := x.1) (Path.mono k h.2.2) (by simp)
theorem lQ {v : Nat} (h : Seen nodes su fin ks) (hv : v ∉ fin ++ ks) (hn : v ∈ nodes) : Seen nodes su fin (v :: ks) := by
 refine ⟨fun u hu => ?_, ?_, h.topo⟩
 ·rcases List.mem_append.mp hu with hu | hu
  ·exact h.sub u (List.mem_append.mpr (.inl hu))
  ·rcases List.mem_cons.mp hu with rfl | hu
   ·exact hn
   ·exact h.sub u (List.mem_append.mpr (.inr hu))
 ·have e : (fin ++ v :: ks).Perm (v :: (fin ++ ks)) := List.perm_middle
  exact e.nodup_iff.mpr (List.nodup_cons.mpr ⟨hv, h.nd⟩)
theorem seen_pop {v : Nat} (h : Seen nodes su fin (v :: ks)) (hs : ∀ u ∈ su v, u ∈ fin) : Seen nodes su (fin ++ [v]) ks := by
 refine ⟨fun u hu => h.sub u ?_, ?_, ?_⟩
 ·simpa [List.append_assoc] using hu
 ·simpa [List.append_assoc] using h.nd
 ·intro a u b e x hx
  rcases List.append_eq_append_iff.mp e with ⟨c, e1, e2⟩ | ⟨c, e1, e2⟩
  ·cases c with
   | nil =>
    simp at e2 e1
    refine bj (e2) ?_; (try clear e2); intro xq3a; subst xq3a; intro _
    rw [e1]; exact hs x hx
   | cons y c => simp at e2
  ·cases c with
   | nil =>
    simp at e2 e1
    refine bj (e2) ?_; (try clear e2); intro xq4a; subst xq4a; intro _
    rw [← e1]; exact hs x hx
   | cons y c =>
    simp only [List.cons_append, List.cons.injEq] at e2
    refine bj (e2) ?_; (try clear e2); intro xq5a; subst xq5a; intro e2
    exact h.topo a u c e1 x hx
theorem iJ {v : Nat} : ∀ {stk : List (Nat × Nat)} {t : Nat}, Path su fin stk t → v ∈ stk.map (·.1) → ∃ C : List Nat, v ∈ C ∧ (∀ c ∈ C, c ∈ stk.map (·.1)) ∧ (∃ d ∈ C, t ∈ su d) ∧ ∀ c ∈ C, c ≠ v → ∃ d ∈ C, c ∈ su d
 | [], _, _, hm => by simp at hm
 | x :: r, t, h, hm => by
  have ht : t ∈ su x.1 := List.mem_of_getElem? h.1.2.1
  by_cases e : x.1 = v
  ·exact ⟨[v], by simp, fun c hc => by rw [List.mem_singleton.mp hc, ← e]; simp, ⟨v, by simp, e ▸ ht⟩, fun c hc n => absurd (List.mem_singleton.mp hc) n⟩
  ·have hm' : v ∈ r.map (·.1) := by
    rcases List.mem_cons.mp hm with q | q
    ·exact absurd q.symm e
    ·exact q
   refine lw (iJ h.2 hm') ?_; intro C h1 h2 xq6d h4
   obtain ⟨d, hd, hd'⟩ := xq6d
   refine ⟨x.1 :: C, .tail _ h1, fun c hc => ?_, ⟨x.1, .head _, ht⟩, fun c hc n => ?_⟩
   ·rcases List.mem_cons.mp hc with rfl | hc
    ·exact .head _
    ·exact .tail _ (h2 c hc)
   ·rcases List.mem_cons.mp hc with rfl | hc
    ·exact ⟨d, .tail _ hd, hd'⟩
    ·refine aJ (h4 c hc n) ?_; intro d' q q'
     exact ⟨d', .tail _ q, q'⟩
theorem ring_of {v : Nat} {stk : List (Nat × Nat)} (h : Path su fin stk v) (hm : v ∈ stk.map (·.1)) : ∃ C : List Nat, C ≠ [] ∧ (∀ c ∈ C, c ∈ stk.map (·.1)) ∧ ∀ c ∈ C, ∃ d ∈ C, c ∈ su d := by
 refine lw (iJ h hm) ?_; intro C h1 h2 h3 h4
 refine ⟨C, (fun e => by rw [e] at h1; cases h1), h2, fun c hc => ?_⟩
 by_cases e : c = v
 ·rw [e]; exact h3
 ·exact h4 c hc e
noncomputable def cost (su : Nat → List Nat) (fin : List Nat) (stk : List (Nat × Nat)) : Nat := (fin.map fun v => (su v).length + 1).sum + (stk.map fun x => x.2 + 1).sum
theorem mG {stk : List (Nat × Nat)} {v : Nat} : cost su fin ((v, 0) :: stk) = cost su fin stk + 1 := by unfold cost; simp; omega
theorem mF {x : Nat × Nat} {r : List (Nat × Nat)} : cost su fin ((x.1, x.2 + 1) :: r) = cost su fin (x :: r) + 1 := by unfold cost; simp; omega
theorem cost_pop {x : Nat × Nat} {r : List (Nat × Nat)} (h : x.2 = (su x.1).length) : cost su (fin ++ [x.1]) r = cost su fin (x :: r) := by unfold cost; simp; omega
theorem jV {α : Type} (f : α → Nat) (c : Nat) : ∀ l : List α, (∀ x ∈ l, f x ≤ c) → (l.map f).sum ≤ c * l.length
 | [], _ => by simp
 | x :: l, h => by
  have h1 := jV f c l fun y hy => h y (.tail _ hy)
  have h2 := h x (.head _)
  rw [List.map_cons, List.sum_cons, List.length_cons, Nat.mul_succ]
  omega
theorem lg : ∀ {stk : List (Nat × Nat)} {v : Nat}, Path su fin stk v → ∀ x ∈ stk, x.2 ≤ (su x.1).length
 | [], _, _ => fun x hx => nomatch hx
 | y :: r, v, h => fun x hx => by
  rcases List.mem_cons.mp hx with rfl | hx
  ·exact h.1.le
  ·exact lg h.2 x hx
theorem cost_le {stk : List (Nat × Nat)} (hs : Seen nodes su fin (stk.map (·.1))) (h5 : ∀ v ∈ nodes, v < 5) (hl : ∀ v, (su v).length ≤ 100) (hp : ∀ x ∈ stk, x.2 ≤ (su x.1).length) : cost su fin stk ≤ 505 := by
 have e1 := jV (fun v => (su v).length + 1) 101 fin fun v _ => by have := hl v; omega
 have e2 := jV (fun x : Nat × Nat => x.2 + 1) 101 stk fun x hx => by have := hl x.1; have := hp x hx; omega
 have e3 := aV 5 _ hs.nd fun v hv => h5 v (hs.sub v hv)
 rw [List.length_append, List.length_map] at e3
 unfold cost
 omega
section
variable {prog : Program} {w : World} {A : Around} {E : Value → Shared → Prop} {s : Shared}
theorem jK {l : Addr} {vs : List Value} {k : Nat} {Q : List Value → Shared → Prop} (hl : s.heap.get? l = some (tupOf vs k)) (hsz : vs.length ≤ sizeLine)
  (h : Q vs { s with heap := (s.heap.push (seqObj "list" #[] 0)).update s.heap.objs.size (Obj.mapSeq (· ++ vs.toArray)) }) :
  wpAny (model prog w) A (collect (.ref l)) Q E s := by
 unfold collect
 refine wpAny_bind (wpAny_runValue (codeAny_builtin entry_proto_collect' ?_))
 show wpAny _ _ (do again (.builtin "list.__iadd__" ⟨[← newList [], .ref l], []⟩)) _ _ s
 refine wpAny_bind (wpAny_newList (wpAny_pure ⟨Code.quiet_builtin _ (by decide +kernel), codeAny_builtin entry_list_iadd' ?_⟩))
 show wpAny _ _ (Builtin.List.listExtendWith (.ref s.heap.objs.size) (.ref l) (.ref s.heap.objs.size)) _ _ { s with heap := s.heap.push (seqObj "list" #[] 0) }
 unfold Builtin.List.listExtendWith
 have ho' : (s.heap.push (seqObj "list" #[] 0)).get? l = some (tupOf vs k) := Heap.get?_push_of_some _ hl
 refine wpAny_bind (wpAny_typeOf (T := "tuple") ⟨_, ho', rfl⟩ ?_)
 have ht : (Value.type "tuple" == Value.type "tuple") = true := by rfl
 rw [if_pos (by rw [ht]; simp)]
 refine wpAny_bind (listItems_at ho' rfl ?_)
 refine wpAny_bind (listItems_at (xs := #[]) (n := 0) (Heap.get?_push_size _ rfl) rfl ?_)
 rw [if_neg (by simp)]
 refine wpAny_bind (listUpdate_at (xs := #[]) (n := 0) (Heap.get?_push_size _ rfl) rfl ?_ (Nat.zero_le _) (by show (#[] ++ vs.toArray).size ≤ sizeLine + 1; simp only [Array.size_append, List.size_toArray, List.length_nil]; omega))
 refine wpAny_pure ?_
 show wpAny (model prog w) A (do
   let o ← load s.heap.objs.size
   match o.data with
   | .seq xs _ => pure xs.toList
   | _ => unsupported "internal:collect") Q E { s with heap := (s.heap.push (seqObj "list" #[] 0)).update s.heap.objs.size (Obj.mapSeq (· ++ vs.toArray)) }
 refine wpAny_bind (wpAny_load (get?_update_seq (Heap.get?_push_size _ rfl) _) ?_)
 show wpAny _ _ (pure ((#[] : Array Value) ++ vs.toArray).toList) Q E _
 rw [show ((#[] : Array Value) ++ vs.toArray).toList = vs by simp]
 exact wpAny_pure h
theorem kd {h₀ : Heap} {L : Addr} {m : Str → Option Value} {news : List (Addr × Obj)} {l : Addr} {vs : List Value} {k : Nat} {ss : List Str} {Q : Value → Shared → Prop}
  (F : Fr h₀ L s.heap m) (N : News h₀ L s.heap news) (hl : (l, tupOf vs k) ∈ news) (hS : StrsAre vs ss) (h64 : vs.length < 64)
  (h : ∀ (h' : Heap) (D : Addr) (vs' : List Value) (ss' : List Str) (e : Nat), Fr h₀ L h' m → News h₀ L h' ((D, listOf vs'.toArray e) :: news) → (∀ p ∈ news, p.1 < D) →
   StrsAre vs' ss' → ss'.Perm ss → sortedS ss' = true → Q (.ref D) { s with heap := h' }) :
  wpAny (model prog w) A (call (.builtin "sorted") [.ref l]) Q E s := by
 have hsl : vs.length ≤ sizeLine := by
  have e0 : sizeLine = 16777216 := rfl
  omega
 refine Calls.call_function_entry kind_sorted plain_sorted entry_sorted (args_sorted1 _) ?_
 unfold Builtin.«sorted»
 refine wpAny_bind (m := checkCount "sorted" 1 1 _) (wpAny_pure ?_)
 refine wpAny_bind (jK (N _ hl).1 hsl ?_)
 refine wpAny_bind (wpAny_newList ?_ hsl)
 have hsz : ((s.heap.push (seqObj "list" #[] 0)).update s.heap.objs.size (Obj.mapSeq (· ++ vs.toArray))).objs.size = s.heap.objs.size + 1 := by
  rw [Heap.size_update, size_push']
 have hoL : (((s.heap.push (seqObj "list" #[] 0)).update s.heap.objs.size (Obj.mapSeq (· ++ vs.toArray))).push (seqObj "list" vs.toArray 0)).get? (s.heap.objs.size + 1) = some (seqObj "list" vs.toArray 0) := by
  rw [← hsz]; exact Heap.get?_push_size _ rfl
 show wpAny _ _ _ _ _ { s with heap := ((s.heap.push (seqObj "list" #[] 0)).update s.heap.objs.size (Obj.mapSeq (· ++ vs.toArray))).push (seqObj "list" vs.toArray 0) }
 rw [hsz]
 refine wpAny_bind (wpAny_holding (wpAny_call_entry slot_list_sort ⟨_, hoL, rfl⟩ entry_list_sort (list_sort_treeK strKind_oneLt hoL hS.keysOf (fun v₁ v₂ rest e => keyKind_strs (by rw [← e]; exact hS)) h64 fun st' a1 a2 => ⟨_, rfl, ?_⟩) (args_list_sort _)))
 refine wpAny_pure ⟨_, rfl, ?_⟩
 refine jQ (sorted_out_str hS a1 a2) ?_; intro ss' h1 h2 h3
 refine aT (sortedAll_at s.heap vs ((arrOf st').map (·.2))) ?_; intro e he
 exact h _ _ ((arrOf st').map (·.2)).toList ss' e (F.kept fun _ _ => sortedAll_old) (N.kept_cons F (fun _ _ => sortedAll_old) (Nat.le_succ _) he) (fun p hp => Nat.lt_succ_of_lt (Heap.lt_size (N p hp).1)) h1 h2 h3
theorem kf {h₀ : Heap} {L : Addr} {m : Str → Option Value} {news : List (Addr × Obj)} {l : Addr} {vs : List Value} {k : Nat} {ss : List Str} {Q : Value → Shared → Prop}
  (F : Fr h₀ L s.heap m) (N : News h₀ L s.heap news) (hl : (l, listOf vs.toArray k) ∈ news) (hS : StrsAre vs ss) (h64 : vs.length < 64)
  (h : ∀ (h' : Heap) (D : Addr) (vs' : List Value) (ss' : List Str) (e : Nat), Fr h₀ L h' m → News h₀ L h' ((D, listOf vs'.toArray e) :: news) → (∀ p ∈ news, p.1 < D) →
   StrsAre vs' ss' → ss'.Perm ss → sortedS ss' = true → Q (.ref D) { s with heap := h' }) :
  wpAny (model prog w) A (call (.builtin "sorted") [.ref l]) Q E s :=
 sorted_N_str F N (News.isList N hl) hS h64 fun h' vs' ss' e F' N' h1 h2 h3 => h h' _ vs' ss' e F' N' (fun p hp => Nat.lt_succ_of_lt (Heap.lt_size (N p hp).1)) h1 h2 h3
end
noncomputable def idx5 (v : Nat) : Nat := [1, 2, 3, 0, 4].getD v 9
theorem nm_lt {u v : Nat} (hu : u < 5) (hv : v < 5) (hne : u ≠ v) (h : ltCps (nm v).cps.toList (nm u).cps.toList = false) : idx5 u < idx5 v := by
 have key : ∀ u v : Fin 5, u ≠ v → ltCps (nm v.1).cps.toList (nm u.1).cps.toList = false → idx5 u.1 < idx5 v.1 := by decide +kernel
 exact key ⟨u, hu⟩ ⟨v, hv⟩ (fun e => hne (congrArg Fin.val e)) h
theorem fw : ∀ (l : List Nat) (p : Nat), p < 5 → (∀ x ∈ l, x < 5) → (p :: l).Nodup → risingS (nm p) (l.map nm) = true → (p :: l).Pairwise (fun a b => idx5 a < idx5 b)
 | [], p, _, _, _, _ => by simp
 | x :: l, p, hp, h5, nd, h => by
  rw [List.nodup_cons] at nd
  rw [List.map_cons] at h
  have h' : (!ltCps (nm x).cps.toList (nm p).cps.toList && risingS (nm x) (l.map nm)) = true := h
  rw [Bool.and_eq_true] at h'
  have ih := fw l x (h5 x (.head _)) (fun y hy => h5 y (.tail _ hy)) nd.2 h'.2
  have hpx : idx5 p < idx5 x := nm_lt hp (h5 x (.head _)) (fun e => nd.1 (e ▸ .head _)) (by simpa using h'.1)
  refine List.pairwise_cons.mpr ⟨fun y hy => ?_, ih⟩
  rcases List.mem_cons.mp hy with rfl | hy
  ·exact hpx
  ·exact Nat.lt_trans hpx (List.rel_of_pairwise_cons ih hy)
theorem kg {l : List Nat} (h5 : ∀ x ∈ l, x < 5) (nd : l.Nodup) (h : sortedS (l.map nm) = true) : l = ord5.filter fun v => decide (v ∈ l) := by
 have hp : l.Pairwise (fun a b => idx5 a < idx5 b) := by
  cases l with
  | nil => exact .nil
  | cons x l => exact fw l x (h5 x (.head _)) (fun y hy => h5 y (.tail _ hy)) nd h
 have ho : ord5.Pairwise (fun a b => idx5 a < idx5 b) := by decide
 have hq := ho.filter fun v => decide (v ∈ l)
 have hm : ∀ v, v ∈ ord5 ↔ v < 5 := by
  intro v
  unfold ord5
  simp
  omega
 have hperm : l.Perm (ord5.filter fun v => decide (v ∈ l)) := by
  refine (List.perm_ext_iff_of_nodup nd ?_).mpr fun v => ?_
  ·exact List.Pairwise.filter _ (show ord5.Pairwise (· ≠ ·) from by decide)
  ·rw [List.mem_filter, hm]
   simp only [decide_eq_true_eq]
   exact ⟨fun hv => ⟨h5 v hv, hv⟩, fun hv => hv.2⟩
 exact hperm.eq_of_pairwise (fun a b _ _ h1 h2 => absurd (Nat.lt_trans h1 h2) (Nat.lt_irrefl _)) hp hq
theorem gA {ss' : List Str} {rs : List Nat} (h5 : ∀ x ∈ rs, x < 5) (nd : rs.Nodup) (hp : ss'.Perm (rs.map nm)) (h : sortedS ss' = true) : ss' = (ord5.filter fun v => decide (v ∈ rs)).map nm := by
 obtain ⟨l, hl, rfl⟩ : ∃ l : List Nat, l.Perm rs ∧ ss' = l.map nm := by
  have key : ∀ (ss : List Str) (ss' : List Str), ss'.Perm ss → ∀ rs : List Nat, ss = rs.map nm → ∃ l : List Nat, l.Perm rs ∧ ss' = l.map nm := by
   intro ss ss' hp
   induction hp with
   | nil =>
    intro rs h
    exact ⟨rs, .refl _, h⟩
   | cons x _ ih =>
    intro rs h
    cases rs with
    | nil => cases h
    | cons r rs =>
     rw [List.map_cons, List.cons.injEq] at h
     refine aJ (ih rs h.2) ?_; intro l h1 h2
     exact ⟨r :: l, h1.cons r, by rw [List.map_cons, h.1, h2]⟩
   | swap x y l =>
    intro rs h
    match rs, h with
    | [], h => cases h
    | [_], h => simp at h
    | r :: r' :: rs, h =>
     simp only [List.map_cons, List.cons.injEq] at h
     exact ⟨r' :: r :: rs, .swap _ _ _, by simp [h.1, h.2.1, h.2.2]⟩
   | trans _ _ ih1 ih2 =>
    intro rs h
    refine aJ (ih2 rs h) ?_; intro l h1 h2
    refine aJ (ih1 l h2) ?_; intro l' h3 h4
    exact ⟨l', h3.trans h1, h4⟩
  exact key _ _ hp rs rfl
 have e := kg (l := l) (fun x hx => h5 x (hl.mem_iff.mp hx)) (hl.nodup_iff.mpr nd) h
 rw [e]
 congr 1
 refine List.filter_congr fun v _ => ?_
 have : (v ∈ ord5.filter fun v => decide (v ∈ l)) ↔ v ∈ rs := by rw [← e]; exact hl.mem_iff
 simp only [hl.mem_iff]
theorem co {nx : List (Addr × Obj)} : ∀ {vs : List Value} {l : List Nat}, StrsAre vs (l.map nm) → DatAll nx vs (l.map fun v => .str (nm v))
 | vs, [], h => by cases h; exact .nil
 | vs, x :: l, h => by
  cases h with
  | cons y t hr => exact .cons (.str _ _) (co hr)
theorem bC {x : Str} {t : Tok} {vs : List Value} {xs : List Str} (h : StrsAre vs xs) : StrsAre (vs ++ [.str x t]) (xs ++ [x]) := h.append' (.cons _ _ .nil)
end
section
open PySem PySem.W PyProof.Rows PySem.Calls PySem.Spec PyProof.Rows.LCg
theorem eC (kvs : List (Str × Value)) (k k' : Str) (x : Value) : valueAt (stored kvs k x) k' = if k' = k then some x else valueAt kvs k' := by
 unfold stored
 by_cases hany : (kvs.any fun kv => decide (kv.1 = k)) = true
 ·rw [if_pos hany]
  have key : ∀ l : List (Str × Value), valueAt (l.map fun kv => if kv.1 = k then (kv.1, x) else kv) k' = if k' = k ∧ (l.any fun kv => decide (kv.1 = k)) = true then some x else valueAt l k' := by
   intro l
   induction l with
   | nil => simp [valueAt]
   | cons p l ih =>
    obtain ⟨a, b⟩ := p
    unfold valueAt at ih ⊢
    rw [List.map_cons, List.find?_cons, List.find?_cons, List.any_cons]
    by_cases ha : a = k
    ·subst ha
     by_cases hk : k' = a
     ·subst hk; simp
     ·have h2 : ¬ a = k' := fun e => hk e.symm
      simp only [if_true, h2, decide_false, hk, false_and, if_false]
      rw [ih]; simp [hk]
    ·by_cases hk : a = k'
     ·subst hk
      simp [ha]
     ·have h2 : (decide ((if (a, b).1 = k then ((a, b).1, x) else (a, b)).1 = k')) = false := by
       rw [if_neg ha]; simpa using hk
      rw [h2]
      have h3 : decide ((a, b).1 = k') = false := by simpa using hk
      rw [h3]
      dsimp only
      have h4 : decide (a = k) = false := by simpa using ha
      first | (rw [ih, h4, Bool.false_or]; done) | (rw [ih]; simp only [h4, Bool.false_or]; done) | (rw [ih, h4]; rfl)
  have e := key kvs
  rw [hany] at e
  simpa using e
 ·rw [if_neg hany]
  have hno : ∀ q ∈ kvs, q.1 ≠ k := fun q hq e => hany (List.any_eq_true.mpr ⟨q, hq, by simpa using e⟩)
  unfold valueAt
  rw [List.find?_append]
  by_cases hk : k' = k
  ·subst hk
   rw [List.find?_eq_none.mpr fun q hq => by simpa using hno q hq]
   simp
  ·rw [if_neg hk]
   have : ¬ k = k' := fun e => hk e.symm
   cases e : List.find? (fun kv => decide (kv.fst = k')) kvs <;> simp [this]
section
variable {prog : Program} {w : World} {A : Around} {s : Shared} {h₀ : Heap} {L : Addr} {m : Str → Option Value} {env : Env} {E : Value → Shared → Prop} {news : List (Addr × Obj)}
theorem dc_zero {x : Str} {p1 p2 px pos : Pos} {scope : Scope} {cl : List (Str × Addr)} {iter : Expr} {l : Addr} {vs : List Value} {nn : Nat} {xs : List Str} {ck} {Q : Value → Shared → Prop} (hh : A.handled = none)
  (F : Fr h₀ L s.heap m) (N : News h₀ L s.heap news) (hl : (l, listOf vs.toArray nn) ∈ news) (hv : StrsAre vs xs) (hsz : vs.length ≤ sizeLine)
  (hclos : closureFor scope env = pure cl) (hcell : ∀ y ∈ scope.names, y.2 ≠ .cell) (hkind : scope.kind = .function)
  (hnames : ∀ y ∈ scope.names, y.2 = .local → scope.names.lookup y.1 = some .local) (hx : scope.names.lookup x = some .local) (hd : (x == ("__debug__" : Str)) = false)
  (hiter : ∀ Q' : Value → Shared → Prop, Q' (.ref l) s → wpAny (model prog w) A (eval iter env) Q' E s)
  (h : ∀ D oD h' tk kvs, Fr h₀ L h' m → News h₀ L h' ((D, oD) :: news) → (∀ p ∈ news, p.1 ≠ D) → oD.IsDictOf (PySem.strKind prog w) kvs → (∀ k, k ∈ xs → ∃ t, valueAt kvs k = some (.int 0 t)) → kvs.length ≤ vs.length → Q (.ref D) { s with heap := h', toks := tk })
  (hs : ∀ x, foldedSetIterable iter env x = pure x := by intro _; rfl) :
  wpAny (model prog w) A (eval (.DictComp (.Name x p1) (.Constant (.int 0) ck p2) [⟨.Name x px, iter, [], 0⟩] scope pos) env) Q E s := by
 have hls := News.isList N hl
 have hlt : l < s.heap.objs.size := Heap.lt_size (N _ hl).1
 refine wpAny_DictComp_free (PySem.strKind prog w) (fun _ => true) (fun v k => ∃ t, v = .str k t) (fun _ y => ∃ t, y = .int 0 t) hclos hcell hkind hnames hx (hiter _ (wpAny_pyIter_list hls ?_)) hs
 refine ⟨s.heap.objs.size, _, _, _, _, _, rfl, Walks.list hh _ l (Nat.ne_of_lt hlt) _, by rw [List.size_toArray]; exact hsz, ⟨⟨_, Heap.get?_push_size _ rfl, rfl, rfl⟩, hls.push _⟩, ?_, ?_, ?_⟩
 ·intro b hb
  show b < (s.heap.push _).objs.size
  rw [Heap.size_push]
  rcases List.mem_cons.mp hb with rfl | hb
  ·exact Nat.lt_succ_self _
  ·rw [List.mem_singleton.mp hb]; exact Nat.lt_succ_of_lt hlt
 ·refine ⟨fun C i v s₃ m₃ E' _ _ _ _ => wpAny_tests_nil ⟨rfl, ⟨_, _, rfl, fun _ _ e => e⟩⟩, fun C i v s₃ m₃ E' hP _ hn hm _ => ?_, fun C i v s₃ m₃ E' _ _ _ _ _ => wpAny_Constant_int ⟨⟨_, rfl⟩, ⟨_, _, rfl, fun _ _ e => e⟩⟩⟩
  refine aT (Array.getElem?_eq_some_iff.mp hP) ?_; intro hi e
  have hmem : v ∈ vs := by rw [← e]; simp
  refine bX (hv.all v hmem) ?_; intro y t xq2c; subst xq2c
  refine wpAny_Name (wpAny_loadName_local (by simp [compEnvC, relabel, hkind]) (lookup_relabel_local hx) hn hm ⟨⟨y, ?_, t, rfl⟩, ⟨_, _, rfl, fun _ _ e => e⟩⟩) hd
  exact strKind_is _ _ _ _
 ·intro D h' tk kvs vs' hD hdict hlen hP hF hk
  refine aJ (Heap.dictOf_iff.mp hdict) ?_; intro oD hoD hIs
  have evs : vs' = vs := by
   apply List.ext_getElem?
   intro i
   by_cases hi : i < vs'.length
   ·have h1 := List.getElem?_eq_getElem hi
    have h2 := hP i _ h1
    rw [h1]
    have : vs.toArray[i]? = vs[i]? := by simp
    rw [← this]; exact h2.symm
   ·rw [List.getElem?_eq_none (by omega), List.getElem?_eq_none (by rw [List.size_toArray] at hlen; omega)]
  subst evs
  rw [List.filter_eq_self.mpr (fun _ _ => rfl)] at hF
  have old : ∀ b o, s.heap.get? b = some o → h'.get? b = some o := fun b o e => by
   refine hk b o ?_ (Heap.get?_push_of_some _ e)
   intro hm
   rw [List.mem_singleton.mp hm] at e
   exact absurd (Heap.lt_size e) (Nat.lt_irrefl _)
  have hDn : s.heap.get? D = none := by
   cases e : s.heap.get? D with
   | none => rfl
   | some o =>
    have := Heap.get?_push_of_some { cls := .type "list_iterator", data := .fields #[.ref l, .int 0 0] } e
    rw [hD] at this; cases this
  have hD₀ : h₀.get? D = none := by
   cases e : h₀.get? D with
   | none => rfl
   | some o => have := F.keep D o e; rw [hDn] at this; cases this
  have hDL : D ≠ L := fun e => by
   refine cq (F.ns) ?_; intro o _ _ ho _
   rw [← e, hDn] at ho; cases ho
  refine h D oD h' tk kvs (F.keeps old) (fun p hp => ?_) (fun p hp e => ?_) hIs ?_ hF.length_le
  ·rcases List.mem_cons.mp hp with rfl | hp
   ·exact ⟨hoD, hDL, hD₀⟩
   ·exact ⟨old _ _ (N p hp).1, (N p hp).2⟩
  ·have := (N p hp).1
   rw [e, hDn] at this; cases this
  ·have key : ∀ {l : List Value} {kvs : List (Str × Value)}, StoredAll (fun v k => ∃ t, v = Value.str k t) (fun _ y => ∃ t, y = Value.int 0 t) l kvs → ∀ k t, Value.str k t ∈ l → ∃ t, valueAt kvs k = some (.int 0 t) := by
    intro l kvs hS
    induction hS with
    | nil => intro k t hm; cases hm
    | snoc hS' hk' hy ih =>
     intro k t hm
     rw [eC]
     refine aT (hk') ?_; (try clear hk'); intro t1 e1
     refine aT (hy) ?_; (try clear hy); intro t2 e2
     split
     ·exact ⟨t2, by rw [e2]⟩
     ·rename_i hne
      rcases List.mem_append.mp hm with hm | hm
      ·exact ih k t hm
      ·have := List.mem_singleton.mp hm
       rw [e1] at this
       injection this with a b
       exact absurd a hne
   intro k hkx
   obtain ⟨t, ht⟩ : ∃ t, Value.str k t ∈ vs' := by
    have gen : ∀ {vs : List Value} {xs : List Str}, StrsAre vs xs → k ∈ xs → ∃ t, Value.str k t ∈ vs := by
     intro vs xs hS
     induction hS with
     | nil => intro hm; cases hm
     | cons y t _ ih =>
      intro hm
      rcases List.mem_cons.mp hm with rfl | hm
      ·exact ⟨t, .head _⟩
      ·refine aT (ih hm) ?_; intro t' h'
       exact ⟨t', .tail _ h'⟩
    exact gen hv hkx
   exact key hF k t ht
end
noncomputable abbrev bo : Obj := { cls := .type "cell", data := .cell none }
section
variable {prog : Program} {w : World} {A : Around} {s s₁ : Shared} {h₀ : Heap} {L : Addr} {m : Str → Option Value} {env : Env} {E : Value → Shared → Prop}
theorem iL {scope : Scope} {globals : Addr} {cl : List (Str × Addr)} {qual : Str} {x : Str} {outer : Env} {Q : Env → Shared → Prop}
  (hc : ∀ n, cellsFrom n scope.names cl = (x, n) :: cl) (hp : ∀ h, pushCells h scope.names = h.push bo)
  (hQ : Q { scope, locals := s.heap.objs.size, globals, cells := (x, s.heap.objs.size + 1) :: cl, qual, func := none, code := outer.code, frame := outer.frame, builtins := outer.builtins } { s with heap := (s.heap.push { cls := .type "dict", data := .dict #[] }).push bo }) :
  wpAny (model prog w) A (newFunctionEnv scope globals cl [] qual none .none (some outer)) Q E s := by
 simp only [newFunctionEnv, Option.isSome_some, if_true]
 refine wpAny_bind (wpAny_alloc ?_)
 refine wpAny_bind (wpAny_layCells _ (fun name kind cells => by cases hkc : kind == NameKind.cell <;> simp [hkc]) _ _ _ _ ?_)
 rw [hc, hp]
 rw [show ({ s with heap := s.heap.push { cls := .type "dict", data := .dict #[] } } : Shared).heap.objs.size = s.heap.objs.size + 1 from Heap.size_push ..]
 simp only [List.forIn_nil]
 exact wpAny_bind (wpAny_pure (wpAny_pure hQ))
inductive COutCI (h₀ : Heap) (L : Addr) (m : Str → Option Value) (gS : Array GenState) (dS : Drawn) (oS : OsState) (I : Addr) (oI : Obj) (C D c : Addr) (ys : List Value) (J : List (Addr × Obj) → Prop) (s₃ : Shared) : Prop where
 | mk : ∀ h' tk' nx' oC' m₂' oc' v', (s₃ = ⟨h', gS, dS, tk', oS⟩) → (NsObj oC' m₂') → (oc'.data = .cell v') → (Fr h₀ L h' m) → (News h₀ L h' ((I, oI) :: (C, oC') :: (D, lst ys) :: (c, oc') :: nx')) → ((∀ p ∈ nx', p.1 ≠ I ∧ p.1 ≠ C ∧ p.1 ≠ D ∧ p.1 ≠ c)) → (J nx') → COutCI h₀ L m gS dS oS I oI C D c ys J s₃
noncomputable def COutC (h₀ : Heap) (L : Addr) (m : Str → Option Value) (s : Shared) (I : Addr) (oI : Obj) (C D c : Addr) (ys : List Value) (J : List (Addr × Obj) → Prop) (s₃ : Shared) : Prop := COutCI h₀ L m s.gens s.drawn s.os I oI C D c ys J s₃
noncomputable def dJ (prog : Program) (w : World) (A : Around) (s : Shared) (h₀ : Heap) (L : Addr) (m : Str → Option Value) (env : Env) (E : Value → Shared → Prop) (elt : Expr) (iter : Expr) (x : Str) (px : Pos) (ifs : List Expr) (scope : Scope) (cl : List (Prod Str Addr)) (pos : Pos) (I : Addr) (fp : List Addr) (src : List (Prod Addr Obj)) (n : Nat) (P : Nat → Value → Prop) (St : Nat → Heap → Prop) (news : List (Prod Addr Obj)) (RR : Value → Addr → Result → Shared → Prop) (J : Nat → List Value → List (Prod Addr Obj) → Prop) : Prop := ∀ (W : Walks prog w A I fp [I] n P St) (hIo : ∀ i h, St i h → ∃ o, h.get? I = some o) (hfp : ∀ b ∈ fp, b = I ∨ ∃ o, (b, o) ∈ src) (hlt : ∀ b ∈ fp, b < s.heap.objs.size) (hc : ∀ n, cellsFrom n scope.names cl = (x, n) :: cl) (hp : ∀ h, pushCells h scope.names = h.push bo) (hkind : scope.kind = .function) (hxk : (relabel scope env).names.lookup x = some .cell) (hst : St 0 s.heap) (F : Fr h₀ L s.heap m) (N : News h₀ L s.heap news) (hIL : L ≠ I) (hI₀ : h₀.get? I = none) (off : ∀ p ∈ news, p.1 ≠ I) (hsz : n ≤ sizeLine) (hsrc : ∀ i ys nx, J i ys nx → ∀ p ∈ src, p ∈ nx) (hJ : J 0 [] news) (turn : ∀ i v ys nx oI C oC D c oc m₂ h tk (E' : Value → Shared → Prop), i < n → P i v → J i ys nx → NsObj oC m₂ → oc.data = .cell (some v) → Fr h₀ L h m → News h₀ L h ((I, oI) :: (C, oC) :: (D, lst ys) :: (c, oc) :: nx) → (∀ p ∈ nx, p.1 ≠ I ∧ p.1 ≠ C ∧ p.1 ≠ D ∧ p.1 ≠ c) → (I ≠ C ∧ I ≠ D ∧ I ≠ c ∧ C ≠ D ∧ C ≠ c ∧ D ≠ c) →
   wpAny (model prog w) A (bh ifs (compEnvC scope ((x, c) :: cl) C env)) (fun ok s₃ =>
    if ok = true then wpAny (model prog w) A (eval elt (compEnvC scope ((x, c) :: cl) C env)) (fun y s₄ => COutC h₀ L m s I oI C D c ys (J (i + 1) (ys ++ [y])) s₄) E' s₃ else COutC h₀ L m s I oI C D c ys (J (i + 1) ys) s₃) E' { s with heap := h, toks := tk }) (done : ∀ D C c oC oc m₂ ys nx h tk, J n ys nx → NsObj oC m₂ → Fr h₀ L h m → News h₀ L h ((C, oC) :: (D, lst ys) :: (c, oc) :: nx) → (∀ p ∈ (D, lst ys) :: (c, oc) :: nx, p.1 ≠ C) → (∀ p ∈ nx, p.1 ≠ D) → RR (.ref D) C (.ok .next) { s with heap := h, toks := tk }), wpAny (model prog w) A (newList []) (fun acc s₃ => wpAny (model prog w) A (newFunctionEnv scope env.globals cl [] env.qual none .none (some env)) (fun cenv s₄ =>
   codeAny (model prog w) A (.compStart (.ListComp elt [⟨.Name x px, iter, ifs, 0⟩] scope pos) 0 (.ref I) acc { cenv with scope := relabel scope env }) (RR acc cenv.locals) s₄) E s₃) E s
noncomputable def al : ((((Program × World) × Around × Shared) × (Heap × Addr) × (Str → Option Value)) × ((Env × (Value → Shared → Prop)) × Expr) × (Expr × Str) × Pos) × ((((List Expr) × Scope) × (List (Prod Str Addr)) × Pos) × (Addr × (List Addr)) × (List (Prod Addr Obj))) × ((Nat × (Nat → Value → Prop)) × (Nat → Heap → Prop)) × ((List (Prod Addr Obj)) × (Value → Addr → Result → Shared → Prop)) × (Nat → List Value → List (Prod Addr Obj) → Prop) := @Classical.epsilon _ (by have := neW; have := neA; have := neS; infer_instance) fun x => ¬ u26 dJ x
theorem kC : u26 dJ al := by
 intro W hIo hfp hlt hc hp hkind hxk hst F N hIL hI₀ off hsz hsrc hJ turn done
 refine wpAny_newObj_type (iL hc hp ?_)
 dsimp only
 have hIf : (al.2.1.2.1.1) ∈ (al.2.1.2.1.2) := W.sub (al.2.1.2.1.1) (List.mem_singleton.mpr rfl)
 have hIlt : (al.2.1.2.1.1) < (al.1.1.1.2.2).heap.objs.size := hlt (al.2.1.2.1.1) hIf
 have s1 : ((al.1.1.1.2.2).heap.push { cls := .type "list", dict := none, data := .seq ([] : List Value).toArray }).objs.size = (al.1.1.1.2.2).heap.objs.size + 1 := Heap.size_push ..
 have s2 : (((al.1.1.1.2.2).heap.push { cls := .type "list", dict := none, data := .seq ([] : List Value).toArray }).push { cls := .type "dict", data := .dict #[] }).objs.size = (al.1.1.1.2.2).heap.objs.size + 1 + 1 := by rw [Heap.size_push, s1]
 have hacc0 : ((al.1.1.1.2.2).heap.push { cls := .type "list", dict := none, data := .seq ([] : List Value).toArray }).get? (al.1.1.1.2.2).heap.objs.size = some (lst []) := Heap.get?_push_size _ rfl
 have hns0 := Heap.Ns.new ((al.1.1.1.2.2).heap.push { cls := .type "list", dict := none, data := .seq ([] : List Value).toArray }) (.type "dict")
 have hcl0 : ((((al.1.1.1.2.2).heap.push { cls := .type "list", dict := none, data := .seq ([] : List Value).toArray }).push { cls := .type "dict", data := .dict #[] }).push bo).get? (((al.1.1.1.2.2).heap.push { cls := .type "list", dict := none, data := .seq ([] : List Value).toArray }).push { cls := .type "dict", data := .dict #[] }).objs.size = some bo := Heap.get?_push_size _ rfl
 rw [s2] at hcl0
 rw [s1] at hns0 ⊢
 have old : ∀ b o, (al.1.1.1.2.2).heap.get? b = some o → ((((al.1.1.1.2.2).heap.push { cls := .type "list", dict := none, data := .seq ([] : List Value).toArray }).push { cls := .type "dict", data := .dict #[] }).push bo).get? b = some o := fun b o e => Heap.get?_push_of_some _ (Heap.get?_push_of_some _ (Heap.get?_push_of_some _ e))
 have hacc := Heap.get?_push_of_some bo (Heap.get?_push_of_some { cls := .type "dict", data := .dict #[] } hacc0)
 have hns₁ := hns0.keeps (h' := (((al.1.1.1.2.2).heap.push { cls := .type "list", dict := none, data := .seq ([] : List Value).toArray }).push { cls := .type "dict", data := .dict #[] }).push bo) fun b o e => Heap.get?_push_of_some _ e
 have below : ∀ b, b < (al.1.1.1.2.2).heap.objs.size → b ≠ (al.1.1.1.2.2).heap.objs.size ∧ b ≠ (al.1.1.1.2.2).heap.objs.size + 1 ∧ b ≠ (al.1.1.1.2.2).heap.objs.size + 1 + 1 := fun b hb => ⟨Nat.ne_of_lt hb, Nat.ne_of_lt (Nat.lt_succ_of_lt hb), Nat.ne_of_lt (Nat.lt_succ_of_lt (Nat.lt_succ_of_lt hb))⟩
 have hst₁ : (al.2.2.1.2) 0 _ := W.frame _ _ _ hst fun b _ o e => old b o e
 have fresh₀ : ∀ a, (al.1.1.1.2.2).heap.objs.size ≤ a → (al.1.1.2.1.1).get? a = none := fun a ha => by
  cases e : (al.1.1.2.1.1).get? a with
  | none => rfl
  | some o' => exact absurd (Heap.lt_size (F.keep a o' e)) (Nat.not_lt.mpr ha)
 have hLlt : (al.1.1.2.1.2) < (al.1.1.1.2.2).heap.objs.size := F.ns.lt
 have bL := below (al.1.1.2.1.2) hLlt
 have bI := below (al.2.1.2.1.1) hIlt
 have hD₀ := fresh₀ _ (Nat.le_refl _)
 have hC₀ := fresh₀ ((al.1.1.1.2.2).heap.objs.size + 1) (Nat.le_succ _)
 have hc₀ := fresh₀ ((al.1.1.1.2.2).heap.objs.size + 1 + 1) (Nat.le_succ_of_le (Nat.le_succ _))
 have hDC : (al.1.1.1.2.2).heap.objs.size ≠ (al.1.1.1.2.2).heap.objs.size + 1 := Nat.ne_of_lt (Nat.lt_succ_self _)
 have hDc : (al.1.1.1.2.2).heap.objs.size ≠ (al.1.1.1.2.2).heap.objs.size + 1 + 1 := Nat.ne_of_lt (Nat.lt_succ_of_lt (Nat.lt_succ_self _))
 have hCc : (al.1.1.1.2.2).heap.objs.size + 1 ≠ (al.1.1.1.2.2).heap.objs.size + 1 + 1 := Nat.ne_of_lt (Nat.lt_succ_self _)
 have ltN : ∀ p ∈ (al.2.2.2.1.1), p.1 < (al.1.1.1.2.2).heap.objs.size := fun p hp => Heap.lt_size (N p hp).1
 have bN : ∀ p ∈ (al.2.2.2.1.1), p.1 ≠ (al.1.1.1.2.2).heap.objs.size ∧ p.1 ≠ (al.1.1.1.2.2).heap.objs.size + 1 ∧ p.1 ≠ (al.1.1.1.2.2).heap.objs.size + 1 + 1 := fun p hp => below _ (ltN p hp)
 show codeAny (model (al.1.1.1.1.1) (al.1.1.1.1.2)) (al.1.1.1.2.1) (.compStart (.ListComp (al.1.2.1.2) [⟨.Name (al.1.2.2.1.2) (al.1.2.2.2), (al.1.2.2.1.1), (al.2.1.1.1.1), 0⟩] (al.2.1.1.1.2) (al.2.1.1.2.2)) 0 (.ref (al.2.1.2.1.1)) (.ref (al.1.1.1.2.2).heap.objs.size) (compEnvC (al.2.1.1.1.2) (((al.1.2.2.1.2), (al.1.1.1.2.2).heap.objs.size + 1 + 1) :: (al.2.1.1.2.1)) ((al.1.1.1.2.2).heap.objs.size + 1) (al.1.2.1.1.1))) ((al.2.2.2.1.2) (.ref (al.1.1.1.2.2).heap.objs.size) ((al.1.1.1.2.2).heap.objs.size + 1)) _
 generalize hHH : (((al.1.1.1.2.2).heap.push { cls := .type "list", dict := none, data := .seq ([] : List Value).toArray }).push { cls := .type "dict", data := .dict #[] }).push bo = h₁ at *
 clear hHH hacc0 hns0 s1 s2
 generalize hcd : (al.1.1.1.2.2).heap.objs.size + 1 + 1 = c at *
 generalize hCd : (al.1.1.1.2.2).heap.objs.size + 1 = C at *
 generalize hDd : (al.1.1.1.2.2).heap.objs.size = D at *
 have loop : ∀ s₃ : Shared, s₃ = { (al.1.1.1.2.2) with heap := h₁ } →
   codeAny (model (al.1.1.1.1.1) (al.1.1.1.1.2)) (al.1.1.1.2.1) (.compLoop (.ListComp (al.1.2.1.2) [⟨.Name (al.1.2.2.1.2) (al.1.2.2.2), (al.1.2.2.1.1), (al.2.1.1.1.1), 0⟩] (al.2.1.1.1.2) (al.2.1.1.2.2)) 0 (.ref (al.2.1.2.1.1)) (.ref D) (compEnvC (al.2.1.1.1.2) (((al.1.2.2.1.2), c) :: (al.2.1.1.2.1)) C (al.1.2.1.1.1))) ((al.2.2.2.1.2) (.ref D) C) s₃ := by
  rintro s₃ rfl
  refine loopJ (h₀ := (al.1.1.2.1.1)) (L := (al.1.1.2.1.2)) (m := (al.1.1.2.2)) (C := C) (src := (al.2.1.2.2)) (news := (D, lst []) :: (c, bo) :: (al.2.2.2.1.1)) rfl rfl rfl (lc (al.1.2.1.2) (.Name (al.1.2.2.1.2) (al.1.2.2.2)) (al.1.2.2.1.1) (al.2.1.1.1.1) (al.2.1.1.1.2) (al.2.1.1.2.2) (.ref (al.2.1.2.1.1)) (.ref D) (compEnvC (al.2.1.1.1.2) (((al.1.2.2.1.2), c) :: (al.2.1.1.2.1)) C (al.1.2.1.1.1))) W hIo hfp (fun _ _ _ _ _ _ h => wpAny_pure h)
   (fun i nx => ∃ ys oc v₀ nx', nx = (D, lst ys) :: (c, oc) :: nx' ∧ oc.data = .cell v₀ ∧ ys.length ≤ i ∧ (∀ p ∈ nx', p.1 ≠ D ∧ p.1 ≠ c) ∧ (al.2.2.2.2) i ys nx') ?_ hIL hI₀ (Ne.symm bL.2.1) hC₀ bI.2.1 hst₁ (F.keeps old) ?_ ?_ hns₁ ⟨[], bo, none, (al.2.2.2.1.1), rfl, rfl, Nat.le_refl _, fun p hp => ⟨(bN p hp).1, (bN p hp).2.2⟩, hJ⟩ ?_ ?_
  ·rintro i nx ⟨ys, oc, v₀, nx', rfl, _, _, _, hj⟩ p hp
   exact .tail _ (.tail _ (hsrc i ys nx' hj p hp))
  ·intro p hp
   rcases List.mem_cons.mp hp with rfl | hp
   ·exact ⟨hacc, Ne.symm bL.1, hD₀⟩
   ·rcases List.mem_cons.mp hp with rfl | hp
    ·exact ⟨hcl0, Ne.symm bL.2.2, hc₀⟩
    ·exact ⟨old _ _ (N p hp).1, (N p hp).2⟩
  ·intro p hp
   rcases List.mem_cons.mp hp with rfl | hp
   ·exact ⟨Ne.symm bI.1, hDC⟩
   ·rcases List.mem_cons.mp hp with rfl | hp
    ·exact ⟨Ne.symm bI.2.2, Ne.symm hCc⟩
    ·exact ⟨off p hp, (bN p hp).2.1⟩
  ·rintro i v nx oI oC m₃ h tk E' hi hP ⟨ys, oc, v₀, nx', rfl, hoc, hyl, hoD, hj⟩ hoC F' N' off'
   have hcm := N' _ (.tail _ (.tail _ (.tail _ (.head _))))
   refine wpAny_assign_Name (wpAny_storeName_cell (c := c) (by simp [compEnvC, relabel, hkind]) hxk (by simp [compEnvC]) ⟨oc, hcm.1, hoc⟩ fun h3 hv3 hs3 => ?_)
   refine aJ (hv3) ?_; (try clear hv3); intro oc3 hoc3 hd3
   have offx : ∀ p ∈ nx', p.1 ≠ (al.2.1.2.1.1) ∧ p.1 ≠ C ∧ p.1 ≠ D ∧ p.1 ≠ c := fun p hp => ⟨(off' p (.tail _ (.tail _ hp))).1, (off' p (.tail _ (.tail _ hp))).2, (hoD p hp).1, (hoD p hp).2⟩
   have N3 : News (al.1.1.2.1.1) (al.1.1.2.1.2) h3 (((al.2.1.2.1.1), oI) :: (C, oC) :: (D, lst ys) :: (c, oc3) :: nx') := fun p hp => by
    rcases List.mem_cons.mp hp with rfl | hp
    ·exact ⟨hs3.extBut _ _ bI.2.2 (N' _ (.head _)).1, (N' _ (.head _)).2⟩
    ·rcases List.mem_cons.mp hp with rfl | hp
     ·exact ⟨hs3.extBut _ _ hCc (N' _ (.tail _ (.head _))).1, (N' _ (.tail _ (.head _))).2⟩
     ·rcases List.mem_cons.mp hp with rfl | hp
      ·exact ⟨hs3.extBut _ _ hDc (N' _ (.tail _ (.tail _ (.head _)))).1, (N' _ (.tail _ (.tail _ (.head _)))).2⟩
      ·rcases List.mem_cons.mp hp with rfl | hp
       ·exact ⟨hoc3, hcm.2⟩
       ·have z := N' p (.tail _ (.tail _ (.tail _ (.tail _ hp))))
        exact ⟨hs3.extBut _ _ (offx p hp).2.2.2 z.1, z.2⟩
   refine wpAny_mono (turn i v ys nx' oI C oC D c oc3 m₃ h3 tk E' hi hP hj hoC hd3 (F'.change hs3 hcm.2.1 hcm.2.2) N3 offx ⟨bI.2.1, bI.1, bI.2.2, Ne.symm hDC, hCc, hDc⟩) (fun ok s₃ h₃ => ?_) fun _ _ y => y
   have offD : ∀ {oc' : Obj} {l : List Value} {nx₄ : List (Addr × Obj)}, (∀ p ∈ nx₄, p.1 ≠ (al.2.1.2.1.1) ∧ p.1 ≠ C ∧ p.1 ≠ D ∧ p.1 ≠ c) → ∀ p ∈ (D, lst l) :: (c, oc') :: nx₄, p.1 ≠ (al.2.1.2.1.1) ∧ p.1 ≠ C := fun a4 p hp => by
    rcases List.mem_cons.mp hp with rfl | hp
    ·exact ⟨Ne.symm bI.1, hDC⟩
    ·rcases List.mem_cons.mp hp with rfl | hp
     ·exact ⟨Ne.symm bI.2.2, Ne.symm hCc⟩
     ·exact ⟨(a4 p hp).1, (a4 p hp).2.1⟩
   cases ok with
   | false =>
    obtain ⟨h₄, tk₄, nx₄, oC₄, m₄, oc₄, v₄, rfl, a1, ac, a2, a3, a4, a5⟩ := h₃
    exact ⟨h₄, tk₄, (D, lst ys) :: (c, oc₄) :: nx₄, oC₄, m₄, rfl, a1, a2, a3, offD a4, ys, oc₄, v₄, nx₄, rfl, ac, Nat.le_succ_of_le hyl, fun p hp => ⟨(a4 p hp).2.2.1, (a4 p hp).2.2.2⟩, a5⟩
   | true =>
    refine wpAny_bind (wpAny_mono h₃ (fun y s₄ h₄ => ?_) fun _ _ y => y)
    obtain ⟨h₄, tk₄, nx₄, oC₄, m₄, oc₄, v₄, rfl, a1, ac, a2, a3, a4, a5⟩ := h₄
    have zD := (a3 _ (.tail _ (.tail _ (.head _)))).1
    refine wpAny_bind (append_at (hsz := by show ys.toArray.size ≤ sizeLine; rw [List.size_toArray]; omega) zD fun h₅ hs₅ hD₅ => wpAny_pure ?_)
    refine ⟨h₅, tk₄, (D, lst (ys ++ [y])) :: (c, oc₄) :: nx₄, oC₄, m₄, rfl, a1, a2.change hs₅ (Ne.symm bL.1) hD₀, ?_, offD a4, ys ++ [y], oc₄, v₄, nx₄, rfl, ac, by rw [List.length_append, List.length_singleton]; omega, fun p hp => ⟨(a4 p hp).2.2.1, (a4 p hp).2.2.2⟩, a5⟩
    intro p hp
    rcases List.mem_cons.mp hp with rfl | hp
    ·exact ⟨hs₅.extBut _ _ bI.1 (a3 _ (.head _)).1, (a3 _ (.head _)).2⟩
    ·rcases List.mem_cons.mp hp with rfl | hp
     ·exact ⟨hs₅.extBut _ _ (Ne.symm hDC) (a3 _ (.tail _ (.head _))).1, (a3 _ (.tail _ (.head _))).2⟩
     ·rcases List.mem_cons.mp hp with rfl | hp
      ·exact ⟨hD₅.trans (congrArg some (lst_snoc ys y)), Ne.symm bL.1, hD₀⟩
      ·have z := a3 p (.tail _ (.tail _ (.tail _ hp)))
       refine ⟨hs₅.extBut _ _ ?_ z.1, z.2⟩
       rcases List.mem_cons.mp hp with rfl | hp
       ·exact Ne.symm hDc
       ·exact (a4 p hp).2.2.1
  ·rintro nx oC m₃ h tk ⟨ys, oc, v₀, nx', rfl, _, hyl, hoD, hj⟩ hoC F' N' off'
   exact done D C c oC oc m₃ ys nx' h tk hj hoC F' N' (fun p hp => (off' p hp).2) fun p hp => (hoD p hp).1
 exact codeAny_compStart_list (loop _ rfl) (W.self 0 _ _ _ hst₁ (loop _ rfl))
theorem lcBlockC {elt iter : Expr} {x : Str} {px : Pos} {ifs : List Expr} {scope : Scope} {cl : List (Str × Addr)} {pos : Pos} {I : Addr} {fp : List Addr} {src : List (Addr × Obj)} {n : Nat} {P : Nat → Value → Prop} {St : Nat → Heap → Prop} {news : List (Addr × Obj)} {RR : Value → Addr → Result → Shared → Prop}
  (W : Walks prog w A I fp [I] n P St) (hIo : ∀ i h, St i h → ∃ o, h.get? I = some o) (hfp : ∀ b ∈ fp, b = I ∨ ∃ o, (b, o) ∈ src) (hlt : ∀ b ∈ fp, b < s.heap.objs.size)
  (hc : ∀ n, cellsFrom n scope.names cl = (x, n) :: cl) (hp : ∀ h, pushCells h scope.names = h.push bo) (hkind : scope.kind = .function) (hxk : (relabel scope env).names.lookup x = some .cell) (hst : St 0 s.heap)
  (F : Fr h₀ L s.heap m) (N : News h₀ L s.heap news) (hIL : L ≠ I) (hI₀ : h₀.get? I = none) (off : ∀ p ∈ news, p.1 ≠ I) (hsz : n ≤ sizeLine)
  (J : Nat → List Value → List (Addr × Obj) → Prop) (hsrc : ∀ i ys nx, J i ys nx → ∀ p ∈ src, p ∈ nx) (hJ : J 0 [] news)
  (turn : ∀ i v ys nx oI C oC D c oc m₂ h tk (E' : Value → Shared → Prop), i < n → P i v → J i ys nx → NsObj oC m₂ → oc.data = .cell (some v) → Fr h₀ L h m → News h₀ L h ((I, oI) :: (C, oC) :: (D, lst ys) :: (c, oc) :: nx) → (∀ p ∈ nx, p.1 ≠ I ∧ p.1 ≠ C ∧ p.1 ≠ D ∧ p.1 ≠ c) → (I ≠ C ∧ I ≠ D ∧ I ≠ c ∧ C ≠ D ∧ C ≠ c ∧ D ≠ c) →
   wpAny (model prog w) A (bh ifs (compEnvC scope ((x, c) :: cl) C env)) (fun ok s₃ =>
    if ok = true then wpAny (model prog w) A (eval elt (compEnvC scope ((x, c) :: cl) C env)) (fun y s₄ => COutC h₀ L m s I oI C D c ys (J (i + 1) (ys ++ [y])) s₄) E' s₃ else COutC h₀ L m s I oI C D c ys (J (i + 1) ys) s₃) E' { s with heap := h, toks := tk })
  (done : ∀ D C c oC oc m₂ ys nx h tk, J n ys nx → NsObj oC m₂ → Fr h₀ L h m → News h₀ L h ((C, oC) :: (D, lst ys) :: (c, oc) :: nx) → (∀ p ∈ (D, lst ys) :: (c, oc) :: nx, p.1 ≠ C) → (∀ p ∈ nx, p.1 ≠ D) → RR (.ref D) C (.ok .next) { s with heap := h, toks := tk }) :
  wpAny (model prog w) A (newList []) (fun acc s₃ => wpAny (model prog w) A (newFunctionEnv scope env.globals cl [] env.qual none .none (some env)) (fun cenv s₄ =>
   codeAny (model prog w) A (.compStart (.ListComp elt [⟨.Name x px, iter, ifs, 0⟩] scope pos) 0 (.ref I) acc { cenv with scope := relabel scope env }) (RR acc cenv.locals) s₄) E s₃) E s := @aO _ _ (u26 dJ) kC (((((prog, w), (A, s)), ((h₀, L), m)), (((env, E), elt), ((iter, x), px))), ((((ifs, scope), (cl, pos)), ((I, fp), src)), (((n, P), St), ((news, RR), J)))) W hIo hfp hlt hc hp hkind hxk hst F N hIL hI₀ off hsz hsrc hJ turn done
theorem LC_asgC {elt iter : Expr} {x y : Str} {px py : Pos} {ifs : List Expr} {scope : Scope} {cl : List (Str × Addr)} {pos : Pos} {fp : List Addr} {src : List (Addr × Obj)} {n : Nat} {P : Nat → Value → Prop} {St : Nat → Heap → Prop} {oI : Obj} {xv : Value} {news : List (Addr × Obj)} {Q : Shared → Prop} (hL : env.locals = L) (S : SrcW prog w A s₁ xv n P src fp St oI)
  (hc : ∀ n, cellsFrom n scope.names cl = (x, n) :: cl) (hp : ∀ h, pushCells h scope.names = h.push bo) (hkind : scope.kind = .function) (hxk : (relabel scope env).names.lookup x = some .cell) (hy : env.kindOf y = some .local) (hpp : (env.scope.kind == .class || (env.scope.kind == .module && env.locals != env.globals)) = false)
  (F : Fr h₀ L s₁.heap m) (N : News h₀ L s₁.heap news) (hsz : n ≤ sizeLine)
  (J : Nat → List Value → List (Addr × Obj) → Prop) (hsrc : ∀ i ys nx, J i ys nx → ∀ p ∈ src, p ∈ nx) (hJ : J 0 [] news)
  (turn : ∀ i v ys nx I oI C oC D c oc m₂ h tk (E' : Value → Shared → Prop), i < n → P i v → J i ys nx → NsObj oC m₂ → oc.data = .cell (some v) → Fr h₀ L h m → News h₀ L h ((I, oI) :: (C, oC) :: (D, lst ys) :: (c, oc) :: nx) → (∀ p ∈ nx, p.1 ≠ I ∧ p.1 ≠ C ∧ p.1 ≠ D ∧ p.1 ≠ c) → (I ≠ C ∧ I ≠ D ∧ I ≠ c ∧ C ≠ D ∧ C ≠ c ∧ D ≠ c) →
   wpAny (model prog w) A (bh ifs (compEnvC scope ((x, c) :: cl) C env)) (fun ok s₃ =>
    if ok = true then wpAny (model prog w) A (eval elt (compEnvC scope ((x, c) :: cl) C env)) (fun y s₄ => COutC h₀ L m s₁ I oI C D c ys (J (i + 1) (ys ++ [y])) s₄) E' s₃ else COutC h₀ L m s₁ I oI C D c ys (J (i + 1) ys) s₃) E' { s₁ with heap := h, toks := tk })
  (done : ∀ D ys nx h tk, J n ys nx → Fr h₀ L h (fun z => if z = y then some (.ref D) else m z) → News h₀ L h ((D, lst ys) :: nx) → (∀ p ∈ nx, p.1 ≠ D) → Q { s₁ with heap := h, toks := tk }) :
  wpAny (model prog w) A (pyIter xv) (LcB prog w A E env (.ListComp elt [⟨.Name x px, iter, ifs, 0⟩] scope pos) scope cl (compPost (model prog w) A E (some (assign (.Name y py) env)) fun _ s' => Q s')) E s₁ := by
 subst hL
 refine S.it _ _ ?_
 have up : ∀ b o, s₁.heap.get? b = some o → (s₁.heap.push oI).get? b = some o := fun b o e => Heap.get?_push_of_some _ e
 refine lcBlockC S.wk S.io S.fp (fun b hb => ?_) hc hp hkind hxk S.st (F.keeps up) (N.grown up) (Nat.ne_of_lt F.ns.lt) (next_is_new F) (fun p hp => Nat.ne_of_lt (Heap.lt_size (N p hp).1)) hsz J hsrc hJ ?_ ?_
 ·show b < (s₁.heap.push _).objs.size
  rw [Heap.size_push]
  rcases S.fp b hb with rfl | ⟨o, ho⟩
  ·exact Nat.lt_succ_self _
  ·exact Nat.lt_succ_of_lt (Heap.lt_size (N _ (hsrc 0 [] news hJ _ ho)).1)
 ·intro i v ys nx oI' C oC D c oc m₂ h tk E' a1 a2 a3 a4 a5 a6 a7 a8 a9
  exact turn i v ys nx _ oI' C oC D c oc m₂ h tk E' a1 a2 a3 a4 a5 a6 a7 a8 a9
 ·intro D C c oC oc m₂ ys nx h tk hj hoC F' N' o1 o2
  have hc := N' _ (.head _)
  show wpAny _ A (assign (.Name y py) env (.ref D)) _ _ _
  refine wpAny_assign_Name (wpAny_storeName_local hy F'.ns (fun h₂ hn₂ hs₂ => ?_) hpp)
  have hL₀ : h₀.get? env.locals = none := Heap.get?_none_of_le F'.above
  have F₂ : Fr h₀ env.locals h₂ (fun z => if z = y then some (.ref D) else m z) := ⟨hn₂, fun b o e => hs₂.extBut b o (fun q => by rw [q, hL₀] at e; cases e) (F'.keep b o e), F'.above⟩
  refine ⟨m₂, (hoC.ns hc.1).sameBut hs₂ hc.2.1, fun h'' hs'' => done D ys nx h'' _ hj (F₂.change hs'' hc.2.1 hc.2.2) (fun p hp => ?_) o2⟩
  have hp' : p ∈ (D, lst ys) :: (c, oc) :: nx := by
   rcases List.mem_cons.mp hp with rfl | hp
   ·exact .head _
   ·exact .tail _ (.tail _ hp)
  have z : h₂.get? p.1 = some p.2 := hs₂.extBut _ _ (N' p (.tail _ hp')).2.1 (N' p (.tail _ hp')).1
  exact ⟨hs''.extBut _ _ (o1 p hp') z, (N' p (.tail _ hp')).2⟩
end
local macro_rules | `(tactic| passes_own) => wa "mine passes_own"
local macro_rules | `(tactic| k_all) => wa "mine k_all"
local macro_rules | `(tactic| k_ne) => wa "mine k_ne"
theorem rlW20 : True := by
 k_with_none
 k_with "mine hide" => first | (refine (?_ : let gk : Prop := wpAny _ ak _ _ _ _; gk); (try clear gk); intro gk) | (refine (?_ : let ak : Around := _; let gk : Prop := wpAny _ ak _ _ _ _; gk); intro ak; (try clear gk); intro gk) | (refine (?_ : let gk : Prop := _; gk); (try clear gk); intro gk)
 k_with "mine in" => first | (with_reducible assumption) | (with_reducible exact sId) | ((with_reducible refine sTl ?_); walk_at "mine in") | ((with_reducible refine sLe ?_); walk_at "mine in") | ((with_reducible refine sRi ?_); walk_at "mine in")
 k_with "mine memb" => first | assumption | exact List.Mem.head _ | (refine List.Mem.tail _ ?_; walk_at "mine memb") | (refine mLe ?_; walk_at "mine memb") | (refine mRi ?_; walk_at "mine memb")
 k_with "mine open" => first | (refine (?_ : let gk : Prop := wpAny _ ak _ _ _ _; Held gk); (try clear gk); intro gk; show gk) | (refine (?_ : let ak : Around := _; let gk : Prop := wpAny _ ak _ _ _ _; Held gk); intro ak; (try clear gk); intro gk; show gk) | (refine (?_ : let gk : Prop := _; Held gk); (try clear gk); intro gk; show gk)
 k_with "mine sub" => first | (with_reducible exact sId) | (with_reducible exact sNil) | ((with_reducible refine sCons ?_ ?_); (· walk_at "mine memb"); (· walk_at "mine sub")) | ((with_reducible refine sApp ?_ ?_); (· walk_at "mine sub"); (· walk_at "mine sub")) | walk_at "mine in"
 k_with "execs cons" => (k_here; (with_reducible refine aL ?_); (try clear tkw); intro tkw; (try k_fold); (with_reducible refine wpAny_execs_cons ?_); (try dsimp only))
 k_with "mine passes_own" => first | assumption | with_reducible exact PySem.PassesOwn.leaving | with_reducible exact PySem.PassesOwn.looking | with_reducible exact PySem.PassesOwnAt.leaving | with_reducible exact PySem.PassesOwnAt.looking | exact PySem.PassesOwn.leaving | exact PySem.PassesOwn.looking | exact PySem.PassesOwnAt.leaving | exact PySem.PassesOwnAt.looking
 k_with "exec For" => (k_here; refine held ?_)
 k_with "eval DictComp" => (k_here; refine held ?_)
 k_with "exec Assign cons ListComp" => (k_here; refine held ?_)
 k_with "pyIter ref" => (k_here; refine held ?_)
 k_with "call builtin:len" => (k_here; k_dflt (refine len_list (News.isList (by k_asm) (by walk_at "mine mem")) (by assumption) ?_))
 k_with "compareOp NotEq ref ref" => (k_here; refine held ?_)
 k_with "call builtin:sorted" => (k_here; refine held ?_)
 k_with "eval ListComp" => (k_here; refine held ?_)
 k_with "mine k_all" => first | assumption | exact List.forall_mem_nil _ | (refine' List.forall_mem_cons.mpr ⟨?_, ?_⟩; (focus k_ne); k_all)
 k_with "mine k_ne" => first | assumption | exact Ne.symm (by assumption)
 k_with "mine mem" => first | exact List.Mem.head _ | exact List.Mem.tail _ (List.Mem.head _) | exact List.Mem.tail _ (List.Mem.tail _ (List.Mem.head _)) | exact List.Mem.tail _ (List.Mem.tail _ (List.Mem.tail _ (List.Mem.head _))) | exact List.Mem.tail _ (List.Mem.tail _ (List.Mem.tail _ (List.Mem.tail _ (List.Mem.head _)))) | exact List.Mem.tail _ (List.Mem.tail _ (List.Mem.tail _ (List.Mem.tail _ (List.Mem.tail _ (List.Mem.head _)))))
 k_with "mine enterC" => case fresh => (refine' code_defC ?k1' ?k2' ?k3' ?k4' ?k5' ?kA' ?kF' ?kK' ?k6' ?k7' ?k8' ?k9' ?kB' ?kD' ?_ ?c2' ?c3' ?c4'; (case kA' => exact rfl); (case kF' => exact rfl); (case kK' => assumption); (case k1' => k_asm); (case k2' => k_asm); (case k3' => k_asm); (case k4' => k_asm); (case k5' => k_asm); (case k6' => k_is); (case k7' => k_is); (case k8' => ktr_room); (case k9' => exact BindsTo.of_eq rfl); (case kB' => exact rfl); (case kD' => decide +kernel); (case c2' => exact rfl); (case c3' => exact rfl); (case c4' => exact rfl); k_whole; intro g'' L'' h'' tk'' cells'' FG'' F'' N'' Y'' B'' X'' T'' l1'; (try k_lt l1'); (have hY' := CellsAre.two Y''; obtain ⟨o'', o2'', hE'', d1'', d2''⟩ := hY'; subst hE''; clear Y''); (try simp only [List.cons_append, List.nil_append] at N''); (try dsimp only); (try k_lift B''); (try k_fold))
 k_with "subscriptTail Name" => (k_here; k_dflt (refine kda_item (by k_asm) (by walk_at "mine mem") (by assumption) (strKind_is _ _ _ _) (by assumption) ?_))
 k_with "setItem ref str" => case fresh => (k_here; k_dflt (refine' kda_set (knd := PySem.strKind _ _) ?F' ?N' ?U' ?d' (strKind_is _ _ _ _) ?z' ?_; (case F' => k_asm); (case N' => k_asm); (case U' => k_updF); (case d' => assumption); (case z' => assumption)); intro h'' o'' F'' N'' hd''; (try dsimp only at N''))
 trivial
noncomputable def LvIs (lv : Nat → Nat) (kvs : List (Str × Value)) : Prop := ∀ v, v < 5 → ∃ t, valueAt kvs (nm v) = some (.int (lv v : Int) t)
theorem LvIs.put {lv : Nat → Nat} {kvs : List (Str × Value)} {e : Edge} {t : Tok} {x : Int} (h : LvIs lv kvs) (h5 : e.1 < 5) (hx : x = (relax lv e e.1 : Nat)) : LvIs (relax lv e) (stored kvs (nm e.1) (.int x t)) := fun v hv => by
 rw [eC]
 by_cases c : v = e.1
 ·subst c
  rw [if_pos rfl, hx]
  exact ⟨t, rfl⟩
 ·rw [if_neg fun q => c (fE hv h5 q)]
  refine aT (h v hv) ?_; intro t' ht
  refine ⟨t', ?_⟩
  rw [ht]
  unfold relax
  rw [if_neg c]
theorem kH {l : List Nat} : {m : List Nat} → l.Nodup → (∀ v ∈ l, v ∈ m) → l.length ≤ m.length := by
 induction l with
 | nil => intro m _ _; exact Nat.zero_le _
 | cons x l ih =>
  intro m hd hs
  rw [List.nodup_cons] at hd
  have h1 := ih (m := m.erase x) hd.2 fun v hv => by
   have : v ≠ x := fun e => hd.1 (e ▸ hv)
   exact (List.mem_erase_of_ne this).mpr (hs v (.tail _ hv))
  have hx := hs x (.head _)
  rw [List.length_erase_of_mem hx] at h1
  have := List.length_pos_of_mem hx
  simp only [List.length_cons]
  omega
noncomputable def rnd (es : List Edge) (k : Nat) : List Nat := ord5.filter fun v => decide (aN es 5 v = k)
noncomputable def dF (l : List Nat) : Dat := .list (l.map fun v => .str (nm v))
noncomputable abbrev kj (es : List Edge) (k : Nat) : Dat := dF (rnd es k)
theorem dY (v : Nat) (h : v < 5) : kqdOk 8 (Dat.str (nm v)) = true := by
 have key : ∀ v : Fin 5, kqdOk 8 (Dat.str (nm v.1)) = true := by decide +kernel
 exact key ⟨v, h⟩
noncomputable def edgeD (e : Edge) : Dat := .list [.str (nm e.1), .str (nm e.2)]
inductive RndJa (w : World) (lr D L' : Addr) (oc o2 : Obj) (news : List (Addr × Obj)) (es : List Edge) (i : Nat) (m : Str → Option Value) (nx : List (Addr × Obj)) : Prop where
 | mk : ∀ (u : Str → Option Value) (oD : Obj) (kvs : List (Str × Value)), (m = (fun y => if y = Str.ofString "rows" then some (.ref lr) else u y)) → (nx = (D, oD) :: (L' + 1 + 1, oc) :: (L' + 1, o2) :: news) → (oD.IsDictOf (SK w) kvs) → (LvIs (aN es i) kvs) → (kvs.length ≤ 5 + 100 * i) → (i ≤ 5) → RndJa w lr D L' oc o2 news es i m nx
inductive RndJb (w : World) (lr D L' : Addr) (oc o2 : Obj) (news : List (Addr × Obj)) (es : List Edge) (i : Nat) (I : Addr) (o : Obj) (j : Nat) (m : Str → Option Value) (nx : List (Addr × Obj)) : Prop where
 | mk : ∀ (u : Str → Option Value) (oD : Obj) (kvs : List (Str × Value)), (m = (fun y => if y = Str.ofString "rows" then some (.ref lr) else u y)) → (nx = (D, oD) :: (L' + 1 + 1, oc) :: (L' + 1, o2) :: (news ++ [(I, o)])) → (oD.IsDictOf (SK w) kvs) → (LvIs ((es.take j).foldl relax (aN es i)) kvs) → (kvs.length ≤ 5 + 100 * i + j) → (j ≤ es.length) → RndJb w lr D L' oc o2 news es i I o j m nx
noncomputable def cM (w : World) (ln : Addr) (lr : Addr) (ns : List Nat) (es : List Edge) (news : List (Prod Addr Obj)) (vs : List Value) (kn : Nat) : Prop := ∀ (hns : ∀ v, v ∈ ns ↔ v < 5) (hnd : ns.Nodup) (hel : es.length ≤ 100) (hes : ∀ e ∈ es, e.1 < 5 ∧ e.2 < 5) (hvm : (ln, listOf vs.toArray kn) ∈ news) (hvs : StrsAre vs (ns.map nm)) (hrows : DatIn news (.ref lr) (.list (es.map edgeD))), MutR 40 w 231 [.ref ln, .ref lr] news (fun nx r => ∃ b, DatIn nx r (.tuple [.list ((((List.range 5).map (rnd es)).filter fun l => decide (l ≠ [])).map dF), .bool b]) ∧ (b = true ↔ ∃ v, v < 5 ∧ 5 ≤ aN es 5 v) ∧ ∀ q ∈ news, q ∈ nx)
noncomputable def ao : ((World × Addr) × Addr × (List Nat)) × ((List Edge) × (List (Prod Addr Obj))) × (List Value) × Nat := @Classical.epsilon _ (by have := neW; infer_instance) fun x => ¬ u8 cM x
namespace n_rounds_ok
noncomputable def vs : List PySem.Value := ao.2.2.1
theorem iM : cM ao.1.1.1 ao.1.1.2 ao.1.2.1 ao.1.2.2 ao.2.1.1 ao.2.1.2 n_rounds_ok.vs ao.2.2.2 := by
 intro hns hnd hel hes hvm hvs hrows
 unfold MutR
 k_fill
 intro p loose mean mg mb dp un gd cn cs a ccd cl outer A₀ base h₀ L m s Q E B F X N T hk hd hu hret
 refine wpAny_call ?_
 k_dflt walk_at "mine enterC"
 k_steps
 rename_i g' L' h1 tk1 FG F1 B' X' T' lL o1 o2 d1 d2 N1
 walk_at "mine open"
 replace d1 : o1.data = .cell none := d1
 replace d2 : o2.data = .cell (some (.ref (ao.1.1.2))) := d2
 have hvl : vs.length = (ao.1.2.2).length := by
  have := hvs.len_eq
  rwa [List.length_map] at this
 have hn5 : (ao.1.2.2).length ≤ 5 := aV 5 _ hnd fun v hv => (hns v).mp hv
 have e0 : sizeLine = 16777216 := rfl
 refine dc_zero (cl := []) rfl F1 N1 (.tail _ (.tail _ hvm)) hvs (by omega) (by with_unfolding_all rfl) (by decide) rfl (by decide) rfl (by decide) (fun Q' h' => ?_) ?_
 ·k_steps
  exact h'
 intro D oD h2 tk2 kvs F2 N2 hDn hDd hDv hDl
 have hD1 : L' + 1 + 1 ≠ D := hDn _ (.head _)
 have hD2 : L' + 1 ≠ D := hDn _ (.tail _ (.head _))
 have hc12 : L' + 1 ≠ L' + 1 + 1 := Nat.ne_of_lt (Nat.lt_succ_self _)
 have hcn : ∀ q ∈ (ao.2.1.2), q.1 ≠ L' + 1 + 1 := fun q hq => Nat.ne_of_lt (Nat.lt_succ_of_lt (Nat.lt_succ_of_lt (lL q hq)))
 k_steps
 rename_i h3 oc F3 N3 dc
 walk_at "mine open"
 obtain ⟨lrv, klr, hlr, hrm, hds⟩ : ∃ vs k, ((ao.1.2.1), listOf vs.toArray k) ∈ (ao.2.1.2) ∧ DatAll (ao.2.1.2) vs ((ao.2.1.1).map edgeD) ∧ True := by
  cases hrows with
  | list hm hd => exact ⟨_, _, hm, hd, trivial⟩
 have hlv0 : LvIs (aN (ao.2.1.1) 0) kvs := fun v hv => by
  refine aT (hDv (nm v) (List.mem_map.mpr ⟨v, (hns v).mpr hv, rfl⟩)) ?_; intro t ht
  exact ⟨t, ht⟩
 have hrl : lrv.length = (ao.2.1.1).length := by
  have := hrm.length
  simpa using this
 refine dw (l := (ao.1.1.2)) (vs := vs) (nn := (ao.2.2.2)) (RndJa (ao.1.1.1) (ao.1.2.1) D L' oc o2 (ao.2.1.2) (ao.2.1.1)) rfl F3 N3 (fun Q' h' => ?_) ?_ ?_ ?_ ?_
 ·k_steps
  exact h'
 ·exact ⟨_, oD, kvs, asIf rfl, rfl, hDd, hlv0, by omega, Nat.zero_le _⟩
 ·rintro i m nx ⟨u, oD, kvs, rfl, rfl, _⟩
  exact .tail _ (.tail _ (.tail _ hvm))
 ·intro I i v m₁ nx hh tk o hv zp1 hI hIn F4 N4
  walk_at "mine hide"
  obtain ⟨u, oD1, kvs1, rfl, rfl, hd1, hlv1, hkl1, hi5⟩ := zp1
  have hiv : i < 5 := by
   have := (List.getElem?_eq_some_iff.mp hv).1
   omega
  replace F4 : Fr g' L' hh _ := F4
  replace N4 : News g' L' hh ((D, oD1) :: (L' + 1 + 1, oc) :: (L' + 1, o2) :: ((ao.2.1.2) ++ [(I, o)])) := N4
  k_steps
  rename Heap => h5
  rename Fr _ _ _ _ => F5
  rename News _ _ _ _ => N5
  walk_at "mine open"
  refine dw (l := (ao.1.2.1)) (vs := lrv) (nn := klr) (RndJb (ao.1.1.1) (ao.1.2.1) D L' oc o2 (ao.2.1.2) (ao.2.1.1) i I o) rfl F5 N5 (fun Q' h' => ?_) ?_ ?_ ?_ ?_
  ·k_steps
   exact h'
  ·exact ⟨_, oD1, kvs1, asIf rfl, rfl, hd1, hlv1, by omega, Nat.zero_le _⟩
  ·rintro j m nx ⟨u, oD, kvs, rfl, rfl, _⟩
   exact .tail _ (.tail _ (.tail _ (List.mem_append.mpr (.inl hlr))))
  ·intro I2 j v2 m₂ nx h6 tk6 o6 hv2 zp2 hI2 hIn2 F6 N6
   walk_at "mine hide"
   obtain ⟨u6, oD6, kvs6, rfl, rfl, hd6, hlv6, hkl6, hj6⟩ := zp2
   refine aJ (aY (rs := (ao.2.1.1)) (f := edgeD) hrm hv2) ?_; intro e he hDe
   have hee := hes e (List.mem_of_getElem? he)
   obtain ⟨ea, eb⟩ := e
   unfold edgeD at hDe
   obtain ⟨b, kb, ta, tb, rfl, hb⟩ : ∃ b kb ta tb, v2 = .ref b ∧ (b, listOf [Value.str (nm ea) ta, .str (nm eb) tb].toArray kb) ∈ (ao.2.1.2) := by
    cases hDe with
    | list hm hd =>
     cases hd with
     | cons h1 hd =>
      cases hd with
      | cons h2 hd =>
       cases hd
       cases h1
       cases h2
       exact ⟨_, _, _, _, rfl, hm⟩
   replace F6 : Fr g' L' h6 _ := F6
   replace N6 : News g' L' h6 ((D, oD6) :: (L' + 1 + 1, oc) :: (L' + 1, o2) :: ((ao.2.1.2) ++ [(I, o)] ++ [(I2, o6)])) := N6
   have hL6 := News.isList N6 (.tail _ (.tail _ (.tail _ (List.mem_append.mpr (.inl (List.mem_append.mpr (.inl hb)))))))
   refine aT (hlv6 ea hee.1) ?_; intro tva hva
   refine aT (hlv6 eb hee.2) ?_; intro tvb hvb
   have hz6 : kvs6.length ≤ sizeLine := by omega
   have hrD : ∀ q ∈ (ao.2.1.2) ++ [(I, o)] ++ [(I2, o6)], q.1 ≠ D := fun q hq => by
    rcases List.mem_append.mp hq with hq | hq
    ·rcases List.mem_append.mp hq with hq | hq
     ·exact hDn q (.tail _ (.tail _ hq))
     ·rw [List.mem_singleton.mp hq]; exact Ne.symm (hI (D, oD1) (.head _))
    ·rw [List.mem_singleton.mp hq]; exact Ne.symm (hI2 (D, oD6) (.head _))
   k_steps
   rename_i h7 tk7 hF7 hN7 h8 oD8 F8 N8 hd8
   have eT : ((ao.2.1.1).take (j + 1)).foldl relax (aN (ao.2.1.1) i) = relax (((ao.2.1.1).take j).foldl relax (aN (ao.2.1.1) i)) (ea, eb) := by
    rw [List.take_add_one, he, List.foldl_append]; rfl
   have hj' : j < (ao.2.1.1).length := (List.getElem?_eq_some_iff.mp he).1
   refine ⟨h8, _, _, (D, oD8) :: (L' + 1 + 1, oc) :: (L' + 1, o2) :: ((ao.2.1.2) ++ [(I, o)]), rfl, F8, N8, ?_, _, oD8, _, asIf rfl, rfl, hd8, ?_, Nat.le_trans (stored_length_le _ _ _) (by omega), hj'⟩
   ·intro q hq
    rcases List.mem_cons.mp hq with rfl | hq
    ·exact hI2 (D, oD6) (.head _)
    ·exact hI2 q (.tail _ hq)
   ·rw [eT]
    refine LvIs.put hlv6 hee.1 ?_
    unfold relax
    rw [if_pos rfl]
    dsimp only
    split <;> omega
  ·intro m nx h6 tk6 zp3 F6 N6
   walk_at "mine hide"
   obtain ⟨u6, oD6, kvs6, rfl, rfl, hd6, hlv6, hkl6, _⟩ := zp3
   rw [hrl, List.take_length] at hlv6
   rw [hrl] at hkl6
   replace F6 : Fr g' L' h6 _ := F6
   k_steps
   refine ⟨h6, _, _, (D, oD6) :: (L' + 1 + 1, oc) :: (L' + 1, o2) :: (ao.2.1.2), rfl, F6, News.sub N6 fun q hq => hq, ?_, u6, oD6, kvs6, rfl, rfl, hd6, hlv6, by omega, hiv⟩
   intro q hq
   rcases List.mem_cons.mp hq with rfl | hq
   ·exact hI (D, oD1) (.head _)
   ·exact hI q (.tail _ hq)
 ·intro m nx h4 tk4 zp4 F4 N4
  walk_at "mine hide"
  obtain ⟨u4, oD4, kvs4, rfl, rfl, hd4, hlv4, hkl4, _⟩ := zp4
  have hn5' : (ao.1.2.2).length = 5 := by
   have h1 : (List.range 5).length ≤ (ao.1.2.2).length := kH List.nodup_range fun v hv => (hns v).mpr (List.mem_range.mp hv)
   rw [List.length_range] at h1
   omega
  rw [hvl, hn5'] at hlv4
  replace F4 : Fr g' L' h4 _ := F4
  replace N4 : News g' L' h4 (((ao.1.1.2), listOf vs.toArray (ao.2.2.2)) :: (D, oD4) :: (L' + 1 + 1, oc) :: (L' + 1, o2) :: (ao.2.1.2)) := News.sub N4 (List.forall_mem_cons.mpr ⟨.tail _ (.tail _ (.tail _ hvm)), fun q hq => hq⟩)
  have hvf : ((vs.toArray.size : Nat) : Int) < 2 ^ 63 := by rw [List.size_toArray]; omega
  k_steps
  walk_at "mine open"
  refine du (by rfl) (by with_unfolding_all rfl) (by rfl) (by decide) ?_
  k_steps
  rename_i h5 tk5 rt1 rt2 rt3 hrange F5 N5 hold5
  walk_at "mine open"
  have hs5 : vs.toArray.size = 5 := by rw [List.size_toArray, hvl, hn5']
  rw [hs5] at hrange
  generalize hn4 : ((ao.1.1.2), listOf vs.toArray (ao.2.2.2)) :: (D, oD4) :: (L' + 1 + 1, oc) :: (L' + 1, o2) :: (ao.2.1.2) = n4 at N5
  have hm1 : ((ao.1.1.2), listOf vs.toArray (ao.2.2.2)) ∈ n4 := by rw [← hn4]; exact .head _
  have hm2 : (D, oD4) ∈ n4 := by rw [← hn4]; exact .tail _ (.head _)
  have hm3 : (L' + 1 + 1, oc) ∈ n4 := by rw [← hn4]; exact .tail _ (.tail _ (.head _))
  have hm4 : (L' + 1, o2) ∈ n4 := by rw [← hn4]; exact .tail _ (.tail _ (.tail _ (.head _)))
  refine LC_asgC rfl (SrcW.range (n := 5) rfl hrange (by decide) (by decide)) (fun n => by with_unfolding_all rfl) (fun h => by with_unfolding_all rfl) (by rfl) (by with_unfolding_all rfl) (by rfl) (by rfl) F5 N5 (by omega) (fun i ys nx => (∀ q ∈ n4, q ∈ nx) ∧ DatAll nx ys ((List.range i).map (kj (ao.2.1.1)))) (fun _ _ _ _ _ hp => (nomatch hp)) ⟨fun q hq => hq, .nil⟩ ?_ ?_
  ·intro i v ys nx I oI C oC D2 c oc2 m₂ h6 tk6 E' hi zp5 zp6 hoC hdc F6 N6 off hne
   walk_at "mine hide"
   refine aT (zp5) ?_; (try clear zp5); intro tv xq10b; subst xq10b
   refine bj (zp6) ?_; (try clear zp6); intro hsub hda
   refine wpAny_tests_nil ?_
   rw [if_pos rfl]
   refine bJ (by with_unfolding_all rfl) (by rfl) (by decide) ?_
   replace N6 : News g' L' h6 (((ao.1.1.2), listOf vs.toArray (ao.2.2.2)) :: (D, oD4) :: (L' + 1 + 1, oc) :: (L' + 1, o2) :: (c, oc2) :: (I, oI) :: (C, oC) :: (D2, lst ys) :: nx) := News.sub N6 (List.forall_mem_cons.mpr ⟨.tail _ (.tail _ (.tail _ (.tail _ (hsub _ hm1)))), List.forall_mem_cons.mpr ⟨.tail _ (.tail _ (.tail _ (.tail _ (hsub _ hm2)))), List.forall_mem_cons.mpr ⟨.tail _ (.tail _ (.tail _ (.tail _ (hsub _ hm3)))), List.forall_mem_cons.mpr ⟨.tail _ (.tail _ (.tail _ (.tail _ (hsub _ hm4)))), List.forall_mem_cons.mpr ⟨.tail _ (.tail _ (.tail _ (.head _))), List.forall_mem_cons.mpr ⟨.head _, List.forall_mem_cons.mpr ⟨.tail _ (.head _), List.forall_mem_cons.mpr ⟨.tail _ (.tail _ (.head _)), fun q hq => .tail _ (.tail _ (.tail _ (.tail _ hq)))⟩⟩⟩⟩⟩⟩⟩⟩)
   k_steps
   walk_at "mine open"
   replace F6 : Fr g' L' h6 _ := F6
   refine kf F6 N6 (.head _) hvs (by omega) ?_
   intro h7 Ds svs sss ks F7 N7 lDs hsv hpm hsd
   have hss := gA (fun x hx => (hns x).mp hx) hnd hpm hsd
   rw [show (ord5.filter fun v => decide (v ∈ (ao.1.2.2))) = ord5 from List.filter_eq_self.mpr fun v hv => by
    have : v < 5 := by unfold ord5 at hv; simp at hv; omega
    simpa using (hns v).mpr this] at hss
   subst hss
   k_steps
   walk_at "mine open"
   generalize hn7 : (Ds, _) :: ((ao.1.1.2), listOf vs.toArray (ao.2.2.2)) :: _ = n7 at N7
   have hsl : svs.length = 5 := by
    have := hsv.len_eq
    rwa [List.length_map] at this
   refine cQ (SrcW.list rfl N7 (by rw [← hn7]; exact .head _)) (fun _ _ _ _ _ _ h => wpAny_pure h) (by decide) rfl F7 N7 (by rw [List.size_toArray]; omega) (fun j zs nx2 => nx2 = n7 ∧ StrsAre zs (((ord5.take j).filter fun v => decide (aN (ao.2.1.1) 5 v = i)).map nm)) ?_ ⟨rfl, .nil⟩ ?_ ?_
   ·rintro j zs nx2 ⟨rfl, _⟩ q hq
    rw [List.mem_singleton.mp hq, ← hn7]; exact .head _
   ·intro j v zs nx2 I3 oI3 C3 oC3 D3 m3 h8 tk8 E3 hj hv zp7 hoC3 F8 N8 off3 hne3
    walk_at "mine hide"
    refine bj (zp7) ?_; (try clear zp7); intro xq12a; subst xq12a; intro hzs
    have hv' : svs[j]? = some v := by simpa using hv
    refine bg (aS hsv hv') ?_; intro y ty hy xq13d; subst xq13d
    have hy5 : y < 5 := by
     have := List.mem_of_getElem? hy
     unfold ord5 at this; simp at this; omega
    refine bp hoC3 F8 N8 (off_2 off3 hne3) rfl rfl fun h9 tk9 oC9 m9 hoC9 hm9 F9 N9 => ?_
    refine wpAny_tests_one ?_
    refine aT (hlv4 y hy5) ?_; intro tvy hvy
    have sub9 : ∀ q ∈ (L' + 1 + 1, oc) :: (D, oD4) :: (c, oc2) :: (I3, oI3) :: (C3, oC9) :: (D3, lst zs) :: nx2, q ∈ (I3, oI3) :: (C3, oC9) :: (D3, lst zs) :: nx2 := by
     rw [← hn7]
     walk_at "mine sub"
    replace N9 := News.sub N9 sub9
    k_steps
    ·rename_i heq
     have heq' : aN (ao.2.1.1) 5 y = i := by omega
     refine ⟨h9, _, nx2, oC9, m9, rfl, hoC9, F9, News.sub N9 (fun q hq => .tail _ (.tail _ (.tail _ hq))), off3, rfl, ?_⟩
     rw [List.take_add_one, hy, List.filter_append, List.map_append]
     simp only [Option.toList_some, List.filter_cons, List.filter_nil, heq', decide_true, if_true, List.map_cons, List.map_nil]
     exact bC hzs
    ·rename_i heq
     have heq' : ¬ aN (ao.2.1.1) 5 y = i := by omega
     refine ⟨h9, _, nx2, oC9, m9, rfl, hoC9, F9, News.sub N9 (fun q hq => .tail _ (.tail _ (.tail _ hq))), off3, rfl, ?_⟩
     rw [List.take_add_one, hy, List.filter_append]
     simp only [Option.toList_some, List.filter_cons, List.filter_nil, heq', decide_false, Bool.false_eq_true, if_false, List.append_nil]
     exact hzs
   ·intro D3 zs nx2 h8 tk8 zp8 F8 N8 o8
    walk_at "mine hide"
    refine bj (zp8) ?_; (try clear zp8); intro xq15a; subst xq15a; intro hzs
    rw [show ord5.take svs.toArray.size = ord5 from by rw [List.size_toArray, hsl]; rfl] at hzs
    have in7 : ∀ q ∈ (I, oI) :: (C, oC) :: (D2, lst ys) :: (c, oc2) :: nx, q ∈ nx2 := by
     rw [← hn7]
     walk_at "mine sub"
    refine ⟨h8, _, (D3, lst zs) :: nx, oC, m₂, oc2, _, rfl, hoC, hdc, F8, News.sub N8 ?_, ?_, fun q hq => .tail _ (hsub q hq), ?_⟩
    ·intro q hq
     simp only [List.mem_cons] at hq ⊢
     have := in7 q
     simp only [List.mem_cons] at this
     grind
    ·intro q hq
     rcases List.mem_cons.mp hq with rfl | hq
     ·exact ⟨Ne.symm (o8 _ (in7 _ (.head _))), Ne.symm (o8 _ (in7 _ (.tail _ (.head _)))), Ne.symm (o8 _ (in7 _ (.tail _ (.tail _ (.head _))))), Ne.symm (o8 _ (in7 _ (.tail _ (.tail _ (.tail _ (.head _))))))⟩
     ·exact off q hq
    ·rw [List.range_succ, List.map_append]
     exact DatAll.append (DatAll.mono (fun q hq => .tail _ hq) hda) (DatAll.one (DatIn.list (.head _) (co hzs)))
  ·intro Rd ys nx h6 tk6 zp9 F6 N6 oRd
   walk_at "mine hide"
   refine bj (zp9) ?_; (try clear zp9); intro hsub hda
   replace F6 : Fr g' L' h6 _ := F6
   k_steps
   walk_at "mine open"
   refine bJ (by with_unfolding_all rfl) (by rfl) (by decide) ?_
   k_steps
   walk_at "mine open"
   generalize hn8 : (Rd, lst ys) :: nx = n8 at N6
   have hyl : ys.length = 5 := by
    have := hda.length
    simpa using this
   refine cQ (SrcW.list rfl N6 (by rw [← hn8]; exact .head _)) (fun _ _ _ _ _ _ h => wpAny_pure h) (by decide) rfl F6 N6 (by rw [List.size_toArray]; omega) (fun j zs nx2 => nx2 = n8 ∧ DatAll n8 zs ((((List.range j).map (rnd (ao.2.1.1))).filter fun l => decide (l ≠ [])).map dF)) ?_ ⟨rfl, .nil⟩ ?_ ?_
   ·rintro j zs nx2 ⟨rfl, _⟩ q hq
    rw [List.mem_singleton.mp hq, ← hn8]; exact .head _
   ·intro j v zs nx2 I3 oI3 C3 oC3 D3 m3 h8 tk8 E3 hj hv zp10 hoC3 F8 N8 off3 hne3
    walk_at "mine hide"
    refine bj (zp10) ?_; (try clear zp10); intro xq17a; subst xq17a; intro hzs
    have hv' : ys[j]? = some v := by simpa using hv
    refine aJ (aY (rs := List.range 5) (f := kj (ao.2.1.1)) hda hv') ?_; intro r hr hDr
    have hrj : r = j := by
     have h1 := (List.getElem?_eq_some_iff.mp hv').1
     rw [List.getElem?_range (by omega)] at hr
     cases hr; rfl
    subst hrj
    obtain ⟨b, ws, q, rfl, hb, hws⟩ : ∃ b ws q, v = .ref b ∧ (b, listOf ws.toArray q) ∈ nx ∧ DatAll nx ws ((rnd (ao.2.1.1) r).map fun v => .str (nm v)) := by
     unfold kj dF at hDr
     cases hDr with
     | list hm hd => exact ⟨_, _, _, rfl, hm, hd⟩
    refine bp hoC3 F8 N8 (off_2 off3 hne3) rfl rfl fun h9 tk9 oC9 m9 hoC9 hm9 F9 N9 => ?_
    refine wpAny_tests_one ?_
    have hb8 : (b, listOf ws.toArray q) ∈ nx2 := by rw [← hn8]; exact .tail _ hb
    replace N9 : News g' L' h9 ((b, listOf ws.toArray q) :: (I3, oI3) :: (C3, oC9) :: (D3, lst zs) :: nx2) := News.sub N9 (List.forall_mem_cons.mpr ⟨.tail _ (.tail _ (.tail _ hb8)), fun q hq => hq⟩)
    k_steps
    rename_i El h10 F10 N10 l10
    walk_at "mine open"
    have ok8 : ∀ d ∈ (rnd (ao.2.1.1) r).map (fun v => Dat.str (nm v)), kqdOk 8 d = true := fun d hd => by
     refine aJ (List.mem_map.mp hd) ?_; intro v hv xq19c; subst xq19c
     have hv5 : v < 5 := by
      have := (List.mem_filter.mp hv).1
      unfold ord5 at this; simp at this; omega
     exact dY v hv5
    refine kqd_ne N10 (.tail _ (.head _)) rfl rfl hws (fun q hq => .tail _ (.tail _ (.tail _ (.tail _ (.tail _ (by rw [← hn8]; exact .tail _ hq)))))) (.head _) (xs := ws) (ys := []) rfl rfl .nil (n₂ := []) (fun q hq => (nomatch hq)) ok8 (fun d hd => (nomatch hd)) (by show un + 3 + 64 < cLine; omega) ?_
    have hrg : (List.range (r + 1)).map (rnd (ao.2.1.1)) = (List.range r).map (rnd (ao.2.1.1)) ++ [rnd (ao.2.1.1) r] := by rw [List.range_succ, List.map_append]; rfl
    by_cases hemp : rnd (ao.2.1.1) r = []
    ·rw [hemp]
     k_steps
     refine ⟨h10, _, nx2, oC9, m9, rfl, hoC9, F10, News.sub N10 (fun q hq => .tail _ (.tail _ hq)), off3, rfl, ?_⟩
     rw [hrg, List.filter_append, hemp]
     simpa using hzs
    ·k_steps
     ·rename_i hc
      exact absurd (of_decide_eq_true hc) (by simpa using hemp)
     ·rename_i hc
      refine ⟨h10, _, nx2, oC9, m9, rfl, hoC9, F10, News.sub N10 (fun q hq => .tail _ (.tail _ hq)), off3, rfl, ?_⟩
      rw [hrg, List.filter_append, List.map_append]
      refine DatAll.append hzs ?_
      simp only [List.filter_cons, hemp, ne_eq, not_false_eq_true, decide_true, if_true, List.filter_nil, List.map_cons, List.map_nil]
      exact DatAll.one (DatIn.list hb8 (DatAll.mono (fun q hq => by rw [← hn8]; exact .tail _ hq) hws))
   ·intro Ra zs nx2 h7 tk7 zp11 F7 N7 oRa
    walk_at "mine hide"
    refine bj (zp11) ?_; (try clear zp11); intro xq20a; subst xq20a; intro hzs
    rw [List.size_toArray, hyl] at hzs
    k_steps
    walk_at "mine open"
    refine bJ (by with_unfolding_all rfl) (by rfl) (by decide) ?_
    have hb1 : ((ao.1.1.2), listOf vs.toArray (ao.2.2.2)) ∈ nx2 := by rw [← hn8]; exact .tail _ (hsub _ hm1)
    have hb2 : (D, oD4) ∈ nx2 := by rw [← hn8]; exact .tail _ (hsub _ hm2)
    have hb3 : (L' + 1 + 1, oc) ∈ nx2 := by rw [← hn8]; exact .tail _ (hsub _ hm3)
    have hb4 : (L' + 1, o2) ∈ nx2 := by rw [← hn8]; exact .tail _ (hsub _ hm4)
    generalize hn9 : ((ao.1.1.2), listOf vs.toArray (ao.2.2.2)) :: (D, oD4) :: (L' + 1 + 1, oc) :: (L' + 1, o2) :: (Ra, lst zs) :: nx2 = n9
    replace N7 : News g' L' h7 n9 := News.sub N7 (by rw [← hn9]; exact List.forall_mem_cons.mpr ⟨.tail _ hb1, List.forall_mem_cons.mpr ⟨.tail _ hb2, List.forall_mem_cons.mpr ⟨.tail _ hb3, List.forall_mem_cons.mpr ⟨.tail _ hb4, fun q hq => hq⟩⟩⟩⟩)
    rw [← hn9] at N7
    k_steps
    walk_at "mine open"
    rw [hn9] at N7
    refine cQ (SrcW.list rfl N7 (by rw [← hn9]; exact .head _)) (fun _ _ _ _ _ _ h => wpAny_pure h) (by decide) rfl F7 N7 (by rw [List.size_toArray]; omega) (fun j zs nx2 => nx2 = n9 ∧ StrsAre zs ((((ao.1.2.2).take j).filter fun v => decide (5 ≤ aN (ao.2.1.1) 5 v)).map nm)) ?_ ⟨rfl, .nil⟩ ?_ ?_
    ·rintro j zs nx2 ⟨rfl, _⟩ q hq
     rw [List.mem_singleton.mp hq, ← hn9]; exact .head _
    ·intro j v zs2 nx3 I3 oI3 C3 oC3 D3 m3 h8 tk8 E3 hj hv zp12 hoC3 F8 N8 off3 hne3
     walk_at "mine hide"
     refine bj (zp12) ?_; (try clear zp12); intro xq21a; subst xq21a; intro hzs2
     have hv' : vs[j]? = some v := by simpa using hv
     refine bg (aS hvs hv') ?_; intro y ty hy xq22d; subst xq22d
     have hy5 : y < 5 := (hns y).mp (List.mem_of_getElem? hy)
     refine bp hoC3 F8 N8 (off_2 off3 hne3) rfl rfl fun h9 tk9 oC9 m9 hoC9 hm9 F9 N9 => ?_
     refine wpAny_tests_one ?_
     refine aT (hlv4 y hy5) ?_; intro tvy hvy
     have sub9 : ∀ q ∈ ((ao.1.1.2), listOf vs.toArray (ao.2.2.2)) :: (L' + 1 + 1, oc) :: (D, oD4) :: (L' + 1, o2) :: (I3, oI3) :: (C3, oC9) :: (D3, lst zs2) :: nx3, q ∈ (I3, oI3) :: (C3, oC9) :: (D3, lst zs2) :: nx3 := by
      rw [← hn9]
      walk_at "mine sub"
     replace N9 := News.sub N9 sub9
     k_steps
     ·rename_i heq
      have heq' : 5 ≤ aN (ao.2.1.1) 5 y := by
       rw [hs5] at heq
       omega
      refine ⟨h9, _, nx3, oC9, m9, rfl, hoC9, F9, News.sub N9 (fun q hq => .tail _ (.tail _ (.tail _ (.tail _ hq)))), off3, rfl, ?_⟩
      rw [List.take_add_one, hy, List.filter_append, List.map_append]
      simp only [Option.toList_some, List.filter_cons, List.filter_nil, heq', decide_true, if_true, List.map_cons, List.map_nil]
      exact bC hzs2
     ·rename_i heq
      have heq' : ¬ 5 ≤ aN (ao.2.1.1) 5 y := by
       rw [hs5] at heq
       omega
      refine ⟨h9, _, nx3, oC9, m9, rfl, hoC9, F9, News.sub N9 (fun q hq => .tail _ (.tail _ (.tail _ (.tail _ hq)))), off3, rfl, ?_⟩
      rw [List.take_add_one, hy, List.filter_append]
      simp only [Option.toList_some, List.filter_cons, List.filter_nil, heq', decide_false, Bool.false_eq_true, if_false, List.append_nil]
      exact hzs2
    ·intro Rb zs2 nx3 h8 tk8 zp13 F8 N8 oRb
     walk_at "mine hide"
     refine bj (zp13) ?_; (try clear zp13); intro xq24a; subst xq24a; intro hzs2
     rw [List.size_toArray, hvl, List.take_length] at hzs2
     k_steps
     rename_i El h9 F9 N9 l9
     walk_at "mine open"
     refine kqd_ne N9 (.tail _ (.head _)) rfl rfl (co (nx := []) hzs2) (fun q hq => (nomatch hq)) (.head _) (xs := zs2) (ys := []) rfl rfl .nil (n₂ := []) (fun q hq => (nomatch hq)) (fun d hd => by
      refine aJ (List.mem_map.mp hd) ?_; intro v hv xq25c; subst xq25c
      exact dY v ((hns v).mp (List.mem_filter.mp hv).1)) (fun d hd => (nomatch hd)) (by show un + 3 + 64 < cLine; omega) ?_
     k_steps
     refine hret _ _ _ _ (by assumption) (by assumption) ⟨!decide ((((ao.1.2.2).filter fun v => decide (5 ≤ aN (ao.2.1.1) 5 v)).map fun v => Dat.str (nm v)) = []), DatIn.tuple (.head _) (.cons (DatIn.list (.tail _ (.tail _ (.tail _ (by rw [← hn9]; exact .tail _ (.tail _ (.tail _ (.tail _ (.head _))))))) ) (DatAll.mono (fun q hq => .tail _ (.tail _ (.tail _ (by rw [← hn9]; exact .tail _ (.tail _ (.tail _ (.tail _ (.tail _ hq)))))))) hzs)) (.cons (.bool _) .nil)), ?_, fun q hq => .tail _ (.tail _ (.tail _ (by rw [← hn9]; exact .tail _ (.tail _ (.tail _ (.tail _ (.tail _ (by rw [← hn8]; exact .tail _ (hsub _ (by rw [← hn4]; exact .tail _ (.tail _ (.tail _ (.tail _ hq)))))))))))))⟩
     rw [Bool.not_eq_true', decide_eq_false_iff_not, List.map_eq_nil_iff]
     constructor
     ·intro hc
      refine bX (List.exists_cons_of_ne_nil hc) ?_; intro v l' hv
      have : v ∈ (ao.1.2.2).filter fun v => decide (5 ≤ aN (ao.2.1.1) 5 v) := by rw [hv]; exact .head _
      refine bj (List.mem_filter.mp this) ?_; intro h1 h2
      exact ⟨v, (hns v).mp h1, of_decide_eq_true h2⟩
     ·rintro ⟨v, h1, h2⟩ hc
      have : v ∈ (ao.1.2.2).filter fun v => decide (5 ≤ aN (ao.2.1.1) 5 v) := List.mem_filter.mpr ⟨(hns v).mpr h1, decide_eq_true h2⟩
      rw [hc] at this
      exact nomatch this
end n_rounds_ok
theorem lR (w : World) (ln lr : Addr) (ns : List Nat) (es : List Edge) (hns : ∀ v, v ∈ ns ↔ v < 5) (hnd : ns.Nodup) (hel : es.length ≤ 100) (hes : ∀ e ∈ es, e.1 < 5 ∧ e.2 < 5) (news : List (Addr × Obj)) (vs : List Value) (kn : Nat) (hvm : (ln, listOf vs.toArray kn) ∈ news) (hvs : StrsAre vs (ns.map nm)) (hrows : DatIn news (.ref lr) (.list (es.map edgeD))) :
  MutR 40 w 231 [.ref ln, .ref lr] news (fun nx r => ∃ b, DatIn nx r (.tuple [.list ((((List.range 5).map (rnd es)).filter fun l => decide (l ≠ [])).map dF), .bool b]) ∧ (b = true ↔ ∃ v, v < 5 ∧ 5 ≤ aN es 5 v) ∧ ∀ q ∈ news, q ∈ nx) := @aO _ _ (u8 cM) n_rounds_ok.iM (((w, ln), (lr, ns)), ((es, news), (vs, kn))) hns hnd hel hes hvm hvs hrows
end
section
open PySem PySem.W PyProof.Rows PySem.Calls PySem.Spec
noncomputable abbrev fsOf (l : List Env) : List Addr := l.filterMap (·.frame)
theorem bd {A : Around} {base g g' : Heap} {outer : List Env} (B : Below A base outer g) (T : KtsTurn (fsOf outer) g g') : Below A base outer g' :=
 ⟨B.stack, fun b o e => T.other b o (B.stays b o e) (fun hm => by rw [(B.frames.mem hm).1] at e; cases e), B.frames.of_keeps fun b o e _ => by
  refine aT (T.up e) ?_; intro sl hs
  exact ⟨_, hs, rfl⟩⟩
theorem kw {env : Env} {L b : Addr} {outer : List Env} (hf : env.frame = some L) (h : b ∈ fsOf (env :: outer)) : b = L ∨ b ∈ fsOf outer := by
 refine aJ (List.mem_filterMap.mp h) ?_; intro x hx e
 rcases List.mem_cons.mp hx with rfl | hx
 ·exact .inl (Option.some.inj (e.symm.trans hf))
 ·exact .inr (List.mem_filterMap.mpr ⟨x, hx, e⟩)
theorem gw {A₀ : Around} {base h₀ g g' : Heap} {outer : List Env} {env : Env} {L : Addr} {m : Str → Option Value} (B : Below A₀ base outer h₀) (FG : Fr h₀ L g m) (hf : env.frame = some L) (T : KtsTurn (fsOf (env :: outer)) g g') :
  ∃ h₀', KtsTurn (fsOf outer) h₀ h₀' ∧ Fr h₀' L g' m := by
 have nL : h₀.get? L = none := kts_self FG
 obtain ⟨T₁, S₁⟩ := kts_turn_at (h := g') (fs := fsOf outer) (g := h₀) (fun b hb => by
   obtain ⟨_, o, ho, _⟩ := B.frames.mem hb
   exact ⟨o, ho⟩)
  (fun b o e nm => T.other b o (FG.keep b o e) fun q => by
   rcases kw hf q with z | z
   ·rw [z, nL] at e; cases e
   ·exact nm z)
  (fun b o e _ => T.up (FG.keep b o e))
 refine ⟨_, T₁, ⟨Heap.UpToSlots.ns (fun b o e _ => T.up e) FG.ns, S₁, ?_⟩⟩
 rw [T₁.size]; exact FG.above
theorem fr_on {h₀ g h : Heap} {L L' : Addr} {m m' : Str → Option Value} (F : Fr h₀ L g m) (F' : Fr g L' h m') : Fr h₀ L h m :=
 ⟨F.ns.keeps F'.keep, fun b o e => F'.keep b o (F.keep b o e), F.above⟩
theorem news_on {h₀ g h : Heap} {L L' : Addr} {m : Str → Option Value} {news : List (Addr × Obj)} (F : Fr h₀ L g m) (N : News g L' h news) : News h₀ L h news := fun p hp => by
 refine cq (F.ns) ?_; intro oL _ _ hL _
 refine ⟨(N p hp).1, fun q => ?_, kts_none F.keep (N p hp).2.2⟩
 have := (N p hp).2.2
 rw [q, hL] at this; cases this
inductive LeaveT (fs₁ fs : List Addr) (h₀ : Heap) (L : Addr) (m : Str → Option Value) (g : Heap) (R : Result → Shared → Prop) (v : Value) (s' : Shared) : Prop where
 | mk : ∀ g' L' m' news', (KtsTurn fs₁ g g') → (Fr g' L' s'.heap m') → (News g' L' s'.heap news') → (∀ h₀', KtsTurn fs h₀ h₀' → Fr h₀' L s'.heap m → News h₀' L s'.heap news' → R (.ok (.ret v)) s') → LeaveT fs₁ fs h₀ L m g R v s'
section
variable {prog : Program} {w : World} {A₀ A : Around} {s : Shared} {base h₀ : Heap} {outer : List Env} {L : Addr} {m : Str → Option Value} {env : Env} {news : List (Addr × Obj)} {K : Frag} {p : Program} {loose : List Str} {mean : ExcName → Option Value} {mg mb : Str → Option Value}
 {R : Result → Shared → Prop} {name qual : Str} {params : Arguments} {body : List Stmt} {scope : Scope} {dV kV doc pm cdv ct oc : Value} {an od : Option Addr} {osl : Array (Option Value)} {f : Addr} {args : Args} {binds : List (Str × Value)}
theorem kS (B : Below A₀ base outer h₀) (F : Fr h₀ L s.heap m) (X₀ : K.In h₀) (N : News h₀ L s.heap news) (T : Top p loose mean mg mb h₀) (hA : A.frames = some (env :: outer)) (hf : env.frame = some L) (hke : env.scope.kind = .function)
  (ho : K.lookup f = some ⟨oc, od, .func (fnOf name qual params body scope dV kV doc pm an cdv ct), osl⟩) (hcd : codeIn K cdv qual = true) (hroom : A.depth < recursionLimit)
  (hbind : BindsTo s (fnOf name qual params body scope dV kV doc pm an cdv ct) args binds) (hloc : ∀ y ∈ binds, scope.names.lookup y.1 = some .local)
  (h : ∀ g L' h₁, Fr h₀ L g m → Fr g L' h₁ (fun y => binds.reverse.lookup y) → News g L' h₁ news → Below A base (env :: outer) g → K.In g → Top p loose mean mg mb g →
   wpAny (model prog w) (A.deeper (envOf qual scope L' f cdv)) (execs body (envOf qual scope L' f cdv))
    (fun fl s' => LeaveT (fsOf (env :: outer)) (fsOf outer) h₀ L m g R (match fl with | .ret v => v | _ => .none) s')
    (fun e s' => wpAny (model prog w) (A.deeper (envOf qual scope L' f cdv)) (leaving (envOf qual scope L' f cdv) e) (fun _ s'' => R (.error e) s'') (fun e' s'' => R (.error e') s'') s')
    { s with heap := h₁, toks := s.toks + binds.length })
  (hco : scope.isCoroutine = false) (hgen : scope.isGenerator = false) (hk : scope.kind = .function)
  (hcell : ∀ x ∈ scope.names, x.2 ≠ .cell) : codeAny (model prog w) A (.call (.ref f) args) R s := by
 refine x0_3 (groundX (R := R) B F N hA hf hke) ?_; intro FG BG st _
 refine codeAny_call_def (fd := fnOf name qual params body scope dV kV doc pm an cdv ct) (body := body) (binds := binds) hroom ((X₀.keeps F.keep) _ _ ho) rfl (T.nolimit.keeps F.keep) (codeRec_of (X₀.keeps F.keep) hcd) rfl hbind hcell hloc (fun h₁ hns hk₁ => ?_) hco hgen hk
 refine wpAny_mono (h _ s.heap.objs.size h₁ FG ⟨hns, fun b o e => hk₁ b o (of_hideAll _ e), Nat.le_of_eq (hideAll_size _ _)⟩
  (fun p hp => ⟨hk₁ _ _ (N p hp).1, Nat.ne_of_lt (Heap.lt_size (N p hp).1), hideAll_none _ (List.mem_map_of_mem hp)⟩) BG (X₀.keeps st) (T.keeps st)) (fun fl s' hl => ?_) fun _ _ y => y
 obtain ⟨g', L', m', news', T', F', N', k⟩ := hl
 refine aJ (gw B FG hf T') ?_; intro h₀' T₁ F₁
 exact k h₀' T₁ (fr_on F₁ F') (news_on F₁ N')
end
section
variable {prog : Program} {w : World} {A₀ : Around} {E : Value → Shared → Prop} {s' : Shared} {base g h : Heap} {outer : List Env} {L a e : Addr} {m : Str → Option Value} {name : Str} {scope : Scope} {cd : Value}
 {b₀ : Stmt} {suite : List Stmt} {pos np : Pos} {rest : List ExceptHandler} {Q : Flow → Shared → Prop} {news : List (Addr × Obj)} {KF : Frag}
 {p : Program} {loose : List Str} {mean : ExcName → Option Value} {mg mb : Str → Option Value} {x : Str} {X T' : String}
theorem kU (hx : Heap.NewExc h s'.heap e X) (F : Fr g L h m) (N : News g L h news) (K : Below A₀ base outer g) (XB : KF.In base) (TB : Top p loose mean mg mb base)
  (ex : nsIn KF mainGlobals x = some none) (hv : bootBuiltins x = some (.type T')) (hn' : x ≠ "__name__")
  (hexc : isSubtype (.type T') (.type "BaseException") = pure true) (hnt : isSubtype (.type ((Manifest.find? T').elim "type" fun y => y.metatype)) (.type "tuple") = pure false) (hsub : isSubtype (.type X) (.type T') = pure true)
  (k : ∀ h' g', KtsTurn (fsOf outer) g g' → Fr g' L h' m → News g' L h' news →
   wpAny (model prog w) ((A₀.deeper (envOf name scope L a cd)).mark (some (.ref e))) (execs (b₀ :: suite) (envOf name scope L a cd)) Q E { s' with heap := h' })
  (hk : scope.kind = .function := by rfl) (hxk : (envOf name scope L a cd).kindOf x = some .globalImplicit := by rfl) (hd : (x == ("__debug__" : Str)) = false := by decide)
  (hE : PassesOwnAt (model prog w) ((A₀.deeper (envOf name scope L a cd)).mark (some (.ref e))) (A₀.deeper (envOf name scope L a cd)) (envOf name scope L a cd) E := by passes_own) :
  wpAny (model prog w) (A₀.deeper (envOf name scope L a cd)) (noteFrame (.ref e) (envOf name scope L a cd))
   (fun _ s₂ => wpAny (model prog w) (A₀.deeper (envOf name scope L a cd)) (setFlight (.ref e) none) (fun _ s₃ =>
    wpAny (model prog w) (A₀.deeper (envOf name scope L a cd)) (handleBy (.ref e) (envOf name scope L a cd) (.ExceptHandler (some (.Name x np)) none (b₀ :: suite) pos :: rest)) Q E s₃) E s₂) E s' := by
 have K' := K.push (name := name) (a := a) (cd := cd) F hk
 have hin : ∀ env ∈ (envOf name scope L a cd :: outer), ∀ b, env.frame = some b → b ∈ fsOf (envOf name scope L a cd :: outer) := fun env he b hb => List.mem_filterMap.mpr ⟨env, he, hb⟩
 have hL : (hideAll h (fsOf (envOf name scope L a cd :: outer))).get? L = none := hideAll_none _ (hin _ (.head _) L rfl)
 have hBG : ∀ b o, h.get? b = some o → b ∉ fsOf (envOf name scope L a cd :: outer) → (hideAll h (fsOf (envOf name scope L a cd :: outer))).get? b = some o := fun b o e nm => hideAll_get _ e nm
 have hl : ∀ q ∈ news, (hideAll h (fsOf (envOf name scope L a cd :: outer))).get? q.1 = some q.2 := fun q hq => hBG _ _ (N q hq).1 fun hm => by
  rcases kw rfl hm with z | z
  ·exact (N q hq).2.1 z
  ·refine aJ ((K.frames.mem z).2) ?_; intro o ho _
   rw [(N q hq).2.2] at ho; cases ho
 refine fa (hx.there) ?_; intro ob tp he hcls hdt
 have hen : (hideAll h (fsOf (envOf name scope L a cd :: outer))).get? e = none := by
  cases q : (hideAll h (fsOf (envOf name scope L a cd :: outer))).get? e with
  | none => rfl
  | some o => have := of_hideAll _ q; rw [hx.new] at this; cases this
 have hfun : s'.heap.FunFrames (hideAll h (fsOf (envOf name scope L a cd :: outer))) (envOf name scope L a cd :: outer) := (funFrames_hide K'.frames hin).of_keeps fun b o hb _ => ⟨o, hx.keeps b o hb, rfl⟩
 have hst : (hideAll h (fsOf (envOf name scope L a cd :: outer))).StaysIn s'.heap := fun b o hb => hx.keeps b o (of_hideAll _ hb)
 have hsm : h.UpToSlots s'.heap := Heap.UpToSlots.of_keeps hx.keeps
 unfold noteFrame
 simp only [show (envOf name scope L a cd).frame = some L from rfl]
 refine wpAny_bind (wpAny_field (i := 1) (x := Value.none) he hdt rfl ?_)
 rw [if_neg (show ¬ ((Value.none != Value.none) = true) from by decide)]
 refine wpAny_entryW (a0 := tp) (Around.frames_deeper K.stack) hfun rfl he hst hen hdt (by show 1 < 6; decide) rfl fun h₄ hN => ?_
 refine x0_3 (hN) ?_; (try clear hN); intro k1 k2 k3 k4
 refine wpAny_landsW (L := L) ⟨k1, hen, k2, k3⟩ fun h₅ hheld hsm₅ => ?_
 have hs₅ : h.UpToSlots h₅ := (hsm.trans k4).trans hsm₅
 refine jQ (kts_ground K F hBG hheld.1 hs₅) ?_; intro g₅ T₅ F₅ K₅
 have X₅ : KF.In g₅ := XB.keeps K₅.stays
 have P₅ : TopRead p loose mg mb g₅ := topRead_of (TB.keeps K₅.stays)
 refine aJ (hheld.there) ?_; intro ob hob hobc
 refine wpAny_handleBy_builtin (X := X) (T := T') (b := true) hexc hnt hsub (name_B F₅ X₅ P₅ ex hv hn' ⟨rfl, ⟨ob, hob, hobc.trans hcls⟩, ?_⟩ hk hxk hd)
 refine lands_againW hheld fun h₆ hfl₆ hsm₆ => ?_
 refine jQ (kts_ground K F hBG hfl₆.1 (hs₅.trans hsm₆)) ?_; intro g₆ T₆ F₆ K₆
 have Nl : News g₆ L h₆ news := fun q hq => ⟨hfl₆.1 _ _ (hl q hq), (fun z => by have := hl q hq; rw [z, hL] at this; cases this), T₆.none_ _ (N q hq).2.2⟩
 exact wpAny_passesOwnAt hE (k h₆ g₆ T₆ F₆ Nl)
end
section
variable {prog : Program} {w : World} {A : Around} {E : Value → Shared → Prop} {Q : Flow → Shared → Prop} {s : Shared} {env : Env}
noncomputable def kY (J : Nat → Shared → Prop) (Q : Flow → Shared → Prop) (n : Nat) (f : Flow) (s₃ : Shared) : Prop :=
 match f with
 | .next | .cont => ∃ n', n' < n ∧ J n' s₃
 | .brk => Q .next s₃
 | .ret v => Q (.ret v) s₃
theorem iA {test : Expr} {body orelse : List Stmt} {pos : Pos} (J : Nat → Shared → Prop) {n₀ : Nat} (hJ : J n₀ s)
  (turn : ∀ n s₁, J n s₁ → wpAny (model prog w) A (isTrue test env (eval test env)) (fun b s₂ =>
    if b = true then wpAny (model prog w) A (execs body env) (kY J Q n) E s₂ else wpAny (model prog w) A (execs orelse env) Q E s₂) E s₁)
  (hE : PassesOwn (model prog w) A env E := by passes_own) :
  wpAny (model prog w) A (exec (.While test body orelse pos) env) Q E s := by
 refine wpAny_While (codeAny_whileLoop J ?_ n₀ hJ)
 intro n s' hJ'
 refine wpAny_mono (turn n s' hJ') (fun b s₂ h₂ => ?_) hE
 cases b with
 | false =>
  simp only [Bool.false_eq_true, if_false] at h₂ ⊢
  exact wpAny_mono h₂ (fun f s₃ h₃ => h₃) hE
 | true =>
  simp only [if_true] at h₂ ⊢
  refine wpAny_mono h₂ (fun f s₃ h₃ => ?_) hE
  cases f with
  | next => exact h₃
  | cont => exact h₃
  | brk => exact h₃
  | ret v => exact h₃
end
section
variable {prog : Program} {w : World} {A : Around} {E : Value → Shared → Prop} {s : Shared} {h₀ : Heap} {L sa : Addr} {m : Str → Option Value} {news : List (Addr × Obj)} {so : Obj} {S : Str → Bool} {n : Nat} {k : Str} {t : Tok}
theorem set_in {Q : Value → Shared → Prop} (N : News h₀ L s.heap news) (hp : (sa, so) ∈ news) (hso : so.SetObjOf (PySem.strKind prog w) S n) (hb : n < scanBound) (h : Q (.bool (S k)) { s with toks := s.toks + 1 }) :
  wpAny (model prog w) A (compareOp .In (.str k t) (.ref sa)) Q E s :=
 kse_in (news := [(sa, so)]) (News.sub N fun p hp' => by rw [List.mem_singleton.mp hp']; exact hp) (UpdF.head fun _ h => nomatch h) hso hb (strKind_is _ _ _ _) rfl h
theorem set_method {pl : Sem Bool} {Q : Value × List Value → Shared → Prop} (N : News h₀ L s.heap news) (hp : (sa, so) ∈ news) (hso : so.SetObjOf (PySem.strKind prog w) S n) (hb : n < scanBound) (h : Q (.builtin "set.add", [.ref sa]) s) :
  wpAny (model prog w) A (getMethod (.ref sa) "add" pl) Q E s :=
 kse_method (news := [(sa, so)]) (News.sub N fun p hp' => by rw [List.mem_singleton.mp hp']; exact hp) (UpdF.head fun _ h => nomatch h) hso hb h
end
noncomputable abbrev bm (it : Addr) : Obj := { cls := .type "method-wrapper", data := .fields #[.builtin "list_iterator.__next__", .ref it] }
noncomputable abbrev liObj (l : Addr) (i : Nat) : Obj := { cls := .type "list_iterator", data := .fields #[.ref l, .int i 0] }
theorem slot_wd : Slot "wrapper_descriptor" "__get__" "wrapper_descriptor.__get__" :=
 .of (owner := "wrapper_descriptor") (n := "__get__") (by rw [typeLookup_type, builtinLookup_eq_fast]; kernel_rfl) (by decide +kernel) (by decide +kernel) (by decide +kernel)
  (by first | exact .inl (by decide +kernel) | exact .inr (by decide +kernel)) (by rw [isSubtype_type]; kernel_rfl)
theorem entry_wd : entryFor table "wrapper_descriptor.__get__" = some Builtin.«wrapper_descriptor.__get__» := entryFor_of_tree (by kernel_rfl)
theorem args_wd (a b c : Value) : argsOk "wrapper_descriptor.__get__" ⟨[a, b, c], []⟩ := by unfold argsOk; kernel_rfl
theorem fh : typeOf (.builtin "list_iterator.__next__") = pure (.type "wrapper_descriptor") := by show builtinType _ = _; rw [builtinType_eq_fast]; kernel_rfl
theorem look_lin : typeLookup (.type "list_iterator") "__next__" = pure (some (.builtin "list_iterator.__next__")) := by rw [typeLookup_type, builtinLookup_eq_fast]; kernel_rfl
theorem sub_li : isSubtype (.type "list_iterator") (.type "list_iterator") = pure true := by rw [isSubtype_type]; kernel_rfl
theorem lZ : (".".intercalate ("list_iterator.__next__".cutAt '.').dropLast) = "list_iterator" := by
 have e0 : "list_iterator.__next__".cutAt '.' = ["list_iterator", "__next__"] := by first | rfl | decide +kernel
 rw [e0]; decide +kernel
theorem slot_li_ga : Slot "list_iterator" "__getattribute__" "object.__getattribute__" :=
 .of (owner := "object") (n := "__getattribute__") (by rw [typeLookup_type, builtinLookup_eq_fast]; kernel_rfl) (by decide +kernel) (by decide +kernel) (by decide +kernel)
  (by first | exact .inl (by decide +kernel) | exact .inr (by decide +kernel)) (by rw [isSubtype_type]; kernel_rfl)
theorem noset_wd : typeLookup (.type "wrapper_descriptor") "__set__" = pure none := by rw [typeLookup_type, builtinLookup_eq_fast]; kernel_rfl
theorem nodel_wd : typeLookup (.type "wrapper_descriptor") "__delete__" = pure none := by rw [typeLookup_type, builtinLookup_eq_fast]; kernel_rfl
section
variable {prog : Program} {w : World} {A : Around} {E : Value → Shared → Prop} {h : Heap} {g : Array GenState} {d : Drawn} {t : Nat} {os : OsState} {a l : Addr} {i : Nat}
theorem next_get {R : Result → Shared → Prop} (hx : h.get? a = some (liObj l i)) (hq : R (.ok (.ret (.ref h.objs.size))) ⟨h.push (bm a), g, d, t, os⟩) :
  codeAny (model prog w) A (.call (.builtin "wrapper_descriptor.__get__") ⟨[.builtin "list_iterator.__next__", .ref a, .type "list_iterator"], []⟩) R ⟨h, g, d, t, os⟩ := by
 have hT : (⟨h, g, d, t, os⟩ : Shared).TypeIs (.ref a) "list_iterator" := ⟨_, hx, rfl⟩
 have hT5 : (⟨h, g, d, t, os⟩ : Shared).TypeIs (.builtin "list_iterator.__next__") "wrapper_descriptor" := fh
 have f8 : isSubtype (.type "list_iterator") (.type (".".intercalate ("list_iterator.__next__".cutAt '.').dropLast)) = pure true := by rw [lZ]; exact sub_li
 refine codeAny_call_builtin slot_wd.plain entry_wd (slot_wd.check _ _ _ _ _ _ _ _ hT5 (args_wd _ _ _) ?_)
 repeat (any_goals (first | assumption | wp_step))
theorem ku {tk : Tok} {Q : Fin → Shared → Prop} (hx : h.get? a = some (liObj l i)) (hq : Q (.done (.ret (.ref h.objs.size))) ⟨h.push (bm a), g, d, t, os⟩) :
  wpAny (model prog w) A (Builtin.«object.__getattribute__» ⟨[.ref a, .str "__next__" tk], []⟩) Q E ⟨h, g, d, t, os⟩ := by
 have hT : (⟨h, g, d, t, os⟩ : Shared).TypeIs (.ref a) "list_iterator" := ⟨_, hx, rfl⟩
 have hT5 : (⟨h, g, d, t, os⟩ : Shared).TypeIs (.builtin "list_iterator.__next__") "wrapper_descriptor" := fh
 have f4 := look_lin
 have f5 := fh
 have f6 := slot_wd.lookup
 have f7 := noset_wd
 have f8 := nodel_wd
 repeat (any_goals (first | assumption | wp_step))
 refine next_get hx ?_
 repeat (any_goals (first | assumption | wp_step))
theorem next_by {tk : Tok} {fill expr : Bool} {Q : Value → Shared → Prop} (hx : h.get? a = some (liObj l i)) (hq : Q (.ref h.objs.size) ⟨h.push (bm a), g, d, t, os⟩) :
  wpAny (model prog w) A (getAttrBy (.ref a) (.str "__next__" tk) fill expr) Q E ⟨h, g, d, t, os⟩ := by
 have hT : (⟨h, g, d, t, os⟩ : Shared).TypeIs (.ref a) "list_iterator" := ⟨_, hx, rfl⟩
 have f2 := slot_li_ga.lookup
 have f3 := slot_li_ga.bind (.ref a)
 have hx0 : (expr && onTheHeap (Value.builtin "object.__getattribute__")) = false := by cases expr <;> rfl
 repeat (any_goals (first | assumption | wp_step))
 refine codeAny_call_builtin slot_li_ga.plain F.entry_object_getattribute (slot_li_ga.check _ _ _ _ _ _ _ _ hT (eP _ _) (ku hx ?_))
 repeat (any_goals (first | assumption | wp_step))
theorem md {expr : Bool} {Q : Value → Shared → Prop} (hx : h.get? a = some (liObj l i)) (hq : Q (.ref h.objs.size) ⟨h.push (bm a), g, d, t + 1, os⟩) :
  wpAny (model prog w) A (getAttr (.ref a) "__next__" expr) Q E ⟨h, g, d, t, os⟩ := by
 unfold getAttr
 repeat (any_goals (first | assumption | with_reducible apply next_by hx | wp_step))
end
section
variable {prog : Program} {w : World} {A : Around} {E : Value → Shared → Prop} {s : Shared} {env : Env} {h₀ : Heap} {fs : List Addr}
inductive gN (fs : List Addr) (h₀ : Heap) (L : Addr) (gS : Array GenState) (dS : Drawn) (oS : OsState) (I : Addr) (o : Obj) (J : (Str → Option Value) → List (Addr × Obj) → Prop) (s₃ : Shared) : Prop where
 | mk : ∀ g' h' tk' m' nx', (s₃ = ⟨h', gS, dS, tk', oS⟩) → (KtsTurn fs h₀ g') → (Fr g' L h' m') → (News g' L h' (nx' ++ [(I, o)])) → ((∀ p ∈ nx', p.1 ≠ I)) → (J m' nx') → gN fs h₀ L gS dS oS I o J s₃
noncomputable def jO (fs : List Addr) (h₀ : Heap) (L : Addr) (s : Shared) (I : Addr) (o : Obj) (J : (Str → Option Value) → List (Addr × Obj) → Prop) (s₃ : Shared) : Prop := gN fs h₀ L s.gens s.drawn s.os I o J s₃
noncomputable def eB (fs : List Addr) (h₀ : Heap) (L : Addr) (s : Shared) (I : Addr) (o : Obj) (J : (Str → Option Value) → List (Addr × Obj) → Prop) (Q : Flow → Shared → Prop) (f : Flow) (s₃ : Shared) : Prop :=
 match f with
 | .ret v => Q (.ret v) s₃
 | .brk => Q .next s₃
 | _ => jO fs h₀ L s I o J s₃
noncomputable def bM (prog : Program) (w : World) (A : Around) (s : Shared) (env : Env) (h₀ : Heap) (fs : List Addr) (R : Result → Shared → Prop) (target : Expr) (body : List Stmt) (l : Addr) (I : Addr) (oD : Obj) (ep : Nat) (kvs : List (Prod Str Value)) (m₀ : Str → Option Value) (news : List (Prod Addr Obj)) (Q : Flow → Shared → Prop) (J : Nat → (Str → Option Value) → List (Prod Addr Obj) → Prop) : Prop := ∀ (hh : A.handled = none) (hIL : I ≠ env.locals) (hI0 : h₀.get? I = none) (ha : KdkAt (PySem.strKind prog w) oD kvs ep) (hit : s.heap.IsKeyIter I l 0 kvs.length ep) (F : Fr h₀ env.locals s.heap m₀) (N : News h₀ env.locals s.heap news) (hnI : ∀ p ∈ news, p.1 ≠ I) (hj : J 0 m₀ news) (hkeep : ∀ i m nx, J i m nx → (l, oD) ∈ nx) (turn : ∀ g i k x t m₁ nx h tk o, KtsTurn fs h₀ g → kvs[i]? = some (k, x) → J i m₁ nx → (∀ p ∈ nx, p.1 ≠ I) → Fr g env.locals h m₁ → News g env.locals h (nx ++ [(I, o)]) →
   wpAny (model prog w) A (assign target env (.str k t)) (fun _ s₂ => wpAny (model prog w) A (execs body env) (eB fs h₀ env.locals s I o (J (i + 1)) Q) (notedBy (model prog w) A env fun e s' => R (.error e) s') s₂) (notedBy (model prog w) A env fun e s' => R (.error e) s') { s with heap := h, toks := tk }) (done : ∀ g m₁ nx h tk, KtsTurn fs h₀ g → J kvs.length m₁ nx → Fr g env.locals h m₁ → News g env.locals h nx → Q .next { s with heap := h, toks := tk }) (hR : ∀ f s', Q f s' → R (.ok f) s'), codeAny (model prog w) A (.forLoop target (.ref I) body [] env) R s
noncomputable def aq : ((((Program × World) × Around) × Shared × Env) × ((Heap × (List Addr)) × (Result → Shared → Prop)) × Expr × (List Stmt)) × (((Addr × Addr) × Obj) × Nat × (List (Prod Str Value))) × ((Str → Option Value) × (List (Prod Addr Obj))) × (Flow → Shared → Prop) × (Nat → (Str → Option Value) → List (Prod Addr Obj) → Prop) := @Classical.epsilon _ (by have := neW; have := neA; have := neS; infer_instance) fun x => ¬ u19 bM x
theorem eV : u19 bM aq := by
 intro hh hIL hI0 ha hit F N hnI hj hkeep turn done hR
 refine codeAny_forLoop_any
  (fun k s' => ∃ g h' tk m' nx i, s' = { (aq.1.1.2.1) with heap := h', toks := tk } ∧ KtsTurn (aq.1.2.1.1.2) (aq.1.2.1.1.1) g ∧ h'.IsKeyIter (aq.2.1.1.1.2) (aq.2.1.1.1.1) i (aq.2.1.2.2).length (aq.2.1.2.1) ∧ Fr g (aq.1.1.2.2).locals h' m' ∧ News g (aq.1.1.2.2).locals h' nx ∧ (∀ p ∈ nx, p.1 ≠ (aq.2.1.1.1.2)) ∧ (aq.2.2.2.2) i m' nx ∧ i ≤ (aq.2.1.2.2).length ∧ k = (aq.2.1.2.2).length + 1 - i) ?_ ((aq.2.1.2.2).length + 1)
  ⟨(aq.1.2.1.1.1), (aq.1.1.2.1).heap, (aq.1.1.2.1).toks, (aq.2.2.1.1), (aq.2.2.1.2), 0, rfl, .refl, hit, F, N, hnI, hj, Nat.zero_le _, rfl⟩
 rintro k s' ⟨g, h', tk, m', nx, i, rfl, TT, hit', F', N', hn', hJ, hi, rfl⟩
 have hl' : h'.DictAt (PySem.strKind (aq.1.1.1.1.1) (aq.1.1.1.1.2)) (aq.2.1.1.1.1) (aq.2.1.2.2) (aq.2.1.2.1) := ha.dictAt (N' _ (hkeep _ _ _ hJ)).1
 have hI1 : g.get? (aq.2.1.1.1.2) = none := TT.none_ _ hI0
 have old : ∀ b o, g.get? b = some o → b ≠ (aq.2.1.1.1.2) := fun b o e hb => by rw [hb, hI1] at e; cases e
 by_cases hlt : i < (aq.2.1.2.2).length
 ·obtain ⟨⟨kx, v⟩, hv⟩ : ∃ v, (aq.2.1.2.2)[i]? = some v := ⟨(aq.2.1.2.2)[i], by simp [hlt]⟩
  refine wpAny_pyNext_dict_item hit' hl' hv fun key h₁ hkey hit₁ hs₁ => ?_
  refine aT (Value.isStrOf_shape hkey) ?_; intro t xq0b; subst xq0b
  have F₁ : Fr g (aq.1.1.2.2).locals h₁ m' := ⟨F'.ns.at' fun o e => (hs₁.2 _ (Ne.symm hIL)).trans e, fun b o e => (hs₁.2 b (old b o e)).trans (F'.keep b o e), F'.above⟩
  refine aJ (id hit₁) ?_; intro oI hoI hcI
  have N₁ : News g (aq.1.1.2.2).locals h₁ (nx ++ [((aq.2.1.1.1.2), oI)]) := fun p hp => by
   rcases List.mem_append.mp hp with hp | hp
   ·exact ⟨(hs₁.2 _ (hn' p hp)).trans (N' p hp).1, (N' p hp).2⟩
   ·rw [List.mem_singleton.mp hp]
    exact ⟨hoI, hIL, hI1⟩
  refine letGo_keyiter hit₁ ?_
  refine wpAny_mono (turn g i kx v t m' nx h₁ tk oI TT hv hJ hn' F₁ N₁) (fun _ s₂ h₂ => wpAny_mono h₂ (fun f s₃ h₃ => ?_) fun _ _ e => e) fun _ _ e => e
  have fin : jO (aq.1.2.1.1.2) (aq.1.2.1.1.1) (aq.1.1.2.2).locals (aq.1.1.2.1) (aq.2.1.1.1.2) oI ((aq.2.2.2.2) (i + 1)) s₃ → ∃ m, m < (aq.2.1.2.2).length + 1 - i ∧ ∃ g h' tk m' nx j, s₃ = { (aq.1.1.2.1) with heap := h', toks := tk } ∧ KtsTurn (aq.1.2.1.1.2) (aq.1.2.1.1.1) g ∧ h'.IsKeyIter (aq.2.1.1.1.2) (aq.2.1.1.1.1) j (aq.2.1.2.2).length (aq.2.1.2.1) ∧ Fr g (aq.1.1.2.2).locals h' m' ∧ News g (aq.1.1.2.2).locals h' nx ∧ (∀ p ∈ nx, p.1 ≠ (aq.2.1.1.1.2)) ∧ (aq.2.2.2.2) j m' nx ∧ j ≤ (aq.2.1.2.2).length ∧ m = (aq.2.1.2.2).length + 1 - j := by
   rintro ⟨g₃, h₃', tk₃, m₃, nx₃, rfl, T₃, F₃, N₃, hn₃, hJ₃⟩
   refine ⟨(aq.2.1.2.2).length + 1 - (i + 1), by omega, g₃, h₃', tk₃, m₃, nx₃, i + 1, rfl, T₃, ⟨oI, (N₃ _ (List.mem_append.mpr (.inr (.head _)))).1, hcI⟩, F₃, fun p hp => N₃ p (List.mem_append.mpr (.inl hp)), hn₃, hJ₃, hlt, rfl⟩
  cases f with
  | next => exact fin h₃
  | cont => exact fin h₃
  | brk => exact hR _ _ h₃
  | ret v => exact hR _ _ h₃
 ·have hin : i = (aq.2.1.2.2).length := by omega
  subst hin
  refine wpAny_pyNext_dict_end hh hit' hl' (by simp) fun h₁ he₁ => wpAny_execs_nil (hR _ _ ?_)
  exact done g m' nx h₁ _ TT hJ ⟨F'.ns.at' fun o e => he₁ _ o (Ne.symm hIL) e, fun b o e => he₁ b o (old b o e) (F'.keep b o e), F'.above⟩ fun p hp => ⟨he₁ _ _ (hn' p hp) (N' p hp).1, (N' p hp).2⟩
theorem gr {R : Result → Shared → Prop} {target : Expr} {body : List Stmt} {l I : Addr} {oD : Obj} {ep : Nat} {kvs : List (Str × Value)} {m₀ : Str → Option Value} {news : List (Addr × Obj)} {Q : Flow → Shared → Prop}
  (J : Nat → (Str → Option Value) → List (Addr × Obj) → Prop) (hh : A.handled = none) (hIL : I ≠ env.locals) (hI0 : h₀.get? I = none) (ha : KdkAt (PySem.strKind prog w) oD kvs ep)
  (hit : s.heap.IsKeyIter I l 0 kvs.length ep) (F : Fr h₀ env.locals s.heap m₀) (N : News h₀ env.locals s.heap news) (hnI : ∀ p ∈ news, p.1 ≠ I) (hj : J 0 m₀ news)
  (hkeep : ∀ i m nx, J i m nx → (l, oD) ∈ nx)
  (turn : ∀ g i k x t m₁ nx h tk o, KtsTurn fs h₀ g → kvs[i]? = some (k, x) → J i m₁ nx → (∀ p ∈ nx, p.1 ≠ I) → Fr g env.locals h m₁ → News g env.locals h (nx ++ [(I, o)]) →
   wpAny (model prog w) A (assign target env (.str k t)) (fun _ s₂ => wpAny (model prog w) A (execs body env) (eB fs h₀ env.locals s I o (J (i + 1)) Q) (notedBy (model prog w) A env fun e s' => R (.error e) s') s₂) (notedBy (model prog w) A env fun e s' => R (.error e) s') { s with heap := h, toks := tk })
  (done : ∀ g m₁ nx h tk, KtsTurn fs h₀ g → J kvs.length m₁ nx → Fr g env.locals h m₁ → News g env.locals h nx → Q .next { s with heap := h, toks := tk })
  (hR : ∀ f s', Q f s' → R (.ok f) s') :
  codeAny (model prog w) A (.forLoop target (.ref I) body [] env) R s := @aO _ _ (u19 bM) eV (((((prog, w), A), (s, env)), (((h₀, fs), R), (target, body))), ((((l, I), oD), (ep, kvs)), ((m₀, news), (Q, J)))) hh hIL hI0 ha hit F N hnI hj hkeep turn done hR
theorem mN {target iter : Expr} {body : List Stmt} {pos : Pos} {l : Addr} {oD : Obj} {kvs : List (Str × Value)} {m₀ : Str → Option Value} {news : List (Addr × Obj)} {Q : Flow → Shared → Prop}
  (fs : List Addr) (J : Nat → (Str → Option Value) → List (Addr × Obj) → Prop) (hh : A.handled = none) (F : Fr h₀ env.locals s.heap m₀) (N : News h₀ env.locals s.heap news) (hD : oD.IsDictOf (PySem.strKind prog w) kvs) (lo : (l == sysModules) = false)
  (hiter : ∀ Q' : Value → Shared → Prop, (∀ k, Q' (.ref l) { s with toks := k }) → wpAny (model prog w) A (eval iter env) Q' E s) (hj : J 0 m₀ news)
  (hkeep : ∀ i m nx, J i m nx → (l, oD) ∈ nx)
  (turn : ∀ g I i k x t m₁ nx h tk o, KtsTurn fs h₀ g → kvs[i]? = some (k, x) → J i m₁ nx → (∀ p ∈ nx, p.1 ≠ I) → (∀ p ∈ news, p.1 < I) → Fr g env.locals h m₁ → News g env.locals h (nx ++ [(I, o)]) →
   wpAny (model prog w) A (assign target env (.str k t)) (fun _ s₂ => wpAny (model prog w) A (execs body env) (eB fs h₀ env.locals s I o (J (i + 1)) Q) E s₂) E { s with heap := h, toks := tk })
  (done : ∀ g m₁ nx h tk, KtsTurn fs h₀ g → J kvs.length m₁ nx → Fr g env.locals h m₁ → News g env.locals h nx → Q .next { s with heap := h, toks := tk })
  (hs : ∀ x, foldedSetIterable iter env x = pure x := by intro _; rfl)
  (hE : PassesOwn (model prog w) A env E := by passes_own) :
  wpAny (model prog w) A (exec (.For target iter body [] pos) env) Q E s := by
 have hol : s.heap.get? l = some oD := (N _ (hkeep _ _ _ hj)).1
 refine aT (KdkAt.of hD) ?_; intro ep ha
 refine wpAny_For (hiter _ fun kk => wpAny_pyIter_dict (s := { s with toks := kk }) lo (ha.dictAt hol) ?_) hs
 have hlt : ∀ b o, s.heap.get? b = some o → b ≠ s.heap.objs.size := fun b o e => Nat.ne_of_lt (Heap.lt_size e)
 refine cq (id F.ns) ?_; intro oL _ _ hoL _
 refine gr (fs := fs) (R := fun r s' => match r with | .ok f => Q f s' | .error e => cameBackBy (model prog w) A env E e s') (Q := Q) (s := { s with heap := s.heap.push _, toks := kk }) (I := s.heap.objs.size) (l := l) (oD := oD) (kvs := kvs) (m₀ := m₀) (news := news) J hh (Ne.symm (hlt _ _ hoL)) ?_ ha ⟨_, Heap.get?_push_size _ rfl, rfl, rfl⟩ (F.push _) (fun p hp => ⟨Heap.get?_push_of_some _ (N p hp).1, (N p hp).2⟩) (fun p hp => hlt _ _ (N p hp).1) hj hkeep ?_ done (fun _ _ h => h)
 ·exact next_is_new F
 ·intro g i k x t m₁ nx h tk o TT hv hJ hn F₁ N₁
  refine wpAny_passesOwn hE ?_
  refine wpAny_mono (turn g s.heap.objs.size i k x t m₁ nx h tk o TT hv hJ hn (fun p hp => Heap.lt_size (N p hp).1) F₁ N₁) (fun _ s₂ h₂ => ?_) fun _ _ e => e
  exact wpAny_passesOwn hE h₂
end
section
variable {prog : Program} {w : World} {A : Around} {E : Value → Shared → Prop} {s : Shared} {W it l : Addr} {i : Nat} {items : Array Value}
theorem jS {a : Addr} {M : Model} {Q : Unit → Shared → Prop} {s : Shared} (h : Q () s) : wpAny M A (checkBoundCall "list_iterator.__next__" ⟨[.ref a], []⟩) Q E s := by
 have e : checkBoundCall "list_iterator.__next__" ⟨[.ref a], []⟩ = pure () := by first | kernel_rfl | (unfold checkBoundCall; kernel_rfl)
 rw [e]; exact wpAny_pure h
theorem gM : entryFor table "list_iterator.__next__" = some Builtin.«list_iterator.__next__» := entry_listiter_next
theorem gu {R : Result → Shared → Prop} (hW : s.heap.get? W = some (bm it))
  (h : codeAny (model prog w) A (.builtin "list_iterator.__next__" ⟨[.ref it], []⟩) R s) :
  codeAny (model prog w) A (.call (.ref W) ⟨[], []⟩) R s := by
 refine codeAny_of_tree ?_
 show wpAny _ _ (callAny (.ref W) ⟨[], []⟩) _ _ _
 simp only [callAny]
 refine wpAny_bind (wpAny_load hW ?_)
 show wpAny _ _ (do checkBoundCall "list_iterator.__next__" ⟨[.ref it], []⟩; again (.builtin "list_iterator.__next__" ⟨[.ref it], []⟩)) _ _ _
 refine wpAny_bind (jS (wpAny_pure ⟨?_, h⟩))
 first | rfl | exact Code.quiet_builtin _ (by decide +kernel)
theorem ly {x : Value} {Q : Value → Shared → Prop} (hW : s.heap.get? W = some (bm it)) (hit : s.heap.get? it = some (liObj l i)) (hl : s.heap.IsList l items) (hx : items[i]? = some x)
  (h : ∀ h', h'.get? it = some (liObj l (i + 1)) → Heap.SameBut it s.heap h' → Q x { s with heap := h' }) :
  wpAny (model prog w) A (call (.ref W) []) Q E s := by
 obtain ⟨ol, hol, _, nl, hdl⟩ := hl
 refine wpAny_call (gu hW (codeAny_builtin gM ?_))
 show wpAny _ _ (field (.ref it) 0 >>= _) _ _ s
 refine wpAny_bind (wpAny_field hit rfl (x := .ref l) rfl ?_)
 show wpAny _ _ (if (Value.ref l == Value.none) = true then _ else _) _ _ s
 rw [if_neg (show ¬ ((Value.ref l == Value.none) = true) from Bool.false_ne_true)]
 show wpAny _ _ (field (.ref it) 1 >>= _) _ _ s
 refine wpAny_bind (wpAny_field hit rfl (x := .int i 0) rfl ?_)
 show wpAny _ _ (seqItems? (.ref l) >>= _) _ _ s
 refine wpAny_bind (wpAny_seqItems hol hdl ?_)
 simp only [Int.toNat_natCast, hx]
 refine wpAny_bind (wpAny_setField hit rfl (by show 1 < 2; decide) (wpAny_pure (h _ ?_ (Heap.SameBut.update ..))))
 rw [Heap.get?_update_self _ hit rfl]
 rfl
theorem lx {Q : Value → Shared → Prop} (hh : A.handled = none) (hW : s.heap.get? W = some (bm it)) (hit : s.heap.get? it = some (liObj l i)) (hl : s.heap.IsList l items) (hx : items[i]? = none)
  (h : ∀ h₁ h' e o, Heap.SameBut it s.heap h₁ → h₁.get? it = some o → Heap.NewExc h₁ h' e "StopIteration" → E (.ref e) { s with heap := h' }) :
  wpAny (model prog w) A (call (.ref W) []) Q E s := by
 obtain ⟨ol, hol, _, nl, hdl⟩ := hl
 refine wpAny_call (gu hW (codeAny_builtin gM ?_))
 show wpAny _ _ (field (.ref it) 0 >>= _) _ _ s
 refine wpAny_bind (wpAny_field hit rfl (x := .ref l) rfl ?_)
 show wpAny _ _ (if (Value.ref l == Value.none) = true then _ else _) _ _ s
 rw [if_neg (show ¬ ((Value.ref l == Value.none) = true) from Bool.false_ne_true)]
 show wpAny _ _ (field (.ref it) 1 >>= _) _ _ s
 refine wpAny_bind (wpAny_field hit rfl (x := .int i 0) rfl ?_)
 show wpAny _ _ (seqItems? (.ref l) >>= _) _ _ s
 refine wpAny_bind (wpAny_seqItems hol hdl ?_)
 simp only [Int.toNat_natCast, hx]
 refine wpAny_bind (wpAny_rule (wpAny_bind (wpAny_setField hit rfl (by show 0 < 2; decide) ?_)))
 show wpAny _ _ (newExc (.type "StopIteration") [] >>= _) _ _ _
 refine wpAny_bind ?_
 simp only [newExc, newTuple]
 refine wpAny_bind (wpAny_newObj_type ?_ (by size_fits))
 refine wpAny_bind (m := firstArgMember _ _) (wpAny_of_eq (a := Value.none) (by first | rfl | (simp only [firstArgMember]; rfl)) ?_)
 refine wpAny_newObj_type ?_ (by size_fits)
 simp only [raiseNew]
 refine wpAny_bind (wpAny_handled ?_)
 rw [show (A.under (.builtin "list_iterator.__next__" ⟨[.ref it], []⟩)).handled = none from hh]
 refine wpAny_bind (wpAny_pure (wpAny_throw ?_))
 refine h _ _ _ _ (Heap.SameBut.update ..) (Heap.get?_update_self _ hit rfl) ⟨fun b o e => Heap.get?_push_of_some _ (Heap.get?_push_of_some _ e), ?_, ?_⟩
 ·exact Heap.get?_none_of_le (by simp [Heap.size_push])
 ·exact ⟨_, _, Heap.get?_push_size _ rfl, rfl, rfl⟩
end
section
variable {prog : Program} {w : World} {A : Around} {E : Value → Shared → Prop} {s : Shared} {h₀ : Heap} {L l a : Addr} {m : Str → Option Value} {news : List (Addr × Obj)} {its : Array Value} {n i : Nat}
theorem iter_led {Q : Value → Shared → Prop} (F : Fr h₀ L s.heap m) (N : News h₀ L s.heap news) (hp : (l, listOf its n) ∈ news)
  (h : ∀ (I : Addr) h', Fr h₀ L h' m → News h₀ L h' ((I, liObj l 0) :: news) → (∀ p ∈ news, p.1 < I) → Q (.ref I) { s with heap := h' }) :
  wpAny (model prog w) A (call (.builtin "iter") [.ref l]) Q E s := by
 refine call_function_entry (by decide +kernel) (by decide +kernel) kdk_entry_iter (kdk_args_iter _) ?_
 unfold Builtin.«iter»
 refine wpAny_bind (m := someArgs "iter" 1 2 _) (wpAny_of_eq (a := [Value.ref l]) (by first | rfl | kernel_rfl!) ?_)
 show wpAny _ _ (pyIter (.ref l) >>= _) _ _ _
 refine wpAny_bind (wpAny_pyIter_list (News.isList N hp) ?_)
 exact wpAny_pure ⟨_, rfl, h _ _ (F.push _) (News.push F N _ rfl) (fun q hq => Heap.lt_size (N q hq).1)⟩
theorem next_led {expr : Bool} {Q : Value → Shared → Prop} (F : Fr h₀ L s.heap m) (N : News h₀ L s.heap news) (hp : (a, liObj l i) ∈ news)
  (h : ∀ (W : Addr) h', Fr h₀ L h' m → News h₀ L h' ((W, bm a) :: news) → (∀ p ∈ news, p.1 < W) → Q (.ref W) { s with heap := h', toks := s.toks + 1 }) :
  wpAny (model prog w) A (getAttr (.ref a) "__next__" expr) Q E s := by
 have hx := (N _ hp).1
 obtain ⟨hp', g, d, t, os⟩ := s
 exact md hx (h _ _ (F.push _) (News.push F N _ rfl) fun q hq => Heap.lt_size (N q hq).1)
theorem gj {W it : Addr} {x : Value} {Q : Value → Shared → Prop} (F : Fr h₀ L s.heap m) (N : News h₀ L s.heap news) (hW : (W, bm it) ∈ news) (hit : (it, liObj l i) ∈ news) (hl : (l, listOf its n) ∈ news) (hx : its[i]? = some x)
  (h : ∀ h', Fr h₀ L h' m → News h₀ L h' ((it, liObj l (i + 1)) :: drawn [it] news) → Q x { s with heap := h' }) :
  wpAny (model prog w) A (call (.ref W) []) Q E s := by
 refine ly (N _ hW).1 (N _ hit).1 (News.isList N hl) hx fun h' h1 hs => ?_
 have hm := N _ hit
 refine h h' (F.change hs hm.2.1 hm.2.2) fun p hp => ?_
 rcases List.mem_cons.mp hp with rfl | hp
 ·exact ⟨h1, hm.2⟩
 ·have h2 := mem_drawn.mp hp
  have h3 : p.1 ≠ it := by simpa using h2.2
  exact ⟨(hs.2 _ h3).trans (N p h2.1).1, (N p h2.1).2⟩
theorem gi {W it : Addr} {Q : Value → Shared → Prop} (hh : A.handled = none) (F : Fr h₀ L s.heap m) (N : News h₀ L s.heap news) (hW : (W, bm it) ∈ news) (hit : (it, liObj l i) ∈ news) (hl : (l, listOf its n) ∈ news) (hx : its[i]? = none)
  (h : ∀ h₁ h' e, Fr h₀ L h₁ m → News h₀ L h₁ (drawn [it] news) → Heap.NewExc h₁ h' e "StopIteration" → E (.ref e) { s with heap := h' }) :
  wpAny (model prog w) A (call (.ref W) []) Q E s := by
 refine lx hh (N _ hW).1 (N _ hit).1 (News.isList N hl) hx fun h₁ h' e o hs h1 hn => ?_
 have hm := N _ hit
 refine h h₁ h' e (F.change hs hm.2.1 hm.2.2) (fun p hp => ?_) hn
 have h2 := mem_drawn.mp hp
 have h3 : p.1 ≠ it := by simpa using h2.2
 exact ⟨(hs.2 _ h3).trans (N p h2.1).1, (N p h2.1).2⟩
theorem mw {value slice : Expr} {p : List Value} {y : Value} {u : Tok} {Q : Value → Shared → Prop} (N : News h₀ L s.heap news) (hp : (l, listOf (p ++ [y]).toArray n) ∈ news) (h : Q y s)
  (hs : subscripted slice false (.ref l) (.int (-1) u) = operate [.ref l, .int (-1) u] (getItem (.ref l) (.int (-1) u)) := by with_unfolding_all rfl) (hg : ∀ r, letTemporaryGo value (.ref l) r = pure () := by intro _; with_unfolding_all rfl) :
  wpAny (model prog w) A (subscriptTail value slice (.ref l) (.int (-1) u)) Q E s := by
 have hl := News.isList N hp
 have hsz : (p ++ [y]).toArray.size = p.length + 1 := by rw [List.size_toArray, List.length_append]; rfl
 refine subscriptTail_builtin hl.typeIs slot_list_getitem.lookup (wpAny_getItem_list_neg hl (by decide) (by rw [hsz]; omega) (by decide) ?_ h) hs hg
 rw [hsz]
 have e : ((-1 : Int) + ((p.length + 1 : Nat) : Int)).toNat = p.length := by omega
 rw [e]; simp
theorem gx {b : Bool} {Q : Bool → Shared → Prop} (N : News h₀ L s.heap news) (hp : (l, listOf its n) ∈ news) (hfit : (its.size : Int) < 2 ^ 63) (hb : (!its.isEmpty) = b) (h : Q b { s with toks := s.toks + 1 + 1 }) :
  wpAny (model prog w) A (truthy (.ref l)) Q E s := wpAny_truthy_list (News.isList N hp) hfit (by rw [hb]; exact h)
theorem dB {W it : Addr} {pos : Pos} {env : Env} {Q : Value → Shared → Prop} (N : News h₀ L s.heap news) (hp : (W, bm it) ∈ news) (h : wpAny (model prog w) A (call (.ref W) []) Q E s) :
  wpAny (model prog w) A (callWith pos (.ref W) [] (backTo pos (starEach [] env)) []) Q E s := by
 have hW := (N _ hp).1
 show wpAny (model prog w) A (callWith pos (.ref W) [] [] []) Q E s
 unfold callWith
 refine wpAny_bind (wpAny_holding (evalArgs_nil3 (wpAny_bind (wpAny_standAt ?_))))
 refine wpAny_bind ?_
 unfold keeperOf
 refine wpAny_bind (wpAny_load hW ?_)
 show wpAny (model prog w) A (pure Keeper.machine) _ _ _
 refine wpAny_pure ?_
 dsimp only
 refine wpAny_bind (wpAny_mono h (fun r s₁ h₁ => ?_) fun _ _ e => e)
 exact wpAny_bind (wpAny_holding (wpAny_point (wpAny_pure h₁)))
end
noncomputable def MutT (rm : Nat) (w : World) (f : Addr) (args : List Value) (news : List (Addr × Obj)) (Post : List (Addr × Obj) → Value → Prop) : Prop :=
 ∀ (p : Program) (loose : List Str) (mean : ExcName → Option Value) (mg mb : Str → Option Value) (dp un : Nat) (gd : Option (List Code)) (cn : Str) (cs : Scope) (a : Addr) (ccd : Value) (cl : List (Str × Addr)) (outer : List Env) (A₀ : Around) (base h₀ : Heap) (L : Addr) (m : Str → Option Value) (s : Shared) (Q E : Value → Shared → Prop),
  Below A₀ base outer h₀ → Fr h₀ L s.heap m → (Mine.hd.heap_39 w.params).In h₀ → News h₀ L s.heap news → Top p loose mean mg mb h₀ → (Mine.hd.heap_39 w.params).In base → Top p loose mean mg mb base → cs.kind = .function → dp + rm < recursionLimit → un + 10 * rm < cLine →
  (∀ r news' h₀' h' tk', KtsTurn (fsOf outer) h₀ h₀' → Fr h₀' L h' m → News h₀' L h' news' → Post news' r → Q r { s with heap := h', toks := tk' }) →
  wpAny (model PySem.Challenge.rw_oc0257_01.prog w) (ktrTop dp un gd cn cs L a ccd cl outer) (call (.ref f) args) Q E s
structure Ent where
 v : Nat
 i : Nat
 I : Addr
 W : Addr
noncomputable def Ent.p (e : Ent) : Nat × Nat := (e.v, e.i)
noncomputable def kvsN : List Ent → List (Str × Value) → Prop
 | [], kvs => kvs = []
 | e :: r, kvs => ∃ ks t, kvs = ks ++ [(nm e.v, .int r.length t)] ∧ kvsN r ks
structure DfsLed (w : World) (G : Gr) (keep : List (Addr × Obj)) (ST IT SE ND : Addr) (fin : List Nat) (stk : List Ent) (nx : List (Addr × Obj)) : Prop where
 nd : ∃ oN kvs, (ND, oN) ∈ nx ∧ oN.IsDictOf (SK w) kvs ∧ kvsN stk kvs
 lo : (ND == sysModules) = false
 se : ∃ so Sf n, (SE, so) ∈ nx ∧ so.SetObjOf (SK w) Sf n ∧ n ≤ fin.length + stk.length ∧ ∀ v, v < 5 → Sf (nm v) = decide (v ∈ fin ++ stk.map (·.v))
 it : ∃ k, (IT, listOf (stk.map fun e => Value.ref e.W).reverse.toArray k) ∈ nx
 st : ∃ vs k, (ST, listOf vs.reverse.toArray k) ∈ nx ∧ StrsAre vs (stk.map fun e => nm e.v)
 es : ∀ e ∈ stk, (e.W, bm e.I) ∈ nx ∧ (e.I, liObj (G.sa e.v) e.i) ∈ nx
 old : ∀ p ∈ keep, p ∈ nx
 a1 : ST ≠ IT ∧ ST ≠ SE ∧ ST ≠ ND ∧ IT ≠ SE ∧ IT ≠ ND ∧ SE ≠ ND
 a2 : ∀ p ∈ keep, p.1 ≠ ST ∧ p.1 ≠ IT ∧ p.1 ≠ SE ∧ p.1 ≠ ND ∧ ∀ e ∈ stk, p.1 ≠ e.I
 a3 : ∀ e ∈ stk, (e.I ≠ ST ∧ e.I ≠ IT ∧ e.I ≠ SE ∧ e.I ≠ ND) ∧ (e.W ≠ ST ∧ e.W ≠ IT ∧ e.W ≠ SE ∧ e.W ≠ ND)
 a4 : (stk.map (·.I)).Nodup
noncomputable def dfsM (u : Str → Option Value) (D ST IT SE ND : Addr) : Str → Option Value := fun y => if y = Str.ofString "node2stacki" then some (Value.ref ND) else if y = Str.ofString "seen" then some (Value.ref SE) else if y = Str.ofString "itstack" then some (Value.ref IT) else if y = Str.ofString "stack" then some (Value.ref ST) else if y = Str.ofString "n2i" then some (Value.ref D) else u y
theorem ix {m : Str → Option Value} {D ST IT SE ND : Addr} (h1 : m (Str.ofString "node2stacki") = some (.ref ND)) (h2 : m (Str.ofString "seen") = some (.ref SE)) (h3 : m (Str.ofString "itstack") = some (.ref IT)) (h4 : m (Str.ofString "stack") = some (.ref ST)) (h5 : m (Str.ofString "n2i") = some (.ref D)) : m = dfsM m D ST IT SE ND := by
 funext y
 unfold dfsM
 by_cases e1 : y = Str.ofString "node2stacki"
 ·rw [if_pos e1, e1, h1]
 ·rw [if_neg e1]
  by_cases e2 : y = Str.ofString "seen"
  ·rw [if_pos e2, e2, h2]
  ·rw [if_neg e2]
   by_cases e3 : y = Str.ofString "itstack"
   ·rw [if_pos e3, e3, h3]
   ·rw [if_neg e3]
    by_cases e4 : y = Str.ofString "stack"
    ·rw [if_pos e4, e4, h4]
    ·rw [if_neg e4]
     by_cases e5 : y = Str.ofString "n2i"
     ·rw [if_pos e5, e5, h5]
     ·rw [if_neg e5]
theorem gJ : ∀ {stk : List Ent} {kvs : List (Str × Value)}, kvsN stk kvs → ∀ q ∈ kvs, ∃ e ∈ stk, q.1 = nm e.v
 | [], kvs, h, q, hq => by
  have e : kvs = [] := h
  rw [e] at hq; cases hq
 | e :: r, kvs, ⟨ks, t, hk, hr⟩, q, hq => by
  rw [hk] at hq
  rcases List.mem_append.mp hq with hq | hq
  ·refine aJ (gJ hr q hq) ?_; intro e' he' q'
   exact ⟨e', .tail _ he', q'⟩
  ·exact ⟨e, .head _, by rw [List.mem_singleton.mp hq]⟩
theorem fL : ∀ {stk : List Ent} {kvs : List (Str × Value)}, kvsN stk kvs → kvs.length = stk.length
 | [], kvs, h => by rw [show kvs = [] from h]; rfl
 | e :: r, kvs, ⟨ks, t, hk, hr⟩ => by
  rw [hk, List.length_append, fL hr]; rfl
theorem cW {stk : List Ent} {kvs : List (Str × Value)} (h : kvsN stk kvs) (h5 : ∀ e ∈ stk, e.v < 5) {v : Nat} (hv : v < 5) (hn : v ∉ stk.map (·.v)) : ∀ q ∈ kvs, q.1 ≠ nm v := fun q hq e => by
 refine aJ (gJ h q hq) ?_; intro e' he' q'
 exact hn (List.mem_map.mpr ⟨e', he', fE (h5 e' he') hv (q'.symm.trans e)⟩)
theorem cr {kvs : List (Str × Value)} {k : Str} (h : ∀ q ∈ kvs, q.1 ≠ k) : valueAt kvs k = none := by
 unfold valueAt
 rw [List.find?_eq_none.mpr fun q hq => by simpa using h q hq]; rfl
theorem gP {ks : List (Str × Value)} {k : Str} {x : Value} (h : ∀ q ∈ ks, q.1 ≠ k) : without (ks ++ [(k, x)]) k = ks := by
 unfold without
 rw [List.filter_append, List.filter_eq_self.mpr fun q hq => by simpa using h q hq]
 simp
theorem dP : ∀ {stk : List Ent} {kvs : List (Str × Value)} {v : Nat}, kvsN stk kvs → (∀ e ∈ stk, e.v < 5) → v ∈ stk.map (·.v) → ∃ (j : Nat) (t : Tok), valueAt kvs (nm v) = some (.int j t) ∧ j < stk.length
 | [], _, _, _, _, hm => by simp at hm
 | e :: r, kvs, v, ⟨ks, t, hk, hr⟩, h5, hm => by
  have hv5 : v < 5 := by
   refine aJ (List.mem_map.mp hm) ?_; intro e' he' q'
   rw [← q']; exact h5 e' he'
  by_cases hr' : v ∈ r.map (·.v)
  ·refine bg (dP hr (fun e' he' => h5 e' (.tail _ he')) hr') ?_; intro j t' h1 h2
   refine ⟨j, t', ?_, Nat.lt_succ_of_lt h2⟩
   rw [hk]
   unfold valueAt at h1 ⊢
   rw [List.find?_append]
   cases q : List.find? (fun kv => decide (kv.fst = nm v)) ks with
   | none => rw [q] at h1; cases h1
   | some y => rw [q] at h1; exact h1
  ·have hev : v = e.v := by
    rcases List.mem_cons.mp hm with q | q
    ·exact q
    ·exact absurd q hr'
   refine ⟨r.length, t, ?_, Nat.lt_succ_self _⟩
   have h1 := cr (cW hr (fun e' he' => h5 e' (.tail _ he')) hv5 hr')
   rw [hk]
   unfold valueAt at h1 ⊢
   rw [List.find?_append]
   cases q : List.find? (fun kv => decide (kv.fst = nm v)) ks with
   | none => rw [hev]; simp
   | some y => rw [q] at h1; cases h1
theorem set_is {prog : Program} {w : World} {A : Around} {E : Value → Shared → Prop} {s : Shared} {h₀ : Heap} {L sa : Addr} {news : List (Addr × Obj)} {so : Obj} {S : Str → Bool} {n : Nat} {k : Str} {t : Tok} {b : Bool} {Q : Value → Shared → Prop} (N : News h₀ L s.heap news) (hp : (sa, so) ∈ news) (hso : so.SetObjOf (PySem.strKind prog w) S n) (hb : n < scanBound) (hv : S k = b) (h : Q (.bool b) { s with toks := s.toks + 1 }) :
  wpAny (model prog w) A (compareOp .In (.str k t) (.ref sa)) Q E s := set_in N hp hso hb (by rw [hv]; exact h)
theorem dict_is {prog : Program} {w : World} {A : Around} {E : Value → Shared → Prop} {s : Shared} {h₀ : Heap} {L d : Addr} {news : List (Addr × Obj)} {o : Obj} {kvs : List (Str × Value)} {k : Str} {t : Tok} {b : Bool} {Q : Value → Shared → Prop} (N : News h₀ L s.heap news) (hp : (d, o) ∈ news) (hd : o.IsDictOf (PySem.strKind prog w) kvs) (lo : (d == sysModules) = false) (hv : (valueAt kvs k).isSome = b) (h : Q (.bool b) { s with toks := s.toks + 1 }) :
  wpAny (model prog w) A (compareOp .In (.str k t) (.ref d)) Q E s := kda_in N hp hd lo (strKind_is _ _ _ _) b hv h
inductive DPend (w : World) (G : Gr) (keep : List (Addr × Obj)) (D ST IT SE ND L' : Addr) (fs : List Addr) (g₀ : Heap) (s0 : Shared) (cov : List Nat) (v0 : Nat) (n : Nat) (s₁ : Shared) : Prop where
 | mk : ∀ g h tk u fin stk v t nx, (s₁ = { s0 with heap := h, toks := tk }) → (KtsTurn fs g₀ g) → (Fr g L' h (fun y => if y = Str.ofString "node" then some (.str (nm v) t) else dfsM u D ST IT SE ND y)) → (News g L' h nx) → (DfsLed w G keep ST IT SE ND fin stk nx) → (Seen G.nodes G.su fin (stk.map (·.v))) → (Path G.su fin (stk.map (·.p)) v) → (v ∈ G.nodes) → ((stk = [] → v ∉ fin)) → ((v0 ∈ fin ++ stk.map (·.v) ∨ v = v0)) → ((∀ x ∈ cov, x ∈ fin)) → (n = 505 - cost G.su fin (stk.map (·.p))) → DPend w G keep D ST IT SE ND L' fs g₀ s0 cov v0 n s₁
inductive DIdle (w : World) (G : Gr) (keep : List (Addr × Obj)) (D ST IT SE ND L' : Addr) (fs : List Addr) (g₀ : Heap) (s0 : Shared) (cov : List Nat) (v0 c0 : Nat) (n : Nat) (s₁ : Shared) : Prop where
 | mk : ∀ g h tk u fin stk nx, (s₁ = { s0 with heap := h, toks := tk }) → (KtsTurn fs g₀ g) → (Fr g L' h (dfsM u D ST IT SE ND)) → (News g L' h nx) → (DfsLed w G keep ST IT SE ND fin stk nx) → (Seen G.nodes G.su fin (stk.map (·.v))) → (Idle G.su fin (stk.map (·.p))) → (v0 ∈ fin ++ stk.map (·.v)) → ((∀ x ∈ cov, x ∈ fin)) → (c0 ≤ cost G.su fin (stk.map (·.p))) → (n = stk.length) → DIdle w G keep D ST IT SE ND L' fs g₀ s0 cov v0 c0 n s₁
theorem gZ (stk : List Ent) : (stk.map (·.p)).map (·.1) = stk.map (·.v) := by rw [List.map_map]; rfl
theorem DfsLed.toIn {w : World} {G : Gr} {keep : List (Addr × Obj)} {ST IT SE ND I : Addr} {o : Obj} {fin : List Nat} {nx : List (Addr × Obj)} (h : DfsLed w G keep ST IT SE ND fin [] nx) (hI : ∀ p ∈ nx, p.1 ≠ I) : DfsLed w G ((I, o) :: keep) ST IT SE ND fin [] (nx ++ [(I, o)]) := by
 have inl : ∀ q ∈ nx, q ∈ nx ++ [(I, o)] := fun q hq => List.mem_append.mpr (.inl hq)
 refine fa (h.nd) ?_; intro oN kvs n1 n2 n3
 refine lu (h.se) ?_; intro so Sf n s1 s2 s3 s4
 refine aT (h.it) ?_; intro k i1
 refine bg (h.st) ?_; intro vs k' t1 t2
 refine ⟨⟨oN, kvs, inl _ n1, n2, n3⟩, h.lo, ⟨so, Sf, n, inl _ s1, s2, s3, s4⟩, ⟨k, inl _ i1⟩, ⟨vs, k', inl _ t1, t2⟩, fun e he => (nomatch he), ?_, h.a1, ?_, fun e he => (nomatch he), h.a4⟩
 ·intro p hp
  rcases List.mem_cons.mp hp with rfl | hp
  ·exact List.mem_append.mpr (.inr (.head _))
  ·exact inl _ (h.old p hp)
 ·intro p hp
  rcases List.mem_cons.mp hp with rfl | hp
  ·exact ⟨Ne.symm (hI _ t1), Ne.symm (hI _ i1), Ne.symm (hI _ s1), Ne.symm (hI _ n1), fun e he => (nomatch he)⟩
  ·exact h.a2 p hp
theorem DfsLed.toOut {w : World} {G : Gr} {keep : List (Addr × Obj)} {ST IT SE ND I : Addr} {o : Obj} {fin : List Nat} {nx : List (Addr × Obj)} (h : DfsLed w G ((I, o) :: keep) ST IT SE ND fin [] nx) (hk : ∀ p ∈ keep, p.1 ≠ I) : DfsLed w G keep ST IT SE ND fin [] (drawn [I] nx) := by
 have hIn := (h.a2 _ (.head _))
 have inl : ∀ q ∈ nx, q.1 ≠ I → q ∈ drawn [I] nx := fun q hq e => mem_drawn.mpr ⟨hq, by simpa using e⟩
 refine fa (h.nd) ?_; intro oN kvs n1 n2 n3
 refine lu (h.se) ?_; intro so Sf n s1 s2 s3 s4
 refine aT (h.it) ?_; intro k i1
 refine bg (h.st) ?_; intro vs k' t1 t2
 exact ⟨⟨oN, kvs, inl _ n1 (Ne.symm hIn.2.2.2.1), n2, n3⟩, h.lo, ⟨so, Sf, n, inl _ s1 (Ne.symm hIn.2.2.1), s2, s3, s4⟩, ⟨k, inl _ i1 (Ne.symm hIn.2.1)⟩, ⟨vs, k', inl _ t1 (Ne.symm hIn.1), t2⟩, fun e he => (nomatch he), fun p hp => inl _ (h.old p (.tail _ hp)) (hk p hp), h.a1, fun p hp => h.a2 p (.tail _ hp), fun e he => (nomatch he), h.a4⟩
theorem DfsLed.push {w : World} {G : Gr} {keep : List (Addr × Obj)} {ST IT SE ND : Addr} {fin : List Nat} {stk : List Ent} {nx nx' : List (Addr × Obj)} {x : Nat} {I W : Addr} {so' oN' : Obj} {Sf' : Str → Bool} {n' k1 k2 : Nat} {kvs' : List (Str × Value)} {vs : List Value} {t : Tok}
  {g h : Heap} {L : Addr} (_ : News g L h nx') (hL : DfsLed w G keep ST IT SE ND fin stk nx) (sub : ∀ p ∈ nx, p.1 ≠ ND → p.1 ≠ SE → p.1 ≠ IT → p.1 ≠ ST → p ∈ nx') (lt : ∀ p ∈ nx, p.1 < I) (lIW : I < W)
  (hW : (W, bm I) ∈ nx') (hI : (I, liObj (G.sa x) 0) ∈ nx') (hN : (ND, oN') ∈ nx') (hNd : oN'.IsDictOf (SK w) kvs') (hk : kvsN (⟨x, 0, I, W⟩ :: stk) kvs')
  (hS : (SE, so') ∈ nx') (hSd : so'.SetObjOf (SK w) Sf' n') (hn' : n' ≤ fin.length + stk.length + 1) (hSf : ∀ v, v < 5 → Sf' (nm v) = decide (v ∈ fin ++ x :: stk.map (·.v)))
  (hIT : (IT, listOf ((stk.map fun e => Value.ref e.W).reverse.toArray.push (Value.ref W)) k1) ∈ nx') (hST : (ST, listOf (vs.reverse.toArray.push (.str (nm x) t)) k2) ∈ nx') (hvs : StrsAre vs (stk.map fun e => nm e.v)) :
  DfsLed w G keep ST IT SE ND fin (⟨x, 0, I, W⟩ :: stk) nx' := by
 refine fa (hL.nd) ?_; intro oN kvs n1 _ _
 refine cq (hL.se) ?_; intro so Sf n s1 _
 refine aT (hL.it) ?_; intro k i1
 refine bg (hL.st) ?_; intro vs0 k' t1 _
 have hST' : ST < I := lt _ t1
 have hIT' : IT < I := lt _ i1
 have hSE' : SE < I := lt _ s1
 have hND' : ND < I := lt _ n1
 refine ⟨⟨oN', kvs', hN, hNd, hk⟩, hL.lo, ⟨so', Sf', n', hS, hSd, by rw [List.length_cons]; omega, hSf⟩, ⟨k1, by simpa using hIT⟩, ⟨.str (nm x) t :: vs, k2, by simpa using hST, .cons _ _ hvs⟩, ?_, ?_, hL.a1, ?_, ?_, ?_⟩
 ·intro e he
  rcases List.mem_cons.mp he with rfl | he
  ·exact ⟨hW, hI⟩
  ·refine bj (hL.es e he) ?_; intro e1 e2
   refine fe (hL.a3 e he) ?_; intro xq17a b5 b6 b7 b8
   obtain ⟨b1, b2, b3, b4⟩ := xq17a
   exact ⟨sub _ e1 b8 b7 b6 b5, sub _ e2 b4 b3 b2 b1⟩
 ·intro p hp
  refine fe (hL.a2 p hp) ?_; intro b1 b2 b3 b4 _
  exact sub p (hL.old p hp) b4 b3 b2 b1
 ·intro p hp
  refine fe (hL.a2 p hp) ?_; intro b1 b2 b3 b4 b5
  refine ⟨b1, b2, b3, b4, fun e he => ?_⟩
  rcases List.mem_cons.mp he with rfl | he
  ·exact Nat.ne_of_lt (lt p (hL.old p hp))
  ·exact b5 e he
 ·intro e he
  rcases List.mem_cons.mp he with rfl | he
  ·exact ⟨⟨Nat.ne_of_gt hST', Nat.ne_of_gt hIT', Nat.ne_of_gt hSE', Nat.ne_of_gt hND'⟩, Nat.ne_of_gt (Nat.lt_trans hST' lIW), Nat.ne_of_gt (Nat.lt_trans hIT' lIW), Nat.ne_of_gt (Nat.lt_trans hSE' lIW), Nat.ne_of_gt (Nat.lt_trans hND' lIW)⟩
  ·exact hL.a3 e he
 ·rw [List.map_cons, List.nodup_cons]
  refine ⟨fun hm => ?_, hL.a4⟩
  refine aJ (List.mem_map.mp hm) ?_; intro e he q
  have := lt _ (hL.es e he).2
  have q' : e.I = I := q
  rw [q'] at this
  exact Nat.lt_irrefl _ this
theorem DfsLed.take {w : World} {G : Gr} {keep : List (Addr × Obj)} {ST IT SE ND : Addr} {fin : List Nat} {e : Ent} {r : List Ent} {nx nx' : List (Addr × Obj)} {g h : Heap} {L : Addr} (_ : News g L h nx')
  (hL : DfsLed w G keep ST IT SE ND fin (e :: r) nx) (hI : (e.I, liObj (G.sa e.v) (e.i + 1)) ∈ nx') (sub : ∀ p ∈ nx, p.1 ≠ e.I → p ∈ nx') (hW : ∀ e' ∈ e :: r, e'.W ≠ e.I) :
  DfsLed w G keep ST IT SE ND fin (⟨e.v, e.i + 1, e.I, e.W⟩ :: r) nx' := by
 refine fa (hL.nd) ?_; intro oN kvs n1 n2 n3
 refine lu (hL.se) ?_; intro so Sf n s1 s2 s3 s4
 refine aT (hL.it) ?_; intro k i1
 refine bg (hL.st) ?_; intro vs k' t1 t2
 refine bj (hL.a3 e (.head _)) ?_; intro xq25a _
 obtain ⟨b1, b2, b3, b4⟩ := xq25a
 have nd := hL.a4
 rw [List.map_cons, List.nodup_cons] at nd
 refine ⟨⟨oN, kvs, sub _ n1 (Ne.symm b4), n2, n3⟩, hL.lo, ⟨so, Sf, n, sub _ s1 (Ne.symm b3), s2, s3, s4⟩, ⟨k, sub _ i1 (Ne.symm b2)⟩, ⟨vs, k', sub _ t1 (Ne.symm b1), t2⟩, ?_, fun p hp => sub p (hL.old p hp) ((hL.a2 p hp).2.2.2.2 e (.head _)), hL.a1, fun p hp => ?_, fun e' he' => ?_, hL.a4⟩
 ·intro e' he'
  rcases List.mem_cons.mp he' with rfl | he'
  ·exact ⟨sub _ (hL.es e (.head _)).1 (hW e (.head _)), hI⟩
  ·refine ⟨sub _ (hL.es e' (.tail _ he')).1 (hW e' (.tail _ he')), sub _ (hL.es e' (.tail _ he')).2 fun q => nd.1 ?_⟩
   exact List.mem_map.mpr ⟨e', he', q⟩
 ·refine fe (hL.a2 p hp) ?_; intro x1 x2 x3 x4 x5
  refine ⟨x1, x2, x3, x4, fun e' he' => ?_⟩
  rcases List.mem_cons.mp he' with rfl | he'
  ·exact x5 e (.head _)
  ·exact x5 e' (.tail _ he')
 ·rcases List.mem_cons.mp he' with rfl | he'
  ·exact hL.a3 e (.head _)
  ·exact hL.a3 e' (.tail _ he')
theorem DfsLed.pop {w : World} {G : Gr} {keep : List (Addr × Obj)} {ST IT SE ND : Addr} {fin : List Nat} {e : Ent} {r : List Ent} {nx nx' : List (Addr × Obj)} {oN' : Obj} {kvs' : List (Str × Value)} {vs' : List Value} {k1 k2 : Nat} {g h : Heap} {L : Addr} (_ : News g L h nx')
  (hL : DfsLed w G keep ST IT SE ND fin (e :: r) nx) (sub : ∀ p ∈ nx, p.1 ≠ ND → p.1 ≠ IT → p.1 ≠ ST → p.1 ≠ e.I → p ∈ nx') (hW : ∀ e' ∈ r, e'.W ≠ e.I)
  (hN : (ND, oN') ∈ nx') (hNd : oN'.IsDictOf (SK w) kvs') (hk : kvsN r kvs') (hIT : (IT, listOf (r.map fun e => Value.ref e.W).reverse.toArray k1) ∈ nx') (hST : (ST, listOf vs'.reverse.toArray k2) ∈ nx') (hvs : StrsAre vs' (r.map fun e => nm e.v)) :
  DfsLed w G keep ST IT SE ND (fin ++ [e.v]) r nx' := by
 refine lu (hL.se) ?_; intro so Sf n s1 s2 s3 s4
 refine x0_5 (hL.a1) ?_; intro c1 c2 c3 c4 c5 c6
 refine bj (hL.a3 e (.head _)) ?_; intro xq29a _
 obtain ⟨b1, b2, b3, b4⟩ := xq29a
 have nd := hL.a4
 rw [List.map_cons, List.nodup_cons] at nd
 refine ⟨⟨oN', kvs', hN, hNd, hk⟩, hL.lo, ⟨so, Sf, n, sub _ s1 c6 (Ne.symm c4) (Ne.symm c2) (Ne.symm b3), s2, by rw [List.length_append, List.length_singleton]; rw [List.length_cons] at s3; omega, fun v hv => ?_⟩, ⟨k1, hIT⟩, ⟨vs', k2, hST, hvs⟩, ?_, fun p hp => ?_, hL.a1, fun p hp => ?_, fun e' he' => hL.a3 e' (.tail _ he'), nd.2⟩
 ·rw [s4 v hv]
  simp [List.append_assoc]
 ·intro e' he'
  refine fe (hL.a3 e' (.tail _ he')) ?_; intro xq30a d5 d6 d7 d8
  obtain ⟨d1, d2, d3, d4⟩ := xq30a
  refine ⟨sub _ (hL.es e' (.tail _ he')).1 d8 d6 d5 (hW e' he'), sub _ (hL.es e' (.tail _ he')).2 d4 d2 d1 fun q => nd.1 ?_⟩
  exact List.mem_map.mpr ⟨e', he', q⟩
 ·refine fe (hL.a2 p hp) ?_; intro x1 x2 x3 x4 x5
  exact sub p (hL.old p hp) x4 x2 x1 (x5 e (.head _))
 ·refine fe (hL.a2 p hp) ?_; intro x1 x2 x3 x4 x5
  exact ⟨x1, x2, x3, x4, fun e' he' => x5 e' (.tail _ he')⟩
theorem pop_app {prog : Program} {w : World} {A : Around} {E : Value → Shared → Prop} {s : Shared} {h₀ : Heap} {L D : Addr} {m : Str → Option Value} {news news' : List (Addr × Obj)} {n : Nat} {p : List Value} {y : Value} {Q : Value → Shared → Prop} (F : Fr h₀ L s.heap m) (N : News h₀ L s.heap news) (U : Upd D (listOf (p ++ [y]).toArray n) (listOf p.toArray (n + 1)) news news')
  (hz : p.length < sizeLine) (h : ∀ h', Fr h₀ L h' m → News h₀ L h' news' → Q y { s with heap := h' }) : wpAny (model prog w) A (call (.builtin "list.pop") [.ref D]) Q E s := by
 have key : ∀ p : List Value, kl_last (p ++ [y]) = some (p, y) := by
  intro p
  induction p with
  | nil => rfl
  | cons a p ih =>
   rw [List.cons_append]
   unfold kl_last
   rw [ih]
 exact kl_pop F N (key p) U (by simp; omega) h
theorem jX {xs : List Nat} {vs : List Value} {i u : Nat} (h : StrsAre vs (xs.map nm)) (hu : xs[i]? = some u) : ∃ t, vs.toArray[i]? = some (.str (nm u) t) := by
 have hl := h.len_eq
 rw [List.length_map] at hl
 refine aT (List.getElem?_eq_some_iff.mp hu) ?_; intro hi _
 obtain ⟨v, hv⟩ : ∃ v, vs[i]? = some v := ⟨vs[i]'(by omega), by simp [hl, hi]⟩
 refine bg (aS h hv) ?_; intro x t hx xq34d; subst xq34d
 rw [hu] at hx
 cases hx
 exact ⟨t, by simpa using hv⟩
theorem iF {xs : List Nat} {vs : List Value} {i : Nat} (h : StrsAre vs (xs.map nm)) (hu : xs[i]? = none) : vs.toArray[i]? = none := by
 have hl := h.len_eq
 rw [List.length_map] at hl
 have := List.getElem?_eq_none_iff.mp hu
 simp [hl, this]
theorem app_isEmpty {α : Type} {l : List α} {x : α} (h : (l ++ [x]).isEmpty = true) : False := by simp at h
theorem fr_dfs {g h : Heap} {L' : Addr} {m : Str → Option Value} {D ST IT SE ND : Addr} (F : Fr g L' h m) (h1 : m (Str.ofString "node2stacki") = some (.ref ND)) (h2 : m (Str.ofString "seen") = some (.ref SE)) (h3 : m (Str.ofString "itstack") = some (.ref IT)) (h4 : m (Str.ofString "stack") = some (.ref ST)) (h5 : m (Str.ofString "n2i") = some (.ref D)) : Fr g L' h (dfsM m D ST IT SE ND) := by
 rw [← ix h1 h2 h3 h4 h5]; exact F
noncomputable def ls (G : Gr) (news nx : List (Addr × Obj)) (r : Value) : Prop :=
 (∀ p ∈ news, p ∈ nx) ∧ ((r = .none ∧ ∃ fin, Seen G.nodes G.su fin [] ∧ ∀ v ∈ G.nodes, v ∈ fin) ∨ ∃ R vs k, r = .ref R ∧ (R, listOf vs k) ∈ nx ∧ vs.size ≤ 1000 ∧ vs.isEmpty = false ∧ ∃ C : List Nat, C ≠ [] ∧ (∀ c ∈ C, c ∈ G.nodes) ∧ ∀ c ∈ C, ∃ d ∈ C, c ∈ G.su d)
local macro_rules | `(tactic| passes_own) => wa "mine passes_own"
local macro_rules | `(tactic| k_all) => wa "mine k_all"
local macro_rules | `(tactic| k_ne) => wa "mine k_ne"
theorem rlT30 : True := by
 k_with_none
 k_with "mine hide" => first | (refine (?_ : let gk : Prop := wpAny _ ak _ _ _ _; gk); (try clear gk); intro gk) | (refine (?_ : let ak : Around := _; let gk : Prop := wpAny _ ak _ _ _ _; gk); intro ak; (try clear gk); intro gk) | (refine (?_ : let gk : Prop := _; gk); (try clear gk); intro gk)
 k_with "mine open" => first | (refine (?_ : let gk : Prop := wpAny _ ak _ _ _ _; Held gk); (try clear gk); intro gk; show gk) | (refine (?_ : let ak : Around := _; let gk : Prop := wpAny _ ak _ _ _ _; Held gk); intro ak; (try clear gk); intro gk; show gk) | (refine (?_ : let gk : Prop := _; Held gk); (try clear gk); intro gk; show gk)
 k_with "execs cons" => (k_here; (with_reducible refine aL ?_); (try clear tkw); intro tkw; (try k_fold); (with_reducible refine wpAny_execs_cons ?_); (try dsimp only))
 k_with "mine passes_own" => first | assumption | with_reducible exact PySem.PassesOwn.leaving | with_reducible exact PySem.PassesOwn.looking | with_reducible exact PySem.PassesOwnAt.leaving | with_reducible exact PySem.PassesOwnAt.looking | exact PySem.PassesOwn.leaving | exact PySem.PassesOwn.looking | exact PySem.PassesOwnAt.leaving | exact PySem.PassesOwnAt.looking
 k_with "mine k_all" => first | assumption | exact List.forall_mem_nil _ | (refine' List.forall_mem_cons.mpr ⟨?_, ?_⟩; (focus k_ne); k_all)
 k_with "exec For" => (k_here; refine held ?_)
 k_with "exec For Name Name cons nil" => (k_here; refine held ?_)
 k_with "mine k_ne" => first | assumption | exact Ne.symm (by assumption)
 k_with "subscriptTail Name" => (k_here; k_dflt (refine kda_item (by k_asm) (by walk_at "mine mem") (by assumption) (strKind_is _ _ _ _) (by assumption) ?_))
 k_with "call builtin:set.add" => case fresh => (k_here; k_dflt (refine' kse_add (knd := PySem.strKind _ _) ?F' ?N' ?U' ?d' ?z' (strKind_is _ _ _ _) rfl ?_; (case F' => k_asm); (case N' => k_asm); (case U' => k_updF); (case d' => assumption); (case z' => assumption)); intro h'' o'' F'' N'' hd''; (try dsimp only at N''))
 k_with "call builtin:iter" => case fresh => (k_here; k_dflt (refine' iter_led ?F' ?N' ?U' ?_; (case F' => k_asm); (case N' => k_asm); (case U' => walk_at "mine mem")); intro l'' h'' F'' N'' l1'; k_lt l1')
 k_with "getAttr ref" => case fresh => (k_here; (with_reducible show wpAny _ _ (getAttr (Value.ref _) (Str.ofString "__next__") _) _ _ _); k_dflt (refine' next_led ?F' ?N' ?U' ?_; (case F' => k_asm); (case N' => k_asm); (case U' => walk_at "mine mem")); intro l'' h'' F'' N'' l1'; k_lt l1')
 k_with "setItem ref str" => case fresh => (k_here; k_dflt (refine' kda_set (knd := PySem.strKind _ _) ?F' ?N' ?U' ?d' (strKind_is _ _ _ _) ?z' ?_; (case F' => k_asm); (case N' => k_asm); (case U' => k_updF); (case d' => assumption); (case z' => assumption)); intro h'' o'' F'' N'' hd''; (try dsimp only at N''))
 k_with "delItem ref str" => case fresh => (k_here; k_dflt (refine' kob_del (knd := PySem.strKind _ _) ?F' ?N' ?U' ?d' (strKind_is _ _ _ _) ?l' ?z' ?_; (case F' => k_asm); (case N' => k_asm); (case U' => k_updF); (case d' => assumption); (case l' => assumption); (case z' => assumption)); intro h'' o'' F'' N'' hd''; (try dsimp only at N''))
 k_with "subscriptTail Name Slice ref ref" => case fresh => (k_here; k_dflt (refine' kms_slice_lit ?F' ?N' ?l' ?p' ?q' ?e' ?_ ?s' ?t' ?z'; (case F' => k_asm); (case N' => k_asm); (case l' => exact News.isList (by k_asm) (by walk_at "mine mem")); (case p' => kmk_part); (case q' => kmk_part); (case e' => exact rfl); (case s' => with_unfolding_all rfl); (case t' => kmk_pure); (case z' => assumption)); intro D'' h'' F'' N'' l1'; (try k_lt l1'); (try k_sweep))
 k_with "binaryOp Add ref ref" => (k_here; refine held ?_)
 k_with "call builtin:len" => (k_here; k_dflt (refine len_list (News.isList (by k_asm) (by walk_at "mine mem")) (by assumption) ?_))
 k_with "truthy ref" => (k_here; k_dflt (refine gx (by k_asm) (by walk_at "mine mem") (by assumption) (by assumption) ?_))
 k_with "mine mem" => first | exact List.Mem.head _ | exact List.Mem.tail _ (List.Mem.head _) | exact List.Mem.tail _ (List.Mem.tail _ (List.Mem.head _)) | exact List.Mem.tail _ (List.Mem.tail _ (List.Mem.tail _ (List.Mem.head _))) | exact List.Mem.tail _ (List.Mem.tail _ (List.Mem.tail _ (List.Mem.tail _ (List.Mem.head _)))) | exact List.Mem.tail _ (List.Mem.tail _ (List.Mem.tail _ (List.Mem.tail _ (List.Mem.tail _ (List.Mem.head _))))) | exact List.Mem.tail _ (List.Mem.tail _ (List.Mem.tail _ (List.Mem.tail _ (List.Mem.tail _ (List.Mem.tail _ (List.Mem.head _)))))) | exact List.Mem.tail _ (List.Mem.tail _ (List.Mem.tail _ (List.Mem.tail _ (List.Mem.tail _ (List.Mem.tail _ (List.Mem.tail _ (List.Mem.head _)))))))| exact List.Mem.tail _ (List.Mem.tail _ (List.Mem.tail _ (List.Mem.tail _ (List.Mem.tail _ (List.Mem.tail _ (List.Mem.tail _ (List.Mem.tail _ (List.Mem.head _))))))))
 k_with "compareOp In str ref" => (k_here; k_dflt (first | refine set_is (by k_asm) (by walk_at "mine mem") (by assumption) (by assumption) (by assumption) ?_ | refine dict_is (by k_asm) (by walk_at "mine mem") (by assumption) (by assumption) (by assumption) ?_ | refine set_in (by k_asm) (by walk_at "mine mem") (by assumption) (by assumption) ?_))
 k_with "subscriptTail Name UnaryOp ref int" => (k_here; k_dflt (refine mw (by k_asm) (by walk_at "mine mem") ?_))
 k_with "getMethod ref" => case fresh => (k_here; (with_reducible show wpAny _ _ (getMethod (Value.ref _) (Str.ofString "pop") _) _ _ _); k_dflt (refine' kl_method ?N' ?m' PySem.F.slot_list_pop PySem.F.type_list_pop ?_; (case N' => k_asm); (case m' => walk_at "mine mem")))
 k_with "call builtin:list.pop" => case fresh => (k_here; k_dflt (refine' pop_app ?F' ?N' ?U' ?z' ?_; (case F' => k_asm); (case N' => k_asm); (case U' => k_upd); (case z' => assumption)); intro h'' F'' N''; (try dsimp only at N''))
 k_with "callWith ref" => (k_here; refine held ?_)
 k_with "exec While" => (k_here; refine held ?_)
 k_with "mine enterT" => case fresh => (refine' kS ?k1' ?k2' ?k3' ?k4' ?k5' ?kA' ?kF' ?kK' ?k6' ?k7' ?k8' ?k9' ?kB' ?_ ?c2' ?c3' ?c4' ?c5'; (case kA' => exact rfl); (case kF' => exact rfl); (case kK' => assumption); (case k1' => k_asm); (case k2' => k_asm); (case k3' => k_asm); (case k4' => k_asm); (case k5' => k_asm); (case k6' => k_is); (case k7' => k_is); (case k8' => ktr_room); (case k9' => exact BindsTo.of_eq rfl); (case c5' => decide); (case kB' => exact locs rfl); (case c2' => exact rfl); (case c3' => exact rfl); (case c4' => exact rfl); k_whole; intro g'' L'' h'' FG'' F'' N'' B'' X'' T''; (try dsimp only); (try k_lift B''); (try k_fold))
 trivial
inductive CycJ (w : World) (G : Gr) (news : List (Addr × Obj)) (D ST IT SE ND : Addr) (i : Nat) (m : Str → Option Value) (nx : List (Addr × Obj)) : Prop where
 | mk : ∀ u fin, (m = dfsM u D ST IT SE ND) → (DfsLed w G news ST IT SE ND fin [] nx) → (Seen G.nodes G.su fin []) → (∀ v ∈ G.nodes.take i, v ∈ fin) → CycJ w G news D ST IT SE ND i m nx
noncomputable def dL (w : World) (S : Addr) (dx : Addr) (D : Addr) (rv : Value) (po : Value) (nf : Value) (G : Gr) (news : List (Prod Addr Obj)) : Prop := ∀ (h : SrtIn w S dx D rv po nf G news) (hcl : ∀ v ∈ G.nodes, ∀ s ∈ G.su v, s ∈ G.nodes) (hsl : ∀ v, (G.su v).length ≤ 100), MutT 20 w 200 [.ref S] news (ls G news)
noncomputable def aw : (((World × Addr) × Addr) × Addr × Value) × (Value × Value) × Gr × (List (Prod Addr Obj)) := @Classical.epsilon _ (by have := neW; have := neG; infer_instance) fun x => ¬ u9 dL x
theorem kE : u9 dL aw := by
 intro h hcl hsl
 refine bO (h.fld) ?_; intro t1 t2 t3 t4 hfld
 have hinst := h.inst
 unfold MutT
 k_fill
 intro p loose mean mg mb dp un gd cn cs a ccd cl outer A₀ base h₀ L m s Q E B F XX N T XB TB hk hd hu hret
 replace N : News h₀ L s.heap (((aw.1.1.1.2), instObj 210 (aw.1.1.2)) :: ((aw.1.1.2), sdict (aw.1.1.1.1) t1 t2 t3 t4 (aw.1.2.1) (aw.1.2.2) (aw.2.1.1) (aw.2.1.2) 4) :: (aw.2.2.2)) := News.sub N (List.forall_mem_cons.mpr ⟨hinst, List.forall_mem_cons.mpr ⟨hfld, fun _ h => h⟩⟩)
 refine wpAny_call ?_
 k_dflt walk_at "mine enterT"
 k_steps
 rename_i g' L' hh1 FG B' X' T' tkA hh2 tkB ST hh3 lst hh4 tkC IT hh5 lit hh6 tkD SE hh7 led hs1 hz lse hh8 tkE ND hh9 oN loN hN fs hi fi lnd hh10 F5 N5
 walk_at "mine open"
 refine aJ (h.tab) ?_; intro oD htab hD
 have lo := h.lo
 have hnews : ∀ q ∈ (aw.2.2.2), q.1 < ST := by
  have := lst.2.2
  exact tb_ltOf this
 refine mN (fsOf (envX cn cs L a ccd cl :: outer)) (l := (aw.1.2.1)) (oD := oD) (kvs := kvsOf (aw.2.2.1)) (CycJ (aw.1.1.1.1) (aw.2.2.1) (aw.2.2.2) (aw.1.2.1) ST IT SE ND) rfl F5 N5 hD lo (fun Q' h' => ?_) ?_ ?_ ?_ ?_
 ·k_steps
  exact h' _
 ·refine ⟨_, [], ix rfl rfl rfl rfl rfl, ⟨⟨oN, [], .head _, hN, rfl⟩, loN, ⟨_, _, 0, .tail _ (.head _), hz, Nat.le_refl _, fun v _ => by simp⟩, ⟨0, .tail _ (.tail _ (.head _))⟩, ⟨[], 0, .tail _ (.tail _ (.tail _ (.head _))), .nil⟩, fun e he => (nomatch he), fun q hq => .tail _ (.tail _ (.tail _ (.tail _ (.tail _ (.tail _ hq))))), ?_, ?_, fun e he => (nomatch he), List.nodup_nil⟩, ⟨fun v hv => (nomatch hv), List.nodup_nil, fun a v b e => by simp at e⟩, fun v hv => by simp at hv⟩
  ·exact ⟨Nat.ne_of_lt lit.1, Nat.ne_of_lt lse.2.1, Nat.ne_of_lt lnd.2.2.1, Nat.ne_of_lt lse.1, Nat.ne_of_lt lnd.2.1, Nat.ne_of_lt lnd.1⟩
  ·intro q hq
   have q1 := hnews q hq
   have q2 := Nat.lt_trans q1 lit.1
   have q3 := Nat.lt_trans q2 lse.1
   have q4 := Nat.lt_trans q3 lnd.1
   exact ⟨Nat.ne_of_lt q1, Nat.ne_of_lt q2, Nat.ne_of_lt q3, Nat.ne_of_lt q4, fun e he => (nomatch he)⟩
 ·rintro i m nx ⟨u, fin, rfl, hL, _⟩
  exact hL.old _ htab
 ·intro g I i kx vx tx m₁ nx hh tk o TT hkx zp1 hI hIn F₁ N₁
  walk_at "mine hide"
  obtain ⟨u, fin, rfl, hL, hSn, hcov⟩ := zp1
  replace F₁ : Fr g L' hh _ := F₁
  replace N₁ : News g L' hh _ := N₁
  have B1 := bd B' TT
  have X1 := XB.keeps B1.stays
  have T1 := TB.keeps B1.stays
  obtain ⟨v, hv, rfl⟩ : ∃ v, (aw.2.2.1).nodes[i]? = some v ∧ kx = nm v := by
   unfold kvsOf at hkx
   rw [List.getElem?_map] at hkx
   cases e : (aw.2.2.1).nodes[i]? with
   | none => rw [e] at hkx; cases hkx
   | some v =>
    rw [e] at hkx
    exact ⟨v, rfl, by injection hkx with hkx; injection hkx with a b; exact a.symm⟩
  have hvn : v ∈ (aw.2.2.1).nodes := List.mem_of_getElem? hv
  have hv5 := h.lt5 v hvn
  refine lu (hL.se) ?_; intro so Sf n hSE hset hn hSf
  have inl : ∀ q ∈ nx, q ∈ nx ++ [(I, o)] := fun q hq => List.mem_append.mpr (.inl hq)
  have hb : n < scanBound := by
   have e0 : scanBound = 4096 := rfl
   have e1 := aV 5 _ hSn.nd fun u hu => h.lt5 u (hSn.sub u hu)
   simp at e1 hn
   omega
  replace N₁ : News g L' hh ((SE, so) :: (nx ++ [(I, o)])) := News.sub N₁ (List.forall_mem_cons.mpr ⟨inl _ hSE, fun _ h => h⟩)
  k_steps
  ·rename_i hsv
   rename Fr _ _ _ _ => F2
   rename News _ _ _ _ => N2
   rename Heap => hh2
   have hvf : v ∈ fin := by
    rw [hSf v hv5] at hsv
    simpa using hsv
   refine ⟨g, _, _, _, nx, rfl, TT, F2, News.sub N2 fun q hq => .tail _ hq, hI, _, fin, ix rfl rfl rfl rfl rfl, hL, hSn, ?_⟩
   intro x hx
   rw [List.take_add_one, hv] at hx
   rcases List.mem_append.mp hx with hx | hx
   ·exact hcov x hx
   ·have : x = v := by simpa using hx
    rw [this]; exact hvf
  ·rename_i hsv
   rename Fr _ _ _ _ => F2
   rename News _ _ _ _ => N2
   rename Heap => hh2
   walk_at "mine open"
   have hvf : v ∉ fin := by
    rw [hSf v hv5] at hsv
    simpa using hsv
   refine iA (DPend (aw.1.1.1.1) (aw.2.2.1) ((I, o) :: (aw.2.2.2)) (aw.1.2.1) ST IT SE ND L' (fsOf (envX cn cs L a ccd cl :: outer)) g' s ((aw.2.2.1).nodes.take i) v) (n₀ := 505 - cost (aw.2.2.1).su fin []) ⟨g, _, _, u, fin, [], v, tx, _, rfl, TT, F2, News.sub N2 fun q hq => .tail _ hq, hL.toIn hI, hSn, trivial, hvn, fun _ => hvf, .inr rfl, hcov, rfl⟩ ?_
   rintro n s₁ ⟨g2, h2, tk3, u2, fin2, stk, x, t, nx2, rfl, TT2, F3, N3, hL2, hSn2, hPa, hxn, hst0, hv0, hcov2, rfl⟩
   have B2 := bd B' TT2
   have X2 := XB.keeps B2.stays
   have T2 := TB.keeps B2.stays
   have hx5 := h.lt5 x hxn
   have hlen5 := aV 5 _ hSn2.nd fun u hu => h.lt5 u (hSn2.sub u hu)
   rw [List.length_append, List.length_map] at hlen5
   have hstk5 : ∀ e ∈ stk, e.v < 5 := fun e he => h.lt5 _ (hSn2.sub _ (List.mem_append.mpr (.inr (List.mem_map.mpr ⟨e, he, rfl⟩))))
   refine fa (hL2.nd) ?_; intro oN2 kvs hND hNd hkv
   have hNlo := hL2.lo
   refine lu (hL2.se) ?_; intro so2 Sf2 n2 hSE2 hset2 hn2 hSf2
   have hb2 : n2 < scanBound := by
    have e0 : scanBound = 4096 := rfl
    omega
   refine aT (hL2.it) ?_; intro ki hIT
   refine bg (hL2.st) ?_; intro vs ks hST hvs
   generalize hc0 : cost (aw.2.2.1).su fin2 (stk.map (·.p)) = c0
   refine wpAny_mono (Q := fun b s₂ => b = true ∧ s₂ = { s with heap := h2, toks := tk3 }) (by k_steps) (fun b s₂ hb => ?_) (fun _ _ e => e)
   refine bj (hb) ?_; (try clear hb); intro xq43a; subst xq43a; intro xq43b; subst xq43b
   rw [if_pos rfl]
   refine wpAny_execs_cons (wpAny_mono (Q := fun f s₂ => (f = .next ∧ ∃ n, DIdle (aw.1.1.1.1) (aw.2.2.1) ((I, o) :: (aw.2.2.2)) (aw.1.2.1) ST IT SE ND L' (fsOf (envX cn cs L a ccd cl :: outer)) g' s ((aw.2.2.1).nodes.take i) v c0 n s₂) ∨ ∃ r, f = .ret r ∧ qk (.ret r) s₂) ?_ ?_ (fun _ _ e => e))
   ·by_cases hfx : x ∈ fin2
    ·have hf1 : Sf2 (nm x) = true := by rw [hSf2 x hx5]; simp [hfx]
     have hxs : x ∉ stk.map (·.v) := fun q => (List.nodup_append.mp hSn2.nd).2.2 x hfx x q rfl
     have hf2 : (valueAt kvs (nm x)).isSome = false := by rw [cr (cW hkv hstk5 hx5 hxs)]; rfl
     have hne : stk ≠ [] := fun e => hst0 e hfx
     replace N3 : News g2 L' h2 ((ND, oN2) :: (SE, so2) :: nx2) := News.sub N3 (List.forall_mem_cons.mpr ⟨hND, List.forall_mem_cons.mpr ⟨hSE2, fun _ h => h⟩⟩)
     k_steps
     refine .inl ⟨rfl, _, g2, h2, _, _, fin2, stk, nx2, rfl, TT2, fr_dfs F3 rfl rfl rfl rfl rfl, News.sub N3 fun q hq => .tail _ (.tail _ hq), hL2, hSn2, ?_, ?_, hcov2, Nat.le_of_eq hc0.symm, rfl⟩
     ·cases stk with
      | nil => exact absurd rfl hne
      | cons e r => exact iR hPa hfx
     ·rcases hv0 with q | q
      ·exact q
      ·rw [← q]; exact List.mem_append.mpr (.inl hfx)
    ·by_cases hsx : x ∈ stk.map (·.v)
     ·have hf1 : Sf2 (nm x) = true := by rw [hSf2 x hx5]; simp [List.mem_append, hsx]
      refine bg (dP hkv hstk5 hsx) ?_; intro j tj hval hj
      have hf2 : (valueAt kvs (nm x)).isSome = true := by rw [hval]; rfl
      have hvsl : vs.length = stk.length := by
       have := hvs.len_eq
       rwa [List.length_map] at this
      have hsz : vs.reverse.toArray.size ≤ sizeLine := by
       have e0 : sizeLine = 16777216 := rfl
       rw [List.size_toArray, List.length_reverse]; omega
      replace N3 : News g2 L' h2 ((ND, oN2) :: (SE, so2) :: (ST, listOf vs.reverse.toArray ks) :: nx2) := News.sub N3 (List.forall_mem_cons.mpr ⟨hND, List.forall_mem_cons.mpr ⟨hSE2, List.forall_mem_cons.mpr ⟨hST, fun _ h => h⟩⟩⟩)
      k_steps
      rename_i D1 h7 l7 L1 h8 F8 N8 l8
      walk_at "mine open"
      have hpk : (kms_pick vs.reverse (some (j : Int)) none).length ≤ 5 := by
       unfold kms_pick
       rw [List.length_take, List.length_drop, List.length_reverse]; omega
      refine kmk_add_lit (zs := kms_pick vs.reverse (some (j : Int)) none ++ [Value.str (nm x) t]) F8 N8 (News.isList N8 (.tail _ (.head _))) (News.isList N8 (.head _)) rfl ?_ ?_
      ·intro D9 h9 F9 N9 l9
       refine jQ (ring_of hPa (by rw [gZ]; exact hsx)) ?_; intro C hC1 hC2 hC3
       refine .inr ⟨_, rfl, g2, L', _, _, TT2, F9, N9, fun h₀' T₂ F₂ N₂ => hret _ _ h₀' _ _ T₂ F₂ N₂ ⟨fun q hq => .tail _ (.tail _ (.tail _ (.tail _ (.tail _ (.tail _ (hL2.old q (.tail _ hq))))))), .inr ⟨D9, _, _, rfl, .head _, ?_, ?_, C, hC1, fun c hc => ?_, hC3⟩⟩⟩
       ·rw [List.size_toArray, List.length_append]
        have e1 : [Value.str (nm x) t].length = 1 := rfl
        omega
       ·simp
       ·have := hC2 c hc
        rw [gZ] at this
        exact hSn2.sub c (List.mem_append.mpr (.inr this))
      ·have e0 : sizeLine = 16777216 := rfl
       show (kms_pick vs.reverse (some (j : Int)) none).length + 1 ≤ _
       omega
     ·have hf1 : Sf2 (nm x) = false := by rw [hSf2 x hx5]; simp [List.mem_append, hsx, hfx]
      refine bX (h.info x hxn) ?_; intro yi yn hi
      have hdd := h.dict x hxn
      refine bg (h.succ x hxn) ?_; intro sws sk hsw hsS
      have hvalD : valueAt (kvsOf (aw.2.2.1)) (nm x) = some (.ref ((aw.2.2.1).ia x)) := by rw [bk h.lt5 hx5]; exact if_pos hxn
      refine x0_5 (hL2.a1) ?_; intro c1 c2 c3 c4 c5 c6
      refine fe (hL2.a2 _ (.tail _ htab)) ?_; intro d1 d2 d3 d4 _
      refine fe (hL2.a2 _ (.tail _ hi)) ?_; intro i1 i2 i3 i4 _
      refine fe (hL2.a2 _ (.tail _ hdd)) ?_; intro j1 j2 j3 j4 _
      refine fe (hL2.a2 _ (.tail _ hsw)) ?_; intro k1 k2 k3 k4 _
      have r1 : ∀ q ∈ drawn [ND, SE, IT, ST] nx2, q.1 ≠ ND := aE (.head _)
      have r2 : ∀ q ∈ drawn [ND, SE, IT, ST] nx2, q.1 ≠ SE := aE (.tail _ (.head _))
      have r3 : ∀ q ∈ drawn [ND, SE, IT, ST] nx2, q.1 ≠ IT := aE (.tail _ (.tail _ (.head _)))
      have r4 : ∀ q ∈ drawn [ND, SE, IT, ST] nx2, q.1 ≠ ST := aE (.tail _ (.tail _ (.tail _ (.head _))))
      have hb3 : n2 + 1 < scanBound := by
       have e0 : scanBound = 4096 := rfl
       omega
      have hkl : kvs.length ≤ sizeLine := by
       have e0 : sizeLine = 16777216 := rfl
       rw [fL hkv]; omega
      have hvl : vs.reverse.length ≤ sizeLine := by
       have e0 : sizeLine = 16777216 := rfl
       have := hvs.len_eq
       rw [List.length_map] at this
       rw [List.length_reverse]; omega
      have hvf : ((vs.reverse.toArray.size : Nat) : Int) < 2 ^ 63 := by
       have e0 : sizeLine = 16777216 := rfl
       rw [List.size_toArray]; omega
      have hil : (stk.map fun e => Value.ref e.W).reverse.length ≤ sizeLine := by
       have e0 : sizeLine = 16777216 := rfl
       rw [List.length_reverse, List.length_map]; omega
      replace N3 : News g2 L' h2 ((ND, oN2) :: (SE, so2) :: (IT, listOf (stk.map fun e => Value.ref e.W).reverse.toArray ki) :: (ST, listOf vs.reverse.toArray ks) :: ((aw.1.2.1), oD) :: ((aw.2.2.1).ia x, aU ((aw.2.2.1).da x) (nm x) yi (.int ((aw.2.2.1).np x) yn) ((aw.2.2.1).sa x)) :: ((aw.2.2.1).da x, dictOf [] 0) :: ((aw.2.2.1).sa x, listOf sws.toArray sk) :: drawn [ND, SE, IT, ST] nx2) := News.sub N3 (List.forall_mem_cons.mpr ⟨hND, List.forall_mem_cons.mpr ⟨hSE2, List.forall_mem_cons.mpr ⟨hIT, List.forall_mem_cons.mpr ⟨hST, List.forall_mem_cons.mpr ⟨hL2.old _ (.tail _ htab), List.forall_mem_cons.mpr ⟨hL2.old _ (.tail _ hi), List.forall_mem_cons.mpr ⟨hL2.old _ (.tail _ hdd), List.forall_mem_cons.mpr ⟨hL2.old _ (.tail _ hsw), aI⟩⟩⟩⟩⟩⟩⟩⟩)
      k_steps
      rename_i o1 hd1 tk2 I3 h4 lI W3 h3 lW h2' tk1 h1' oN3 hdN h9 F9 N9
      have lI' : ∀ q ∈ nx2, q.1 < I3 := fun q hq => by
       by_cases e1 : q.1 = ND
       ·rw [e1]; exact lI.1
       ·by_cases e2 : q.1 = SE
        ·rw [e2]; exact lI.2.1
        ·by_cases e3 : q.1 = IT
         ·rw [e3]; exact lI.2.2.1
         ·by_cases e4 : q.1 = ST
          ·rw [e4]; exact lI.2.2.2.1
          ·exact tb_ltOf lI.2.2.2.2.2.2.2.2 q (mem_drawn.mpr ⟨hq, by simp [e1, e2, e3, e4]⟩)
      rw [if_neg (by rw [hf1]; decide)] at hd1
      have hvn := cr (cW hkv hstk5 hx5 hsx)
      rw [stored_absent hvn] at hdN
      have hvsl : vs.reverse.toArray.size = stk.length := by
       have := hvs.len_eq
       rw [List.length_map] at this
       rw [List.size_toArray, List.length_reverse, this]
      rw [hvsl] at hdN
      have hL3 : DfsLed (aw.1.1.1.1) (aw.2.2.1) ((I, o) :: (aw.2.2.2)) ST IT SE ND fin2 (⟨x, 0, I3, W3⟩ :: stk) _ := DfsLed.push N9 hL2 (fun q hq e1 e2 e3 e4 => .tail _ (.tail _ (.tail _ (.tail _ (.tail _ (.tail _ (.tail _ (.tail _ (.tail _ (.tail _ (mem_drawn.mpr ⟨hq, by simp [e1, e2, e3, e4]⟩))))))))))) lI' lW.1 (.head _) (.tail _ (.head _)) (.tail _ (.tail _ (.head _))) hdN ⟨kvs, _, rfl, hkv⟩ (.tail _ (.tail _ (.tail _ (.head _)))) hd1 (by omega)
       (fun v hv => by
        rw [hSf2 v hv]
        by_cases e : v = x
        ·subst e; simp
        ·have : nm v ≠ nm x := fun q => e (fE hv hx5 q)
         simp [e, this]) (.tail _ (.tail _ (.tail _ (.tail _ (.head _))))) (.tail _ (.tail _ (.tail _ (.tail _ (.tail _ (.head _)))))) hvs
      refine .inl ⟨rfl, _, g2, h9, _, _, fin2, ⟨x, 0, I3, W3⟩ :: stk, _, rfl, TT2, fr_dfs F9 rfl rfl rfl rfl rfl, N9, hL3, lQ hSn2 ?_ hxn, mx hPa, ?_, hcov2, ?_, rfl⟩
      ·simp [List.mem_append, hfx, hsx]
      ·rcases hv0 with q | q
       ·rcases List.mem_append.mp q with q | q
        ·exact List.mem_append.mpr (.inl q)
        ·exact List.mem_append.mpr (.inr (.tail _ q))
       ·rw [← q]; exact List.mem_append.mpr (.inr (.head _))
      ·rw [List.map_cons]
       have := mG (su := (aw.2.2.1).su) (fin := fin2) (stk := stk.map (·.p)) (v := x)
       rw [← hc0]
       show _ ≤ cost (aw.2.2.1).su fin2 ((x, 0) :: stk.map (·.p))
       omega
   ·rintro f s₂ (⟨rfl, n1, g3, h3, tk4, u3, fin3, stk3, nx3, rfl, TT3, F4, N4, hL3, hSn3, hId, hv3, hcov3, hc3, rfl⟩ | ⟨r, rfl, hq⟩)
    ·refine wpAny_execs_cons ?_
     k_steps
     walk_at "mine open"
     refine iA (DIdle (aw.1.1.1.1) (aw.2.2.1) ((I, o) :: (aw.2.2.2)) (aw.1.2.1) ST IT SE ND L' (fsOf (envX cn cs L a ccd cl :: outer)) g' s ((aw.2.2.1).nodes.take i) v c0) (n₀ := stk3.length) ⟨g3, h3, tk4, u3, fin3, stk3, nx3, rfl, TT3, F4, N4, hL3, hSn3, hId, hv3, hcov3, hc3, rfl⟩ ?_
     rintro n s₁ ⟨g4, h4, tk5, u4, fin4, stk4, nx4, rfl, TT4, F5, N5, hL4, hSn4, hId4, hv4, hcov4, hc4, rfl⟩
     have B4 := bd B' TT4
     have X4 := XB.keeps B4.stays
     have T4 := TB.keeps B4.stays
     have hlen4 := aV 5 _ hSn4.nd fun u hu => h.lt5 u (hSn4.sub u hu)
     rw [List.length_append, List.length_map] at hlen4
     refine bg (hL4.st) ?_; intro vs4 ks4 hST4 hvs4
     have hvl4 : vs4.length = stk4.length := by
      have := hvs4.len_eq
      rwa [List.length_map] at this
     have hvf4 : ((vs4.reverse.toArray.size : Nat) : Int) < 2 ^ 63 := by
      rw [List.size_toArray, List.length_reverse]; omega
     cases stk4 with
     | nil =>
      have e4 : vs4 = [] := List.length_eq_zero_iff.mp hvl4
      subst e4
      replace N5 : News g4 L' h4 ((ST, listOf ([] : List Value).toArray ks4) :: nx4) := News.sub N5 (List.forall_mem_cons.mpr ⟨hST4, fun _ h => h⟩)
      refine wpAny_mono (Q := fun b s₂ => b = false ∧ ∃ tk, s₂ = { s with heap := h4, toks := tk }) (by k_steps) (fun b s₂ hb => ?_) (fun _ _ e => e)
      obtain ⟨rfl, tk6, rfl⟩ := hb
      rw [if_neg (by decide)]
      k_steps
      refine wpAny_execs_nil ?_
      have hkI : ∀ p ∈ (aw.2.2.2), p.1 ≠ I := fun p hp => hI p (hL.old p hp)
      refine ⟨g4, _, _, _, drawn [I] nx4, rfl, TT4, F5, ?_, aE (.head _), u4, fin4, rfl, hL4.toOut hkI, hSn4, fun y hy => ?_⟩
      ·refine News.sub N5 fun q hq => ?_
       rcases List.mem_append.mp hq with hq | hq
       ·exact .tail _ (aI q hq)
       ·rw [List.mem_singleton.mp hq]
        exact .tail _ (hL4.old _ (.head _))
      ·rw [List.take_add_one, hv] at hy
       rcases List.mem_append.mp hy with hy | hy
       ·exact hcov4 y hy
       ·have : y = v := by simpa using hy
        rw [this]
        simpa using hv4
     | cons e r =>
      have hev : e.v ∈ (aw.2.2.1).nodes := hSn4.sub _ (List.mem_append.mpr (.inr (.head _)))
      have he5 := h.lt5 _ hev
      refine bg (h.succ e.v hev) ?_; intro sws sk hsw hsS
      refine bj (hL4.es e (.head _)) ?_; intro hWm hIm
      refine aT (hL4.it) ?_; intro ki4 hIT4
      obtain ⟨v0', vs4', rfl, t4', rfl, hvs4'⟩ : ∃ v0' vs4', vs4 = v0' :: vs4' ∧ ∃ t4', v0' = .str (nm e.v) t4' ∧ StrsAre vs4' (r.map fun e => nm e.v) := by
       cases hvs4 with
       | cons y t hr => exact ⟨_, _, rfl, _, rfl, hr⟩
      have e6 : ((e :: r).map fun e => Value.ref e.W).reverse = (r.map fun e => Value.ref e.W).reverse ++ [Value.ref e.W] := by rw [List.map_cons, List.reverse_cons]
      rw [e6] at hIT4
      rw [List.reverse_cons] at hST4
      refine wpAny_mono (Q := fun b s₂ => b = true ∧ ∃ tk, s₂ = { s with heap := h4, toks := tk }) ?_ (fun b s₂ hb => ?_) (fun _ _ e => e)
      ·have hb4 : (!(vs4'.reverse ++ [Value.str (nm e.v) t4']).toArray.isEmpty) = true := by simp
       rw [List.reverse_cons] at hvf4
       generalize hits : (vs4'.reverse ++ [Value.str (nm e.v) t4']).toArray = its at hb4 hvf4 hST4
       replace N5 : News g4 L' h4 ((ST, listOf its ks4) :: nx4) := News.sub N5 (List.forall_mem_cons.mpr ⟨hST4, fun _ h => h⟩)
       clear hits hIT4 e6 hvs4' hvl4 hlen4 hL4 hSn4 hId4 hv4 hcov4 hc4 hsw hsS hWm hIm hev he5 hSn hcov hSf hn hset hL hv0 hcov2 hSn2 hPa hL2 hsv hL3 hSn3 hId hv3 hcov3 hc3
       k_steps
      obtain ⟨rfl, tk6, rfl⟩ := hb
      rw [if_pos rfl]
      have hnI : ∀ q ∈ drawn [e.I] nx4, q.1 ≠ e.I := aE (.head _)
      have hWI : ∀ e' ∈ e :: r, e'.W ≠ e.I := fun e' he' q => by
       have := aM N5 (hL4.es e' he').1 hIm q
       rw [Prod.mk.injEq] at this
       exact absurd (congrArg Obj.cls this.2) (by simp)
      by_cases hit : ∃ u, ((aw.2.2.1).su e.v)[e.i]? = some u
      ·refine aT (hit) ?_; (try clear hit); intro u hu
       have hu5 := h.lt5 u (hcl e.v hev u (List.mem_of_getElem? hu))
       replace N5 : News g4 L' h4 ((IT, listOf ((r.map fun e => Value.ref e.W).reverse ++ [Value.ref e.W]).toArray ki4) :: nx4) := News.sub N5 (List.forall_mem_cons.mpr ⟨hIT4, fun _ h => h⟩)
       k_steps
       walk_at "mine open"
       refine dB N5 (.tail _ hWm) ?_
       refine aT (jX hsS hu) ?_; intro tu htu
       refine gj F5 N5 (.tail _ hWm) (.tail _ hIm) (l := (aw.2.2.1).sa e.v) (.tail _ (hL4.old _ (.tail _ hsw))) htu ?_
       intro h6 F6 N6
       k_steps
       rename Heap => h7
       rename Fr _ _ _ _ => F7
       rename News _ _ _ _ => N7
       refine wpAny_execs_nil ?_
       have hL5 := DfsLed.take N7 hL4 (.head _) (fun p hp q => .tail _ (mem_drawn.mpr ⟨.tail _ hp, by simpa using q⟩)) hWI
       have ec : cost (aw.2.2.1).su fin4 ((e.v, e.i + 1) :: r.map (·.p)) = cost (aw.2.2.1).su fin4 ((e :: r).map (·.p)) + 1 := mF (x := (e.v, e.i))
       have hPt : Path (aw.2.2.1).su fin4 ((e.v, e.i + 1) :: r.map (·.p)) u := lY (x := (e.v, e.i)) hId4 hu
       have hle : cost (aw.2.2.1).su fin4 ((e.v, e.i + 1) :: r.map (·.p)) ≤ 505 := cost_le (nodes := (aw.2.2.1).nodes) (by rw [show ((e.v, e.i + 1) :: r.map (·.p)).map (·.1) = (e :: r).map (·.v) from by rw [List.map_cons, gZ]; rfl]; exact hSn4) (fun v hv => h.lt5 v hv) hsl (lg hPt)
       refine ⟨505 - cost (aw.2.2.1).su fin4 ((e.v, e.i + 1) :: r.map (·.p)), by omega, g4, h7, _, u4, fin4, ⟨e.v, e.i + 1, e.I, e.W⟩ :: r, u, tu, _, rfl, TT4, F7, N7, hL5, hSn4, hPt, hcl e.v hev u (List.mem_of_getElem? hu), fun q => (nomatch q), .inl hv4, hcov4, rfl⟩
      ·have hno : ((aw.2.2.1).su e.v)[e.i]? = none := by
        cases q : ((aw.2.2.1).su e.v)[e.i]? with
        | none => rfl
        | some u => exact absurd ⟨u, q⟩ hit
       replace N5 : News g4 L' h4 ((IT, listOf ((r.map fun e => Value.ref e.W).reverse ++ [Value.ref e.W]).toArray ki4) :: nx4) := News.sub N5 (List.forall_mem_cons.mpr ⟨hIT4, fun _ h => h⟩)
       k_steps
       walk_at "mine open"
       refine dB N5 (.tail _ hWm) ?_
       refine gi rfl F5 N5 (.tail _ hWm) (.tail _ hIm) (l := (aw.2.2.1).sa e.v) (.tail _ (hL4.old _ (.tail _ hsw))) (iF hsS hno) ?_
       intro h6 h7 ex F6 N6 hex
       refine kU (X := "StopIteration") (T' := "StopIteration") hex F6 N6 B4 XB TB (by kernel_rfl) (by rfl) (by decide) (by rw [isSubtype_type]; kernel_rfl) (by first | (rw [isSubtype_type]; kernel_rfl) | kernel_rfl) (by rw [isSubtype_type]; kernel_rfl) ?_
       intro h8 g8 TT8 F8 N8
       have TT9 := TT4.trans TT8
       have B8 := bd B' TT9
       have X8 := XB.keeps B8.stays
       have T8 := TB.keeps B8.stays
       obtain ⟨oN4, kvs4, hND4, hNd4, ks4', tt4, hk4, hkr4⟩ := hL4.nd
       have hr5 : ∀ e' ∈ r, e'.v < 5 := fun e' he' => h.lt5 _ (hSn4.sub _ (List.mem_append.mpr (.inr (.tail _ (List.mem_map.mpr ⟨e', he', rfl⟩)))))
       have hnr : e.v ∉ r.map (·.v) := fun q => by
        have nd := (List.nodup_append.mp hSn4.nd).2.1
        rw [List.map_cons, List.nodup_cons] at nd
        exact nd.1 q
       have hkn := cW hkr4 hr5 he5 hnr
       have hl9 : (valueAt kvs4 (nm e.v)).isSome = true := by
        rw [hk4]; unfold valueAt
        rw [List.find?_append]
        cases q : List.find? (fun kv => decide (kv.fst = nm e.v)) ks4' <;> simp
       have e0 : sizeLine = 16777216 := rfl
       rw [List.length_cons] at hlen4
       have hz9 : kvs4.length ≤ sizeLine := by
        rw [hk4, List.length_append, fL hkr4, List.length_singleton]; omega
       have hz8 : vs4'.reverse.length < sizeLine := by
        have := hvs4'.len_eq
        rw [List.length_map] at this
        rw [List.length_reverse]; omega
       have hz7 : (r.map fun e => Value.ref e.W).reverse.length < sizeLine := by
        rw [List.length_reverse, List.length_map]; omega
       refine x0_5 (hL4.a1) ?_; intro c1 c2 c3 c4 c5 c6
       refine bj (hL4.a3 e (.head _)) ?_; intro xq63a _
       obtain ⟨y1, y2, y3, y4⟩ := xq63a
       have r1 : ∀ q ∈ drawn [ND, IT, ST, e.I] nx4, q.1 ≠ ND := aE (.head _)
       have r2 : ∀ q ∈ drawn [ND, IT, ST, e.I] nx4, q.1 ≠ IT := aE (.tail _ (.head _))
       have r3 : ∀ q ∈ drawn [ND, IT, ST, e.I] nx4, q.1 ≠ ST := aE (.tail _ (.tail _ (.head _)))
       have hin : ∀ q ∈ nx4, q.1 ≠ e.I → q ∈ drawn [e.I] ((IT, listOf ((r.map fun e => Value.ref e.W).reverse ++ [Value.ref e.W]).toArray ki4) :: nx4) := fun q hq q' => mem_drawn.mpr ⟨.tail _ hq, by simpa using q'⟩
       replace N8 : News g8 L' h8 ((ND, oN4) :: (IT, listOf ((r.map fun e => Value.ref e.W).reverse ++ [Value.ref e.W]).toArray ki4) :: (ST, listOf (vs4'.reverse ++ [Value.str (nm e.v) t4']).toArray ks4) :: drawn [ND, IT, ST, e.I] nx4) := News.sub N8 (List.forall_mem_cons.mpr ⟨hin _ hND4 (Ne.symm y4), List.forall_mem_cons.mpr ⟨hin _ hIT4 (Ne.symm y2), List.forall_mem_cons.mpr ⟨hin _ hST4 (Ne.symm y1), fun q hq => hin q (aI q hq) (aE (.tail _ (.tail _ (.tail _ (.head _)))) q hq)⟩⟩⟩)
       k_steps
       rename_i h10 oN5 F10 N10 hd10 h11 F11 N11
       rw [hk4, gP hkn] at hd10
       have hsuf := idle_all (x := (e.v, e.i)) hId4 hno
       have hL6 := DfsLed.pop N11 hL4 (fun p hp q1 q2 q3 q4 => .tail _ (.tail _ (.tail _ (mem_drawn.mpr ⟨hp, by simp [q1, q2, q3, q4]⟩)))) (fun e' he' => hWI e' (.tail _ he')) (.head _) hd10 hkr4 (.tail _ (.head _)) (.tail _ (.tail _ (.head _))) hvs4'
       have ec : cost (aw.2.2.1).su (fin4 ++ [e.v]) (r.map (·.p)) = cost (aw.2.2.1).su fin4 ((e :: r).map (·.p)) := cost_pop (x := (e.v, e.i)) hsuf.2
       refine ⟨r.length, Nat.lt_succ_self _, g8, h11, _, u4, fin4 ++ [e.v], r, _, rfl, TT9, F11, N11, hL6, seen_pop hSn4 hsuf.1, idle_pop (x := (e.v, e.i)) hId4, ?_, fun y hy => List.mem_append.mpr (.inl (hcov4 y hy)), by omega, rfl⟩
       simpa [List.append_assoc] using hv4
    ·exact hq
 ·intro g m₁ nx hh tk TT zp2 F₁ N₁
  walk_at "mine hide"
  obtain ⟨u, fin, rfl, hL, hSn, hcov⟩ := zp2
  replace F₁ : Fr g L' hh _ := F₁
  replace N₁ : News g L' hh _ := N₁
  have B1 := bd B' TT
  have X1 := XB.keeps B1.stays
  have T1 := TB.keeps B1.stays
  k_steps
  refine ⟨g, L', _, nx, TT, F₁, N₁, fun h₀' T₂ F₂ N₂ => hret .none nx h₀' _ _ T₂ F₂ N₂ ⟨hL.old, .inl ⟨rfl, fin, hSn, fun v hv => hcov v ?_⟩⟩⟩
  have e : (kvsOf (aw.2.2.1)).length = (aw.2.2.1).nodes.length := by unfold kvsOf; rw [List.length_map]
  rw [e, List.take_length]; exact hv
theorem cycle_ok (w : World) (S dx D : Addr) (rv po nf : Value) (G : Gr) (news : List (Addr × Obj)) (h : SrtIn w S dx D rv po nf G news) (hcl : ∀ v ∈ G.nodes, ∀ s ∈ G.su v, s ∈ G.nodes) (hsl : ∀ v, (G.su v).length ≤ 100) :
  MutT 20 w 200 [.ref S] news (ls G news) := @aO _ _ (u9 dL) kE ((((w, S), dx), (D, rv)), ((po, nf), (G, news))) h hcl hsl
end
section
open PySem PySem.W PyProof.Rows PySem.Calls PySem.Spec PyProof.Rows.LCg
noncomputable def MutE (rm : Nat) (w : World) (f : Addr) (args : List Value) (news : List (Addr × Obj)) (cls : Value) (Post : List (Addr × Obj) → Value → Prop) (PostE : List (Addr × Obj) → Prop) : Prop :=
 ∀ (p : Program) (loose : List Str) (mean : ExcName → Option Value) (mg mb : Str → Option Value) (dp un : Nat) (gd : Option (List Code)) (cn : Str) (cs : Scope) (a : Addr) (ccd : Value) (cl : List (Str × Addr)) (outer : List Env) (A₀ : Around) (base h₀ : Heap) (L : Addr) (m : Str → Option Value) (s : Shared) (Q E : Value → Shared → Prop),
  Below A₀ base outer h₀ → Fr h₀ L s.heap m → (Mine.hd.heap_39 w.params).In h₀ → News h₀ L s.heap news → Top p loose mean mg mb h₀ → (Mine.hd.heap_39 w.params).In base → Top p loose mean mg mb base → cs.kind = .function → dp + rm < recursionLimit → un + 10 * rm < cLine →
  (∀ r news' h₀' h' tk', KtsTurn (fsOf outer) h₀ h₀' → Fr h₀' L h' m → News h₀' L h' news' → Post news' r → Q r { s with heap := h', toks := tk' }) →
  (∀ e t vs news' G h₀' h' tk', KtsTurn (fsOf outer) h₀ h₀' → Fr h₀' L G m → RaisedS base G (envX cn cs L a ccd cl :: outer) e cls t vs news' h' → G.UpToSlots h' → PostE news' → E (.ref e) { s with heap := h', toks := tk' }) →
  wpAny (model PySem.Challenge.rw_oc0257_01.prog w) (ktrTop dp un gd cn cs L a ccd cl outer) (call (.ref f) args) Q E s
local macro_rules | `(tactic| passes_own) => wa "mine passes_own"
local macro_rules | `(tactic| k_all) => wa "mine k_all"
local macro_rules | `(tactic| k_ne) => wa "mine k_ne"
theorem rlT40 : True := by
 k_with_none
 k_with "mine hide" => first | (refine (?_ : let gk : Prop := wpAny _ ak _ _ _ _; gk); (try clear gk); intro gk) | (refine (?_ : let ak : Around := _; let gk : Prop := wpAny _ ak _ _ _ _; gk); intro ak; (try clear gk); intro gk) | (refine (?_ : let gk : Prop := _; gk); (try clear gk); intro gk)
 k_with "mine open" => first | (refine (?_ : let gk : Prop := wpAny _ ak _ _ _ _; Held gk); (try clear gk); intro gk; show gk) | (refine (?_ : let ak : Around := _; let gk : Prop := wpAny _ ak _ _ _ _; Held gk); intro ak; (try clear gk); intro gk; show gk) | (refine (?_ : let gk : Prop := _; Held gk); (try clear gk); intro gk; show gk)
 k_with "execs cons" => (k_here; (with_reducible refine aL ?_); (try clear tkw); intro tkw; (try k_fold); (with_reducible refine wpAny_execs_cons ?_); (try dsimp only))
 k_with "mine passes_own" => first | assumption | with_reducible exact PySem.PassesOwn.leaving | with_reducible exact PySem.PassesOwn.looking | with_reducible exact PySem.PassesOwnAt.leaving | with_reducible exact PySem.PassesOwnAt.looking | exact PySem.PassesOwn.leaving | exact PySem.PassesOwn.looking | exact PySem.PassesOwnAt.leaving | exact PySem.PassesOwnAt.looking
 k_with "mine k_all" => first | assumption | exact List.forall_mem_nil _ | (refine' List.forall_mem_cons.mpr ⟨?_, ?_⟩; (focus k_ne); k_all)
 k_with "mine k_ne" => first | assumption | exact Ne.symm (by assumption)
 k_with "mine mem" => first | exact List.Mem.head _ | exact List.Mem.tail _ (List.Mem.head _) | exact List.Mem.tail _ (List.Mem.tail _ (List.Mem.head _)) | exact List.Mem.tail _ (List.Mem.tail _ (List.Mem.tail _ (List.Mem.head _))) | exact List.Mem.tail _ (List.Mem.tail _ (List.Mem.tail _ (List.Mem.tail _ (List.Mem.head _)))) | exact List.Mem.tail _ (List.Mem.tail _ (List.Mem.tail _ (List.Mem.tail _ (List.Mem.tail _ (List.Mem.head _)))))
 k_with "mine enterT" => case fresh => (refine' kS ?k1' ?k2' ?k3' ?k4' ?k5' ?kA' ?kF' ?kK' ?k6' ?k7' ?k8' ?k9' ?kB' ?_ ?c2' ?c3' ?c4' ?c5'; (case kA' => exact rfl); (case kF' => exact rfl); (case kK' => assumption); (case k1' => k_asm); (case k2' => k_asm); (case k3' => k_asm); (case k4' => k_asm); (case k5' => k_asm); (case k6' => k_is); (case k7' => k_is); (case k8' => ktr_room); (case k9' => exact BindsTo.of_eq rfl); (case c5' => decide); (case kB' => exact locs rfl); (case c2' => exact rfl); (case c3' => exact rfl); (case c4' => exact rfl); k_whole; intro g'' L'' h'' FG'' F'' N'' B'' X'' T''; (try dsimp only); (try k_lift B''); (try k_fold))
 k_with "eval ListComp" => (k_here; refine held ?_)
 k_with "getMethod ref" => (k_here; (with_reducible show wpAny _ _ (getMethod (Value.ref _) (Str.ofString "values") _) _ _ _); k_dflt (refine kdl_method PySem.F.slot_dict_values PySem.F.type_dict_values (by k_asm) (by walk_at "mine mem") (by assumption) ?_))
 k_with "call builtin:dict.values" => case fresh => (k_here; k_dflt (refine kdl_view_values (by k_asm) (by k_asm) (by walk_at "mine mem") (by assumption) (by assumption) ?_); intro D'' h'' F'' N'' l1'; (try k_lt l1'))
 k_with "truthy ref" => (k_here; k_dflt (refine gx (by k_asm) (by walk_at "mine mem") (by assumption) (by assumption) ?_))
 k_with "leaving ref" => (k_here; refine held ?_)
 k_with "pyIter ref" => (k_here; refine held ?_)
 k_with "call ref" => (k_here; refine held ?_)
 trivial
theorem dR {x : Str} {t : Tok} : ∀ {vs : List Value} {xs : List Str}, StrsAre vs xs → StrsAre (vs ++ [.str x t]) (xs ++ [x])
 | _, _, .nil => .cons _ _ .nil
 | _, _, .cons y t' h => .cons y t' (dR h)
inductive bH (w : World) (S dx D : Addr) (po nf : Value) (G : Gr) (news nx : List (Addr × Obj)) : Prop where
 | mk : ∀ R ys, (SrtIn w S dx D (.ref R) po nf G nx) → ((R, lst ys) ∈ nx) → (¬ Own S dx D G R) → (StrsAre ys ((G.nodes.filter fun v => G.np v = 0).map nm)) → ((∀ p ∈ news, p.1 ≠ dx → p ∈ nx)) → (∀ p ∈ news, p.1 ≠ R) → bH w S dx D po nf G news nx
noncomputable def cB (w : World) (S : Addr) (dx : Addr) (D : Addr) (po : Value) (nf : Value) (G : Gr) (news : List (Prod Addr Obj)) : Prop := ∀ (h : SrtIn w S dx D .none po nf G news) (hcl : ∀ v ∈ G.nodes, ∀ s ∈ G.su v, s ∈ G.nodes) (hsl : ∀ v, (G.su v).length ≤ 100), MutE 40 w 165 [.ref S] news (.ref 128) (fun nx r => r = .none ∧ bH w S dx D po nf G news nx ∧ ∃ fin, Seen G.nodes G.su fin [] ∧ ∀ v ∈ G.nodes, v ∈ fin) (fun nx => bH w S dx D po nf G news nx ∧ ∃ C : List Nat, C ≠ [] ∧ (∀ c ∈ C, c ∈ G.nodes) ∧ ∀ c ∈ C, ∃ d ∈ C, c ∈ G.su d)
noncomputable def am : ((World × Addr) × Addr × Addr) × (Value × Value) × Gr × (List (Prod Addr Obj)) := @Classical.epsilon _ (by have := neW; have := neG; infer_instance) fun x => ¬ u8 cB x
theorem hU : u8 cB am := by
 intro h hcl hsl
 refine bO (h.fld) ?_; intro t1 t2 t3 t4 hfld
 refine aJ (h.tab) ?_; intro oD htab hD
 have hinst := h.inst
 have lo := h.lo
 unfold MutE
 k_fill
 intro p loose mean mg mb dp un gd cn cs a ccd cl outer A₀ base h₀ L m s Q E B F XX N T XB TB hk hd hu hret hexc
 replace N : News h₀ L s.heap (((am.1.2.2), oD) :: ((am.1.1.2), instObj 210 (am.1.2.1)) :: ((am.1.2.1), sdict (am.1.1.1) t1 t2 t3 t4 (am.1.2.2) .none (am.2.1.1) (am.2.1.2) 4) :: (am.2.2.2)) := News.sub N (List.forall_mem_cons.mpr ⟨htab, List.forall_mem_cons.mpr ⟨hinst, List.forall_mem_cons.mpr ⟨hfld, fun _ h => h⟩⟩⟩)
 refine wpAny_call ?_
 k_dflt walk_at "mine enterT"
 k_steps
 walk_at "mine open"
 refine bJ (cl := []) (by with_unfolding_all rfl) (by rfl) (by decide) ?_
 k_steps
 rename_i g' L' hh1 FG F1 N1 B' X' T' tk1 V hh3 F3 N3 lV
 clear F1 N1
 walk_at "mine open"
 refine aT (KdkAt.of hD) ?_; intro ep ha
 generalize hn1 : (V, _) :: ((am.1.2.2), oD) :: _ = n1 at N3
 have hS1 : SrtIn (am.1.1.1) (am.1.1.2) (am.1.2.1) (am.1.2.2) .none (am.2.1.1) (am.2.1.2) (am.2.2.1) n1 := h.keep fun q hq _ => by rw [← hn1]; exact .tail _ (.tail _ (.tail _ (.tail _ hq)))
 have hsub1 : ∀ q ∈ (am.2.2.2), q ∈ n1 := fun q hq => by rw [← hn1]; exact .tail _ (.tail _ (.tail _ (.tail _ hq)))
 have hD1 : ((am.1.2.2), oD) ∈ n1 := by rw [← hn1]; exact .tail _ (.head _)
 refine cQ (SrcW.values rfl N3 (by rw [← hn1]; exact .head _) hD1 ha) (fun _ _ _ _ _ _ h => wpAny_pure h) (by decide) rfl F3 N3 ?_ (fun i ys nx => nx = n1 ∧ StrsAre ys ((((am.2.2.1).nodes.take i).filter fun v => (am.2.2.1).np v = 0).map nm)) ?_ ⟨rfl, .nil⟩ ?_ ?_
 ·have e0 : sizeLine = 16777216 := rfl
  have e1 := aV 5 _ h.nd h.lt5
  unfold kvsOf
  rw [List.length_map]; omega
 ·rintro i ys nx ⟨rfl, _⟩ q hq
  rw [List.mem_singleton.mp hq]; exact hD1
 ·intro i v ys nx I oI C oC D2 m₂ h4 tk4 E' hi zp1 zp2 hoC F4 N4 off ne
  walk_at "mine hide"
  refine aT (zp1) ?_; (try clear zp1); intro kx hkx
  refine bj (zp2) ?_; (try clear zp2); intro xq4a; subst xq4a; intro hys
  obtain ⟨u, hu, rfl⟩ : ∃ u, (am.2.2.1).nodes[i]? = some u ∧ v = .ref ((am.2.2.1).ia u) := by
   unfold kvsOf at hkx
   rw [List.getElem?_map] at hkx
   cases e : (am.2.2.1).nodes[i]? with
   | none => rw [e] at hkx; cases hkx
   | some u =>
    rw [e] at hkx
    exact ⟨u, rfl, by injection hkx with hkx; injection hkx with a b; exact b.symm⟩
  have hun : u ∈ (am.2.2.1).nodes := List.mem_of_getElem? hu
  refine bp hoC F4 N4 (off_2 off ne) rfl rfl fun h5 tk5 oC5 m5 hoC5 hm5 F5 N5 => ?_
  refine wpAny_tests_one ?_
  refine bX (hS1.info u hun) ?_; intro yi yn hi5
  have hdd := hS1.dict u hun
  have A := hS1.apart
  replace N5 : News g' L' h5 (((am.2.2.1).ia u, aU ((am.2.2.1).da u) (nm u) yi (.int ((am.2.2.1).np u) yn) ((am.2.2.1).sa u)) :: ((am.2.2.1).da u, dictOf [] 0) :: (I, oI) :: (C, oC5) :: (D2, lst ys) :: nx) := News.sub N5 (List.forall_mem_cons.mpr ⟨.tail _ (.tail _ (.tail _ hi5)), List.forall_mem_cons.mpr ⟨.tail _ (.tail _ (.tail _ hdd)), fun _ h => h⟩⟩)
  k_steps
  ·rename_i hnp
   refine ⟨h5, _, nx, oC5, m5, rfl, hoC5, F5, News.sub N5 fun q hq => .tail _ (.tail _ hq), off, rfl, ?_⟩
   rw [List.take_add_one, hu]
   simp only [Option.toList_some, List.filter_append, List.filter_cons, List.filter_nil, hnp, decide_true, if_true, List.map_append, List.map_cons, List.map_nil]
   exact dR hys
  ·rename_i hnp
   refine ⟨h5, _, nx, oC5, m5, rfl, hoC5, F5, News.sub N5 fun q hq => .tail _ (.tail _ hq), off, rfl, ?_⟩
   rw [List.take_add_one, hu]
   simp only [Option.toList_some, List.filter_append, List.filter_cons, List.filter_nil, hnp, decide_false, Bool.false_eq_true, if_false, List.append_nil]
   exact hys
 ·intro R ys nx h4 tk4 zp3 F4 N4 oR
  walk_at "mine hide"
  refine bj (zp3) ?_; (try clear zp3); intro xq6a; subst xq6a; intro hys
  have eL : (kvsOf (am.2.2.1)).length = (am.2.2.1).nodes.length := by unfold kvsOf; rw [List.length_map]
  rw [eL, List.take_length] at hys
  have hRo : ¬ Own (am.1.1.2) (am.1.2.1) (am.1.2.2) (am.2.2.1) R := fun ho => by
   refine aT (hS1.ownIn ho) ?_; intro o hm
   exact oR _ hm rfl
  have one3 : ∀ q ∈ nx, ∀ r ∈ nx, q.1 = r.1 → q = r := fun q hq r hr e => aM N3 hq hr e
  refine bO (hS1.fld) ?_; intro u1 u2 u3 u4 ufld
  have A := hS1.apart
  have q1 : R ≠ (am.1.1.2) := fun e => hRo (.inl e)
  have q2 : R ≠ (am.1.2.1) := fun e => hRo (.inr (.inl e))
  have q3 : (am.1.1.2) ≠ (am.1.2.1) := A.s1
  have r1 : ∀ q ∈ drawn [(am.1.1.2), (am.1.2.1), R] nx, q.1 ≠ (am.1.2.1) := aE (.tail _ (.head _))
  replace N4 : News g' L' h4 (((am.1.1.2), instObj 210 (am.1.2.1)) :: ((am.1.2.1), sdict (am.1.1.1) u1 u2 u3 u4 (am.1.2.2) .none (am.2.1.1) (am.2.1.2) 4) :: (R, lst ys) :: drawn [(am.1.1.2), (am.1.2.1), R] nx) := News.sub N4 (List.forall_mem_cons.mpr ⟨.tail _ hS1.inst, List.forall_mem_cons.mpr ⟨.tail _ ufld, List.forall_mem_cons.mpr ⟨.head _, fun q hq => .tail _ (aI q hq)⟩⟩⟩)
  k_steps
  rename_i h5 F5 N5
  walk_at "mine open"
  generalize hled : ((am.1.1.2), _) :: ((am.1.2.1), _) :: (R, _) :: drawn [(am.1.1.2), (am.1.2.1), R] nx = led at N5
  have hk5 : ∀ q ∈ nx, q.1 ≠ (am.1.2.1) → q ∈ led := fun q hq e => by
   rw [← hled]
   by_cases e1 : q.1 = (am.1.1.2)
   ·rw [one3 q hq _ hS1.inst e1]; exact .head _
   ·exact .tail _ (.tail _ (.tail _ (mem_drawn.mpr ⟨hq, by simp [e, e1, oR q hq]⟩)))
  have hS5 : SrtIn (am.1.1.1) (am.1.1.2) (am.1.2.1) (am.1.2.2) (.ref R) (am.2.1.1) (am.2.1.2) (am.2.2.1) led := hS1.toFld (by rw [← hled]; exact ⟨u1, u2, u3, u4, .tail _ (.head _)⟩) hk5
  have hR5 : (R, lst ys) ∈ led := by rw [← hled]; exact .tail _ (.tail _ (.head _))
  have hP5 : bH (am.1.1.1) (am.1.1.2) (am.1.2.1) (am.1.2.2) (am.2.1.1) (am.2.1.2) (am.2.2.1) (am.2.2.2) led := ⟨R, ys, hS5, hR5, hRo, hys, fun q hq e => hk5 q (hsub1 q hq) e, fun q hq => oR q (hsub1 q hq)⟩
  have hP6 : ∀ nx6, (∀ p ∈ led, p ∈ nx6) → bH (am.1.1.1) (am.1.1.2) (am.1.2.1) (am.1.2.2) (am.2.1.1) (am.2.1.2) (am.2.2.1) (am.2.2.2) nx6 := fun nx6 hk => ⟨R, ys, hS5.keep fun q hq _ => hk q hq, hk _ hR5, hRo, hys, fun q hq e => hk _ (hk5 q (hsub1 q hq) e), fun q hq => oR q (hsub1 q hq)⟩
  refine cycle_ok (am.1.1.1) (am.1.1.2) (am.1.2.1) (am.1.2.2) (.ref R) (am.2.1.1) (am.2.1.2) (am.2.2.1) _ hS5 hcl hsl p loose mean mg mb (dp + 1) (un + 3) gd _ _ _ _ [] (envX cn cs L a ccd cl :: outer) _ base g' L' _ _ _ _ B' F5 X' N5 T' XB TB rfl (by omega) (by omega) ?_
  intro r nx6 g6 h6 tk6 TT6 F6 N6 zp4
  walk_at "mine hide"
  obtain ⟨hk6, ⟨rfl, fin, hsn, hfin⟩ | ⟨R2, vs2, k2, rfl, hR2, hz2, hne2, C, hC⟩⟩ := zp4
  ·k_steps
   refine ⟨g6, L', _, nx6, TT6, by assumption, by assumption, fun h₀' T₂ F₂ N₂ => hret .none nx6 h₀' _ _ T₂ F₂ N₂ ⟨rfl, hP6 nx6 hk6, fin, hsn, hfin⟩⟩
  ·replace N6 : News g6 L' h6 ((R2, listOf vs2 k2) :: nx6) := News.sub N6 (List.forall_mem_cons.mpr ⟨hR2, fun _ h => h⟩)
   have hb6 : (!vs2.isEmpty) = true := by rw [hne2]; rfl
   have hf6 : (vs2.size : Int) < 2 ^ 63 := by omega
   have B6 := bd B' TT6
   have X6 := XB.keeps B6.stays
   have T6 := TB.keeps B6.stays
   k_steps
   rename_i h7 F7 N7 tkz h8 ex hmade
   walk_at "mine open"
   refine leave_raiseS B6 hmade F7 N7 ?_
   intro h9 t9 RS RK hup
   refine aJ (gw B FG rfl TT6) ?_; intro h₀' T' F'
   exact hexc ex t9 _ _ g6 h₀' h9 _ T' F' RS hup ⟨hP6 _ fun p hp => .tail _ (hk6 p hp), C, hC⟩
theorem kp (w : World) (S dx D : Addr) (po nf : Value) (G : Gr) (news : List (Addr × Obj)) (h : SrtIn w S dx D .none po nf G news) (hcl : ∀ v ∈ G.nodes, ∀ s ∈ G.su v, s ∈ G.nodes) (hsl : ∀ v, (G.su v).length ≤ 100) :
  MutE 40 w 165 [.ref S] news (.ref 128) (fun nx r => r = .none ∧ bH w S dx D po nf G news nx ∧ ∃ fin, Seen G.nodes G.su fin [] ∧ ∀ v ∈ G.nodes, v ∈ fin) (fun nx => bH w S dx D po nf G news nx ∧ ∃ C : List Nat, C ≠ [] ∧ (∀ c ∈ C, c ∈ G.nodes) ∧ ∀ c ∈ C, ∃ d ∈ C, c ∈ G.su d) := @aO _ _ (u8 cB) hU (((w, S), (dx, D)), ((po, nf), (G, news))) h hcl hsl
end
section
open PySem PySem.W PyProof.Rows PySem.Calls PySem.Spec
section
variable {M : Model} {A : Around} {E : Value → Shared → Prop} {s : Shared} {env : Env} {K : Frag} {pos : Pos} {Q : Value → Shared → Prop} {q g : Addr} {self : Value} {e : Expr} {p : Pos} {rest : List Expr}
theorem eh {o : Expr} {name : Str} {apos : Pos} {args : List Expr}
  (h : wpAny M A (eval o env) (fun ov s₁ => wpAny M A (getAttr ov name true) (fun f s₂ => wpAny M A (callWith pos f [] (backTo pos (starEach args env)) []) Q E s₂) E s₁) E s)
  (he : eval (.Call (.Attribute o name apos) args [] pos) env = (do
   let ov ← eval o env
   standAt apos.atName
   let fx ← holding [ov] (do
    let f ← getAttr ov name true
    pure (f, ([] : List Value)))
   callWith pos fx.1 fx.2 (backTo pos (starEach args env)) []) := by rfl) :
  wpAny M A (eval (.Call (.Attribute o name apos) args [] pos) env) Q E s := by
 rw [he]
 refine wpAny_bind (wpAny_mono h (fun ov s₁ h₁ => wpAny_bind (wpAny_standAt (wpAny_bind (wpAny_holding (wpAny_bind (wpAny_mono h₁ (fun f s₂ h₂ => wpAny_pure ?_) fun _ _ x => x)))))) fun _ _ x => x)
 exact h₂
theorem jL (hf : fnIn K g = true) (h : wpAny M A (eval e env) (fun v s₁ => StarOf M A E v (fun vs s₂ => MethP K q g self s₂.heap ∧ wpAny M A (call (.ref q) ([] ++ vs)) Q E s₂) s₁) E s)
  (he : starEach [.Starred e p] env = [(true, eval e env)] := by rfl) :
  wpAny M A (callWith pos (.ref q) [] (backTo pos (starEach [.Starred e p] env)) []) Q E s := by
 rw [he]
 exact ks_call rfl (keeps_M hf) (ks_lone h)
theorem iz (hf : fnIn K g = true) (h : wpAny M A (spliced (backTo pos (starEach (e :: rest) env))) (fun vs s₁ => MethP K q g self s₁.heap ∧ wpAny M A (call (.ref q) ([] ++ vs)) Q E s₁) E s)
  (he : starEach (e :: rest) env = (false, eval e env) :: starEach rest env := by rfl) (hst : (backTo pos (starEach rest env)).any (·.1) = true := by rfl) :
  wpAny M A (callWith pos (.ref q) [] (backTo pos (starEach (e :: rest) env)) []) Q E s := by
 rw [he] at h ⊢
 exact ks_call (by show (false || (backTo pos (starEach rest env)).any (·.1)) = true; rw [hst]; rfl) (keeps_M hf) (evalArgs_plain h)
end
end
section
open PySem PySem.W PyProof.Rows PySem.Calls PySem.Spec PyProof.Rows.LCg
noncomputable def MutD (rm : Nat) (w : World) (f : Addr) (args : List Value) (news : List (Addr × Obj)) (Post : List (Addr × Obj) → Value → Prop) : Prop :=
 ∀ (p : Program) (loose : List Str) (mean : ExcName → Option Value) (mg mb : Str → Option Value) (dp un : Nat) (gd : Option (List Code)) (cn : Str) (cs : Scope) (a : Addr) (ccd : Value) (cl : List (Str × Addr)) (outer : List Env) (A₀ : Around) (base h₀ : Heap) (L : Addr) (m : Str → Option Value) (s : Shared) (Q E : Value → Shared → Prop),
  KtsDicts (fsOf outer) h₀ → Below A₀ base outer h₀ → Fr h₀ L s.heap m → (Mine.hd.heap_39 w.params).In h₀ → News h₀ L s.heap news → Top p loose mean mg mb h₀ → (Mine.hd.heap_39 w.params).In base → Top p loose mean mg mb base → cs.kind = .function → dp + rm < recursionLimit → un + 10 * rm < cLine →
  (∀ r news' h₀' h' tk', KtsTurn (fsOf outer) h₀ h₀' → Fr h₀' L h' m → News h₀' L h' news' → Post news' r → Q r { s with heap := h', toks := tk' }) →
  wpAny (model PySem.Challenge.rw_oc0257_01.prog w) (ktrTop dp un gd cn cs L a ccd cl outer) (call (.ref f) args) Q E s
theorem kd_push {h₀ g : Heap} {L : Addr} {m : Str → Option Value} {outer : List Env} {env : Env} (D : KtsDicts (fsOf outer) h₀) (F : Fr h₀ L g m) (hf : env.frame = some L) : KtsDicts (fsOf (env :: outer)) g := fun b hb => by
 rcases kw hf hb with rfl | hb
 ·refine gO (F.ns) ?_; intro o es ep e hd _
  exact ⟨o, es, ep, e, hd⟩
 ·refine cq (D b hb) ?_; intro o es n ho hd
  exact ⟨o, es, n, F.keep _ _ ho, hd⟩
local macro_rules | `(tactic| passes_own) => wa "mine passes_own"
local macro_rules | `(tactic| k_all) => wa "mine k_all"
local macro_rules | `(tactic| k_ne) => wa "mine k_ne"
theorem rlT50 : True := by
 k_with_none
 k_with "mine hide" => first | (refine (?_ : let gk : Prop := wpAny _ ak _ _ _ _; gk); (try clear gk); intro gk) | (refine (?_ : let ak : Around := _; let gk : Prop := wpAny _ ak _ _ _ _; gk); intro ak; (try clear gk); intro gk) | (refine (?_ : let gk : Prop := _; gk); (try clear gk); intro gk)
 k_with "mine open" => first | (refine (?_ : let gk : Prop := wpAny _ ak _ _ _ _; Held gk); (try clear gk); intro gk; show gk) | (refine (?_ : let ak : Around := _; let gk : Prop := wpAny _ ak _ _ _ _; Held gk); intro ak; (try clear gk); intro gk; show gk) | (refine (?_ : let gk : Prop := _; Held gk); (try clear gk); intro gk; show gk)
 k_with "execs cons" => (k_here; (with_reducible refine aL ?_); (try clear tkw); intro tkw; (try k_fold); (with_reducible refine wpAny_execs_cons ?_); (try dsimp only))
 k_with "mine passes_own" => first | assumption | with_reducible exact PySem.PassesOwn.leaving | with_reducible exact PySem.PassesOwn.looking | with_reducible exact PySem.PassesOwnAt.leaving | with_reducible exact PySem.PassesOwnAt.looking | exact PySem.PassesOwn.leaving | exact PySem.PassesOwn.looking | exact PySem.PassesOwnAt.leaving | exact PySem.PassesOwnAt.looking
 k_with "mine k_all" => first | assumption | exact List.forall_mem_nil _ | (refine' List.forall_mem_cons.mpr ⟨?_, ?_⟩; (focus k_ne); k_all)
 k_with "mine k_ne" => first | assumption | exact Ne.symm (by assumption)
 k_with "mine mem" => first | exact List.Mem.head _ | exact List.Mem.tail _ (List.Mem.head _) | exact List.Mem.tail _ (List.Mem.tail _ (List.Mem.head _)) | exact List.Mem.tail _ (List.Mem.tail _ (List.Mem.tail _ (List.Mem.head _))) | exact List.Mem.tail _ (List.Mem.tail _ (List.Mem.tail _ (List.Mem.tail _ (List.Mem.head _)))) | exact List.Mem.tail _ (List.Mem.tail _ (List.Mem.tail _ (List.Mem.tail _ (List.Mem.tail _ (List.Mem.head _)))))
 k_with "mine enterT" => case fresh => (refine' kS ?k1' ?k2' ?k3' ?k4' ?k5' ?kA' ?kF' ?kK' ?k6' ?k7' ?k8' ?k9' ?kB' ?_ ?c2' ?c3' ?c4' ?c5'; (case kA' => exact rfl); (case kF' => exact rfl); (case kK' => assumption); (case k1' => k_asm); (case k2' => k_asm); (case k3' => k_asm); (case k4' => k_asm); (case k5' => k_asm); (case k6' => k_is); (case k7' => k_is); (case k8' => ktr_room); (case k9' => exact BindsTo.of_eq rfl); (case c5' => decide); (case kB' => exact locs rfl); (case c2' => exact rfl); (case c3' => exact rfl); (case c4' => exact rfl); k_whole; intro g'' L'' h'' FG'' F'' N'' B'' X'' T''; (try dsimp only); (try k_lift B''); (try k_fold))
 k_with "call builtin:sorted" => (k_here; refine held ?_)
 k_with "StarOf ref" => (k_here; refine held ?_)
 k_with "call ref" => (k_here; refine held ?_)
 k_with "exec While" => (k_here; refine held ?_)
 k_with "exec Try" => (k_here; refine held ?_)
 trivial
noncomputable def toldM (u : Str → Option Value) (S Ro : Addr) (rb : Bool) : Str → Option Value := fun y => if y = Str.ofString "sorter" then some (.ref S) else if y = Str.ofString "rounds" then some (.ref Ro) else if y = Str.ofString "ring" then some (.bool rb) else u y
theorem toldM_of {m : Str → Option Value} {S Ro : Addr} {rb : Bool} (ha : m (Str.ofString "sorter") = some (.ref S)) (hb : m (Str.ofString "rounds") = some (.ref Ro)) (hc : m (Str.ofString "ring") = some (.bool rb)) : m = toldM m S Ro rb := asIf3 ha hb hc
theorem ir {g h : Heap} {L' : Addr} {m : Str → Option Value} {S Ro : Addr} {rb : Bool} (F : Fr g L' h m) (ha : m (Str.ofString "sorter") = some (.ref S)) (hb : m (Str.ofString "rounds") = some (.ref Ro)) (hc : m (Str.ofString "ring") = some (.bool rb)) : Fr g L' h (toldM m S Ro rb) := by
 rw [← toldM_of ha hb hc]; exact F
noncomputable def cP (G : Gr) (ring : Bool) : Prop := (ring = true ∧ ∃ C : List Nat, C ≠ [] ∧ (∀ c ∈ C, c ∈ G.nodes) ∧ ∀ c ∈ C, ∃ d ∈ C, c ∈ G.su d) ∨ (ring = false ∧ ∃ fin, Seen G.nodes G.su fin [] ∧ ∀ v ∈ G.nodes, v ∈ fin)
noncomputable def toldD (Rs : List (List Nat)) (ring : Bool) : Dat := .tuple [.list (Rs.map fun R => .list ((ord5.filter fun v => decide (v ∈ R)).map fun v => .str (nm v))), .bool ring]
inductive lp (w : World) (S dx D Ro L' : Addr) (ta tb : Tok) (G : Gr) (n5 : List (Addr × Obj)) (fs : List Addr) (g' : Heap) (s : Shared) (f : Flow) (s₂ : Shared) : Prop where
 | mk : (f = .next) → ∀ g hh tk u rb nx, (s₂ = { s with heap := hh, toks := tk }) → (KtsTurn fs g' g) → (Fr g L' hh (toldM u S Ro rb)) → (News g L' hh nx) → (bH w S dx D (.int 0 ta) (.int 0 tb) G n5 nx) → (cP G rb) → lp w S dx D Ro L' ta tb G n5 fs g' s f s₂
inductive ToldJ (w : World) (S dx D Ro L' : Addr) (G : Gr) (es : List Edge) (rb : Bool) (news : List (Addr × Obj)) (fs : List Addr) (g' : Heap) (s : Shared) (n : Nat) (s₁ : Shared) : Prop where
 | mk : ∀ g hh tk u G1 R vs k rs Rs ps kk sub nx b ta tb, (s₁ = { s with heap := hh, toks := tk }) → (KtsTurn fs g' g) → (Fr g L' hh (toldM u S Ro rb)) → (News g L' hh nx) → (SrtIn w S dx D (.ref R) (.int b ta) (.int b tb) G1 nx) → ((R, listOf vs.toArray k) ∈ nx) → (¬ Own S dx D G R) → (StrsAre vs (rs.map nm)) → (KInv es G.nodes Rs.flatten G1.np rs) → (RInv es G.nodes Rs) → (G1 = { G with np := G1.np }) → ((Ro, listOf ps.toArray kk) ∈ nx) → (¬ Own S dx D G Ro) → (R ≠ Ro) → ((∀ q ∈ sub, q ∈ nx ∧ ¬ Own S dx D G q.1 ∧ q.1 ≠ R ∧ q.1 ≠ Ro)) → (DatAll sub ps (Rs.map fun R => .list ((ord5.filter fun v => decide (v ∈ R)).map fun v => .str (nm v)))) → ((∀ q ∈ news, q.1 ≠ R ∧ (¬ Own S dx D G q.1 → q ∈ nx))) → (n = 5 - Rs.length) → ToldJ w S dx D Ro L' G es rb news fs g' s n s₁
noncomputable def ew (w : World) (S : Addr) (dx : Addr) (D : Addr) (ta : Tok) (tb : Tok) (G : Gr) (es : List Edge) (news : List (Prod Addr Obj)) : Prop := ∀ (h : SrtIn w S dx D .none (.int 0 ta) (.int 0 tb) G news) (hsu : G.su = suOf es) (hnp : ∀ v ∈ G.nodes, G.np v = (cnt es [] v : Int)) (hes : ∀ e ∈ es, e.1 ∈ G.nodes ∧ e.2 ∈ G.nodes) (hel : es.length ≤ 100), MutD 80 w 238 [.ref S] news (fun nx r => ∃ Rs np ring, RInv es G.nodes Rs ∧ KInv es G.nodes Rs.flatten np [] ∧ DatIn nx r (toldD Rs ring) ∧ cP G ring ∧ ∀ p ∈ news, ¬ Own S dx D G p.1 → p ∈ nx)
noncomputable def ap : (((World × Addr) × Addr) × Addr × Tok) × (Tok × Gr) × (List Edge) × (List (Prod Addr Obj)) := @Classical.epsilon _ (by have := neW; have := neG; infer_instance) fun x => ¬ u9 ew x
namespace n_told_ok
noncomputable def S : PySem.Addr := ap.1.1.1.2
theorem mi : ew ap.1.1.1.1 n_told_ok.S ap.1.1.2 ap.1.2.1 ap.1.2.2 ap.2.1.1 ap.2.1.2 ap.2.2.1 ap.2.2.2 := by
 intro h hsu hnp hes hel
 have hcl : ∀ v ∈ (ap.2.1.2).nodes, ∀ s ∈ (ap.2.1.2).su v, s ∈ (ap.2.1.2).nodes := fun v _ s hs => by
  rw [hsu] at hs
  exact (hes _ (mem_suOf.mp hs)).1
 have hsl : ∀ v, ((ap.2.1.2).su v).length ≤ 100 := fun v => by
  rw [hsu]; unfold suOf
  rw [List.length_map]
  exact Nat.le_trans (List.length_filter_le _ _) hel
 unfold MutD
 k_fill
 intro p loose mean mg mb dp un gd cn cs a ccd cl outer A₀ base h₀ L m s Q E KD B F XX N T XB TB hk hd hu hret
 refine wpAny_call ?_
 k_dflt walk_at "mine enterT"
 k_steps
 rename_i g' L' h5 FG B' X' T' tk0 Ro h4 lRo Tt h3 lTt h2 h1 h0 F5 N5
 walk_at "mine open"
 have KD' := kd_push (env := envX cn cs L a ccd cl) KD FG rfl
 refine bO (h.fld) ?_; intro f1 f2 f3 f4 hfld
 generalize hn5 : (S, instObj 210 (ap.1.1.2)) :: ((ap.1.1.2), sdict (ap.1.1.1.1) f1 f2 f3 f4 (ap.1.2.1) .none (.int 0 (ap.1.2.2)) (.int 0 (ap.2.1.1)) 4) :: (Ro, listOf #[] 0) :: (ap.2.2.2) = n5
 replace N5 : News g' L' h0 n5 := News.sub N5 (by rw [← hn5]; exact List.forall_mem_cons.mpr ⟨.tail _ (.tail _ h.inst), List.forall_mem_cons.mpr ⟨.tail _ (.tail _ hfld), List.forall_mem_cons.mpr ⟨.tail _ (.head _), fun q hq => .tail _ (.tail _ hq)⟩⟩⟩)
 have hS5 : SrtIn (ap.1.1.1.1) S (ap.1.1.2) (ap.1.2.1) .none (.int 0 (ap.1.2.2)) (.int 0 (ap.2.1.1)) (ap.2.1.2) n5 := h.keep fun q hq _ => by rw [← hn5]; exact .tail _ (.tail _ (.tail _ hq))
 have hR5 : (Ro, listOf #[] 0) ∈ n5 := by rw [← hn5]; exact .tail _ (.tail _ (.head _))
 have hsub5 : ∀ q ∈ (ap.2.2.2), q ∈ n5 := fun q hq => by rw [← hn5]; exact .tail _ (.tail _ (.tail _ hq))
 refine wpAny_mono (Q := lp (ap.1.1.1.1) S (ap.1.1.2) (ap.1.2.1) Ro L' (ap.1.2.2) (ap.2.1.1) (ap.2.1.2) n5 (fsOf (envX cn cs L a ccd cl :: outer)) g' s) ?_ ?_ (fun _ _ e => e)
 ·refine wpAny_Try_except ?_
  rw [← hn5] at N5
  k_steps
  walk_at "mine open"
  rw [hn5] at N5
  refine kp (ap.1.1.1.1) S (ap.1.1.2) (ap.1.2.1) (.int 0 (ap.1.2.2)) (.int 0 (ap.2.1.1)) (ap.2.1.2) n5 hS5 hcl hsl p loose mean mg mb (dp + 1) (un + 3) gd _ _ _ _ [] (envX cn cs L a ccd cl :: outer) _ base g' L' _ _ _ _ B' F5 X' N5 T' XB TB rfl (by omega) (by omega) ?_ ?_
  ·intro r nx6 g6 h6 tk6 TT6 F6 N6 zp1
   walk_at "mine hide"
   refine jR (zp1) ?_; (try clear zp1); intro xq3a; subst xq3a; intro hP hring
   k_steps
   exact ⟨rfl, g6, _, _, _, false, nx6, rfl, TT6, ir F6 rfl rfl rfl, N6, hP, .inr ⟨rfl, hring⟩⟩
  ·rintro e t vs nx6 G6 g6 h6 tk6 TT6 F6 R6 hup ⟨hP, hring⟩
   refine caught_SO0 (g₀ := g') R6 F6 (bd B' TT6) hup XB TB (KD'.turn TT6) TT6 (by kernel_rfl) (by kernel_rfl) ?_
   intro h7 g7 n7 TT7 F7 N7 hgot N7' B7 X7 T7 D7
   k_steps
   rename Heap => h8
   rename Fr _ _ _ _ => F8
   rename News _ _ _ _ => N8
   exact ⟨rfl, g7, _, _, _, true, nx6, rfl, TT7, ir F8 rfl rfl rfl, N8, hP, .inl ⟨rfl, hring⟩⟩
 ·rintro f s₂ ⟨rfl, g1, h1, tk1, u1, rb, nx1, rfl, TT1, F1, N1, ⟨R, ys, hSp, hRp, hRo, hys, hkp, hRnew⟩, hring⟩
  k_steps
  walk_at "mine open"
  have hK0 : KInv (ap.2.2.1) (ap.2.1.2).nodes [] (ap.2.1.2).np ((ap.2.1.2).nodes.filter fun v => (ap.2.1.2).np v = 0) := by
   refine ⟨fun v hv => ?_, h.nd.filter _, fun v => ?_, fun e _ q => (nomatch q)⟩
   ·rw [hnp v hv]; simp
   ·rw [List.mem_filter]
    constructor
    ·rintro ⟨a1, a2⟩
     have := hnp v a1
     exact ⟨a1, by simp, by simp at a2; omega⟩
    ·rintro ⟨a1, _, a3⟩
     have := hnp v a1
     exact ⟨a1, by simp; omega⟩
  have hRoN : ∀ q ∈ (ap.2.2.2), q.1 ≠ Ro := fun q hq => Nat.ne_of_lt (lRo q hq)
  have hRoO : ¬ Own S (ap.1.1.2) (ap.1.2.1) (ap.2.1.2) Ro := fun ho => by
   refine aT (h.ownIn ho) ?_; intro o hm
   exact hRoN _ hm rfl
  have hRRo : R ≠ Ro := Ne.symm (hRnew _ hR5)
  refine iA (ToldJ (ap.1.1.1.1) S (ap.1.1.2) (ap.1.2.1) Ro L' (ap.2.1.2) (ap.2.2.1) rb (ap.2.2.2) (fsOf (envX cn cs L a ccd cl :: outer)) g' s) (n₀ := 5) ⟨g1, h1, _, u1, (ap.2.1.2), R, ys, ys.length, _, [], [], 0, [], nx1, 0, (ap.1.2.2), (ap.2.1.1), rfl, TT1, F1, N1, hSp, hRp, hRo, hys, hK0, rinv_nil (ap.2.2.1) (ap.2.1.2).nodes, rfl, hkp _ hR5 (fun e => hRoO (.inr (.inl e))), hRoO, hRRo, fun q hq => (nomatch hq), .nil, fun q hq => ⟨hRnew q (hsub5 q hq), fun no => hkp q (hsub5 q hq) fun e => no (.inr (.inl e))⟩, rfl⟩ ?_
  rintro n s₁ ⟨g2, h2, tk2, u2, G2, R2, vs2, k2, rs2, Rs2, ps2, kk2, sub2, nx2, b2, ta2, tb2, rfl, TT2, F2, N2, hS2, hR2, hRO2, hvs2, hK2, hI2, hG2, hRo2, _, hRR2, hsub2, hda2, hkn2, rfl⟩
  have B2 := bd B' TT2
  have X2 := XB.keeps B2.stays
  have T2 := TB.keeps B2.stays
  obtain ⟨np2, rfl⟩ : ∃ np2, G2 = { (ap.2.1.2) with np := np2 } := ⟨_, hG2⟩
  refine bO (hS2.fld) ?_; intro d1 d2 d3 d4 dfld
  have hrs5 : ∀ v ∈ rs2, v < 5 := fun v hv => h.lt5 v ((hK2.mem v).mp hv).1
  have hrl5 : rs2.length ≤ 5 := aV 5 _ hK2.nd hrs5
  have hvl2 : vs2.length = rs2.length := by
   have := hvs2.len_eq
   rwa [List.length_map] at this
  generalize hn3 : (S, instObj 210 (ap.1.1.2)) :: ((ap.1.1.2), sdict (ap.1.1.1.1) d1 d2 d3 d4 (ap.1.2.1) (.ref R2) (.int b2 ta2) (.int b2 tb2) 4) :: nx2 = n3
  have hsub3 : ∀ q ∈ nx2, q ∈ n3 := fun q hq => by rw [← hn3]; exact .tail _ (.tail _ hq)
  replace N2 : News g2 L' h2 n3 := News.sub N2 (by rw [← hn3]; exact List.forall_mem_cons.mpr ⟨hS2.inst, List.forall_mem_cons.mpr ⟨dfld, fun q hq => hq⟩⟩)
  have hS3 : SrtIn (ap.1.1.1.1) S (ap.1.1.2) (ap.1.2.1) (.ref R2) (.int b2 ta2) (.int b2 tb2) { (ap.2.1.2) with np := np2 } n3 := hS2.keep fun q hq _ => hsub3 q hq
  refine wpAny_mono (Q := fun b s₂ => b = (!vs2.isEmpty) ∧ Held (∃ h3 tk3, s₂ = { s with heap := h3, toks := tk3 } ∧ Fr g2 L' h3 (toldM u2 S Ro rb) ∧ News g2 L' h3 n3)) ?_ ?_ (fun _ _ e => e)
  ·rw [← hn3] at N2
   k_steps
   walk_at "mine open"
   rw [hn3] at N2
   refine mL (ap.1.1.1.1) S (ap.1.1.2) (ap.1.2.1) R2 b2 tb2 ta2 { (ap.2.1.2) with np := np2 } vs2 k2 n3 hS3 (hsub3 _ hR2) (by omega) p loose mean mg mb (dp + 1) (un + 3) gd _ _ _ _ [] (envX cn cs L a ccd cl :: outer) _ base g2 L' _ _ _ _ B2 F2 X2 N2 T2 rfl (by omega) (by omega) ?_
   intro r nx3 h3 tk3 F3 N3 zp2
   walk_at "mine hide"
   refine bj (zp2) ?_; (try clear zp2); intro xq6a; subst xq6a; intro xq6b; subst xq6b
   k_steps
   all_goals first | exact F3 | exact N3 | (unfold Held; exact ⟨_, _, rfl, F3, N3⟩)
  ·rintro bb s₂ ⟨rfl, hH⟩
   unfold Held at hH
   refine fa (hH) ?_; (try clear hH); intro h3 tk3 xq7c; subst xq7c; intro F3 N3
   cases vs2 with
   | nil =>
    rw [if_neg (by decide)]
    k_steps
    rename_i Dt h4 F4 N4 l4
    have er : rs2 = [] := List.length_eq_zero_iff.mp hvl2.symm
    subst er
    refine ⟨g2, L', _, _, TT2, F4, N4, fun h₀' T₂ F₂ N₂ => hret _ _ h₀' _ _ T₂ F₂ N₂ ⟨Rs2, np2, rb, hI2, hK2, ?_, hring, fun q hq no => .tail _ (hsub3 _ ((hkn2 q hq).2 no))⟩⟩
    exact DatIn.tuple (vs := [.ref Ro, .bool rb]) (.head _) (.cons (DatIn.list (.tail _ (hsub3 _ hRo2)) (DatAll.mono (fun q hq => .tail _ (hsub3 _ (hsub2 q hq).1)) hda2)) (.cons (.bool rb) .nil))
   | cons v0 vs2' =>
    rw [if_pos (by rfl)]
    rw [← hn3] at N3
    k_steps
    walk_at "mine open"
    rw [hn3] at N3
    refine ready_ok (ap.1.1.1.1) S (ap.1.1.2) (ap.1.2.1) R2 b2 tb2 ta2 { (ap.2.1.2) with np := np2 } (v0 :: vs2') k2 rs2 n3 hS3 (hsub3 _ hR2) hRO2 hvs2 (fun v hv => ((hK2.mem v).mp hv).1) (by omega) (by simp) p loose mean mg mb (dp + 1) (un + 3) gd _ _ _ _ [] (envX cn cs L a ccd cl :: outer) _ base g2 L' _ _ _ _ B2 F3 X2 N3 T2 rfl (by omega) (by omega) ?_
    intro r nx4 h4 tk4 F4 N4 zp3
    walk_at "mine hide"
    refine x3_4 (zp3) ?_; (try clear zp3); intro Tr tp4 k4 xq8d; subst xq8d; intro hT4 hS4 hR4 hkeep4
    have hkeep : ∀ q ∈ nx2, ¬ Own S (ap.1.1.2) (ap.1.2.1) (ap.2.1.2) q.1 → q.1 ≠ R2 → q ∈ nx4 := fun q hq no ne => hkeep4 q (hsub3 q hq) no ne
    have hRo4 : (Ro, listOf ps2.toArray kk2) ∈ nx4 := hkeep _ hRo2 hRoO (Ne.symm hRR2)
    refine bO (hS4.fld) ?_; intro e1 e2 e3 e4 efld
    have hTRo : Tr ≠ Ro := fun e => by
     have := aM N4 hT4 hRo4 e
     rw [Prod.mk.injEq] at this
     exact absurd (congrArg Obj.cls this.2) (by simp)
    have hSRo : S ≠ Ro := fun e => hRoO (.inl e.symm)
    have hdRo : (ap.1.1.2) ≠ Ro := fun e => hRoO (.inr (.inl e.symm))
    have r4 : ∀ q ∈ drawn [S, (ap.1.1.2), Ro, Tr] nx4, q.1 ≠ Ro := aE (.tail _ (.tail _ (.head _)))
    have one4 : ∀ q ∈ nx4, ∀ r ∈ nx4, q.1 = r.1 → q = r := fun q hq r hr e => aM N4 hq hr e
    replace N4 : News g2 L' h4 ((S, instObj 210 (ap.1.1.2)) :: ((ap.1.1.2), sdict (ap.1.1.1.1) e1 e2 e3 e4 (ap.1.2.1) (.ref R2) (.int (b2 + (v0 :: vs2').length) tp4) (.int b2 tb2) 4) :: (Ro, listOf ps2.toArray kk2) :: (Tr, tupOf (v0 :: vs2') 0) :: drawn [S, (ap.1.1.2), Ro, Tr] nx4) := News.sub N4 (List.forall_mem_cons.mpr ⟨hS4.inst, List.forall_mem_cons.mpr ⟨efld, List.forall_mem_cons.mpr ⟨hRo4, List.forall_mem_cons.mpr ⟨hT4, aI⟩⟩⟩⟩)
    k_steps
    rename Heap => h5
    rename Fr _ _ _ _ => F5
    rename News _ _ _ _ => N5'
    walk_at "mine open"
    refine kd F5 N5' (.tail _ (.tail _ (.tail _ (.head _)))) hvs2 (by omega) ?_
    intro h6 Dn svs sss ke F6 N6 lDn hsv hpm hsd
    have hss := gA hrs5 hK2.nd hpm hsd
    subst hss
    have qDn : Dn ≠ Ro := Nat.ne_of_gt (lDn _ (.tail _ (.tail _ (.head _))))
    have hfew := cw hI2 h.lt5
    have hpl2 : ps2.length = Rs2.length := by
     have := hda2.length
     rwa [List.length_map] at this
    have hps : ps2.length ≤ sizeLine := by
     have e0 : sizeLine = 16777216 := rfl
     omega
    k_steps
    refine eh ?_
    k_steps
    rename_i h7 tk7 q7 h8 F7 N7 l7
    refine jL (K := Mine.hd.heap_39 (ap.1.1.1.1).params) (g := 193) (self := .ref S) (by kernel_rfl) ?_
    k_steps
    walk_at "mine open"
    refine star_seq (T := "tuple") F7 N7 (a := Tr) (.tail _ (.tail _ (.tail _ (.tail _ (.tail _ (.head _)))))) rfl rfl (.inr rfl) rfl (by rw [List.size_toArray]; have e0 : sizeLine = 16777216 := rfl; omega) ?_
    intro h9 F9 N9
    refine ⟨methP N9 (.head _) (X2.keeps F9.keep), ?_⟩
    refine call_meth N9 (.head _) ?_
    generalize hn9 : (q7, methodObj (.ref 193) (.ref S)) :: _ = n9 at N9
    have hk9 : ∀ q ∈ nx4, q.1 ≠ Ro → q ∈ n9 := fun q hq e => by
     rw [← hn9]
     by_cases q1 : q.1 = S
     ·rw [one4 q hq _ hS4.inst q1]; exact .tail _ (.tail _ (.head _))
     ·by_cases q2 : q.1 = (ap.1.1.2)
      ·rw [one4 q hq _ efld q2]; exact .tail _ (.tail _ (.tail _ (.head _)))
      ·by_cases q3 : q.1 = Tr
       ·rw [one4 q hq _ hT4 q3]; exact .tail _ (.tail _ (.tail _ (.tail _ (.tail _ (.head _)))))
       ·exact .tail _ (.tail _ (.tail _ (.tail _ (.tail _ (.tail _ (mem_drawn.mpr ⟨hq, by simp [e, q1, q2, q3]⟩))))))
    have hD9 : (Dn, listOf svs.toArray ke) ∈ n9 := by rw [← hn9]; exact .tail _ (.head _)
    have hRo9 : (Ro, listOf (ps2.toArray.push (.ref Dn)) (kk2 + 1)) ∈ n9 := by rw [← hn9]; exact .tail _ (.tail _ (.tail _ (.tail _ (.head _))))
    have hS9 : SrtIn (ap.1.1.1.1) S (ap.1.1.2) (ap.1.2.1) (.ref R2) (.int (b2 + (v0 :: vs2').length) tp4) (.int b2 tb2) (Gr.outs { (ap.2.1.2) with np := np2 } rs2) n9 := hS4.keep fun q hq ho => hk9 q hq fun e => hRoO (e ▸ ho)
    have hround := round_ok hK2 hes
    have lDn4 : ∀ q ∈ nx4, q.1 < Dn := fun q hq => by
     by_cases q1 : q.1 = S
     ·rw [q1]; exact lDn _ (.head _)
     ·by_cases q2 : q.1 = (ap.1.1.2)
      ·rw [q2]; exact lDn _ (.tail _ (.head _))
      ·by_cases q3 : q.1 = Ro
       ·rw [q3]; exact lDn _ (.tail _ (.tail _ (.head _)))
       ·by_cases q4 : q.1 = Tr
        ·rw [q4]; exact lDn _ (.tail _ (.tail _ (.tail _ (.head _))))
        ·exact lDn _ (.tail _ (.tail _ (.tail _ (.tail _ (mem_drawn.mpr ⟨hq, by simp [q1, q2, q3, q4]⟩)))))
    have hDnO : ¬ Own S (ap.1.1.2) (ap.1.2.1) (ap.2.1.2) Dn := fun ho => by
     refine aT (hS4.ownIn (a := Dn) ho) ?_; intro o hm
     exact Nat.lt_irrefl _ (lDn4 _ hm)
    have hDnR : Dn ≠ R2 := Nat.ne_of_gt (lDn4 _ hR4)
    have hns : rs2 ≠ [] := fun e => by rw [e] at hvl2; simp at hvl2
    have hI9 := lT hI2 hK2 hns
    have hfew9 := cw hI9 h.lt5
    rw [List.length_append, List.length_singleton] at hfew9
    refine done_c (ap.1.1.1.1) S (ap.1.1.2) (ap.1.2.1) R2 Tr (.int (b2 + (v0 :: vs2').length) tp4) b2 tb2 (Gr.outs { (ap.2.1.2) with np := np2 } rs2) [] k4 [] rs2 (v0 :: vs2') n9 hS9 (hk9 _ hR4 hRR2) hRO2 .nil (Nat.zero_le _) hvs2 hrl5 (fun v hv => ((hK2.mem v).mp hv).1) hcl hsl (by rw [show (Gr.outs { (ap.2.1.2) with np := np2 } rs2).su = suOf (ap.2.2.1) from hsu]; exact hround.1) p loose mean mg mb (dp + 1) (un + 3) gd _ _ _ _ [] (envX cn cs L a ccd cl :: outer) _ base g2 L' _ _ _ _ B2 F9 X2 N9 T2 rfl (by omega) (by omega) ?_
    intro r n10 h10 tk10 F10 N10 zp4
    walk_at "mine hide"
    refine x3_4 (zp4) ?_; (try clear zp4); intro vs10 k10 tf10 xq11d; subst xq11d; intro hS10 hR10 hv10 hkp10
    rw [hvl2] at hS10
    have hround2 := hround.2
    rw [show (Gr.outs { (ap.2.1.2) with np := np2 } rs2).su = suOf (ap.2.2.1) from hsu] at hS10 hv10
    k_steps
    refine ⟨5 - (Rs2 ++ [rs2]).length, by rw [List.length_append, List.length_singleton]; omega, g2, h10, _, _, _, R2, vs10, k10, _, Rs2 ++ [rs2], ps2 ++ [.ref Dn], kk2 + 1, (Dn, listOf svs.toArray ke) :: sub2, n10, b2 + rs2.length, tp4, tf10, rfl, TT2, ir F10 rfl rfl rfl, N10, hS10, hR10, hRO2, hv10, ?_, hI9, rfl, ?_, hRoO, hRR2, ?_, ?_, ?_, rfl⟩
    ·rw [List.flatten_append, List.flatten_singleton]
     exact hround2
    ·have := hkp10 _ hRo9 hRoO (Ne.symm hRR2)
     simpa using this
    ·intro q hq
     rcases List.mem_cons.mp hq with rfl | hq
     ·exact ⟨hkp10 _ hD9 hDnO hDnR, hDnO, hDnR, qDn⟩
     ·refine x0_3 (hsub2 q hq) ?_; intro c1 c2 c3 c4
      exact ⟨hkp10 q (hk9 q (hkeep q c1 c2 c3) c4) c2 c3, c2, c3, c4⟩
    ·rw [List.map_append]
     refine DatAll.append (DatAll.mono (fun q hq => .tail _ hq) hda2) (DatAll.one (DatIn.list (.head _) ?_))
     exact co hsv
    ·intro q hq
     have hq2 := hkn2 q hq
     refine ⟨hq2.1, fun no => hkp10 q (hk9 q (hkeep q (hq2.2 no) no hq2.1) (hRoN q hq)) no hq2.1⟩
end n_told_ok
theorem told_ok (w : World) (S dx D : Addr) (ta tb : Tok) (G : Gr) (es : List Edge) (news : List (Addr × Obj)) (h : SrtIn w S dx D .none (.int 0 ta) (.int 0 tb) G news) (hsu : G.su = suOf es) (hnp : ∀ v ∈ G.nodes, G.np v = (cnt es [] v : Int)) (hes : ∀ e ∈ es, e.1 ∈ G.nodes ∧ e.2 ∈ G.nodes) (hel : es.length ≤ 100) :
  MutD 80 w 238 [.ref S] news (fun nx r => ∃ Rs np ring, RInv es G.nodes Rs ∧ KInv es G.nodes Rs.flatten np [] ∧ DatIn nx r (toldD Rs ring) ∧ cP G ring ∧ ∀ p ∈ news, ¬ Own S dx D G p.1 → p ∈ nx) := @aO _ _ (u9 ew) n_told_ok.mi ((((w, S), dx), (D, ta)), ((tb, G), (es, news))) h hsu hnp hes hel
noncomputable def lm : List Stmt → Option (List Stmt × Scope)
 | [] => none
 | x :: r => match r with
  | [] => match x with
   | .FunctionDef _ _ b _ _ _ sc _ _ _ => some (b, sc)
   | _ => none
  | _ => lm r
noncomputable def law0 : { b : List Stmt × Scope // lm PySem.Challenge.pw_oc0257_01.main.body = some b } := ⟨_, rfl⟩
noncomputable def lawB : List Stmt := law0.1.1
noncomputable def lawS : Scope := law0.1.2
noncomputable abbrev lawE (L a : Addr) (cd : Value) : Env := envOfC (Str.ofString "law") lawS L a cd
noncomputable abbrev lawA (L a : Addr) (cd : Value) : Around := callerA.deeper (lawE L a cd)
inductive iB (L : Addr) (g : Heap) (s s' : Shared) : Prop where
 | mk : ∀ g' h tk m nx ps1 ps2, (s' = { s with heap := h, toks := tk }) → (KtsTurn [] g g') → (Fr g' L h m) → (News g' L h nx) → ((89, tabObj ps1) ∈ nx) → ((72, tabObj ps2) ∈ nx) → iB L g s s'
end
section
open PySem PySem.W PyProof.Rows PySem.Calls PySem.Spec
noncomputable def jobN (x : Int) : Nat := (x.fmod 5).toNat
noncomputable def needN (x : Int) : List Nat := ((x.fdiv 5).fmod 5).toNat :: if (x.fdiv 25).fmod 2 = 1 then [((x.fdiv 5 + 2).fmod 5).toNat] else []
noncomputable def rowP (x : Int) : List PR :=
 (Str.ofString "job", some (jobN x)) :: (Str.ofString "after", some ((x.fdiv 5).fmod 5).toNat) ::
  if (x.fdiv 25).fmod 2 = 1 then [(Str.ofString "late", none), (Str.ofString "after", some ((x.fdiv 5 + 2).fmod 5).toNat)] else []
theorem rowP_map (x : Int) : (rowP x).map toP = rowOf x := by
 unfold rowP rowOf jobN
 by_cases h : (x.fdiv 25).fmod 2 = 1
 ·rw [if_pos h, if_pos h]; rfl
 ·rw [if_neg h, if_neg h]; rfl
theorem mod5 (y : Int) : (y.fmod 5).toNat < 5 := by
 have h1 := Int.fmod_nonneg_of_pos y (b := 5) (by decide)
 have h2 := Int.fmod_lt_of_pos y (b := 5) (by decide)
 omega
theorem cZ (x : Int) : jobN x < 5 := mod5 x
theorem fF (x : Int) : ∀ u ∈ needN x, u < 5 := fun u hu => by
 unfold needN at hu
 rcases List.mem_cons.mp hu with rfl | hu
 ·exact mod5 _
 ·split at hu
  ·rw [List.mem_singleton.mp hu]; exact mod5 _
  ·exact nomatch hu
theorem gG (x : Int) : (needN x).length ≤ 2 := by
 unfold needN
 split <;> simp
theorem ld (x : Int) : OkR (rowP x) := by
 refine ⟨jobN x, _, cZ x, rfl, ?_, ?_⟩
 ·by_cases h : (x.fdiv 25).fmod 2 = 1
  ·rw [if_pos h]
   exact ⟨.inl ⟨rfl, _, mod5 _, rfl⟩, .inr ⟨rfl, _, _, rfl⟩, .inl ⟨rfl, _, mod5 _, rfl⟩, trivial⟩
  ·rw [if_neg h]
   exact ⟨.inl ⟨rfl, _, mod5 _, rfl⟩, trivial⟩
 ·split <;> simp
noncomputable def aH (xs : List Int) : List Int := xs.take 6 ++ [5, 11, 60, 13, 38]
theorem cC (xs : List Int) : (aH xs).length ≤ 11 := by
 unfold aH
 rw [List.length_append, List.length_take]
 simp only [List.length_cons, List.length_nil]
 omega
noncomputable def aG (xs : List Int) : List (List PR) := (aH xs).map rowP
theorem br (xs : List Int) : (aG xs).length ≤ 11 := by unfold aG; rw [List.length_map]; exact cC xs
theorem bn (xs : List Int) : ∀ r ∈ aG xs, OkR r := fun r hr => by
 refine aJ (List.mem_map.mp hr) ?_; intro x _ xq0c; subst xq0c
 exact ld x
theorem gC (xs : List Int) : aG xs ≠ [] := by
 unfold aG aH
 simp
noncomputable def aR (l : List Int) : List Edge := l.flatMap fun x => (needN x).map fun u => (jobN x, u)
theorem bV (l : List Int) (x : Int) : aR (l ++ [x]) = aR l ++ (needN x).map fun u => (jobN x, u) := by
 unfold aR; simp
theorem cg (l : List Int) : (aR l).length ≤ 2 * l.length := by
 induction l with
 | nil => exact Nat.le_refl _
 | cons x l ih =>
  have := gG x
  unfold aR at ih ⊢
  simp only [List.flatMap_cons, List.length_append, List.length_map, List.length_cons]
  omega
theorem fV (l : List Int) : ∀ e ∈ aR l, e.1 < 5 ∧ e.2 < 5 := fun e he => by
 refine aJ (List.mem_flatMap.mp he) ?_; intro x _ hx
 refine aJ (List.mem_map.mp hx) ?_; intro u hu xq2c; subst xq2c
 exact ⟨cZ x, fF x u hu⟩
theorem eE (es fs : List Edge) (u : Nat) : suOf (es ++ fs) u = suOf es u ++ suOf fs u := by
 unfold suOf; rw [List.filter_append, List.map_append]
theorem fn (v : Nat) (needs : List Nat) (u : Nat) : suOf (needs.map fun u => (v, u)) u = (needs.filter (· = u)).map fun _ => v := by
 induction needs with
 | nil => rfl
 | cons x l ih =>
  unfold suOf at ih ⊢
  by_cases h : x = u
  ·simp only [List.map_cons, List.filter_cons, h, decide_true, if_true, List.map_cons]
   rw [ih]
  ·simp only [List.map_cons, List.filter_cons, h, decide_false, Bool.false_eq_true, if_false]
   rw [ih]
theorem kT (es fs : List Edge) (T : List Nat) (u : Nat) : cnt (es ++ fs) T u = cnt es T u + cnt fs T u := by
 unfold cnt; rw [List.countP_append]
theorem cnt_row (v : Nat) (needs : List Nat) (u : Nat) : cnt (needs.map fun u => (v, u)) [] u = if u = v then needs.length else 0 := by
 induction needs with
 | nil => simp [cnt]
 | cons x l ih =>
  rw [List.map_cons, fZ, ih]
  by_cases h : u = v
  ·subst h; simp
  ·rw [if_neg h, if_neg h, if_neg]
   rintro ⟨h1, _⟩; exact h h1.symm
theorem en {l : List Nat} {v u : Nat} : u ∈ touch l v ↔ u ∈ l ∨ u = v := by
 unfold touch
 split
 ·rename_i h
  constructor
  ·exact fun q => .inl q
  ·rintro (q | rfl)
   ·exact q
   ·first | exact h | simpa using h
 ·simp
theorem gt {needs : List Nat} : ∀ {l : List Nat} {u : Nat}, u ∈ needs.foldl touch l ↔ u ∈ l ∨ u ∈ needs := by
 induction needs with
 | nil => intro l u; simp
 | cons x r ih =>
  intro l u
  rw [List.foldl_cons, ih, en, List.mem_cons, or_assoc]
structure GrIs (l : List Int) (G : Gr) : Prop where
 su : G.su = suOf (aR l)
 np : ∀ v, G.np v = (cnt (aR l) [] v : Int)
 nodes : ∀ v, v ∈ G.nodes ↔ ∃ x ∈ l, v = jobN x ∨ v ∈ needN x
theorem GrIs.add {l : List Int} {G : Gr} {x : Int} (h : GrIs l G) : GrIs (l ++ [x]) (jN (jN G (jobN x) (needN x)) (jobN x) []) := by
 refine ⟨?_, fun v => ?_, fun v => ?_⟩
 ·funext u
  show ((G.su u ++ ((needN x).filter (· = u)).map fun _ => jobN x) ++ (([] : List Nat).filter (· = u)).map fun _ => jobN x) = _
  rw [bV, eE, fn, h.su]
  simp
 ·rw [bV, kT, cnt_row]
  have e := h.np v
  show (if v = jobN x then (if jobN x = jobN x then G.np (jobN x) + ((needN x).length : Int) else G.np (jobN x)) + (([] : List Nat).length : Int) else (if v = jobN x then G.np (jobN x) + ((needN x).length : Int) else G.np v)) = _
  by_cases c : v = jobN x
  ·rw [if_pos c, if_pos rfl, if_pos c, ← c, e]
   simp
  ·rw [if_neg c, if_neg c, if_neg c, e]
   simp
 ·show v ∈ touch ((needN x).foldl touch (touch G.nodes (jobN x))) (jobN x) ↔ _
  rw [en, gt, en, h.nodes]
  constructor
  ·rintro (((⟨y, hy, h1⟩ | h1) | h1) | h1)
   ·exact ⟨y, List.mem_append.mpr (.inl hy), h1⟩
   ·exact ⟨x, List.mem_append.mpr (.inr (.head _)), .inl h1⟩
   ·exact ⟨x, List.mem_append.mpr (.inr (.head _)), .inr h1⟩
   ·exact ⟨x, List.mem_append.mpr (.inr (.head _)), .inl h1⟩
  ·rintro ⟨y, hy, h1⟩
   rcases List.mem_append.mp hy with hy | hy
   ·exact .inl (.inl (.inl ⟨y, hy, h1⟩))
   ·rw [List.mem_singleton.mp hy] at h1
    rcases h1 with h1 | h1
    ·exact .inl (.inl (.inr h1))
    ·exact .inl (.inr h1)
theorem GrIs.two {l : List Int} {G G1 G2 : Gr} {x : Int} (h : GrIs l G) (n1 : G1.nodes = (needN x).foldl touch (touch G.nodes (jobN x))) (p1 : G1.np = fun u => if u = jobN x then G.np (jobN x) + (needN x).length else G.np u) (s1 : G1.su = fun u => G.su u ++ ((needN x).filter (· = u)).map fun _ => jobN x)
  (n2 : G2.nodes = ([] : List Nat).foldl touch (touch G1.nodes (jobN x))) (p2 : G2.np = fun u => if u = jobN x then G1.np (jobN x) + ([] : List Nat).length else G1.np u) (s2 : G2.su = fun u => G1.su u ++ (([] : List Nat).filter (· = u)).map fun _ => jobN x) : GrIs (l ++ [x]) G2 := by
 have k := h.add (x := x)
 refine ⟨?_, ?_, ?_⟩
 ·rw [s2, s1]; exact k.su
 ·intro v; rw [p2, p1]; exact k.np v
 ·intro v; rw [n2, n1]; exact k.nodes v
theorem GrIs.sum {l : List Int} {G : Gr} (h : GrIs l G) (hl : l.length ≤ 11) : ∀ u ∈ G.nodes, (G.su u).length ≤ 100 := fun u _ => by
 rw [h.su]
 unfold suOf
 rw [List.length_map]
 have h1 := List.length_filter_le (fun e : Edge => decide (e.2 = u)) (aR l)
 have h2 := cg l
 omega
theorem jM (xs : List Int) {v : Nat} (hv : v < 5) : ∃ x ∈ aH xs, v = jobN x ∨ v ∈ needN x := by
 have m5 : (5 : Int) ∈ aH xs := List.mem_append.mpr (.inr (.head _))
 have m11 : (11 : Int) ∈ aH xs := List.mem_append.mpr (.inr (.tail _ (.head _)))
 have m38 : (38 : Int) ∈ aH xs := List.mem_append.mpr (.inr (.tail _ (.tail _ (.tail _ (.tail _ (.head _))))))
 match v, hv with
 | 0, _ => exact ⟨5, m5, .inl (by decide)⟩
 | 1, _ => exact ⟨11, m11, .inl (by decide)⟩
 | 2, _ => exact ⟨11, m11, .inr (by decide)⟩
 | 3, _ => exact ⟨38, m38, .inl (by decide)⟩
 | 4, _ => exact ⟨38, m38, .inr (by decide)⟩
noncomputable def fU (es : List Edge) : List Nat := es.flatMap fun e => [e.1, e.2]
theorem fT (xs : List Int) (v : Nat) : v ∈ fU (aR (aH xs)) ↔ v < 5 := by
 constructor
 ·intro h
  refine aJ (List.mem_flatMap.mp h) ?_; intro e he hv
  have := fV _ e he
  simp only [List.mem_cons, List.not_mem_nil, or_false] at hv
  omega
 ·intro h
  refine aJ (jM xs h) ?_; intro x hx h1
  have hn : ∃ u, u ∈ needN x := ⟨_, .head _⟩
  rcases h1 with rfl | h1
  ·refine aT (hn) ?_; (try clear hn); intro u hu
   exact List.mem_flatMap.mpr ⟨(jobN x, u), List.mem_flatMap.mpr ⟨x, hx, List.mem_map.mpr ⟨u, hu, rfl⟩⟩, .head _⟩
  ·exact List.mem_flatMap.mpr ⟨(jobN x, v), List.mem_flatMap.mpr ⟨x, hx, List.mem_map.mpr ⟨v, h1, rfl⟩⟩, .tail _ (.head _)⟩
theorem kQ (es : List Edge) : (fU es).length = 2 * es.length := by
 induction es with
 | nil => rfl
 | cons e l ih => unfold fU at ih ⊢; simp only [List.flatMap_cons, List.length_append, ih, List.length_cons, List.length_nil]; omega
noncomputable def bu (l : List Nat) : Nat → List Nat
 | 0 => []
 | k + 1 => bu l k ++ (match l[k]? with
  | some v => if v ∈ l.take k then [] else [v]
  | none => [])
theorem dN {l : List Nat} : ∀ k v, v ∈ bu l k ↔ v ∈ l.take k
 | 0, v => by simp [bu]
 | k + 1, v => by
  rw [bu, List.take_add_one, List.mem_append, List.mem_append, dN k v]
  cases h : l[k]? with
  | none => simp
  | some u =>
   simp only [Option.toList_some, List.mem_singleton]
   by_cases c : u ∈ l.take k
   ·rw [if_pos c]
    constructor
    ·rintro (q | q)
     ·exact .inl q
     ·exact nomatch q
    ·rintro (q | rfl)
     ·exact .inl q
     ·exact .inl c
   ·rw [if_neg c, List.mem_singleton]
theorem bU {l : List Nat} : ∀ k, (bu l k).Nodup
 | 0 => .nil
 | k + 1 => by
  rw [bu]
  cases h : l[k]? with
  | none => simpa using bU k
  | some u =>
   dsimp only
   by_cases c : u ∈ l.take k
   ·rw [if_pos c, List.append_nil]; exact bU k
   ·rw [if_neg c]
    refine List.nodup_append.mpr ⟨bU k, by simp, fun a ha b hb => ?_⟩
    rw [List.mem_singleton.mp hb]
    rintro rfl
    exact c ((dN k a).mp ha)
theorem rlA60 : True := by
 k_with_none
 k_with "mine lt" => first | exact lt0 (by assumption) | exact lt1 (by assumption) | exact lt2 (by assumption) | exact lt3 (by assumption) | exact lt4 (by assumption) | exact lt5 (by assumption) | exact lt6 (by assumption) | exact lt7 (by assumption) | exact lt8 (by assumption) | exact lt9 (by assumption)
 k_with "mine ord" => first | exact ordNil | (refine ordCons ?_ ?_; (· walk_at "mine lt"); (· walk_at "mine ord"))
 k_with "execs cons" => (k_here; (with_reducible refine aL ?_); (try clear tkw); intro tkw; (try k_fold); (with_reducible refine wpAny_execs_cons ?_); (try dsimp only))
 trivial
noncomputable def Pure0 (w : World) (f : Addr) (args : List Value) (Pre : List (Addr × Obj) → Prop) (Post : List (Addr × Obj) → Value → Prop) : Prop :=
 ∀ (p : Program) (loose : List Str) (mean : ExcName → Option Value) (mg mb : Str → Option Value) (dp un : Nat) (gd : Option (List Code)) (cn : Str) (cs : Scope) (a : Addr) (ccd : Value) (cl : List (Str × Addr)) (outer : List Env) (A₀ : Around) (base h₀ : Heap) (L : Addr) (m : Str → Option Value) (news : List (Addr × Obj)) (s : Shared) (Q E : Value → Shared → Prop),
  Below A₀ base outer h₀ → Fr h₀ L s.heap m → (Mine.hd.heap_39 w.params).In h₀ → News h₀ L s.heap news → Top p loose mean mg mb h₀ → cs.kind = .function → dp + 20 < recursionLimit → un + 200 < cLine → Pre news →
  (∀ r tl h' tk', Fr h₀ L h' m → News h₀ L h' (tl ++ news) → (∀ q ∈ news, ∀ p ∈ tl, q.1 < p.1) → Post tl r → Q r { s with heap := h', toks := tk' }) →
  wpAny (model PySem.Challenge.rw_oc0257_01.prog w) (ktrTop dp un gd cn cs L a ccd cl outer) (call (.ref f) args) Q E s
theorem row_ok0 (w : World) (x : Int) (tx : Tok) : Pure0 w 221 [.int x tx] (fun _ => True) (fun nx r => DatIn nx r (datR (rowOf x))) := by
 unfold Pure0
 k_fill
 intro p loose mean mg mb dp un gd cn cs a ccd cl outer A₀ base h₀ L m news s Q E B F X N T hk hd hu hpre hret
 refine wpAny_call ?_
 k_with "table" => skip
 k_dflt cell_enter
 k_steps
 ·refine hret _ [_, _, _, _, _, _, _, _] _ _ (by assumption) (by assumption) ?_ ?_
  ·walk_at "mine ord"
  ·have e1 : (x.fdiv 25).fmod 2 = 1 := by assumption
   simp only [rowOf, e1, if_true, datR, List.cons_append, List.nil_append, List.map_cons, List.map_nil, datP, datV]
   refine DatIn.list (by k_mem) ?_
   repeat' (first | exact DatAll.nil | refine DatAll.cons ?_ ?_ | exact DatIn.none | exact DatIn.str _ _ | refine DatIn.tuple (by k_mem) ?_)
 ·refine hret _ [_, _, _, _] _ _ (by assumption) (by assumption) ?_ ?_
  ·walk_at "mine ord"
  ·have e1 : (x.fdiv 25).fmod 2 ≠ 1 := by assumption
   simp only [rowOf, e1, if_false, datR, List.cons_append, List.nil_append, List.map_cons, List.map_nil, datP, datV]
   refine DatIn.list (by k_mem) ?_
   repeat' (first | exact DatAll.nil | refine DatAll.cons ?_ ?_ | exact DatIn.none | exact DatIn.str _ _ | refine DatIn.tuple (by k_mem) ?_)
theorem rlB30 : True := by
 k_with_none
 k_with "mine hide" => first | (refine (?_ : let gk : Prop := wpAny _ ak _ _ _ _; gk); (try clear gk); intro gk) | (refine (?_ : let ak : Around := _; let gk : Prop := wpAny _ ak _ _ _ _; gk); intro ak; (try clear gk); intro gk) | (refine (?_ : let gk : Prop := _; gk); (try clear gk); intro gk)
 k_with "mine in" => first | (with_reducible assumption) | (with_reducible exact sId) | ((with_reducible refine sTl ?_); walk_at "mine in") | ((with_reducible refine sLe ?_); walk_at "mine in") | ((with_reducible refine sRi ?_); walk_at "mine in")
 k_with "mine memb" => first | assumption | exact List.Mem.head _ | (refine List.Mem.tail _ ?_; walk_at "mine memb") | (refine mLe ?_; walk_at "mine memb") | (refine mRi ?_; walk_at "mine memb")
 k_with "mine sub" => first | (with_reducible exact sId) | (with_reducible exact sNil) | ((with_reducible refine sCons ?_ ?_); (· walk_at "mine memb"); (· walk_at "mine sub")) | ((with_reducible refine sApp ?_ ?_); (· walk_at "mine sub"); (· walk_at "mine sub")) | walk_at "mine in"
 k_with "execs cons" => (k_here; (with_reducible refine aL ?_); (try clear tkw); intro tkw; (try k_fold); (with_reducible refine wpAny_execs_cons ?_); (try dsimp only))
 k_with "getMethod ref" => (k_here; first | ((with_reducible show wpAny _ _ (getMethod (Value.ref 82) (Str.ofString "fullmatch") _) _ _ _); refine bc slot_fullmatch cK (patJT (by k_in)) ?_) | ((with_reducible show wpAny _ _ (getMethod (Value.ref 87) (Str.ofString "sub") _) _ _ _); refine bc slot_sub fg (patJE (by k_in)) ?_))
 k_with "call builtin:re.Pattern.fullmatch" => case fresh => (k_here; first | (refine fm_a (by k_asm) (by k_asm) (by k_in) ?_; intro li'' sp'' tu'' ma'' h'' F'' N'' l1' l2'; refine cu N'' (.head _) ?_) | (refine iX (by k_in) (by assumption) (by assumption) ?_))
 k_with "getMethod ref" => (k_here; (with_reducible show wpAny _ _ (getMethod (Value.ref _) (Str.ofString "group") _) _ _ _); refine cz slot_group dC (by k_asm) (List.Mem.head _) ?_)
 k_with "call builtin:re.Match.group" => (k_here; refine dM (by k_asm) (List.Mem.head _) (List.Mem.tail _ (List.Mem.head _)) (by assumption) ?_; intro _ _)
 k_with "convS str" => (k_here; refine convS_str ?_ (by first | assumption | size_fits); intro _ _)
 k_with "formatField str" => (k_here; refine field_str ?_ (by first | assumption | size_fits); intro _ _)
 k_with "le" => ((with_reducible show PySem.Str.length _ ≤ sizeLine); (try dsimp only); simp only [Str.length_append, gI, ib, lk]; omega)
 trivial
noncomputable def Tab2 (w : World) (f : Addr) (args : List Value) (P : Addr) (qual : Str) (line col : Nat) (Pre : List (Addr × Obj) → Prop) (Post : List (Addr × Obj) → Value → Prop) : Prop :=
 ∀ (p : Program) (loose : List Str) (mean : ExcName → Option Value) (mg mb : Str → Option Value) (dp un : Nat) (gd : Option (List Code)) (cn : Str) (cs : Scope) (a : Addr) (ccd : Value) (cl : List (Str × Addr)) (outer : List Env) (A₀ : Around) (base h₀ : Heap) (L : Addr) (m : Str → Option Value) (ps : Array Value) (news nt : List (Addr × Obj)) (s : Shared) (Q E : Value → Shared → Prop),
  Below A₀ base outer h₀ → Fr h₀ L s.heap m → (Mine.hd.heap_39 w.params).In h₀ → News h₀ L s.heap ((P, tabObj ps) :: news) → Top p loose mean mg mb h₀ → cs.kind = .function → dp + 40 < recursionLimit → un + 400 < cLine → (∀ p ∈ news, p.1 ≠ P) → (∀ q ∈ nt, q ∈ news) → TabOk qual line col ps nt → Pre news →
  (∀ r ps' tl h' tk', Fr h₀ L h' m → News h₀ L h' ((P, tabObj ps') :: (tl ++ news)) → (∀ q ∈ news, ∀ p ∈ tl, q.1 < p.1) → (∀ p ∈ tl, p.1 ≠ P) → TabOk qual line col ps' (tl ++ nt) → Post (tl ++ news) r → Q r { s with heap := h', toks := tk' }) →
  wpAny (model PySem.Challenge.rw_oc0257_01.prog w) (ktrTop dp un gd cn cs L a ccd cl outer) (call (.ref f) args) Q E s
inductive JoinJa (rs : List (List PR)) (H : Addr) (news nt : List (Addr × Obj)) (i : Nat) (m : Str → Option Value) (nx : List (Addr × Obj)) : Prop where
 | mk : ∀ (u : Str → Option Value) (avs : List Value) (k : Nat) (ps' : Array Value) (add : List (Addr × Obj)), (m = (fun y => if y = Str.ofString "headers" then some (.ref H) else u y)) → (nx = (H, listOf avs.toArray k) :: (89, tabObj ps') :: (add ++ news)) → (StrsAre avs ((rs.take i).map rtext)) → (TabOk qJ 60 50 ps' (add ++ nt)) → (∀ p ∈ add, H < p.1) → JoinJa rs H news nt i m nx
theorem rlB31 : True := by
 k_with "truthy ref" => (k_here; (with_reducible show wpAny _ _ (truthy (Value.ref Aa)) _ _ _); refine held ?_)
 k_with "truthy str" => (k_here; (with_reducible show wpAny _ _ (truthy (Value.str ⟨T9.cps.extract gb ge⟩ _)) _ _ _); refine held ?_)
 k_with "call builtin:list.append" => (k_here; refine held ?_)
 trivial
inductive la (r : List PR) (Aa H : Addr) (avs : List Value) (k : Nat) (add news nt : List (Addr × Obj)) (I : Addr) (o : Obj) (i : Nat) (m : Str → Option Value) (nx : List (Addr × Obj)) : Prop where
 | mk : ∀ (u : Str → Option Value) (bvs : List Value) (k' : Nat) (ps2 : Array Value) (add2 : List (Addr × Obj)), (m = (fun y => if y = Str.ofString "attr" then some (.ref Aa) else if y = Str.ofString "headers" then some (.ref H) else u y)) → (nx = (Aa, listOf bvs.toArray k') :: (89, tabObj ps2) :: (add2 ++ ((H, listOf avs.toArray k) :: (add ++ news) ++ [(I, o)]))) → (StrsAre bvs ((r.take i).map ptext)) → (TabOk qJ 60 50 ps2 (add2 ++ (add ++ nt))) → (∀ p ∈ add2, Aa < p.1) → la r Aa H avs k add news nt I o i m nx
theorem iP (w : World) (l : Addr) (rs : List (List PR)) (hrs : rs.length ≤ 20) (hg : ∀ r ∈ rs, (r ≠ [] ∧ r.length ≤ 10) ∧ ∀ p ∈ r, GoodP p) : Tab2 w 94 [.ref l] 89 qJ 60 50 (fun nx => DatIn nx (.ref l) (datRs (rs.map (·.map toP)))) (fun nx r => ∃ t, r = .str (Txt.join (Str.ofString ", ") (rs.map rtext)) t) := by
 unfold Tab2
 k_fill
 intro p loose mean mg mb dp un gd cn cs a ccd cl outer A₀ base h₀ L m ps news nt s Q E B F X N T hk hd hu hP hnt hTab hpre hret
 cases hpre with
 | list hl0 hds =>
 rename_i vs nn
 refine wpAny_call ?_
 k_dflt cell_enter
 k_steps
 rename_i g' L' hh1 FG B' X' T' H hh2 lH hh3 F' N'
 have lH' : ∀ p ∈ (89, tabObj ps) :: news, p.1 < H := lt0 (by first | assumption | exact tb_ltOf lH)
 refine dw (l := l) (vs := vs) (nn := nn) (JoinJa rs H news nt) rfl F' N' (fun Q' h' => ?_) ?_ ?_ ?_ ?_
 ·k_steps
  exact h'
 ·exact ⟨_, [], 0, ps, [], rfl, rfl, .nil, hTab, fun _ h => nomatch h⟩
 ·rintro i m nx ⟨u, avs, k, ps', add, rfl, rfl, hS, hTab', hadd⟩
  exact .tail _ (.tail _ (List.mem_append.mpr (.inr hl0)))
 ·intro I i v m₁ nx h tk o hv zp1 hI hIn F₁ N₁
  walk_at "mine hide"
  obtain ⟨u, avs, k, ps', add, rfl, rfl, hS, hTab', hadd⟩ := zp1
  refine aJ (aY (rs := rs) (f := fun r => datR (r.map toP)) (by simpa [List.map_map, Function.comp_def] using hds) hv) ?_; intro r hr hD
  refine gO (ef hD) ?_; intro b ws q xq2d; subst xq2d; intro hb hws
  k_steps
  rename_i hh4 Aa hh5 lA hh6 F₂ N₂
  have hrm : r ∈ rs := List.mem_of_getElem? hr
  have hAaN : ∀ p ∈ (H, listOf avs.toArray k) :: (add ++ news) ++ [(I, o)], p.1 ≠ Aa := fun p hp => Nat.ne_of_lt (lA p (by revert hp; revert p; walk_at "mine sub"))
  have h89A : 89 < Aa := lA (89, tabObj ps') (by simp)
  have hR89 : ∀ p ∈ (H, listOf avs.toArray k) :: (add ++ news) ++ [(I, o)], p.1 ≠ 89 := by
   intro p hp
   have hH89 : 89 < H := lH' _ (.head _)
   have hI89 : 89 < I := hIn (89, tabObj ps) (.tail _ (.head _))
   simp only [List.cons_append, List.append_assoc, List.mem_append, List.mem_cons, List.not_mem_nil, or_false] at hp
   rcases hp with rfl | hp | hp | rfl
   ·exact Nat.ne_of_gt hH89
   ·exact Nat.ne_of_gt (Nat.lt_trans hH89 (hadd p hp))
   ·exact hP p hp
   ·exact Nat.ne_of_gt hI89
  refine dw (l := b) (vs := ws) (nn := q) (news := (Aa, listOf ([] : List Value).toArray 0) :: (89, tabObj ps') :: ([] ++ ((H, listOf avs.toArray k) :: (add ++ news) ++ [(I, o)]))) (la r Aa H avs k add news nt I o) rfl F₂ (News.sub N₂ (by
   walk_at "mine sub")) (fun Q' h' => ?_) ?_ ?_ ?_ ?_
  ·k_steps
   exact h'
  ·refine ⟨fun y => if y = Str.ofString "pairs" then some (Value.ref b) else u y, [], 0, ps', [], ?_, rfl, .nil, hTab', fun _ h => nomatch h⟩
   funext y
   by_cases e1 : y = Str.ofString "attr"
   ·rw [if_pos e1, if_pos e1]
   ·rw [if_neg e1, if_neg e1]
    by_cases e2 : y = Str.ofString "headers"
    ·have e3 : y ≠ Str.ofString "pairs" := fun e => absurd (e.symm.trans e2) (by decide)
     rw [if_neg e3, if_pos e2, if_pos e2]
    ·rw [if_neg e2, if_neg e2]
  ·rintro j m nx ⟨u', bvs, k', ps2, add2, rfl, rfl, hS', hT2, hadd2⟩
   simp only [List.cons_append, List.append_assoc, List.mem_append, List.mem_cons]
   grind
  ·intro I' j v' m₂ nx h2 tk2 o' hv' zp2 hI' hIn' F₃ N₃
   walk_at "mine hide"
   obtain ⟨u', bvs, k', ps2, add2, rfl, rfl, hS', hT2, hadd2⟩ := zp2
   refine aJ (aY (rs := r) (f := fun p => datP (toP p)) (by simpa [List.map_map, Function.comp_def] using hws) hv') ?_; intro pr hpr hDp
   refine x4_2 (eg hDp) ?_; intro b' t' q' x' xq5e; subst xq5e; intro hb' hx
   have hgp : GoodP pr := (hg r hrm).2 pr (List.mem_of_getElem? hpr)
   obtain ⟨pk, pv⟩ := pr
   replace F₃ : Fr g' L' h2 _ := F₃
   replace N₃ : News g' L' h2 _ := N₃
   have hT := News.isTup N₃ (List.mem_append.mpr (.inl (.tail _ (.tail _ (List.mem_append.mpr (.inr (List.mem_append.mpr (.inl (.tail _ (List.mem_append.mpr (.inr hb')))))))))))
   have hneA : ∀ p ∈ (89, tabObj ps2) :: (add2 ++ ((H, listOf avs.toArray k) :: (add ++ news) ++ [(I, o)])) ++ [(I', o')], p.1 ≠ Aa := by
    intro p hp
    rcases List.mem_append.mp hp with hp | hp
    ·rcases List.mem_cons.mp hp with rfl | hp
     ·exact Nat.ne_of_lt h89A
     ·rcases List.mem_append.mp hp with hp | hp
      ·exact Nat.ne_of_gt (hadd2 p hp)
      ·exact hAaN p hp
    ·rw [List.mem_singleton.mp hp]
     exact Ne.symm (hI' _ (.head _))
   have fin : ∀ (s₃ : Shared) (h3 : Heap) (tk3 : Nat) (m3 : Str → Option Value) (ps3 : Array Value) (add3 : List (Addr × Obj)) (t3 : Tok), s₃ = { s with heap := h3, toks := tk3 } → m3 (Str.ofString "attr") = some (.ref Aa) → m3 (Str.ofString "headers") = some (.ref H) → Fr g' L' h3 m3 →
     News g' L' h3 ((Aa, listOf (bvs ++ [Value.str (ptext (pk, pv)) t3]).toArray (k' + 1)) :: ((89, tabObj ps3) :: (add3 ++ ((H, listOf avs.toArray k) :: (add ++ news) ++ [(I, o)])) ++ [(I', o')])) → TabOk qJ 60 50 ps3 (add3 ++ (add ++ nt)) → (∀ p ∈ add3, Aa < p.1 ∧ p.1 ≠ I') →
     cG g' L' { s with heap := hh6, toks := tk } I' o' (la r Aa H avs k add news nt I o (j + 1)) s₃ := by
    intro s₃ h3 tk3 m3 ps3 add3 t3 e3 ma mh F4 N4 T4 l4
    refine ⟨h3, tk3, m3, (Aa, listOf (bvs ++ [Value.str (ptext (pk, pv)) t3]).toArray (k' + 1)) :: (89, tabObj ps3) :: (add3 ++ ((H, listOf avs.toArray k) :: (add ++ news) ++ [(I, o)])), e3, F4, N4, ?_, m3, bvs ++ [Value.str (ptext (pk, pv)) t3], k' + 1, ps3, add3, ?_, rfl, ?_, T4, fun p hp => (l4 p hp).1⟩
    ·intro p hp
     rcases List.mem_cons.mp hp with rfl | hp
     ·exact hI' (Aa, listOf bvs.toArray k') (.head _)
     ·rcases List.mem_cons.mp hp with rfl | hp
      ·exact hI' (89, tabObj ps2) (.tail _ (.head _))
      ·rcases List.mem_append.mp hp with hp | hp
       ·exact (l4 p hp).2
       ·exact hI' p (.tail _ (.tail _ (List.mem_append.mpr (.inr hp))))
    ·funext y
     by_cases e1 : y = Str.ofString "attr"
     ·rw [if_pos e1, e1, ma]
     ·rw [if_neg e1]
      by_cases e2 : y = Str.ofString "headers"
      ·rw [if_pos e2, e2, mh]
      ·rw [if_neg e2]
    ·have : (r.take (j + 1)).map ptext = (r.take j).map ptext ++ [ptext (pk, pv)] := by
      rw [List.take_add_one, hpr]; simp
     rw [this]
     exact hS'.append' (.cons _ _ .nil)
   have hbl : bvs.length ≤ sizeLine := by
    have e1 := hS'.len_eq
    have e2 : sizeLine = 16777216 := rfl
    have e3 := (hg r hrm).1.2
    have e4 : ((r.take j).map ptext).length ≤ r.length := by rw [List.length_map, List.length_take]; omega
    omega
   rcases hx with ⟨rfl, rfl⟩ | ⟨n, t9, rfl, rfl⟩
   ·k_steps
    rename Fr _ _ _ _ => F4
    rename News _ _ _ _ => N4
    unfold Held
    refine be F4 N4 hneA hbl ?_
    intro h5 F5 N5
    refine wpAny_execs_nil ?_
    exact fin _ h5 _ _ ps2 add2 t' rfl rfl rfl F5 N5 hT2 (fun p hp => ⟨hadd2 p hp, hI' p (.tail _ (.tail _ (List.mem_append.mpr (.inl hp))))⟩)
   ·have hn5 : n < 5 := hgp.2 n rfl
    have sl0 : sizeLine = 16777216 := rfl
    have hpk : pk.length ≤ sizeLine := by have := cf hgp; dsimp only at this; omega
    have hnm : (nm n).length ≤ sizeLine := by have := kt n; omega
    have hes : (esc n).length ≤ sizeLine := by have := iu n; omega
    have hpk5 : pk.length ≤ 5 := cf hgp
    have hnm3 := kt n
    have hes3 := iu n
    by_cases hn0 : n = 0
    ·subst hn0
     k_steps
     rename Fr _ _ _ _ => F4
     rename News _ _ _ _ => N4
     unfold Held
     refine be F4 (News.sub N4 fun _ h => .tail _ (.tail _ h)) hneA hbl ?_
     intro h5 F5 N5
     refine wpAny_execs_nil ?_
     have et : Str.empty ++ (pk, some 0).fst ++ Str.ofString "=" ++ nm 0 = ptext (pk, some 0) := by
      show Str.empty ++ pk ++ Str.ofString "=" ++ nm 0 = pk ++ (Str.ofString "=" ++ qv 0)
      rw [Str.empty_append, Str.append_assoc]; rfl
     rw [et] at N5
     exact fin _ h5 _ _ ps2 add2 _ rfl rfl rfl F5 N5 hT2 (fun p hp => ⟨hadd2 p hp, hI' p (.tail _ (.tail _ (List.mem_append.mpr (.inl hp))))⟩)
    ·k_steps
     rename Fr _ _ _ _ => F4
     rename News _ _ _ _ => N4
     have h89I' : (89 : Nat) ≠ I' := hI' (89, tabObj ps2) (.tail _ (.head _))
     refine eM (P := 89) (c := 93) (qual := qJ) (rest0 := add2 ++ (add ++ nt)) (rest := (Aa, listOf bvs.toArray k') :: (add2 ++ ((H, listOf avs.toArray k) :: (add ++ news) ++ [(I, o)])) ++ [(I', o')]) (ps := ps2) F4 (News.sub N4 (by
      walk_at "mine sub")) T' (codeHd_of_K X' (by rfl)) rfl ?_ rfl hT2 (by
      intro p hp
      have hntp := hnt p
      simp only [List.cons_append, List.append_assoc, List.mem_append, List.mem_cons] at hp ⊢
      grind) rfl rfl ?_
     ·intro p hp
      rcases List.mem_append.mp hp with hp | hp
      ·rcases List.mem_cons.mp hp with rfl | hp
       ·exact Nat.ne_of_gt h89A
       ·rcases List.mem_append.mp hp with hp | hp
        ·exact Nat.ne_of_gt (Nat.lt_trans h89A (hadd2 p hp))
        ·exact hR89 p hp
      ·rw [List.mem_singleton.mp hp]
       exact Ne.symm h89I'
     ·intro f c' ctv ps3 addL h5 tk5 F5 N5 hT3 hC3 lL lf
      k_steps
      refine sub_nm hn0 hn5 F5 N5 X' (.head _) rfl ?_ ?_
      ·intro s' nx lim li tu ma T9 t9' b9 e9 gb ge Q' hs' F6 N6 hsub hsz hq
       refine bX (hs') ?_; (try clear hs'); intro h6 tk6 xq7c; subst xq7c
       refine gO (hC3) ?_; (try clear hC3); intro oc vs9 t99 hoc hdc hvc
       refine wpAny_call ?_
       refine kla_code B' F6 X' N6 T' rfl rfl rfl (List.mem_cons_of_mem _ (List.mem_cons_of_mem _ (hsub _ (.head _)))) (codeRec_news N6 (List.mem_cons_of_mem _ (List.mem_cons_of_mem _ (hsub _ (.tail _ (.tail _ hoc))))) hdc hvc) ?_ rfl (locs rfl) ?_ rfl rfl rfl (by decide)
       ·show dp + 1 < recursionLimit
        omega
       ·intro g2 L2 h7 FG2 F7 N7 B7 X7 T7
        k_steps
        unfold Held
        have hY : (⟨T9.cps.extract gb ge⟩ : Str).length ≤ 1000000 := by
         have e1 : (T9.cps.extract gb ge).size ≤ T9.cps.size := by rw [Array.size_extract]; omega
         show (T9.cps.extract gb ge).size ≤ 1000000
         omega
        generalize (⟨T9.cps.extract gb ge⟩ : Str) = Y at *
        refine PySem.P.truthy_str (by omega) ?_
        by_cases hY0 : Y.length = 0
        ·have eY : Y = Str.ofString "" := by
          have : Y.cps = #[] := Array.size_eq_zero_iff.mp hY0
          cases Y; cases this; rfl
         rw [if_neg (by rw [hY0]; decide)]
         k_steps
         rw [← eY]
         exact hq _ _ _ (by assumption) (News.sub (by assumption) (fun _ h => .tail _ (.tail _ h)))
        ·rw [if_pos (by simpa using hY0)]
         refine PyProof.Rows.add_str ?_ (by have : (Str.ofString "\\").length = 1 := rfl; omega)
         k_steps
         exact hq _ _ _ (by assumption) (News.sub (by assumption) (fun _ h => .tail _ (.tail _ h)))
      ·intro t6 h6 tk6 F6 N6
       replace N6 : News g' L' h6 ((Aa, listOf bvs.toArray k') :: ((89, tabObj ps3) :: ((addL ++ add2) ++ ((H, listOf avs.toArray k) :: (add ++ news) ++ [(I, o)])) ++ [(I', o')])) := News.sub N6 (by
        walk_at "mine sub")
       have lA2 : ∀ p ∈ addL, Aa < p.1 ∧ p.1 ≠ I' := fun p hp => ⟨lL (Aa, listOf bvs.toArray k') (.tail _ (.head _)) p hp, Nat.ne_of_gt (lL (I', o') (by simp) p hp)⟩
       k_steps
       rename Fr _ _ _ _ => F7
       rename News _ _ _ _ => N7
       unfold Held
       refine be F7 N7 ?_ hbl ?_
       ·intro p hp
        have hp' : p ∈ addL ∨ p ∈ (89, tabObj ps2) :: (add2 ++ ((H, listOf avs.toArray k) :: (add ++ news) ++ [(I, o)])) ++ [(I', o')] ∨ p.1 = 89 := by
         simp only [List.cons_append, List.append_assoc, List.mem_append, List.mem_cons] at hp ⊢
         grind
        rcases hp' with hp' | hp' | hp'
        ·exact Nat.ne_of_gt (lA2 p hp').1
        ·exact hneA p hp'
        ·rw [hp']; exact Nat.ne_of_lt h89A
       ·intro h8 F8 N8
        refine wpAny_execs_nil ?_
        simp only [Str.append_assoc, Str.empty_append, jF hn0 hn5] at N8
        refine fin _ h8 _ _ ps3 (addL ++ add2) _ rfl rfl rfl F8 N8 (by rw [List.append_assoc]; exact hT3) ?_
        ·intro p hp
         rcases List.mem_append.mp hp with hp | hp
         ·exact lA2 p hp
         ·exact ⟨hadd2 p hp, hI' p (.tail _ (.tail _ (List.mem_append.mpr (.inl hp))))⟩
  ·intro m nx h tk zp3 F₅ N₅
   walk_at "mine hide"
   obtain ⟨u', bvs, k', ps2, add2, rfl, rfl, hS', hT2, hadd2⟩ := zp3
   have hlen : ws.length = r.length := by
    have := hws.length
    simpa using this
   rw [hlen, List.take_length] at hS'
   have hbl : bvs.length = r.length := by have := hS'.len_eq; simpa using this
   have sl0 : sizeLine = 16777216 := rfl
   have hr10 := (hg r hrm).1.2
   obtain ⟨x0, bt, rfl⟩ : ∃ x bt, bvs = x :: bt := by
    have := (hg r hrm).1.1
    cases bvs with
    | nil => exact absurd (List.length_eq_zero_iff.mp hbl.symm) this
    | cons x bt => exact ⟨x, bt, rfl⟩
   replace N₅ : News g' L' h ((H, listOf avs.toArray k) :: ((Aa, listOf (x0 :: bt).toArray k') :: (89, tabObj ps2) :: (add2 ++ (add ++ news)) ++ [(I, o)])) := News.sub N₅ (by
    walk_at "mine sub")
   replace F₅ : Fr g' L' h _ := F₅
   k_steps
   unfold Held
   have hl5 : h.IsList Aa (x0 :: bt).toArray := N₅.isList (.tail _ (.head _))
   apply wpAny_truthy_list (items := (x0 :: bt).toArray) (l := Aa)
   ·exact hl5
   ·show ((x0 :: bt).length : Int) < 2 ^ 63; omega
   rw [if_pos (by rfl)]
   k_steps
   refine join_list hl5 hS' ?_ ?_
   ·have h1 := StrLaws.sumLen_le (B := 12) (r.map ptext) (by intro y hy; obtain ⟨q, hq, rfl⟩ := List.mem_map.mp hy; exact eq ((hg r hrm).2 q hq))
    have h2 : (r.map ptext).length ≤ 10 := by simpa using hr10
    have h3 : (Str.ofString "; ").length = 2 := rfl
    rw [h3]
    omega
   intro t8 k8
   k_steps
   have hHA : H < Aa := lA (H, listOf avs.toArray k) (.head _)
   have hH89 : 89 < H := lH' _ (.head _)
   have hal : avs.length ≤ sizeLine := by
    have e1 := hS.len_eq
    have e4 : ((rs.take i).map rtext).length ≤ rs.length := by rw [List.length_map, List.length_take]; omega
    omega
   unfold Held
   refine be F₅ N₅ ?_ hal ?_
   ·intro p hp
    simp only [List.cons_append, List.append_assoc, List.mem_append, List.mem_cons, List.not_mem_nil, or_false] at hp
    rcases hp with rfl | rfl | hp | hp | hp | rfl
    ·exact Nat.ne_of_gt hHA
    ·exact Nat.ne_of_lt hH89
    ·exact Nat.ne_of_gt (Nat.lt_trans hHA (hadd2 p hp))
    ·exact Nat.ne_of_gt (hadd p hp)
    ·exact Nat.ne_of_lt (lH' p (.tail _ hp))
    ·exact Ne.symm (hI _ (.head _))
   intro h6 F6 N6
   refine wpAny_execs_nil (wpAny_execs_nil ?_)
   refine ⟨h6, _, _, (H, listOf (avs ++ [Value.str (Txt.join (Str.ofString "; ") (r.map ptext)) t8]).toArray (k + 1)) :: (89, tabObj ps2) :: (((Aa, listOf (x0 :: bt).toArray k') :: (add2 ++ add)) ++ news), rfl, F6, News.sub N6 (by
    walk_at "mine sub"), ?_, (fun y => if y = Str.ofString "attr" then some (.ref Aa) else u' y), _, _, ps2, (Aa, listOf (x0 :: bt).toArray k') :: (add2 ++ add), ?_, rfl, ?_, ?_, ?_⟩
   ·intro p hp
    have hIlt : I < Aa := lA (I, o) (by simp)
    simp only [List.cons_append, List.append_assoc, List.mem_append, List.mem_cons] at hp
    rcases hp with rfl | rfl | rfl | hp | hp | hp
    ·exact hI (H, listOf avs.toArray k) (.head _)
    ·exact hI (89, tabObj ps') (.tail _ (.head _))
    ·exact Nat.ne_of_gt hIlt
    ·exact Nat.ne_of_gt (Nat.lt_trans hIlt (hadd2 p hp))
    ·exact hI p (.tail _ (.tail _ (List.mem_append.mpr (.inl hp))))
    ·exact hI p (.tail _ (.tail _ (List.mem_append.mpr (.inr hp))))
   ·funext y
    by_cases e1 : y = Str.ofString "attr"
    ·have e3 : y ≠ Str.ofString "headers" := fun e => absurd (e.symm.trans e1) (by decide)
     rw [if_pos e1, if_neg e3]; (try dsimp only); rw [if_pos e1]
    ·rw [if_neg e1]; (try dsimp only); rw [if_neg e1]
   ·have : (rs.take (i + 1)).map rtext = (rs.take i).map rtext ++ [rtext r] := by
     rw [List.take_add_one, hr]; simp
    rw [this]
    exact hS.append' (.cons _ _ .nil)
   ·refine hT2.mono ?_
    walk_at "mine sub"
   ·intro p hp
    rcases List.mem_cons.mp hp with rfl | hp
    ·exact hHA
    ·rcases List.mem_append.mp hp with hp | hp
     ·exact Nat.lt_trans hHA (hadd2 p hp)
     ·exact hadd p hp
 ·intro m nx h tk zp4 F₁ N₁
  walk_at "mine hide"
  obtain ⟨u, avs, k, ps', add, rfl, rfl, hS, hTab', hadd⟩ := zp4
  have hlen : vs.length = rs.length := by
   have := hds.length
   simpa using this
  rw [hlen, List.take_length] at hS
  k_steps
  refine join_list (N₁.isList (.head _)) hS ?_ ?_
  ·have h1 := StrLaws.sumLen_le (B := 140) (rs.map rtext) (by intro y hy; obtain ⟨q, hq, rfl⟩ := List.mem_map.mp hy; exact eo (hg q hq).1.2 (hg q hq).2)
   have h2 : (rs.map rtext).length ≤ 20 := by simpa using hrs
   have h3 : (Str.ofString ", ").length = 2 := rfl
   rw [h3]
   omega
  intro t9 k9
  k_steps
  refine hret _ ps' ((H, listOf avs.toArray k) :: add) h _ (by assumption) (News.sub (by assumption) ?_) ?_ ?_ ?_ ⟨_, rfl⟩
  ·walk_at "mine sub"
  ·intro q hq p hp
   rcases List.mem_cons.mp hp with rfl | hp
   ·exact lH' q (.tail _ hq)
   ·exact Nat.lt_trans (lH' q (.tail _ hq)) (hadd p hp)
  ·intro p hp
   have hH89 : 89 < H := lH' _ (.head _)
   rcases List.mem_cons.mp hp with rfl | hp
   ·exact Nat.ne_of_gt hH89
   ·exact Nat.ne_of_gt (Nat.lt_trans hH89 (hadd p hp))
  ·exact hTab'.mono fun p hp => .tail _ hp
end
section
open PySem PySem.W PyProof.Rows PySem.Calls PySem.Spec PyProof.Rows.LCg
theorem rlX20 : True := by
 k_with_none
 k_with "mine hide" => first | (refine (?_ : let gk : Prop := wpAny _ ak _ _ _ _; gk); (try clear gk); intro gk) | (refine (?_ : let ak : Around := _; let gk : Prop := wpAny _ ak _ _ _ _; gk); intro ak; (try clear gk); intro gk) | (refine (?_ : let gk : Prop := _; gk); (try clear gk); intro gk)
 k_with "mine in" => first | (with_reducible assumption) | (with_reducible exact sId) | ((with_reducible refine sTl ?_); walk_at "mine in") | ((with_reducible refine sLe ?_); walk_at "mine in") | ((with_reducible refine sRi ?_); walk_at "mine in")
 k_with "mine memb" => first | assumption | exact List.Mem.head _ | (refine List.Mem.tail _ ?_; walk_at "mine memb") | (refine mLe ?_; walk_at "mine memb") | (refine mRi ?_; walk_at "mine memb")
 k_with "mine open" => first | (refine (?_ : let gk : Prop := wpAny _ ak _ _ _ _; Held gk); (try clear gk); intro gk; show gk) | (refine (?_ : let ak : Around := _; let gk : Prop := wpAny _ ak _ _ _ _; Held gk); intro ak; (try clear gk); intro gk; show gk) | (refine (?_ : let gk : Prop := _; Held gk); (try clear gk); intro gk; show gk)
 k_with "mine sub" => first | (with_reducible exact sId) | (with_reducible exact sNil) | ((with_reducible refine sCons ?_ ?_); (· walk_at "mine memb"); (· walk_at "mine sub")) | ((with_reducible refine sApp ?_ ?_); (· walk_at "mine sub"); (· walk_at "mine sub")) | walk_at "mine in"
 k_with "execs cons" => (k_here; (with_reducible refine aL ?_); (try clear tkw); intro tkw; (try k_fold); (with_reducible refine wpAny_execs_cons ?_); (try dsimp only))
 k_with "call ref" => (k_here; refine held ?_)
 k_with "exec Assign cons ListComp" => (k_here; refine held ?_)
 k_with "pyIter ref" => (k_here; refine held ?_)
 k_with "compareOp NotEq ref ref" => (k_here; refine held ?_)
 k_with "eval ListComp" => (k_here; refine held ?_)
 k_with "exec If" => (k_here; refine held ?_)
 k_with "execs cons" => (k_here; (with_reducible show wpAny _ _ (execs (Stmt.If _ _ _ _ :: _) _) _ _ _); refine held ?_)
 k_with "call builtin:str.join" => (k_here; refine held ?_)
 k_with "mine mem" => first | exact List.Mem.head _ | exact List.Mem.tail _ (List.Mem.head _) | exact List.Mem.tail _ (List.Mem.tail _ (List.Mem.head _)) | exact List.Mem.tail _ (List.Mem.tail _ (List.Mem.tail _ (List.Mem.head _))) | exact List.Mem.tail _ (List.Mem.tail _ (List.Mem.tail _ (List.Mem.tail _ (List.Mem.head _)))) | exact List.Mem.tail _ (List.Mem.tail _ (List.Mem.tail _ (List.Mem.tail _ (List.Mem.tail _ (List.Mem.head _)))))
 trivial
noncomputable abbrev LW (L : Addr) (o1 o2 : Obj) (ps1 ps2 : Array Value) (rest : List (Addr × Obj)) : List (Addr × Obj) := (L + 1 + 1, o1) :: (L + 1, o2) :: (89, tabObj ps1) :: (72, tabObj ps2) :: rest
noncomputable abbrev Hi (L : Addr) (rest : List (Addr × Obj)) : Prop := ∀ q ∈ rest, q.1 ≠ L + 1 + 1 ∧ q.1 ≠ L + 1 ∧ q.1 ≠ 89 ∧ q.1 ≠ 72
theorem Hi.of {L : Addr} {o1 o2 : Obj} {ps1 ps2 : Array Value} {rest : List (Addr × Obj)} {d : Addr} (h : ∀ q ∈ LW L o1 o2 ps1 ps2 rest, q.1 ≠ d) : d ≠ L + 1 + 1 ∧ d ≠ L + 1 ∧ d ≠ 89 ∧ d ≠ 72 := ⟨Ne.symm (h _ (.head _)), Ne.symm (h _ (.tail _ (.head _))), Ne.symm (h _ (.tail _ (.tail _ (.head _)))), Ne.symm (h _ (.tail _ (.tail _ (.tail _ (.head _)))))⟩
noncomputable def LawM (k : Nat) (w : World) (g : Heap) (L a : Addr) (cd : Value) (o1 o2 : Obj) (xs : List Int) (s : Shared) (Q : Flow → Shared → Prop) (E : Value → Shared → Prop) : Prop :=
 ∀ h tk (u : Str → Option Value) (H : Str) tH D ys ps1 ps2 rest, Fr g L h (fun y => if y = Str.ofString "header" then some (.str H tH) else if y = Str.ofString "plan" then some (.ref D) else u y) → H = htext (aG xs) → News g L h (LW L o1 o2 ps1 ps2 rest) → Hi L rest → (D, lst ys) ∈ rest → DatAll rest ys ((aG xs).map fun r => datR (r.map toP)) → TabOk qJ 60 50 ps1 rest → TabOk qS 29 49 ps2 rest →
  wpAny (model PySem.Challenge.rw_oc0257_01.prog w) (lawA L a cd) (execs (lawB.drop k) (lawE L a cd)) Q E { s with heap := h, toks := tk }
noncomputable def ik (w : World) (p : Program) (loose : List Str) (mean : ExcName → Option Value) (mg : Str → Option Value) (mb : Str → Option Value) (g : Heap) (L : Addr) (a : Addr) (l : Addr) (cd : Value) (o1 : Obj) (o2 : Obj) (vs : List Value) (xs : List Int) (s : Shared) (Q : Flow → Shared → Prop) (E : Value → Shared → Prop) : Prop := ∀ (B : Below callerA g [] g) (F : Fr g L s.heap fun y => if y = Str.ofString "script" then some (.ref l) else none) (X : (Mine.hd.heap_39 w.params).In g) (N : News g L s.heap [(L + 1 + 1, o1), (L + 1, o2), (89, tabObj #[]), (72, tabObj #[])]) (T : Top p loose mean mg mb g) (hL : g.IsList l vs.toArray) (hI : IntsAre vs xs) (hx : xs.length ≤ 63) (h89 : 89 < L) (h72 : 72 < L) (h1 : o1.data = .cell none) (h2 : o2.data = .cell none) (hret : LawM 2 w g L a cd o1 o2 xs s Q E), wpAny (model PySem.Challenge.rw_oc0257_01.prog w) (lawA L a cd) (execs lawB (lawE L a cd)) Q E s
noncomputable def az : ((((World × Program) × (List Str)) × (ExcName → Option Value) × (Str → Option Value)) × ((Str → Option Value) × Heap) × Addr × Addr) × (((Addr × Value) × Obj) × Obj × (List Value)) × ((List Int) × Shared) × (Flow → Shared → Prop) × (Value → Shared → Prop) := @Classical.epsilon _ (by have := neW; have := neS; infer_instance) fun x => ¬ u18 ik x
namespace n_law_a
noncomputable def p : PySem.Program := az.1.1.1.1.2
theorem m_law_a : ik az.1.1.1.1.1 n_law_a.p az.1.1.1.2 az.1.1.2.1 az.1.1.2.2 az.1.2.1.1 az.1.2.1.2 az.1.2.2.1 az.1.2.2.2 az.2.1.1.1.1 az.2.1.1.1.2 az.2.1.1.2 az.2.1.2.1 az.2.1.2.2 az.2.2.1.1 az.2.2.1.2 az.2.2.2.1 az.2.2.2.2 := by
 intro B F X N T hL hI hx h89 h72 h1 h2 hret
 revert X
 k_fill
 intro X
 unfold LawM at hret
 unfold lawA lawE lawS lawB law0 at hret ⊢
 dsimp only [List.drop] at hret ⊢
 k_steps
 walk_at "mine open"
 refine du (by rfl) (by with_unfolding_all rfl) (by rfl) (by decide) ?_
 k_steps
 rename_i Dl ws h3 F3 N3 hI3 l3
 walk_at "mine open"
 obtain ⟨rest0, N3', hm0, hr0⟩ : ∃ rest0, News (az.1.2.1.2) (az.1.2.2.1) h3 (LW (az.1.2.2.1) (az.2.1.1.2) (az.2.1.2.1) #[] #[] rest0) ∧ (Dl, listOf ws.toArray 0) ∈ rest0 ∧ Hi (az.1.2.2.1) rest0 := ⟨[(Dl, listOf ws.toArray 0)], News.sub N3 (fun q hq => by
  simp only [List.mem_cons, List.not_mem_nil, or_false] at hq ⊢
  rcases hq with h | h | h | h | h <;> simp [h]), .head _, by
  intro q hq
  rw [List.mem_singleton.mp hq]
  obtain ⟨_, _, z1, z2, z3, z4⟩ := l3; exact ⟨Nat.ne_of_gt z1, Nat.ne_of_gt z2, Nat.ne_of_gt z3, Nat.ne_of_gt z4⟩⟩
 clear N3
 have hwl : ws.length = (aH (az.2.2.1.1)).length := IntsAre.length hI3
 refine kZ (L := (az.1.2.2.1)) rfl (SrcW.list rfl N3' (.tail _ (.tail _ (.tail _ (.tail _ hm0))))) (fun _ _ _ _ _ _ h => wpAny_pure h) (by decide) rfl (by rfl) (by rfl) F3 N3' (by rw [List.size_toArray, hwl]; exact Nat.le_trans (cC (az.2.2.1.1)) (by decide)) (fun i ys nx => ∃ rest, nx = LW (az.1.2.2.1) (az.2.1.1.2) (az.2.1.2.1) #[] #[] rest ∧ Hi (az.1.2.2.1) rest ∧ (Dl, listOf ws.toArray 0) ∈ rest ∧ DatAll rest ys (((aH (az.2.2.1.1)).take i).map fun x => datR (rowOf x))) ?_ ⟨rest0, rfl, hr0, hm0, .nil⟩ ?_ ?_
 ·rintro i ys nx ⟨rest, rfl, _, hm, _⟩ q hq
  rw [List.mem_singleton.mp hq]
  exact .tail _ (.tail _ (.tail _ (.tail _ hm)))
 ·intro i v ys nx I oI C oC D m2 h4 tk4 E4 hi hv zp1 hoC F4 N4 off ne
  walk_at "mine hide"
  refine lw (zp1) ?_; (try clear zp1); intro rest xq0b; subst xq0b; intro hr hm hda
  refine bg (hI3.at i v (by simpa using hv)) ?_; intro n t xq1c; subst xq1c; intro hn
  refine bp hoC F4 N4 (off_2 off ne) rfl rfl fun h5 tk5 oC5 m5 hoC5 hm5 F5 N5 => ?_
  refine wpAny_tests_nil ?_
  rw [if_pos rfl]
  k_steps
  walk_at "mine open"
  refine row_ok0 (az.1.1.1.1.1) n t p (az.1.1.1.2) (az.1.1.2.1) (az.1.1.2.2) (az.1.2.1.1) _ _ _ _ _ _ _ _ _ _ (az.1.2.1.2) (az.1.2.1.2) (az.1.2.2.1) _ _ _ _ _ B F5 X N5 T rfl (by decide) (by decide) trivial ?_
  rintro r tl h6 tk6 F6 N6 hlt hDr
  k_unfold
  have hlt' : ∀ p ∈ tl, ∀ q ∈ (I, oI) :: (C, oC5) :: (D, lst ys) :: LW (az.1.2.2.1) (az.2.1.1.2) (az.2.1.2.1) #[] #[] rest, p.1 ≠ q.1 := fun p hp q hq => Nat.ne_of_gt (hlt q hq p hp)
  refine ⟨h6, _, LW (az.1.2.2.1) (az.2.1.1.2) (az.2.1.2.1) #[] #[] (tl ++ rest), oC5, m5, rfl, hoC5, F6, News.sub N6 ?_, ?_, _, rfl, ?_, List.mem_append.mpr (.inr hm), ?_⟩
  ·walk_at "mine sub"
  ·refine Off3.of fun q hq => ?_
   by_cases c : q ∈ tl
   ·exact ⟨hlt' q c _ (.head _), hlt' q c _ (.tail _ (.head _)), hlt' q c _ (.tail _ (.tail _ (.head _)))⟩
   ·refine off.mem q ?_
    simp only [List.mem_cons, List.mem_append] at hq ⊢
    grind
  ·intro q hq
   rcases List.mem_append.mp hq with c | c
   ·exact ⟨hlt' q c _ (.tail _ (.tail _ (.tail _ (.head _)))), hlt' q c _ (.tail _ (.tail _ (.tail _ (.tail _ (.head _))))), hlt' q c _ (.tail _ (.tail _ (.tail _ (.tail _ (.tail _ (.head _)))))), hlt' q c _ (.tail _ (.tail _ (.tail _ (.tail _ (.tail _ (.tail _ (.head _))))))) ⟩
   ·exact hr q c
  ·rw [List.take_add_one, show (aH (az.2.2.1.1))[i]? = some n from hn, List.map_append]
   exact DatAll.append (DatAll.mono (fun q hq => List.mem_append.mpr (.inr hq)) hda) (DatAll.one (DatIn.mono (fun q hq => List.mem_append.mpr (.inl hq)) hDr))
 ·intro D ys nx h4 tk4 zp2 F4 N4 oD
  walk_at "mine hide"
  refine lw (zp2) ?_; (try clear zp2); intro rest xq2b; subst xq2b; intro hr hm hda
  rw [List.size_toArray, hwl, List.take_length] at hda
  have hP : (aG (az.2.2.1.1)).map (·.map toP) = (aH (az.2.2.1.1)).map rowOf := by
   unfold aG
   rw [List.map_map]
   exact List.map_congr_left fun x _ => rowP_map x
  have hplan : DatAll rest ys ((aG (az.2.2.1.1)).map fun r => datR (r.map toP)) := by
   have := hda
   rw [show (fun x => datR (rowOf x)) = datR ∘ rowOf from rfl, ← List.map_map, ← hP, List.map_map] at this
   exact this
  have oD' := Hi.of oD
  k_steps
  walk_at "mine open"
  replace N4 : News (az.1.2.1.2) (az.1.2.2.1) h4 ((89, tabObj #[]) :: ((az.1.2.2.1) + 1 + 1, (az.2.1.1.2)) :: ((az.1.2.2.1) + 1, (az.2.1.2.1)) :: (72, tabObj #[]) :: (D, lst ys) :: rest) := News.sub N4 (fun q hq => by
   revert hq; revert q; walk_at "mine sub")
  refine iP (az.1.1.1.1.1) D (aG (az.2.2.1.1)) (Nat.le_trans (br (az.2.2.1.1)) (by decide)) (fun r hr => ⟨cy (bn (az.2.2.1.1) r hr), cj (bn (az.2.2.1.1) r hr)⟩) p (az.1.1.1.2) (az.1.1.2.1) (az.1.1.2.2) (az.1.2.1.1) _ _ _ _ _ _ _ _ _ _ (az.1.2.1.2) (az.1.2.1.2) (az.1.2.2.1) _ _ _ [] _ _ _ B F4 X N4 T rfl (by decide) (by decide) ?_ (fun q hq => nomatch hq) (.inl rfl) ?_ ?_
  ·intro q hq
   simp only [List.mem_cons] at hq
   rcases hq with rfl | rfl | rfl | rfl | hq
   ·exact Nat.ne_of_gt (Nat.lt_succ_of_lt (Nat.lt_succ_of_lt h89))
   ·exact Nat.ne_of_gt (Nat.lt_succ_of_lt h89)
   ·decide
   ·exact oD'.2.2.1
   ·exact (hr q hq).2.2.1
  ·exact DatIn.list (.tail _ (.tail _ (.tail _ (.head _)))) (DatAll.mono (fun q hq => .tail _ (.tail _ (.tail _ (.tail _ hq)))) (by rw [List.map_map]; exact hplan))
  ·intro r ps1 tl h5 tk5 F5 N5 hlt5 htl5 hT5 zp3
   walk_at "mine hide"
   refine aT (zp3) ?_; (try clear zp3); intro tH xq3b; subst xq3b
   have hne5 : ∀ p ∈ tl, p.1 ≠ (az.1.2.2.1) + 1 + 1 ∧ p.1 ≠ (az.1.2.2.1) + 1 ∧ p.1 ≠ 89 ∧ p.1 ≠ 72 := fun p hp => ⟨Nat.ne_of_gt (hlt5 _ (.head _) p hp), Nat.ne_of_gt (hlt5 _ (.tail _ (.head _)) p hp), htl5 p hp, Nat.ne_of_gt (hlt5 _ (.tail _ (.tail _ (.head _))) p hp)⟩
   replace N5 : News (az.1.2.1.2) (az.1.2.2.1) h5 (LW (az.1.2.2.1) (az.2.1.1.2) (az.2.1.2.1) ps1 #[] ((D, lst ys) :: (tl ++ rest))) := News.sub N5 (fun q hq => by
    revert hq; revert q; walk_at "mine sub")
   k_steps
   rename_i h6 F6 N6
   walk_at "mine open"
   refine hret h6 _ _ _ tH D ys ps1 #[] ((D, lst ys) :: (tl ++ rest)) (by exact F6) rfl N6 ?_ (.head _) (DatAll.mono (fun q hq => .tail _ (List.mem_append.mpr (.inr hq))) hplan) (TabOk.mono hT5 fun q hq => ?_) (.inl rfl)
   ·intro q hq
    rcases List.mem_cons.mp hq with rfl | hq
    ·exact oD'
    ·rcases List.mem_append.mp hq with hq | hq
     ·exact hne5 q hq
     ·exact hr q hq
   ·rw [List.append_nil] at hq
    exact .tail _ (List.mem_append.mpr (.inl hq))
end n_law_a
theorem law_a (w : World) (p : Program) (loose : List Str) (mean : ExcName → Option Value) (mg mb : Str → Option Value) (g : Heap) (L a l : Addr) (cd : Value) (o1 o2 : Obj) (vs : List Value) (xs : List Int) (s : Shared) (Q : Flow → Shared → Prop) (E : Value → Shared → Prop)
  (B : Below callerA g [] g) (F : Fr g L s.heap fun y => if y = Str.ofString "script" then some (.ref l) else none) (X : (Mine.hd.heap_39 w.params).In g) (N : News g L s.heap [(L + 1 + 1, o1), (L + 1, o2), (89, tabObj #[]), (72, tabObj #[])]) (T : Top p loose mean mg mb g)
  (hL : g.IsList l vs.toArray) (hI : IntsAre vs xs) (hx : xs.length ≤ 63) (h89 : 89 < L) (h72 : 72 < L) (h1 : o1.data = .cell none) (h2 : o2.data = .cell none)
  (hret : LawM 2 w g L a cd o1 o2 xs s Q E) :
  wpAny (model PySem.Challenge.rw_oc0257_01.prog w) (lawA L a cd) (execs lawB (lawE L a cd)) Q E s := @aO _ _ (u18 ik) n_law_a.m_law_a (((((w, p), loose), (mean, mg)), ((mb, g), (L, a))), ((((l, cd), o1), (o2, vs)), ((xs, s), (Q, E)))) B F X N T hL hI hx h89 h72 h1 h2 hret
end
section
open PySem PySem.W PyProof.Rows PySem.Calls PySem.Spec
mutual
theorem fX {nx nx' : List (Addr × Obj)} (h : ∀ q ∈ nx, q ∈ nx' ∨ ∀ vs k, q.2.data ≠ .seq vs k) : ∀ {v : Value} {d : Dat}, DatIn nx v d → DatIn nx' v d
 | _, _, .none => .none
 | _, _, .bool b => .bool b
 | _, _, .int i t => .int i t
 | _, _, .str x t => .str x t
 | _, _, .bytes b t => .bytes b t
 | _, _, .tuple hm hd => .tuple ((h _ hm).elim id fun q => absurd rfl (q _ _)) (cN h hd)
 | _, _, .list hm hd => .list ((h _ hm).elim id fun q => absurd rfl (q _ _)) (cN h hd)
theorem cN {nx nx' : List (Addr × Obj)} (h : ∀ q ∈ nx, q ∈ nx' ∨ ∀ vs k, q.2.data ≠ .seq vs k) : ∀ {vs : List Value} {ds : List Dat}, DatAll nx vs ds → DatAll nx' vs ds
 | _, _, .nil => .nil
 | _, _, .cons h1 h2 => .cons (fX h h1) (cN h h2)
end
theorem fj {qual : Str} {line col : Nat} {ps : Array Value} {nx : List (Addr × Obj)} (h : TabOk qual line col ps nx) : ∀ x t, ps[1]? ≠ some (.str x t) := fun x t => by
 rcases h with rfl | ⟨c, rfl, _⟩
 ·simp
 ·simp [rawInt]
theorem fm {qual : Str} {line col : Nat} {ps : Array Value} {nx nx' : List (Addr × Obj)} (h : ∀ q ∈ nx, q ∈ nx' ∨ ∀ vs, q.2.data = .fields vs → ∀ x t, vs[1]? ≠ some (.str x t)) (hT : TabOk qual line col ps nx) : TabOk qual line col ps nx' := by
 rcases hT with rfl | ⟨c, rfl, oc, vs, t, hm, hd, hv⟩
 ·exact .inl rfl
 ·exact .inr ⟨c, rfl, oc, vs, t, (h _ hm).elim id fun q => absurd hv (q _ hd _ _), hd, hv⟩
theorem dX (xs : List Int) : ∀ d ∈ (aG xs).map (fun r => datR (r.map toP)), kqdOk 8 d = true := fun d hd => by
 refine aJ (List.mem_map.mp hd) ?_; intro r hr xq0c; subst xq0c
 have hg := cj (bn xs r hr)
 show ((r.map toP).map datP).all (kqdOk 7) = true
 rw [List.all_eq_true]
 intro e he
 rw [List.map_map] at he
 refine aJ (List.mem_map.mp he) ?_; intro p hp xq1c; subst xq1c
 refine bj (hg p hp) ?_; intro hk hv
 obtain ⟨k, v⟩ := p
 dsimp only at hk hv
 show ([Dat.str k, datV (v.map nm)].all (kqdOk 6)) = true
 have key : ∀ n : Fin 5, PyData.strOk (nm n.1) = true := by decide +kernel
 have hk' : PyData.strOk k = true := by
  rcases hk with rfl | rfl | rfl <;> decide +kernel
 cases v with
 | none =>
  show (PyData.strOk k && (true && true)) = true
  rw [hk']; rfl
 | some i =>
  show (PyData.strOk k && (PyData.strOk (nm i) && true)) = true
  rw [hk', key ⟨i, hv i rfl⟩]; rfl
end
section
open PySem PySem.W PyProof.Rows PySem.Calls PySem.Spec PyProof.Rows.LCg
theorem rlX30 : True := by
 k_with_none
 k_with "mine hide" => first | (refine (?_ : let gk : Prop := wpAny _ ak _ _ _ _; gk); (try clear gk); intro gk) | (refine (?_ : let ak : Around := _; let gk : Prop := wpAny _ ak _ _ _ _; gk); intro ak; (try clear gk); intro gk) | (refine (?_ : let gk : Prop := _; gk); (try clear gk); intro gk)
 k_with "mine in" => first | (with_reducible assumption) | (with_reducible exact sId) | ((with_reducible refine sTl ?_); walk_at "mine in") | ((with_reducible refine sLe ?_); walk_at "mine in") | ((with_reducible refine sRi ?_); walk_at "mine in")
 k_with "mine memb" => first | assumption | exact List.Mem.head _ | (refine List.Mem.tail _ ?_; walk_at "mine memb") | (refine mLe ?_; walk_at "mine memb") | (refine mRi ?_; walk_at "mine memb")
 k_with "mine open" => first | (refine (?_ : let gk : Prop := wpAny _ ak _ _ _ _; Held gk); (try clear gk); intro gk; show gk) | (refine (?_ : let ak : Around := _; let gk : Prop := wpAny _ ak _ _ _ _; Held gk); intro ak; (try clear gk); intro gk; show gk) | (refine (?_ : let gk : Prop := _; Held gk); (try clear gk); intro gk; show gk)
 k_with "mine sub" => first | (with_reducible exact sId) | (with_reducible exact sNil) | ((with_reducible refine sCons ?_ ?_); (· walk_at "mine memb"); (· walk_at "mine sub")) | ((with_reducible refine sApp ?_ ?_); (· walk_at "mine sub"); (· walk_at "mine sub")) | walk_at "mine in"
 k_with "execs cons" => (k_here; (with_reducible refine aL ?_); (try clear tkw); intro tkw; (try k_fold); (with_reducible refine wpAny_execs_cons ?_); (try dsimp only))
 k_with "call ref" => (k_here; refine held ?_)
 k_with "pyIter ref" => (k_here; refine held ?_)
 k_with "compareOp NotEq ref ref" => (k_here; refine held ?_)
 k_with "eval ListComp" => (k_here; refine held ?_)
 k_with "execs cons" => (k_here; (with_reducible show wpAny _ _ (execs (Stmt.If (Expr.Compare _ _ _ _) _ _ _ :: _) _) _ _ _); refine held ?_)
 k_with "call builtin:str.join" => (k_here; refine held ?_)
 trivial
theorem jJ {α : Type} {x : α} {i : Decidable (x = x)} : @decide (x = x) i = true := @decide_eq_true _ i rfl
noncomputable def fN (w : World) (p : Program) (loose : List Str) (mean : ExcName → Option Value) (mg : Str → Option Value) (mb : Str → Option Value) (g : Heap) (L : Addr) (a : Addr) (cd : Value) (o1 : Obj) (o2 : Obj) (s : Shared) (Q : Flow → Shared → Prop) (E : Value → Shared → Prop) : Prop := ∀ (xs : List Int) (B : Below callerA g [] g) (X : (Mine.hd.heap_39 w.params).In g) (T : Top p loose mean mg mb g) (h89 : 89 < L) (h72 : 72 < L) (h1 : o1.data = .cell none) (h2 : o2.data = .cell none) (hret : LawM 3 w g L a cd o1 o2 xs s Q E), LawM 2 w g L a cd o1 o2 xs s Q E
noncomputable def aD : (((World × Program) × (List Str) × (ExcName → Option Value)) × ((Str → Option Value) × (Str → Option Value)) × Heap × Addr) × ((Addr × Value) × Obj × Obj) × (Shared × (Flow → Shared → Prop)) × (Value → Shared → Prop) := @Classical.epsilon _ (by have := neW; have := neS; infer_instance) fun x => ¬ u15 fN x
theorem m_law_a2 : u15 fN aD := by
 intro xs B X T h89 h72 h1 h2 hret
 revert X
 unfold LawM at hret ⊢
 k_fill
 intro X
 intro h tk u H tH D ys ps1 ps2 rest F hH N hr hm hda T1 T2
 subst hH
 unfold lawA lawE lawS lawB law0 at hret ⊢
 dsimp only [List.drop] at hret ⊢
 k_steps
 walk_at "mine open"
 refine bJ (cl := []) (by with_unfolding_all rfl) (by rfl) (by decide) ?_
 k_steps
 walk_at "mine open"
 generalize hn1 : LW (aD.1.2.2.2) (aD.2.1.2.1) (aD.2.1.2.2) ps1 ps2 rest = n1 at N
 have hyl : ys.length = (aG xs).length := by
  have := hda.length
  simpa using this
 refine cQ (SrcW.list rfl N (by rw [← hn1]; exact .tail _ (.tail _ (.tail _ (.tail _ hm))))) (fun _ _ _ _ _ _ h => wpAny_pure h) (by decide) rfl F N (by rw [List.size_toArray, hyl]; exact Nat.le_trans (br xs) (by decide)) (fun i zs nx => nx = n1 ∧ StrsAre zs (((aG xs).take i).map rtext)) ?_ ⟨rfl, .nil⟩ ?_ ?_
 ·rintro i zs nx ⟨rfl, _⟩ q hq
  rw [List.mem_singleton.mp hq, ← hn1]
  exact .tail _ (.tail _ (.tail _ (.tail _ hm)))
 ·intro i v zs nx I oI C oC D2 m2 h4 tk4 E4 hi hv zp1 hoC F4 N4 off ne
  walk_at "mine hide"
  refine bj (zp1) ?_; (try clear zp1); intro xq0a; subst xq0a; intro hzs
  refine aJ (aY hda (show ys[i]? = some v by simpa using hv)) ?_; intro r hr' hDr
  refine gO (ef hDr) ?_; intro b ws q xq2d; subst xq2d; intro hb hws
  have hok := bn xs r (List.mem_of_getElem? hr')
  refine bp hoC F4 N4 (off_2 off ne) rfl rfl fun h5 tk5 oC5 m5 hoC5 hm5 F5 N5 => ?_
  refine wpAny_tests_nil ?_
  rw [if_pos rfl]
  k_steps
  walk_at "mine open"
  refine text_ok (aD.1.1.1.1) b r (cy hok).2 (cj hok) (aD.1.1.1.2) (aD.1.1.2.1) (aD.1.1.2.2) (aD.1.2.1.1) (aD.1.2.1.2) _ _ _ _ _ _ _ _ _ _ (aD.1.2.2.1) (aD.1.2.2.1) (aD.1.2.2.2) _ _ _ _ _ B F5 X N5 T rfl (by decide) (by decide) ?_ ?_
  ·exact DatIn.mono (fun q hq => .tail _ (.tail _ (.tail _ (by rw [← hn1]; exact .tail _ (.tail _ (.tail _ (.tail _ hq))))))) hDr
  ·intro r2 tl h6 tk6 F6 N6 hlt zp2
   walk_at "mine hide"
   refine aT (zp2) ?_; (try clear zp2); intro t6 xq3b; subst xq3b
   k_unfold
   refine ⟨h6, _, nx, oC5, m5, rfl, hoC5, F6, News.sub N6 (fun q hq => List.mem_append.mpr (.inr hq)), off, rfl, ?_⟩
   rw [List.take_add_one, hr', List.map_append]
   exact bC hzs
 ·intro D2 zs nx h4 tk4 zp3 F4 N4 oD
  walk_at "mine hide"
  refine bj (zp3) ?_; (try clear zp3); intro xq4a; subst xq4a; intro hzs
  rw [List.size_toArray, hyl, List.take_length] at hzs
  k_steps
  walk_at "mine open"
  refine join_list (News.isList N4 (.head _)) hzs ?_ ?_
  ·have h1 := StrLaws.sumLen_le (B := 140) ((aG xs).map rtext) (by
    intro y hy
    refine aJ (List.mem_map.mp hy) ?_; intro r hr' xq5c; subst xq5c
    have hok := bn xs r hr'
    exact eo (cy hok).2 (cj hok))
   have h2 : ((aG xs).map rtext).length ≤ 11 := by rw [List.length_map]; exact br xs
   have h3 : (Str.ofString ", ").length = 2 := rfl
   rw [h3]
   omega
  intro t8 k8
  have hHn : (htext (aG xs) != Txt.join (Str.ofString ", ") ((aG xs).map rtext)) = false := by
   rw [show Txt.join (Str.ofString ", ") ((aG xs).map rtext) = htext (aG xs) from rfl, bne_self_eq_false]
  k_steps
  ·rename_i l6 h6 F6 N6 l6'
   walk_at "mine open"
   have hl6 := lt1 l6'
   have n6 : ∀ q ∈ LW (aD.1.2.2.2) (aD.2.1.2.1) (aD.2.1.2.2) ps1 ps2 rest, q.1 ≠ l6 := fun q hq => Nat.ne_of_lt (hl6 q (by rw [← hn1]; exact hq))
   replace N6 : News (aD.1.2.2.1) (aD.1.2.2.2) h6 ((72, tabObj ps2) :: (l6, listOf [Value.str (htext (aG xs)) tH].toArray 0) :: ((aD.1.2.2.2) + 1 + 1, (aD.2.1.2.1)) :: ((aD.1.2.2.2) + 1, (aD.2.1.2.2)) :: (89, tabObj ps1) :: rest) := News.sub N6 (by
    rw [← hn1]
    walk_at "mine sub")
   refine fq (aD.1.1.1.1) l6 [aG xs] (Nat.le_of_ble_eq_true rfl) (fun rs hrs => by rw [List.mem_singleton.mp hrs]; exact ⟨gC xs, Nat.le_trans (br xs) (by decide), bn xs⟩) (aD.1.1.1.2) (aD.1.1.2.1) (aD.1.1.2.2) (aD.1.2.1.1) (aD.1.2.1.2) _ _ _ _ _ _ _ _ _ _ (aD.1.2.2.1) (aD.1.2.2.1) (aD.1.2.2.2) _ _ _ _ _ _ B F6 X N6 T rfl (by decide) (by decide) ?_ (T2.mono fun q hq => .tail _ (.tail _ (.tail _ (.tail _ hq)))) ⟨_, _, .head _, .cons _ _ .nil⟩ ?_
   ·intro q hq
    simp only [List.mem_cons] at hq
    rcases hq with rfl | rfl | rfl | rfl | hq
    ·exact (Hi.of n6).2.2.2
    ·exact Nat.ne_of_gt (Nat.lt_succ_of_lt (Nat.lt_succ_of_lt h72))
    ·exact Nat.ne_of_gt (Nat.lt_succ_of_lt h72)
    ·exact (by decide : (89 : Nat) ≠ 72)
    ·exact (hr q hq).2.2.2
   ·rintro r ps2' tl h7 tk7 F7 N7 hlt7 htl7 hT7 hDr7
    cases hDr7 with
    | list hm7 hd7 =>
    rename_i b vs7 k7
    k_steps
    walk_at "mine open"
    have hds : ([aG xs].flatten.map (·.map toP)).map datR = (aG xs).map fun r => datR (r.map toP) := by
     simp [List.map_map, Function.comp_def]
    rw [hds] at hd7
    refine kqd_ne N7 (.tail _ hm7) rfl rfl hd7 (fun q hq => .tail _ hq) (.tail _ (List.mem_append.mpr (.inr (.tail _ (.tail _ (.tail _ (.tail _ hm))))))) rfl rfl hda (fun q hq => .tail _ (List.mem_append.mpr (.inr (.tail _ (.tail _ (.tail _ (.tail _ hq))))))) (dX xs) (dX xs) (Nat.le_of_ble_eq_true rfl) ?_
    rw [jJ]
    k_steps
    walk_at "mine open"
    have ne7 : ∀ q ∈ tl, q.1 ≠ (aD.1.2.2.2) + 1 + 1 ∧ q.1 ≠ (aD.1.2.2.2) + 1 ∧ q.1 ≠ 89 ∧ q.1 ≠ 72 := fun q hq => ⟨Nat.ne_of_gt (hlt7 _ (.tail _ (.head _)) q hq), Nat.ne_of_gt (hlt7 _ (.tail _ (.tail _ (.head _))) q hq), Nat.ne_of_gt (hlt7 _ (.tail _ (.tail _ (.tail _ (.head _)))) q hq), htl7 q hq⟩
    refine hret h7 _ u _ tH D ys ps1 ps2' (tl ++ rest) F7 rfl (News.sub N7 fun q hq => ?_) (fun q hq => (List.mem_append.mp hq).elim (ne7 q) (hr q)) (List.mem_append.mpr (.inr hm)) (DatAll.mono (fun q hq => List.mem_append.mpr (.inr hq)) hda) (T1.mono fun q hq => List.mem_append.mpr (.inr hq)) (fm (fun q hq => ?_) hT7)
    ·revert hq; revert q; walk_at "mine sub"
    ·rcases List.mem_append.mp hq with hq | hq
     ·exact .inl (List.mem_append.mpr (.inl hq))
     ·simp only [List.mem_cons] at hq
      rcases hq with rfl | rfl | rfl | rfl | hq
      ·exact .inr fun vs e => by cases e
      ·exact .inr fun vs e => by rw [h1] at e; cases e
      ·exact .inr fun vs e => by rw [h2] at e; cases e
      ·exact .inr fun vs e => by cases e; exact fj T1
      ·exact .inl (List.mem_append.mpr (.inr hq))
theorem law_a2 (w : World) (p : Program) (loose : List Str) (mean : ExcName → Option Value) (mg mb : Str → Option Value) (g : Heap) (L a : Addr) (cd : Value) (o1 o2 : Obj) (xs : List Int) (s : Shared) (Q : Flow → Shared → Prop) (E : Value → Shared → Prop)
  (B : Below callerA g [] g) (X : (Mine.hd.heap_39 w.params).In g) (T : Top p loose mean mg mb g) (h89 : 89 < L) (h72 : 72 < L) (h1 : o1.data = .cell none) (h2 : o2.data = .cell none)
  (hret : LawM 3 w g L a cd o1 o2 xs s Q E) : LawM 2 w g L a cd o1 o2 xs s Q E := @aO _ _ (u15 fN) m_law_a2 ((((w, p), (loose, mean)), ((mg, mb), (g, L))), (((a, cd), (o1, o2)), ((s, Q), E))) xs B X T h89 h72 h1 h2 hret
theorem rlX40 : True := by
 k_with_none
 k_with "mine hide" => first | (refine (?_ : let gk : Prop := wpAny _ ak _ _ _ _; gk); (try clear gk); intro gk) | (refine (?_ : let ak : Around := _; let gk : Prop := wpAny _ ak _ _ _ _; gk); intro ak; (try clear gk); intro gk) | (refine (?_ : let gk : Prop := _; gk); (try clear gk); intro gk)
 k_with "mine in" => first | (with_reducible assumption) | (with_reducible exact sId) | ((with_reducible refine sTl ?_); walk_at "mine in") | ((with_reducible refine sLe ?_); walk_at "mine in") | ((with_reducible refine sRi ?_); walk_at "mine in")
 k_with "mine memb" => first | assumption | exact List.Mem.head _ | (refine List.Mem.tail _ ?_; walk_at "mine memb") | (refine mLe ?_; walk_at "mine memb") | (refine mRi ?_; walk_at "mine memb")
 k_with "mine open" => first | (refine (?_ : let gk : Prop := wpAny _ ak _ _ _ _; Held gk); (try clear gk); intro gk; show gk) | (refine (?_ : let ak : Around := _; let gk : Prop := wpAny _ ak _ _ _ _; Held gk); intro ak; (try clear gk); intro gk; show gk) | (refine (?_ : let gk : Prop := _; Held gk); (try clear gk); intro gk; show gk)
 k_with "mine sub" => first | (with_reducible exact sId) | (with_reducible exact sNil) | ((with_reducible refine sCons ?_ ?_); (· walk_at "mine memb"); (· walk_at "mine sub")) | ((with_reducible refine sApp ?_ ?_); (· walk_at "mine sub"); (· walk_at "mine sub")) | walk_at "mine in"
 k_with "execs cons" => (k_here; (with_reducible refine aL ?_); (try clear tkw); intro tkw; (try k_fold); (with_reducible refine wpAny_execs_cons ?_); (try dsimp only))
 k_with "call ref" => (k_here; refine held ?_)
 k_with "pyIter ref" => (k_here; refine held ?_)
 k_with "compareOp NotEq ref ref" => (k_here; refine held ?_)
 k_with "eval ListComp" => (k_here; refine held ?_)
 k_with "execs cons" => (k_here; (with_reducible show wpAny _ _ (execs (Stmt.Assign [Expr.Tuple _ _ _] _ _ :: _) _) _ _ _); refine held ?_)
 trivial
noncomputable def fM (w : World) (p : Program) (loose : List Str) (mean : ExcName → Option Value) (mg : Str → Option Value) (mb : Str → Option Value) (g : Heap) (L : Addr) (a : Addr) (cd : Value) (o1 : Obj) (o2 : Obj) (xs : List Int) (s : Shared) (Q : Flow → Shared → Prop) (E : Value → Shared → Prop) : Prop := ∀ (B : Below callerA g [] g) (X : (Mine.hd.heap_39 w.params).In g) (T : Top p loose mean mg mb g) (h89 : 89 < L) (h72 : 72 < L) (h1 : o1.data = .cell none) (h2 : o2.data = .cell none) (hret : LawM 4 w g L a cd o1 o2 xs s Q E), LawM 3 w g L a cd o1 o2 xs s Q E
noncomputable def aA : (((World × Program) × (List Str) × (ExcName → Option Value)) × ((Str → Option Value) × (Str → Option Value)) × Heap × Addr) × ((Addr × Value) × Obj × Obj) × ((List Int) × Shared) × (Flow → Shared → Prop) × (Value → Shared → Prop) := @Classical.epsilon _ (by have := neW; have := neS; infer_instance) fun x => ¬ u16 fM x
theorem m_law_a3 : u16 fM aA := by
 intro B X T h89 h72 h1 h2 hret
 revert X
 unfold LawM at hret ⊢
 k_fill
 intro X
 intro h tk u H tH D ys ps1 ps2 rest F hH N hr hm hda T1 T2
 subst hH
 unfold lawA lawE lawS lawB law0 at hret ⊢
 dsimp only [List.drop] at hret ⊢
 k_steps
 walk_at "mine open"
 refine bJ (cl := []) (by with_unfolding_all rfl) (by rfl) (by decide) ?_
 k_steps
 walk_at "mine open"
 have hyl : ys.length = (aG (aA.2.2.1.1)).length := by
  have := hda.length
  simpa using this
 refine cQ (SrcW.list rfl N (.tail _ (.tail _ (.tail _ (.tail _ hm))))) (fun _ _ _ _ _ _ h => wpAny_pure h) (by decide) rfl F N (by rw [List.size_toArray, hyl]; exact Nat.le_trans (br (aA.2.2.1.1)) (by decide)) (fun i zs nx => ∃ psA restA, nx = LW (aA.1.2.2.2) (aA.2.1.2.1) (aA.2.1.2.2) psA ps2 restA ∧ Hi (aA.1.2.2.2) restA ∧ (∀ q ∈ rest, q ∈ restA) ∧ TabOk qJ 60 50 psA restA ∧ StrsAre zs (((aG (aA.2.2.1.1)).take i).map fun r => htext [r])) ?_ ⟨ps1, rest, rfl, hr, fun q hq => hq, T1, .nil⟩ ?_ ?_
 ·rintro i zs nx ⟨psA, restA, rfl, _, hs, _⟩ q hq
  rw [List.mem_singleton.mp hq]
  exact .tail _ (.tail _ (.tail _ (.tail _ (hs _ hm))))
 ·intro i v zs nx I oI C oC D2 m2 h4 tk4 E4 hi hv zp1 hoC F4 N4 off ne
  walk_at "mine hide"
  refine x2_4 (zp1) ?_; (try clear zp1); intro psA restA xq0c; subst xq0c; intro hrA hsA hTA hzs
  refine aJ (aY hda (show ys[i]? = some v by simpa using hv)) ?_; intro r hr' hDr
  have hok := bn (aA.2.2.1.1) r (List.mem_of_getElem? hr')
  refine bp hoC F4 N4 (off_2 off ne) rfl rfl fun h5 tk5 oC5 m5 hoC5 hm5 F5 N5 => ?_
  refine wpAny_tests_nil ?_
  rw [if_pos rfl]
  k_steps
  walk_at "mine open"
  rename_i l6 h6 F6 N6 l6'
  have o89 := off.mem _ (.tail _ (.tail _ (.head _)))
  replace N6 : News (aA.1.2.2.1) (aA.1.2.2.2) h6 ((89, tabObj psA) :: (l6, listOf [v].toArray 0) :: (I, oI) :: (C, oC5) :: (D2, lst zs) :: ((aA.1.2.2.2) + 1 + 1, (aA.2.1.2.1)) :: ((aA.1.2.2.2) + 1, (aA.2.1.2.2)) :: (72, tabObj ps2) :: restA) := News.sub N6 (fun q hq => by
   revert hq; revert q; walk_at "mine sub")
  refine iP (aA.1.1.1.1) l6 [r] (Nat.le_of_ble_eq_true rfl) (fun r2 hr2 => by rw [List.mem_singleton.mp hr2]; exact ⟨cy hok, cj hok⟩) (aA.1.1.1.2) (aA.1.1.2.1) (aA.1.1.2.2) (aA.1.2.1.1) (aA.1.2.1.2) _ _ _ _ _ _ _ _ _ _ (aA.1.2.2.1) (aA.1.2.2.1) (aA.1.2.2.2) _ _ _ restA _ _ _ B F6 X N6 T rfl (by decide) (by decide) ?_ (fun q hq => .tail _ (.tail _ (.tail _ (.tail _ (.tail _ (.tail _ (.tail _ hq))))))) hTA (DatIn.list (.head _) (.cons (DatIn.mono (fun q hq => .tail _ (.tail _ (.tail _ (.tail _ (.tail _ (.tail _ (.tail _ (hsA q hq)))))))) hDr) .nil)) ?_
  ·intro q hq
   simp only [List.mem_cons] at hq
   rcases hq with rfl | rfl | rfl | rfl | rfl | rfl | rfl | hq
   ·exact Nat.ne_of_gt l6'.2.2.2.2.2.1
   ·exact Ne.symm o89.1
   ·exact Ne.symm o89.2.1
   ·exact Ne.symm o89.2.2
   ·exact Nat.ne_of_gt (Nat.lt_succ_of_lt (Nat.lt_succ_of_lt h89))
   ·exact Nat.ne_of_gt (Nat.lt_succ_of_lt h89)
   ·exact (by decide : (72 : Nat) ≠ 89)
   ·exact (hrA q hq).2.2.1
  ·intro r2 psB tl h7 tk7 F7 N7 hlt7 htl7 hT7 zp2
   walk_at "mine hide"
   refine aT (zp2) ?_; (try clear zp2); intro t7 xq2b; subst xq2b
   k_unfold
   refine ⟨h7, _, LW (aA.1.2.2.2) (aA.2.1.2.1) (aA.2.1.2.2) psB ps2 (tl ++ restA), oC5, m5, rfl, hoC5, F7, News.sub N7 ?_, Off3.of fun q hq => ?_, psB, _, rfl, ?_, fun q hq => List.mem_append.mpr (.inr (hsA q hq)), hT7, ?_⟩
   ·walk_at "mine sub"
   ·by_cases c : q ∈ tl
    ·exact ⟨Nat.ne_of_gt (hlt7 _ (.tail _ (.head _)) q c), Nat.ne_of_gt (hlt7 _ (.tail _ (.tail _ (.head _))) q c), Nat.ne_of_gt (hlt7 _ (.tail _ (.tail _ (.tail _ (.head _)))) q c)⟩
    ·simp only [List.mem_cons, List.mem_append] at hq
     rcases hq with rfl | rfl | rfl | rfl | hq
     ·exact off.mem _ (.head _)
     ·exact off.mem _ (.tail _ (.head _))
     ·exact o89
     ·exact off.mem _ (.tail _ (.tail _ (.tail _ (.head _))))
     ·exact off.mem _ (.tail _ (.tail _ (.tail _ (.tail _ (hq.resolve_left c)))))
   ·intro q hq
    rcases List.mem_append.mp hq with c | c
    ·exact ⟨Nat.ne_of_gt (hlt7 _ (.tail _ (.tail _ (.tail _ (.tail _ (.head _))))) q c), Nat.ne_of_gt (hlt7 _ (.tail _ (.tail _ (.tail _ (.tail _ (.tail _ (.head _)))))) q c), htl7 q c, Nat.ne_of_gt (hlt7 _ (.tail _ (.tail _ (.tail _ (.tail _ (.tail _ (.tail _ (.head _))))))) q c)⟩
    ·exact hrA q c
   ·rw [List.take_add_one, hr', List.map_append]
    exact bC hzs
 ·intro D3 zs nx h4 tk4 zp3 F4 N4 oD
  walk_at "mine hide"
  refine x2_4 (zp3) ?_; (try clear zp3); intro psA restA xq3c; subst xq3c; intro hrA hsA hTA hzs
  rw [List.size_toArray, hyl, List.take_length] at hzs
  have oD' := Hi.of oD
  have T2' : TabOk qS 29 49 ps2 restA := T2.mono hsA
  k_steps
  walk_at "mine open"
  replace N4 : News (aA.1.2.2.1) (aA.1.2.2.2) h4 ((72, tabObj ps2) :: (D3, lst zs) :: ((aA.1.2.2.2) + 1 + 1, (aA.2.1.2.1)) :: ((aA.1.2.2.2) + 1, (aA.2.1.2.2)) :: (89, tabObj psA) :: restA) := News.sub N4 (fun q hq => by
   revert hq; revert q; walk_at "mine sub")
  refine fq (aA.1.1.1.1) D3 ((aG (aA.2.2.1.1)).map fun r => [r]) (by rw [List.length_map]; exact Nat.le_trans (br (aA.2.2.1.1)) (by decide)) (fun rs hrs => by
   refine aJ (List.mem_map.mp hrs) ?_; intro r hr2 xq4c; subst xq4c
   exact ⟨by simp, Nat.le_of_ble_eq_true rfl, fun r3 h3 => by rw [List.mem_singleton.mp h3]; exact bn (aA.2.2.1.1) r hr2⟩) (aA.1.1.1.2) (aA.1.1.2.1) (aA.1.1.2.2) (aA.1.2.1.1) (aA.1.2.1.2) _ _ _ _ _ _ _ _ _ _ (aA.1.2.2.1) (aA.1.2.2.1) (aA.1.2.2.2) _ _ _ _ _ _ B F4 X N4 T rfl (by decide) (by decide) ?_ (T2'.mono fun q hq => .tail _ (.tail _ (.tail _ (.tail _ hq)))) ⟨_, _, .head _, by rw [List.map_map]; exact hzs⟩ ?_
  ·intro q hq
   simp only [List.mem_cons] at hq
   rcases hq with rfl | rfl | rfl | rfl | hq
   ·exact oD'.2.2.2
   ·exact Nat.ne_of_gt (Nat.lt_succ_of_lt (Nat.lt_succ_of_lt h72))
   ·exact Nat.ne_of_gt (Nat.lt_succ_of_lt h72)
   ·exact (by decide : (89 : Nat) ≠ 72)
   ·exact (hrA q hq).2.2.2
  ·rintro r ps2' tl h7 tk7 F7 N7 hlt7 htl7 hT7 hDr7
   cases hDr7 with
   | list hm7 hd7 =>
   rename_i b vs7 k7
   k_steps
   walk_at "mine open"
   have hds : (((aG (aA.2.2.1.1)).map fun r => [r]).flatten.map (·.map toP)).map datR = (aG (aA.2.2.1.1)).map fun r => datR (r.map toP) := by
    rw [show ((aG (aA.2.2.1.1)).map fun r => [r]).flatten = aG (aA.2.2.1.1) from by rw [← List.flatMap_def]; simp, List.map_map]
    rfl
   rw [hds] at hd7
   refine kqd_ne N7 (.tail _ hm7) rfl rfl hd7 (fun q hq => .tail _ hq) (.tail _ (List.mem_append.mpr (.inr (.tail _ (.tail _ (.tail _ (.tail _ (hsA _ hm)))))))) rfl rfl hda (fun q hq => .tail _ (List.mem_append.mpr (.inr (.tail _ (.tail _ (.tail _ (.tail _ (hsA _ hq)))))))) (dX (aA.2.2.1.1)) (dX (aA.2.2.1.1)) (Nat.le_of_ble_eq_true rfl) ?_
   rw [jJ]
   k_steps
   walk_at "mine open"
   have ne7 : ∀ q ∈ tl, q.1 ≠ (aA.1.2.2.2) + 1 + 1 ∧ q.1 ≠ (aA.1.2.2.2) + 1 ∧ q.1 ≠ 89 ∧ q.1 ≠ 72 := fun q hq => ⟨Nat.ne_of_gt (hlt7 _ (.tail _ (.head _)) q hq), Nat.ne_of_gt (hlt7 _ (.tail _ (.tail _ (.head _))) q hq), Nat.ne_of_gt (hlt7 _ (.tail _ (.tail _ (.tail _ (.head _)))) q hq), htl7 q hq⟩
   refine hret h7 _ u _ tH D ys psA ps2' (tl ++ restA) F7 rfl (News.sub N7 fun q hq => ?_) (fun q hq => (List.mem_append.mp hq).elim (ne7 q) (hrA q)) (List.mem_append.mpr (.inr (hsA _ hm))) (DatAll.mono (fun q hq => List.mem_append.mpr (.inr (hsA _ hq))) hda) (hTA.mono fun q hq => List.mem_append.mpr (.inr hq)) (fm (fun q hq => ?_) hT7)
   ·revert hq; revert q; walk_at "mine sub"
   ·rcases List.mem_append.mp hq with hq | hq
    ·exact .inl (List.mem_append.mpr (.inl hq))
    ·simp only [List.mem_cons] at hq
     rcases hq with rfl | rfl | rfl | rfl | hq
     ·exact .inr fun vs e => by cases e
     ·exact .inr fun vs e => by rw [h1] at e; cases e
     ·exact .inr fun vs e => by rw [h2] at e; cases e
     ·exact .inr fun vs e => by cases e; exact fj hTA
     ·exact .inl (List.mem_append.mpr (.inr hq))
theorem law_a3 (w : World) (p : Program) (loose : List Str) (mean : ExcName → Option Value) (mg mb : Str → Option Value) (g : Heap) (L a : Addr) (cd : Value) (o1 o2 : Obj) (xs : List Int) (s : Shared) (Q : Flow → Shared → Prop) (E : Value → Shared → Prop)
  (B : Below callerA g [] g) (X : (Mine.hd.heap_39 w.params).In g) (T : Top p loose mean mg mb g) (h89 : 89 < L) (h72 : 72 < L) (h1 : o1.data = .cell none) (h2 : o2.data = .cell none)
  (hret : LawM 4 w g L a cd o1 o2 xs s Q E) : LawM 3 w g L a cd o1 o2 xs s Q E := @aO _ _ (u16 fM) m_law_a3 ((((w, p), (loose, mean)), ((mg, mb), (g, L))), (((a, cd), (o1, o2)), ((xs, s), (Q, E)))) B X T h89 h72 h1 h2 hret
end
section
open PySem PySem.W PyProof.Rows PySem.Calls PySem.Spec
section
variable {prog : Program} {w : World} {A : Around} {E : Value → Shared → Prop} {s : Shared} {env : Env} {h₀ : Heap}
theorem mz {target : Expr} {body : List Stmt} {l : Addr} {vs : List Value} {nn : Nat} {m₀ : Str → Option Value} {news : List (Addr × Obj)} {Q : Flow → Shared → Prop}
  (J : Nat → (Str → Option Value) → List (Addr × Obj) → Prop) (hh : A.handled = none) (F : Fr h₀ env.locals s.heap m₀) (N : News h₀ env.locals s.heap news)
  (hj : J 0 m₀ news)
  (hkeep : ∀ i m nx, J i m nx → (l, listOf vs.toArray nn) ∈ nx)
  (turn : ∀ I i v m₁ nx h tk o, vs[i]? = some v → J i m₁ nx → (∀ p ∈ nx, p.1 ≠ I) → (∀ p ∈ news, p.1 < I) → Fr h₀ env.locals h m₁ → News h₀ env.locals h (nx ++ [(I, o)]) →
   wpAny (model prog w) A (assign target env v) (fun _ s₂ => wpAny (model prog w) A (execs body env) (cp h₀ env.locals s I o (J (i + 1)) Q) E s₂) E { s with heap := h, toks := tk })
  (done : ∀ m₁ nx h tk, J vs.length m₁ nx → Fr h₀ env.locals h m₁ → News h₀ env.locals h nx → Q .next { s with heap := h, toks := tk })
  (ht : cR target := by first | exact .inl ⟨_, _, rfl⟩ | exact .inr ⟨_, _, _, rfl⟩)
  (hE : PassesOwn (model prog w) A env E := by passes_own) :
  wpAny (model prog w) A (pyIter (.ref l)) (fun it s₂ => codeAny (model prog w) A (.forLoop target it body [] env) (fun r s' => match r with | .ok f => Q f s' | .error e => cameBackBy (model prog w) A env E e s') s₂) E s := by
 have hol : s.heap.get? l = some (listOf vs.toArray nn) := (N _ (hkeep _ _ _ hj)).1
 have hls : s.heap.IsList l vs.toArray := ⟨_, hol, rfl, nn, rfl⟩
 refine wpAny_pyIter_list hls ?_
 have hlt : ∀ b o, s.heap.get? b = some o → b ≠ s.heap.objs.size := fun b o e => Nat.ne_of_lt (Heap.lt_size e)
 refine cq (id F.ns) ?_; intro oL _ _ hoL _
 refine cE (R := fun r s' => match r with | .ok f => Q f s' | .error e => cameBackBy (model prog w) A env E e s') (Q := Q) (s := { s with heap := s.heap.push _ }) (I := s.heap.objs.size) (l := l) (vs := vs) (nn := nn) (m₀ := m₀) (news := news) J hh (Ne.symm (hlt _ _ hoL)) ?_ ⟨_, Heap.get?_push_size _ rfl, rfl, rfl⟩ (F.push _) (fun p hp => ⟨Heap.get?_push_of_some _ (N p hp).1, (N p hp).2⟩) (fun p hp => hlt _ _ (N p hp).1) hj hkeep ?_ done (fun _ _ h => h) ht
 ·exact next_is_new F
 ·intro i v m₁ nx h tk o hv hJ hn F₁ N₁
  refine wpAny_passesOwn hE ?_
  refine wpAny_mono (turn s.heap.objs.size i v m₁ nx h tk o hv hJ hn (fun p hp => Heap.lt_size (N p hp).1) F₁ N₁) (fun _ s₂ h₂ => ?_) fun _ _ e => e
  exact wpAny_passesOwn hE h₂
end
end
section
open PySem PySem.W PyProof.Rows PySem.Calls PySem.Spec PyProof.Rows.LCg
theorem rlX50 : True := by
 k_with_none
 k_with "mine open" => first | (refine (?_ : let gk : Prop := wpAny _ ak _ _ _ _; Held gk); (try clear gk); intro gk; show gk) | (refine (?_ : let ak : Around := _; let gk : Prop := wpAny _ ak _ _ _ _; Held gk); intro ak; (try clear gk); intro gk; show gk) | (refine (?_ : let gk : Prop := _; Held gk); (try clear gk); intro gk; show gk)
 k_with "execs cons" => (k_here; (with_reducible refine aL ?_); (try clear tkw); intro tkw; (try k_fold); (with_reducible refine wpAny_execs_cons ?_); (try dsimp only))
 k_with "call ref" => (k_here; (with_reducible show wpAny _ _ (call (Value.ref 77) _) _ _ _); refine held ?_)
 k_with "pyIter ref" => (k_here; refine held ?_)
 k_with "execs cons" => (k_here; (with_reducible show wpAny _ _ (execs (Stmt.For _ _ _ _ _ :: _) _) _ _ _); refine held ?_)
 trivial
noncomputable def G0 : Gr := { nodes := [], ia := fun _ => 0, da := fun _ => 0, sa := fun _ => 0, np := fun _ => 0, su := fun _ => [] }
theorem g0_is : GrIs [] G0 := ⟨rfl, fun _ => rfl, fun v => by
 constructor
 ·intro h; exact nomatch h
 ·rintro ⟨x, hx, _⟩; exact nomatch hx⟩
noncomputable def LawN (w : World) (g : Heap) (L a : Addr) (cd : Value) (o1 o2 : Obj) (xs : List Int) (s : Shared) (Q : Flow → Shared → Prop) (E : Value → Shared → Prop) : Prop :=
 ∀ h tk (u : Str → Option Value) tH S dx D R ta tb ps1 ps2 rest, Fr g L h (fun y => if y = Str.ofString "sorter" then some (.ref S) else if y = Str.ofString "rows" then some (.ref R) else if y = Str.ofString "header" then some (.str (htext (aG xs)) tH) else u y) → News g L h (LW L o1 o2 ps1 ps2 rest) → Hi L rest →
  SrtIn w S dx D .none (.int 0 ta) (.int 0 tb) G0 rest → (R, listOf ([] : List Value).toArray 0) ∈ rest → ¬ Own S dx D G0 R → TabOk qJ 60 50 ps1 rest → TabOk qS 29 49 ps2 rest →
  wpAny (model PySem.Challenge.rw_oc0257_01.prog w) (lawA L a cd) (execs (lawB.drop 5) (lawE L a cd)) Q E { s with heap := h, toks := tk }
noncomputable def ij (w : World) (p : Program) (loose : List Str) (mean : ExcName → Option Value) (mg : Str → Option Value) (mb : Str → Option Value) (g : Heap) (L : Addr) (a : Addr) (cd : Value) (o1 : Obj) (o2 : Obj) (xs : List Int) (s : Shared) (Q : Flow → Shared → Prop) (E : Value → Shared → Prop) : Prop := ∀ (B : Below callerA g [] g) (X : (Mine.hd.heap_39 w.params).In g) (T : Top p loose mean mg mb g) (hret : LawN w g L a cd o1 o2 xs s Q E), LawM 4 w g L a cd o1 o2 xs s Q E
noncomputable def bi : (((World × Program) × (List Str) × (ExcName → Option Value)) × ((Str → Option Value) × (Str → Option Value)) × Heap × Addr) × ((Addr × Value) × Obj × Obj) × ((List Int) × Shared) × (Flow → Shared → Prop) × (Value → Shared → Prop) := @Classical.epsilon _ (by have := neW; have := neS; infer_instance) fun x => ¬ u16 ij x
theorem m_law_b : u16 ij bi := by
 intro B X T hret
 revert X
 unfold LawN at hret
 unfold LawM
 k_fill
 intro X
 intro h tk u H tH D ys ps1 ps2 rest F hH N hr hm hda T1 T2
 subst hH
 unfold lawA lawE lawS lawB law0 at hret ⊢
 dsimp only [List.drop] at hret ⊢
 k_steps
 walk_at "mine open"
 rename_i S dx h11 l3 l2 g9 L9 h10 B9 X9 T9 tk8 D9 h9 o9 lo9 hs9 fs9 hi9 fi9 l9 a1 tkA a2 tkB a3 tkC a4 F9 N9 Tc9 kX9 R h4 l1R Tt h3 l1T b2 b1 b0 F0 N0
 refine x0_7 (l1R) ?_; (try clear l1R); intro z1 z2 z3 z4 z5 z6 z7 z8
 refine x0_6 (l9) ?_; (try clear l9); intro y1 y2 y3 y4 y5 y6 y7
 have hD : D9 ≠ (bi.1.2.2.2) + 1 + 1 ∧ D9 ≠ (bi.1.2.2.2) + 1 ∧ D9 ≠ 89 ∧ D9 ≠ 72 := ⟨Nat.ne_of_gt y3, Nat.ne_of_gt y4, Nat.ne_of_gt y5, Nat.ne_of_gt y6⟩
 have hR : R ≠ (bi.1.2.2.2) + 1 + 1 ∧ R ≠ (bi.1.2.2.2) + 1 ∧ R ≠ 89 ∧ R ≠ 72 := ⟨Nat.ne_of_gt z4, Nat.ne_of_gt z5, Nat.ne_of_gt z6, Nat.ne_of_gt z7⟩
 have hdx : dx ≠ (bi.1.2.2.2) + 1 + 1 ∧ dx ≠ (bi.1.2.2.2) + 1 ∧ dx ≠ 89 ∧ dx ≠ 72 := ⟨Nat.ne_of_gt l3.1, Nat.ne_of_gt l3.2.1, Nat.ne_of_gt l3.2.2.1, Nat.ne_of_gt l3.2.2.2.1⟩
 have hS : S ≠ (bi.1.2.2.2) + 1 + 1 ∧ S ≠ (bi.1.2.2.2) + 1 ∧ S ≠ 89 ∧ S ≠ 72 := ⟨Nat.ne_of_gt (Nat.lt_trans l3.1 l2), Nat.ne_of_gt (Nat.lt_trans l3.2.1 l2), Nat.ne_of_gt (Nat.lt_trans l3.2.2.1 l2), Nat.ne_of_gt (Nat.lt_trans l3.2.2.2.1 l2)⟩
 obtain ⟨n0, hn0, N0⟩ : ∃ n0, n0 = _ ∧ News (bi.1.2.2.1) (bi.1.2.2.2) b0 n0 := ⟨_, rfl, N0⟩
 obtain ⟨t1, t2, t3, t4, ta, tb, hf⟩ : ∃ t1 t2 t3 t4 ta tb, (dx, sdict (bi.1.1.1.1) t1 t2 t3 t4 D9 .none (.int 0 ta) (.int 0 tb) 4) ∈ n0 := by
  rw [hn0]
  exact ⟨_, _, _, _, _, _, .tail _ (.tail _ (.tail _ (.tail _ (.head _))))⟩
 refine hret _ _ _ tH S dx D9 R ta tb ps1 ps2 ((R, listOf ([] : List Value).toArray 0) :: (D9, o9) :: (S, instObj 210 dx) :: (dx, sdict (bi.1.1.1.1) t1 t2 t3 t4 D9 .none (.int 0 ta) (.int 0 tb) 4) :: rest) (by exact F0) (News.sub N0 fun q hq => ?_) ?_ ⟨.tail _ (.tail _ (.head _)), ⟨_, _, _, _, .tail _ (.tail _ (.tail _ (.head _)))⟩, ⟨o9, .tail _ (.head _), hs9⟩, lo9, fun v hv => (nomatch hv), fun v hv => (nomatch hv), fun v hv => (nomatch hv), .nil, fun v hv => (nomatch hv), fun v _ => ⟨rfl, rfl⟩, ⟨Nat.ne_of_gt l2, Nat.ne_of_lt y1, Nat.ne_of_lt y2, fun v hv => (nomatch hv), fun v hv => (nomatch hv), fun v hv => (nomatch hv), fun v hv => (nomatch hv), fun v hv => (nomatch hv), fun v hv => (nomatch hv), fun v hv => (nomatch hv), fun v hv => (nomatch hv), fun v hv => (nomatch hv)⟩⟩ (.head _) ?_ (T1.mono fun q hq => .tail _ (.tail _ (.tail _ (.tail _ hq)))) (T2.mono fun q hq => .tail _ (.tail _ (.tail _ (.tail _ hq))))
 ·by_cases c : q = (dx, sdict (bi.1.1.1.1) t1 t2 t3 t4 D9 .none (.int 0 ta) (.int 0 tb) 4)
  ·rw [c]; exact hf
  ·rw [hn0]
   simp only [List.mem_cons] at hq ⊢
   rcases hq with hq | hq | hq | hq | hq | hq | hq | hq | hq
   ·exact .inr (.inr (.inr (.inr (.inr (.inl hq)))))
   ·exact .inr (.inr (.inr (.inr (.inr (.inr (.inl hq))))))
   ·exact .inr (.inr (.inr (.inr (.inr (.inr (.inr (.inl hq)))))))
   ·exact .inr (.inr (.inr (.inr (.inr (.inr (.inr (.inr (.inl hq))))))))
   ·exact .inr (.inl hq)
   ·exact .inr (.inr (.inl hq))
   ·exact .inr (.inr (.inr (.inl hq)))
   ·exact absurd hq c
   ·exact .inr (.inr (.inr (.inr (.inr (.inr (.inr (.inr (.inr hq))))))))
 ·intro q hq
  simp only [List.mem_cons] at hq
  rcases hq with rfl | rfl | rfl | rfl | hq
  ·exact hR
  ·exact hD
  ·exact hS
  ·exact hdx
  ·exact hr q hq
 ·rintro (e | e | e | ⟨v, hv, _⟩)
  ·exact Nat.ne_of_gt z2 e
  ·exact Nat.ne_of_gt z3 e
  ·exact Nat.ne_of_gt z1 e
  ·exact nomatch hv
theorem law_b (w : World) (p : Program) (loose : List Str) (mean : ExcName → Option Value) (mg mb : Str → Option Value) (g : Heap) (L a : Addr) (cd : Value) (o1 o2 : Obj) (xs : List Int) (s : Shared) (Q : Flow → Shared → Prop) (E : Value → Shared → Prop)
  (B : Below callerA g [] g) (X : (Mine.hd.heap_39 w.params).In g) (T : Top p loose mean mg mb g) (hret : LawN w g L a cd o1 o2 xs s Q E) : LawM 4 w g L a cd o1 o2 xs s Q E := @aO _ _ (u16 ij) m_law_b ((((w, p), (loose, mean)), ((mg, mb), (g, L))), (((a, cd), (o1, o2)), ((xs, s), (Q, E)))) B X T hret
noncomputable def bw (l : List PR) : List Nat := l.filterMap fun p => if p.1 = Str.ofString "after" then p.2 else none
theorem gW (x : Int) : bw (rowP x) = needN x := by
 unfold rowP needN bw
 have e1 : ¬ Str.ofString "job" = Str.ofString "after" := by decide
 have e2 : ¬ Str.ofString "late" = Str.ofString "after" := by decide
 by_cases h : (x.fdiv 25).fmod 2 = 1
 ·rw [if_pos h, if_pos h]
  simp [e1, e2]
 ·rw [if_neg h, if_neg h]
  simp [e1]
theorem eH {l : List PR} {p : PR} (h : p.1 ≠ Str.ofString "after") : bw (l ++ [p]) = bw l := by
 unfold bw
 rw [List.filterMap_append]
 simp [h]
theorem gV {l : List PR} {n : Nat} : bw (l ++ [(Str.ofString "after", some n)]) = bw l ++ [n] := by
 unfold bw
 rw [List.filterMap_append]
 simp
theorem rowP_mem {x : Int} {p : PR} (h : p ∈ rowP x) : (∃ n, n < 5 ∧ p = (Str.ofString "job", some n)) ∨ (∃ n, n < 5 ∧ p = (Str.ofString "after", some n)) ∨ p = (Str.ofString "late", none) := by
 unfold rowP at h
 rcases List.mem_cons.mp h with rfl | h
 ·exact .inl ⟨_, cZ x, rfl⟩
 ·rcases List.mem_cons.mp h with rfl | h
  ·exact .inr (.inl ⟨_, mod5 _, rfl⟩)
  ·split at h
   ·rcases List.mem_cons.mp h with rfl | h
    ·exact .inr (.inr rfl)
    ·rw [List.mem_singleton.mp h]
     exact .inr (.inl ⟨_, mod5 _, rfl⟩)
   ·exact nomatch h
noncomputable def LawO (w : World) (g : Heap) (L a : Addr) (cd : Value) (o1 : Obj) (xs : List Int) (s : Shared) (Q : Flow → Shared → Prop) (E : Value → Shared → Prop) : Prop :=
 ∀ h tk (u : Str → Option Value) S dx D R ta tb ps1 ps2 G kR rvs sub nx, Fr g L h (fun y => if y = Str.ofString "sorter" then some (.ref S) else if y = Str.ofString "rows" then some (.ref R) else u y) → News g L h nx →
  (L + 1 + 1, o1) ∈ nx → (89, tabObj ps1) ∈ nx → (72, tabObj ps2) ∈ nx → ¬ Own S dx D G (L + 1 + 1) → ¬ Own S dx D G 89 → ¬ Own S dx D G 72 → SrtIn w S dx D .none (.int 0 ta) (.int 0 tb) G nx → GrIs (aH xs) G →
  (R, listOf rvs.toArray kR) ∈ sub → (∀ q ∈ sub, q ∈ nx ∧ ¬ Own S dx D G q.1 ∧ q.1 ≠ L + 1 + 1) → DatAll sub rvs ((aR (aH xs)).map edgeD) →
  wpAny (model PySem.Challenge.rw_oc0257_01.prog w) (lawA L a cd) (execs (lawB.drop 6) (lawE L a cd)) Q E { s with heap := h, toks := tk }
inductive LoopJ (w : World) (L S dx D : Addr) (ta tb : Tok) (fx : List (Addr × Obj)) (xs : List Int) (i : Nat) (m : Str → Option Value) (nx : List (Addr × Obj)) : Prop where
 | mk : ∀ (u : Str → Option Value) (R : Addr) (G : Gr) (o2 : Obj) (kR : Nat) (rvs : List Value) (sub : List (Addr × Obj)), (m = (fun y => if y = Str.ofString "sorter" then some (.ref S) else if y = Str.ofString "rows" then some (.ref R) else u y)) → ((L + 1, o2) ∈ nx) → ((∃ v, o2.data = .cell v)) → (¬ Own S dx D G (L + 1)) → (SrtIn w S dx D .none (.int 0 ta) (.int 0 tb) G nx) → (GrIs ((aH xs).take i) G) → ((∀ q ∈ fx, q ∈ nx ∧ ¬ Own S dx D G q.1)) → ((R, listOf rvs.toArray kR) ∈ sub) → ((∀ q ∈ sub, q ∈ nx ∧ ¬ Own S dx D G q.1 ∧ q.1 ≠ L + 1 + 1 ∧ q.1 ≠ L + 1)) → (DatAll sub rvs ((aR ((aH xs).take i)).map edgeD)) → LoopJ w L S dx D ta tb fx xs i m nx
theorem lD {w : World} {L S dx D : Addr} {ta tb : Tok} {fx : List (Addr × Obj)} {xs : List Int} {i : Nat} {x : Int} (hx : (aH xs)[i]? = some x) {G2 : Gr} {g h : Heap} {s : Shared} {tk : Nat} {m' : Str → Option Value} {I E5 : Addr} {o o1 o9 : Obj} {rvs ys : List Value} {sub subN n16 led : List (Addr × Obj)}
  (F : Fr g L h m') (hm1 : m' (Str.ofString "sorter") = some (.ref S)) (hm2 : m' (Str.ofString "rows") = some (.ref E5)) (N : News g L h led) (hE : (E5, listOf (rvs ++ ys).toArray 0) ∈ led) (hEn : ∀ q ∈ n16, q.1 ≠ E5)
  (s16 : ∀ q ∈ n16, q ∈ led) (sN : ∀ q ∈ subN, q ∈ led) (hsN : ∀ q ∈ subN, ∀ p ∈ n16, p.1 ≠ q.1) (hS : SrtIn w S dx D .none (.int 0 ta) (.int 0 tb) G2 n16) (hG : GrIs ((aH xs).take i ++ [x]) G2)
  (mI : (I, o) ∈ n16 ∧ ¬ Own S dx D G2 I) (mc : (L + 1, o9) ∈ n16 ∧ ¬ Own S dx D G2 (L + 1)) (hIc : I ≠ L + 1) (d9 : ∃ v, o9.data = .cell v) (hfx : ∀ q ∈ fx, q ∈ n16 ∧ ¬ Own S dx D G2 q.1 ∧ q.1 ≠ I) (h1 : (L + 1 + 1, o1) ∈ n16)
  (hsub : ∀ q ∈ sub, q ∈ n16 ∧ ¬ Own S dx D G2 q.1 ∧ q.1 ≠ L + 1 + 1 ∧ q.1 ≠ L + 1 ∧ q.1 ≠ I) (hdR : DatAll sub rvs ((aR ((aH xs).take i)).map edgeD)) (hdN : DatAll subN ys ((needN x).map fun u => edgeD (jobN x, u))) :
  cG g L s I o (LoopJ w L S dx D ta tb fx xs (i + 1)) { s with heap := h, toks := tk } := by
 have tk1 : (aH xs).take (i + 1) = (aH xs).take i ++ [x] := by rw [List.take_add_one, hx]; rfl
 have inD : ∀ q ∈ led, q.1 ≠ I → q ∈ drawn [I] led := fun q hq hne => mem_drawn.mpr ⟨hq, by simpa using hne⟩
 have hEI : E5 ≠ I := fun e => hEn _ mI.1 e.symm
 have own : ∀ a, (∀ q ∈ n16, q.1 ≠ a) → ¬ Own S dx D G2 a := fun a ha ho => by
  obtain ⟨oo, hm⟩ := hS.ownIn ho
  exact ha _ hm rfl
 refine ⟨h, tk, m', drawn [I] led, rfl, F, News.sub N ?_, aE (.head _), m', E5, G2, o9, 0, rvs ++ ys, (E5, listOf (rvs ++ ys).toArray 0) :: (subN ++ sub), asIf2 hm1 hm2, inD _ (s16 _ mc.1) (Ne.symm hIc), d9, mc.2, hS.keep ?_, by rw [tk1]; exact hG, ?_, .head _, ?_, ?_⟩
 ·intro q hq
  rcases List.mem_append.mp hq with hq | hq
  ·exact aI q hq
  ·rw [List.mem_singleton.mp hq]
   exact s16 _ mI.1
 ·intro q hq ho
  exact inD q (s16 q hq) fun e => mI.2 (e ▸ ho)
 ·intro q hq
  obtain ⟨a1, a2, a3⟩ := hfx q hq
  exact ⟨inD q (s16 q a1) a3, a2⟩
 ·intro q hq
  rcases List.mem_cons.mp hq with rfl | hq
  ·exact ⟨inD _ hE hEI, own _ hEn, fun e => hEn _ h1 e.symm, fun e => hEn _ mc.1 e.symm⟩
  ·rcases List.mem_append.mp hq with hq | hq
   ·have k := hsN q hq
    exact ⟨inD q (sN q hq) fun e => k _ mI.1 e.symm, own _ k, fun e => k _ h1 e.symm, fun e => k _ mc.1 e.symm⟩
   ·obtain ⟨a1, a2, a3, a4, a5⟩ := hsub q hq
    exact ⟨inD q (s16 q a1) a5, a2, a3, a4⟩
 ·rw [tk1, bV, List.map_append, List.map_map]
  exact DatAll.append (DatAll.mono (fun q hq => .tail _ (List.mem_append.mpr (.inr hq))) hdR) (DatAll.mono (fun q hq => .tail _ (List.mem_append.mpr (.inl hq))) hdN)
local macro_rules | `(tactic| passes_own) => wa "mine passes_own"
local macro_rules | `(tactic| k_all) => wa "mine k_all"
local macro_rules | `(tactic| k_ne) => wa "mine k_ne"
theorem rlX60 : True := by
 k_with_none
 k_with "mine hide" => first | (refine (?_ : let gk : Prop := wpAny _ ak _ _ _ _; gk); (try clear gk); intro gk) | (refine (?_ : let ak : Around := _; let gk : Prop := wpAny _ ak _ _ _ _; gk); intro ak; (try clear gk); intro gk) | (refine (?_ : let gk : Prop := _; gk); (try clear gk); intro gk)
 k_with "mine in" => first | (with_reducible assumption) | (with_reducible exact sId) | ((with_reducible refine sTl ?_); walk_at "mine in") | ((with_reducible refine sLe ?_); walk_at "mine in") | ((with_reducible refine sRi ?_); walk_at "mine in")
 k_with "mine memb" => first | assumption | exact List.Mem.head _ | (refine List.Mem.tail _ ?_; walk_at "mine memb") | (refine mLe ?_; walk_at "mine memb") | (refine mRi ?_; walk_at "mine memb")
 k_with "mine open" => first | (refine (?_ : let gk : Prop := wpAny _ ak _ _ _ _; Held gk); (try clear gk); intro gk; show gk) | (refine (?_ : let ak : Around := _; let gk : Prop := wpAny _ ak _ _ _ _; Held gk); intro ak; (try clear gk); intro gk; show gk) | (refine (?_ : let gk : Prop := _; Held gk); (try clear gk); intro gk; show gk)
 k_with "mine sub" => first | (with_reducible exact sId) | (with_reducible exact sNil) | ((with_reducible refine sCons ?_ ?_); (· walk_at "mine memb"); (· walk_at "mine sub")) | ((with_reducible refine sApp ?_ ?_); (· walk_at "mine sub"); (· walk_at "mine sub")) | walk_at "mine in"
 k_with "execs cons" => (k_here; (with_reducible refine aL ?_); (try clear tkw); intro tkw; (try k_fold); (with_reducible refine wpAny_execs_cons ?_); (try dsimp only))
 k_with "mine passes_own" => first | assumption | with_reducible exact PySem.PassesOwn.leaving | with_reducible exact PySem.PassesOwn.looking | with_reducible exact PySem.PassesOwnAt.leaving | with_reducible exact PySem.PassesOwnAt.looking | exact PySem.PassesOwn.leaving | exact PySem.PassesOwn.looking | exact PySem.PassesOwnAt.leaving | exact PySem.PassesOwnAt.looking
 k_with "mine k_all" => first | assumption | exact List.forall_mem_nil _ | (refine' List.forall_mem_cons.mpr ⟨?_, ?_⟩; (focus k_ne); k_all)
 k_with "mine k_ne" => first | assumption | exact Ne.symm (by assumption)
 k_with "call ref" => (k_here; refine held ?_)
 k_with "callWith ref" => (k_here; (with_reducible show wpAny _ _ (callWith _ (Value.ref _) [] (backTo _ (starEach (_ :: Expr.Starred _ _ :: _) _)) []) _ _ _); refine held ?_)
 k_with "StarOf ref" => (k_here; refine held ?_)
 k_with "pyIter ref" => (k_here; refine held ?_)
 k_with "exec For" => (k_here; refine held ?_)
 k_with "eval ListComp" => (k_here; refine held ?_)
 k_with "exec Assign cons ListComp" => (k_here; refine held ?_)
 k_with "mine mem" => first | exact List.Mem.head _ | exact List.Mem.tail _ (List.Mem.head _) | exact List.Mem.tail _ (List.Mem.tail _ (List.Mem.head _)) | exact List.Mem.tail _ (List.Mem.tail _ (List.Mem.tail _ (List.Mem.head _))) | exact List.Mem.tail _ (List.Mem.tail _ (List.Mem.tail _ (List.Mem.tail _ (List.Mem.head _)))) | exact List.Mem.tail _ (List.Mem.tail _ (List.Mem.tail _ (List.Mem.tail _ (List.Mem.tail _ (List.Mem.head _))))) | exact List.Mem.tail _ (List.Mem.tail _ (List.Mem.tail _ (List.Mem.tail _ (List.Mem.tail _ (List.Mem.tail _ (List.Mem.head _)))))) | exact List.Mem.tail _ (List.Mem.tail _ (List.Mem.tail _ (List.Mem.tail _ (List.Mem.tail _ (List.Mem.tail _ (List.Mem.tail _ (List.Mem.head _))))))) | exact List.Mem.tail _ (List.Mem.tail _ (List.Mem.tail _ (List.Mem.tail _ (List.Mem.tail _ (List.Mem.tail _ (List.Mem.tail _ (List.Mem.tail _ (List.Mem.head _)))))))) | exact List.Mem.tail _ (List.Mem.tail _ (List.Mem.tail _ (List.Mem.tail _ (List.Mem.tail _ (List.Mem.tail _ (List.Mem.tail _ (List.Mem.tail _ (List.Mem.tail _ (List.Mem.head _)))))))))
 trivial
theorem seqIx1 : seqIndex? 1 2 = some 1 := rfl
theorem rlX61 : True := by
 k_with "subscriptTail Subscript" => (k_here; k_dflt (refine item_tupleT (l := [_, _]) (News.isTup (by k_asm) (by walk_at "mine mem")) (by decide) (by decide) seqIx1 (by rfl) ?_))
 k_with "subscriptTail Name Constant ref int" => (k_here; k_dflt (refine item_listL (l := Value.ref _ :: _) (News.isList (by k_asm) (by walk_at "mine mem")) (by decide) (by decide) (by rfl) ?_))
 trivial
noncomputable def ig (w : World) (p : Program) (loose : List Str) (mean : ExcName → Option Value) (mg : Str → Option Value) (mb : Str → Option Value) (g : Heap) (L : Addr) (a : Addr) (cd : Value) (o1 : Obj) (o2 : Obj) (xs : List Int) (s : Shared) (Q : Flow → Shared → Prop) (E : Value → Shared → Prop) : Prop := ∀ (B : Below callerA g [] g) (X : (Mine.hd.heap_39 w.params).In g) (T : Top p loose mean mg mb g) (h89 : 89 < L) (h72 : 72 < L) (hc1 : o1.data = .cell none) (hc2 : o2.data = .cell none) (hE : PassesOwn (model PySem.Challenge.rw_oc0257_01.prog w) (lawA L a cd) (lawE L a cd) E) (hret : LawO w g L a cd o1 xs s Q E), LawN w g L a cd o1 o2 xs s Q E
noncomputable def ar : (((World × Program) × (List Str) × (ExcName → Option Value)) × ((Str → Option Value) × (Str → Option Value)) × Heap × Addr) × ((Addr × Value) × Obj × Obj) × ((List Int) × Shared) × (Flow → Shared → Prop) × (Value → Shared → Prop) := @Classical.epsilon _ (by have := neW; have := neS; infer_instance) fun x => ¬ u16 ig x
namespace n_law_c
noncomputable def p : PySem.Program := ar.1.1.1.2
noncomputable def a : PySem.Addr := ar.2.1.1.1
theorem m_law_c : ig ar.1.1.1.1 n_law_c.p ar.1.1.2.1 ar.1.1.2.2 ar.1.2.1.1 ar.1.2.1.2 ar.1.2.2.1 ar.1.2.2.2 n_law_c.a ar.2.1.1.2 ar.2.1.2.1 ar.2.1.2.2 ar.2.2.1.1 ar.2.2.1.2 ar.2.2.2.1 ar.2.2.2.2 := by
 intro B X T h89 h72 hc1 hc2 hE hret
 revert X
 unfold LawO at hret
 unfold LawN
 k_fill
 intro X
 intro h tk u tH S dx D R ta tb ps1 ps2 rest F N hr hS hR hRO T1 T2
 unfold lawA lawE lawS lawB law0 at hret ⊢
 unfold lawA lawE lawS law0 at hE
 dsimp only [List.drop] at hret ⊢
 k_steps
 walk_at "mine open"
 refine wpAny_For ?_
 k_steps
 walk_at "mine open"
 rename_i l6 h6 F6 N6 l6'
 replace N6 : News (ar.1.2.2.1) (ar.1.2.2.2) h6 ((72, tabObj ps2) :: (l6, listOf [Value.str (htext (aG (ar.2.2.1.1))) tH].toArray 0) :: ((ar.1.2.2.2) + 1 + 1, (ar.2.1.2.1)) :: ((ar.1.2.2.2) + 1, (ar.2.1.2.2)) :: (89, tabObj ps1) :: rest) := News.sub N6 (fun q hq => by
  revert hq; revert q; walk_at "mine sub")
 refine fq (ar.1.1.1.1) l6 [aG (ar.2.2.1.1)] (Nat.le_of_ble_eq_true rfl) (fun rs hrs => by rw [List.mem_singleton.mp hrs]; exact ⟨gC (ar.2.2.1.1), Nat.le_trans (br (ar.2.2.1.1)) (by decide), bn (ar.2.2.1.1)⟩) p (ar.1.1.2.1) (ar.1.1.2.2) (ar.1.2.1.1) (ar.1.2.1.2) _ _ _ _ _ _ _ _ _ _ (ar.1.2.2.1) (ar.1.2.2.1) (ar.1.2.2.2) _ _ _ _ _ _ B F6 X N6 T rfl (by decide) (by decide) ?_ (T2.mono fun q hq => .tail _ (.tail _ (.tail _ (.tail _ hq)))) ⟨_, _, .head _, .cons _ _ .nil⟩ ?_
 ·intro q hq
  simp only [List.mem_cons] at hq
  rcases hq with rfl | rfl | rfl | rfl | hq
  ·exact Nat.ne_of_gt l6'.2.2.2.1
  ·exact Nat.ne_of_gt (Nat.lt_succ_of_lt (Nat.lt_succ_of_lt h72))
  ·exact Nat.ne_of_gt (Nat.lt_succ_of_lt h72)
  ·exact (by decide : (89 : Nat) ≠ 72)
  ·exact (hr q hq).2.2.2
 ·rintro r ps2' tl h7 tk7 F7 N7 hlt7 htl7 hT7 hDr7
  have ne7 : ∀ q ∈ tl, q.1 ≠ (ar.1.2.2.2) + 1 + 1 ∧ q.1 ≠ (ar.1.2.2.2) + 1 ∧ q.1 ≠ 89 ∧ q.1 ≠ 72 := fun q hq => ⟨Nat.ne_of_gt (hlt7 _ (.tail _ (.head _)) q hq), Nat.ne_of_gt (hlt7 _ (.tail _ (.tail _ (.head _))) q hq), Nat.ne_of_gt (hlt7 _ (.tail _ (.tail _ (.tail _ (.head _)))) q hq), htl7 q hq⟩
  have nel : l6 ≠ (ar.1.2.2.2) + 1 + 1 ∧ l6 ≠ (ar.1.2.2.2) + 1 ∧ l6 ≠ 89 ∧ l6 ≠ 72 := ⟨Nat.ne_of_gt l6'.1, Nat.ne_of_gt l6'.2.1, Nat.ne_of_gt l6'.2.2.1, Nat.ne_of_gt l6'.2.2.2.1⟩
  generalize hn7 : tl ++ (l6, listOf [Value.str (htext (aG (ar.2.2.1.1))) tH].toArray 0) :: rest = n7
  have hi7 : Hi (ar.1.2.2.2) n7 := by
   rw [← hn7]
   intro q hq
   rcases List.mem_append.mp hq with hq | hq
   ·exact ne7 q hq
   ·rcases List.mem_cons.mp hq with rfl | hq
    ·exact nel
    ·exact hr q hq
  have hrest : ∀ q ∈ rest, q ∈ n7 := fun q hq => by rw [← hn7]; exact List.mem_append.mpr (.inr (.tail _ hq))
  replace N7 : News (ar.1.2.2.1) (ar.1.2.2.2) h7 (((ar.1.2.2.2) + 1, (ar.2.1.2.2)) :: ((ar.1.2.2.2) + 1 + 1, (ar.2.1.2.1)) :: (89, tabObj ps1) :: (72, tabObj ps2') :: n7) := News.sub N7 (fun q hq => by
   rw [← hn7] at hq
   revert hq; revert q; walk_at "mine sub")
  replace hS := hS.keep (nx' := n7) fun q hq _ => hrest q hq
  refine bO (hS.fld) ?_; intro f1 f2 f3 f4 hfld
  refine aJ (hS.tab) ?_; intro oD htab hoD
  have hseq : ∀ q ∈ n7, Own S dx D G0 q.1 → ∀ vs k, q.2.data ≠ .seq vs k := by
   rintro q hq (e | e | e | ⟨v, hv, _⟩) vs k hk
   ·have e2 := aM N7 (.tail _ (.tail _ (.tail _ (.tail _ hq)))) (.tail _ (.tail _ (.tail _ (.tail _ hS.inst)))) e
    rw [e2] at hk; cases hk
   ·have e2 := aM N7 (.tail _ (.tail _ (.tail _ (.tail _ hq)))) (.tail _ (.tail _ (.tail _ (.tail _ hfld)))) e
    rw [e2] at hk; cases hk
   ·have e2 := aM N7 (.tail _ (.tail _ (.tail _ (.tail _ hq)))) (.tail _ (.tail _ (.tail _ (.tail _ htab)))) e
    rw [e2] at hk
    refine fa (hoD) ?_; (try clear hoD); intro es n _ hd _
    rw [hd] at hk; cases hk
   ·exact nomatch hv
  have hOw : ∀ a, Own S dx D G0 a → a = S ∨ a = dx ∨ a = D := by
   rintro a (e | e | e | ⟨v, hv, _⟩)
   ·exact .inl e
   ·exact .inr (.inl e)
   ·exact .inr (.inr e)
   ·exact nomatch hv
  have hno : ∀ a, (∀ q ∈ n7, q.1 ≠ a) → ¬ Own S dx D G0 a := fun a ha ho => by
   rcases hOw a ho with rfl | rfl | rfl
   ·exact ha _ hS.inst rfl
   ·exact ha _ hfld rfl
   ·exact ha _ htab rfl
  have hin : ∀ q ∈ n7, q ∈ drawn [S, dx, D] n7 ∨ ∀ vs k, q.2.data ≠ .seq vs k := fun q hq => by
   by_cases c : Own S dx D G0 q.1
   ·exact .inr (hseq q hq c)
   ·refine .inl (mem_drawn.mpr ⟨hq, fun hm => c ?_⟩)
    simp only [List.mem_cons, List.not_mem_nil, or_false] at hm
    rcases hm with e | e | e
    ·exact .inl e
    ·exact .inr (.inl e)
    ·exact .inr (.inr (.inl e))
  obtain ⟨subB, hsubB, hDB⟩ : ∃ subB, (∀ q ∈ subB, q ∈ n7 ∧ ¬ Own S dx D G0 q.1) ∧ DatIn subB r (datRs ([aG (ar.2.2.1.1)].flatten.map (·.map toP))) := by
   refine ⟨drawn [S, dx, D] n7, fun q hq => ⟨(mem_drawn.mp hq).1, fun ho => (mem_drawn.mp hq).2 ?_⟩, fX (fun q hq => ?_) hDr7⟩
   ·rcases hOw _ ho with e | e | e <;> rw [e] <;> simp
   ·rcases List.mem_append.mp hq with hq | hq
    ·exact hin q (by rw [← hn7]; exact List.mem_append.mpr (.inl hq))
    ·simp only [List.mem_cons] at hq
     rcases hq with rfl | rfl | rfl | rfl | hq
     ·exact hin _ (by rw [← hn7]; exact List.mem_append.mpr (.inr (.head _)))
     ·exact .inr fun vs k e => by rw [hc1] at e; cases e
     ·exact .inr fun vs k e => by rw [hc2] at e; cases e
     ·exact .inr fun vs k e => by cases e
     ·exact hin _ (hrest q hq)
  cases hDB with
  | list hm7 hd7 =>
  rename_i b vs7 k7
  have hds : ([aG (ar.2.2.1.1)].flatten.map (·.map toP)).map datR = (aH (ar.2.2.1.1)).map fun x => datR ((rowP x).map toP) := by
   simp [aG, List.map_map, Function.comp_def]
  rw [hds] at hd7
  k_steps
  walk_at "mine open"
  refine mz (l := b) (vs := vs7) (nn := k7) (LoopJ (ar.1.1.1.1) (ar.1.2.2.2) S dx D ta tb (((ar.1.2.2.2) + 1 + 1, (ar.2.1.2.1)) :: (89, tabObj ps1) :: (72, tabObj ps2') :: subB) (ar.2.2.1.1)) rfl F7 N7 ?_ ?_ ?_ ?_ (.inl ⟨_, _, rfl⟩) hE
  ·refine ⟨_, R, G0, (ar.2.1.2.2), 0, [], [(R, listOf ([] : List Value).toArray 0)], rfl, .head _, ⟨_, hc2⟩, hno _ (fun q hq => (hi7 q hq).2.1), hS.keep (fun q hq _ => .tail _ (.tail _ (.tail _ (.tail _ hq)))), g0_is, ?_, .head _, ?_, .nil⟩
   ·intro q hq
    simp only [List.mem_cons] at hq
    rcases hq with rfl | rfl | rfl | hq
    ·exact ⟨.tail _ (.head _), hno _ fun q hq => (hi7 q hq).1⟩
    ·exact ⟨.tail _ (.tail _ (.head _)), hno _ fun q hq => (hi7 q hq).2.2.1⟩
    ·exact ⟨.tail _ (.tail _ (.tail _ (.head _))), hno _ fun q hq => (hi7 q hq).2.2.2⟩
    ·exact ⟨.tail _ (.tail _ (.tail _ (.tail _ (hsubB q hq).1))), (hsubB q hq).2⟩
   ·intro q hq
    rw [List.mem_singleton.mp hq]
    exact ⟨.tail _ (.tail _ (.tail _ (.tail _ (hrest _ hR)))), hRO, (hr _ hR).1, (hr _ hR).2.1⟩
  ·rintro i m nx ⟨u', R', G, o2', kR, rvs, sub, rfl, _, _, _, _, _, hfx, _⟩
   exact (hfx _ (.tail _ (.tail _ (.tail _ hm7)))).1
  ·intro I i v m₁ nx hh tk o hv zp1 hI hIn F8 N8
   walk_at "mine hide"
   obtain ⟨u', R', G, o2', kR, rvs, sub, rfl, hcel, ⟨vc, hvc⟩, hnoc, hSG, hG, hfx, hRs, hsub, hdR⟩ := zp1
   replace F8 : Fr (ar.1.2.2.1) (ar.1.2.2.2) hh _ := F8
   have hd8 : ∀ q ∈ drawn [(ar.1.2.2.2) + 1] (nx ++ [(I, o)]), q.1 ≠ (ar.1.2.2.2) + 1 := aE (List.mem_singleton.mpr rfl)
   replace N8 : News (ar.1.2.2.1) (ar.1.2.2.2) hh (((ar.1.2.2.2) + 1, o2') :: drawn [(ar.1.2.2.2) + 1] (nx ++ [(I, o)])) := News.sub N8 (List.forall_mem_cons.mpr ⟨List.mem_append.mpr (.inl hcel), fun q hq => aI q hq⟩)
   refine aJ (aY hd7 hv) ?_; intro x hx hDx
   refine gO (ef hDx) ?_; intro rb ws kq xq5d; subst xq5d; intro hrb hws
   have hsB : ∀ q ∈ subB, q ∈ nx ∧ ¬ Own S dx D G q.1 ∧ q.1 ≠ (ar.1.2.2.2) + 1 := fun q hq => ⟨(hfx q (.tail _ (.tail _ (.tail _ hq)))).1, (hfx q (.tail _ (.tail _ (.tail _ hq)))).2, (hi7 q (hsubB q hq).1).2.1⟩
   k_steps
   rename_i h9 o9 F9 N9 d9
   walk_at "mine open"
   generalize hn10 : ((ar.1.2.2.2) + 1, o9) :: drawn [(ar.1.2.2.2) + 1] (nx ++ [(I, o)]) = n10 at N9
   have m10 : ∀ q ∈ nx, q.1 ≠ (ar.1.2.2.2) + 1 → q ∈ n10 := fun q hq hne => by
    rw [← hn10]
    exact .tail _ (mem_drawn.mpr ⟨List.mem_append.mpr (.inl hq), by simpa using hne⟩)
   have mB : ∀ q ∈ subB, q ∈ n10 := fun q hq => m10 q (hsB q hq).1 (hsB q hq).2.2
   rw [← hn10] at N9
   refine du (by rfl) (by with_unfolding_all rfl) (by rfl) (by decide) ?_
   k_steps
   walk_at "mine open"
   rw [hn10] at N9
   have hwl : ws.length = (rowP x).length := by
    have := hws.length
    simpa using this
   have hrl : (rowP x).length ≤ 10 := (cy (ld x)).2
   refine kZ (L := (ar.1.2.2.2)) rfl (SrcW.list rfl N9 (mB _ hrb)) (go_list (.inr ⟨_, _, _, rfl⟩)) (by decide) rfl (by rfl) (by rfl) F9 N9 (by rw [List.size_toArray, hwl]; exact Nat.le_trans hrl (by decide)) (fun j zs nx2 => nx2 = n10 ∧ StrsAre zs ((bw ((rowP x).take j)).map nm)) ?_ ⟨rfl, .nil⟩ ?_ ?_
   ·rintro j zs nx2 ⟨rfl, _⟩ q hq
    rw [List.mem_singleton.mp hq]
    exact mB _ hrb
   ·intro j v2 zs nx2 I2 oI2 C oC D2 m2 h10 tk10 E10 hj hv2 zp2 hoC F10 N10 off ne
    walk_at "mine hide"
    refine bj (zp2) ?_; (try clear zp2); intro xq6a; subst xq6a; intro hzs
    refine aJ (aY (rs := rowP x) (f := fun p => datP (toP p)) (by simpa [List.map_map, Function.comp_def] using hws) (show ws[j]? = some v2 by simpa using hv2)) ?_; intro pr hpr hDp
    refine x4_2 (eg hDp) ?_; intro b2 t2 q2 x2 xq8e; subst xq8e; intro hb2 hx2
    refine asg_pair (T := b2) (k0 := q2) rfl hoC F10 N10 (off_2 off ne) (.tail _ (mB _ hb2)) rfl rfl (by decide) rfl fun h11 tk11 oC11 m11 hoC11 hk11 hv11 F11 N11 => ?_
    refine wpAny_tests_one ?_
    have eJ : (Str.ofString "job" == Str.ofString "after") = false := by decide
    have eL : (Str.ofString "late" == Str.ofString "after") = false := by decide
    have eA : (Str.ofString "after" == Str.ofString "after") = true := by decide
    have nJ : Str.ofString "job" ≠ Str.ofString "after" := by decide
    have nL : Str.ofString "late" ≠ Str.ofString "after" := by decide
    have tk1 : (rowP x).take (j + 1) = (rowP x).take j ++ [pr] := by rw [List.take_add_one, hpr]; rfl
    rcases rowP_mem (List.mem_of_getElem? hpr) with ⟨n, hn, rfl⟩ | ⟨n, hn, rfl⟩ | rfl
    ·k_steps
     exact ⟨h11, _, nx2, oC11, m11, rfl, hoC11, F11, N11, off, rfl, by rw [tk1, eH nJ]; exact hzs⟩
    ·rcases hx2 with ⟨e, _⟩ | ⟨n', t9, e, rfl⟩
     ·exact nomatch e
     ·cases e
      k_steps
      exact ⟨h11, _, nx2, oC11, m11, rfl, hoC11, F11, N11, off, rfl, by rw [tk1, gV, List.map_append]; exact bC hzs⟩
    ·k_steps
     exact ⟨h11, _, nx2, oC11, m11, rfl, hoC11, F11, N11, off, rfl, by rw [tk1, eH nL]; exact hzs⟩
   ·intro Dn zs nx2 h10 tk10 zp3 F10 N10 oDn
    walk_at "mine hide"
    refine bj (zp3) ?_; (try clear zp3); intro xq9a; subst xq9a; intro hzs
    rw [List.size_toArray, hwl, List.take_length, gW] at hzs
    have hws0 : DatAll subB ws (datP (toP (Str.ofString "job", some (jobN x))) :: _) := hws
    cases hws0 with
    | cons h0 ht =>
    rename_i v0 ws'
    refine x4_2 (eg h0) ?_; intro b0 t0 q0 x0 xq10e; subst xq10e; intro hb0 hx0
    rcases hx0 with ⟨e, _⟩ | ⟨n', t9, e, rfl⟩
    ·exact nomatch e
    cases e
    refine bO (hSG.fld) ?_; intro g1 g2 g3 g4 gfld
    have hSn : ∀ a, a ∈ [S, dx] → a ≠ (ar.1.2.2.2) + 1 := by
     intro a ha e
     subst e
     simp only [List.mem_cons, List.not_mem_nil, or_false] at ha
     rcases ha with e | e
     ·exact hnoc (.inl e)
     ·exact hnoc (.inr (.inl e))
    replace N10 : News (ar.1.2.2.1) (ar.1.2.2.2) h10 ((S, instObj 210 dx) :: (dx, sdict (ar.1.1.1.1) g1 g2 g3 g4 D .none (.int 0 ta) (.int 0 tb) 4) :: ((ar.1.2.2.2) + 1, o9) :: (Dn, lst zs) :: (rb, listOf (Value.ref b0 :: ws').toArray kq) :: (b0, { cls := .type "tuple", data := .seq #[.str (Str.ofString "job") t0, .str (nm (jobN x)) t9] q0 }) :: nx2) := News.sub N10 (List.forall_mem_cons.mpr ⟨.tail _ (m10 _ hSG.inst (hSn _ (.head _))), List.forall_mem_cons.mpr ⟨.tail _ (m10 _ gfld (hSn _ (.tail _ (.head _)))), List.forall_mem_cons.mpr ⟨.tail _ (by rw [← hn10]; exact .head _), List.forall_mem_cons.mpr ⟨.head _, List.forall_mem_cons.mpr ⟨.tail _ (mB _ hrb), List.forall_mem_cons.mpr ⟨.tail _ (mB _ hb0), fun q hq => .tail _ hq⟩⟩⟩⟩⟩⟩)
    k_steps
    refine eh ?_
    k_steps
    walk_at "mine open"
    rename_i q7 h12 F12 N12 l12
    refine iz (K := Mine.hd.heap_39 (ar.1.1.1.1).params) (g := 160) (self := .ref S) (by kernel_rfl) ?_
    k_steps
    walk_at "mine open"
    have hnl := gG x
    have hzl : zs.length ≤ 2 := by
     have e := hzs.len_eq
     rw [List.length_map] at e
     omega
    refine star_seq (T := "list") F12 N12 (a := Dn) (.tail _ (.tail _ (.tail _ (.tail _ (.head _))))) rfl rfl (.inl rfl) rfl (by rw [List.size_toArray]; exact Nat.le_trans hzl (by decide)) ?_
    intro h13 F13 N13
    refine PySem.Calls.spliced_nil ?_
    refine ⟨methP N13 (.head _) (X.keeps F13.keep), ?_⟩
    refine call_meth N13 (.head _) ?_
    simp only [List.append_nil, List.nil_append]
    generalize hn13 : (q7, methodObj (.ref 160) (.ref S)) :: _ = n13 at N13
    have hl0 : ((aH (ar.2.2.1.1)).take i).length ≤ 11 := by
     have := cC (ar.2.2.1.1)
     rw [List.length_take]
     omega
    have hS13 : SrtIn (ar.1.1.1.1) S dx D .none (.int 0 ta) (.int 0 tb) G n13 := hSG.keep fun q hq ho => by
     rw [← hn13]
     exact .tail _ (.tail _ (.tail _ (.tail _ (.tail _ (.tail _ (.tail _ (m10 q hq fun e => hnoc (e ▸ ho))))))))
    refine add_c (ar.1.1.1.1) S dx D (.int 0 ta) (.int 0 tb) G (jobN x) t9 (needN x) zs n13 hS13 (cZ x) (fF x) (by omega) hzs (hG.sum hl0) p (ar.1.1.2.1) (ar.1.1.2.2) (ar.1.2.1.1) (ar.1.2.1.2) _ _ _ _ _ _ _ _ _ _ (ar.1.2.2.1) (ar.1.2.2.1) (ar.1.2.2.2) _ _ _ _ B F13 X N13 T rfl (by decide) (by decide) ?_
    intro r14 n14 h14 tk14 F14 N14 zp4
    walk_at "mine hide"
    refine x1_5 (zp4) ?_; (try clear zp4); intro G1 xq12b; subst xq12b; intro hS14 hn1 hp1 hs1 hK1
    have hnew : ∀ a, (∀ q ∈ nx2, q.1 ≠ a) → ¬ Own S dx D G a := fun a ha ho => by
     refine aT (hSG.ownIn ho) ?_; intro oo hm
     exact ha _ (m10 _ hm fun e => hnoc (e ▸ ho)) rfl
    have k14 : ∀ q ∈ n13, ¬ Own S dx D G q.1 → q ∈ n14 ∧ ¬ Own S dx D G1 q.1 := fun q hq ho => ⟨hK1.1 q hq ho, fun h1 => (hK1.2.1 _ h1).elim ho fun hlt => Nat.lt_irrefl _ (hlt q hq)⟩
    have mc14 : ((ar.1.2.2.2) + 1, o9) ∈ n14 ∧ ¬ Own S dx D G1 ((ar.1.2.2.2) + 1) := k14 _ (by rw [← hn13]; exact .tail _ (.tail _ (.tail _ (.head _)))) hnoc
    have mD14 : (Dn, lst zs) ∈ n14 ∧ ¬ Own S dx D G1 Dn := k14 _ (by rw [← hn13]; exact .tail _ (.tail _ (.tail _ (.tail _ (.head _))))) (hnew _ oDn)
    have mB14 : ∀ q ∈ subB, q ∈ n14 ∧ ¬ Own S dx D G1 q.1 := fun q hq => k14 q (by rw [← hn13]; exact .tail _ (.tail _ (.tail _ (.tail _ (.tail _ (.tail _ (.tail _ (mB q hq)))))))) (hsB q hq).2.1
    refine bO (hS14.fld) ?_; intro f1' f2' f3' f4' gfld14
    replace N14 : News (ar.1.2.2.1) (ar.1.2.2.2) h14 ((S, instObj 210 dx) :: (dx, sdict (ar.1.1.1.1) f1' f2' f3' f4' D .none (.int 0 ta) (.int 0 tb) 4) :: ((ar.1.2.2.2) + 1, o9) :: (Dn, lst zs) :: (rb, listOf (Value.ref b0 :: ws').toArray kq) :: (b0, { cls := .type "tuple", data := .seq #[.str (Str.ofString "job") t0, .str (nm (jobN x)) t9] q0 }) :: n14) := News.sub N14 (List.forall_mem_cons.mpr ⟨hS14.inst, List.forall_mem_cons.mpr ⟨gfld14, List.forall_mem_cons.mpr ⟨mc14.1, List.forall_mem_cons.mpr ⟨mD14.1, List.forall_mem_cons.mpr ⟨(mB14 _ hrb).1, List.forall_mem_cons.mpr ⟨(mB14 _ hb0).1, fun q hq => hq⟩⟩⟩⟩⟩⟩)
    try clear N12 N13 F12 F13
    k_steps
    walk_at "mine open"
    generalize hn15 : (S, instObj 210 dx) :: _ = n15 at N14
    have hS15 : SrtIn (ar.1.1.1.1) S dx D .none (.int 0 ta) (.int 0 tb) G1 n15 := hS14.keep fun q hq _ => by
     rw [← hn15]
     exact .tail _ (.tail _ (.tail _ (.tail _ (.tail _ (.tail _ hq)))))
    have hsum1 : ∀ u ∈ G1.nodes, (G1.su u).length ≤ 100 := fun u _ => by
     have e1 := fn (jobN x) (needN x) u
     have e2 : G1.su u = suOf (aR ((aH (ar.2.2.1.1)).take i ++ [x])) u := by
      rw [hs1, bV, eE, fn, hG.su]
     rw [e2]
     unfold suOf
     rw [List.length_map]
     have h1 := List.length_filter_le (fun e : Edge => decide (e.2 = u)) (aR ((aH (ar.2.2.1.1)).take i ++ [x]))
     have h2 := cg ((aH (ar.2.2.1.1)).take i ++ [x])
     rw [List.length_append] at h2
     have h3 : [x].length = 1 := rfl
     omega
    refine (add_c (ar.1.1.1.1) S dx D (.int 0 ta) (.int 0 tb) G1 (jobN x) t9 [] [] n15 hS15 (cZ x) (fun _ h => (nomatch h)) (Nat.zero_le _) .nil hsum1).toR p (ar.1.1.2.1) (ar.1.1.2.2) (ar.1.2.1.1) (ar.1.2.1.2) _ _ _ _ _ _ _ _ _ _ (ar.1.2.2.1) (ar.1.2.2.1) (ar.1.2.2.2) _ _ _ _ B F14 X N14 T rfl (by decide) (by decide) ?_
    intro r16 n16 h16 tk16 F16 N16 zp5
    walk_at "mine hide"
    refine x1_5 (zp5) ?_; (try clear zp5); intro G2 xq15b; subst xq15b; intro hS16 hn2 hp2 hs2 hK2
    have k16 : ∀ q ∈ n14, ¬ Own S dx D G1 q.1 → q ∈ n16 ∧ ¬ Own S dx D G2 q.1 := fun q hq ho => by
     have hq' : q ∈ n15 := by rw [← hn15]; exact .tail _ (.tail _ (.tail _ (.tail _ (.tail _ (.tail _ hq)))))
     exact ⟨hK2.1 q hq' ho, fun h1 => (hK2.2.1 _ h1).elim ho fun hlt => Nat.lt_irrefl _ (hlt q hq')⟩
    have hG2 : GrIs ((aH (ar.2.2.1.1)).take i ++ [x]) G2 := hG.two hn1 hp1 hs1 hn2 hp2 hs2
    have mc16 := k16 _ mc14.1 mc14.2
    have mD16 := k16 _ mD14.1 mD14.2
    have mB16 : ∀ q ∈ subB, q ∈ n16 ∧ ¬ Own S dx D G2 q.1 := fun q hq => k16 q (mB14 q hq).1 (mB14 q hq).2
    have mN16 : ∀ q ∈ nx, q.1 ≠ (ar.1.2.2.2) + 1 → ¬ Own S dx D G q.1 → q ∈ n16 ∧ ¬ Own S dx D G2 q.1 := fun q hq hne ho => by
     have h1 := k14 q (by rw [← hn13]; exact .tail _ (.tail _ (.tail _ (.tail _ (.tail _ (.tail _ (.tail _ (m10 q hq hne)))))))) ho
     exact k16 q h1.1 h1.2
    have mI16 : (I, o) ∈ n16 ∧ ¬ Own S dx D G2 I := by
     have hI2 : I ≠ (ar.1.2.2.2) + 1 := Ne.symm (hI _ hcel)
     have h0 : (I, o) ∈ nx2 := by
      rw [← hn10]
      exact .tail _ (mem_drawn.mpr ⟨List.mem_append.mpr (.inr (.head _)), by simpa using hI2⟩)
     have hno : ¬ Own S dx D G I := fun ho => by
      refine aT (hSG.ownIn ho) ?_; intro oo hm
      exact hI _ hm rfl
     have h1 := k14 (I, o) (by rw [← hn13]; exact .tail _ (.tail _ (.tail _ (.tail _ (.tail _ (.tail _ (.tail _ h0))))))) hno
     exact k16 _ h1.1 h1.2
    have mS16 : ∀ q ∈ sub, q ∈ n16 ∧ ¬ Own S dx D G2 q.1 := fun q hq => mN16 q (hsub q hq).1 (hsub q hq).2.2.2 (hsub q hq).2.1
    replace N16 : News (ar.1.2.2.1) (ar.1.2.2.2) h16 (((ar.1.2.2.2) + 1, o9) :: (Dn, lst zs) :: (R', listOf rvs.toArray kR) :: (rb, listOf (Value.ref b0 :: ws').toArray kq) :: (b0, { cls := .type "tuple", data := .seq #[.str (Str.ofString "job") t0, .str (nm (jobN x)) t9] q0 }) :: n16) := News.sub N16 (List.forall_mem_cons.mpr ⟨mc16.1, List.forall_mem_cons.mpr ⟨mD16.1, List.forall_mem_cons.mpr ⟨(mS16 _ hRs).1, List.forall_mem_cons.mpr ⟨(mB16 _ hrb).1, List.forall_mem_cons.mpr ⟨(mB16 _ hb0).1, fun q hq => hq⟩⟩⟩⟩⟩)
    try clear N14 F14
    k_steps
    walk_at "mine open"
    refine bJ (by with_unfolding_all rfl) (by rfl) (by decide) ?_
    k_steps
    walk_at "mine open"
    generalize hn17 : ((ar.1.2.2.2) + 1, o9) :: (Dn, lst zs) :: _ = n17 at N16
    have hzn : zs.length = (needN x).length := by
     have e := hzs.len_eq
     rwa [List.length_map] at e
    have mDn : (Dn, lst zs) ∈ n17 := by rw [← hn17]; exact .tail _ (.head _)
    refine cQ (SrcW.list rfl N16 mDn) (fun _ _ _ _ _ _ h => wpAny_pure h) (by decide) rfl F16 N16 (by rw [List.size_toArray]; exact Nat.le_trans hzl (by decide)) (fun j ys nx3 => ∃ subN, nx3 = subN ++ n17 ∧ (∀ q ∈ subN, ∀ p ∈ n17, p.1 ≠ q.1) ∧ DatAll subN ys (((needN x).take j).map fun u => edgeD (jobN x, u))) ?_ ⟨[], rfl, fun q hq => (nomatch hq), .nil⟩ ?_ ?_
    ·rintro j ys nx3 ⟨subN, rfl, _⟩ q hq
     rw [List.mem_singleton.mp hq]
     exact List.mem_append.mpr (.inr mDn)
    ·intro j v3 ys nx3 I3 oI3 C3 oC3 D3 m3 h18 tk18 E18 hj hv3 zp6 hoC3 F18 N18 off3 ne3
     walk_at "mine hide"
     refine jQ (zp6) ?_; (try clear zp6); intro subN xq17b; subst xq17b; intro hsN hdN
     refine bg (aS hzs (show zs[j]? = some v3 by simpa using hv3)) ?_; intro y ty hy xq18d; subst xq18d
     refine bp hoC3 F18 N18 (off_2 off3 ne3) rfl rfl fun h19 tk19 oC19 m19 hoC19 hm19 F19 N19 => ?_
     refine wpAny_tests_nil ?_
     rw [if_pos rfl]
     have q17 : ∀ q ∈ n17, q ∈ (I3, oI3) :: (C3, oC19) :: (D3, lst ys) :: (subN ++ n17) := fun q hq => .tail _ (.tail _ (.tail _ (List.mem_append.mpr (.inr hq))))
     replace N19 : News (ar.1.2.2.1) (ar.1.2.2.2) h19 (((ar.1.2.2.2) + 1, o9) :: (rb, listOf (Value.ref b0 :: ws').toArray kq) :: (b0, { cls := .type "tuple", data := .seq #[.str (Str.ofString "job") t0, .str (nm (jobN x)) t9] q0 }) :: (I3, oI3) :: (C3, oC19) :: (D3, lst ys) :: (subN ++ n17)) := News.sub N19 (List.forall_mem_cons.mpr ⟨q17 _ (by rw [← hn17]; exact .head _), List.forall_mem_cons.mpr ⟨q17 _ (by rw [← hn17]; exact .tail _ (.tail _ (.tail _ (.head _)))), List.forall_mem_cons.mpr ⟨q17 _ (by rw [← hn17]; exact .tail _ (.tail _ (.tail _ (.tail _ (.head _))))), fun q hq => hq⟩⟩⟩)
     k_steps
     rename_i E9 h20 F20 N20 l20
     refine x0_6 (l20) ?_; (try clear l20); intro w1 w2 w3 w4 w5 w6 w7
     have w8 := tb_ltOf w7
     refine ⟨h20, _, ((E9, listOf [Value.str (nm (jobN x)) t9, .str (nm y) ty].toArray 0) :: subN) ++ n17, oC19, m19, rfl, hoC19, F20, News.sub N20 ?_, Off3.of fun q hq => ?_, _, rfl, ?_, ?_⟩
     ·walk_at "mine sub"
     ·rcases List.mem_cons.mp hq with rfl | hq
      ·exact ⟨Nat.ne_of_gt w4, Nat.ne_of_gt w5, Nat.ne_of_gt w6⟩
      ·exact off3.mem q hq
     ·intro q hq p hp
      rcases List.mem_cons.mp hq with rfl | hq
      ·exact Nat.ne_of_lt (w8 p (List.mem_append.mpr (.inr hp)))
      ·exact hsN q hq p hp
     ·rw [List.take_add_one, hy, List.map_append]
      exact DatAll.append (DatAll.mono (fun q hq => .tail _ hq) hdN) (DatAll.one (DatIn.list (.head _) (.cons (.str _ _) (.cons (.str _ _) .nil))))
    ·intro D4 ys nx3 h18 tk18 zp7 F18 N18 oD4
     walk_at "mine hide"
     refine jQ (zp7) ?_; (try clear zp7); intro subN xq20b; subst xq20b; intro hsN hdN
     have hdN' : DatAll subN ys ((needN x).map fun u => edgeD (jobN x, u)) := by
      rw [List.size_toArray, hzn, List.take_length] at hdN
      exact hdN
     have hRne : (R' : Nat) ≠ I := hI _ (hsub _ hRs).1
     have r17 : (R', listOf rvs.toArray kR) ∈ n17 := by rw [← hn17]; exact .tail _ (.tail _ (.head _))
     have s17 : ∀ q ∈ n16, q ∈ n17 := fun q hq => by rw [← hn17]; exact .tail _ (.tail _ (.tail _ (.tail _ (.tail _ hq))))
     replace N18 : News (ar.1.2.2.1) (ar.1.2.2.2) h18 ((R', listOf rvs.toArray kR) :: (D4, lst ys) :: (subN ++ n17)) := News.sub N18 (List.forall_mem_cons.mpr ⟨.tail _ (List.mem_append.mpr (.inr r17)), fun q hq => hq⟩)
     have hrl : rvs.length ≤ 22 := by
      have e1 := hdR.length
      rw [List.length_map] at e1
      have e2 := cg ((aH (ar.2.2.1.1)).take i)
      omega
     have hyl : ys.length ≤ 2 := by
      have e1 := hdN'.length
      rw [List.length_map] at e1
      omega
     refine kmk_add_lit (zs := rvs ++ ys) F18 N18 (News.isList N18 (.head _)) (News.isList N18 (.tail _ (.head _))) (by simp) ?_ (by show rvs.length + ys.length ≤ sizeLine; rw [show sizeLine = 16777216 from rfl]; omega)
     intro E5 h19 F19 N19 l19
     have hEn : ∀ q ∈ n16, q.1 ≠ E5 := fun q hq => Nat.ne_of_lt (l19 q (.tail _ (.tail _ (List.mem_append.mpr (.inr (s17 q hq))))))
     have hfx2 : ∀ q ∈ ((ar.1.2.2.2) + 1 + 1, (ar.2.1.2.1)) :: (89, tabObj ps1) :: (72, tabObj ps2') :: subB, q.1 ≠ (ar.1.2.2.2) + 1 := by
      intro q hq
      simp only [List.mem_cons] at hq
      rcases hq with rfl | rfl | rfl | hq
      ·exact Nat.ne_of_gt (Nat.lt_succ_self _)
      ·exact Nat.ne_of_lt (Nat.lt_succ_of_lt h89)
      ·exact Nat.ne_of_lt (Nat.lt_succ_of_lt h72)
      ·exact (hsB q hq).2.2
     have h16a : ((ar.1.2.2.2) + 1 + 1, (ar.2.1.2.1)) ∈ n16 := (mN16 _ (hfx _ (.head _)).1 (hfx2 _ (.head _)) (hfx _ (.head _)).2).1
     k_steps
     rename Heap => h20
     rename Fr _ _ _ _ => F20
     rename News _ _ _ _ => N20
     refine lD hx F20 rfl rfl N20 (.head _) hEn (fun q hq => .tail _ (.tail _ (.tail _ (List.mem_append.mpr (.inr (s17 q hq)))))) (fun q hq => .tail _ (.tail _ (.tail _ (List.mem_append.mpr (.inl hq))))) (fun q hq p hp => hsN q hq p (s17 p hp)) hS16 hG2 mI16 mc16 (Ne.symm (hI _ hcel)) ⟨_, d9⟩ (fun q hq => ?_) h16a (fun q hq => ⟨(mS16 q hq).1, (mS16 q hq).2, (hsub q hq).2.2.1, (hsub q hq).2.2.2, hI q (hsub q hq).1⟩) hdR hdN'
     have k := mN16 q (hfx q hq).1 (hfx2 q hq) (hfx q hq).2
     exact ⟨k.1, k.2, hI q (hfx q hq).1⟩
  ·intro m₁ nx hh tk zp8 F8 N8
   walk_at "mine hide"
   obtain ⟨u', R', G, o2', kR, rvs, sub, rfl, hcel, ⟨vc, hvc⟩, hnoc, hSG, hG, hfx, hRs, hsub, hdR⟩ := zp8
   have hl7 : vs7.length = (aH (ar.2.2.1.1)).length := by
    have := hd7.length
    simpa using this
   rw [hl7, List.take_length] at hG hdR
   have f1 := hfx _ (.head _)
   have f2 := hfx _ (.tail _ (.head _))
   have f3 := hfx _ (.tail _ (.tail _ (.head _)))
   exact hret hh tk u' S dx D R' ta tb ps1 ps2' G kR rvs sub nx F8 N8 f1.1 f2.1 f3.1 f1.2 f2.2 f3.2 hSG hG hRs (fun q hq => ⟨(hsub q hq).1, (hsub q hq).2.1, (hsub q hq).2.2.1⟩) hdR
end n_law_c
theorem law_c (w : World) (p : Program) (loose : List Str) (mean : ExcName → Option Value) (mg mb : Str → Option Value) (g : Heap) (L a : Addr) (cd : Value) (o1 o2 : Obj) (xs : List Int) (s : Shared) (Q : Flow → Shared → Prop) (E : Value → Shared → Prop)
  (B : Below callerA g [] g) (X : (Mine.hd.heap_39 w.params).In g) (T : Top p loose mean mg mb g) (h89 : 89 < L) (h72 : 72 < L) (hc1 : o1.data = .cell none) (hc2 : o2.data = .cell none) (hE : PassesOwn (model PySem.Challenge.rw_oc0257_01.prog w) (lawA L a cd) (lawE L a cd) E)
  (hret : LawO w g L a cd o1 xs s Q E) : LawN w g L a cd o1 o2 xs s Q E := @aO _ _ (u16 ig) n_law_c.m_law_c ((((w, p), (loose, mean)), ((mg, mb), (g, L))), (((a, cd), (o1, o2)), ((xs, s), (Q, E)))) B X T h89 h72 hc1 hc2 hE hret
section
variable {prog : Program} {w : World} {A : Around} {s s₁ : Shared} {h₀ : Heap} {L : Addr} {m : Str → Option Value} {env : Env} {E : Value → Shared → Prop}
theorem turn_2a (elt t1 i1 t2 i2 : Expr) (scope : Scope) (pos : Pos) (it acc : Value) (env : Env) :
  compTurn (.ListComp elt [⟨t1, i1, [], 0⟩, ⟨t2, i2, [], 0⟩] scope pos) 0 it acc env = (do
   standAt i1.pos
   match ← pyNext it with
   | none => pure (.done .next)
   | some v =>
    letOwnedTupleGo t1 it v
    assign t1 env v
    let ok ← bh [] env
    if ok then (do
     let x ← eval i2 env
     standAt i2.pos
     let x ← foldedSetIterable i2 env x
     let _ ← runOwn (.compStart (.ListComp elt [⟨t1, i1, [], 0⟩, ⟨t2, i2, [], 0⟩] scope pos) 1 (← holding [x] (pyIter x)) acc env) env)
    again (.compLoop (.ListComp elt [⟨t1, i1, [], 0⟩, ⟨t2, i2, [], 0⟩] scope pos) 0 it acc env)) := by
 have e : compTurn (.ListComp elt [⟨t1, i1, [], 0⟩, ⟨t2, i2, [], 0⟩] scope pos) 0 it acc env = (do
   standAt i1.pos
   match ← pyNext it with
   | none => pure (.done .next)
   | some v =>
    letOwnedTupleGo t1 it v
    assign t1 env v
    let ok ← bh [] env
    if ok then
     let x ← eval i2 env
     standAt i2.pos
     let x ← foldedSetIterable i2 env x
     let _ ← runOwn (.compStart (.ListComp elt [⟨t1, i1, [], 0⟩, ⟨t2, i2, [], 0⟩] scope pos) 1 (← holding [x] (pyIter x)) acc env) env
     again (.compLoop (.ListComp elt [⟨t1, i1, [], 0⟩, ⟨t2, i2, [], 0⟩] scope pos) 0 it acc env)
    else again (.compLoop (.ListComp elt [⟨t1, i1, [], 0⟩, ⟨t2, i2, [], 0⟩] scope pos) 0 it acc env)) := by rfl
 rw [e]
 simp only [bind_assoc, pure_bind]
theorem turn_2b (elt t1 i1 t2 i2 : Expr) (scope : Scope) (pos : Pos) (it acc : Value) (env : Env) :
  compTurn (.ListComp elt [⟨t1, i1, [], 0⟩, ⟨t2, i2, [], 0⟩] scope pos) 1 it acc env = (do
   standAt i2.pos
   match ← pyNext it with
   | none => pure (.done .next)
   | some v =>
    letOwnedTupleGo t2 it v
    assign t2 env v
    let ok ← bh [] env
    if ok then (do let _ ← call (.builtin "list.append") [acc, ← eval elt env])
    again (.compLoop (.ListComp elt [⟨t1, i1, [], 0⟩, ⟨t2, i2, [], 0⟩] scope pos) 1 it acc env)) := by rfl
theorem ch {elt t1 i1 t2 i2 : Expr} {scope : Scope} {pos : Pos} {it acc : Value} {R : Result → Shared → Prop}
  (h0 : codeAny (model prog w) A (.compLoop (.ListComp elt [⟨t1, i1, [], 0⟩, ⟨t2, i2, [], 0⟩] scope pos) 1 it acc env) R s)
  (h : wpAny (model prog w) A (pyIter it) (fun it' s' => codeAny (model prog w) A (.compLoop (.ListComp elt [⟨t1, i1, [], 0⟩, ⟨t2, i2, [], 0⟩] scope pos) 1 it' acc env) R s')
   (notedBy (model prog w) A env fun x s' => R (.error x) s') s) :
  codeAny (model prog w) A (.compStart (.ListComp elt [⟨t1, i1, [], 0⟩, ⟨t2, i2, [], 0⟩] scope pos) 1 it acc env) R s := by
 refine codeAny_of_tree ?_
 show wpAny _ _ ((compStart (.ListComp elt [⟨t1, i1, [], 0⟩, ⟨t2, i2, [], 0⟩] scope pos) 1 it acc env).onRaise (fun x => do noteFrame x env; standAt theWindowsPlace)) _ _ s
 refine wpAny_notedAt ?_
 unfold compStart
 show wpAny _ _ (ask >>= _) _ _ s
 refine wpAny_bind (wpAny_askSetting (wpAny_ite ?_))
 split
 ·first
   | exact wpAny_bind (wpAny_pure (wpAny_pure (And.intro rfl h0)))
   | exact wpAny_pure (And.intro rfl h0)
 ·first
   | exact wpAny_bind (wpAny_rule (wpAny_bind (wpAny_standAt (wpAny_bind (wpAny_mono h (fun it' s' h' => wpAny_pure (And.intro rfl h')) fun _ _ x => x)))))
   | (refine wpAny_bind (wpAny_rule ?_); show wpAny _ _ (standAt i2.pos >>= _) _ _ s; exact wpAny_bind (wpAny_standAt (wpAny_bind (wpAny_mono h (fun it' s' h' => wpAny_pure (And.intro rfl h')) fun _ _ x => x))))
noncomputable def dK (prog : Program) (w : World) (A : Around) (s : Shared) (h₀ : Heap) (L : Addr) (m : Str → Option Value) (env : Env) (E : Value → Shared → Prop) (x1 : Str) (x2 : Str) (p1 : Pos) (p2 : Pos) (p3 : Pos) (pe : Pos) (i1 : Expr) (scope : Scope) (cl : List (Prod Str Addr)) (pos : Pos) (I : Addr) (R : Addr) (rvs : List Value) (kR : Nat) (wss : List (List Value)) (news : List (Prod Addr Obj)) (RR : Value → Addr → Result → Shared → Prop) : Prop := ∀ (hh : A.handled = none) (hcell : ∀ y ∈ scope.names, y.2 ≠ .cell) (hkind : scope.kind = .function) (hx1 : scope.names.lookup x1 = some .local) (hx2 : scope.names.lookup x2 = some .local) (hd1 : (x1 == ("__debug__" : Str)) = false) (hd2 : (x2 == ("__debug__" : Str)) = false) (hit : s.heap.IsListIter I R 0) (hR : (R, listOf rvs.toArray kR) ∈ news) (F : Fr h₀ L s.heap m) (N : News h₀ L s.heap news) (hIL : L ≠ I) (hI₀ : h₀.get? I = none) (off : ∀ p ∈ news, p.1 ≠ I) (hrow : ∀ (i : Nat) (v : Value), rvs[i]? = some v → ∃ (b : Addr) (ws : List Value) (kb : Nat), v = .ref b ∧ wss[i]? = some ws ∧ (b, listOf ws.toArray kb) ∈ news) (hlen : wss.length = rvs.length) (hsz : ∀ (i j : Nat) (ws : List Value), wss[i]? = some ws → ((wss.take i).flatten ++ ws.take j).length ≤ sizeLine) (done : ∀ D C oC m₂ h tk, NsObj oC m₂ → Fr h₀ L h m → News h₀ L h ((C, oC) :: (D, lst wss.flatten) :: news) → (∀ p ∈ (D, lst wss.flatten) :: news, p.1 ≠ C) → (∀ p ∈ news, p.1 ≠ D) → RR (.ref D) C (.ok .next) { s with heap := h, toks := tk }), wpAny (model prog w) A (newList []) (fun acc s₃ => wpAny (model prog w) A (newFunctionEnv scope env.globals cl [] env.qual none .none (some env)) (fun cenv s₄ =>
   codeAny (model prog w) A (.compStart (.ListComp (.Name x2 pe) [⟨.Name x1 p1, i1, [], 0⟩, ⟨.Name x2 p2, .Name x1 p3, [], 0⟩] scope pos) 0 (.ref I) acc { cenv with scope := relabel scope env }) (RR acc cenv.locals) s₄) E s₃) E s
noncomputable def ae : ((((Program × World) × Around × Shared) × (Heap × Addr) × (Str → Option Value)) × ((Env × (Value → Shared → Prop)) × Str) × (Str × Pos) × Pos) × (((Pos × Pos) × Expr × Scope) × ((List (Prod Str Addr)) × Pos) × Addr) × ((Addr × (List Value)) × Nat) × ((List (List Value)) × (List (Prod Addr Obj))) × (Value → Addr → Result → Shared → Prop) := @Classical.epsilon _ (by have := neW; have := neA; have := neS; infer_instance) fun x => ¬ u26 dK x
theorem kD : u26 dK ae := by
 intro hh hcell hkind hx1 hx2 hd1 hd2 hit hR F N hIL hI₀ off hrow hlen hsz done
 have hIR : ((ae.2.1.2.2) : Nat) ≠ (ae.2.2.1.1.1) := Ne.symm (off _ hR)
 have W := Walks.list (prog := (ae.1.1.1.1.1)) (w := (ae.1.1.1.1.2)) hh (ae.2.1.2.2) (ae.2.2.1.1.1) (Ne.symm hIR) (ae.2.2.1.1.2).toArray
 have hst : (ae.1.1.1.2.2).heap.IsListIter (ae.2.1.2.2) (ae.2.2.1.1.1) 0 ∧ (ae.1.1.1.2.2).heap.IsList (ae.2.2.1.1.1) (ae.2.2.1.1.2).toArray := ⟨hit, News.isList N hR⟩
 have hIo : ∀ i (h : Heap), (h.IsListIter (ae.2.1.2.2) (ae.2.2.1.1.1) i ∧ h.IsList (ae.2.2.1.1.1) (ae.2.2.1.1.2).toArray) → ∃ o, h.get? (ae.2.1.2.2) = some o := fun i h st => by obtain ⟨o, e, _⟩ := st.1; exact ⟨o, e⟩
 have hfp : ∀ b ∈ [(ae.2.1.2.2), (ae.2.2.1.1.1)], b = (ae.2.1.2.2) ∨ ∃ o, (b, o) ∈ [((ae.2.2.1.1.1), listOf (ae.2.2.1.1.2).toArray (ae.2.2.1.2))] := fun b hb => by
  rcases List.mem_cons.mp hb with rfl | hb
  ·exact .inl rfl
  ·rw [List.mem_singleton.mp hb]; exact .inr ⟨_, .head _⟩
 refine wpAny_newObj_type (wpAny_newFunctionEnv hcell (by intro y hy; simp at hy) (fun h₁ hns₁ hsb₁ => ?_) hkind)
 dsimp only at hns₁ hsb₁ ⊢
 generalize hH2 : (ae.1.1.1.2.2).heap.push { cls := .type "list", dict := none, data := .seq ([] : List Value).toArray } = H2 at hns₁ hsb₁ ⊢
 have hC : H2.objs.size = (ae.1.1.1.2.2).heap.objs.size + 1 := by rw [← hH2, Heap.size_push]
 have hDC : (ae.1.1.1.2.2).heap.objs.size ≠ H2.objs.size := by rw [hC]; exact Nat.ne_of_lt (Nat.lt_succ_self _)
 have below : ∀ b, b < (ae.1.1.1.2.2).heap.objs.size → b ≠ H2.objs.size ∧ b ≠ (ae.1.1.1.2.2).heap.objs.size := fun b hb => ⟨by rw [hC]; exact Nat.ne_of_lt (Nat.lt_succ_of_lt hb), Nat.ne_of_lt hb⟩
 have hIlt : (ae.2.1.2.2) < (ae.1.1.1.2.2).heap.objs.size := by obtain ⟨o, e⟩ := hIo _ _ hst; exact Heap.lt_size e
 have old : ∀ b o, (ae.1.1.1.2.2).heap.get? b = some o → h₁.get? b = some o := fun b o e => hsb₁.extBut b o (below b (Heap.lt_size e)).1 (Heap.get?_push_of_some _ (hH2 ▸ Heap.get?_push_of_some _ e))
 have hacc : h₁.get? (ae.1.1.1.2.2).heap.objs.size = some (lst []) := hsb₁.extBut _ _ hDC (Heap.get?_push_of_some _ (hH2 ▸ Heap.get?_push_size _ rfl))
 have hst₁ : h₁.IsListIter (ae.2.1.2.2) (ae.2.2.1.1.1) 0 ∧ h₁.IsList (ae.2.2.1.1.1) (ae.2.2.1.1.2).toArray := W.frame _ _ _ hst fun b _ o e => old b o e
 have fresh : ∀ a, (ae.1.1.1.2.2).heap.objs.size ≤ a → (ae.1.1.1.2.2).heap.get? a = none := fun a ha => by
  cases e : (ae.1.1.1.2.2).heap.get? a with
  | none => rfl
  | some o' => exact absurd (Heap.lt_size e) (Nat.not_lt.mpr ha)
 have fresh₀ : ∀ a, (ae.1.1.1.2.2).heap.objs.size ≤ a → (ae.1.1.2.1.1).get? a = none := fun a ha => by
  cases e : (ae.1.1.2.1.1).get? a with
  | none => rfl
  | some o' => have := F.keep a o' e; rw [fresh a ha] at this; cases this
 have hD₀ : (ae.1.1.2.1.1).get? (ae.1.1.1.2.2).heap.objs.size = none := fresh₀ _ (Nat.le_refl _)
 have hC₀ : (ae.1.1.2.1.1).get? H2.objs.size = none := fresh₀ _ (by rw [hC]; exact Nat.le_succ _)
 have hLlt : (ae.1.1.2.1.2) < (ae.1.1.1.2.2).heap.objs.size := F.ns.lt
 have hDL : (ae.1.1.1.2.2).heap.objs.size ≠ (ae.1.1.2.1.2) := Ne.symm (below (ae.1.1.2.1.2) hLlt).2
 have hCL : H2.objs.size ≠ (ae.1.1.2.1.2) := Ne.symm (below (ae.1.1.2.1.2) hLlt).1
 have hCI : (ae.2.1.2.2) ≠ H2.objs.size := (below (ae.2.1.2.2) hIlt).1
 have hDI : (ae.2.1.2.2) ≠ (ae.1.1.1.2.2).heap.objs.size := (below (ae.2.1.2.2) hIlt).2
 have ltN : ∀ p ∈ (ae.2.2.2.1.2), p.1 < (ae.1.1.1.2.2).heap.objs.size := fun p hp => Heap.lt_size (N p hp).1
 generalize hDd : (ae.1.1.1.2.2).heap.objs.size = D at *
 generalize hCd : H2.objs.size = C at *
 have offD : ∀ p ∈ (ae.2.2.2.1.2), p.1 ≠ D ∧ p.1 ≠ C := fun p hp => ⟨Nat.ne_of_lt (ltN p hp), (below _ (ltN p hp)).1⟩
 have loop : ∀ s₃ : Shared, s₃ = { (ae.1.1.1.2.2) with heap := h₁, toks := (ae.1.1.1.2.2).toks + ([] : List (Str × Value)).length } →
   codeAny (model (ae.1.1.1.1.1) (ae.1.1.1.1.2)) (ae.1.1.1.2.1) (.compLoop (.ListComp (.Name (ae.1.2.2.1.1) (ae.2.1.1.1.2)) [⟨.Name (ae.1.2.1.2) (ae.1.2.2.1.2), (ae.2.1.1.2.1), [], 0⟩, ⟨.Name (ae.1.2.2.1.1) (ae.1.2.2.2), .Name (ae.1.2.1.2) (ae.2.1.1.1.1), [], 0⟩] (ae.2.1.1.2.2) (ae.2.1.2.1.2)) 0 (.ref (ae.2.1.2.2)) (.ref D) (compEnvC (ae.2.1.1.2.2) (ae.2.1.2.1.1) C (ae.1.2.1.1.1)))
    ((ae.2.2.2.2) (.ref D) C) s₃ := by
  rintro s₃ rfl
  refine loopJ (h₀ := (ae.1.1.2.1.1)) (L := (ae.1.1.2.1.2)) (m := (ae.1.1.2.2)) (C := C) (src := [((ae.2.2.1.1.1), listOf (ae.2.2.1.1.2).toArray (ae.2.2.1.2))]) (news := (D, lst []) :: (ae.2.2.2.1.2)) rfl rfl rfl (turn_2a _ _ _ _ _ _ _ _ _ _) W hIo hfp (fun _ _ _ _ _ _ h => wpAny_pure h)
   (fun i nx => nx = (D, lst ((ae.2.2.2.1.1).take i).flatten) :: (ae.2.2.2.1.2)) ?_ hIL hI₀ hCL hC₀ hCI hst₁ (F.keeps old) ?_ ?_ hns₁ (by simp) ?_ ?_
  ·rintro i nx rfl p hp
   rw [List.mem_singleton.mp hp]
   exact .tail _ hR
  ·intro p hp
   rcases List.mem_cons.mp hp with rfl | hp
   ·exact ⟨hacc, hDL, hD₀⟩
   ·exact ⟨old _ _ (N p hp).1, (N p hp).2⟩
  ·intro p hp
   rcases List.mem_cons.mp hp with rfl | hp
   ·exact ⟨Ne.symm hDI, hDC⟩
   ·exact ⟨off p hp, (offD p hp).2⟩
  ·rintro i v nx oI oC m₃ h tk E' hi hP rfl hoC F' N' off'
   refine gO (hrow i v (by simpa using hP)) ?_; intro b ws kb xq0d; subst xq0d; intro hws hb
   have hdL := N' _ (.tail _ (.head _))
   refine wpAny_assign_Name (wpAny_storeName_local (lookup_relabel_local hx1) (hoC.ns hdL.1) (fun h₃ hn₃ hs₃ => ?_) (by simp [compEnvC, relabel, hkind]))
   refine aJ (ns_obj hn₃) ?_; intro oC' heC hoC'
   have F3 : Fr (ae.1.1.2.1.1) (ae.1.1.2.1.2) h₃ (ae.1.1.2.2) := F'.change hs₃ hCL hC₀
   have N3 : News (ae.1.1.2.1.1) (ae.1.1.2.1.2) h₃ (((ae.2.1.2.2), oI) :: (C, oC') :: (D, lst ((ae.2.2.2.1.1).take i).flatten) :: (ae.2.2.2.1.2)) := fun p hp => by
    rcases List.mem_cons.mp hp with rfl | hp
    ·exact ⟨hs₃.extBut _ _ hCI (N' _ (.head _)).1, (N' _ (.head _)).2⟩
    ·rcases List.mem_cons.mp hp with rfl | hp
     ·exact ⟨heC, hCL, hC₀⟩
     ·have z := N' p (.tail _ (.tail _ hp))
      exact ⟨hs₃.extBut _ _ (off' p hp).2 z.1, z.2⟩
   refine wpAny_tests_nil ?_
   rw [if_pos rfl]
   refine wpAny_bind (wpAny_Name (wpAny_loadName_local (by simp [compEnvC, relabel, hkind]) (lookup_relabel_local hx1) (hoC'.ns (N3 _ (.tail _ (.head _))).1) (if_pos rfl) ?_) hd1)
   refine wpAny_bind (wpAny_standAt ?_)
   refine wpAny_bind (wpAny_pure ?_)
   have hbm : (b, listOf ws.toArray kb) ∈ ((ae.2.1.2.2), oI) :: (C, oC') :: (D, lst ((ae.2.2.2.1.1).take i).flatten) :: (ae.2.2.2.1.2) := .tail _ (.tail _ (.tail _ hb))
   refine wpAny_bind (wpAny_holding (wpAny_pyIter_list (News.isList N3 hbm) ?_))
   refine wpAny_bind (wpAny_runOwn ?_)
   obtain ⟨m₄, hm₄⟩ : ∃ m₄, NsObj oC' m₄ := ⟨_, hoC'⟩
   have hit2 : (h₃.push { cls := .type "list_iterator", data := .fields #[.ref b, .int 0 0] }).IsListIter h₃.objs.size b 0 := ⟨_, Heap.get?_push_size _ rfl, rfl, rfl⟩
   generalize hoI2 : ({ cls := .type "list_iterator", data := .fields #[.ref b, .int 0 0] } : Obj) = oI2 at hit2 ⊢
   generalize hI2 : h₃.objs.size = I2 at hit2 ⊢
   have ltN3 : ∀ p ∈ ((ae.2.1.2.2), oI) :: (C, oC') :: (D, lst ((ae.2.2.2.1.1).take i).flatten) :: (ae.2.2.2.1.2), p.1 ≠ I2 := fun p hp => by rw [← hI2]; exact Nat.ne_of_lt (Heap.lt_size (N3 p hp).1)
   have up3 : ∀ b o, h₃.get? b = some o → (h₃.push oI2).get? b = some o := fun b o e => Heap.get?_push_of_some _ e
   have F4 : Fr (ae.1.1.2.1.1) (ae.1.1.2.1.2) (h₃.push oI2) (ae.1.1.2.2) := F3.keeps up3
   have N4 : News (ae.1.1.2.1.1) (ae.1.1.2.1.2) (h₃.push oI2) (((ae.2.1.2.2), oI) :: (C, oC') :: (D, lst ((ae.2.2.2.1.1).take i).flatten) :: (ae.2.2.2.1.2)) := N3.grown up3
   have hI2L : (ae.1.1.2.1.2) ≠ I2 := by rw [← hI2]; exact Nat.ne_of_lt F3.ns.lt
   have hI20 : (ae.1.1.2.1.1).get? I2 = none := by rw [← hI2]; exact next_is_new F3
   have hCI2 : I2 ≠ C := Ne.symm (ltN3 _ (.tail _ (.head _)))
   have hDI2 : I2 ≠ D := Ne.symm (ltN3 _ (.tail _ (.tail _ (.head _))))
   have hII2 : I2 ≠ (ae.2.1.2.2) := Ne.symm (ltN3 _ (.head _))
   have hbI2 : b ≠ I2 := ltN3 _ hbm
   have hbn : b ≠ (ae.2.1.2.2) ∧ b ≠ C ∧ b ≠ D := ⟨off _ hb, (offD _ hb).2, (offD _ hb).1⟩
   clear N3 F3 hs₃ hn₃ heC
   have W2 := Walks.list (prog := (ae.1.1.1.1.1)) (w := (ae.1.1.1.1.2)) hh I2 b hbI2 ws.toArray
   have hst2 : (h₃.push oI2).IsListIter I2 b 0 ∧ (h₃.push oI2).IsList b ws.toArray := ⟨hit2, News.isList N4 hbm⟩
   have inner : ∀ (R2 : Result → Shared → Prop) (tk5 : Nat) (s₅ : Shared), s₅ = { (ae.1.1.1.2.2) with heap := h₃.push oI2, toks := tk5 } → (∀ h₆ tk₆ oC₆ m₆, NsObj oC₆ m₆ → Fr (ae.1.1.2.1.1) (ae.1.1.2.1.2) h₆ (ae.1.1.2.2) → News (ae.1.1.2.1.1) (ae.1.1.2.1.2) h₆ (((ae.2.1.2.2), oI) :: (C, oC₆) :: (D, lst ((ae.2.2.2.1.1).take (i + 1)).flatten) :: (ae.2.2.2.1.2)) → R2 (.ok .next) { (ae.1.1.1.2.2) with heap := h₆, toks := tk₆ }) →
     codeAny (model (ae.1.1.1.1.1) (ae.1.1.1.1.2)) (ae.1.1.1.2.1) (.compLoop (.ListComp (.Name (ae.1.2.2.1.1) (ae.2.1.1.1.2)) [⟨.Name (ae.1.2.1.2) (ae.1.2.2.1.2), (ae.2.1.1.2.1), [], 0⟩, ⟨.Name (ae.1.2.2.1.1) (ae.1.2.2.2), .Name (ae.1.2.1.2) (ae.2.1.1.1.1), [], 0⟩] (ae.2.1.1.2.2) (ae.2.1.2.1.2)) 1 (.ref I2) (.ref D) (compEnvC (ae.2.1.1.2.2) (ae.2.1.2.1.1) C (ae.1.2.1.1.1))) R2 s₅ := by
    rintro R2 tk9 s₅ rfl hend
    refine loopJ (h₀ := (ae.1.1.2.1.1)) (L := (ae.1.1.2.1.2)) (m := (ae.1.1.2.2)) (C := C) (src := [(b, listOf ws.toArray kb)]) (news := ((ae.2.1.2.2), oI) :: (D, lst ((ae.2.2.2.1.1).take i).flatten) :: (ae.2.2.2.1.2)) rfl rfl rfl (turn_2b _ _ _ _ _ _ _ _ _ _) W2 (fun i h st => by obtain ⟨o, e, _⟩ := st.1; exact ⟨o, e⟩) (fun b' hb' => by
     rcases List.mem_cons.mp hb' with rfl | hb'
     ·exact .inl rfl
     ·rw [List.mem_singleton.mp hb']; exact .inr ⟨_, .head _⟩) (fun _ _ _ _ _ _ h => wpAny_pure h)
     (fun j nx => nx = ((ae.2.1.2.2), oI) :: (D, lst (((ae.2.2.2.1.1).take i).flatten ++ ws.take j)) :: (ae.2.2.2.1.2)) ?_ hI2L hI20 hCL hC₀ hCI2 hst2 F4 ?_ ?_ (hoC'.ns (N4 _ (.tail _ (.head _))).1) (by simp) ?_ ?_
    ·rintro j nx rfl p hp
     rw [List.mem_singleton.mp hp]
     exact .tail _ (.tail _ hb)
    ·intro p hp
     rcases List.mem_cons.mp hp with rfl | hp
     ·exact N4 _ (.head _)
     ·exact N4 _ (.tail _ (.tail _ hp))
    ·intro p hp
     rcases List.mem_cons.mp hp with rfl | hp
     ·exact ⟨Ne.symm hII2, hCI⟩
     ·rcases List.mem_cons.mp hp with rfl | hp
      ·exact ⟨Ne.symm hDI2, hDC⟩
      ·exact ⟨ltN3 _ (.tail _ (.tail _ (.tail _ hp))), (offD p hp).2⟩
    ·rintro j v nx oJ oC5 m5 h5 tk5 E5 hj hPj rfl hoC5 F5 N5 off5
     have hPj' : ws[j]? = some v := by simpa using hPj
     refine wpAny_assign_Name (wpAny_storeName_local (lookup_relabel_local hx2) (hoC5.ns (N5 _ (.tail _ (.head _))).1) (fun h₆ hn₆ hs₆ => ?_) (by simp [compEnvC, relabel, hkind]))
     refine aJ (ns_obj hn₆) ?_; intro oC6 heC6 hoC6
     have F6 : Fr (ae.1.1.2.1.1) (ae.1.1.2.1.2) h₆ (ae.1.1.2.2) := F5.change hs₆ hCL hC₀
     have N6 : News (ae.1.1.2.1.1) (ae.1.1.2.1.2) h₆ ((I2, oJ) :: (C, oC6) :: ((ae.2.1.2.2), oI) :: (D, lst (((ae.2.2.2.1.1).take i).flatten ++ ws.take j)) :: (ae.2.2.2.1.2)) := fun p hp => by
      rcases List.mem_cons.mp hp with rfl | hp
      ·exact ⟨hs₆.extBut _ _ hCI2 (N5 _ (.head _)).1, (N5 _ (.head _)).2⟩
      ·rcases List.mem_cons.mp hp with rfl | hp
       ·exact ⟨heC6, hCL, hC₀⟩
       ·have z := N5 p (.tail _ (.tail _ hp))
        exact ⟨hs₆.extBut _ _ (off5 p hp).2 z.1, z.2⟩
     refine wpAny_tests_nil ?_
     rw [if_pos rfl]
     refine wpAny_bind (wpAny_Name (wpAny_loadName_local (by simp [compEnvC, relabel, hkind]) (lookup_relabel_local hx2) (hoC6.ns heC6) (if_pos rfl) ?_) hd2)
     have zD := (N6 _ (.tail _ (.tail _ (.tail _ (.head _))))).1
     refine wpAny_bind (append_at (hsz := by show (((ae.2.2.2.1.1).take i).flatten ++ ws.take j).toArray.size ≤ sizeLine; rw [List.size_toArray]; exact hsz i j ws hws) zD fun h₇ hs₇ hD₇ => wpAny_pure ?_)
     refine ⟨h₇, _, ((ae.2.1.2.2), oI) :: (D, lst (((ae.2.2.2.1.1).take i).flatten ++ ws.take (j + 1))) :: (ae.2.2.2.1.2), oC6, _, rfl, hoC6, F6.change hs₇ hDL hD₀, ?_, ?_, rfl⟩
     ·have e : ((ae.2.2.2.1.1).take i).flatten ++ ws.take (j + 1) = (((ae.2.2.2.1.1).take i).flatten ++ ws.take j) ++ [v] := by rw [List.take_add_one, hPj', List.append_assoc]; rfl
      rw [e]
      intro p hp
      rcases List.mem_cons.mp hp with rfl | hp
      ·exact ⟨hs₇.extBut _ _ hDI2 (N6 _ (.head _)).1, (N6 _ (.head _)).2⟩
      ·rcases List.mem_cons.mp hp with rfl | hp
       ·exact ⟨hs₇.extBut _ _ (Ne.symm hDC) (N6 _ (.tail _ (.head _))).1, (N6 _ (.tail _ (.head _))).2⟩
       ·rcases List.mem_cons.mp hp with rfl | hp
        ·exact ⟨hs₇.extBut _ _ hDI (N6 _ (.tail _ (.tail _ (.head _)))).1, (N6 _ (.tail _ (.tail _ (.head _)))).2⟩
        ·rcases List.mem_cons.mp hp with rfl | hp
         ·exact ⟨hD₇.trans (congrArg some (lst_snoc _ v)), hDL, hD₀⟩
         ·have z := N6 p (.tail _ (.tail _ (.tail _ (.tail _ hp))))
          exact ⟨hs₇.extBut _ _ (offD p hp).1 z.1, z.2⟩
     ·intro p hp
      rcases List.mem_cons.mp hp with rfl | hp
      ·exact ⟨Ne.symm hII2, hCI⟩
      ·rcases List.mem_cons.mp hp with rfl | hp
       ·exact ⟨Ne.symm hDI2, hDC⟩
       ·exact ⟨ltN3 _ (.tail _ (.tail _ (.tail _ hp))), (offD p hp).2⟩
    ·rintro nx oC5 m5 h5 tk5 rfl hoC5 F5 N5 off5
     refine hend h5 tk5 oC5 m5 hoC5 F5 ?_
     have e : ((ae.2.2.2.1.1).take (i + 1)).flatten = ((ae.2.2.2.1.1).take i).flatten ++ ws.take ws.toArray.size := by
      rw [List.size_toArray, List.take_length, List.take_add_one, hws, List.flatten_append]; simp
     rw [e]
     intro p hp
     rcases List.mem_cons.mp hp with rfl | hp
     ·exact N5 _ (.tail _ (.head _))
     ·rcases List.mem_cons.mp hp with rfl | hp
      ·exact N5 _ (.head _)
      ·exact N5 _ (.tail _ (.tail _ hp))
   have fin : ∀ (R2 : Result → Shared → Prop) (tk5 : Nat), (∀ h₆ tk₆ oC₆ m₆, NsObj oC₆ m₆ → Fr (ae.1.1.2.1.1) (ae.1.1.2.1.2) h₆ (ae.1.1.2.2) → News (ae.1.1.2.1.1) (ae.1.1.2.1.2) h₆ (((ae.2.1.2.2), oI) :: (C, oC₆) :: (D, lst ((ae.2.2.2.1.1).take (i + 1)).flatten) :: (ae.2.2.2.1.2)) → R2 (.ok .next) { (ae.1.1.1.2.2) with heap := h₆, toks := tk₆ }) →
     codeAny (model (ae.1.1.1.1.1) (ae.1.1.1.1.2)) (ae.1.1.1.2.1) (.compStart (.ListComp (.Name (ae.1.2.2.1.1) (ae.2.1.1.1.2)) [⟨.Name (ae.1.2.1.2) (ae.1.2.2.1.2), (ae.2.1.1.2.1), [], 0⟩, ⟨.Name (ae.1.2.2.1.1) (ae.1.2.2.2), .Name (ae.1.2.1.2) (ae.2.1.1.1.1), [], 0⟩] (ae.2.1.1.2.2) (ae.2.1.2.1.2)) 1 (.ref I2) (.ref D) (compEnvC (ae.2.1.1.2.2) (ae.2.1.2.1.1) C (ae.1.2.1.1.1))) R2 { (ae.1.1.1.2.2) with heap := h₃.push oI2, toks := tk5 } := fun R2 tk5 hR2 =>
    ch (inner R2 tk5 _ rfl hR2) (W2.self 0 _ _ _ hst2 (inner R2 tk5 _ rfl hR2))
   rw [Around.mark_none]
   refine fin _ _ fun h₆ tk₆ oC₆ m₆ hoC₆ F₆ N₆ => ?_
   exact wpAny_pure ⟨h₆, tk₆, (D, lst ((ae.2.2.2.1.1).take (i + 1)).flatten) :: (ae.2.2.2.1.2), oC₆, m₆, rfl, hoC₆, F₆, N₆, fun p hp => by
    rcases List.mem_cons.mp hp with rfl | hp
    ·exact ⟨Ne.symm hDI, hDC⟩
    ·exact ⟨off p hp, (offD p hp).2⟩, rfl⟩
  ·rintro nx oC m₃ h tk rfl hoC F' N' off'
   have e : (ae.2.2.2.1.1).take (ae.2.2.1.1.2).toArray.size = (ae.2.2.2.1.1) := by rw [List.size_toArray, ← hlen, List.take_length]
   rw [e] at N' off'
   exact done D C oC m₃ h tk hoC F' N' (fun p hp => (off' p hp).2) fun p hp => (offD p hp).1
 exact codeAny_compStart_list (loop _ rfl) (W.self 0 _ _ _ hst₁ (loop _ rfl))
theorem lcBlock2 {x1 x2 : Str} {p1 p2 p3 pe : Pos} {i1 : Expr} {scope : Scope} {cl : List (Str × Addr)} {pos : Pos} {I R : Addr} {rvs : List Value} {kR : Nat} {wss : List (List Value)} {news : List (Addr × Obj)} {RR : Value → Addr → Result → Shared → Prop}
  (hh : A.handled = none) (hcell : ∀ y ∈ scope.names, y.2 ≠ .cell) (hkind : scope.kind = .function) (hx1 : scope.names.lookup x1 = some .local) (hx2 : scope.names.lookup x2 = some .local) (hd1 : (x1 == ("__debug__" : Str)) = false) (hd2 : (x2 == ("__debug__" : Str)) = false)
  (hit : s.heap.IsListIter I R 0) (hR : (R, listOf rvs.toArray kR) ∈ news)
  (F : Fr h₀ L s.heap m) (N : News h₀ L s.heap news) (hIL : L ≠ I) (hI₀ : h₀.get? I = none) (off : ∀ p ∈ news, p.1 ≠ I)
  (hrow : ∀ (i : Nat) (v : Value), rvs[i]? = some v → ∃ (b : Addr) (ws : List Value) (kb : Nat), v = .ref b ∧ wss[i]? = some ws ∧ (b, listOf ws.toArray kb) ∈ news) (hlen : wss.length = rvs.length)
  (hsz : ∀ (i j : Nat) (ws : List Value), wss[i]? = some ws → ((wss.take i).flatten ++ ws.take j).length ≤ sizeLine)
  (done : ∀ D C oC m₂ h tk, NsObj oC m₂ → Fr h₀ L h m → News h₀ L h ((C, oC) :: (D, lst wss.flatten) :: news) → (∀ p ∈ (D, lst wss.flatten) :: news, p.1 ≠ C) → (∀ p ∈ news, p.1 ≠ D) → RR (.ref D) C (.ok .next) { s with heap := h, toks := tk }) :
  wpAny (model prog w) A (newList []) (fun acc s₃ => wpAny (model prog w) A (newFunctionEnv scope env.globals cl [] env.qual none .none (some env)) (fun cenv s₄ =>
   codeAny (model prog w) A (.compStart (.ListComp (.Name x2 pe) [⟨.Name x1 p1, i1, [], 0⟩, ⟨.Name x2 p2, .Name x1 p3, [], 0⟩] scope pos) 0 (.ref I) acc { cenv with scope := relabel scope env }) (RR acc cenv.locals) s₄) E s₃) E s := @aO _ _ (u26 dK) kD (((((prog, w), (A, s)), ((h₀, L), m)), (((env, E), x1), ((x2, p1), p2))), ((((p3, pe), (i1, scope)), ((cl, pos), I)), (((R, rvs), kR), ((wss, news), RR)))) hh hcell hkind hx1 hx2 hd1 hd2 hit hR F N hIL hI₀ off hrow hlen hsz done
theorem mM {elt t1 i1 t2 i2 : Expr} {scope : Scope} {cl : List (Str × Addr)} {pos : Pos} {Q : Value → Shared → Prop}
  (hclos : closureFor scope env = pure cl) (hkind : scope.kind = .function) (hnames : ∀ y ∈ scope.names, y.2 = .local → scope.names.lookup y.1 = some .local)
  (h : wpAny (model prog w) A (eval i1 env) (fun xv s₁ => wpAny (model prog w) A (pyIter xv) (LcB prog w A E env (.ListComp elt [⟨t1, i1, [], 0⟩, ⟨t2, i2, [], 0⟩] scope pos) scope cl (compPost (model prog w) A E none Q)) E s₁) E s)
  (hs : ∀ x, foldedSetIterable i1 env x = pure x := by intro _; rfl) :
  wpAny (model prog w) A (eval (.ListComp elt [⟨t1, i1, [], 0⟩, ⟨t2, i2, [], 0⟩] scope pos) env) Q E s := by
 rw [eval_ListComp]
 exact wpAny_comprehension_free (use := none) rfl hs hclos hkind hnames h
theorem LC2_val {x1 x2 : Str} {p1 p2 p3 pe : Pos} {i1 : Expr} {scope : Scope} {cl : List (Str × Addr)} {pos : Pos} {R : Addr} {rvs : List Value} {kR : Nat} {wss : List (List Value)} {news : List (Addr × Obj)} {Q : Value → Shared → Prop}
  (hh : A.handled = none) (hcell : ∀ y ∈ scope.names, y.2 ≠ .cell) (hkind : scope.kind = .function) (hx1 : scope.names.lookup x1 = some .local) (hx2 : scope.names.lookup x2 = some .local) (hd1 : (x1 == ("__debug__" : Str)) = false) (hd2 : (x2 == ("__debug__" : Str)) = false)
  (F : Fr h₀ L s₁.heap m) (N : News h₀ L s₁.heap news) (hR : (R, listOf rvs.toArray kR) ∈ news)
  (hrow : ∀ (i : Nat) (v : Value), rvs[i]? = some v → ∃ (b : Addr) (ws : List Value) (kb : Nat), v = .ref b ∧ wss[i]? = some ws ∧ (b, listOf ws.toArray kb) ∈ news) (hlen : wss.length = rvs.length)
  (hsz : ∀ (i j : Nat) (ws : List Value), wss[i]? = some ws → ((wss.take i).flatten ++ ws.take j).length ≤ sizeLine)
  (done : ∀ D h tk, Fr h₀ L h m → News h₀ L h ((D, lst wss.flatten) :: news) → (∀ p ∈ news, p.1 ≠ D) → Q (.ref D) { s₁ with heap := h, toks := tk }) :
  wpAny (model prog w) A (pyIter (.ref R)) (LcB prog w A E env (.ListComp (.Name x2 pe) [⟨.Name x1 p1, i1, [], 0⟩, ⟨.Name x2 p2, .Name x1 p3, [], 0⟩] scope pos) scope cl (compPost (model prog w) A E none Q)) E s₁ := by
 refine wpAny_pyIter_list (News.isList N hR) ?_
 have up : ∀ b o, s₁.heap.get? b = some o → (s₁.heap.push { cls := .type "list_iterator", data := .fields #[.ref R, .int 0 0] }).get? b = some o := fun b o e => Heap.get?_push_of_some _ e
 refine lcBlock2 hh hcell hkind hx1 hx2 hd1 hd2 ⟨_, Heap.get?_push_size _ rfl, rfl, rfl⟩ hR (F.keeps up) (N.grown up) (Nat.ne_of_lt F.ns.lt) (next_is_new F) (fun p hp => Nat.ne_of_lt (Heap.lt_size (N p hp).1)) hrow hlen hsz ?_
 intro D C oC m₂ h tk hoC F' N' o1 o2
 have hc := N' _ (.head _)
 refine ⟨m₂, hoC.ns hc.1, fun h'' hs'' => done D h'' tk (F'.change hs'' hc.2.1 hc.2.2) (fun p hp => ?_) o2⟩
 exact ⟨hs''.extBut _ _ (o1 p hp) (N' p (.tail _ hp)).1, (N' p (.tail _ hp)).2⟩
theorem mH {x : Str} {px pos : Pos} {value : Expr} {Q : Flow → Shared → Prop} (hs : swapsWith value (some (.Name x px)) pos.line env = pure false)
  (h : wpAny (model prog w) A (eval value env) (fun v s₁ => wpAny (model prog w) A (assign (.Name x px) env v) (fun _ s₂ => Q .next s₂) E s₁) E s) :
  wpAny (model prog w) A (exec (.Assign [.Name x px] value pos) env) Q E s := by
 rw [exec_Assign_Name _ _ _ _ _ hs]
 refine wpAny_bind (wpAny_standAt (wpAny_bind (wpAny_mono h (fun v s₁ h₁ => ?_) fun _ _ e => e)))
 have e : (do standAt px; bindName env x v; pure Flow.next) = (do assign (.Name x px) env v; pure Flow.next) := by rw [PySem.assign_Name, bind_assoc]
 rw [e]
 exact wpAny_bind (wpAny_mono h₁ (fun _ _ q => wpAny_pure q) fun _ _ e => e)
end
end
section
open PySem PySem.W PyProof.Rows PySem.Calls PySem.Spec
theorem iq {l : List Nat} (hd : l.Nodup) {u s : Nat} (hu : u ∈ l) (h : ∀ a b, l = a ++ u :: b → s ∈ a) : s ∈ l ∧ l.idxOf s < l.idxOf u := by
 induction l with
 | nil => exact nomatch hu
 | cons x l ih =>
  rw [List.nodup_cons] at hd
  rcases List.mem_cons.mp hu with rfl | hu'
  ·exact nomatch (h [] l rfl)
  ·have hxu : x ≠ u := fun e => hd.1 (e ▸ hu')
   by_cases hs : x = s
   ·subst hs
    refine ⟨.head _, ?_⟩
    have e : (x == u) = false := beq_false_of_ne hxu
    rw [List.idxOf_cons, List.idxOf_cons, e, beq_self_eq_true]
    exact Nat.succ_pos _
   ·have := ih hd.2 hu' fun a b e => by
     rcases List.mem_cons.mp (h (x :: a) b (by rw [e]; rfl)) with q | q
     ·exact absurd q.symm hs
     ·exact q
    refine ⟨.tail _ this.1, ?_⟩
    have e : (x == u) = false := beq_false_of_ne hxu
    have e2 : (x == s) = false := beq_false_of_ne hs
    rw [List.idxOf_cons, List.idxOf_cons, e, e2]
    exact Nat.succ_lt_succ this.2
theorem ring_eq {G : Gr} {es : List Edge} {ring : Bool} (h : cP G ring) (hsu : G.su = suOf es) (hn : ∀ v, v ∈ G.nodes ↔ v < 5) (hes : ∀ e ∈ es, e.1 < 5 ∧ e.2 < 5) : ring = true ↔ ∃ v, v < 5 ∧ 5 ≤ aN es 5 v := by
 rcases h with ⟨hr, C, hC, hCn, hCd⟩ | ⟨hr, fin, hS, hall⟩
 ·refine ⟨fun _ => ?_, fun _ => hr⟩
  refine bX (List.exists_cons_of_ne_nil hC) ?_; intro v l xq0c; subst xq0c
  refine ⟨v, (hn v).mp (hCn v (.head _)), ?_⟩
  refine eK (C := fun c => c ∈ v :: l) (fun s hs => ?_) 5 v (.head _)
  refine aJ (hCd s hs) ?_; intro d hd hsd
  rw [hsu] at hsd
  exact ⟨d, mem_suOf.mp hsd, hd⟩
 ·refine ⟨fun e => absurd (hr.symm.trans e) Bool.false_ne_true, ?_⟩
  rintro ⟨v, hv, h5⟩
  exfalso
  have hnd : fin.Nodup := by have := hS.nd; rwa [List.append_nil] at this
  have hlen : fin.length ≤ 5 := aV 5 _ hnd fun v hv => (hn v).mp (hS.sub v (by rw [List.append_nil]; exact hv))
  have hin : ∀ v, v < 5 → v ∈ fin := fun v hv => hall v ((hn v).mpr hv)
  have up := dZ (es := es) (C := fun v => v < 5) (r := fun v => fin.length - 1 - fin.idxOf v) (fun s u he hs => by
   have hu := (hes _ he).2
   have hi := iq hnd (hin u hu) (s := s) fun a b e => hS.topo a u b e s (by rw [hsu]; exact mem_suOf.mpr he)
   have h1 := List.idxOf_lt_length_of_mem (hin u hu)
   refine ⟨hu, ?_⟩
   omega (config := {})) 5 v hv
  omega (config := {})
theorem ends_eq {G : Gr} {es : List Edge} {ring b : Bool} {Rs : List (List Nat)} {np : Nat → Int} (H : RInv es G.nodes Rs) (K : KInv es G.nodes Rs.flatten np []) (h : cP G ring) (hsu : G.su = suOf es) (hn : ∀ v, v ∈ G.nodes ↔ v < 5) (hes : ∀ e ∈ es, e.1 < 5 ∧ e.2 < 5) (hb : b = true ↔ ∃ v, v < 5 ∧ 5 ≤ aN es 5 v) :
  toldD Rs ring = .tuple [.list ((((List.range 5).map (rnd es)).filter fun l => decide (l ≠ [])).map dF), .bool b] := by
 have e1 := lS H K (fun e he => ⟨(hn _).mpr (hes e he).1, (hn _).mpr (hes e he).2⟩) hn
 have e2 : ring = b := by
  have := (ring_eq h hsu hn hes).trans hb.symm
  cases ring <;> cases b <;> simp_all
 have e3 : ((List.range 5).map (rnd es)).filter (fun l => decide (l ≠ [])) = Rs.map fun R => ord5.filter fun v => decide (v ∈ R) := e1
 rw [e3, e2]
 unfold toldD dF
 rw [List.map_map]
 rfl
theorem told_kqd (Rs : List (List Nat)) : kqdOk 8 (.list (Rs.map fun R => .list ((ord5.filter fun v => decide (v ∈ R)).map fun v => .str (nm v)))) = true := by
 show ((Rs.map fun R => Dat.list ((ord5.filter fun v => decide (v ∈ R)).map fun v => .str (nm v)))).all (kqdOk 7) = true
 rw [List.all_eq_true]
 intro d hd
 refine aJ (List.mem_map.mp hd) ?_; intro R _ xq2c; subst xq2c
 show (((ord5.filter fun v => decide (v ∈ R)).map fun v => Dat.str (nm v))).all (kqdOk 6) = true
 rw [List.all_eq_true]
 intro e he
 refine aJ (List.mem_map.mp he) ?_; intro v hv xq3c; subst xq3c
 have hv5 : v < 5 := by
  have := (List.mem_filter.mp hv).1
  unfold ord5 at this; simp at this; omega (config := {})
 have key : ∀ v : Fin 5, kqdOk 6 (Dat.str (nm v.1)) = true := by decide +kernel
 exact key ⟨v, hv5⟩
section
variable {prog : Program} {w : World} {A : Around} {E : Value → Shared → Prop} {s : Shared} {h₀ : Heap} {L : Addr} {news n₁ n₂ : List (Addr × Obj)} {x y : Value} {ds : List Dat} {b : Bool} {Q : Value → Shared → Prop}
theorem eq_told {d : Dat} (N : News h₀ L s.heap news) (Dx : DatIn n₁ x (.tuple [d, .bool b])) (sx : ∀ p ∈ n₁, p ∈ news) (Dy : DatIn n₂ y (.tuple [d, .bool b])) (sy : ∀ p ∈ n₂, p ∈ news) (hd : kqdOk 8 d = true) (hu : A.units + 64 < cLine)
  (h : Q (.bool true) s) : wpAny (model prog w) A (compareOp .Eq x y) Q E s := by
 have go : ∀ {n : List (Addr × Obj)} {z : Value}, (∀ p ∈ n, p ∈ news) → DatIn n z (.tuple [d, .bool b]) → ∃ a as, z = .ref a ∧ Reads s.heap (.ref a) (.tuple [kqdP d, .bool b]) as := fun hn hz => by
  cases hz with
  | tuple hm hr =>
   cases hr with
   | cons h1 hr =>
    cases hr with
    | cons h2 hr =>
     cases hr
     cases h2
     refine aT (kqd_in N 8 (DatIn.mono hn h1) hd) ?_; intro as r1
     exact ⟨_, _, rfl, reads_tuple_at (N.get (hn _ hm)) rfl rfl (by simpa using ReadsAll.cons r1 (ReadsAll.cons (Reads.bool b) ReadsAll.nil))⟩
 refine bg (go sx Dx) ?_; intro a1 as xq5c; subst xq5c; intro r1
 refine bg (go sy Dy) ?_; intro a2 bs xq6c; subst xq6c; intro r2
 have l := kqd_lay 8 d hd
 have lt : (PyData.tuple [kqdP d, .bool b]).canLay0 = true := by
  simp [PyData.canLay0, PyData.canLayAll0, l.1]
 have dt : (PyData.tuple [kqdP d, .bool b]).depth ≤ 9 := by
  simp only [PyData.depth, PyData.depthAll]
  omega (config := {})
 have e : PyData.eqv (.tuple [kqdP d, .bool b]) (.tuple [kqdP d, .bool b]) = true := PySem.SeqAt.eqv_refl _ lt
 refine eq_dataH r1 r2 ?_ ?_ hu (by rw [e]; exact h)
 ·unfold SeqAt.shaped; rw [lt, Bool.true_and]; exact decide_eq_true (Nat.le_trans dt (by decide))
 ·unfold SeqAt.shaped; rw [lt, Bool.true_and]; exact decide_eq_true (Nat.le_trans dt (by decide))
end
theorem iH {sub : List (Addr × Obj)} : ∀ {rvs : List Value} {es : List Edge}, DatAll sub rvs (es.map edgeD) → ∃ wss : List (List Value), wss.length = rvs.length ∧
  (∀ (i : Nat) (v : Value), rvs[i]? = some v → ∃ (b : Addr) (ws : List Value) (kb : Nat), v = .ref b ∧ wss[i]? = some ws ∧ (b, listOf ws.toArray kb) ∈ sub) ∧ StrsAre wss.flatten ((fU es).map nm) ∧ ∀ ws ∈ wss, ws.length = 2
 | rvs, [], h => by
  cases h
  exact ⟨[], rfl, fun i v hv => by simp at hv, .nil, fun _ h => (nomatch h)⟩
 | rvs, e :: es, h => by
  rw [List.map_cons] at h
  cases h with
  | cons h1 h2 =>
   refine lw (iH h2) ?_; intro wss a1 a2 a3 a4
   unfold edgeD at h1
   cases h1 with
   | list hm hd =>
    cases hd with
    | cons b1 hd =>
     cases hd with
     | cons b2 hd =>
      cases hd
      cases b1
      cases b2
      rename_i t1 t2
      refine ⟨[.str (nm e.1) t1, .str (nm e.2) t2] :: wss, congrArg (· + 1) a1, fun i v hv => ?_, StrsAre.cons _ _ (StrsAre.cons _ _ a3), fun ws hw => ?_⟩
      ·cases i with
       | zero =>
        simp only [List.getElem?_cons_zero, Option.some.injEq] at hv
        exact ⟨_, _, _, hv.symm, rfl, hm⟩
       | succ i =>
        simp only [List.getElem?_cons_succ] at hv
        refine gO (a2 i v hv) ?_; intro b ws kb c1 c2 c3
        exact ⟨b, ws, kb, c1, by simpa using c2, c3⟩
      ·rcases List.mem_cons.mp hw with rfl | hw
       ·rfl
       ·exact a4 ws hw
theorem fS : ∀ {wss : List (List Value)}, (∀ ws ∈ wss, ws.length = 2) → wss.flatten.length = 2 * wss.length
 | [], _ => rfl
 | w :: l, h => by
  have := fS (wss := l) fun ws hw => h ws (.tail _ hw)
  rw [List.flatten_cons, List.length_append, this, h w (.head _), List.length_cons]
  omega
theorem mA {wss : List (List Value)} (h : ∀ ws ∈ wss, ws.length = 2) (i j : Nat) (ws : List Value) (hw : wss[i]? = some ws) : ((wss.take i).flatten ++ ws.take j).length ≤ 2 * wss.length + 2 := by
 have h1 := fS (wss := wss.take i) fun ws hw => h ws (List.mem_of_mem_take hw)
 have h2 := h ws (List.mem_of_getElem? hw)
 rw [List.length_append, h1, List.length_take, List.length_take, h2]
 omega
theorem lX (its : List Value) {k : Nat} (hk : k ≤ its.length) : kms_pick its.toArray.toList none (some (k : Int)) = its.take k := by
 unfold kms_pick kms_lo kms_hi
 simp only [List.drop_zero, Nat.sub_zero]
 rw [if_neg (by omega)]
 show its.take (min k its.length) = _
 rw [Nat.min_eq_left hk]
theorem lK {vs : List Value} {ys : List Str} (h : StrsAre vs ys) : ∀ k, StrsAre (vs.take k) (ys.take k) := by
 induction h with
 | nil => intro k; simpa using StrsAre.nil
 | cons y t h ih =>
  intro k
  cases k with
  | zero => exact .nil
  | succ k => exact .cons y t (ih k)
theorem kL {l : List Nat} {k v : Nat} (h : l[k]? = some v) (hn : v ∉ l.take k) : bu l (k + 1) = bu l k ++ [v] := by
 rw [bu, h]
 dsimp only
 rw [if_neg hn]
theorem mD {l : List Nat} {k v : Nat} (h : l[k]? = some v) (hn : v ∈ l.take k) : bu l (k + 1) = bu l k := by
 rw [bu, h]
 dsimp only
 rw [if_pos hn, List.append_nil]
theorem nm_memD {l : List Nat} (hl : ∀ v ∈ l, v < 5) {v : Nat} (hv : v < 5) : Dat.str (nm v) ∈ l.map (fun v => Dat.str (nm v)) ↔ v ∈ l := by
 constructor
 ·intro h
  refine aJ (List.mem_map.mp h) ?_; intro u hu e
  injection e with e
  rw [← fE (hl u hu) hv e]
  exact hu
 ·exact fun h => List.mem_map.mpr ⟨v, h, rfl⟩
theorem kr {xs : List Int} {G : Gr} (h : GrIs (aH xs) G) (v : Nat) : v ∈ G.nodes ↔ v < 5 := by
 rw [h.nodes]
 constructor
 ·rintro ⟨x, _, rfl | hv⟩
  ·exact cZ x
  ·exact fF x v hv
 ·exact jM xs
section
variable {prog : Program} {w : World} {A : Around} {E : Value → Shared → Prop} {s : Shared} {h₀ : Heap} {L a : Addr} {news n₁ n₂ : List (Addr × Obj)} {oa : Obj} {vs : List Value} {ka : Nat} {ds : List Dat} {x : Value} {d : Dat} {Q : Value → Shared → Prop}
theorem kI (N : News h₀ L s.heap news) (ma : (a, oa) ∈ news) (ca : oa.cls = .type "list") (da : oa.data = .seq vs.toArray ka) (Da : DatAll n₁ vs ds) (sa : ∀ p ∈ n₁, p ∈ news)
  (Dx : DatIn n₂ x d) (sx : ∀ p ∈ n₂, p ∈ news) (ha : ∀ d ∈ ds, kqdOk 8 d = true) (hd : kqdOk 8 d = true) (hu : A.units + 64 < cLine) (hy : d ∉ ds → Q (.bool true) s) (hn : d ∈ ds → Q (.bool false) s) : wpAny (model prog w) A (compareOp .NotIn x (.ref a)) Q E s := by
 refine kqd_notIn N ma ca da Da sa Dx sx ha hd hu ?_
 by_cases hq : d ∈ ds
 ·simp only [hq, decide_true, Bool.not_true]
  exact hn hq
 ·simp only [hq, decide_false, Bool.not_false]
  exact hy hq
end
end
section
open PySem PySem.W PyProof.Rows PySem.Calls PySem.Spec PyProof.Rows.LCg
local macro_rules | `(tactic| passes_own) => wa "mine passes_own"
local macro_rules | `(tactic| k_all) => wa "mine k_all"
local macro_rules | `(tactic| k_ne) => wa "mine k_ne"
theorem rlX70 : True := by
 k_with_none
 k_with "mine hide" => first | (refine (?_ : let gk : Prop := wpAny _ ak _ _ _ _; gk); (try clear gk); intro gk) | (refine (?_ : let ak : Around := _; let gk : Prop := wpAny _ ak _ _ _ _; gk); intro ak; (try clear gk); intro gk) | (refine (?_ : let gk : Prop := _; gk); (try clear gk); intro gk)
 k_with "mine in" => first | (with_reducible assumption) | (with_reducible exact sId) | ((with_reducible refine sTl ?_); walk_at "mine in") | ((with_reducible refine sLe ?_); walk_at "mine in") | ((with_reducible refine sRi ?_); walk_at "mine in")
 k_with "mine memb" => first | assumption | exact List.Mem.head _ | (refine List.Mem.tail _ ?_; walk_at "mine memb") | (refine mLe ?_; walk_at "mine memb") | (refine mRi ?_; walk_at "mine memb")
 k_with "mine open" => first | (refine (?_ : let gk : Prop := wpAny _ ak _ _ _ _; Held gk); (try clear gk); intro gk; show gk) | (refine (?_ : let ak : Around := _; let gk : Prop := wpAny _ ak _ _ _ _; Held gk); intro ak; (try clear gk); intro gk; show gk) | (refine (?_ : let gk : Prop := _; Held gk); (try clear gk); intro gk; show gk)
 k_with "mine sub" => first | (with_reducible exact sId) | (with_reducible exact sNil) | ((with_reducible refine sCons ?_ ?_); (· walk_at "mine memb"); (· walk_at "mine sub")) | ((with_reducible refine sApp ?_ ?_); (· walk_at "mine sub"); (· walk_at "mine sub")) | walk_at "mine in"
 k_with "execs cons" => (k_here; (with_reducible refine aL ?_); (try clear tkw); intro tkw; (try k_fold); (with_reducible refine wpAny_execs_cons ?_); (try dsimp only))
 k_with "mine passes_own" => first | assumption | with_reducible exact PySem.PassesOwn.leaving | with_reducible exact PySem.PassesOwn.looking | with_reducible exact PySem.PassesOwnAt.leaving | with_reducible exact PySem.PassesOwnAt.looking | exact PySem.PassesOwn.leaving | exact PySem.PassesOwn.looking | exact PySem.PassesOwnAt.leaving | exact PySem.PassesOwnAt.looking
 k_with "mine k_all" => first | assumption | exact List.forall_mem_nil _ | (refine' List.forall_mem_cons.mpr ⟨?_, ?_⟩; (focus k_ne); k_all)
 k_with "mine k_ne" => first | assumption | exact Ne.symm (by assumption)
 k_with "call ref" => (k_here; refine held ?_)
 k_with "pyIter ref" => (k_here; refine held ?_)
 k_with "eval ListComp" => (k_here; refine held ?_)
 k_with "exec Assign cons ListComp" => (k_here; refine held ?_)
 k_with "call builtin:len" => (k_here; k_dflt (refine len_list (News.isList (by k_asm) (by walk_at "mine mem")) (by assumption) ?_))
 k_with "subscriptTail" => (k_here; refine held ?_)
 k_with "subscriptTail Name Slice ref ref" => (k_here; refine held ?_)
 k_with "compareOp NotIn" => (k_here; refine held ?_)
 k_with "compareOp Eq ref ref" => (k_here; refine held ?_)
 k_with "mine mem" => first | exact List.Mem.head _ | exact List.Mem.tail _ (List.Mem.head _) | exact List.Mem.tail _ (List.Mem.tail _ (List.Mem.head _)) | exact List.Mem.tail _ (List.Mem.tail _ (List.Mem.tail _ (List.Mem.head _))) | exact List.Mem.tail _ (List.Mem.tail _ (List.Mem.tail _ (List.Mem.tail _ (List.Mem.head _)))) | exact List.Mem.tail _ (List.Mem.tail _ (List.Mem.tail _ (List.Mem.tail _ (List.Mem.tail _ (List.Mem.head _)))))
 trivial
noncomputable def ie (w : World) (p : Program) (loose : List Str) (mean : ExcName → Option Value) (mg : Str → Option Value) (mb : Str → Option Value) (g : Heap) (L : Addr) (a : Addr) (cd : Value) (o1 : Obj) (xs : List Int) (s : Shared) (E : Value → Shared → Prop) : Prop := ∀ (B : Below callerA g [] g) (X : (Mine.hd.heap_39 w.params).In g) (T : Top p loose mean mg mb g) (h89 : 89 < L) (h72 : 72 < L) (hc1 : o1.data = .cell none), LawO w g L a cd o1 xs s (fun f s' => f = .ret (.bool true) ∧ iB L g s s') E
noncomputable def aC : (((World × Program) × (List Str) × (ExcName → Option Value)) × ((Str → Option Value) × (Str → Option Value)) × Heap) × ((Addr × Addr) × Value × Obj) × ((List Int) × Shared) × (Value → Shared → Prop) := @Classical.epsilon _ (by have := neW; have := neS; infer_instance) fun x => ¬ u14 ie x
theorem m_law_d : u14 ie aC := by
 intro B X T h89 h72 hc1
 revert X
 unfold LawO
 k_fill
 intro X
 intro h tk u S dx D R ta tb ps1 ps2 G kR rvs sub nx F N m1 m2 m3 n1 n2 n3 hS hG hRs hsub hdR
 unfold lawA lawE lawS lawB law0
 dsimp only [List.drop]
 refine lw (iH hdR) ?_; intro wss w1 w2 w3 w4
 have hel := cg (aH (aC.2.2.1.1))
 have hil := cC (aC.2.2.1.1)
 have hrl : rvs.length = (aR (aH (aC.2.2.1.1))).length := by
  have := hdR.length
  simpa using this
 have e0 : sizeLine = 16777216 := rfl
 have hd1 : ∀ q ∈ drawn [(aC.2.1.1.1) + 1 + 1] nx, q.1 ≠ (aC.2.1.1.1) + 1 + 1 := aE (List.mem_singleton.mpr rfl)
 replace N : News (aC.1.2.2) (aC.2.1.1.1) h (((aC.2.1.1.1) + 1 + 1, (aC.2.1.2.2)) :: drawn [(aC.2.1.1.1) + 1 + 1] nx) := News.sub N (List.forall_mem_cons.mpr ⟨m1, fun q hq => aI q hq⟩)
 have hsubD : ∀ q ∈ sub, q ∈ drawn [(aC.2.1.1.1) + 1 + 1] nx := fun q hq => mem_drawn.mpr ⟨(hsub q hq).1, by simpa using (hsub q hq).2.2⟩
 k_steps
 walk_at "mine open"
 refine mH (by rfl) ?_
 refine mM (by with_unfolding_all rfl) (by rfl) (by decide) ?_
 k_steps
 walk_at "mine open"
 refine LC2_val rfl (by decide) rfl (by rfl) (by rfl) (by decide) (by decide) F N (.tail _ (hsubD _ hRs)) (fun i v hv => ?_) w1 (fun i j ws hw => Nat.le_trans (mA w4 i j ws hw) (by omega)) ?_
 ·refine gO (w2 i v hv) ?_; intro b ws kb c1 c2 c3
  exact ⟨b, ws, kb, c1, c2, .tail _ (hsubD _ c3)⟩
 intro De h1 tk1 F1 N1 oDe
 replace N1 : News (aC.1.2.2) (aC.2.1.1.1) h1 (((aC.2.1.1.1) + 1 + 1, (aC.2.1.2.2)) :: (De, lst wss.flatten) :: drawn [(aC.2.1.1.1) + 1 + 1] nx) := News.sub N1 fun q hq => by
  revert hq; revert q; walk_at "mine sub"
 have hDeL : De ≠ (aC.2.1.1.1) + 1 + 1 := Ne.symm (oDe _ (.head _))
 k_steps
 walk_at "mine open"
 rename_i h2 oc F2 N2 dc
 refine du (by rfl) (by with_unfolding_all rfl) (by rfl) (by decide) ?_
 have hfl : wss.flatten.length = 2 * (aR (aH (aC.2.2.1.1))).length := by rw [fS w4, w1, hrl]
 have hvf : ((wss.flatten.toArray.size : Nat) : Int) < 2 ^ 63 := by rw [List.size_toArray]; omega
 k_steps
 rename_i h5 tk5 rt1 rt2 rt3 hrange F5 N5 hold5
 walk_at "mine open"
 rw [List.size_toArray] at hrange
 generalize hn5 : ((aC.2.1.1.1) + 1 + 1, oc) :: (De, lst wss.flatten) :: drawn [(aC.2.1.1.1) + 1 + 1] nx = n5 at N5
 generalize hEE : fU (aR (aH (aC.2.2.1.1))) = EE at w3
 have hEl : EE.length = wss.flatten.length := by rw [← hEE, kQ, hfl]
 have hE5 : ∀ v ∈ EE, v < 5 := fun v hv => (fT (aC.2.2.1.1) v).mp (by rw [hEE]; exact hv)
 have hfn : wss.flatten.length ≤ 44 := by omega
 have hsm : Builtin.Range.small 0 (wss.flatten.length : Int) 1 = true := small_one (by decide) (by decide) (by omega) (by omega)
 have hrs : Builtin.Range.rangeSize 0 (wss.flatten.length : Int) 1 = ((wss.flatten.length : Nat) : Int) := by rw [rangeSize_nat]; omega
 refine kZ rfl (SrcW.range (n := wss.flatten.length) rfl hrange hsm hrs) (fun _ _ _ _ _ _ h => wpAny_pure h) (by decide) rfl (by rfl) (by rfl) F5 N5 (by omega) (fun i zs nx2 => nx2 = n5 ∧ StrsAre zs ((bu EE i).map nm)) (fun _ _ _ _ _ hp => (nomatch hp)) ⟨rfl, .nil⟩ ?_ ?_
 ·intro i v zs nx2 I oI C oC D2 m2' h6 tk6 E6 hi zp1 zp2 hoC F6 N6 off ne
  walk_at "mine hide"
  refine aT (zp1) ?_; (try clear zp1); intro tv xq2b; subst xq2b
  refine bj (zp2) ?_; (try clear zp2); intro xq3a; subst xq3a; intro hzs
  refine bp hoC F6 N6 (off_2 off ne) rfl rfl fun h7 tk7 oC7 m7 hoC7 hk7 F7 N7 => ?_
  refine wpAny_tests_one ?_
  replace F7 : Fr (aC.1.2.2) (aC.2.1.1.1) h7 _ := F7
  rw [Int.zero_add] at hk7
  have hiE : i < EE.length := by rw [hEl]; exact hi
  obtain ⟨v, hv⟩ : ∃ v, wss.flatten[i]? = some v := ⟨_, List.getElem?_eq_getElem hi⟩
  refine bg (aS w3 hv) ?_; intro y ty hy xq4d; subst xq4d
  have hy5 : y < 5 := hE5 y (List.mem_of_getElem? hy)
  have hw3 : True ∧ StrsAre wss.flatten (EE.map nm) := ⟨trivial, w3⟩
  clear w3
  replace N7 : News (aC.1.2.2) (aC.2.1.1.1) h7 (((aC.2.1.1.1) + 1 + 1, oc) :: (De, lst wss.flatten) :: (I, oI) :: (C, oC7) :: (D2, lst zs) :: drawn [(aC.2.1.1.1) + 1 + 1] nx) := News.sub N7 (by
   rw [← hn5]
   walk_at "mine sub")
  k_steps
  walk_at "mine open"
  refine item_listL (News.isList N7 (.tail _ (.head _))) (by omega) (by omega) hv ?_
  k_steps
  walk_at "mine open"
  refine kms_slice_lit (zs := wss.flatten.take i) F7 N7 (News.isList N7 (.tail _ (.head _))) .none (.int _ _) (lX _ (Nat.le_of_lt hi)) ?_ (by with_unfolding_all rfl) (by intro _; with_unfolding_all rfl) (by rw [List.size_toArray]; omega)
  intro Dz h8 F8 N8 l8
  have hst : StrsAre (wss.flatten.take i) ((EE.take i).map nm) := by rw [List.map_take]; exact lK hw3.2 i
  have hdm : Dat.str (nm y) ∈ (EE.take i).map (fun v => Dat.str (nm v)) ↔ y ∈ EE.take i := nm_memD (fun v hv => hE5 v (List.mem_of_mem_take hv)) hy5
  have back : ∀ q ∈ (I, oI) :: (C, oC7) :: (D2, lst zs) :: nx2, q ∈ (Dz, listOf (wss.flatten.take i).toArray 0) :: ((aC.2.1.1.1) + 1 + 1, oc) :: (De, lst wss.flatten) :: (I, oI) :: (C, oC7) :: (D2, lst zs) :: drawn [(aC.2.1.1.1) + 1 + 1] nx := by
   rw [← hn5]
   walk_at "mine sub"
  refine kI N8 (.head _) rfl rfl (co (nx := []) hst) (fun q hq => (nomatch hq)) (DatIn.str (nm y) ty : DatIn [] _ _) (fun q hq => (nomatch hq)) (fun d hd => ?_) (dY y hy5) (Nat.le_of_ble_eq_true rfl) (fun hm => ?_) (fun hm => ?_)
  ·refine aJ (List.mem_map.mp hd) ?_; intro v hv xq5c; subst xq5c
   exact dY v (hE5 v (List.mem_of_mem_take hv))
  ·replace hm := fun q => hm (hdm.mpr q)
   k_steps
   walk_at "mine open"
   refine item_listL (News.isList N8 (.tail _ (.tail _ (.head _)))) (by omega) (by omega) hv ?_
   exact ⟨h8, _, nx2, oC7, m7, rfl, hoC7, F8, News.sub N8 back, off, rfl, by rw [kL hy hm, List.map_append]; exact bC hzs⟩
  ·replace hm := hdm.mp hm
   k_steps
   exact ⟨h8, _, nx2, oC7, m7, rfl, hoC7, F8, News.sub N8 back, off, rfl, by rw [mD hy hm]; exact hzs⟩
 ·intro Dn zs nx2 h6 tk6 zp3 F6 N6 oDn
  walk_at "mine hide"
  refine bj (zp3) ?_; (try clear zp3); intro xq6a; subst xq6a; intro hzs
  replace F6 : Fr (aC.1.2.2) (aC.2.1.1.1) h6 _ := F6
  replace N6 : News (aC.1.2.2) (aC.2.1.1.1) h6 _ := N6
  have hes : ∀ e ∈ aR (aH (aC.2.2.1.1)), e.1 < 5 ∧ e.2 < 5 := fV _
  have hnod : ∀ v, v ∈ G.nodes ↔ v < 5 := kr hG
  generalize hn6 : (Dn, lst zs) :: nx2 = n6 at N6
  have to6 : ∀ q ∈ nx, q.1 ≠ (aC.2.1.1.1) + 1 + 1 → q ∈ n6 := fun q hq hne => by
   rw [← hn6, ← hn5]
   exact .tail _ (.tail _ (.tail _ (mem_drawn.mpr ⟨hq, by simpa using hne⟩)))
  have hS6 : SrtIn (aC.1.1.1.1) S dx D .none (.int 0 ta) (.int 0 tb) G n6 := hS.keep fun q hq ho => to6 q hq fun e => n1 (e ▸ ho)
  have hDno : ¬ Own S dx D G Dn := fun ho => by
   refine aT (hS.ownIn ho) ?_; intro oo hm
   exact oDn _ (by rw [← hn5]; exact .tail _ (.tail _ (mem_drawn.mpr ⟨hm, by simpa using fun e : Dn = (aC.2.1.1.1) + 1 + 1 => n1 (e ▸ ho)⟩))) rfl
  k_steps
  walk_at "mine open"
  refine told_ok (aC.1.1.1.1) S dx D ta tb G (aR (aH (aC.2.2.1.1))) n6 hS6 hG.su (fun v _ => hG.np v) (fun e he => ⟨(hnod _).mpr (hes e he).1, (hnod _).mpr (hes e he).2⟩) (by omega) (aC.1.1.1.2) (aC.1.1.2.1) (aC.1.1.2.2) (aC.1.2.1.1) (aC.1.2.1.2) _ _ _ _ _ _ _ _ _ _ (aC.1.2.2) (aC.1.2.2) (aC.2.1.1.1) _ _ _ _ ktsDicts_nil B F6 X N6 T X T rfl (by decide) (by decide) ?_
  intro r7 n7 g7 h7 tk7 TT7 F7 N7 zp4
  walk_at "mine hide"
  refine x3_4 (zp4) ?_; (try clear zp4); intro Rs np ring hRI hKI hD7 hring hkp
  have B7 := bd B TT7
  have X7 := X.keeps B7.stays
  have T7 := T.keeps B7.stays
  have hDn7 : (Dn, lst zs) ∈ n7 := hkp _ (by rw [← hn6]; exact .head _) hDno
  have sub7 : ∀ q ∈ sub, q ∈ n7 := fun q hq => hkp q (to6 q (hsub q hq).1 (hsub q hq).2.2) (hsub q hq).2.1
  k_steps
  walk_at "mine open"
  have hEl2 : wss.flatten.length = EE.length := hEl.symm
  have hns : ∀ v, v ∈ bu EE wss.flatten.length ↔ v < 5 := fun v => by
   rw [dN, hEl2, List.take_length, ← hEE]
   exact fT (aC.2.2.1.1) v
  refine lR (aC.1.1.1.1) Dn R (bu EE wss.flatten.length) (aR (aH (aC.2.2.1.1))) hns (bU _) (by omega) hes n7 zs _ hDn7 hzs (DatIn.list (sub7 _ hRs) (DatAll.mono sub7 hdR)) (aC.1.1.1.2) (aC.1.1.2.1) (aC.1.1.2.2) (aC.1.2.1.1) (aC.1.2.1.2) _ _ _ _ _ _ _ _ _ _ (aC.1.2.2) g7 (aC.2.1.1.1) _ _ _ _ B7 F7 X7 N7 T7 rfl (by decide) (by decide) ?_
  intro r8 n8 h8 tk8 F8 N8 zp5
  walk_at "mine hide"
  refine jQ (zp5) ?_; (try clear zp5); intro b hD8 hb hk8
  rw [← ends_eq hRI hKI hring hG.su hnod hes hb] at hD8
  refine eq_told N8 hD7 hk8 hD8 (fun q hq => hq) (told_kqd Rs) (Nat.le_of_ble_eq_true rfl) ?_
  k_steps
  exact ⟨g7, h8, _, _, n8, ps1, ps2, rfl, TT7, F8, N8, hk8 _ (hkp _ (to6 _ m2 (Nat.ne_of_lt (Nat.lt_succ_of_lt (Nat.lt_succ_of_lt h89)))) n2), hk8 _ (hkp _ (to6 _ m3 (Nat.ne_of_lt (Nat.lt_succ_of_lt (Nat.lt_succ_of_lt h72)))) n3)⟩
theorem law_d (w : World) (p : Program) (loose : List Str) (mean : ExcName → Option Value) (mg mb : Str → Option Value) (g : Heap) (L a : Addr) (cd : Value) (o1 : Obj) (xs : List Int) (s : Shared) (E : Value → Shared → Prop)
  (B : Below callerA g [] g) (X : (Mine.hd.heap_39 w.params).In g) (T : Top p loose mean mg mb g) (h89 : 89 < L) (h72 : 72 < L) (hc1 : o1.data = .cell none) :
  LawO w g L a cd o1 xs s (fun f s' => f = .ret (.bool true) ∧ iB L g s s') E := @aO _ _ (u14 ie) m_law_d ((((w, p), (loose, mean)), ((mg, mb), g)), (((L, a), (cd, o1)), ((xs, s), E))) B X T h89 h72 hc1
theorem law_run (w : World) (p : Program) (loose : List Str) (mean : ExcName → Option Value) (mg mb : Str → Option Value) (g : Heap) (L a l : Addr) (cd : Value) (o1 o2 : Obj) (vs : List Value) (xs : List Int) (s : Shared)
  (B : Below callerA g [] g) (F : Fr g L s.heap fun y => if y = Str.ofString "script" then some (.ref l) else none) (X : (Mine.hd.heap_39 w.params).In g) (N : News g L s.heap [(L + 1 + 1, o1), (L + 1, o2), (89, tabObj #[]), (72, tabObj #[])]) (T : Top p loose mean mg mb g)
  (hL : g.IsList l vs.toArray) (hI : IntsAre vs xs) (hx : xs.length ≤ 63) (h89 : 89 < L) (h72 : 72 < L) (h1 : o1.data = .cell none) (h2 : o2.data = .cell none) :
  wpAny (model PySem.Challenge.rw_oc0257_01.prog w) (lawA L a cd) (execs lawB (lawE L a cd)) (fun f s' => f = .ret (.bool true) ∧ iB L g s s') (fun _ _ => False) s :=
 law_a w p loose mean mg mb g L a l cd o1 o2 vs xs s _ _ B F X N T hL hI hx h89 h72 h1 h2
  (law_a2 w p loose mean mg mb g L a cd o1 o2 xs s _ _ B X T h89 h72 h1 h2
   (law_a3 w p loose mean mg mb g L a cd o1 o2 xs s _ _ B X T h89 h72 h1 h2
    (law_b w p loose mean mg mb g L a cd o1 o2 xs s _ _ B X T
     (law_c w p loose mean mg mb g L a cd o1 o2 xs s _ _ B X T h89 h72 h1 h2 PassesOwn.never
      (law_d w p loose mean mg mb g L a cd o1 xs s _ B X T h89 h72 h1)))))
theorem part_sub {K : Frag} {o2 : Obj} {P : Params} {h : Heap} (X : K.In h) (hK : K = (2, o2) :: Mine.hd.heap_39 P) : (Mine.hd.heap_39 P).In h := fun a o e => X a o (by
 rw [hK, List.lookup_cons]
 by_cases c : a = 2
 ·subst c
  have : (Mine.hd.heap_39 P).lookup 2 = none := by kernel_rfl
  rw [this] at e
  cases e
 ·rw [beq_false_of_ne c]
  exact e)
theorem rlZ : True := by
 k_with_none
 trivial
set_option Elab.async true
theorem head.tw3746228215898030841 : True := trivial
theorem head.tw466721876749952763 : True := trivial
theorem head.tw8912104118211102971 : True := trivial
theorem head.tw18433677622606106133 : True := trivial
theorem head.tw4839655697589452165 : True := trivial
theorem head.tw12604462930493870256 : True := trivial
theorem head.tw6211381574409162282 : True := trivial
theorem head.tw9062998866958442273 : True := trivial
theorem head.tw9950410520057996621 : True := trivial
theorem head.tw16572314662081343053 : True := trivial
theorem head.tw11821203517306503961 : True := trivial
theorem head.tw17212568112599259466 : True := trivial
theorem head.tw13942192884097748152 : True := trivial
theorem head.tw8476099583838051002 : True := trivial
theorem head.tw16896716796036338970 : True := trivial
theorem head.tw13337238644230332656 : True := trivial
theorem head.tw10079960370226730655 : True := trivial
theorem head.tw2832780485380437164 : True := trivial
theorem head.tw820421773197932041 : True := trivial
theorem head.tw13585267454733459922 : True := trivial
theorem head.tw3980653432952411973 : True := trivial
theorem head.tw4964814941381164201 : True := trivial
theorem head.tw10431609616501453582 : True := trivial
theorem head.tw3944913497352057107 : True := trivial
theorem head.tw4196546014268931301 : True := trivial
theorem head.tw13412022041919118725 : True := trivial
theorem head.tw8535708456716222715 : True := trivial
theorem head.tw8812732774380208333 : True := trivial
theorem head.tw5141380973458375857 : True := trivial
theorem head.tw7659656948425275322 : True := trivial
theorem head.tw11427066125472700054 : True := trivial
theorem head.tw16914380289546287665 : True := trivial
theorem head.tw8944843718432748164 : True := trivial
theorem head.tw8874674299285249911 : True := trivial
theorem head.tw14857608947800436607 : True := trivial
theorem head.tw16817119741492734445 : True := trivial
theorem head.tw3304075619188804072 : True := trivial
theorem head.tw69809265629811306 : True := trivial
theorem head.tw8101760021730824546 : True := trivial
theorem head.tw12773685731770592110 : True := trivial
theorem head.tw4709128311485490483 : True := trivial
theorem head.tw4857777746444614323 : True := trivial
theorem head.tw9592777112578238593 : True := trivial
theorem head.tw649443455394278489 : True := trivial
theorem head.tw15539854500240908086 : True := trivial
theorem head.tw15895748673760503845 : True := trivial
theorem head.tw696122501370772008 : True := trivial
theorem head.tw12310735299239354703 : True := trivial
theorem head.tw9435046350415534400 : True := trivial
theorem head.tw1319983325249436295 : True := trivial
theorem head.tw8534208459206503383 : True := trivial
theorem head.tw16031315777459398524 : True := trivial
theorem head.tw5932888286366025677 : True := trivial
theorem head.tw18007968972792079559 : True := trivial
theorem head.tw4972248218790579157 : True := trivial
theorem head.tw10668533816033670360 : True := trivial
theorem head.tw10738415174905983355 : True := trivial
theorem head.tw3690969761935527329 : True := trivial
theorem head.tw10015159338476511836 : True := trivial
theorem head.tw5723944856813171866 : True := trivial
theorem head.tw12207028300977255130 : True := trivial
theorem head.tw12892129938458570674 : True := trivial
theorem head.tw4307260679431091991 : True := trivial
theorem head.tw3160712208675142370 : True := trivial
theorem head.tw16128420640991077102 : True := trivial
theorem head.tw7802898811600756450 : True := trivial
theorem head.tw8451290768687142514 : True := trivial
theorem head.tw16032798489695076721 : True := trivial
theorem head.tw5986637957666399235 : True := trivial
theorem head.tw9658139154387788515 : True := trivial
theorem head.tw8603420104599213669 : True := trivial
theorem head.tw11308087075614649832 : True := trivial
theorem head.tw9978949632667528635 : True := trivial
theorem head.tw7494366503370351645 : True := trivial
theorem head.tw6846597200999610202 : True := trivial
theorem head.tw14139502460874162764 : True := trivial
theorem head.tw6857060684267632606 : True := trivial
theorem head.tw17674571679781333832 : True := trivial
theorem head.tw12858780395421280599 : True := trivial
theorem head.tw12704426703380559182 : True := trivial
theorem head.tw5599997604879368025 : True := trivial
theorem head.tw640434116619478595 : True := trivial
theorem head.tw7994106446794305319 : True := trivial
theorem head.tw14877080517539528568 : True := trivial
theorem head.tw14676189674455941282 : True := trivial
theorem head.tw12359489953124434286 : True := trivial
theorem head.tw12475708393154427166 : True := trivial
theorem head.tw6202090305015876224 : True := trivial
theorem head.tw9984397402777080727 : True := trivial
theorem head.tw4975070653579243887 : True := trivial
theorem head.tw3649914351005859508 : True := trivial
theorem head.tw14788773977795034992 : True := trivial
theorem head.tw17782148633632673465 : True := trivial
theorem head.tw497287684792784471 : True := trivial
theorem head.tw14969872817325187116 : True := trivial
theorem head.tw8997269238129315039 : True := trivial
theorem head.tw1618804561499322139 : True := trivial
theorem head.tw11005904730967762025 : True := trivial
theorem head.tw300626226527484142 : True := trivial
theorem head.tw6507506987150044280 : True := trivial
theorem head.tw9820158181544301314 : True := trivial
theorem head.tw2237326684586592538 : True := trivial
theorem head.tw12330954535739239725 : True := trivial
theorem head.tw17411354535832351560 : True := trivial
theorem head.tw18423618960977984393 : True := trivial
theorem head.tw4746297304354101679 : True := trivial
theorem head.tw3688799982635324794 : True := trivial
theorem head.tw7712916153251135833 : True := trivial
theorem head.tw16924187370751998334 : True := trivial
theorem head.tw315434073420411817 : True := trivial
theorem head.tw12987040726578829979 : True := trivial
theorem head.tw5508695066786827253 : True := trivial
theorem head.tw9103479521544129834 : True := trivial
theorem head.tw13896987355042952010 : True := trivial
theorem head.tw14205479233844494046 : True := trivial
theorem head.tw6100774026682323163 : True := trivial
theorem head.tw15520248196984853422 : True := trivial
theorem head.tw9114333099845857663 : True := trivial
theorem head.tw14527164170590304321 : True := trivial
theorem head.tw17725469503822016867 : True := trivial
theorem head.tw4624463204194495638 : True := trivial
theorem head.tw10366927770000222440 : True := trivial
theorem head.tw1748456618969930982 : True := trivial
theorem head.tw15064752311394979489 : True := trivial
theorem head.tw5506250874072839755 : True := trivial
theorem head.tw1852205218256702202 : True := trivial
theorem head.tw930087139818521243 : True := trivial
theorem head.tw7833285031277912329 : True := trivial
theorem head.tw16640130746408290383 : True := trivial
theorem head.tw7605166074885289285 : True := trivial
theorem head.tw1620002657737552111 : True := trivial
theorem head.tw8097174177036852075 : True := trivial
theorem head.tw4433315090154635215 : True := trivial
theorem head.tw4965378191221513410 : True := trivial
theorem head.tw15296082917334920728 : True := trivial
theorem head.tw10898857373019930491 : True := trivial
theorem head.tw16922147877168347812 : True := trivial
theorem head.tw12352672977532951062 : True := trivial
theorem head.tw733406405333840765 : True := trivial
theorem head.tw17332727794074296334 : True := trivial
theorem head.tw1832916270232011604 : True := trivial
theorem head.tw16847831306532103052 : True := trivial
theorem head.tw2154566216772986472 : True := trivial
theorem head.tw15021495713174545233 : True := trivial
theorem head.tw14699756766385990792 : True := trivial
theorem head.tw8773370040425892893 : True := trivial
theorem head.tw17163498327005133941 : True := trivial
theorem head.tw1518109355111003649 : True := trivial
theorem head.tw12870424476946447624 : True := trivial
theorem head.tw4693820183103290663 : True := trivial
theorem head.tw5906749814970224870 : True := trivial
theorem head.tw7013799640231393816 : True := trivial
theorem head.tw2393098407364606883 : True := trivial
theorem head.tw3547240966391284428 : True := trivial
theorem head.tw17348764703882912863 : True := trivial
theorem head.tw9515422150858430662 : True := trivial
theorem head.tw44622916816846810 : True := trivial
theorem head.tw12897481986808888594 : True := trivial
theorem head.tw15841401105113185080 : True := trivial
theorem head.tw18123143868385100064 : True := trivial
theorem head.tw16894197260953374720 : True := trivial
theorem head.tw6110071263904590700 : True := trivial
theorem head.tw9074772780463953568 : True := trivial
theorem head.tw3991279037241028524 : True := trivial
theorem head.tw9702098958229961203 : True := trivial
theorem head.tw8866670633112419022 : True := trivial
theorem head.tw8715499118904818895 : True := trivial
theorem head.tw13294958713779813728 : True := trivial
theorem head.tw12822298378996975857 : True := trivial
theorem head.tw2581250870941146908 : True := trivial
theorem head.tw16714887947964762639 : True := trivial
theorem head.tw4063747431996464497 : True := trivial
theorem head.tw14417885227837004991 : True := trivial
theorem head.tw11692735721529064706 : True := trivial
theorem head.tw2554682012703037696 : True := trivial
theorem head.tw2249667046024356820 : True := trivial
theorem head.tw7313386461004707312 : True := trivial
theorem head.tw17464823870196871000 : True := trivial
theorem head.tw17014734716931888790 : True := trivial
theorem head.tw3088210815446039105 : True := trivial
theorem head.tw10261356005730403935 : True := trivial
theorem head.tw17789423225533864492 : True := trivial
theorem head.tw16997897962222511 : True := trivial
theorem head.tw15035418422258542911 : True := trivial
theorem head.tw3700403586152167814 : True := trivial
theorem head.tw16050388347410925577 : True := trivial
theorem head.tw5764021196749891206 : True := trivial
theorem head.tw15474769317486641138 : True := trivial
theorem head.tw12740806245664736207 : True := trivial
theorem head.tw2525317073905713282 : True := trivial
theorem head.tw13605870324054321959 : True := trivial
theorem head.tw17525636777796739105 : True := trivial
theorem head.tw5651425540991249520 : True := trivial
theorem head.tw10356212845559719233 : True := trivial
theorem head.tw11770459041652445329 : True := trivial
theorem head.tw467416434755642258 : True := trivial
theorem head.tw3581614266968435656 : True := trivial
theorem head.tw5438144065070405397 : True := trivial
theorem head.tw3089916443595474862 : True := trivial
theorem head.tw2096541523181747872 : True := trivial
theorem head.tw13930179049932442014 : True := trivial
theorem head.tw3973953319845086491 : True := trivial
theorem head.tw17698105195316432488 : True := trivial
theorem head.tw2994366008111725845 : True := trivial
theorem head.tw17619409864816609055 : True := trivial
theorem head.tw4009957668330374740 : True := trivial
theorem head.tw14699528089545365996 : True := trivial
theorem head.tw11484358847640170188 : True := trivial
theorem head.tw5140934472235413692 : True := trivial
theorem head.tw16111715859725283846 : True := trivial
theorem head.tw17854896373637125580 : True := trivial
theorem head.tw9746458257258439470 : True := trivial
theorem head.tw6889739017440866108 : True := trivial
theorem head.tw2694075680205673411 : True := trivial
theorem head.tw12264792733140247891 : True := trivial
theorem head.tw4381510469713062047 : True := trivial
theorem head.tw14512941343882779238 : True := trivial
theorem head.tw18377665482554831586 : True := trivial
theorem head.tw8185714761375850791 : True := trivial
theorem head.tw8159583801465064534 : True := trivial
theorem head.tw1499353310998574721 : True := trivial
theorem head.tw4976181008148175253 : True := trivial
theorem head.tw10010264046613662565 : True := trivial
theorem head.tw12998212659555988865 : True := trivial
theorem head.tw3496171461512900480 : True := trivial
theorem head.tw2879759524354350568 : True := trivial
theorem head.tw15468718075485040107 : True := trivial
theorem head.tw5629256929840616583 : True := trivial
theorem head.tw15112835437128306455 : True := trivial
theorem head.tw13689084217373910675 : True := trivial
theorem head.tw10987702880554017565 : True := trivial
theorem head.tw6474009502463322548 : True := trivial
theorem head.tw7512725033676591148 : True := trivial
theorem head.tw3083302935323014018 : True := trivial
theorem head.tw9280153536138602973 : True := trivial
theorem head.tw3749026756887285471 : True := trivial
theorem head.tw15406652130919608920 : True := trivial
theorem head.tw7789450098604059249 : True := trivial
theorem head.tw11628534518673281344 : True := trivial
theorem head.tw3715584954343283195 : True := trivial
theorem head.tw6587087628758450585 : True := trivial
theorem head.tw7417405269818204032 : True := trivial
theorem head.tw11862927689305589065 : True := trivial
theorem head.tw11194998557105285118 : True := trivial
theorem head.tw16874305072444578374 : True := trivial
theorem head.tw13954853420313727417 : True := trivial
theorem head.tw3665506230870052707 : True := trivial
theorem head.tw4648074632519319735 : True := trivial
theorem head.tw8895791426145780158 : True := trivial
theorem head.tw37620276538422747 : True := trivial
theorem head.tw13086575352542018947 : True := trivial
theorem head.tw13335025841360890868 : True := trivial
theorem head.tw7876399200375917224 : True := trivial
theorem head.tw9561274727076994004 : True := trivial
theorem head.tw9101448428047585222 : True := trivial
theorem head.tw17895739583965686969 : True := trivial
theorem head.tw15037083628117588352 : True := trivial
theorem head.tw14982685227137828758 : True := trivial
theorem head.tw4415685298772064003 : True := trivial
theorem head.tw1276956409769668328 : True := trivial
theorem head.tw17905491414393134947 : True := trivial
theorem head.tw15506723302920939300 : True := trivial
theorem head.tw7090939061502383884 : True := trivial
theorem head.tw17508272824862286709 : True := trivial
theorem head.tw6121141971511671821 : True := trivial
theorem head.tw12032222614953749359 : True := trivial
theorem head.tw1463646239528298992 : True := trivial
theorem head.tw4607607821588926596 : True := trivial
theorem head.tw8627200689577751383 : True := trivial
theorem head.tw5797013207949663412 : True := trivial
theorem head.tw11714945338242495837 : True := trivial
theorem head.tw15253846138512369154 : True := trivial
theorem head.tw9325057278558614444 : True := trivial
theorem head.tw15410735652082386980 : True := trivial
theorem head.tw14679116673082234219 : True := trivial
theorem head.tw17700853532424174462 : True := trivial
theorem head.tw5634912026493880203 : True := trivial
theorem head.tw4421269845303654710 : True := trivial
theorem head.tw14999265807660949796 : True := trivial
theorem head.tw2518057956044344595 : True := trivial
theorem head.tw14842460003800876886 : True := trivial
theorem head.tw16782820856776367440 : True := trivial
theorem head.tw9716329373054682134 : True := trivial
theorem head.tw6958054317093949245 : True := trivial
theorem head.tw13353151263460963528 : True := trivial
theorem head.tw7945738276880979501 : True := trivial
theorem head.tw13988103294471073821 : True := trivial
theorem head.tw15149402430504572791 : True := trivial
theorem head.tw14393718171448925343 : True := trivial
theorem head.tw7758381527925395934 : True := trivial
theorem head.tw13510609219080548989 : True := trivial
theorem head.tw13955511503576765797 : True := trivial
theorem head.tw11124748197601291601 : True := trivial
theorem head.tw10875119458065257276 : True := trivial
theorem head.tw2491421050496283774 : True := trivial
theorem head.tw3103639331685909893 : True := trivial
theorem head.tw7119846925741900413 : True := trivial
theorem head.tw5487235932777146282 : True := trivial
theorem head.tw10786079294511566085 : True := trivial
theorem head.tw6737735255597943219 : True := trivial
theorem head.tw5973763720392745831 : True := trivial
theorem head.tw4023466491090337370 : True := trivial
theorem head.tw18416563613846182222 : True := trivial
theorem head.tw573189755984429645 : True := trivial
theorem head.tw10248514317004343787 : True := trivial
theorem head.tw5104563664521345299 : True := trivial
theorem head.tw17243387458012846398 : True := trivial
theorem head.tw1212124681294104184 : True := trivial
theorem head.tw14643560169476415855 : True := trivial
set_option maxHeartbeats 0
theorem head : PySem.Challenge.rw_oc0257_01.Holds := by
 w_on; o_law; k_head; (case hw => w_witness2)
 k_go0
 rename CellsAre _ _ _ => Y
 have hY := CellsAre.two Y
 obtain ⟨o', o2', hE', d1', d2'⟩ := hY
 obtain ⟨rfl, rfl⟩ : _ ∧ _ := by
  simp only [List.cons.injEq, Prod.mk.injEq, true_and, and_true] at hE'
  exact hE'
 rename Fr _ _ _ _ => F
 rename News _ _ _ _ => N
 rename Below _ _ _ _ => B
 rename IntsAre _ _ => hI
 rename Frag.In _ _ => XX0
 rename World => ww
 have XX := part_sub (P := ww.params) XX0 (by with_unfolding_all rfl)
 rename (_ < _ ∧ _ < _) => l0
 refine wpAny_mono (law_run _ _ _ _ _ _ _ _ _ _ _ _ _ _ _ _ B F XX N (by assumption) (by assumption) hI (by omega) l0.1 l0.2 d1' d2') ?_ ?_
 ·rintro f s' ⟨rfl, g', h, tk, m, nx, ps1, ps2, rfl, TT, F', N', m1, m2⟩
  refine ⟨⟨.inl ⟨.bool true, .bool true, [], rfl, fun cls => by rfl, .bool _, by first | with_unfolding_all rfl | kernel_rfl, fun _ => ⟨.nil, fun _ hq => (nomatch hq)⟩⟩, fun b o e => F'.keep _ _ (TT.other b o e (fun hq => nomatch hq)), rfl, ?_⟩, ?_⟩
  ·assumption
  ·exact ⟨GrownAt.of N' m1, GrownAt.of N' m2, trivial⟩
 ·exact fun _ _ e => e.elim
end
end Mine
theorem PySem.Challenge.cw_oc0257_01_holds : PySem.Challenge.rw_oc0257_01.Holds := by
 exact Mine.head

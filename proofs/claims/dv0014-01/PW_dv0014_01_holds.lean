import PyProof.Rows.All
import Wide.All
import OpenK.AllK
import Wide.FinOn
import PySem.Challenge.RW_dv0014_01
open PySem PySem.W PyProof.Rows PySem.Calls
set_option Elab.async false
set_option linter.all false
set_option genSizeOf false
set_option bootstrap.genMatcherCode false
set_option maxRecDepth 100000
set_option maxHeartbeats 20000000
namespace Mine
noncomputable def vl : Program := by
  refine (?f : (PySem.Challenge.pw_dv0014_01 = (?s : Program)) → Program) ?h
  case h =>
    unfold PySem.Challenge.pw_dv0014_01
    simp only [Str.ofString_eq_byList, Str.ofStringByList, String.reduceToList, List.map_cons, ↓Char.isValue, Char.reduceToNat, List.map_nil]
    exact rfl
  case f => exact fun _ => ?s
noncomputable def vr : OpenLaw := by
  refine (?f : (PySem.Challenge.rw_dv0014_01 = (?s : OpenLaw)) → OpenLaw) ?h
  case h =>
    unfold PySem.Challenge.rw_dv0014_01 PySem.Challenge.pw_dv0014_01
    simp only [Str.ofString_eq_byList, Str.ofStringByList, String.reduceToList, List.map_cons, ↓Char.isValue, Char.reduceToNat, List.map_nil]
    exact rfl
  case f => exact fun _ => ?s
theorem vr_eq : PySem.Challenge.rw_dv0014_01 = vr := by with_unfolding_all rfl
theorem and_t {a b : Bool} (h : a = true) (k : b = true) : (a && b) = true := by rw [h, k]; rfl
theorem vr_said : OpenLaw.wellSaid vr = true := by
  refine and_t ?_ ?_
  repeat' with_reducible refine and_t ?_ ?_
  · refine and_t ?_ ?_
    repeat' with_reducible refine and_t ?_ ?_
    · refine and_t ?_ ?_
      repeat' with_reducible refine and_t ?_ ?_
      · refine and_t ?_ ?_
        repeat' with_reducible refine and_t ?_ ?_
        all_goals decide +kernel
      all_goals decide +kernel
    all_goals decide +kernel
  all_goals decide +kernel
end Mine
namespace Mine
theorem vl_eq : PySem.Challenge.rw_dv0014_01.row.prog = vl := by with_unfolding_all rfl
theorem law_said : OpenLaw.wellSaid PySem.Challenge.rw_dv0014_01 = true := vr_eq ▸ vr_said
theorem open_h (H : Hook) {d : DefRec} {kwd : List (Str × Expr)} (left : LeftO vl vl [PySem.Str.ofString "_NodeInfo"] (fun s => xlAt vl [] s && recOk [] s) H.obs H.val 2616)
    (hdef : defOf PySem.Challenge.rw_dv0014_01.row.prog PySem.Challenge.rw_dv0014_01.row.name = some (d, kwd)) (hp : PySem.Challenge.rw_dv0014_01.row.prog.theDef PySem.Challenge.rw_dv0014_01.row.name = some (d.params, d.body, d.scope)) (hk : kwWritten? d.params.kwonlyargs d.params.kw_defaults = some kwd)
    (k1 : PySem.Challenge.rw_dv0014_01.row.wellSaid = true) (hw : PySem.Challenge.rw_dv0014_01.row.toRowW.promised) (call : WalkO PySem.Challenge.rw_dv0014_01.row.prog [PySem.Str.ofString "_NodeInfo"] (XL PySem.Challenge.rw_dv0014_01.row.prog []) H.says PySem.Challenge.rw_dv0014_01.row.toRowW d kwd fun f vs => PySem.call f vs) : PySem.Challenge.rw_dv0014_01.row.Holds :=
  holds_open (Xt := fun s => xlAt PySem.Challenge.rw_dv0014_01.row.prog [] s && recOk [] s) (by rw [vl_eq]; exact left) H.of H.keeps (fun s e => xl_of s (Bool.and_eq_true_iff.mp e).1) XL.keeps hdef hp hk (fun s e => recFacts_of (R := []) (Bool.and_eq_true_iff.mp e).2) (by rfl) k1 (by decide +kernel) ⟨rfl, rfl, rfl, rfl, rfl, by decide +kernel⟩ hw call
end Mine
local macro_rules
  | `(tactic| o_law) => `(tactic| refine holds_law Mine.law_said fun said => ?_)
local macro_rules
  | `(tactic| o_head $H) => `(tactic| refine Mine.open_h $H (fun w => by kernel_rfl) (by rfl) (by rfl) (by rfl) (by assumption) ?hw ?hc)
open_top hd for PySem.Challenge.rw_dv0014_01
namespace Mine
theorem e0a2 {A0 A1 : Prop} {P : Prop} (h : A0 ∧ A1) (k : A0 → A1 → P) : P := k h.1 h.2
theorem e0a3 {A0 A1 A2 : Prop} {P : Prop} (h : A0 ∧ A1 ∧ A2) (k : A0 → A1 → A2 → P) : P := k h.1 h.2.1 h.2.2
theorem e0a4 {A0 A1 A2 A3 : Prop} {P : Prop} (h : A0 ∧ A1 ∧ A2 ∧ A3) (k : A0 → A1 → A2 → A3 → P) : P := k h.1 h.2.1 h.2.2.1 h.2.2.2
theorem e0a5 {A0 A1 A2 A3 A4 : Prop} {P : Prop} (h : A0 ∧ A1 ∧ A2 ∧ A3 ∧ A4) (k : A0 → A1 → A2 → A3 → A4 → P) : P := k h.1 h.2.1 h.2.2.1 h.2.2.2.1 h.2.2.2.2
theorem e0a6 {A0 A1 A2 A3 A4 A5 : Prop} {P : Prop} (h : A0 ∧ A1 ∧ A2 ∧ A3 ∧ A4 ∧ A5) (k : A0 → A1 → A2 → A3 → A4 → A5 → P) : P := k h.1 h.2.1 h.2.2.1 h.2.2.2.1 h.2.2.2.2.1 h.2.2.2.2.2
theorem e0a7 {A0 A1 A2 A3 A4 A5 A6 : Prop} {P : Prop} (h : A0 ∧ A1 ∧ A2 ∧ A3 ∧ A4 ∧ A5 ∧ A6) (k : A0 → A1 → A2 → A3 → A4 → A5 → A6 → P) : P := k h.1 h.2.1 h.2.2.1 h.2.2.2.1 h.2.2.2.2.1 h.2.2.2.2.2.1 h.2.2.2.2.2.2
theorem e0a8 {A0 A1 A2 A3 A4 A5 A6 A7 : Prop} {P : Prop} (h : A0 ∧ A1 ∧ A2 ∧ A3 ∧ A4 ∧ A5 ∧ A6 ∧ A7) (k : A0 → A1 → A2 → A3 → A4 → A5 → A6 → A7 → P) : P := k h.1 h.2.1 h.2.2.1 h.2.2.2.1 h.2.2.2.2.1 h.2.2.2.2.2.1 h.2.2.2.2.2.2.1 h.2.2.2.2.2.2.2
theorem e0a9 {A0 A1 A2 A3 A4 A5 A6 A7 A8 : Prop} {P : Prop} (h : A0 ∧ A1 ∧ A2 ∧ A3 ∧ A4 ∧ A5 ∧ A6 ∧ A7 ∧ A8) (k : A0 → A1 → A2 → A3 → A4 → A5 → A6 → A7 → A8 → P) : P := k h.1 h.2.1 h.2.2.1 h.2.2.2.1 h.2.2.2.2.1 h.2.2.2.2.2.1 h.2.2.2.2.2.2.1 h.2.2.2.2.2.2.2.1 h.2.2.2.2.2.2.2.2
theorem e1a1 {α0 : Type} {A0 : α0 → Prop} {P : Prop} (h : ∃ a0, A0 a0) (k : ∀ a0, A0 a0 → P) : P := h.elim k
theorem e1a2 {α0 : Type} {A0 A1 : α0 → Prop} {P : Prop} (h : ∃ a0, A0 a0 ∧ A1 a0) (k : ∀ a0, A0 a0 → A1 a0 → P) : P := h.elim fun a0 h => e0a2 h (k a0)
theorem e1a3 {α0 : Type} {A0 A1 A2 : α0 → Prop} {P : Prop} (h : ∃ a0, A0 a0 ∧ A1 a0 ∧ A2 a0) (k : ∀ a0, A0 a0 → A1 a0 → A2 a0 → P) : P := h.elim fun a0 h => e0a3 h (k a0)
theorem e1a4 {α0 : Type} {A0 A1 A2 A3 : α0 → Prop} {P : Prop} (h : ∃ a0, A0 a0 ∧ A1 a0 ∧ A2 a0 ∧ A3 a0) (k : ∀ a0, A0 a0 → A1 a0 → A2 a0 → A3 a0 → P) : P := h.elim fun a0 h => e0a4 h (k a0)
theorem e1a5 {α0 : Type} {A0 A1 A2 A3 A4 : α0 → Prop} {P : Prop} (h : ∃ a0, A0 a0 ∧ A1 a0 ∧ A2 a0 ∧ A3 a0 ∧ A4 a0) (k : ∀ a0, A0 a0 → A1 a0 → A2 a0 → A3 a0 → A4 a0 → P) : P := h.elim fun a0 h => e0a5 h (k a0)
theorem e1a6 {α0 : Type} {A0 A1 A2 A3 A4 A5 : α0 → Prop} {P : Prop} (h : ∃ a0, A0 a0 ∧ A1 a0 ∧ A2 a0 ∧ A3 a0 ∧ A4 a0 ∧ A5 a0) (k : ∀ a0, A0 a0 → A1 a0 → A2 a0 → A3 a0 → A4 a0 → A5 a0 → P) : P := h.elim fun a0 h => e0a6 h (k a0)
theorem e1a7 {α0 : Type} {A0 A1 A2 A3 A4 A5 A6 : α0 → Prop} {P : Prop} (h : ∃ a0, A0 a0 ∧ A1 a0 ∧ A2 a0 ∧ A3 a0 ∧ A4 a0 ∧ A5 a0 ∧ A6 a0) (k : ∀ a0, A0 a0 → A1 a0 → A2 a0 → A3 a0 → A4 a0 → A5 a0 → A6 a0 → P) : P := h.elim fun a0 h => e0a7 h (k a0)
theorem e1a8 {α0 : Type} {A0 A1 A2 A3 A4 A5 A6 A7 : α0 → Prop} {P : Prop} (h : ∃ a0, A0 a0 ∧ A1 a0 ∧ A2 a0 ∧ A3 a0 ∧ A4 a0 ∧ A5 a0 ∧ A6 a0 ∧ A7 a0) (k : ∀ a0, A0 a0 → A1 a0 → A2 a0 → A3 a0 → A4 a0 → A5 a0 → A6 a0 → A7 a0 → P) : P := h.elim fun a0 h => e0a8 h (k a0)
theorem e1a9 {α0 : Type} {A0 A1 A2 A3 A4 A5 A6 A7 A8 : α0 → Prop} {P : Prop} (h : ∃ a0, A0 a0 ∧ A1 a0 ∧ A2 a0 ∧ A3 a0 ∧ A4 a0 ∧ A5 a0 ∧ A6 a0 ∧ A7 a0 ∧ A8 a0) (k : ∀ a0, A0 a0 → A1 a0 → A2 a0 → A3 a0 → A4 a0 → A5 a0 → A6 a0 → A7 a0 → A8 a0 → P) : P := h.elim fun a0 h => e0a9 h (k a0)
theorem e2a1 {α0 α1 : Type} {A0 : α0 → α1 → Prop} {P : Prop} (h : ∃ a0 a1, A0 a0 a1) (k : ∀ a0 a1, A0 a0 a1 → P) : P := h.elim fun a0 h => e1a1 h (k a0)
theorem e2a2 {α0 α1 : Type} {A0 A1 : α0 → α1 → Prop} {P : Prop} (h : ∃ a0 a1, A0 a0 a1 ∧ A1 a0 a1) (k : ∀ a0 a1, A0 a0 a1 → A1 a0 a1 → P) : P := h.elim fun a0 h => e1a2 h (k a0)
theorem e2a3 {α0 α1 : Type} {A0 A1 A2 : α0 → α1 → Prop} {P : Prop} (h : ∃ a0 a1, A0 a0 a1 ∧ A1 a0 a1 ∧ A2 a0 a1) (k : ∀ a0 a1, A0 a0 a1 → A1 a0 a1 → A2 a0 a1 → P) : P := h.elim fun a0 h => e1a3 h (k a0)
theorem e2a4 {α0 α1 : Type} {A0 A1 A2 A3 : α0 → α1 → Prop} {P : Prop} (h : ∃ a0 a1, A0 a0 a1 ∧ A1 a0 a1 ∧ A2 a0 a1 ∧ A3 a0 a1) (k : ∀ a0 a1, A0 a0 a1 → A1 a0 a1 → A2 a0 a1 → A3 a0 a1 → P) : P := h.elim fun a0 h => e1a4 h (k a0)
theorem e2a5 {α0 α1 : Type} {A0 A1 A2 A3 A4 : α0 → α1 → Prop} {P : Prop} (h : ∃ a0 a1, A0 a0 a1 ∧ A1 a0 a1 ∧ A2 a0 a1 ∧ A3 a0 a1 ∧ A4 a0 a1) (k : ∀ a0 a1, A0 a0 a1 → A1 a0 a1 → A2 a0 a1 → A3 a0 a1 → A4 a0 a1 → P) : P := h.elim fun a0 h => e1a5 h (k a0)
theorem e2a6 {α0 α1 : Type} {A0 A1 A2 A3 A4 A5 : α0 → α1 → Prop} {P : Prop} (h : ∃ a0 a1, A0 a0 a1 ∧ A1 a0 a1 ∧ A2 a0 a1 ∧ A3 a0 a1 ∧ A4 a0 a1 ∧ A5 a0 a1) (k : ∀ a0 a1, A0 a0 a1 → A1 a0 a1 → A2 a0 a1 → A3 a0 a1 → A4 a0 a1 → A5 a0 a1 → P) : P := h.elim fun a0 h => e1a6 h (k a0)
theorem e2a7 {α0 α1 : Type} {A0 A1 A2 A3 A4 A5 A6 : α0 → α1 → Prop} {P : Prop} (h : ∃ a0 a1, A0 a0 a1 ∧ A1 a0 a1 ∧ A2 a0 a1 ∧ A3 a0 a1 ∧ A4 a0 a1 ∧ A5 a0 a1 ∧ A6 a0 a1) (k : ∀ a0 a1, A0 a0 a1 → A1 a0 a1 → A2 a0 a1 → A3 a0 a1 → A4 a0 a1 → A5 a0 a1 → A6 a0 a1 → P) : P := h.elim fun a0 h => e1a7 h (k a0)
theorem e2a8 {α0 α1 : Type} {A0 A1 A2 A3 A4 A5 A6 A7 : α0 → α1 → Prop} {P : Prop} (h : ∃ a0 a1, A0 a0 a1 ∧ A1 a0 a1 ∧ A2 a0 a1 ∧ A3 a0 a1 ∧ A4 a0 a1 ∧ A5 a0 a1 ∧ A6 a0 a1 ∧ A7 a0 a1) (k : ∀ a0 a1, A0 a0 a1 → A1 a0 a1 → A2 a0 a1 → A3 a0 a1 → A4 a0 a1 → A5 a0 a1 → A6 a0 a1 → A7 a0 a1 → P) : P := h.elim fun a0 h => e1a8 h (k a0)
theorem e2a9 {α0 α1 : Type} {A0 A1 A2 A3 A4 A5 A6 A7 A8 : α0 → α1 → Prop} {P : Prop} (h : ∃ a0 a1, A0 a0 a1 ∧ A1 a0 a1 ∧ A2 a0 a1 ∧ A3 a0 a1 ∧ A4 a0 a1 ∧ A5 a0 a1 ∧ A6 a0 a1 ∧ A7 a0 a1 ∧ A8 a0 a1) (k : ∀ a0 a1, A0 a0 a1 → A1 a0 a1 → A2 a0 a1 → A3 a0 a1 → A4 a0 a1 → A5 a0 a1 → A6 a0 a1 → A7 a0 a1 → A8 a0 a1 → P) : P := h.elim fun a0 h => e1a9 h (k a0)
theorem e3a2 {α0 α1 α2 : Type} {A0 A1 : α0 → α1 → α2 → Prop} {P : Prop} (h : ∃ a0 a1 a2, A0 a0 a1 a2 ∧ A1 a0 a1 a2) (k : ∀ a0 a1 a2, A0 a0 a1 a2 → A1 a0 a1 a2 → P) : P := h.elim fun a0 h => e2a2 h (k a0)
theorem e3a3 {α0 α1 α2 : Type} {A0 A1 A2 : α0 → α1 → α2 → Prop} {P : Prop} (h : ∃ a0 a1 a2, A0 a0 a1 a2 ∧ A1 a0 a1 a2 ∧ A2 a0 a1 a2) (k : ∀ a0 a1 a2, A0 a0 a1 a2 → A1 a0 a1 a2 → A2 a0 a1 a2 → P) : P := h.elim fun a0 h => e2a3 h (k a0)
theorem e3a4 {α0 α1 α2 : Type} {A0 A1 A2 A3 : α0 → α1 → α2 → Prop} {P : Prop} (h : ∃ a0 a1 a2, A0 a0 a1 a2 ∧ A1 a0 a1 a2 ∧ A2 a0 a1 a2 ∧ A3 a0 a1 a2) (k : ∀ a0 a1 a2, A0 a0 a1 a2 → A1 a0 a1 a2 → A2 a0 a1 a2 → A3 a0 a1 a2 → P) : P := h.elim fun a0 h => e2a4 h (k a0)
theorem e3a5 {α0 α1 α2 : Type} {A0 A1 A2 A3 A4 : α0 → α1 → α2 → Prop} {P : Prop} (h : ∃ a0 a1 a2, A0 a0 a1 a2 ∧ A1 a0 a1 a2 ∧ A2 a0 a1 a2 ∧ A3 a0 a1 a2 ∧ A4 a0 a1 a2) (k : ∀ a0 a1 a2, A0 a0 a1 a2 → A1 a0 a1 a2 → A2 a0 a1 a2 → A3 a0 a1 a2 → A4 a0 a1 a2 → P) : P := h.elim fun a0 h => e2a5 h (k a0)
theorem e3a6 {α0 α1 α2 : Type} {A0 A1 A2 A3 A4 A5 : α0 → α1 → α2 → Prop} {P : Prop} (h : ∃ a0 a1 a2, A0 a0 a1 a2 ∧ A1 a0 a1 a2 ∧ A2 a0 a1 a2 ∧ A3 a0 a1 a2 ∧ A4 a0 a1 a2 ∧ A5 a0 a1 a2) (k : ∀ a0 a1 a2, A0 a0 a1 a2 → A1 a0 a1 a2 → A2 a0 a1 a2 → A3 a0 a1 a2 → A4 a0 a1 a2 → A5 a0 a1 a2 → P) : P := h.elim fun a0 h => e2a6 h (k a0)
theorem e3a7 {α0 α1 α2 : Type} {A0 A1 A2 A3 A4 A5 A6 : α0 → α1 → α2 → Prop} {P : Prop} (h : ∃ a0 a1 a2, A0 a0 a1 a2 ∧ A1 a0 a1 a2 ∧ A2 a0 a1 a2 ∧ A3 a0 a1 a2 ∧ A4 a0 a1 a2 ∧ A5 a0 a1 a2 ∧ A6 a0 a1 a2) (k : ∀ a0 a1 a2, A0 a0 a1 a2 → A1 a0 a1 a2 → A2 a0 a1 a2 → A3 a0 a1 a2 → A4 a0 a1 a2 → A5 a0 a1 a2 → A6 a0 a1 a2 → P) : P := h.elim fun a0 h => e2a7 h (k a0)
theorem e3a8 {α0 α1 α2 : Type} {A0 A1 A2 A3 A4 A5 A6 A7 : α0 → α1 → α2 → Prop} {P : Prop} (h : ∃ a0 a1 a2, A0 a0 a1 a2 ∧ A1 a0 a1 a2 ∧ A2 a0 a1 a2 ∧ A3 a0 a1 a2 ∧ A4 a0 a1 a2 ∧ A5 a0 a1 a2 ∧ A6 a0 a1 a2 ∧ A7 a0 a1 a2) (k : ∀ a0 a1 a2, A0 a0 a1 a2 → A1 a0 a1 a2 → A2 a0 a1 a2 → A3 a0 a1 a2 → A4 a0 a1 a2 → A5 a0 a1 a2 → A6 a0 a1 a2 → A7 a0 a1 a2 → P) : P := h.elim fun a0 h => e2a8 h (k a0)
theorem e3a9 {α0 α1 α2 : Type} {A0 A1 A2 A3 A4 A5 A6 A7 A8 : α0 → α1 → α2 → Prop} {P : Prop} (h : ∃ a0 a1 a2, A0 a0 a1 a2 ∧ A1 a0 a1 a2 ∧ A2 a0 a1 a2 ∧ A3 a0 a1 a2 ∧ A4 a0 a1 a2 ∧ A5 a0 a1 a2 ∧ A6 a0 a1 a2 ∧ A7 a0 a1 a2 ∧ A8 a0 a1 a2) (k : ∀ a0 a1 a2, A0 a0 a1 a2 → A1 a0 a1 a2 → A2 a0 a1 a2 → A3 a0 a1 a2 → A4 a0 a1 a2 → A5 a0 a1 a2 → A6 a0 a1 a2 → A7 a0 a1 a2 → A8 a0 a1 a2 → P) : P := h.elim fun a0 h => e2a9 h (k a0)
theorem e4a2 {α0 α1 α2 α3 : Type} {A0 A1 : α0 → α1 → α2 → α3 → Prop} {P : Prop} (h : ∃ a0 a1 a2 a3, A0 a0 a1 a2 a3 ∧ A1 a0 a1 a2 a3) (k : ∀ a0 a1 a2 a3, A0 a0 a1 a2 a3 → A1 a0 a1 a2 a3 → P) : P := h.elim fun a0 h => e3a2 h (k a0)
theorem e4a3 {α0 α1 α2 α3 : Type} {A0 A1 A2 : α0 → α1 → α2 → α3 → Prop} {P : Prop} (h : ∃ a0 a1 a2 a3, A0 a0 a1 a2 a3 ∧ A1 a0 a1 a2 a3 ∧ A2 a0 a1 a2 a3) (k : ∀ a0 a1 a2 a3, A0 a0 a1 a2 a3 → A1 a0 a1 a2 a3 → A2 a0 a1 a2 a3 → P) : P := h.elim fun a0 h => e3a3 h (k a0)
theorem e4a5 {α0 α1 α2 α3 : Type} {A0 A1 A2 A3 A4 : α0 → α1 → α2 → α3 → Prop} {P : Prop} (h : ∃ a0 a1 a2 a3, A0 a0 a1 a2 a3 ∧ A1 a0 a1 a2 a3 ∧ A2 a0 a1 a2 a3 ∧ A3 a0 a1 a2 a3 ∧ A4 a0 a1 a2 a3) (k : ∀ a0 a1 a2 a3, A0 a0 a1 a2 a3 → A1 a0 a1 a2 a3 → A2 a0 a1 a2 a3 → A3 a0 a1 a2 a3 → A4 a0 a1 a2 a3 → P) : P := h.elim fun a0 h => e3a5 h (k a0)
theorem e4a6 {α0 α1 α2 α3 : Type} {A0 A1 A2 A3 A4 A5 : α0 → α1 → α2 → α3 → Prop} {P : Prop} (h : ∃ a0 a1 a2 a3, A0 a0 a1 a2 a3 ∧ A1 a0 a1 a2 a3 ∧ A2 a0 a1 a2 a3 ∧ A3 a0 a1 a2 a3 ∧ A4 a0 a1 a2 a3 ∧ A5 a0 a1 a2 a3) (k : ∀ a0 a1 a2 a3, A0 a0 a1 a2 a3 → A1 a0 a1 a2 a3 → A2 a0 a1 a2 a3 → A3 a0 a1 a2 a3 → A4 a0 a1 a2 a3 → A5 a0 a1 a2 a3 → P) : P := h.elim fun a0 h => e3a6 h (k a0)
theorem e4a8 {α0 α1 α2 α3 : Type} {A0 A1 A2 A3 A4 A5 A6 A7 : α0 → α1 → α2 → α3 → Prop} {P : Prop} (h : ∃ a0 a1 a2 a3, A0 a0 a1 a2 a3 ∧ A1 a0 a1 a2 a3 ∧ A2 a0 a1 a2 a3 ∧ A3 a0 a1 a2 a3 ∧ A4 a0 a1 a2 a3 ∧ A5 a0 a1 a2 a3 ∧ A6 a0 a1 a2 a3 ∧ A7 a0 a1 a2 a3) (k : ∀ a0 a1 a2 a3, A0 a0 a1 a2 a3 → A1 a0 a1 a2 a3 → A2 a0 a1 a2 a3 → A3 a0 a1 a2 a3 → A4 a0 a1 a2 a3 → A5 a0 a1 a2 a3 → A6 a0 a1 a2 a3 → A7 a0 a1 a2 a3 → P) : P := h.elim fun a0 h => e3a8 h (k a0)
theorem e4a9 {α0 α1 α2 α3 : Type} {A0 A1 A2 A3 A4 A5 A6 A7 A8 : α0 → α1 → α2 → α3 → Prop} {P : Prop} (h : ∃ a0 a1 a2 a3, A0 a0 a1 a2 a3 ∧ A1 a0 a1 a2 a3 ∧ A2 a0 a1 a2 a3 ∧ A3 a0 a1 a2 a3 ∧ A4 a0 a1 a2 a3 ∧ A5 a0 a1 a2 a3 ∧ A6 a0 a1 a2 a3 ∧ A7 a0 a1 a2 a3 ∧ A8 a0 a1 a2 a3) (k : ∀ a0 a1 a2 a3, A0 a0 a1 a2 a3 → A1 a0 a1 a2 a3 → A2 a0 a1 a2 a3 → A3 a0 a1 a2 a3 → A4 a0 a1 a2 a3 → A5 a0 a1 a2 a3 → A6 a0 a1 a2 a3 → A7 a0 a1 a2 a3 → A8 a0 a1 a2 a3 → P) : P := h.elim fun a0 h => e3a9 h (k a0)
theorem e5a6 {α0 α1 α2 α3 α4 : Type} {A0 A1 A2 A3 A4 A5 : α0 → α1 → α2 → α3 → α4 → Prop} {P : Prop} (h : ∃ a0 a1 a2 a3 a4, A0 a0 a1 a2 a3 a4 ∧ A1 a0 a1 a2 a3 a4 ∧ A2 a0 a1 a2 a3 a4 ∧ A3 a0 a1 a2 a3 a4 ∧ A4 a0 a1 a2 a3 a4 ∧ A5 a0 a1 a2 a3 a4) (k : ∀ a0 a1 a2 a3 a4, A0 a0 a1 a2 a3 a4 → A1 a0 a1 a2 a3 a4 → A2 a0 a1 a2 a3 a4 → A3 a0 a1 a2 a3 a4 → A4 a0 a1 a2 a3 a4 → A5 a0 a1 a2 a3 a4 → P) : P := h.elim fun a0 h => e4a6 h (k a0)
theorem e5a9 {α0 α1 α2 α3 α4 : Type} {A0 A1 A2 A3 A4 A5 A6 A7 A8 : α0 → α1 → α2 → α3 → α4 → Prop} {P : Prop} (h : ∃ a0 a1 a2 a3 a4, A0 a0 a1 a2 a3 a4 ∧ A1 a0 a1 a2 a3 a4 ∧ A2 a0 a1 a2 a3 a4 ∧ A3 a0 a1 a2 a3 a4 ∧ A4 a0 a1 a2 a3 a4 ∧ A5 a0 a1 a2 a3 a4 ∧ A6 a0 a1 a2 a3 a4 ∧ A7 a0 a1 a2 a3 a4 ∧ A8 a0 a1 a2 a3 a4) (k : ∀ a0 a1 a2 a3 a4, A0 a0 a1 a2 a3 a4 → A1 a0 a1 a2 a3 a4 → A2 a0 a1 a2 a3 a4 → A3 a0 a1 a2 a3 a4 → A4 a0 a1 a2 a3 a4 → A5 a0 a1 a2 a3 a4 → A6 a0 a1 a2 a3 a4 → A7 a0 a1 a2 a3 a4 → A8 a0 a1 a2 a3 a4 → P) : P := h.elim fun a0 h => e4a9 h (k a0)
theorem e6a6 {α0 α1 α2 α3 α4 α5 : Type} {A0 A1 A2 A3 A4 A5 : α0 → α1 → α2 → α3 → α4 → α5 → Prop} {P : Prop} (h : ∃ a0 a1 a2 a3 a4 a5, A0 a0 a1 a2 a3 a4 a5 ∧ A1 a0 a1 a2 a3 a4 a5 ∧ A2 a0 a1 a2 a3 a4 a5 ∧ A3 a0 a1 a2 a3 a4 a5 ∧ A4 a0 a1 a2 a3 a4 a5 ∧ A5 a0 a1 a2 a3 a4 a5) (k : ∀ a0 a1 a2 a3 a4 a5, A0 a0 a1 a2 a3 a4 a5 → A1 a0 a1 a2 a3 a4 a5 → A2 a0 a1 a2 a3 a4 a5 → A3 a0 a1 a2 a3 a4 a5 → A4 a0 a1 a2 a3 a4 a5 → A5 a0 a1 a2 a3 a4 a5 → P) : P := h.elim fun a0 h => e5a6 h (k a0)
theorem e7a6 {α0 α1 α2 α3 α4 α5 α6 : Type} {A0 A1 A2 A3 A4 A5 : α0 → α1 → α2 → α3 → α4 → α5 → α6 → Prop} {P : Prop} (h : ∃ a0 a1 a2 a3 a4 a5 a6, A0 a0 a1 a2 a3 a4 a5 a6 ∧ A1 a0 a1 a2 a3 a4 a5 a6 ∧ A2 a0 a1 a2 a3 a4 a5 a6 ∧ A3 a0 a1 a2 a3 a4 a5 a6 ∧ A4 a0 a1 a2 a3 a4 a5 a6 ∧ A5 a0 a1 a2 a3 a4 a5 a6) (k : ∀ a0 a1 a2 a3 a4 a5 a6, A0 a0 a1 a2 a3 a4 a5 a6 → A1 a0 a1 a2 a3 a4 a5 a6 → A2 a0 a1 a2 a3 a4 a5 a6 → A3 a0 a1 a2 a3 a4 a5 a6 → A4 a0 a1 a2 a3 a4 a5 a6 → A5 a0 a1 a2 a3 a4 a5 a6 → P) : P := h.elim fun a0 h => e6a6 h (k a0)
local macro_rules | `(tactic| walk_at "o") => `(tactic| first
  | with_reducible assumption
  | decide
  | with_reducible exact Nat.le_trans (by assumption) (by with_unfolding_all decide)
  | with_reducible exact Nat.lt_of_lt_of_le (by assumption) (by with_unfolding_all decide)
  | with_reducible exact Nat.lt_of_le_of_lt (by assumption) (by with_unfolding_all decide)
  | with_reducible exact Nat.lt_of_lt_of_le (by assumption) (by assumption)
  | with_reducible exact Nat.le_of_lt (by assumption)
  | with_reducible exact Int.natCast_nonneg _
  | omega)
inductive D where
  | none
  | bool (b : Bool)
  | int (i : Int)
  | str (s : Str)
  | list (xs : List D)
  | tuple (xs : List D)
  | typ (n : String)
  | bi (n : String)
  | ref (a : Addr)
  | range (a b c : Int)
  deriving Inhabited

noncomputable abbrev Wd := Addr → Option Obj
noncomputable def Sub (w w' : Wd) : Prop := ∀ a o, w a = some o → w' a = some o
theorem Sub.refl (w : Wd) : Sub w w := fun _ _ e => e
theorem Sub.trans {a b c : Wd} (x : Sub a b) (y : Sub b c) : Sub a c := fun _ _ e => y _ _ (x _ _ e)

noncomputable abbrev seqO (cls : String) (vs : Array Value) (n : Nat) : Obj := { cls := .type cls, data := .seq vs n }

mutual
noncomputable def Rel (w : Wd) : D → Value → Prop
  | .none, v => v = .none
  | .bool b, v => v = .bool b
  | .int i, v => ∃ t, v = .int i t
  | .str s, v => PyData.strOk s = true ∧ ∃ t, v = .str s t
  | .list ds, v => ∃ a vs n, v = .ref a ∧ w a = some (seqO "list" vs n) ∧ Rels w ds vs.toList
  | .tuple ds, v => ∃ a vs n, v = .ref a ∧ w a = some (seqO "tuple" vs n) ∧ Rels w ds vs.toList
  | .typ n, v => v = .type n
  | .bi n, v => v = .builtin n
  | .ref a, v => v = .ref a
  | .range x y z, v => ∃ r t u k, v = .ref r ∧ w r = some { cls := .type "range", data := .fields #[.int x t, .int y u, .int z k] }
noncomputable def Rels (w : Wd) : List D → List Value → Prop
  | [], vs => vs = []
  | d :: ds, vs => ∃ v r, vs = v :: r ∧ Rel w d v ∧ Rels w ds r
end

mutual
theorem Rel.mono {w w' : Wd} (h : Sub w w') : ∀ {d : D} {v : Value}, Rel w d v → Rel w' d v
  | .none, _, e => by simp only [Rel] at e ⊢; exact e
  | .bool b, _, e => by simp only [Rel] at e ⊢; exact e
  | .int i, _, e => by simp only [Rel] at e ⊢; exact e
  | .str s, _, e => by simp only [Rel] at e ⊢; exact e
  | .list ds, _, e => by
    simp only [Rel] at e ⊢
    refine e3a3 e ?_
    try clear e
    intro a vs n h1 h2 h3
    exact ⟨a, vs, n, h1, h _ _ h2, Rels.mono h h3⟩
  | .tuple ds, _, e => by
    simp only [Rel] at e ⊢
    refine e3a3 e ?_
    try clear e
    intro a vs n h1 h2 h3
    exact ⟨a, vs, n, h1, h _ _ h2, Rels.mono h h3⟩
  | .typ n, _, e => by simp only [Rel] at e ⊢; exact e
  | .bi n, _, e => by simp only [Rel] at e ⊢; exact e
  | .ref a, _, e => by simp only [Rel] at e ⊢; exact e
  | .range x y z, _, e => by
    simp only [Rel] at e ⊢
    refine e4a2 e ?_
    try clear e
    intro r t u k h1 h2
    exact ⟨r, t, u, k, h1, h _ _ h2⟩
theorem Rels.mono {w w' : Wd} (h : Sub w w') : ∀ {ds : List D} {vs : List Value}, Rels w ds vs → Rels w' ds vs
  | [], _, e => by simp only [Rels] at e ⊢; exact e
  | d :: ds, _, e => by
    simp only [Rels] at e ⊢
    refine e2a3 e ?_
    try clear e
    intro v r h1 h2 h3
    exact ⟨v, r, h1, h2.mono h, Rels.mono h h3⟩
end

theorem Rels.length {w : Wd} : ∀ {ds : List D} {vs : List Value}, Rels w ds vs → vs.length = ds.length
  | [], _, e => by simp only [Rels] at e; subst e; rfl
  | d :: ds, _, e => by
    simp only [Rels] at e
    refine e2a3 e ?_
    try clear e
    intro v r zq1 _ h
    subst zq1
    simp only [List.length_cons, Rels.length h]
theorem Rels.append {w : Wd} : ∀ {ds : List D} {vs : List Value} {es : List D} {us : List Value}, Rels w ds vs → Rels w es us → Rels w (ds ++ es) (vs ++ us)
  | [], _, _, _, e, f => by simp only [Rels] at e; subst e; exact f
  | d :: ds, _, _, _, e, f => by
    simp only [Rels] at e
    refine e2a3 e ?_
    try clear e
    intro v r zq2 h1 h2
    subst zq2
    simp only [List.cons_append, Rels]
    exact ⟨v, _, rfl, h1, Rels.append h2 f⟩
theorem Rels.one {w : Wd} {d : D} {v : Value} (h : Rel w d v) : Rels w [d] [v] := by simp only [Rels]; exact ⟨v, [], rfl, h, rfl⟩
theorem Rels.nil {w : Wd} : Rels w [] [] := by simp only [Rels]
theorem Rels.cons {w : Wd} {d : D} {v : Value} {ds : List D} {vs : List Value} (h : Rel w d v) (r : Rels w ds vs) : Rels w (d :: ds) (v :: vs) := by
  simp only [Rels]; exact ⟨v, vs, rfl, h, r⟩
theorem Rels.get {w : Wd} : ∀ {ds : List D} {vs : List Value}, Rels w ds vs → ∀ {i : Nat} {d : D}, ds[i]? = some d → ∃ v, vs[i]? = some v ∧ Rel w d v
  | [], _, _, i, d, q => by simp at q
  | d :: ds, _, e, i, d', q => by
    simp only [Rels] at e
    refine e2a3 e ?_
    try clear e
    intro v r zq3 h1 h2
    subst zq3
    cases i with
    | zero => simp at q; subst q; exact ⟨v, rfl, h1⟩
    | succ i => simp at q; simpa using h2.get q
theorem Rels.getNone {w : Wd} {ds : List D} {vs : List Value} (h : Rels w ds vs) {i : Nat} (q : ds[i]? = .none) : vs[i]? = .none := by
  rw [List.getElem?_eq_none_iff] at q ⊢; rw [h.length]; exact q
theorem Rels.split {w : Wd} : ∀ {ds es : List D} {vs : List Value}, Rels w (ds ++ es) vs → ∃ us ts, vs = us ++ ts ∧ Rels w ds us ∧ Rels w es ts
  | [], _, vs, e => ⟨[], vs, rfl, .nil, e⟩
  | d :: ds, es, _, e => by
    simp only [List.cons_append, Rels] at e
    refine e2a3 e ?_
    try clear e
    intro v r zq4 h1 h2
    subst zq4
    refine e2a3 h2.split fun us ts zq5 h3 h4 => ?_
    subst zq5
    exact ⟨v :: us, ts, rfl, .cons h1 h3, h4⟩
theorem Rels.set {w : Wd} {d : D} {v : Value} (hv : Rel w d v) : ∀ {ds : List D} {vs : List Value}, Rels w ds vs → ∀ {i : Nat}, Rels w (ds.set i d) (vs.set i v)
  | [], _, e, i => by simp only [Rels] at e; subst e; simp [Rels]
  | x :: ds, _, e, i => by
    simp only [Rels] at e
    refine e2a3 e ?_
    try clear e
    intro u r zq6 h1 h2
    subst zq6
    cases i with
    | zero => exact .cons hv h2
    | succ i => exact .cons h1 (Rels.set hv h2)

inductive Key where
  | int (i : Int)
  | str (s : Str)
  deriving DecidableEq, Inhabited
noncomputable def Key.d : Key → D
  | .int i => .int i
  | .str s => .str s
noncomputable def Key.is : Key → Value → Bool
  | .int i, v => Value.isInt i v
  | .str s, v => Value.isStrOf s v
theorem Key.is_int {i : Int} {v : Value} (h : Key.is (.int i) v = true) : ∃ t, v = .int i t := Value.isInt_shape h
theorem Key.is_str {s : Str} {v : Value} (h : Key.is (.str s) v = true) : ∃ t, v = .str s t := Value.isStrOf_shape h
noncomputable def Key.ok : Key → Bool
  | .int _ => true
  | .str s => PyData.strOk s
theorem Key.is_of_rel {w : Wd} {k : Key} {v : Value} (h : Rel w k.d v) : k.is v = true ∧ k.ok = true := by
  cases k with
  | int i => simp only [Key.d, Rel] at h; obtain ⟨t, rfl⟩ := h; simp [Key.is, Value.isInt, Key.ok]
  | str s => simp only [Key.d, Rel] at h; obtain ⟨o, t, rfl⟩ := h; simp [Key.is, Value.isStrOf, Key.ok, o]
theorem Key.rel_of_is {w : Wd} {k : Key} {v : Value} (h : k.is v = true) (o : k.ok = true) : Rel w k.d v := by
  cases k with
  | int i => obtain ⟨t, rfl⟩ := Key.is_int h; simp only [Key.d, Rel]; exact ⟨t, rfl⟩
  | str s => obtain ⟨t, rfl⟩ := Key.is_str h; simp only [Key.d, Rel]; exact ⟨o, t, rfl⟩
theorem Key.scannable {k : Key} {v : Value} (h : k.is v = true) : v.scannable = true := by
  cases k with
  | int i => obtain ⟨t, rfl⟩ := Key.is_int h; rfl
  | str s => obtain ⟨t, rfl⟩ := Key.is_str h; rfl


noncomputable def keyHash (wd : World) : Key → Int
  | .int i => hashInt i
  | .str s => hashStr wd s
theorem eqBool_mixed1 {prog : Program} {w : World} {A : Around} {E : Value → Shared → Prop} {s : Shared} {i : Int} {t : Tok} {x : Str} {u : Tok} {Q : Bool → Shared → Prop} (hq : Q false s) :
    wpAny (model prog w) A (eqBool (.int i t) (.str x u)) Q E s := by
  unfold eqBool
  refine wpAny_holding ?_
  rw [if_neg (by simp)]
  exact wpAny_bind (EqMixed.eq_int_str (wpAny_truthy_bool hq))
theorem eqBool_mixed2 {prog : Program} {w : World} {A : Around} {E : Value → Shared → Prop} {s : Shared} {i : Int} {t : Tok} {x : Str} {u : Tok} {Q : Bool → Shared → Prop} (hq : Q false s) :
    wpAny (model prog w) A (eqBool (.str x u) (.int i t)) Q E s := by
  unfold eqBool
  refine wpAny_holding ?_
  rw [if_neg (by simp)]
  exact wpAny_bind (EqMixed.eq_str_int (wpAny_truthy_bool hq))

theorem beq_key (i j : Int) : decide (Key.int i = Key.int j) = (i == j) := by by_cases q : i = j <;> simp [q]

noncomputable def kk (prog : Program) (w : World) : KeyKind prog w Key where
  is := Key.is
  hash := keyHash w
  inj := fun v a b ha hb => by
    cases a with
    | int i => obtain ⟨t, rfl⟩ := Key.is_int ha; cases b with
      | int j => obtain ⟨u, e⟩ := Key.is_int hb; cases e; rfl
      | str y => obtain ⟨u, e⟩ := Key.is_str hb; cases e
    | str x => obtain ⟨t, rfl⟩ := Key.is_str ha; cases b with
      | int j => obtain ⟨u, e⟩ := Key.is_int hb; cases e
      | str y => obtain ⟨u, e⟩ := Key.is_str hb; cases e; rfl
  byValue := fun k v h => by
    cases k with
    | int i => obtain ⟨t, rfl⟩ := Key.is_int h; rfl
    | str x => obtain ⟨t, rfl⟩ := Key.is_str h; rfl
  pyHash := fun {_ _ _ k _ _} hv h => by
    cases k with
    | int i => obtain ⟨t, rfl⟩ := Key.is_int hv; exact wpAny_pyHash_int h
    | str x => obtain ⟨t, rfl⟩ := Key.is_str hv; exact wpAny_pyHash_str h
  eqBool := fun {_ _ _ a b _ _ _} hu hv h => by
    cases a with
    | int i => obtain ⟨t, rfl⟩ := Key.is_int hu; cases b with
      | int j => obtain ⟨u, rfl⟩ := Key.is_int hv; exact wpAny_eqBool_int (beq_key i j ▸ h)
      | str y => obtain ⟨u, rfl⟩ := Key.is_str hv; exact eqBool_mixed1 (by simpa using h)
    | str x => obtain ⟨t, rfl⟩ := Key.is_str hu; cases b with
      | int j => obtain ⟨u, rfl⟩ := Key.is_int hv; exact eqBool_mixed2 (by simpa using h)
      | str y => obtain ⟨u, rfl⟩ := Key.is_str hv; exact wpAny_eqBool_str (by simpa using h)
  «strs» := fun k x t v h => by
    cases k with
    | int i => obtain ⟨u, e⟩ := Key.is_int h; cases e
    | str y => obtain ⟨u, e⟩ := Key.is_str h; cases e; cases v <;> rfl

inductive O where
  | list (xs : List D)
  | dict (es : List (Key × D)) (n : Nat)
  | set (xs : List Key)
  | inst (C d : Addr)
  | attrs (es : List (Str × D))
  | slots (C : Addr) (xs : List D)
  | ns (loc : List (Str × D))
  | cell (v : Option D)
  | exc (cls : Value) (args : List D)
  | rcd (cls : String) (vs : List Value)
  | riter (x n st : Int)
  | raw (ob : Obj)
noncomputable abbrev Led := List (Addr × O)

noncomputable def EntRel (wd : World) (w : Wd) : List (Key × D) → List DictEntry → Prop
  | [], es => es = []
  | (k, d) :: r, es => ∃ e t, es = e :: t ∧ k.is e.key = true ∧ k.ok = true ∧ e.hash = keyHash wd k ∧ Rel w d e.val ∧ EntRel wd w r t
theorem EntRel.mono {wd : World} {w w' : Wd} (h : Sub w w') : ∀ {ks : List (Key × D)} {es : List DictEntry}, EntRel wd w ks es → EntRel wd w' ks es
  | [], _, e => e
  | (k, d) :: r, _, ⟨e, t, h0, h1, ho, h2, h3, h4⟩ => ⟨e, t, h0, h1, ho, h2, h3.mono h, EntRel.mono h h4⟩

set_option genInjectivity false in
structure Cx where
  prog : Program
  wd : World
  base : Heap
  K : Frag
  os : OsState

noncomputable def slotsOk (w : Wd) (xs : List D) (sl : Array (Option Value)) : Prop := ∃ vs : List Value, sl = (vs.map some).toArray ∧ Rels w xs vs

noncomputable def OAt (c : Cx) (w : Wd) (h : Heap) (a : Addr) : O → Prop
  | .list xs => ∃ vs n, h.get? a = some (seqO "list" vs n) ∧ Rels w xs vs.toList ∧ xs.length ≤ 1000000
  | .dict es n => ∃ ents, h.get? a = some { cls := .type "dict", data := .dict ents n } ∧ EntRel c.wd w es ents.toList ∧ (es.map (·.1)).Nodup ∧ es.length ≤ 1000000 ∧ (a == sysModules) = false
  | .set ks => h.SetOf (kk c.prog c.wd) a (fun k => decide (k ∈ ks)) ks.length ∧ ks.Nodup ∧ ∀ k ∈ ks, k.ok = true
  | .inst C d => h.get? a = some { cls := .ref C, dict := some d }
  | .attrs es => ∃ ob ents n, h.get? a = some ob ∧ ob.data = .dict ents n ∧ StrKeys ents ∧ (∀ x, match es.lookup x with | some d => ∃ v, nsFind ents x = some v ∧ Rel w d v | none => nsFind ents x = none) ∧ ents.size ≤ es.length
  | .slots C xs => ∃ sl dx, h.get? a = some { cls := .ref C, dict := some dx, slots := sl } ∧ w dx = some { cls := .type "dict", data := .dict #[] } ∧ slotsOk w xs sl
  | .ns es => ∃ ob ents n, h.get? a = some ob ∧ ob.data = .dict ents n ∧ StrKeys ents ∧ ∀ x d, es.lookup x = some d → ∃ v, nsFind ents x = some v ∧ Rel w d v
  | .cell none => ∃ v, h.IsCell a v
  | .cell (some d) => ∃ v, h.IsCell a (some v) ∧ Rel w d v
  | .exc cls args => ∃ ob vs t, h.get? a = some ob ∧ ob.cls = cls ∧ ob.data = .fields vs ∧ vs[0]? = some (.ref t) ∧ ∃ us n, w t = some (seqO "tuple" us n) ∧ Rels w args us.toList
  | .rcd cls vs => ∃ ob, h.get? a = some ob ∧ ob.cls = .type cls ∧ ob.data = .fields vs.toArray
  | .riter x n st => IsRangeIter h a x n st
  | .raw ob => h.get? a = some ob ∧ ∀ es n, ob.data ≠ .dict es n

theorem OAt.mono {c : Cx} {w w' : Wd} (hw : Sub w w') {h : Heap} {a : Addr} {o : O} (x : OAt c w h a o) : OAt c w' h a o := by
  cases o with
  | list xs => exact Exists.imp (fun vs => Exists.imp fun n z => ⟨z.1, z.2.1.mono hw, z.2.2⟩) x
  | dict es n => exact Exists.imp (fun ents z => ⟨z.1, z.2.1.mono hw, z.2.2⟩) x
  | attrs es => exact Exists.imp (fun ob => Exists.imp fun ents => Exists.imp fun n z => ⟨z.1, z.2.1, z.2.2.1, fun y => by
      have q := z.2.2.2.1 y
      cases e : es.lookup y with
      | none => rw [e] at q; exact q
      | some d => rw [e] at q; exact Exists.imp (fun v r => ⟨r.1, r.2.mono hw⟩) q, z.2.2.2.2⟩) x
  | slots C xs => exact Exists.imp (fun sl => Exists.imp fun dx z => ⟨z.1, hw _ _ z.2.1, Exists.imp (fun vs r => ⟨r.1, r.2.mono hw⟩) z.2.2⟩) x
  | ns es => exact Exists.imp (fun ob => Exists.imp fun ents => Exists.imp fun n z => ⟨z.1, z.2.1, z.2.2.1, fun y d e => Exists.imp (fun v r => ⟨r.1, r.2.mono hw⟩) (z.2.2.2 y d e)⟩) x
  | cell v => cases v with
    | none => exact x
    | some d => exact Exists.imp (fun v r => ⟨r.1, r.2.mono hw⟩) x
  | exc cls args => exact Exists.imp (fun ob => Exists.imp fun vs => Exists.imp fun t z => ⟨z.1, z.2.1, z.2.2.1, z.2.2.2.1, Exists.imp (fun us => Exists.imp fun n r => ⟨hw _ _ r.1, r.2.mono hw⟩) z.2.2.2.2⟩) x
  | _ => exact x
theorem OAt.congr {c : Cx} {w : Wd} {h h' : Heap} {a : Addr} (e : h'.get? a = h.get? a) {o : O} (x : OAt c w h a o) : OAt c w h' a o := by
  cases o with
  | list xs => exact Exists.imp (fun vs => Exists.imp fun n z => ⟨e.trans z.1, z.2⟩) x
  | dict es n => exact Exists.imp (fun ents z => ⟨e.trans z.1, z.2⟩) x
  | set ks => exact ⟨Exists.imp (fun o => Exists.imp fun es => Exists.imp fun ep => Exists.imp fun t z => ⟨e.trans z.1, z.2⟩) x.1, x.2⟩
  | inst C d => exact e.trans x
  | attrs es => exact Exists.imp (fun ob => Exists.imp fun ents => Exists.imp fun n z => ⟨e.trans z.1, z.2⟩) x
  | slots C xs => exact Exists.imp (fun sl => Exists.imp fun dx z => ⟨e.trans z.1, z.2⟩) x
  | ns es => exact Exists.imp (fun ob => Exists.imp fun ents => Exists.imp fun n z => ⟨e.trans z.1, z.2⟩) x
  | cell v => cases v with
    | none => exact Exists.imp (fun v => Exists.imp fun o z => ⟨e.trans z.1, z.2⟩) x
    | some d => exact Exists.imp (fun v r => ⟨Exists.imp (fun o z => ⟨e.trans z.1, z.2⟩) r.1, r.2⟩) x
  | exc cls args => exact Exists.imp (fun ob => Exists.imp fun vs => Exists.imp fun t z => ⟨e.trans z.1, z.2⟩) x
  | rcd cls vs => exact Exists.imp (fun ob z => ⟨e.trans z.1, z.2⟩) x
  | riter y n st => exact e.trans x
  | raw ob => exact ⟨e.trans x.1, x.2⟩
theorem OAt.there {c : Cx} {w : Wd} {h : Heap} {a : Addr} {o : O} (x : OAt c w h a o) : ∃ ob, h.get? a = some ob := by
  cases o with
  | list xs => exact let ⟨_, _, z⟩ := x; ⟨_, z.1⟩
  | dict es n => exact let ⟨_, z⟩ := x; ⟨_, z.1⟩
  | set ks => exact let ⟨⟨_, _, _, _, z⟩, _⟩ := x; ⟨_, z.1⟩
  | inst C d => exact ⟨_, x⟩
  | attrs es => exact let ⟨_, _, _, z⟩ := x; ⟨_, z.1⟩
  | slots C xs => exact let ⟨_, _, z⟩ := x; ⟨_, z.1⟩
  | ns es => exact let ⟨_, _, _, z⟩ := x; ⟨_, z.1⟩
  | cell v => cases v with
    | none => exact let ⟨_, _, z⟩ := x; ⟨_, z.1⟩
    | some d => exact let ⟨_, ⟨_, z⟩, _⟩ := x; ⟨_, z.1⟩
  | exc cls args => exact let ⟨_, _, _, z⟩ := x; ⟨_, z.1⟩
  | rcd cls vs => exact let ⟨_, z⟩ := x; ⟨_, z.1⟩
  | riter y n st => exact ⟨_, x⟩
  | raw ob => exact ⟨_, x.1⟩
theorem OAt.sm {c : Cx} {w : Wd} {h : Heap} {a : Addr} {es : List (Key × D)} {n : Nat} : OAt c w h a (.dict es n) → (a == sysModules) = false
  | ⟨_, _, _, _, _, x⟩ => x
noncomputable def O.tag : O → Nat
  | .dict _ _ => 1
  | .attrs _ => 1
  | .ns _ => 2
  | _ => 0
theorem OAt.dict {c : Cx} {w : Wd} {h : Heap} {a : Addr} {o : O} (x : OAt c w h a o) (e : o.tag ≠ 0) : ∃ ob es n, h.get? a = some ob ∧ ob.data = .dict es n := by
  cases o with
  | dict es n => obtain ⟨ents, h1, h2⟩ := x; exact ⟨_, ents, n, h1, rfl⟩
  | ns es => obtain ⟨ob, ents, n, h1, h2, _⟩ := x; exact ⟨ob, ents, n, h1, h2⟩
  | attrs es => obtain ⟨ob, ents, n, h1, h2, _⟩ := x; exact ⟨ob, ents, n, h1, h2⟩
  | _ => exact absurd rfl e
theorem nd_seq {h : Heap} {a : Addr} {ob ob0 : Obj} {xs : Array Value} {k : Nat} (e0 : h.get? a = some ob0) (hd : ob0.data = .seq xs k) (e' : h.get? a = some ob) (es : Array DictEntry) (m : Nat) : ob.data ≠ .dict es m := by
  cases e0.symm.trans e'; rw [hd]; exact nofun
theorem nd_plain {h : Heap} {a : Addr} {ob ob0 : Obj} (e0 : h.get? a = some ob0) (hd : ob0.data = .plain) (e' : h.get? a = some ob) (es : Array DictEntry) (m : Nat) : ob.data ≠ .dict es m := by
  cases e0.symm.trans e'; rw [hd]; exact nofun
theorem nd_fields {h : Heap} {a : Addr} {ob ob0 : Obj} {xs : Array Value} (e0 : h.get? a = some ob0) (hd : ob0.data = .fields xs) (e' : h.get? a = some ob) (es : Array DictEntry) (m : Nat) : ob.data ≠ .dict es m := by
  cases e0.symm.trans e'; rw [hd]; exact nofun
theorem nd_cell {h : Heap} {a : Addr} {ob ob0 : Obj} {v : Option Value} (e0 : h.get? a = some ob0) (hd : ob0.data = .cell v) (e' : h.get? a = some ob) (es : Array DictEntry) (m : Nat) : ob.data ≠ .dict es m := by
  cases e0.symm.trans e'; rw [hd]; exact nofun
theorem nd_set {h : Heap} {a : Addr} {ob ob0 : Obj} {z : Data} (e0 : h.get? a = some ob0) (hd : ob0.data = z) (hz : ∀ es m, z ≠ .dict es m) (e' : h.get? a = some ob) (es : Array DictEntry) (m : Nat) : ob.data ≠ .dict es m := by
  cases e0.symm.trans e'; rw [hd]; exact hz es m
theorem OAt.nodict {c : Cx} {w : Wd} {h : Heap} {a : Addr} {o : O} (x : OAt c w h a o) (e : o.tag = 0) (ob : Obj) (es : Array DictEntry) (m : Nat) (e' : h.get? a = some ob) : ob.data ≠ .dict es m := by
  cases o with
  | dict es n => exact nomatch e
  | ns es => exact nomatch e
  | attrs es => exact nomatch e
  | list xs => exact let ⟨_, _, z⟩ := x; nd_seq z.1 rfl e' es m
  | set ks => exact let ⟨⟨_, _, _, _, z⟩, _⟩ := x; nd_set z.1 z.2.2.1 nofun e' es m
  | inst C d => exact nd_plain x rfl e' es m
  | slots C xs => exact let ⟨_, _, z⟩ := x; nd_plain z.1 rfl e' es m
  | cell v => cases v with
    | none => exact let ⟨_, _, z⟩ := x; nd_cell z.1 z.2 e' es m
    | some d => exact let ⟨_, ⟨_, z⟩, _⟩ := x; nd_cell z.1 z.2 e' es m
  | exc cls args => exact let ⟨_, _, _, z⟩ := x; nd_fields z.1 z.2.2.1 e' es m
  | rcd cls vs => exact let ⟨_, z⟩ := x; nd_fields z.1 z.2.2 e' es m
  | riter y n st => exact nd_fields x rfl e' es m
  | raw ob0 => exact fun q => by cases x.1.symm.trans e'; exact x.2 _ _ q

noncomputable def FrOk (w : Wd) (h : Heap) (G : Led) (l : List Env) : Prop :=
  ∀ env ∈ l, env.scope.kind ≠ .module ∧ ∃ L, env.frame = some L ∧ w L = none ∧ (∃ ob es n, h.get? L = some ob ∧ ob.data = .dict es n) ∧ ∀ o, (L, o) ∈ G → o.tag = 2

structure Sim (c : Cx) (l : List Env) (w : Wd) (G : Led) (s : Shared) : Prop where
  wok : ∀ a o, w a = some o → s.heap.get? a = some o
  wbase : ∀ a o, c.base.get? a = some o → w a = some o
  nd : (G.map (·.1)).Nodup
  ents : ∀ p ∈ G, w p.1 = none ∧ OAt c w s.heap p.1 p.2
  frs : FrOk w s.heap G l
  gens : s.gens = #[]
  os : s.os = c.os

section
variable {c : Cx} {l : List Env} {w : Wd} {G G' : Led} {s : Shared}
theorem Sim.toks (S : Sim c l w G s) (t : Nat) : Sim c l w G { s with toks := t } := ⟨S.wok, S.wbase, S.nd, S.ents, S.frs, S.gens, S.os⟩
theorem Sim.sub (S : Sim c l w G s) (h : ∀ p ∈ G', p ∈ G) (nd : (G'.map (·.1)).Nodup) : Sim c l w G' s :=
  ⟨S.wok, S.wbase, nd, fun p hp => S.ents p (h p hp), fun env he => let ⟨k, L, h1, h2, h3, h4⟩ := S.frs env he; ⟨k, L, h1, h2, h3, fun o ho => h4 o (h _ ho)⟩, S.gens, S.os⟩
theorem Sim.perm (S : Sim c l w G s) (h : G'.Perm G) : Sim c l w G' s :=
  S.sub (fun p hp => h.mem_iff.mp hp) ((h.map _).nodup_iff.mpr S.nd)
theorem Sim.tail {A B : Led} (S : Sim c l w (A ++ B) s) : Sim c l w B s :=
  S.sub (fun p hp => List.mem_append_right _ hp) (by have := S.nd; rw [List.map_append] at this; exact (List.nodup_append.mp this).2.1)
theorem Sim.get {a : Addr} {o : O} (S : Sim c l w G s) (h : (a, o) ∈ G) : OAt c w s.heap a o := (S.ents _ h).2
theorem Sim.keep (S : Sim c l w G s) : ∀ b o, c.base.get? b = some o → s.heap.get? b = some o := fun b o e => S.wok _ _ (S.wbase _ _ e)
theorem Sim.lt {p : Addr × O} (S : Sim c l w G s) (h : p ∈ G) : p.1 < s.heap.objs.size := let ⟨_, e⟩ := (S.ents p h).2.there; Heap.lt_size e

theorem Sim.put {A B : Led} {a : Addr} {o o' : O} {h' : Heap} {tk : Nat} (S : Sim c l w (A ++ (a, o) :: B) s) (hs : Heap.SameBut a s.heap h') (ho : OAt c w h' a o') (hd : o.tag = o'.tag) :
    Sim c l w (A ++ (a, o') :: B) { s with heap := h', toks := tk } := by
  have e := S.nd
  have ha := S.ents (a, o) (by simp)
  have wk : ∀ b ob, w b = some ob → h'.get? b = some ob := fun b ob e' => by
    rw [hs.2 b (fun q => by rw [q, ha.1] at e'; cases e')]; exact S.wok b ob e'
  refine ⟨wk, S.wbase, ?_, fun p hp => ?_, fun env he => ?_, S.gens, S.os⟩
  · simpa using e
  · have other : p ∈ A ∨ p ∈ B → w p.1 = none ∧ OAt c w h' p.1 p.2 := fun q => by
      have pm : p ∈ A ++ (a, o) :: B := by rcases q with q | q <;> simp [q]
      have ne : p.1 ≠ a := by
        rw [List.map_append, List.map_cons, List.nodup_append, List.nodup_cons] at e
        rcases q with q | q
        · exact fun z => e.2.2 p.1 (List.mem_map_of_mem q) a (by simp) z
        · exact fun z => e.2.1.1 (List.mem_map.mpr ⟨p, q, z⟩)
      exact ⟨(S.ents p pm).1, (S.ents p pm).2.congr (hs.2 _ ne)⟩
    rcases List.mem_append.mp hp with q | q
    · exact other (.inl q)
    · rcases List.mem_cons.mp q with rfl | q
      · exact ⟨ha.1, ho⟩
      · exact other (.inr q)
  · refine e0a2 (S.frs env he) fun k zq7 => ?_
    obtain ⟨L, h1, h2, ⟨ob, es, n, h3, h4⟩, h5⟩ := zq7
    refine ⟨k, L, h1, h2, ?_, fun x hx => ?_⟩
    · by_cases q : L = a
      · subst q
        by_cases hb : o.tag = 0
        · exact absurd h4 (OAt.nodict ha.2 hb ob es n h3)
        · exact OAt.dict ho (hd ▸ hb)
      · exact ⟨ob, es, n, (hs.2 _ q).trans h3, h4⟩
    · rcases List.mem_append.mp hx with q | q
      · exact h5 x (by simp [q])
      · rcases List.mem_cons.mp q with q | q
        · cases q; rw [← hd]; exact h5 o (by simp)
        · exact h5 x (by simp [q])

theorem Sim.alloc {ob : Obj} {o : O} (S : Sim c l w G s) (hf : ob.isFreed = false) (ho : OAt c w (s.heap.push ob) s.heap.objs.size o) : Sim c l w ((s.heap.objs.size, o) :: G) { s with heap := s.heap.push ob } := by
  refine ⟨fun a x e => Heap.get?_push_of_some _ (S.wok a x e), S.wbase, ?_, fun p hp => ?_, fun env he => ?_, S.gens, S.os⟩
  · rw [List.map_cons, List.nodup_cons]
    refine ⟨fun q => ?_, S.nd⟩
    refine e1a2 (List.mem_map.mp q) fun p hp e => ?_
    exact absurd (S.lt hp) (by rw [e]; exact Nat.lt_irrefl _)
  · rcases List.mem_cons.mp hp with rfl | q
    · refine ⟨?_, ho⟩
      cases e : w s.heap.objs.size with
      | none => rfl
      | some x => exact absurd (Heap.lt_size (S.wok _ _ e)) (Nat.lt_irrefl _)
    · refine e1a1 ((S.ents p q).2.there) fun x hx => ?_
      exact ⟨(S.ents p q).1, (S.ents p q).2.congr ((Heap.get?_push_of_some _ hx).trans hx.symm)⟩
  · refine e0a2 (S.frs env he) fun k zq8 => ?_
    obtain ⟨L, h1, h2, ⟨ob', es, n, h3, h4⟩, h5⟩ := zq8
    refine ⟨k, L, h1, h2, ⟨ob', es, n, Heap.get?_push_of_some _ h3, h4⟩, fun x hx => ?_⟩
    rcases List.mem_cons.mp hx with q | q
    · cases q; exact absurd (Heap.lt_size h3) (Nat.lt_irrefl _)
    · exact h5 x q
theorem Sim.push {ob : Obj} (S : Sim c l w G s) : Sim c l w G { s with heap := s.heap.push ob } := by
  refine ⟨fun a x e => Heap.get?_push_of_some _ (S.wok a x e), S.wbase, S.nd, fun p hp => ?_, fun env he => ?_, S.gens, S.os⟩
  · refine e1a1 ((S.ents p hp).2.there) fun x hx => ?_
    exact ⟨(S.ents p hp).1, (S.ents p hp).2.congr ((Heap.get?_push_of_some _ hx).trans hx.symm)⟩
  · refine e0a2 (S.frs env he) fun k zq9 => ?_
    obtain ⟨L, h1, h2, ⟨ob', es, n, h3, h4⟩, h5⟩ := zq9
    exact ⟨k, L, h1, h2, ⟨ob', es, n, Heap.get?_push_of_some _ h3, h4⟩, h5⟩

noncomputable def Wd.add (w : Wd) (a : Addr) (o : Obj) : Wd := fun b => if b = a then some o else w b
theorem Sub.add {w : Wd} {a : Addr} {o : Obj} (h : w a = none) : Sub w (w.add a o) := fun b x e => by
  unfold Wd.add; by_cases q : b = a
  · rw [q, h] at e; cases e
  · rw [if_neg q]; exact e
theorem Wd.add_self (w : Wd) (a : Addr) (o : Obj) : (w.add a o) a = some o := by simp [Wd.add]

theorem Sim.freeze {a : Addr} {ob : Obj} (S : Sim c l w G s) (h : s.heap.get? a = some ob) (hw : w a = none) (hn : a ∉ G.map (·.1)) (hd : ∀ es n, ob.data ≠ .dict es n) : Sub w (w.add a ob) ∧ Sim c l (w.add a ob) G s := by
  refine ⟨.add hw, fun b x e => ?_, fun b x e => Sub.add hw _ _ (S.wbase b x e), S.nd, fun p hp => ⟨?_, (S.ents p hp).2.mono (.add hw)⟩, fun env he => ?_, S.gens, S.os⟩
  · unfold Wd.add at e
    split at e
    · rename_i q; cases e; rw [q]; exact h
    · exact S.wok b x e
  · unfold Wd.add; rw [if_neg (fun (q : p.1 = a) => hn (List.mem_map.mpr ⟨p, hp, q⟩))]; exact (S.ents p hp).1
  · refine e0a2 (S.frs env he) fun k zq10 => ?_
    obtain ⟨L, h1, h2, ⟨ob', es, n, h3, h4⟩, h5⟩ := zq10
    refine ⟨k, L, h1, ?_, ⟨ob', es, n, h3, h4⟩, h5⟩
    unfold Wd.add; rw [if_neg]; exact h2
    rintro rfl; rw [h] at h3; cases h3; exact hd es n h4
theorem Sim.freezeList {A B : Led} {a : Addr} {xs : List D} (S : Sim c l w (A ++ (a, .list xs) :: B) s) : ∃ w', Sub w w' ∧ Sim c l w' (A ++ B) s ∧ Rel w' (.list xs) (.ref a) := by
  have ha := S.ents (a, .list xs) (by simp)
  refine e2a3 ha.2 fun vs n h1 h2 h3 => ?_
  have e := S.nd
  rw [List.map_append, List.map_cons, List.nodup_append, List.nodup_cons] at e
  have S' : Sim c l w (A ++ B) s := S.sub (fun p hp => by rcases List.mem_append.mp hp with q | q <;> simp [q]) (by
    rw [List.map_append, List.nodup_append]
    exact ⟨e.1, e.2.1.2, fun x hx y hy => e.2.2 x hx y (List.mem_cons_of_mem _ hy)⟩)
  obtain ⟨k1, k2⟩ := S'.freeze h1 ha.1 (by
    rw [List.map_append, List.mem_append]
    rintro (q | q)
    · exact e.2.2 _ q _ (List.mem_cons_self) rfl
    · exact e.2.1.1 q) (by intro es n q; cases q)
  refine ⟨_, k1, k2, ?_⟩
  simp only [Rel]
  exact ⟨a, vs, n, rfl, Wd.add_self _ _ _, h2.mono k1⟩
theorem Sim.allocF {ob : Obj} (S : Sim c l w G s) (hf : ob.isFreed = false) :
    Sub w (w.add s.heap.objs.size ob) ∧ Sim c l (w.add s.heap.objs.size ob) G { s with heap := s.heap.push ob } := by
  have hw : w s.heap.objs.size = none := by
    cases e : w s.heap.objs.size with
    | none => rfl
    | some x => exact absurd (Heap.lt_size (S.wok _ _ e)) (Nat.lt_irrefl _)
  have S' := S.push (ob := ob)
  refine ⟨.add hw, fun b x e => ?_, fun b x e => Sub.add hw _ _ (S.wbase b x e), S.nd, fun p hp => ⟨?_, (S'.ents p hp).2.mono (.add hw)⟩, fun env he => ?_, S.gens, S.os⟩
  · unfold Wd.add at e
    split at e
    · rename_i q; cases e; rw [q]; exact Heap.get?_push_size _ hf
    · exact S'.wok b x e
  · unfold Wd.add; rw [if_neg (Nat.ne_of_lt (S.lt hp))]; exact (S.ents p hp).1
  · refine e0a2 (S.frs env he) fun k zq11 => ?_
    obtain ⟨L, h1, h2, ⟨ob', es, n, h3, h4⟩, h5⟩ := zq11
    refine ⟨k, L, h1, ?_, ⟨ob', es, n, Heap.get?_push_of_some _ h3, h4⟩, h5⟩
    unfold Wd.add; rw [if_neg (Nat.ne_of_lt (Heap.lt_size h3))]; exact h2
end
inductive XM where
  | fresh | held | fly
noncomputable def Trc (w : Wd) (G : Led) (h : Heap) (e : Addr) (vs : Array Value) (f : Value) : Prop :=
  ∃ T oT ts, vs[1]? = some (.ref T) ∧ w T = none ∧ T ∉ G.map (·.1) ∧ T ≠ e ∧ h.get? T = some oT ∧ oT.data = .fields ts ∧ ts[3]? = some f
noncomputable def XMo (m : XM) (l : List Env) (w : Wd) (G : Led) (h : Heap) (e : Addr) (vs : Array Value) : Prop := match m with
  | .fresh => vs[1]? = some .none
  | .held => ∃ env r L, l = env :: r ∧ env.frame = some L ∧ Trc w G h e vs (rawInt L)
  | .fly => Trc w G h e vs .none
noncomputable def XAtM (m : XM) (l : List Env) (w : Wd) (G : Led) (h : Heap) (e : Addr) (cls : Value) (args : List D) : Prop :=
  w e = none ∧ e ∉ G.map (·.1) ∧ ∃ ob vs t us n, h.get? e = some ob ∧ ob.cls = cls ∧ ob.data = .fields vs ∧ vs[0]? = some (.ref t) ∧ w t = some (seqO "tuple" us n) ∧ Rels w args us.toList ∧ XMo m l w G h e vs
noncomputable def XAt (l : List Env) (w : Wd) (G : Led) (h : Heap) (e : Addr) (cls : Value) (args : List D) : Prop := ∃ m, XAtM m l w G h e cls args
theorem XAtM.less {m : XM} {l : List Env} {w : Wd} {G G' : Led} {h : Heap} {e : Addr} {cls : Value} {args : List D} (X : XAtM m l w G h e cls args) (hs : ∀ a ∈ G'.map (·.1), a ∈ G.map (·.1)) : XAtM m l w G' h e cls args := by
  refine e0a3 X ?_
  try clear X
  intro x1 x2 zq12
  obtain ⟨ob, vs, t, us, n, x3, x4, x5, x6, x7, x8, x9⟩ := zq12
  refine ⟨x1, fun q => x2 (hs _ q), ob, vs, t, us, n, x3, x4, x5, x6, x7, x8, ?_⟩
  cases m with
  | fresh => exact x9
  | fly => obtain ⟨T, oT, ts, y1, y2, y3, y4⟩ := x9; exact ⟨T, oT, ts, y1, y2, fun q => y3 (hs _ q), y4⟩
  | held => obtain ⟨en, r, L, z1, z2, T, oT, ts, y1, y2, y3, y4⟩ := x9; exact ⟨en, r, L, z1, z2, T, oT, ts, y1, y2, fun q => y3 (hs _ q), y4⟩

noncomputable abbrev Wd.nil : Wd := fun _ => none
theorem Sub.nil (w : Wd) : Sub Wd.nil w := fun _ _ e => by cases e

inductive Po {α β : Type} (c : Cx) (l : List Env) (rel : Wd → β → α → Prop) (w1 : Wd) (R : Led) (Q : β → Led → Prop) (a : α) (s' : Shared) : Prop
  | mk (w' : Wd) (b : β) (G' : Led) (h1 : Sub w1 w') (h2 : rel w' b a) (h3 : Sim c l w' (G' ++ R) s') (h4 : Q b G')
inductive Px (c : Cx) (l : List Env) (w1 : Wd) (R : Led) (E : Value → List D → Led → Prop) (e : Value) (s' : Shared) : Prop
  | mk (w' : Wd) (x : Addr) (cls : Value) (args : List D) (G' : Led) (h1 : Sub w1 w') (h2 : e = .ref x) (h3 : XAt l w' (G' ++ R) s'.heap x cls args) (h4 : Sim c l w' (G' ++ R) s') (h5 : E cls args G')
theorem Po.up {α β : Type} {c : Cx} {l : List Env} {rel : Wd → β → α → Prop} {w1 w2 : Wd} {R : Led} {Q : β → Led → Prop} {a : α} {s' : Shared} (z : Po c l rel w2 R Q a s') (h : Sub w1 w2) : Po c l rel w1 R Q a s' :=
  let ⟨w', b, G', h1, h2, h3, h4⟩ := z
  ⟨w', b, G', h.trans h1, h2, h3, h4⟩
theorem Px.up {c : Cx} {l : List Env} {w1 w2 : Wd} {R : Led} {E : Value → List D → Led → Prop} {e : Value} {s' : Shared} (z : Px c l w2 R E e s') (h : Sub w1 w2) : Px c l w1 R E e s' :=
  let ⟨w', x, k, a, G', h1, h2, h3, h4, h5⟩ := z
  ⟨w', x, k, a, G', h.trans h1, h2, h3, h4, h5⟩
noncomputable def AW {α β : Type} (c : Cx) (A : Around) (rel : Wd → β → α → Prop) (w : Wd) (G : Led) (t : Sem α) (Q : β → Led → Prop) (E : Value → List D → Led → Prop) : Prop :=
  ∀ (l : List Env), A.frames = some l → ∀ (w1 : Wd) (R : Led) (s : Shared), Sub w w1 → Sim c l w1 (G ++ R) s →
    wpAny (model c.prog c.wd) A t
      (fun a s' => Po c l rel w1 R Q a s')
      (fun e s' => Px c l w1 R E e s') s

section
variable {α β γ δ : Type} {c : Cx} {A : Around} {rel : Wd → β → α → Prop} {rel' : Wd → δ → γ → Prop} {w w' : Wd} {G G' F : Led} {t : Sem α} {Q Q' : β → Led → Prop} {E E' : Value → List D → Led → Prop}
theorem AW.up (h : AW c A rel w G t Q E) (hw : Sub w w') : AW c A rel w' G t Q E := fun l hl w1 R s hs S => h l hl w1 R s (hw.trans hs) S
theorem AW.mono (h : AW c A rel w G t Q E) (hQ : ∀ b G, Q b G → Q' b G) (hE : ∀ x y G, E x y G → E' x y G) : AW c A rel w G t Q' E' := fun l hl w1 R s hs S =>
  wpAny_mono (h l hl w1 R s hs S) (fun a s' ⟨w', b, G', h1, h2, h3, h4⟩ => ⟨w', b, G', h1, h2, h3, hQ _ _ h4⟩) fun e s' ⟨w', x, k, as, G', h1, h2, h3, h4, h5⟩ => ⟨w', x, k, as, G', h1, h2, h3, h4, hE _ _ _ h5⟩
theorem AW.pure {a : α} {b : β} (hr : rel w b a) (hm : ∀ w', Sub w w' → rel w b a → rel w' b a) (hQ : Q b G) : AW c A rel w G (pure a) Q E := fun l hl w1 R s hs S =>
  wpAny_pure ⟨w1, b, G, .refl _, hm _ hs hr, S, hQ⟩
theorem AW.bind {m : Sem γ} {f : γ → Sem α} {w : Wd}
    (h : AW c A rel' w G m (fun b G1 => ∀ w1 a, Sub w w1 → rel' w1 b a → AW c A rel w1 G1 (f a) Q E) E) : AW c A rel w G (m >>= f) Q E := fun l hl w1 R s hs S => by
  refine wpAny_bind (wpAny_mono (h l hl w1 R s hs S) (fun a s' z9 => ?_) fun _ _ z => z)
  obtain ⟨w2, b, G2, h1, h2, h3, h4⟩ := z9
  exact wpAny_mono (h4 w2 a (hs.trans h1) h2 l hl w2 R s' (.refl _) h3) (fun a s' ⟨w', b, G', k1, k2, k3, k4⟩ => ⟨w', b, G', h1.trans k1, k2, k3, k4⟩)
    fun e s' ⟨w', x, k, as, G', k1, k2, k3, k4, k5⟩ => ⟨w', x, k, as, G', h1.trans k1, k2, k3, k4, k5⟩
theorem AW.perm (h : AW c A rel w G t Q E) (p : G'.Perm G) : AW c A rel w G' t Q E := fun l hl w1 R s hs S =>
  h l hl w1 R s hs (S.perm (p.symm.append_right R))
theorem AW.holding {vs : List Value} (h : AW c A rel w G t Q E) : AW c A rel w G (holding vs t) Q E := fun l hl w1 R s hs S => wpAny_holding (h l hl w1 R s hs S)
theorem AW.standAt {p : Pos} {f : Unit → Sem α} (h : AW c A rel w G (f ()) Q E) : AW c A rel w G (standAt p >>= f) Q E := fun l hl w1 R s hs S => wpAny_bind (wpAny_standAt (h l hl w1 R s hs S))
end

structure Frm where
  L : Addr
  loc : List (Str × D)
  cel : List (Str × Addr × Option D)
noncomputable def Frm.led (F : Frm) : Led := (F.L, .ns F.loc) :: F.cel.map fun p => (p.2.1, .cell p.2.2)
structure Fit (env : Env) (F : Frm) : Prop where
  kind : env.scope.kind = .function
  loc : env.locals = F.L
  cel : ∀ x, (env.kindOf x = some .cell ∨ env.kindOf x = some .free) → env.cells.lookup x = (F.cel.lookup x).map (·.1)
  gl : env.globals = mainGlobals
  bi : env.builtins = builtinsNs
noncomputable def celSet (x : Str) (d : D) : List (Str × Addr × Option D) → List (Str × Addr × Option D)
  | [] => []
  | (y, a, v) :: r => if x == y then (y, a, some d) :: r else (y, a, v) :: celSet x d r
theorem celSet_lookup (x : Str) (d : D) : ∀ (cel : List (Str × Addr × Option D)) (y : Str), ((celSet x d cel).lookup y).map (·.1) = (cel.lookup y).map (·.1)
  | [], _ => rfl
  | (z, a, v) :: r, y => by
    unfold celSet
    split
    · simp only [List.lookup_cons]; split <;> rfl
    · simp only [List.lookup_cons]; split
      · rfl
      · exact celSet_lookup x d r y
theorem celSet_split (x : Str) (d : D) : ∀ (cel : List (Str × Addr × Option D)) (a : Addr) (v : Option D), cel.lookup x = some (a, v) → ∃ A B, cel = A ++ (x, a, v) :: B ∧ celSet x d cel = A ++ (x, a, some d) :: B
  | [], _, _, h => by cases h
  | (z, b, u) :: r, a, v, h => by
    rw [List.lookup_cons] at h
    unfold celSet
    cases e : x == z with
    | true => rw [e] at h; cases h; exact ⟨[], r, by rw [eq_of_beq e]; rfl, by rw [eq_of_beq e]; rfl⟩
    | false =>
      rw [e] at h
      refine e2a2 (celSet_split x d r a v h) fun A B h1 h2 => ?_
      exact ⟨(z, b, u) :: A, B, by rw [h1]; rfl, by simp [h2]⟩

inductive PF (env : Env) (Q : Frm → Led → Prop) (G' : Led) : Prop
  | mk (F' : Frm) (G1 : Led) (h1 : Fit env F') (h2 : G' = F'.led ++ G1) (h3 : Q F' G1)
noncomputable def AT {α β : Type} (c : Cx) (A : Around) (env : Env) (rel : Wd → β → α → Prop) (w : Wd) (F : Frm) (G : Led) (t : Sem α) (Q : β → Frm → Led → Prop) (E : Value → List D → Frm → Led → Prop) : Prop :=
  Fit env F → AW c A rel w (F.led ++ G) t (fun b G' => PF env (Q b) G') (fun x y G' => PF env (E x y) G')

section
variable {α β γ δ : Type} {c : Cx} {A : Around} {env : Env} {rel : Wd → β → α → Prop} {rel' : Wd → δ → γ → Prop} {w w' : Wd} {F : Frm} {G : Led} {t : Sem α} {Q Q' : β → Frm → Led → Prop} {E E' : Value → List D → Frm → Led → Prop}
theorem AT.up (h : AT c A env rel w F G t Q E) (hw : Sub w w') : AT c A env rel w' F G t Q E := fun f => (h f).up hw
theorem AT.mono (h : AT c A env rel w F G t Q E) (hQ : ∀ b F G, Q b F G → Q' b F G) (hE : ∀ x y F G, E x y F G → E' x y F G) : AT c A env rel w F G t Q' E' := fun f =>
  (h f).mono (fun b G ⟨F', G1, h1, h2, h3⟩ => ⟨F', G1, h1, h2, hQ _ _ _ h3⟩) fun x y G ⟨F', G1, h1, h2, h3⟩ => ⟨F', G1, h1, h2, hE _ _ _ _ h3⟩
theorem AT.pure {a : α} {b : β} (hr : rel w b a) (hm : ∀ w', Sub w w' → rel w b a → rel w' b a) (hQ : Q b F G) : AT c A env rel w F G (pure a) Q E := fun f => .pure hr hm ⟨F, G, f, rfl, hQ⟩
theorem AT.bind {m : Sem γ} {f : γ → Sem α} (h : AT c A env rel' w F G m (fun b F1 G1 => ∀ w1 a, Sub w w1 → rel' w1 b a → AT c A env rel w1 F1 G1 (f a) Q E) E) : AT c A env rel w F G (m >>= f) Q E := fun hf => by
  refine AW.bind ((h hf).mono (fun b G' ⟨F', G1, h1, h2, h3⟩ w1 a hs hr => ?_) fun _ _ _ z => z)
  subst h2
  exact h3 w1 a hs hr h1
theorem AT.holding {vs : List Value} (h : AT c A env rel w F G t Q E) : AT c A env rel w F G (holding vs t) Q E := fun f => (h f).holding
theorem AT.standAt {p : Pos} {f : Unit → Sem α} (h : AT c A env rel w F G (f ()) Q E) : AT c A env rel w F G (standAt p >>= f) Q E := fun hf => .standAt (h hf)
end

structure Rm (n : Nat) (A : Around) : Prop where
  depth : A.depth + n ≤ 900
  units : A.units + 10 * n ≤ 9000
  guards : A.guards = some []
  handled : A.handled = none

structure Cx.Ok (c : Cx) : Prop where
  kin : c.K.In c.base
  g : ∃ mg, c.base.Ns mainGlobals mg
  b : ∃ mb, c.base.Ns builtinsNs mb ∧ ∀ x : Str, x ≠ "__name__" → mb x = bootBuiltins x
  nolimit : c.base.NoLimit

inductive Fl where
  | next | brk | cont
  | ret (d : D)
noncomputable def FRel (w : Wd) : Fl → Flow → Prop
  | .next, f => f = .next
  | .brk, f => f = .brk
  | .cont, f => f = .cont
  | .ret d, f => ∃ v, f = .ret v ∧ Rel w d v
noncomputable def Rel1 {α : Type} (_ : Wd) (a b : α) : Prop := a = b
noncomputable abbrev LX := Value → List D → Frm → Led → Prop
noncomputable abbrev AE (c : Cx) (A : Around) (env : Env) (F : Frm) (G : Led) (e : Expr) (Q : D → Frm → Led → Prop) (E : LX) : Prop := AT c A env Rel Wd.nil F G (eval e env) Q E
noncomputable abbrev AI (c : Cx) (A : Around) (env : Env) (F : Frm) (G : Led) (e : Expr) (Q : Bool → Frm → Led → Prop) (E : LX) : Prop := AT c A env Rel1 Wd.nil F G (isTrue e env (eval e env)) Q E
noncomputable abbrev AS (c : Cx) (A : Around) (env : Env) (F : Frm) (G : Led) (ss : List Stmt) (Q : Fl → Frm → Led → Prop) (E : LX) : Prop := AT c A env FRel Wd.nil F G (execs ss env) Q E
noncomputable abbrev AS1 (c : Cx) (A : Around) (env : Env) (F : Frm) (G : Led) (st : Stmt) (Q : Fl → Frm → Led → Prop) (E : LX) : Prop := AT c A env FRel Wd.nil F G (exec st env) Q E
noncomputable def Op1 {α β : Type} (c : Cx) (A : Around) (env : Env) (rel : Wd → β → α → Prop) (F : Frm) (G : Led) (f : Value → Sem α) (d : D) (Q : β → Frm → Led → Prop) (E : LX) : Prop :=
  ∀ w v, Rel w d v → AT c A env rel w F G (f v) Q E
noncomputable def Op2 {α β : Type} (c : Cx) (A : Around) (env : Env) (rel : Wd → β → α → Prop) (F : Frm) (G : Led) (f : Value → Value → Sem α) (d e : D) (Q : β → Frm → Led → Prop) (E : LX) : Prop :=
  ∀ w v u, Rel w d v → Rel w e u → AT c A env rel w F G (f v u) Q E

section
variable {c : Cx} {A : Around} {env : Env} {w : Wd} {F : Frm} {G : Led} {E : LX} {Q : D → Frm → Led → Prop}

theorem AT.val {t : Sem Value} {r : D} (h : ∀ (Q : Value → Shared → Prop) (E : Value → Shared → Prop) s, (∀ v tk, Rel Wd.nil r v → Q v { s with toks := tk }) → wpAny (model c.prog c.wd) A t Q E s) (hq : Q r F G) : AT c A env Rel w F G t Q E :=
  fun f l hl w1 R s hs S => h _ _ s fun v tk hv => ⟨w1, r, _, .refl _, hv.mono (Sub.nil _), S.toks tk, F, G, f, rfl, hq⟩
theorem AT.valB {t : Sem Bool} {r : Bool} {Q : Bool → Frm → Led → Prop} (h : ∀ (Q : Bool → Shared → Prop) (E : Value → Shared → Prop) s, (∀ tk, Q r { s with toks := tk }) → wpAny (model c.prog c.wd) A t Q E s) (hq : Q r F G) : AT c A env Rel1 w F G t Q E :=
  fun f l hl w1 R s hs S => h _ _ s fun tk => ⟨w1, r, _, .refl _, rfl, S.toks tk, F, G, f, rfl, hq⟩
theorem AT.operate {vs : List Value} {t : Sem Value} (h : AT c A env Rel w F G t Q E) : AT c A env Rel w F G (operate vs t) Q E := fun f l hl w1 R s hs S => wpAny_operate' (h f l hl w1 R s hs S)

theorem ae_local {x : Str} {pos : Pos} {d : D} (hx : env.kindOf x = some .local) (hv : F.loc.lookup x = some d) (hq : Q d F G) (hd : (x == ("__debug__" : Str)) = false := by with_unfolding_all rfl) : AE c A env F G (.Name x pos) Q E :=
  fun f l hl w1 R s hs S => by
    refine e3a4 (S.get (a := F.L) (o := .ns F.loc) (by simp [Frm.led])) fun ob ents n h1 h2 h3 h4 => ?_
    refine e1a2 (h4 x d hv) fun v hv' hr => ?_
    exact wpAny_Name (wpAny_loadName_local f.kind hx ⟨ob, ents, n, f.loc ▸ h1, h2, h3, fun _ => rfl⟩ hv' ⟨w1, d, _, .refl _, hr, S, F, G, f, rfl, hq⟩) hd
theorem lookup_mem {α β : Type} [BEq α] [LawfulBEq α] {x : α} {y : β} : ∀ {l : List (α × β)}, l.lookup x = some y → (x, y) ∈ l
  | [], h => by cases h
  | (z, u) :: r, h => by
    rw [List.lookup_cons] at h
    cases e : x == z with
    | true => rw [e] at h; cases h; rw [eq_of_beq e]; exact .head _
    | false => rw [e] at h; exact .tail _ (lookup_mem h)
theorem cel_mem {x : Str} {a : Addr} {v : Option D} (h : F.cel.lookup x = some (a, v)) : (a, O.cell v) ∈ F.led := by
  unfold Frm.led
  exact List.mem_cons_of_mem _ (List.mem_map.mpr ⟨(x, a, v), lookup_mem h, rfl⟩)
theorem ae_cell {x : Str} {pos : Pos} {d : D} {a : Addr} (hx : env.kindOf x = some .cell) (hv : F.cel.lookup x = some (a, some d)) (hq : Q d F G) (hd : (x == ("__debug__" : Str)) = false := by with_unfolding_all rfl) : AE c A env F G (.Name x pos) Q E :=
  fun f l hl w1 R s hs S => by
    refine e1a2 (S.get (a := a) (o := .cell (some d)) (List.mem_append_left _ (List.mem_append_left _ (cel_mem hv)))) fun v h1 h2 => ?_
    exact wpAny_Name (wpAny_loadName_cell f.kind hx (by rw [f.cel x (.inl hx), hv]; rfl) h1 ⟨w1, d, _, .refl _, h2, S, F, G, f, rfl, hq⟩) hd
noncomputable def Glob (c : Cx) (x : Str) (d : D) : Prop := ∃ mg v, c.base.Ns mainGlobals mg ∧ mg x = some v ∧ Rel Wd.nil d v
noncomputable def Blt (c : Cx) (x : Str) (d : D) : Prop := ∃ mg mb v, c.base.Ns mainGlobals mg ∧ mg x = none ∧ c.base.Ns builtinsNs mb ∧ mb x = some v ∧ Rel Wd.nil d v
theorem ae_glob {x : Str} {pos : Pos} {d : D} (hx : env.kindOf x = some .globalImplicit) (hg : Glob c x d) (hq : Q d F G) (hd : (x == ("__debug__" : Str)) = false := by with_unfolding_all rfl) : AE c A env F G (.Name x pos) Q E :=
  fun f l hl w1 R s hs S => by
    refine e2a3 hg ?_
    try clear hg
    intro mg v h1 h2 h3
    exact Name_function_global f.kind hx (loadGlobal_global (f.gl ▸ h1.keeps S.keep) h2 ⟨w1, d, _, .refl _, h3.mono (Sub.nil _), S, F, G, f, rfl, hq⟩) hd
theorem ae_blt {x : Str} {pos : Pos} {d : D} (hx : env.kindOf x = some .globalImplicit) (hg : Blt c x d) (hq : Q d F G) (hd : (x == ("__debug__" : Str)) = false := by with_unfolding_all rfl) : AE c A env F G (.Name x pos) Q E :=
  fun f l hl w1 R s hs S => by
    refine e3a5 hg ?_
    try clear hg
    intro mg mb v h1 h2 h3 h4 h5
    exact Name_function_global f.kind hx (loadGlobal_builtin (f.gl ▸ h1.keeps S.keep) h2 (f.bi ▸ h3.keeps S.keep) h4 ⟨w1, d, _, .refl _, h5.mono (Sub.nil _), S, F, G, f, rfl, hq⟩) hd

theorem ae_none {k : Nat} {pos : Pos} (hq : Q .none F G) : AE c A env F G (.Constant .none k pos) Q E := AT.val (r := .none) (fun Q E s h => wpAny_pure (h .none s.toks (by simp [Rel]))) hq
theorem ae_bool {b : Bool} {k : Nat} {pos : Pos} (hq : Q (.bool b) F G) : AE c A env F G (.Constant (.bool b) k pos) Q E := AT.val (r := .bool b) (fun Q E s h => wpAny_pure (h (.bool b) s.toks (by simp [Rel]))) hq
theorem ae_int {i : Int} {k : Nat} {pos : Pos} (hq : Q (.int i) F G) : AE c A env F G (.Constant (.int i) k pos) Q E := AT.val (r := .int i) (fun Q E s h => wpAny_Constant_int (h _ _ (by simp [Rel]))) hq
theorem ae_str {x : Str} {k : Nat} {pos : Pos} (hx : PyData.strOk x = true) (hq : Q (.str x) F G) : AE c A env F G (.Constant (.str x) k pos) Q E := AT.val (r := .str x) (fun Q E s h => Constant_str (h _ _ (by simp [Rel, hx]))) hq

noncomputable abbrev kOp2 (c : Cx) (A : Around) (env : Env) (f : Value → Value → Sem Value) (d : D) (Q : D → Frm → Led → Prop) (E : LX) (e : D) (F : Frm) (G : Led) : Prop := Op2 c A env Rel F G f d e Q E
noncomputable abbrev kBin (c : Cx) (A : Around) (env : Env) (y : Expr) (f : Value → Value → Sem Value) (Q : D → Frm → Led → Prop) (E : LX) (d : D) (F : Frm) (G : Led) : Prop := AE c A env F G y (kOp2 c A env f d Q E) E
theorem ae_BinOp {x y : Expr} {op : Operator} {pos : Pos} (h : AE c A env F G x (kBin c A env y (binaryOp op) Q E) E) : AE c A env F G (.BinOp x op y pos) Q E := by
  show AT c A env Rel Wd.nil F G (do let a ← eval x env; let b ← holding [a] (eval y env); standAt pos; operate [a, b] (binaryOp op a b)) Q E
  refine AT.bind (h.mono (fun d F1 G1 h1 w1 a hs hr => ?_) fun _ _ _ _ z => z)
  refine AT.bind (AT.holding ((h1.up (Sub.nil _)).mono (fun e F2 G2 h2 w2 b hs2 hr2 => ?_) fun _ _ _ _ z => z))
  exact AT.standAt (AT.operate (h2 w2 a b (hr.mono hs2) hr2))
noncomputable abbrev kOp1 (c : Cx) (A : Around) (env : Env) (f : Value → Sem Value) (Q : D → Frm → Led → Prop) (E : LX) (d : D) (F : Frm) (G : Led) : Prop := Op1 c A env Rel F G f d Q E
theorem ae_UnaryOp {x : Expr} {op : UnaryOp} {pos : Pos} (h : AE c A env F G x (kOp1 c A env (unaryOp op) Q E) E) : AE c A env F G (.UnaryOp op x pos) Q E := by
  show AT c A env Rel Wd.nil F G (do let v ← eval x env; standAt pos; holding [v] (unaryOp op v)) Q E
  exact AT.bind (h.mono (fun d F1 G1 h1 w1 a hs hr => AT.standAt (AT.holding (h1 w1 a hr))) fun _ _ _ _ z => z)
theorem ae_Compare1 {x y : Expr} {op : CmpOp} {pos : Pos} (h : AE c A env F G x (kBin c A env y (compareOp op) Q E) E)
    (hm : behindInMarks op y = false := by with_unfolding_all rfl) : AE c A env F G (.Compare x [op] [y] pos) Q E := by
  show AT c A env Rel Wd.nil F G (do compareChain pos (← eval x env) [op] [markedBehindIn op y (eval y env)]) Q E
  rw [markedBehindIn_of_false hm]
  refine AT.bind (h.mono (fun d F1 G1 h1 w1 a hs hr => ?_) fun _ _ _ _ z => z)
  show AT c A env Rel w1 F1 G1 (holding [a] (eval y env) >>= fun rv => standAt pos >>= fun _ => operate [a, rv] (compareOp op a rv)) Q E
  refine AT.bind (AT.holding ((h1.up (Sub.nil _)).mono (fun e F2 G2 h2 w2 b hs2 hr2 => ?_) fun _ _ _ _ z => z))
  exact AT.standAt (AT.operate (h2 w2 a b (hr.mono hs2) hr2))
noncomputable abbrev kIte (c : Cx) (A : Around) (env : Env) (x y : Expr) (Q : D → Frm → Led → Prop) (E : LX) (b : Bool) (F : Frm) (G : Led) : Prop := if b then AE c A env F G x Q E else AE c A env F G y Q E
theorem ae_IfExp {t x y : Expr} {pos : Pos} (h : AI c A env F G t (kIte c A env x y Q E) E) : AE c A env F G (.IfExp t x y pos) Q E := by
  show AT c A env Rel Wd.nil F G (do if ← isTrue t env (eval t env) then eval x env else eval y env) Q E
  refine AT.bind (h.mono (fun b F1 G1 h1 w1 a hs hr => ?_) fun _ _ _ _ z => z)
  cases hr
  cases b
  · exact AT.up h1 (Sub.nil _)
  · exact AT.up h1 (Sub.nil _)
noncomputable abbrev Tr (c : Cx) (A : Around) (env : Env) (F : Frm) (G : Led) (d : D) (Q : Bool → Frm → Led → Prop) (E : LX) : Prop := Op1 c A env Rel1 F G truthy d Q E
theorem tr_bool {b : Bool} {Q : Bool → Frm → Led → Prop} (hq : Q b F G) : Tr c A env F G (.bool b) Q E := fun w v hr => by
  simp only [Rel] at hr; subst hr
  exact AT.valB (r := b) (fun Q E s h => wpAny_truthy_bool (h s.toks)) hq
noncomputable abbrev kTr (c : Cx) (A : Around) (env : Env) (Q : Bool → Frm → Led → Prop) (E : LX) (d : D) (F : Frm) (G : Led) : Prop := Tr c A env F G d Q E
theorem ai_Compare1 {x y : Expr} {op : CmpOp} {pos : Pos} {Q : Bool → Frm → Led → Prop} (h : AE c A env F G x (kBin c A env y (compareOp op) (kTr c A env Q E) E) E)
    (hm : behindInMarks op y = false := by with_unfolding_all rfl) : AI c A env F G (.Compare x [op] [y] pos) Q E := by
  show AT c A env Rel1 Wd.nil F G (do testChain pos (← eval x env) [op] [markedBehindIn op y (eval y env)]) Q E
  rw [markedBehindIn_of_false hm]
  refine AT.bind (h.mono (fun d F1 G1 h1 w1 a hs hr => ?_) fun _ _ _ _ z => z)
  show AT c A env Rel1 w1 F1 G1 (holding [a] (eval y env) >>= fun rv => standAt pos >>= fun _ => operate [a, rv] (compareOp op a rv) >>= fun cc => holding [cc] (truthy cc)) Q E
  refine AT.bind (AT.holding ((h1.up (Sub.nil _)).mono (fun e F2 G2 h2 w2 b hs2 hr2 => ?_) fun _ _ _ _ z => z))
  refine AT.standAt (AT.bind (AT.operate ((h2 w2 a b (hr.mono hs2) hr2).mono (fun r F3 G3 h3 w3 v hs3 hr3 => ?_) fun _ _ _ _ z => z)))
  exact AT.holding (h3 w3 v hr3)
noncomputable abbrev kNot (Q : Bool → Frm → Led → Prop) (b : Bool) (F : Frm) (G : Led) : Prop := Q (!b) F G
theorem ai_Not {x : Expr} {pos : Pos} {Q : Bool → Frm → Led → Prop} (h : AI c A env F G x (kNot Q) E) : AI c A env F G (.UnaryOp .Not x pos) Q E := by
  show AT c A env Rel1 Wd.nil F G (do return !(← isTrue x env (eval x env))) Q E
  refine AT.bind (h.mono (fun b F1 G1 h1 w1 a hs hr => ?_) fun _ _ _ _ z => z)
  cases hr
  exact AT.pure rfl (fun _ _ z => z) h1
theorem ai_value {x : Expr} {Q : Bool → Frm → Led → Prop} (he : isTrue x env (eval x env) = (do let v ← eval x env; standAt x.pos; holding [v] (truthy v)))
    (h : AE c A env F G x (kTr c A env Q E) E) : AI c A env F G x Q E := by
  unfold AI; rw [he]
  exact AT.bind (h.mono (fun d F1 G1 h1 w1 a hs hr => AT.standAt (AT.holding (h1 w1 a hr))) fun _ _ _ _ z => z)
noncomputable abbrev AAll (c : Cx) (A : Around) (env : Env) (F : Frm) (G : Led) (op : BoolOp) (xs : List Expr) (Q : Bool → Frm → Led → Prop) (E : LX) : Prop := AT c A env Rel1 Wd.nil F G (allTrue op xs env) Q E
theorem ai_BoolOp {op : BoolOp} {xs : List Expr} {pos : Pos} {Q : Bool → Frm → Led → Prop} (h : AAll c A env F G op xs Q E) : AI c A env F G (.BoolOp op xs pos) Q E := h
theorem all_nil {op : BoolOp} {Q : Bool → Frm → Led → Prop} (h : Q (op == .And) F G) : AAll c A env F G op [] Q E := AT.pure rfl (fun _ _ z => z) h
noncomputable abbrev kAnd (c : Cx) (A : Around) (env : Env) (xs : List Expr) (Q : Bool → Frm → Led → Prop) (E : LX) (b : Bool) (F : Frm) (G : Led) : Prop := if b then AAll c A env F G .And xs Q E else Q false F G
theorem all_And {x : Expr} {xs : List Expr} {Q : Bool → Frm → Led → Prop} (h : AI c A env F G x (kAnd c A env xs Q E) E) : AAll c A env F G .And (x :: xs) Q E := by
  show AT c A env Rel1 Wd.nil F G (do match BoolOp.And, ← isTrue x env (eval x env) with
    | .And, false => pure false
    | .Or, true => pure true
    | _, _ => allTrue .And xs env) Q E
  refine AT.bind (h.mono (fun b F1 G1 h1 w1 a hs hr => ?_) fun _ _ _ _ z => z)
  cases hr
  cases b
  · exact AT.pure rfl (fun _ _ z => z) h1
  · exact AT.up h1 (Sub.nil _)
noncomputable abbrev kOr (c : Cx) (A : Around) (env : Env) (xs : List Expr) (Q : Bool → Frm → Led → Prop) (E : LX) (b : Bool) (F : Frm) (G : Led) : Prop := if b then Q true F G else AAll c A env F G .Or xs Q E
theorem all_Or {x : Expr} {xs : List Expr} {Q : Bool → Frm → Led → Prop} (h : AI c A env F G x (kOr c A env xs Q E) E) : AAll c A env F G .Or (x :: xs) Q E := by
  show AT c A env Rel1 Wd.nil F G (do match BoolOp.Or, ← isTrue x env (eval x env) with
    | .And, false => pure false
    | .Or, true => pure true
    | _, _ => allTrue .Or xs env) Q E
  refine AT.bind (h.mono (fun b F1 G1 h1 w1 a hs hr => ?_) fun _ _ _ _ z => z)
  cases hr
  cases b
  · exact AT.up h1 (Sub.nil _)
  · exact AT.pure rfl (fun _ _ z => z) h1
theorem ae_And2 {x y : Expr} {pos : Pos} (h : AE c A env F G x (fun d F1 G1 => Tr c A env F1 G1 d (fun b F2 G2 => if b then AE c A env F2 G2 y Q E else Q d F2 G2) E) E) : AE c A env F G (.BoolOp .And [x, y] pos) Q E := by
  show AT c A env Rel Wd.nil F G (do
    let v ← eval x env
    standAt pos
    let t ← holding [v] (truthy v)
    match BoolOp.And, t with
    | .And, false | .Or, true => pure v
    | _, _ => boolOp pos .And [eval y env]) Q E
  refine AT.bind (h.mono (fun d F1 G1 h1 w1 a hs hr => AT.standAt (AT.bind (AT.holding ((h1 w1 a hr).mono (fun b F2 G2 h2 w2 a2 hs2 hr2 => ?_) fun _ _ _ _ z => z)))) fun _ _ _ _ z => z)
  cases hr2
  cases b
  · exact AT.pure (hr.mono hs2) (fun _ s z => z.mono s) h2
  · exact AT.up h2 (Sub.nil _)
theorem ae_Or2 {x y : Expr} {pos : Pos} (h : AE c A env F G x (fun d F1 G1 => Tr c A env F1 G1 d (fun b F2 G2 => if b then Q d F2 G2 else AE c A env F2 G2 y Q E) E) E) : AE c A env F G (.BoolOp .Or [x, y] pos) Q E := by
  show AT c A env Rel Wd.nil F G (do
    let v ← eval x env
    standAt pos
    let t ← holding [v] (truthy v)
    match BoolOp.Or, t with
    | .And, false | .Or, true => pure v
    | _, _ => boolOp pos .Or [eval y env]) Q E
  refine AT.bind (h.mono (fun d F1 G1 h1 w1 a hs hr => AT.standAt (AT.bind (AT.holding ((h1 w1 a hr).mono (fun b F2 G2 h2 w2 a2 hs2 hr2 => ?_) fun _ _ _ _ z => z)))) fun _ _ _ _ z => z)
  cases hr2
  cases b
  · exact AT.up h2 (Sub.nil _)
  · exact AT.pure (hr.mono hs2) (fun _ s z => z.mono s) h2
end

section
variable {c : Cx} {A : Around} {env : Env} {F : Frm} {G : Led} {E : LX} {Q : D → Frm → Led → Prop} {a b : Int}
theorem op_add (hq : Q (.int (a + b)) F G) : Op2 c A env Rel F G (binaryOp .Add) (.int a) (.int b) Q E := fun w v u h1 h2 => by
  simp only [Rel] at h1 h2; obtain ⟨t, rfl⟩ := h1; obtain ⟨t', rfl⟩ := h2
  exact AT.val (r := .int (a + b)) (fun Q E s h => add_int (h _ _ (by simp [Rel]))) hq
theorem op_sub (hq : Q (.int (a - b)) F G) : Op2 c A env Rel F G (binaryOp .Sub) (.int a) (.int b) Q E := fun w v u h1 h2 => by
  simp only [Rel] at h1 h2; obtain ⟨t, rfl⟩ := h1; obtain ⟨t', rfl⟩ := h2
  exact AT.val (r := .int (a - b)) (fun Q E s h => sub_int (h _ _ (by simp [Rel]))) hq
theorem op_mod (hb : b ≠ 0) (hq : Q (.int (a.fmod b)) F G) : Op2 c A env Rel F G (binaryOp .Mod) (.int a) (.int b) Q E := fun w v u h1 h2 => by
  simp only [Rel] at h1 h2; obtain ⟨t, rfl⟩ := h1; obtain ⟨t', rfl⟩ := h2
  exact AT.val (r := .int (a.fmod b)) (fun Q E s h => mod_int hb (h _ _ (by simp [Rel]))) hq
theorem op_div (hb : b ≠ 0) (hs : b.natAbs < 1073741824) (hq : Q (.int (a.fdiv b)) F G) : Op2 c A env Rel F G (binaryOp .FloorDiv) (.int a) (.int b) Q E := fun w v u h1 h2 => by
  simp only [Rel] at h1 h2; obtain ⟨t, rfl⟩ := h1; obtain ⟨t', rfl⟩ := h2
  exact AT.val (r := .int (a.fdiv b)) (fun Q E s h => floordiv_int hb (h _ _ (by simp [Rel])) (.inl (PyProof.noPylong_small hs))) hq
theorem op_pow (hn : 0 ≤ b) (hs : (Builtin.Int.intBits a : Int) * b ≤ 2 ^ 27) (hq : Q (.int (a ^ b.toNat)) F G) : Op2 c A env Rel F G (binaryOp .Pow) (.int a) (.int b) Q E := fun w v u h1 h2 => by
  simp only [Rel] at h1 h2; obtain ⟨t, rfl⟩ := h1; obtain ⟨t', rfl⟩ := h2
  exact AT.val (r := .int (a ^ b.toNat)) (fun Q E s h => pow_int hn hs (h _ _ (by simp [Rel]))) hq
theorem op_neg (hq : Q (.int (-a)) F G) : Op1 c A env Rel F G (unaryOp .USub) (.int a) Q E := fun w v h1 => by
  simp only [Rel] at h1; obtain ⟨t, rfl⟩ := h1
  exact AT.val (r := .int (-a)) (fun Q E s h => neg_int (h _ _ (by simp [Rel]))) hq
theorem op_lt (hq : Q (.bool (decide (a < b))) F G) : Op2 c A env Rel F G (compareOp .Lt) (.int a) (.int b) Q E := fun w v u h1 h2 => by
  simp only [Rel] at h1 h2; obtain ⟨t, rfl⟩ := h1; obtain ⟨t', rfl⟩ := h2
  exact AT.val (r := .bool (decide (a < b))) (fun Q E s h => lt_int (h _ s.toks (by simp [Rel]))) hq
theorem op_ge (hq : Q (.bool (decide (b ≤ a))) F G) : Op2 c A env Rel F G (compareOp .GtE) (.int a) (.int b) Q E := fun w v u h1 h2 => by
  simp only [Rel] at h1 h2; obtain ⟨t, rfl⟩ := h1; obtain ⟨t', rfl⟩ := h2
  exact AT.val (r := .bool (decide (b ≤ a))) (fun Q E s h => ge_int (h _ s.toks (by simp [Rel]))) hq
theorem op_eqi (hq : Q (.bool (decide (a = b))) F G) : Op2 c A env Rel F G (compareOp .Eq) (.int a) (.int b) Q E := fun w v u h1 h2 => by
  simp only [Rel] at h1 h2; obtain ⟨t, rfl⟩ := h1; obtain ⟨t', rfl⟩ := h2
  exact AT.val (r := .bool (decide (a = b))) (fun Q E s h => eq_int (h _ s.toks (by simp [Rel]; by_cases q : a = b <;> simp [q]))) hq
theorem op_nei (hq : Q (.bool (!decide (a = b))) F G) : Op2 c A env Rel F G (compareOp .NotEq) (.int a) (.int b) Q E := fun w v u h1 h2 => by
  simp only [Rel] at h1 h2; obtain ⟨t, rfl⟩ := h1; obtain ⟨t', rfl⟩ := h2
  exact AT.val (r := .bool (!decide (a = b))) (fun Q E s h => ne_int (h _ s.toks (by simp [Rel]; by_cases q : a = b <;> simp [q]))) hq
end
section
variable {c : Cx} {l : List Env} {w : Wd} {G : Led} {s : Shared}
theorem Sim.xstep {hs : List Addr} {h' : Heap} (S : Sim c l w G s) (hh : ∀ a ∈ hs, (w a = none ∧ a ∉ G.map (·.1)) ∨ ∃ env ∈ l, env.frame = some a) (k : (hideAll s.heap hs).StaysIn h')
    (u : ∀ b o, s.heap.get? b = some o → (∀ vs, o.data ≠ .fields vs) → ∃ sl, h'.get? b = some { o with slots := sl }) : Sim c l w G { s with heap := h' } := by
  have wn : ∀ a ∈ hs, w a = none := fun a ha => by
    rcases hh a ha with q | ⟨env, he, hf⟩
    · exact q.1
    · refine e0a2 (S.frs env he) fun _ zq13 => ?_
      obtain ⟨L, h1, h2, _⟩ := zq13
      rw [h1] at hf; cases hf; exact h2
  refine ⟨fun a o e => k a o (hideAll_get _ (S.wok a o e) fun q => by rw [wn a q] at e; cases e), S.wbase, S.nd, fun p hp => ⟨(S.ents p hp).1, ?_⟩, fun env he => ?_, S.gens, S.os⟩
  · by_cases q : p.1 ∈ hs
    · rcases hh _ q with q' | ⟨env, he, hf⟩
      · exact absurd (List.mem_map_of_mem hp) q'.2
      · refine e0a2 (S.frs env he) fun _ zq14 => ?_
        obtain ⟨L, h1, h2, h3, h4⟩ := zq14
        rw [h1] at hf; cases hf
        have ht := h4 p.2 hp
        have hp2 := (S.ents p hp).2
        obtain ⟨a, o⟩ := p
        cases o with
        | ns es =>
          refine e3a4 hp2 ?_
          try clear hp2
          intro ob ents n k1 k2 k3 k4
          refine e1a1 (u _ ob k1 (by intro vs e; rw [k2] at e; cases e)) fun sl k5 => ?_
          exact ⟨_, ents, n, k5, k2, k3, k4⟩
        | _ => cases ht
    · refine e1a1 ((S.ents p hp).2.there) fun x hx => ?_
      exact (S.ents p hp).2.congr ((k _ _ (hideAll_get _ hx q)).trans hx.symm)
  · refine e0a2 (S.frs env he) fun k' zq15 => ?_
    obtain ⟨L, h1, h2, ⟨ob, es, n, h3, h4⟩, h5⟩ := zq15
    refine e1a1 (u _ ob h3 (by intro vs e; rw [h4] at e; cases e)) fun sl k5 => ?_
    exact ⟨k', L, h1, h2, ⟨_, es, n, k5, h4⟩, h5⟩
theorem Sim.funFrames {hs : List Addr} (S : Sim c l w G s) (hin : ∀ env ∈ l, ∀ a, env.frame = some a → a ∈ hs) : s.heap.FunFrames (hideAll s.heap hs) l := by
  have key : ∀ l' : List Env, (∀ env ∈ l', env ∈ l) → s.heap.FunFrames (hideAll s.heap hs) l' := by
    intro l' hl'
    induction l' with
    | nil => trivial
    | cons env r ih =>
      refine e0a2 (S.frs env (hl' env (.head _))) fun k' zq16 => ?_
      obtain ⟨L, h1, h2, ⟨ob, es, n, h3, h4⟩, h5⟩ := zq16
      exact ⟨k', ⟨L, ob, h1, hideAll_none _ (hin env (hl' env (.head _)) L h1), h3, fun vs e => by rw [h4] at e; cases e⟩, ih fun e he => hl' e (.tail _ he)⟩
  exact key l fun _ h => h
noncomputable def fas (l : List Env) : List Addr := l.filterMap (·.frame)
theorem fas_in {env : Env} {a : Addr} (he : env ∈ l) (hf : env.frame = some a) : a ∈ fas l := List.mem_filterMap.mpr ⟨env, he, hf⟩
theorem Sim.off {hs : List Addr} {T : Addr} {h' : Heap} {oT : Obj} {ts : Array Value} {e : Addr} {t0 : List Addr} (S : Sim c l w G s) (hhs : hs = e :: t0 ++ fas l) (hb : (hideAll s.heap hs).get? T = none) (hne : T ≠ e) (ht0 : ∀ a ∈ t0, w a = none ∧ a ∉ G.map (·.1))
    (S' : Sim c l w G { s with heap := h' }) (hT : h'.get? T = some oT) (hd : oT.data = .fields ts) : w T = none ∧ T ∉ G.map (·.1) := by
  have nfr : T ∉ fas l := fun q => by
    refine e1a2 (List.mem_filterMap.mp q) fun env he hf => ?_
    refine e0a2 (S'.frs env he) fun _ zq17 => ?_
    obtain ⟨L, h1, _, ⟨ob, es, n, h3, h4⟩, _⟩ := zq17
    rw [h1] at hf; cases hf
    have h3 : h'.get? T = some ob := h3
    rw [h3] at hT; cases hT; rw [h4] at hd; cases hd
  by_cases q : T ∈ t0
  · exact ht0 T q
  · have nh : T ∉ hs := by rw [hhs]; simp only [List.cons_append, List.mem_cons, List.mem_append, not_or]; exact ⟨hne, q, nfr⟩
    refine ⟨?_, fun z => ?_⟩
    · cases e' : w T with
      | none => rfl
      | some o => rw [hideAll_get _ (S.wok _ _ e') nh] at hb; cases hb
    · refine e1a2 (List.mem_map.mp z) fun p hp zq18 => ?_
      subst zq18
      refine e1a1 ((S.ents p hp).2.there) fun x hx => ?_
      rw [hideAll_get _ hx nh] at hb; cases hb
variable {A : Around} {M : Model} {env : Env} {r : List Env} {e : Addr} {cls : Value} {args : List D} {Q : Unit → Shared → Prop} {E : Value → Shared → Prop}
theorem x_note {m : XM} (S : Sim c (env :: r) w G s) (hA : A.frames = some (env :: r)) (X : XAtM m (env :: r) w G s.heap e cls args)
    (h : ∀ h', Sim c (env :: r) w G { s with heap := h' } → XAtM .held (env :: r) w G h' e cls args → Q () { s with heap := h' }) : wpAny M A (noteFrame (.ref e) env) Q E s := by
  refine e0a3 X ?_
  try clear X
  intro x1 x2 zq19
  obtain ⟨ob, vs, t, us, n, x3, x4, x5, x6, x7, x8, x9⟩ := zq19
  refine e0a2 (S.frs env (.head _)) fun _ zq20 => ?_
  obtain ⟨L, f1, f2, _⟩ := zq20
  have fin : ∀ {t0 : List Addr}, ∀ en ∈ (env :: r), ∀ a, en.frame = some a → a ∈ e :: t0 ++ fas (env :: r) := fun en he a hf => List.mem_append_right _ (fas_in he hf)
  have hen : ∀ {t0 : List Addr}, (hideAll s.heap (e :: t0 ++ fas (env :: r))).get? e = none := hideAll_none _ (by simp)
  have fromNoted : ∀ {t0 : List Addr} {h' : Heap}, (∀ a ∈ t0, w a = none ∧ a ∉ G.map (·.1)) → Heap.NotedW (hideAll s.heap (e :: t0 ++ fas (env :: r))) (env :: r) e ob.cls (.ref t) (rawInt L) s.heap h' → Q () { s with heap := h' } := by
    intro t0 h' ht0 ⟨k1, k2, k3, k4⟩
    have S' : Sim c (env :: r) w G { s with heap := h' } := S.xstep (fun a ha => by
      simp only [List.cons_append, List.mem_cons, List.mem_append] at ha
      rcases ha with rfl | q | q
      · exact .inl ⟨x1, x2⟩
      · exact .inl (ht0 a q)
      · obtain ⟨en, he, hf⟩ := List.mem_filterMap.mp q; exact .inr ⟨en, he, hf⟩) k1 k4
    refine e5a9 k3 ?_
    try clear k3
    intro oe ws T oT ts y1 zq21 y4 y5 y6 y7 y8 y9 y10
    obtain ⟨y2, y3⟩ := zq21
    have off := S.off rfl y6 y7 ht0 S' y8 y9
    exact h h' S' ⟨x1, x2, oe, ws, t, us, n, y1, y2.trans x4, y4, y3, x7, x8, env, r, L, rfl, f1, T, oT, ts, y5, off.1, off.2, y7, y8, y9, y10⟩
  cases m with
  | fresh =>
    have x9 : vs[1]? = some .none := x9
    unfold noteFrame
    simp only [f1]
    refine wpAny_bind (wpAny_field x3 x5 x9 ?_)
    rw [if_neg (by decide)]
    exact wpAny_entryW (base := hideAll s.heap (e :: [] ++ fas (env :: r))) hA (S.funFrames fin) f1 x3 (fun b o q => of_hideAll _ q) hen x5 (Array.getElem?_eq_some_iff.mp x9).1 x6 fun h' N => fromNoted (by simp) N
  | fly =>
    refine e3a7 x9 ?_
    try clear x9
    intro T oT ts y1 y2 y3 y4 y5 y6 y7
    exact wpAny_noteFrame_onW (base := hideAll s.heap (e :: [T] ++ fas (env :: r))) hA (S.funFrames fin) f1 ⟨ob, vs, T, oT, ts, x3, ⟨rfl, x6⟩, x5, y1, hideAll_none _ (by simp), y4, y5, y6, y7⟩ (fun b o q => of_hideAll _ q) hen
      fun h' N => fromNoted (t0 := [T]) (by simp only [List.mem_singleton]; rintro a rfl; exact ⟨y2, y3⟩) N
  | held =>
    refine e3a3 x9 ?_
    try clear x9
    intro env' r' L' z1 z2 zq22
    obtain ⟨T, oT, ts, y1, y2, y3, y4, y5, y6, y7⟩ := zq22
    cases z1
    rw [f1] at z2; cases z2
    refine wpAny_noteFrame_againW (base := hideAll s.heap [T]) (cls := ob.cls) (a0 := .ref t) f1 ⟨ob, vs, T, oT, ts, x3, ⟨rfl, x6⟩, x5, y1, hideAll_none _ (by simp), y4, y5, y6, y7⟩ ?_
    exact h s.heap S ⟨x1, x2, ob, vs, t, us, n, x3, x4, x5, x6, x7, x8, env, r, L, rfl, f1, T, oT, ts, y1, y2, y3, y4, y5, y6, y7⟩
theorem x_flight {l' : List Env} {m m' : XM} {fr : Option Addr} (S : Sim c l w G s) (hm : m ≠ .fresh) (hm' : m' = .fly ∧ fr = none ∨ m' = .held ∧ ∃ env r L, l' = env :: r ∧ env.frame = some L ∧ fr = some L)
    (X : XAtM m l w G s.heap e cls args)
    (h : ∀ h', Sim c l w G { s with heap := h' } → XAtM m' l' w G h' e cls args → Q () { s with heap := h' }) : wpAny M A (setFlight (.ref e) fr) Q E s := by
  refine e0a3 X ?_
  try clear X
  intro x1 x2 zq23
  obtain ⟨ob, vs, t, us, n, x3, x4, x5, x6, x7, x8, x9⟩ := zq23
  obtain ⟨T, oT, ts, f, y1, y2, y3, y4, y5, y6, y7⟩ : ∃ T oT ts f, vs[1]? = some (.ref T) ∧ w T = none ∧ T ∉ G.map (·.1) ∧ T ≠ e ∧ s.heap.get? T = some oT ∧ oT.data = .fields ts ∧ ts[3]? = some f := by
    cases m with
    | fresh => exact absurd rfl hm
    | fly => obtain ⟨T, oT, ts, y⟩ := x9; exact ⟨T, oT, ts, _, y⟩
    | held => obtain ⟨_, _, _, _, _, T, oT, ts, y⟩ := x9; exact ⟨T, oT, ts, _, y⟩
  have hsz : 3 < ts.size := (Array.getElem?_eq_some_iff.mp y7).1
  unfold setFlight
  refine wpAny_bind (wpAny_field x3 x5 y1 ?_)
  rw [if_pos (show (Value.ref T != Value.none) = true from by simp)]
  refine wpAny_setField y5 y6 hsz ?_
  have other : ∀ b, b ≠ T → (s.heap.update T (Obj.mapFields (·.setIfInBounds 3 (fr.elim Value.none fun f => rawInt f)))).get? b = s.heap.get? b := fun b hb => Heap.get?_update_other _ _ (Ne.symm hb)
  have hTn : (s.heap.update T (Obj.mapFields (·.setIfInBounds 3 (fr.elim Value.none fun f => rawInt f)))).get? T = some (Obj.mapFields (·.setIfInBounds 3 (fr.elim Value.none fun f => rawInt f)) oT) :=
    Heap.get?_update_self _ y5 (Obj.isFreed_of_fields (Obj.data_mapFields y6 _))
  have S' : Sim c l w G { s with heap := s.heap.update T (Obj.mapFields (·.setIfInBounds 3 (fr.elim Value.none fun f => rawInt f))) } := by
    refine ⟨fun a o q => ?_, S.wbase, S.nd, fun p hp => ⟨(S.ents p hp).1, (S.ents p hp).2.congr (other _ fun q => y3 (q ▸ List.mem_map_of_mem hp))⟩, fun en he => ?_, S.gens, S.os⟩
    · show Heap.get? _ a = _
      rw [other a fun z => by rw [z, y2] at q; cases q]; exact S.wok a o q
    · refine e0a2 (S.frs en he) fun k' zq24 => ?_
      obtain ⟨L, h1, h2, ⟨ob', es, n', h3, h4⟩, h5⟩ := zq24
      refine ⟨k', L, h1, h2, ⟨ob', es, n', (other L fun z => ?_).trans h3, h4⟩, h5⟩
      subst z; rw [y5] at h3; cases h3; rw [y6] at h4; cases h4
  refine h _ S' ⟨x1, x2, ob, vs, t, us, n, (other e (Ne.symm y4)).trans x3, x4, x5, x6, x7, x8, ?_⟩
  rcases hm' with ⟨rfl, rfl⟩ | ⟨rfl, env, r, L, rfl, hf, rfl⟩
  · exact ⟨T, _, _, y1, y2, y3, y4, hTn, Obj.data_mapFields y6 _, by simp [hsz]⟩
  · exact ⟨env, r, L, rfl, hf, T, _, _, y1, y2, y3, y4, hTn, Obj.data_mapFields y6 _, by simp [hsz]⟩
theorem x_back {m : XM} (S : Sim c (env :: r) w G s) (hm : m ≠ .fresh) (X : XAtM m (env :: r) w G s.heap e cls args) {E' : Value → Shared → Prop}
    (h : ∀ h', Sim c (env :: r) w G { s with heap := h' } → XAtM .held (env :: r) w G h' e cls args → E' (.ref e) { s with heap := h' }) : cameBackBy M A env E' (.ref e) s := by
  refine e0a2 (S.frs env (.head _)) fun _ zq25 => ?_
  obtain ⟨L, f1, f2, _⟩ := zq25
  unfold cameBackBy
  have X' := X
  refine e0a3 X ?_
  try clear X
  intro x1 x2 zq26
  obtain ⟨ob, vs, t, us, n, x3, x4, x5, x6, x7, x8, x9⟩ := zq26
  obtain ⟨T, y1⟩ : ∃ T, vs[1]? = some (.ref T) := by
    cases m with
    | fresh => exact absurd rfl hm
    | fly => obtain ⟨T, oT, ts, y, _⟩ := x9; exact ⟨T, y⟩
    | held => obtain ⟨_, _, _, _, _, T, oT, ts, y, _⟩ := x9; exact ⟨T, y⟩
  refine wpAny_bind (wpAny_field x3 x5 y1 ?_)
  rw [if_neg (by simp)]
  rw [f1]
  exact x_flight S hm (.inr ⟨rfl, env, r, L, rfl, f1, rfl⟩) X' h
end
noncomputable def FitA (A : Around) (env : Env) : Prop := ∃ r, A.frames = some (env :: r)
noncomputable def Asg (c : Cx) (A : Around) (env : Env) (F : Frm) (G : Led) (tg : Expr) (d : D) (Q : Frm → Led → Prop) (E : LX) : Prop :=
  ∀ w v, Rel w d v → AT c A env Rel1 w F G (assign tg env v) (fun (_ : Unit) F1 G1 => Q F1 G1) E

section
variable {c : Cx} {A : Around} {env : Env} {w : Wd} {F : Frm} {G : Led} {E : LX} {Q : Fl → Frm → Led → Prop}

theorem as_nil (hq : Q .next F G) : AS c A env F G [] Q E := AT.pure (b := Fl.next) rfl (fun _ _ z => z) hq
theorem FRel.mono {w w' : Wd} (h : Sub w w') : ∀ {f : Fl} {g : Flow}, FRel w f g → FRel w' f g
  | .next, _, e => e
  | .brk, _, e => e
  | .cont, _, e => e
  | .ret _, _, ⟨v, e, r⟩ => ⟨v, e, r.mono h⟩
noncomputable def after (c : Cx) (A : Around) (env : Env) (rest : List Stmt) (Q : Fl → Frm → Led → Prop) (E : LX) : Fl → Frm → Led → Prop
  | .next, F, G => AS c A env F G rest Q E
  | f, F, G => Q f F G
theorem as_cons {st : Stmt} {rest : List Stmt} (h : AS1 c A env F G st (after c A env rest Q E) E) : AS c A env F G (st :: rest) Q E := by
  show AT c A env FRel Wd.nil F G (do match ← exec st env with | .next => execs rest env | f => pure f) Q E
  refine AT.bind (h.mono (fun fl F1 G1 h1 w1 a hs hr => ?_) fun _ _ _ _ z => z)
  cases fl with
  | next => cases hr; exact AT.up h1 (Sub.nil _)
  | brk => cases hr; exact AT.pure (b := Fl.brk) rfl (fun _ _ z => z) h1
  | cont => cases hr; exact AT.pure (b := Fl.cont) rfl (fun _ _ z => z) h1
  | ret d => obtain ⟨v, rfl, hv⟩ := hr; exact AT.pure (b := Fl.ret d) ⟨v, rfl, hv⟩ (fun _ s z => FRel.mono s z) h1
noncomputable abbrev kExp (Q : Fl → Frm → Led → Prop) (_ : D) (F : Frm) (G : Led) : Prop := Q .next F G
theorem as_Expr {e : Expr} {pos : Pos} (h : AE c A env F G e (kExp Q) E) (hi : interactive env = false := by with_unfolding_all rfl) (hs : swapsWith e none pos.line env = pure false := by with_unfolding_all rfl) : AS1 c A env F G (.Expr e pos) Q E :=
  fun f l hl w1 R s hs' S => wpAny_Expr_any (wpAny_mono (h f l hl w1 R s hs' S) (fun a s' ⟨w', b, G', k1, k2, k3, k4⟩ => ⟨w', Fl.next, G', k1, rfl, k3, k4⟩) fun _ _ z => z) hi hs
noncomputable abbrev kRet (Q : Fl → Frm → Led → Prop) (d : D) (F : Frm) (G : Led) : Prop := Q (.ret d) F G
theorem as_Return {e : Expr} {pos : Pos} (h : AE c A env F G e (kRet Q) E) : AS1 c A env F G (.Return (some e) pos) Q E :=
  fun f l hl w1 R s hs' S => wpAny_Return_some (wpAny_mono (h f l hl w1 R s hs' S) (fun a s' ⟨w', b, G', k1, k2, k3, k4⟩ => ⟨w', Fl.ret b, G', k1, ⟨a, rfl, k2⟩, k3, k4⟩) fun _ _ z => z)
theorem as_Break {pos : Pos} (hq : Q .brk F G) : AS1 c A env F G (.Break pos) Q E := AT.standAt (AT.pure (b := Fl.brk) rfl (fun _ _ z => z) hq)
theorem as_Continue {pos : Pos} (hq : Q .cont F G) : AS1 c A env F G (.Continue pos) Q E := AT.standAt (AT.pure (b := Fl.cont) rfl (fun _ _ z => z) hq)
noncomputable abbrev kIf (c : Cx) (A : Around) (env : Env) (b o : List Stmt) (Q : Fl → Frm → Led → Prop) (E : LX) (r : Bool) (F : Frm) (G : Led) : Prop := if r then AS c A env F G b Q E else AS c A env F G o Q E
theorem as_If {t : Expr} {b o : List Stmt} {pos : Pos} (h : AI c A env F G t (kIf c A env b o Q E) E) : AS1 c A env F G (.If t b o pos) Q E := by
  show AT c A env FRel Wd.nil F G (do standAt pos; if ← isTrue t env (eval t env) then execs b env else execs o env) Q E
  refine AT.standAt (AT.bind (h.mono (fun r F1 G1 h1 w1 a hs hr => ?_) fun _ _ _ _ z => z))
  cases hr
  cases r
  · exact AT.up h1 (Sub.nil _)
  · exact AT.up h1 (Sub.nil _)

theorem store_local {x : Str} {v : Value} {d : D} {Q : Unit → Frm → Led → Prop} (hx : env.kindOf x = some .local) (hr : Rel w d v) (hq : Q () { F with loc := (x, d) :: F.loc } G) : AT c A env Rel1 w F G (storeName env x v) Q E :=
  fun f l hl w1 R s hs S => by
    refine e3a4 (S.get (a := F.L) (o := .ns F.loc) (by simp [Frm.led])) fun ob ents n h1 h2 h3 h4 => ?_
    refine wpAny_storeName_local hx ⟨ob, ents, n, f.loc ▸ h1, h2, h3, fun _ => rfl⟩ (fun h' hn hsb => ⟨w1, (), _, .refl _, rfl, ?_, { F with loc := (x, d) :: F.loc }, G, ⟨f.kind, f.loc, f.cel, f.gl, f.bi⟩, rfl, hq⟩) (by rw [f.kind]; rfl)
    rw [f.loc] at hn hsb
    refine e3a4 hn ?_
    try clear hn
    intro ob' ents' n' k1 k2 k3 k4
    refine Sim.put (A := []) (B := F.cel.map (fun p => (p.2.1, O.cell p.2.2)) ++ G ++ R) (a := F.L) (o := .ns F.loc) (o' := .ns ((x, d) :: F.loc)) (by simpa [Frm.led] using S) hsb ⟨ob', ents', n', k1, k2, k3, fun y e hy => ?_⟩ rfl
    rw [List.lookup_cons] at hy
    cases q : y == x with
    | true =>
      rw [q] at hy; cases hy
      exact ⟨v, (k4 y).trans (if_pos (eq_of_beq q)), hr.mono hs⟩
    | false =>
      rw [q] at hy
      refine e1a2 (h4 y e hy) fun u hu hr' => ?_
      exact ⟨u, (k4 y).trans ((if_neg (by simpa using q)).trans hu), hr'⟩
theorem store_cell {x : Str} {v : Value} {d : D} {a : Addr} {v0 : Option D} {Q : Unit → Frm → Led → Prop} (hx : env.kindOf x = some .cell) (hc : F.cel.lookup x = some (a, v0)) (hr : Rel w d v) (hq : Q () { F with cel := celSet x d F.cel } G) : AT c A env Rel1 w F G (storeName env x v) Q E :=
  fun f l hl w1 R s hs S => by
    refine e2a2 (celSet_split x d F.cel a v0 hc) fun A' B' e1 e2 => ?_
    have hm := S.get (a := a) (o := .cell v0) (List.mem_append_left _ (List.mem_append_left _ (cel_mem hc)))
    obtain ⟨v1, hv1⟩ : ∃ v1, s.heap.IsCell a v1 := by
      cases v0 with
      | none => exact hm
      | some d => obtain ⟨v, h1, _⟩ := hm; exact ⟨_, h1⟩
    refine wpAny_storeName_cell f.kind hx (by rw [f.cel x (.inl hx), hc]; rfl) hv1 fun h' hn hsb => ⟨w1, (), _, .refl _, rfl, ?_, { F with cel := celSet x d F.cel }, G, ⟨f.kind, f.loc, fun y hy => by rw [celSet_lookup]; exact f.cel y hy, f.gl, f.bi⟩, rfl, hq⟩
    have S' := Sim.put (A := (F.L, .ns F.loc) :: A'.map (fun p => (p.2.1, O.cell p.2.2))) (B := B'.map (fun p => (p.2.1, O.cell p.2.2)) ++ G ++ R) (a := a) (o := .cell v0) (o' := .cell (some d)) (tk := s.toks) (by simpa [Frm.led, e1] using S) hsb ⟨v, hn, hr.mono hs⟩ rfl
    simpa [Frm.led, e2] using S'
theorem AT.bindName {x : Str} {v : Value} {Q : Unit → Frm → Led → Prop} (h : AT c A env Rel1 w F G (storeName env x v) Q E) : AT c A env Rel1 w F G (bindName env x v) Q E :=
  fun f l hl w1 R s hs S => wpAny_bindName (h f l hl w1 R s hs S)
theorem asg_local {x : Str} {pos : Pos} {d : D} {Q : Frm → Led → Prop} {L : Addr} {loc : List (Str × D)} {cel : List (Str × Addr × Option D)} (hx : env.kindOf x = some .local) (hq : Q ⟨L, (x, d) :: loc, cel⟩ G) : Asg c A env ⟨L, loc, cel⟩ G (.Name x pos) d Q E :=
  fun w v hr => by
    show AT c A env Rel1 w ⟨L, loc, cel⟩ G (do standAt pos; bindName env x v) _ E
    exact AT.standAt (AT.bindName (store_local hx hr hq))
theorem asg_cell {x : Str} {pos : Pos} {d : D} {a : Addr} {v0 : Option D} {Q : Frm → Led → Prop} {L : Addr} {loc : List (Str × D)} {cel : List (Str × Addr × Option D)} (hx : env.kindOf x = some .cell) (hc : cel.lookup x = some (a, v0)) (hq : Q ⟨L, loc, celSet x d cel⟩ G) : Asg c A env ⟨L, loc, cel⟩ G (.Name x pos) d Q E :=
  fun w v hr => by
    show AT c A env Rel1 w ⟨L, loc, cel⟩ G (do standAt pos; bindName env x v) _ E
    exact AT.standAt (AT.bindName (store_cell hx hc hr hq))
theorem celSet_h2 {x : Str} {d : D} {a : Addr} {v : Option D} {r : List (Str × Addr × Option D)} : celSet x d ((x, a, v) :: r) = (x, a, some d) :: r := by simp [celSet]
theorem celSet_t2 {x y : Str} {d : D} {a : Addr} {v : Option D} {r r' : List (Str × Addr × Option D)} (h : (x == y) = false) (e : celSet x d r = r') : celSet x d ((y, a, v) :: r) = (y, a, v) :: r' := by simp [celSet, h, e]
theorem asg_cell2 {x : Str} {pos : Pos} {d : D} {a : Addr} {v0 : Option D} {Q : Frm → Led → Prop} {L : Addr} {loc : List (Str × D)} {cel cel' : List (Str × Addr × Option D)} (hx : env.kindOf x = some .cell) (hc : cel.lookup x = some (a, v0)) (hs : celSet x d cel = cel') (hq : Q ⟨L, loc, cel'⟩ G) : Asg c A env ⟨L, loc, cel⟩ G (.Name x pos) d Q E :=
  asg_cell hx hc (hs ▸ hq)
noncomputable abbrev kAsg (c : Cx) (A : Around) (env : Env) (tg : Expr) (Q : Frm → Led → Prop) (E : LX) (d : D) (F : Frm) (G : Led) : Prop := Asg c A env F G tg d Q E
theorem as_Assign1 {tg value : Expr} {pos : Pos} (h : AE c A env F G value (kAsg c A env tg (Q .next) E) E) (hs : swapsWithSole [tg] value pos.line env = pure false := by with_unfolding_all rfl) (hw : swappedStores [tg] value env = pure none := by with_unfolding_all rfl)
    (hsd : (assignEach [tg] env).map (·.2) = [assign tg env] := by with_unfolding_all rfl) : AS1 c A env F G (.Assign [tg] value pos) Q E :=
  fun f l hl w1 R s hs' S => wpAny_Assign_stores (wpAny_mono (h f l hl w1 R s hs' S) (fun v s' ⟨w2, d, G', k1, k2, k3, F', G1, k4, k5, k6⟩ => by
    rw [hsd]
    subst k5
    show wpAny _ _ (assign tg env v) _ _ _
    exact wpAny_mono (k6 w2 v k2 k4 l hl w2 R s' (.refl _) k3) (fun _ s'' ⟨w3, _, G3, j1, j2, j3, j4⟩ => ⟨w3, Fl.next, G3, k1.trans j1, rfl, j3, j4⟩)
      fun e s'' ⟨w3, x, cl, ar, G3, j1, j2, j3, j4, j5⟩ => ⟨w3, x, cl, ar, G3, k1.trans j1, j2, j3, j4, j5⟩) fun _ _ z => z) hs hw
noncomputable abbrev kAsg2 (c : Cx) (A : Around) (env : Env) (tg tg' : Expr) (Q : Frm → Led → Prop) (E : LX) (d : D) (F : Frm) (G : Led) : Prop := Asg c A env F G tg d (kAsg c A env tg' Q E d) E
theorem as_Assign2 {tg tg' value : Expr} {pos : Pos} (h : AE c A env F G value (kAsg2 c A env tg tg' (Q .next) E) E) (hs : swapsWithSole [tg, tg'] value pos.line env = pure false := by with_unfolding_all rfl) (hw : swappedStores [tg, tg'] value env = pure none := by with_unfolding_all rfl)
    (hsd : (assignEach [tg, tg'] env).map (·.2) = [assign tg env, assign tg' env] := by with_unfolding_all rfl) : AS1 c A env F G (.Assign [tg, tg'] value pos) Q E :=
  fun f l hl w1 R s hs' S => wpAny_Assign_stores (wpAny_mono (h f l hl w1 R s hs' S) (fun v s' ⟨w2, d, G', k1, k2, k3, F', G1, k4, k5, k6⟩ => by
    rw [hsd]
    subst k5
    have z : AT c A env Rel1 w2 F' G1 (do holding [v] (assign tg env v); assign tg' env v) (fun (_ : Unit) F1 G1 => Q .next F1 G1) E :=
      AT.bind (AT.holding ((k6 w2 v k2).mono (fun _ F1 G1 h1 w3 _ hs3 _ => h1 w3 v (k2.mono hs3)) fun _ _ _ _ z => z))
    show wpAny _ _ (do holding [v] (assign tg env v); assign tg' env v) _ _ _
    exact wpAny_mono (z k4 l hl w2 R s' (.refl _) k3) (fun _ s'' ⟨w3, _, G3, j1, j2, j3, j4⟩ => ⟨w3, Fl.next, G3, k1.trans j1, rfl, j3, j4⟩)
      fun e s'' ⟨w3, x, cl, ar, G3, j1, j2, j3, j4, j5⟩ => ⟨w3, x, cl, ar, G3, k1.trans j1, j2, j3, j4, j5⟩) fun _ _ z => z) hs hw
noncomputable abbrev kNam (c : Cx) (A : Around) (env : Env) (x : Expr) (Q : D → Frm → Led → Prop) (E : LX) (d : D) (F : Frm) (G : Led) : Prop := Asg c A env F G x d (Q d) E
theorem ae_Named {x value : Expr} {pos : Pos} {Q : D → Frm → Led → Prop} (h : AE c A env F G value (kNam c A env x Q E) E) : AE c A env F G (.NamedExpr x value pos) Q E := by
  show AT c A env Rel Wd.nil F G (do let v ← eval value env; holding [v] (assign x env v); pure v) Q E
  refine AT.bind (h.mono (fun d F1 G1 h1 w1 a hs hr => AT.bind (AT.holding ((h1 w1 a hr).mono (fun _ F2 G2 h2 w2 _ hs2 _ => ?_) fun _ _ _ _ z => z))) fun _ _ _ _ z => z)
  exact AT.pure (hr.mono hs2) (fun _ s z => z.mono s) h2

noncomputable abbrev EQ (c : Cx) (env : Env) (l : List Env) (R : Led) (w1 : Wd) (E : LX) (e : Value) (s' : Shared) : Prop :=
  Px c l w1 R (fun x y G' => PF env (E x y) G') e s'
theorem noted_of {r : List Env} {R : Led} {w1 : Wd} {e : Value} {s' : Shared} (hl : A.frames = some (env :: r)) (h : EQ c env (env :: r) R w1 E e s') :
    notedBy (model c.prog c.wd) A env (fun e s' => cameBackBy (model c.prog c.wd) A env (EQ c env (env :: r) R w1 E) e s') e s' := by
  obtain ⟨w', x, cls, args, G', h1, rfl, ⟨m, hx⟩, S, hE⟩ := h
  unfold notedBy
  refine x_note S hl hx fun h' S' X' => ?_
  exact x_back S' (by intro q; cases q) X' fun h'' S'' X'' => ⟨w', x, cls, args, G', h1, rfl, ⟨_, X''⟩, S'', hE⟩
noncomputable abbrev turnQ (Q : Fl → Frm → Led → Prop) (nx : Frm → Led → Prop) (fl : Fl) (F : Frm) (G : Led) : Prop := match fl with
  | .next | .cont => nx F G
  | .brk => Q .next F G
  | .ret d => Q (.ret d) F G
noncomputable abbrev kLess (Inv : Nat → Frm → Led → Prop) (n : Nat) (F : Frm) (G : Led) : Prop := ∃ m, m < n ∧ Inv m F G
noncomputable abbrev kWhl (c : Cx) (A : Around) (env : Env) (b o : List Stmt) (Inv : Nat → Frm → Led → Prop) (n : Nat) (Q : Fl → Frm → Led → Prop) (E : LX) (r : Bool) (F : Frm) (G : Led) : Prop := if r then AS c A env F G b (turnQ Q (kLess Inv n)) E else AS c A env F G o Q E
theorem as_While {t : Expr} {b o : List Stmt} {pos : Pos} (hA : FitA A env) (Inv : Nat → Frm → Led → Prop) (n : Nat) (h0 : Inv n F G)
    (turn : ∀ n F G, Inv n F G → AI c A env F G t (kWhl c A env b o Inv n Q E) E) : AS1 c A env F G (.While t b o pos) Q E := fun f l hl w1 R s hs S => by
  refine e1a1 hA ?_
  try clear hA
  intro r hr
  rw [hr] at hl; cases hl
  refine wpAny_While (codeAny_whileLoop (fun n s' => ∃ w2 F' G', Sub w1 w2 ∧ Fit env F' ∧ Sim c (env :: r) w2 (F'.led ++ G' ++ R) s' ∧ Inv n F' G') (fun n s' z9 => ?_) n ⟨w1, F, G, .refl _, f, S, h0⟩)
  refine e3a4 z9 ?_
  try clear z9
  intro w2 F' G' h1 h2 h3 h4
  refine wpAny_mono (turn n F' G' h4 h2 _ hr w2 R s' (Sub.nil _) h3) (fun b' s2 z9 => ?_) fun e s2 z => noted_of hr ?_
  · obtain ⟨w3, b2, G3, k1, k2, k3, F3, G4, k4, k5, k6⟩ := z9
    cases k2
    subst k5
    cases b'
    · refine wpAny_mono (k6 k4 _ hr w3 R s2 (Sub.nil _) k3) (fun fl s3 ⟨w4, fl', G5, j1, j2, j3, j4⟩ => ⟨w4, fl', G5, (h1.trans k1).trans j1, j2, j3, j4⟩) fun e s3 z => noted_of hr ?_
      exact z.up (h1.trans k1)
    · refine wpAny_mono (k6 k4 _ hr w3 R s2 (Sub.nil _) k3) (fun fl s3 z9 => ?_) fun e s3 z => noted_of hr ?_
      · obtain ⟨w4, fl', G5, j1, j2, j3, F5, G6, j4, j5, j6⟩ := z9
        subst j5
        cases fl' with
        | next => cases j2; obtain ⟨m, hm, hi⟩ := j6; exact ⟨m, hm, w4, F5, G6, (h1.trans k1).trans j1, j4, j3, hi⟩
        | cont => cases j2; obtain ⟨m, hm, hi⟩ := j6; exact ⟨m, hm, w4, F5, G6, (h1.trans k1).trans j1, j4, j3, hi⟩
        | brk => cases j2; exact ⟨w4, Fl.next, _, (h1.trans k1).trans j1, rfl, j3, F5, G6, j4, rfl, j6⟩
        | ret d => obtain ⟨v, rfl, hv⟩ := j2; exact ⟨w4, Fl.ret d, _, (h1.trans k1).trans j1, ⟨v, rfl, hv⟩, j3, F5, G6, j4, rfl, j6⟩
      · exact z.up (h1.trans k1)
  · exact z.up h1

noncomputable def Nx (c : Cx) (A : Around) (w0 : Wd) (it : Addr) (en : Nat → O) (items : List D) (P : Led → Prop) : Prop :=
  ∀ l, A.frames = some l → ∀ (tg : Expr) i G w R s, Sub w0 w → P G → Sim c l w ((it, en i) :: G ++ R) s → wpAny (model c.prog c.wd) A (pyNext (.ref it)) (fun r s' => match items[i]? with
    | some d => ∃ v, r = some v ∧ wpAny (model c.prog c.wd) A (letOwnedTupleGo tg (.ref it) v) (fun _ s'' => ∃ w', Sub w w' ∧ Rel w' d v ∧ Sim c l w' ((it, en (i + 1)) :: G ++ R) s'') (fun _ _ => False) s'
    | none => r = none ∧ ∃ w', Sub w w' ∧ Sim c l w' (G ++ R) s') (fun _ _ => False) s
inductive Itr : O → Prop
  | list (a : Addr) (i : Nat) : Itr (.rcd "list_iterator" [.ref a, .int i 0])
  | tuple (a : Addr) (i : Nat) : Itr (.rcd "tuple_iterator" [.ref a, .int i 0])
  | key (a : Addr) (i n m : Nat) : Itr (.rcd "dict_keyiterator" [.ref a, .int i 0, .int n 0, .int m 0])
  | val (a : Addr) (i n m : Nat) : Itr (.rcd "dict_valueiterator" [.ref a, .int i 0, .int n 0, .int m 0])
  | range (x n st : Int) : Itr (.riter x n st)
noncomputable def IterOf (c : Cx) (A : Around) (d : D) (items : List D) (P : Led → Prop) : Prop :=
  ∀ l, A.frames = some l → ∀ w v G R s, Rel w d v → P G → Sim c l w (G ++ R) s → wpAny (model c.prog c.wd) A (pyIter v) (fun u s' => ∃ it en w', u = .ref it ∧ Nx c A w' it en items P ∧ Sub w w' ∧ Sim c l w' ((it, en 0) :: G ++ R) s' ∧ ∀ i, Itr (en i)) (fun _ _ => False) s
theorem swap_perm {p : Addr × O} {G R : Led} : (G ++ p :: R).Perm (p :: G ++ R) := by
  simp only [List.cons_append]; exact List.perm_middle
noncomputable abbrev kBody (c : Cx) (A : Around) (env : Env) (b : List Stmt) (Q : Fl → Frm → Led → Prop) (E : LX) (F : Frm) (G : Led) : Prop := AS c A env F G b Q E
inductive ForK (c : Cx) (A : Around) (env : Env) (tg : Expr) (b o : List Stmt) (Q : Fl → Frm → Led → Prop) (E : LX) (d : D) (F1 : Frm) (G1 : Led) : Prop
  | mk (items : List D) (P : Led → Prop) (Inv : Nat → Frm → Led → Prop) (hI : IterOf c A d items P) (h0 : Inv 0 F1 G1) (hP : ∀ i F G, Inv i F G → P (F.led ++ G))
      (turn : ∀ i d F G, items[i]? = some d → Inv i F G → Asg c A env F G tg d (kBody c A env b (turnQ Q (Inv (i + 1))) E) E) (fin : ∀ F G, Inv items.length F G → AS c A env F G o Q E)
theorem as_For {tg it : Expr} {b o : List Stmt} {pos : Pos} (hA : FitA A env)
    (h : AE c A env F G it (ForK c A env tg b o Q E) E)
    (hs : ∀ x, foldedSetIterable it env x = pure x := by intro _; with_unfolding_all rfl) : AS1 c A env F G (.For tg it b o pos) Q E := fun f l hl w1 R s hs' S => by
  refine e1a1 hA ?_
  try clear hA
  intro r hr
  rw [hr] at hl; cases hl
  refine wpAny_For (wpAny_mono (h f _ hr w1 R s hs' S) (fun x s1 z9 => ?_) fun _ _ z => z) hs
  obtain ⟨w2, d, G', h1, h2, h3, F1, G1, h4, h5, items, P, Inv, hI, i0, hP, turn, fin⟩ := z9
  subst h5
  refine wpAny_mono (hI _ hr w2 x (F1.led ++ G1) R s1 h2 (hP 0 F1 G1 i0) h3) (fun u s2 z9 => ?_) fun _ _ z => z.elim
  refine e3a5 z9 ?_
  try clear z9
  intro ita en w3 k1 nx k2 k3 _
  subst k1
  refine codeAny_forLoop_any (fun n s' => ∃ i w4 F' G', n = items.length - i ∧ i ≤ items.length ∧ Sub w3 w4 ∧ Fit env F' ∧ Sim c (env :: r) w4 ((ita, en i) :: (F'.led ++ G') ++ R) s' ∧ Inv i F' G') (fun n s' z9 => ?_) items.length ⟨0, w3, F1, G1, by simp, Nat.zero_le _, .refl _, h4, k3, i0⟩
  refine e4a6 z9 ?_
  try clear z9
  intro i w4 F' G' e0 e1 j1 j2 j3 j4
  have j0 : Sub w1 w4 := (h1.trans k2).trans j1
  refine wpAny_mono (nx _ hr tg i _ w4 R s' j1 (hP i F' G' j4) j3) (fun rr s3 z => ?_) fun _ _ z => z.elim
  cases hi : items[i]? with
  | none =>
    rw [hi] at z
    refine e0a2 z ?_
    try clear z
    intro zq27 zq28
    subst zq27
    obtain ⟨w5, m1, m2⟩ := zq28
    have hin : i = items.length := Nat.le_antisymm e1 (by simpa using hi)
    subst hin
    refine wpAny_mono (fin F' G' j4 j2 _ hr w5 R s3 (Sub.nil _) m2) (fun fl s4 ⟨w6, fl', G5, q1, q2, q3, q4⟩ => ⟨w6, fl', G5, (j0.trans m1).trans q1, q2, q3, q4⟩) fun e s4 z => noted_of hr ?_
    exact z.up (j0.trans m1)
  | some dd =>
    rw [hi] at z
    refine e1a2 z ?_
    try clear z
    intro v zq29 m1
    subst zq29
    have hlt : i < items.length := (List.getElem?_eq_some_iff.mp hi).1
    refine wpAny_mono m1 (fun _ s4 z9 => ?_) fun _ _ z => z.elim
    refine e1a3 z9 ?_
    try clear z9
    intro w5 m2 m3 m4
    refine wpAny_mono (turn i dd F' G' hi j4 w5 v m3 j2 _ hr w5 ((ita, en (i + 1)) :: R) s4 (.refl _) (m4.perm swap_perm)) (fun _ s5 z9 => ?_) fun e s5 z => noted_of hr ?_
    · obtain ⟨w6, _, G6, q1, _, q3, F6, G7, q4, q5, q6⟩ := z9
      subst q5
      refine wpAny_mono (q6 q4 _ hr w6 ((ita, en (i + 1)) :: R) s5 (Sub.nil _) q3) (fun fl s6 z9 => ?_) fun e s6 z => noted_of hr ?_
      · obtain ⟨w7, fl', G8, u1, u2, u3, F8, G9, u4, u5, u6⟩ := z9
        subst u5
        have sub := ((j0.trans m2).trans q1).trans u1
        have sub3 := ((j1.trans m2).trans q1).trans u1
        have u3' : Sim c (env :: r) w7 ((ita, en (i + 1)) :: (F8.led ++ G9) ++ R) s6 := u3.perm swap_perm.symm
        cases fl' with
        | next => cases u2; exact ⟨items.length - (i + 1), by walk_at "o", i + 1, w7, F8, G9, rfl, hlt, sub3, u4, u3', u6⟩
        | cont => cases u2; exact ⟨items.length - (i + 1), by walk_at "o", i + 1, w7, F8, G9, rfl, hlt, sub3, u4, u3', u6⟩
        | brk => cases u2; exact ⟨w7, Fl.next, _, sub, rfl, Sim.tail (A := [(ita, en (i + 1))]) u3', F8, G9, u4, rfl, u6⟩
        | ret d => obtain ⟨v, rfl, hv⟩ := u2; exact ⟨w7, Fl.ret d, _, sub, ⟨v, rfl, hv⟩, Sim.tail (A := [(ita, en (i + 1))]) u3', F8, G9, u4, rfl, u6⟩
      · obtain ⟨w8, x, cl, ar, G9, u1, u2, ⟨xm, u3⟩, u4, u5⟩ := z
        refine ⟨w8, x, cl, ar, G9, ((j0.trans m2).trans q1).trans u1, u2, ⟨xm, ?_⟩, Sim.tail (A := [(ita, en (i + 1))]) (B := G9 ++ R) (u4.perm (swap_perm (p := (ita, en (i + 1))) (G := G9) (R := R)).symm), u5⟩
        exact u3.less (by intro p hp; simp only [List.map_append, List.mem_append, List.map_cons, List.mem_cons] at hp ⊢; rcases hp with q | q <;> simp [q])
    · obtain ⟨w8, x, cl, ar, G9, u1, u2, ⟨xm, u3⟩, u4, u5⟩ := z
      refine ⟨w8, x, cl, ar, G9, (j0.trans m2).trans u1, u2, ⟨xm, ?_⟩, Sim.tail (A := [(ita, en (i + 1))]) (B := G9 ++ R) (u4.perm (swap_perm (p := (ita, en (i + 1))) (G := G9) (R := R)).symm), u5⟩
      exact u3.less (by intro p hp; simp only [List.map_append, List.mem_append, List.map_cons, List.mem_cons] at hp ⊢; rcases hp with q | q <;> simp [q])
end
local macro_rules | `(tactic| walk_at "q") => `(tactic| first
  | with_reducible assumption
  | decide
  | with_reducible exact Nat.le_trans (by assumption) (by with_unfolding_all decide)
  | with_reducible exact Nat.lt_of_lt_of_le (by assumption) (by with_unfolding_all decide)
  | with_reducible exact Nat.lt_of_le_of_lt (by assumption) (by with_unfolding_all decide)
  | with_reducible exact Nat.lt_of_lt_of_le (by assumption) (by assumption)
  | with_reducible exact Nat.le_of_lt (by assumption)
  | with_reducible exact Int.natCast_nonneg _
  | lia
  | omega)
section
variable {c : Cx} {A : Around} {w : Wd} {l : List Env} {G R : Led} {s : Shared}
theorem Sim.isList {a : Addr} {vs : Array Value} {n : Nat} (S : Sim c l w G s) (h : w a = some (seqO "list" vs n)) : s.heap.IsList a vs := ⟨_, S.wok _ _ h, rfl, n, rfl⟩
theorem Sim.isTuple {a : Addr} {vs : Array Value} {n : Nat} (S : Sim c l w G s) (h : w a = some (seqO "tuple" vs n)) : s.heap.IsTuple a vs := ⟨_, S.wok _ _ h, rfl, n, rfl⟩
theorem Sim.gone {it : Addr} {o : O} {h' : Heap} (S : Sim c l w ((it, o) :: G) s) (hx : Heap.ExtBut it s.heap h') (ho : o.tag = 0) : Sim c l w G { s with heap := h' } := by
  have hit := S.ents (it, o) (.head _)
  have e := S.nd
  rw [List.map_cons, List.nodup_cons] at e
  have keep : ∀ b ob, b ≠ it → s.heap.get? b = some ob → h'.get? b = some ob := fun b ob q z => hx b ob q z
  refine ⟨fun a ob q => keep a ob (fun z => by rw [z, hit.1] at q; cases q) (S.wok a ob q), S.wbase, e.2, fun p hp => ⟨(S.ents p (.tail _ hp)).1, ?_⟩, fun env he => ?_, S.gens, S.os⟩
  · have ne : p.1 ≠ it := fun z => e.1 (List.mem_map.mpr ⟨p, hp, z⟩)
    refine e1a1 ((S.ents p (.tail _ hp)).2.there) fun x hx' => ?_
    exact (S.ents p (.tail _ hp)).2.congr ((keep _ _ ne hx').trans hx'.symm)
  · refine e0a2 (S.frs env he) fun k zq30 => ?_
    obtain ⟨L, h1, h2, ⟨ob, es, n, h3, h4⟩, h5⟩ := zq30
    refine ⟨k, L, h1, h2, ⟨ob, es, n, keep L ob (fun z => ?_) h3, h4⟩, fun o ho => h5 o (.tail _ ho)⟩
    subst z
    have := h5 o (.head _)
    rw [ho] at this; cases this
theorem lot_noop {I : Addr} {cls : String} {vs : List Value} {tg : Expr} {v : Value} {Q : Unit → Shared → Prop} {E : Value → Shared → Prop} (h : OAt c w s.heap I (.rcd cls vs))
    (hc : ["enumerate", "zip", "dict_itemiterator", "dict_reverseitemiterator", "odict_iterator", "itertools.zip_longest", "itertools.pairwise"].contains cls = false) (hQ : Q () s) :
    wpAny (model c.prog c.wd) A (letOwnedTupleGo tg (.ref I) v) Q E s := by
  refine e1a3 h ?_
  try clear h
  intro ob h1 h2 h3
  have key : ∀ a, wpAny (model c.prog c.wd) A (do
      let o ← load I
      match o.cls, o.data with
      | .type n, .fields vs =>
        if ["enumerate", "zip", "dict_itemiterator", "dict_reverseitemiterator", "odict_iterator", "itertools.zip_longest", "itertools.pairwise"].contains n && vs[0]? == some (rawInt a) then
          rule "for.unpacks-the-owned-tuple"
          updateField I 0 .none
      | _, _ => pure () : Sem Unit) Q E s := fun a => by
    refine wpAny_bind (wpAny_load h1 ?_)
    rw [h2, h3]
    dsimp only
    rw [hc, Bool.false_and]
    rw [if_neg (by decide)]
    exact wpAny_pure hQ
  cases tg <;> first | exact wpAny_pure hQ | (cases v <;> first | exact wpAny_pure hQ | exact key _)
theorem lot_int {it : Value} {tg : Expr} {i : Int} {t : Tok} : letOwnedTupleGo tg it (.int i t) = pure () := by
  cases tg <;> first | rfl | (cases it <;> rfl)
theorem iter_list {n : Nat} {xs : List D} (hR : Rm n A) : IterOf c A (.list xs) xs (fun _ => True) := fun l hl w v G R s hr _ S => by
  simp only [Rel] at hr
  refine e3a3 hr ?_
  try clear hr
  intro a vs n zq31 h1 h2
  subst zq31
  refine wpAny_pyIter_list (S.isList h1) ⟨s.heap.objs.size, fun i => .rcd "list_iterator" [.ref a, .int i 0], w, rfl, ?_, .refl _, S.alloc rfl ⟨_, Heap.get?_push_size _ rfl, rfl, rfl⟩, fun i => .list _ _⟩
  intro l hl tg i G w' R s hw _ S
  have hI : s.heap.IsListIter _ a i := S.get (.head _)
  have hL := S.isList (hw _ _ h1)
  cases hx : xs[i]? with
  | some d =>
    refine e1a2 (h2.get hx) fun v hv hrv => ?_
    exact wpAny_pyNext_list_item hI hL (by simpa using hv) fun h' k1 k2 => ⟨v, rfl, lot_noop (c := c) (w := w') k1 (by decide) ⟨w', .refl _, hrv.mono hw, Sim.put (A := []) (tk := s.toks) S k2 k1 rfl⟩⟩
  | none =>
    have hv := h2.getNone hx
    exact wpAny_pyNext_list_end hR.handled hI hL (by simpa using hv) fun h' k1 => ⟨rfl, w', .refl _, S.gone k1 rfl⟩
theorem iter_tuple {n : Nat} {xs : List D} (hR : Rm n A) : IterOf c A (.tuple xs) xs (fun _ => True) := fun l hl w v G R s hr _ S => by
  simp only [Rel] at hr
  refine e3a3 hr ?_
  try clear hr
  intro a vs n zq32 h1 h2
  subst zq32
  refine wpAny_pyIter_tuple (S.isTuple h1) ⟨s.heap.objs.size, fun i => .rcd "tuple_iterator" [.ref a, .int i 0], w, rfl, ?_, .refl _, S.alloc rfl ⟨_, Heap.get?_push_size _ rfl, rfl, rfl⟩, fun i => .tuple _ _⟩
  intro l hl tg i G w' R s hw _ S
  have hI : s.heap.IsTupleIter _ a i := S.get (.head _)
  have hL := S.isTuple (hw _ _ h1)
  cases hx : xs[i]? with
  | some d =>
    refine e1a2 (h2.get hx) fun v hv hrv => ?_
    exact wpAny_pyNext_tuple_item hI hL (by simpa using hv) fun h' k1 k2 => ⟨v, rfl, lot_noop (c := c) (w := w') k1 (by decide) ⟨w', .refl _, hrv.mono hw, Sim.put (A := []) (tk := s.toks) S k2 k1 rfl⟩⟩
  | none =>
    have hv := h2.getNone hx
    exact wpAny_pyNext_tuple_end hR.handled hI hL (by simpa using hv) fun h' k1 => ⟨rfl, w', .refl _, S.gone k1 rfl⟩
theorem iter_mut {n : Nat} {a : Addr} {xs : List D} (hR : Rm n A) : IterOf c A (.ref a) xs (fun G => (a, O.list xs) ∈ G) := fun l hl w v G R s hr hm S => by
  simp only [Rel] at hr
  subst hr
  refine e2a3 (S.get (List.mem_append_left R hm)) fun vs n h1 h2 _ => ?_
  refine wpAny_pyIter_list ⟨_, h1, rfl, _, rfl⟩ ⟨s.heap.objs.size, fun i => .rcd "list_iterator" [.ref a, .int i 0], w, rfl, ?_, .refl _, S.alloc rfl ⟨_, Heap.get?_push_size _ rfl, rfl, rfl⟩, fun i => .list _ _⟩
  intro l hl tg i G w' R s hw hm S
  have hI : s.heap.IsListIter _ a i := S.get (.head _)
  refine e2a3 (S.get (List.mem_cons_of_mem _ (List.mem_append_left R hm))) fun vs n h1 h2 _ => ?_
  cases hx : xs[i]? with
  | some d =>
    refine e1a2 (h2.get hx) fun v hv hrv => ?_
    exact wpAny_pyNext_list_item hI ⟨_, h1, rfl, _, rfl⟩ (by simpa using hv) fun h' k1 k2 => ⟨v, rfl, lot_noop (c := c) (w := w') k1 (by decide) ⟨w', .refl _, hrv, Sim.put (A := []) (tk := s.toks) S k2 k1 rfl⟩⟩
  | none =>
    have hv := h2.getNone hx
    exact wpAny_pyNext_list_end hR.handled hI ⟨_, h1, rfl, _, rfl⟩ (by simpa using hv) fun h' k1 => ⟨rfl, w', .refl _, S.gone k1 rfl⟩

noncomputable def rngN (a b k : Int) : Nat := (Builtin.Range.rangeSize a b k).toNat
noncomputable def rngL (a b k : Int) : List D := (List.range (rngN a b k)).map fun (i : Nat) => .int (a + (i : Int) * k)
theorem rngL_get (a b k : Int) (i : Nat) : (rngL a b k)[i]? = if i < rngN a b k then some (.int (a + i * k)) else none := by
  unfold rngL
  rw [List.getElem?_map]
  split
  · rename_i h; rw [List.getElem?_range h]; rfl
  · rename_i h; rw [List.getElem?_eq_none (by simpa using h)]; rfl
theorem iter_range {n : Nat} {a b k : Int} (hR : Rm n A) (hs : Builtin.Range.small a b k = true) (h0 : 0 ≤ Builtin.Range.rangeSize a b k) : IterOf c A (.range a b k) (rngL a b k) (fun _ => True) := fun l hl w v G R s hr _ S => by
  simp only [Rel] at hr
  refine e4a2 hr ?_
  try clear hr
  intro r t u x zq33 h1
  subst zq33
  have hN : (rngN a b k : Int) = Builtin.Range.rangeSize a b k := Int.toNat_of_nonneg h0
  refine wpAny_pyIter_range (S.wok _ _ h1) hs ⟨s.heap.objs.size, fun i => .riter (a + i * k) (rngN a b k - i) k, w, rfl, ?_, .refl _, S.alloc rfl ?_, fun i => .range _ _ _⟩
  · intro l hl tg i G w' R s hw _ S
    have hI : IsRangeIter s.heap _ _ _ _ := S.get (.head _)
    rw [rngL_get]
    by_cases hx : i < rngN a b k
    · rw [if_pos hx]
      refine wpAny_pyNext_range_item hI (by walk_at "q") fun h' k1 k2 => ⟨_, rfl, ?_⟩
      have e1 : a + i * k + k = a + ((i + 1 : Nat) : Int) * k := by rw [Int.natCast_add, Int.add_mul]; walk_at "q"
      have e2 : (rngN a b k : Int) - i - 1 = rngN a b k - ((i + 1 : Nat) : Int) := by walk_at "q"
      rw [e1, e2] at k1
      have S' : Sim c l w' ((_, O.riter (a + ((i + 1 : Nat) : Int) * k) (rngN a b k - ((i + 1 : Nat) : Int)) k) :: G ++ R) { s with heap := h', toks := s.toks + 1 } := Sim.put (A := []) S k2 k1 rfl
      rw [lot_int]
      exact wpAny_pure ⟨w', .refl _, by simp [Rel], S'⟩
    · rw [if_neg hx]
      exact wpAny_pyNext_range_end hR.handled hI (by walk_at "q") fun h' k1 => ⟨rfl, w', .refl _, S.gone k1 rfl⟩
  · show IsRangeIter _ _ _ _ _
    have e : (a + ((0 : Nat) : Int) * k) = a := by simp
    have e2 : (rngN a b k : Int) - ((0 : Nat) : Int) = Builtin.Range.rangeSize a b k := by rw [hN]; simp
    rw [e, e2]
    exact Heap.get?_push_size _ rfl

theorem EntRel.pairs {wd : World} {prog : Program} : ∀ {es : List (Key × D)} {ents : List DictEntry}, EntRel wd w es ents → ∃ kvs : List (Key × Value), Pairs (kk prog wd) ents kvs ∧ kvs.map (·.1) = es.map (·.1) ∧ Rels w (es.map (·.2)) (kvs.map (·.2)) ∧ (∀ e ∈ ents, ∃ k, Key.is k e.key = true ∧ e.hash = keyHash wd k)
  | [], _, h => by simp only [EntRel] at h; subst h; exact ⟨[], .nil, rfl, .nil, by simp⟩
  | (k, d) :: r, _, h => by
    refine e2a6 h ?_
    try clear h
    intro e t zq34 h1 ho h2 h3 h4
    subst zq34
    refine e1a4 (EntRel.pairs (prog := prog) h4) fun kvs p1 p2 p3 p4 => ?_
    refine ⟨(k, e.val) :: kvs, .cons h1 rfl p1, by simp [p2], .cons h3 p3, fun x hx => ?_⟩
    rcases List.mem_cons.mp hx with rfl | q
    · exact ⟨k, h1, h2⟩
    · exact p4 x q
theorem OAt.dictAt {h : Heap} {a : Addr} {es : List (Key × D)} {n : Nat} (x : OAt c w h a (.dict es n)) : ∃ kvs : List (Key × Value), h.DictAt (kk c.prog c.wd) a kvs n ∧ kvs.map (·.1) = es.map (·.1) ∧ Rels w (es.map (·.2)) (kvs.map (·.2)) := by
  refine e1a4 x ?_
  try clear x
  intro ents h1 h2 h3 h4
  refine e1a4 (h2.pairs (prog := c.prog)) fun kvs p1 p2 p3 p4 => ?_
  exact ⟨kvs, ⟨_, ents, h1, ⟨rfl, rfl, rfl⟩, rfl, fun e he => p4 e (by simpa using he), p1, by rw [p2]; exact h3⟩, p2, p3⟩
theorem EntRel.oks {wd : World} : ∀ {es : List (Key × D)} {ents : List DictEntry}, EntRel wd w es ents → ∀ p ∈ es, p.1.ok = true
  | [], _, _, p, hp => by cases hp
  | (k, d) :: r, _, h, p, hp => by
    refine e2a6 h ?_
    try clear h
    intro e t zq35 h1 ho h2 h3 h4
    subst zq35
    rcases List.mem_cons.mp hp with rfl | q
    · exact ho
    · exact h4.oks p q
theorem iter_dict {n m : Nat} {a : Addr} {es : List (Key × D)} (hR : Rm n A) : IterOf c A (.ref a) (es.map (·.1.d)) (fun G => (a, O.dict es m) ∈ G) := fun l hl w v G R s hr hm S => by
  simp only [Rel] at hr
  subst hr
  refine e1a3 (OAt.dictAt (S.get (List.mem_append_left R hm))) fun kvs h1 h2 h3 => ?_
  have hlen : kvs.length = es.length := by have := congrArg List.length h2; simpa using this
  refine wpAny_pyIter_dict (OAt.sm (S.get (List.mem_append_left R hm))) h1 ⟨s.heap.objs.size, fun i => .rcd "dict_keyiterator" [.ref a, .int i 0, .int es.length 0, .int m 0], w, rfl, ?_, .refl _, S.alloc rfl ⟨_, Heap.get?_push_size _ rfl, rfl, by rw [hlen]; rfl⟩, fun i => .key _ _ _ _⟩
  generalize s.heap.objs.size = it
  intro l hl tg i G w' R s hw hm S
  have hD := S.get (List.mem_cons_of_mem _ (List.mem_append_left R hm))
  refine e1a3 (OAt.dictAt hD) fun kvs h1 h2 h3 => ?_
  have hlen : kvs.length = es.length := by have := congrArg List.length h2; simpa using this
  have hI : s.heap.IsKeyIter it a i kvs.length m := by rw [hlen]; exact S.get (.head _)
  have e : kvs[i]?.map (·.1) = es[i]?.map (·.1) := by rw [← List.getElem?_map, ← List.getElem?_map, h2]
  rw [List.getElem?_map]
  cases hx : es[i]? with
  | some p =>
    rw [hx] at e
    cases hy : kvs[i]? with
    | none => rw [hy] at e; cases e
    | some q =>
      rw [hy] at e
      obtain ⟨k, v⟩ := q
      have ek : k = p.1 := by simpa using e
      subst ek
      refine wpAny_pyNext_dict_item hI h1 hy fun key h' k0 k1 k2 => ⟨key, rfl, ?_⟩
      rw [hlen] at k1
      refine e1a3 hD ?_
      try clear hD
      intro ents _ hE _
      exact lot_noop (c := c) (w := w') k1 (by decide) ⟨w', .refl _, Key.rel_of_is k0 (hE.oks p (List.mem_of_getElem? hx)), Sim.put (A := []) (tk := s.toks) S k2 k1 rfl⟩
  | none =>
    rw [hx] at e
    have hy : kvs[i]? = none := by cases hy : kvs[i]? with | none => rfl | some q => rw [hy] at e; cases e
    exact wpAny_pyNext_dict_end hR.handled hI h1 hy fun h' k1 => ⟨rfl, w', .refl _, S.gone k1 rfl⟩
end
noncomputable def RetQ (c : Cx) (l : List Env) (w1 : Wd) (R : Led) (Q : D → Led → Prop) (E : Value → List D → Led → Prop) (r : Result) (s' : Shared) : Prop := match r with
  | .ok (.ret v) => Po c l Rel w1 R Q v s'
  | .ok _ => False
  | .error e => Px c l w1 R E e s'
noncomputable def AC (c : Cx) (A : Around) (f : D) (args : List D) (G : Led) (Q : D → Led → Prop) (E : Value → List D → Led → Prop) : Prop :=
  ∀ w v vs, Rel w f v → Rels w args vs → ∀ l, A.frames = some l → ∀ (w1 : Wd) (R : Led) (s : Shared), Sub w w1 → Sim c l w1 (G ++ R) s → codeAny (model c.prog c.wd) A (.call v ⟨vs, []⟩) (RetQ c l w1 R Q E) s
noncomputable def CallD (c : Cx) (A : Around) (env : Env) (F : Frm) (G : Led) (f : D) (args : List D) (Q : D → Frm → Led → Prop) (E : LX) : Prop :=
  ∀ w v vs, Rel w f v → Rels w args vs → AT c A env Rel w F G (call v vs) Q E
noncomputable def KOk (c : Cx) (F : Frm) (G : Led) (f : D) : Prop := ∀ w v l R s, Rel w f v → Sim c l w (F.led ++ G ++ R) s → ∃ k, Looks (model c.prog c.wd) s.heap (keeperOf v) k
noncomputable def CallK (c : Cx) (A : Around) (env : Env) (F : Frm) (G : Led) (f : D) (args : List D) (Q : D → Frm → Led → Prop) (E : LX) : Prop := KOk c F G f ∧ CallD c A env F G f args Q E

theorem perm3 {X G G1 Rest R : Led} (p : G.Perm (G1 ++ Rest)) : (G1 ++ (X ++ Rest ++ R)).Perm (X ++ G ++ R) := by
  have h1 : (G1 ++ (X ++ Rest ++ R)).Perm ((X ++ G1) ++ (Rest ++ R)) := by
    rw [List.append_assoc X Rest R, ← List.append_assoc G1 X]
    exact (List.perm_append_comm).append_right _
  refine h1.trans ?_
  rw [← List.append_assoc (X ++ G1), List.append_assoc X G1 Rest]
  exact (p.symm.append_left X).append_right R

section
variable {c : Cx} {A : Around} {env : Env} {w : Wd} {F : Frm} {G : Led} {E : LX} {Q : D → Frm → Led → Prop}
theorem calld_ac {f : D} {args : List D} {G1 Rest : Led} {Q' : D → Led → Prop} {E' : Value → List D → Led → Prop} (h : AC c A f args G1 Q' E') (p : G.Perm (G1 ++ Rest)) (hQ : ∀ d G', Q' d G' → Q d F (G' ++ Rest)) (hE : ∀ x y G', E' x y G' → E x y F (G' ++ Rest)) :
    CallD c A env F G f args Q E := fun w v vs hv hvs fit l hl w1 R s hs S => by
  refine wpAny_call (codeAny_mono (h w v vs hv hvs l hl w1 (F.led ++ Rest ++ R) s hs (S.perm (perm3 p))) fun r s' z => ?_)
  rcases r with e | (_ | _ | _ | v)
  · obtain ⟨w', x, k, as, G', h1, h2, ⟨m, h3⟩, h4, h5⟩ := z
    exact ⟨w', x, k, as, F.led ++ (G' ++ Rest), h1, h2, ⟨m, h3.less fun a ha => ((perm3 (X := F.led) (G1 := G') (Rest := Rest) (R := R) (.refl _)).map _).mem_iff.mpr ha⟩, h4.perm (perm3 (.refl _)).symm, F, _, fit, rfl, hE _ _ _ h5⟩
  · exact z.elim
  · exact z.elim
  · exact z.elim
  · obtain ⟨w', b, G', h1, h2, h3, h4⟩ := z
    exact ⟨w', b, F.led ++ (G' ++ Rest), h1, h2, h3.perm (perm3 (.refl _)).symm, F, _, fit, rfl, hQ _ _ h4⟩

theorem kok_bi {id : String} : KOk c F G (.bi id) := fun w v l R s hr S => by simp only [Rel] at hr; subst hr; exact ⟨.machine, .now⟩
theorem kok_typ {T : String} : KOk c F G (.typ T) := fun w v l R s hr S => by simp only [Rel] at hr; subst hr; exact ⟨.machine, .now⟩
theorem kok_K {a : Addr} (hc : c.Ok) (hk : keepIn c.K (.ref a) = true) : KOk c F G (.ref a) := fun w v l R s hr S => by
  simp only [Rel] at hr; subst hr
  refine e1a2 (looks_keep (M := model c.prog c.wd) hk hc.kin) fun k _ L => ?_
  exact ⟨k, L.keeps S.keep⟩

noncomputable abbrev AL (c : Cx) (A : Around) (env : Env) (F : Frm) (G : Led) (pos : Pos) (es : List Expr) (Q : List D → Frm → Led → Prop) (E : LX) : Prop := AT c A env Rels Wd.nil F G (spliced (backTo pos (starEach es env))) Q E
theorem al_nil {pos : Pos} {Q : List D → Frm → Led → Prop} (hq : Q [] F G) : AL c A env F G pos [] Q E := AT.pure (b := []) .nil (fun _ s z => z.mono s) hq
noncomputable abbrev kCons2 (Q : List D → Frm → Led → Prop) (d : D) (ds : List D) (F : Frm) (G : Led) : Prop := Q (d :: ds) F G
noncomputable abbrev kCons (c : Cx) (A : Around) (env : Env) (pos : Pos) (es : List Expr) (Q : List D → Frm → Led → Prop) (E : LX) (d : D) (F : Frm) (G : Led) : Prop := AL c A env F G pos es (kCons2 Q d) E
theorem al_cons {pos : Pos} {e : Expr} {es : List Expr} {Q : List D → Frm → Led → Prop} (h : AE c A env F G e (kCons c A env pos es Q E) E)
    (he : starEach (e :: es) env = (false, eval e env) :: starEach es env := by with_unfolding_all rfl) : AL c A env F G pos (e :: es) Q E := by
  unfold AL
  rw [he]
  show AT c A env Rels Wd.nil F G (eval e env >>= fun v => (pure [v] : Sem (List Value)) >>= fun here => holding here (spliced (backTo pos (starEach es env))) >>= fun r => pure (here ++ r)) Q E
  refine AT.bind (h.mono (fun d F1 G1 h1 w1 a hs hr => ?_) fun _ _ _ _ z => z)
  show AT c A env Rels w1 F1 G1 (holding [a] (spliced (backTo pos (starEach es env))) >>= fun r => pure ([a] ++ r)) Q E
  refine AT.bind (AT.holding ((AT.up h1 (Sub.nil _)).mono (fun ds F2 G2 h2 w2 vs hs2 hr2 => ?_) fun _ _ _ _ z => z))
  exact AT.pure (b := d :: ds) (.cons (hr.mono hs2) hr2) (fun _ s z => z.mono s) h2
noncomputable def Col (c : Cx) (A : Around) (env : Env) (F : Frm) (G : Led) (d : D) (Q : List D → Frm → Led → Prop) (E : LX) : Prop :=
  ∀ w v, Rel w d v → (∀ l w1 R s, Sub w w1 → Sim c l w1 (F.led ++ G ++ R) s → ∀ (Q : Bool → Shared → Prop) (E : Value → Shared → Prop), Q false s → wpAny (model c.prog c.wd) A (notIterableAtAll v) Q E s) ∧ AT c A env Rels w F G (collect v) Q E
end
theorem Sim.more {c : Cx} {l : List Env} {w : Wd} {G : Led} {s : Shared} {h' : Heap} (S : Sim c l w G s) (hk : ∀ b o, s.heap.get? b = some o → h'.get? b = some o) : Sim c l w G { s with heap := h' } :=
  ⟨fun a o e => hk _ _ (S.wok a o e), S.wbase, S.nd, fun p hp => ⟨(S.ents p hp).1, let ⟨x, hx⟩ := (S.ents p hp).2.there; (S.ents p hp).2.congr ((hk _ _ hx).trans hx.symm)⟩,
    fun env he => let ⟨k, L, h1, h2, ⟨ob, es, n, h3, h4⟩, h5⟩ := S.frs env he; ⟨k, L, h1, h2, ⟨ob, es, n, hk _ _ h3, h4⟩, h5⟩, S.gens, S.os⟩
section
variable {c : Cx} {A : Around} {env : Env} {w : Wd} {F : Frm} {G : Led} {E : LX} {Q : D → Frm → Led → Prop}
theorem col_any {d : D} {T : String} {xs : List D} {Q : List D → Frm → Led → Prop} (hT : T = "list" ∨ T = "tuple")
    (hv : ∀ l w R s v, Rel w d v → Sim c l w (F.led ++ G ++ R) s → ∃ a ob vs n, v = .ref a ∧ s.heap.get? a = some ob ∧ ob.cls = .type T ∧ ob.data = .seq vs n ∧ Rels w xs vs.toList) (hs : xs.length ≤ 1000000) (hq : Q xs F G) : Col c A env F G d Q E := fun w v hr => by
  refine ⟨fun l w1 R s hs' S Q E q => ?_, fun f l hl w1 R s hs' S => ?_⟩
  · refine e4a5 (hv l w1 R s v (hr.mono hs') S) fun a ob vs n zq36 h1 h2 h3 h4 => ?_
    subst zq36
    have hty : s.TypeIs (.ref a) T := ⟨ob, h1, h2⟩
    unfold notIterableAtAll
    rcases hT with rfl | rfl
    · exact wpAny_bind (wpAny_specialOf hty slot_list_iter.lookup (wpAny_pure q))
    · exact wpAny_bind (wpAny_specialOf hty PySem.F.slot_tuple_iter.lookup (wpAny_pure q))
  · refine e4a5 (hv l w1 R s v (hr.mono hs') S) fun a ob vs n zq37 h1 h2 h3 h4 => ?_
    subst zq37
    exact wpAny_collect_seq a hT h1 h2 h3 (fun h' hk => ⟨w1, xs, _, .refl _, h4, S.more hk, F, G, f, rfl, hq⟩) (by have := h4.length; simp at this; rw [sizeLine_eq]; walk_at "o")
theorem col_list {xs : List D} {Q : List D → Frm → Led → Prop} (hs : xs.length ≤ 1000000) (hq : Q xs F G) : Col c A env F G (.list xs) Q E :=
  col_any (T := "list") (.inl rfl) (fun l w R s v hr S => by simp only [Rel] at hr; obtain ⟨a, vs, n, rfl, h1, h2⟩ := hr; exact ⟨a, _, vs, n, rfl, S.wok _ _ h1, rfl, rfl, h2⟩) hs hq
noncomputable def Args (c : Cx) (A : Around) (env : Env) (F : Frm) (G : Led) (pos : Pos) (es : List Expr) (Q : List D → Frm → Led → Prop) (E : LX) : Prop :=
  ∀ w f first, AT c A env Rels w F G (do let a ← holding (f :: first) (evalArgs f true (backTo pos (starEach es env)) []); if a.kw.isEmpty then pure a.pos else unsupported "kw") Q E
theorem args_nil {pos : Pos} {Q : List D → Frm → Led → Prop} (hq : Q [] F G) : Args c A env F G pos [] Q E := fun w g first f l hl w1 R s hs S =>
  wpAny_bind (wpAny_holding (PySem.evalArgs_none (wpAny_pure ⟨w1, [], _, .refl _, .nil, S, F, G, f, rfl, hq⟩)))
theorem args_plain {pos : Pos} {e : Expr} {es : List Expr} {Q : List D → Frm → Led → Prop} (h : AL c A env F G pos (e :: es) Q E) (he : starEach (e :: es) env = (false, eval e env) :: starEach es env := by with_unfolding_all rfl) : Args c A env F G pos (e :: es) Q E := fun w g first f l hl w1 R s hs S => by
  have z := h f l hl w1 R s (Sub.nil _) S
  rw [he] at z ⊢
  refine wpAny_bind (wpAny_holding (PySem.evalArgs_kw (x := eval e env) (rest := backTo pos (starEach es env)) rfl (wpAny_mono z (fun vs s1 y => wpAny_pure (wpAny_pure y)) fun _ _ y => y)))
noncomputable abbrev kCol (c : Cx) (A : Around) (env : Env) (Q : List D → Frm → Led → Prop) (E : LX) (d : D) (F : Frm) (G : Led) : Prop := Col c A env F G d Q E
theorem args_star {pos sp : Pos} {e : Expr} {Q : List D → Frm → Led → Prop} (h : AE c A env F G e (kCol c A env Q E) E) : Args c A env F G pos [.Starred e sp] Q E := fun w g first f l hl w1 R s hs S => by
  refine wpAny_bind (wpAny_holding ?_)
  unfold evalArgs
  show wpAny _ _ ((eval e env >>= fun v => standAt pos >>= fun _ => pure v) >>= _) _ _ _
  refine wpAny_bind (wpAny_bind (wpAny_mono (h f l hl w1 R s (Sub.nil _) S) (fun a s1 ⟨w2, d, G', h1, h2, h3, F1, G1, h4, h5, h6⟩ => wpAny_bind (wpAny_standAt (wpAny_pure (wpAny_holding ?_)))) fun _ _ z => z))
  subst h5
  refine e0a2 (h6 w2 a h2) fun ni co => ?_
  refine wpAny_bind (wpAny_pure ?_)
  refine wpAny_bind (wpAny_bind (ni l w2 R s1 (.refl _) h3 _ _ ?_))
  rw [if_neg (by decide)]
  refine wpAny_holding (wpAny_mono (co h4 l hl w2 R s1 (.refl _) h3) (fun vs s2 ⟨w3, xs, G2, k1, k2, k3, k4⟩ => wpAny_pure (wpAny_pure ⟨w3, xs, G2, h1.trans k1, k2, k3, k4⟩)) fun e s2 z => z.up h1)
theorem at_callWith {pos : Pos} {g : D} {gv : Value} {es : List Expr} {fst : List D} {first : List Value} (hg : Rel w g gv) (hf : Rels w fst first)
    (h : Args c A env F G pos es (fun ds F1 G1 => CallK c A env F1 G1 g (fst ++ ds) Q E) E) : AT c A env Rel w F G (callWith pos gv first (backTo pos (starEach es env)) []) Q E := fun f l hl w1 R s hs S => by
  unfold callWith
  have h0 := h w gv first f l hl w1 R s hs S
  have ex : wpAny (model c.prog c.wd) A (holding (gv :: first) (evalArgs gv true (backTo pos (starEach es env)) [])) (fun a s' => a.kw = [] ∧ Po c l Rels w1 R (fun b G' => PF env (fun F' G1 => CallK c A env F' G1 g (fst ++ b) Q E) G') a.pos s')
      (fun e s' => Px c l w1 R (fun x y G' => PF env (E x y) G') e s') s := fun Γ p hΓ => by
    have z := h0 Γ p hΓ
    rw [Sem.wp_bind'] at z
    refine Sem.wp_mono _ Γ _ (fun a p' s' y => ?_) (fun _ _ _ y => y) p s z
    obtain ⟨apos, akw⟩ := a
    cases akw with
    | nil => exact ⟨rfl, y⟩
    | cons q r => exact absurd y (by intro y; exact y)
  refine wpAny_bind (wpAny_mono ex (fun a s1 ⟨hkw, w2, b, G', h1, h2, h3, F1, G1, h4, h5, h6⟩ => wpAny_bind (wpAny_standAt ?_)) fun _ _ z => z)
  subst h5
  obtain ⟨apos, akw⟩ := a
  have hkw : akw = [] := hkw
  subst hkw
  have hg2 := hg.mono (hs.trans h1)
  refine e0a2 h6 ?_
  try clear h6
  intro hk h6
  refine e1a1 (hk w2 gv l R s1 hg2 h3) fun k L => ?_
  have call := h6 w2 gv (first ++ apos) hg2 ((hf.mono (hs.trans h1)).append h2) h4 l hl w2 R s1 (.refl _) h3
  have call' := wpAny_mono call (fun a s' z => Po.up z h1) fun e s' z => Px.up z h1
  have tail : ∀ {t : Sem Value} {Q : Value → Shared → Prop} {E : Value → Shared → Prop} {s}, wpAny (model c.prog c.wd) A t Q E s → wpAny (model c.prog c.wd) A (t >>= fun r => holding [r] point >>= fun _ => pure r) Q E s :=
    fun ht => wpAny_bind (wpAny_mono ht (fun r s₂ hr => wpAny_bind (wpAny_holding (wpAny_point (wpAny_pure hr)))) fun _ _ x => x)
  refine wpAny_bind (L A _ _ s1 (fun _ _ e => e) ?_)
  cases k <;> cases ((backTo pos (starEach es env)).any (·.1) || ([] : List (Option Str × Sem Value)).any (·.1.isNone))
  all_goals dsimp only
  all_goals try split
  all_goals refine tail ?_
  all_goals first | exact call' | exact wpAny_operate' call' | exact wpAny_keep call'
end
noncomputable def objsBut (h : Heap) (xs : List Addr) : List (Addr × Obj) := (List.range h.objs.size).filterMap fun a => if a ∈ xs then none else (h.get? a).map fun o => (a, o)
theorem mem_objsBut {h : Heap} {xs : List Addr} {a : Addr} {o : Obj} : (a, o) ∈ objsBut h xs ↔ a ∉ xs ∧ h.get? a = some o := by
  unfold objsBut
  rw [List.mem_filterMap]
  constructor
  · intro zr1
    refine e1a2 zr1 ?_
    try clear zr1
    intro b _ hb
    split at hb
    · cases hb
    · rename_i q
      refine e1a2 (Option.map_eq_some_iff.mp hb) fun o' h1 h2 => ?_
      cases h2; exact ⟨q, h1⟩
  · intro zr2
    refine e0a2 zr2 ?_
    try clear zr2
    intro h1 h2
    exact ⟨a, List.mem_range.mpr (Heap.lt_size h2), by rw [if_neg h1, h2]; rfl⟩
theorem fr_of {h : Heap} {L : Addr} {m : Str → Option Value} (hL : h.Ns L m) : Fr {} L h m := ⟨hL, fun b o e => by simp [Heap.get?] at e, Nat.zero_le _⟩
theorem news_of {h : Heap} {L : Addr} {xs : List Addr} (hx : L ∈ xs) : News {} L h (objsBut h xs) := fun p hp => by
  obtain ⟨a, o⟩ := p
  refine e0a2 (mem_objsBut.mp hp) fun h1 h2 => ?_
  exact ⟨h2, fun q => h1 (by dsimp only at q; rw [q]; exact hx), by simp [Heap.get?]⟩
theorem news_cons {h : Heap} {L x : Addr} {ox : Obj} {news : List (Addr × Obj)} (N : News {} L h news) (hx : h.get? x = some ox) (hne : x ≠ L) : News {} L h ((x, ox) :: news) := fun p hp => by
  rcases List.mem_cons.mp hp with rfl | q
  · exact ⟨hx, hne, by simp [Heap.get?]⟩
  · exact N p q

theorem nodup_uniq {α β : Type} {x : α} {y z : β} : ∀ {l : List (α × β)}, (l.map (·.1)).Nodup → (x, y) ∈ l → (x, z) ∈ l → y = z
  | [], _, h, _ => by cases h
  | (u, v) :: r, nd, h1, h2 => by
    rw [List.map_cons, List.nodup_cons] at nd
    rcases List.mem_cons.mp h1 with q1 | q1
    · cases q1
      rcases List.mem_cons.mp h2 with q2 | q2
      · cases q2; rfl
      · exact absurd (List.mem_map.mpr ⟨_, q2, rfl⟩) nd.1
    · rcases List.mem_cons.mp h2 with q2 | q2
      · cases q2; exact absurd (List.mem_map.mpr ⟨_, q1, rfl⟩) nd.1
      · exact nodup_uniq nd.2 q1 q2
section
variable {c : Cx} {l : List Env} {w : Wd} {s : Shared} {G : Led}
theorem Sim.put2 {A B : Led} {a L : Addr} {o o' : O} {loc : List (Str × D)} {h' : Heap} {tk : Nat} {m : Str → Option Value} (S : Sim c l w (A ++ (a, o) :: B) s) (hL : (L, O.ns loc) ∈ A ++ (a, o) :: B) (hm : s.heap.Ns L m)
    (hk : ∀ b ob, b ≠ a → b ≠ L → s.heap.get? b = some ob → h'.get? b = some ob) (hm' : h'.Ns L m) (hne : L ≠ a) (ho : OAt c w h' a o') (hd : o.tag = o'.tag) :
    Sim c l w (A ++ (a, o') :: B) { s with heap := h', toks := tk } := by
  have e := S.nd
  have ha := S.ents (a, o) (by simp)
  have wL := (S.ents _ hL).1
  refine ⟨fun b ob e' => hk b ob (fun q => by rw [q, ha.1] at e'; cases e') (fun q => by rw [q, wL] at e'; cases e') (S.wok b ob e'), S.wbase, by simpa using e, fun p hp => ?_, fun env he => ?_, S.gens, S.os⟩
  · have other : p ∈ A ∨ p ∈ B → w p.1 = none ∧ OAt c w h' p.1 p.2 := fun q => by
      have pm : p ∈ A ++ (a, o) :: B := by rcases q with q | q <;> simp [q]
      have ne : p.1 ≠ a := by
        rw [List.map_append, List.map_cons, List.nodup_append, List.nodup_cons] at e
        rcases q with q | q
        · exact fun z => e.2.2 p.1 (List.mem_map_of_mem q) a (by simp) z
        · exact fun z => e.2.1.1 (List.mem_map.mpr ⟨p, q, z⟩)
      by_cases q2 : p.1 = L
      · have : p.2 = .ns loc := by
          have nd := S.nd
          have h1 : (p.1, p.2) ∈ A ++ (a, o) :: B := pm
          rw [q2] at h1
          exact nodup_uniq nd h1 hL
        obtain ⟨p1, p2⟩ := p
        dsimp only at q2 this
        subst q2 this
        refine ⟨wL, ?_⟩
        refine e3a4 ((S.ents _ hL).2) fun ob ents n k1 k2 k3 k4 => ?_
        refine e3a4 hm' ?_
        try clear hm'
        intro ob' ents' n' j1 j2 j3 j4
        refine e3a4 hm ?_
        try clear hm
        intro ob2 ents2 n2 i1 i2 i3 i4
        rw [k1] at i1; cases i1; rw [k2] at i2; cases i2
        exact ⟨ob', ents', n', j1, j2, j3, fun x d hx => let ⟨v, y1, y2⟩ := k4 x d hx; ⟨v, by rw [j4, ← i4]; exact y1, y2⟩⟩
      · refine e1a1 ((S.ents p pm).2.there) fun x hx => ?_
        exact ⟨(S.ents p pm).1, (S.ents p pm).2.congr ((hk _ _ ne q2 hx).trans hx.symm)⟩
    rcases List.mem_append.mp hp with q | q
    · exact other (.inl q)
    · rcases List.mem_cons.mp q with rfl | q
      · exact ⟨ha.1, ho⟩
      · exact other (.inr q)
  · refine e0a2 (S.frs env he) fun k zq38 => ?_
    obtain ⟨L', h1, h2, ⟨ob, es, n, h3, h4⟩, h5⟩ := zq38
    refine ⟨k, L', h1, h2, ?_, fun x hx => ?_⟩
    · by_cases q : L' = a
      · subst q
        by_cases hb : o.tag = 0
        · exact absurd h4 (OAt.nodict ha.2 hb ob es n h3)
        · exact OAt.dict ho (hd ▸ hb)
      · by_cases q2 : L' = L
        · subst q2; obtain ⟨ob', ents', n', j1, j2, _⟩ := hm'; exact ⟨ob', ents', n', j1, j2⟩
        · exact ⟨ob, es, n, hk _ _ q q2 h3, h4⟩
    · rcases List.mem_append.mp hx with q | q
      · exact h5 x (by simp [q])
      · rcases List.mem_cons.mp q with q | q
        · cases q; rw [← hd]; exact h5 o (by simp)
        · exact h5 x (by simp [q])
theorem Sim.kin (S : Sim c l w G s) (hc : c.Ok) : c.K.In s.heap := fun a o e => S.keep _ _ (hc.kin a o e)
end
theorem put_attrs {ob : Obj} {ents : Array DictEntry} {n : Nat} {name : Str} {hash : Int} {tk : Tok} {v : Value} (hd : ob.data = .dict ents n) (hk : StrKeys ents) :
    ∃ ents' n', (Obj.putName name hash (.str name tk) v ob).data = .dict ents' n' ∧ StrKeys ents' ∧ (∀ x, nsFind ents' x = if x = name then some v else nsFind ents x) ∧ ents'.size ≤ (if (nsFind ents name).isSome then ents.size else ents.size + 1) := by
  obtain ⟨oc, od, dt, sl⟩ := ob
  dsimp only at hd
  subst hd
  cases hi : ents.findIdx? (·.key.isStr name) with
  | some i =>
    refine ⟨_, n, by simp only [Obj.putName_eq, Obj.putNameByArray, hi], hk.modify _ _, fun x => findBy_modify (fun n v => v.isStr n) Value.isStr_inj ents name x v i hi, ?_⟩
    rw [Array.size_modify]
    split <;> walk_at "q"
  | none =>
    refine ⟨ents.push ⟨hash, .str name tk, v⟩, n + 1, by simp only [Obj.putName_eq, Obj.putNameByArray, hi], hk.push _ _ _ _, fun x => findBy_push (fun n v => v.isStr n) ents name x _ _ v (fun y => ?_) hi, ?_⟩
    · show (name == y) = decide (y = name)
      by_cases h : y = name
      · subst h; simp
      · have : ¬ name = y := fun e => h e.symm
        simp [h, this]
    · have : nsFind ents name = none := by
        unfold nsFind; rw [findBy_of_findIdx?]; rw [hi]
      rw [this]; simp
theorem lookIn_of {ob : Obj} {ents : Array DictEntry} {n : Nat} {name : Str} {r : Option Value} (hd : ob.data = .dict ents n) (hk : StrKeys ents) (h : nsFind ents name = r) : lookIn name ob = some r := by
  unfold lookIn
  rw [hd]
  dsimp only
  unfold nsFind findBy at h
  rw [← Array.find?_toList] at h
  split
  · rename_i e he; rw [he] at h; rw [← h]; rfl
  · rename_i he
    rw [he] at h
    have : ents.toList.any (·.refKey) = false := by
      rw [List.any_eq_false]; intro e he'; obtain ⟨n, t, q⟩ := hk e (by simpa using he'); simp [DictEntry.refKey, q]
    rw [this, ← h]; rfl
noncomputable def aset (x : Str) (d : D) : List (Str × D) → List (Str × D)
  | [] => [(x, d)]
  | (y, e) :: r => if x == y then (y, d) :: r else (y, e) :: aset x d r
theorem aset_lookup (x : Str) (d : D) : ∀ (es : List (Str × D)) (y : Str), (aset x d es).lookup y = if y = x then some d else es.lookup y
  | [], y => by
    unfold aset
    rw [List.lookup_cons]
    by_cases q : y = x
    · subst q; simp
    · simp [q, show (y == x) = false from by simpa using q]
  | (z, e) :: r, y => by
    unfold aset
    by_cases h : x == z
    · rw [if_pos h]
      rw [List.lookup_cons, List.lookup_cons]
      have hz := eq_of_beq h
      subst hz
      by_cases q : y = x
      · subst q; simp
      · simp [q, show (y == x) = false from by simpa using q]
    · rw [if_neg h, List.lookup_cons, List.lookup_cons, aset_lookup x d r y]
      cases q : y == z with
      | false => rfl
      | true =>
        have hz := eq_of_beq q
        subst hz
        have : ¬ y = x := fun z => h (by rw [z]; simp)
        simp [this]
theorem aset_length (x : Str) (d : D) : ∀ (es : List (Str × D)), (aset x d es).length = if (es.lookup x).isSome then es.length else es.length + 1
  | [] => rfl
  | (z, e) :: r => by
    unfold aset
    rw [List.lookup_cons]
    by_cases h : x == z
    · rw [if_pos h, h]; rfl
    · have h' : (x == z) = false := by simpa using h
      rw [if_neg h, h']
      simp only [List.length_cons, aset_length x d r]
      split <;> rfl

noncomputable abbrev GetA (c : Cx) (A : Around) (env : Env) (F : Frm) (G : Led) (d : D) (name : Str) (Q : D → Frm → Led → Prop) (E : LX) : Prop := Op1 c A env Rel F G (fun v => getAttr v name true) d Q E
noncomputable def SetA (c : Cx) (A : Around) (env : Env) (F : Frm) (G : Led) (d : D) (name : Str) (e : D) (Q : Frm → Led → Prop) (E : LX) : Prop :=
  Op2 c A env Rel1 F G (fun v u => setAttr v name u) d e (fun (_ : Unit) => Q) E

theorem mem_split {α : Type} {p : α} {l : List α} (h : p ∈ l) : ∃ A B, l = A ++ p :: B := List.append_of_mem h

section
variable {c : Cx} {A : Around} {env : Env} {w : Wd} {F : Frm} {G : Led} {E : LX} {Q : D → Frm → Led → Prop}
noncomputable abbrev kGetA (c : Cx) (A : Around) (env : Env) (name : Str) (Q : D → Frm → Led → Prop) (E : LX) (d : D) (F : Frm) (G : Led) : Prop := GetA c A env F G d name Q E
theorem ae_Attr {o : Expr} {name : Str} {pos : Pos} (h : AE c A env F G o (kGetA c A env name Q E) E) (hb : attributeBase o name env (eval o env) = eval o env := by with_unfolding_all rfl) : AE c A env F G (.Attribute o name pos) Q E := by
  show AT c A env Rel Wd.nil F G (attributeBase o name env (eval o env) >>= fun ov => standAt pos.atName >>= fun _ => holding [ov] (getAttr ov name true) >>= fun r => letTemporaryGo o ov r >>= fun _ => pure r) Q E
  rw [hb]
  refine AT.bind (h.mono (fun d F1 G1 h1 w1 a hs hr => AT.standAt (AT.bind (AT.holding ((h1 w1 a hr).mono (fun e F2 G2 h2 w2 r hs2 hr2 => ?_) fun _ _ _ _ z => z)))) fun _ _ _ _ z => z)
  intro f l hl w3 R s hs3 S
  exact wpAny_bind (wpAny_letTemporaryGo (wpAny_pure ⟨w3, e, _, .refl _, hr2.mono hs3, S, F2, G2, f, rfl, h2⟩))
noncomputable abbrev kSetA (c : Cx) (A : Around) (env : Env) (name : Str) (d : D) (Q : Frm → Led → Prop) (E : LX) (e : D) (F : Frm) (G : Led) : Prop := SetA c A env F G e name d Q E
theorem asg_Attr {o : Expr} {name : Str} {pos : Pos} {d : D} {Q : Frm → Led → Prop} (h : AE c A env F G o (kSetA c A env name d Q E) E) : Asg c A env F G (.Attribute o name pos) d Q E := fun w v hr => by
  show AT c A env Rel1 w F G (holding [v] (eval o env) >>= fun ov => standAt pos.atName >>= fun _ => holding [v, ov] (setAttr ov name v) >>= fun _ => release [v, ov] []) _ E
  refine AT.bind (AT.holding ((AT.up h (Sub.nil _)).mono (fun e F1 G1 h1 w1 a hs hr1 => AT.standAt (AT.bind (AT.holding ((h1 w1 a v hr1 (hr.mono hs)).mono (fun _ F2 G2 h2 w2 _ hs2 _ => ?_) fun _ _ _ _ z => z)))) fun _ _ _ _ z => z))
  intro f l hl w3 R s hs3 S
  exact wpAny_release' ⟨w3, (), _, .refl _, rfl, S, F2, G2, f, rfl, h2⟩

structure ClsOk (c : Cx) (C : Addr) (hd : Bool) : Prop where
  ga : findIn c.K (.ref C) "__getattribute__" = some (some (.builtin "object.__getattribute__"))
  noga : findIn c.K (.ref C) "__getattr__" = some none
  sa : findIn c.K (.ref C) "__setattr__" = some (some (.builtin "object.__setattr__"))
  over : plainOver c.K C = true
  dict : (clsIn c.K C).any (·.hasDict == hd) = true

theorem handed_rel {w : Wd} {d : D} {v : Value} (h : Rel w d v) (hb : ∀ n, d ≠ .bi n) : handedIn v = true := by
  cases d <;> simp only [Rel] at h
  case bi n => exact absurd rfl (hb n)
  all_goals first | (subst h; rfl) | (obtain ⟨t, rfl⟩ := h; rfl) | (obtain ⟨_, t, rfl⟩ := h; rfl) | (obtain ⟨a, vs, n, rfl, _⟩ := h; rfl) | (obtain ⟨a, vs, n, k, rfl, _⟩ := h; rfl)
theorem instAt_of {l : List Env} {s : Shared} {G : Led} {x C dx : Addr} {es : List (Str × D)} (S : Sim c l w G s) (hx : (x, O.inst C dx) ∈ G) (hd : (dx, O.attrs es) ∈ G) :
    ∃ od ents n, InstAt s.heap x { cls := .ref C, dict := some dx } C (some od) ∧ s.heap.get? dx = some od ∧ od.data = .dict ents n ∧ StrKeys ents ∧ (∀ x, match es.lookup x with | some d => ∃ v, nsFind ents x = some v ∧ Rel w d v | none => nsFind ents x = none) ∧ ents.size ≤ es.length := by
  refine e3a5 (S.get hd) fun od ents n h1 h2 h3 h4 h5 => ?_
  exact ⟨od, ents, n, ⟨S.get hx, rfl, rfl, h1⟩, h1, h2, h3, h4, h5⟩
theorem geta_inst {x C dx : Addr} {es : List (Str × D)} {name : Str} {r : D} (hc : c.Ok) (hC : ClsOk c C true) (hno : findIn c.K (.ref C) name = some none) (hx : (x, O.inst C dx) ∈ G) (hd : (dx, O.attrs es) ∈ G) (he : es.lookup name = some r) (hr : ∀ n, r ≠ .bi n) (hq : Q r F G) :
    GetA c A env F G (.ref x) name Q E := fun w v hv f l hl w1 R s hs S => by
  simp only [Rel] at hv; subst hv
  refine e3a6 (instAt_of S (List.mem_append_left R (List.mem_append_right F.led hx)) (List.mem_append_left R (List.mem_append_right F.led hd))) fun od ents n I h1 h2 h3 h4 h5 => ?_
  have h4 := h4 name
  rw [he] at h4
  refine e1a2 h4 ?_
  try clear h4
  intro v hv hrv
  refine e1a2 (any_some hC.dict) fun cd hcd hdict => ?_
  have hdict : cd.hasDict = true := by simpa using hdict
  have hf : findObj c.K C (some od) name = some (.value v) := by
    unfold findObj
    rw [hcd, hno]
    simp only [Option.bind_some]
    unfold PySem.W.ownOf
    rw [hdict, if_pos rfl]
    dsimp only
    rw [lookIn_of h2 h3 hv]
    rfl
  exact get_value (S.kin hc) I hC.ga hf (handed_rel hrv hr) ⟨w1, r, _, .refl _, hrv, S.toks _, F, G, f, rfl, hq⟩
noncomputable def Meth (c : Cx) (A : Around) (env : Env) (F : Frm) (G : Led) (d : D) (name : Str) (Q : D → List D → Frm → Led → Prop) (E : LX) : Prop :=
  ∀ w v (pl : Sem Bool), Rel w d v → AT c A env (fun w (p : D × List D) (q : Value × List Value) => Rel w p.1 q.1 ∧ Rels w p.2 q.2) w F G (getMethod v name pl) (fun p F1 G1 => Q p.1 p.2 F1 G1) E
theorem meth_inst {x C dx m : Addr} {es : List (Str × D)} {name : Str} {Q : D → List D → Frm → Led → Prop} (hc : c.Ok) (hC : ClsOk c C true) (hm : findIn c.K (.ref C) name = some (some (.ref m))) (ht : typeIn c.K (.ref m) = some (.type "function"))
    (hx : (x, O.inst C dx) ∈ G) (hd : (dx, O.attrs es) ∈ G) (he : es.lookup name = none) (hq : Q (.ref m) [.ref x] F G) : Meth c A env F G (.ref x) name Q E := fun w v pl hv f l hl w1 R s hs S => by
  simp only [Rel] at hv; subst hv
  refine e3a6 (instAt_of S (List.mem_append_left R (List.mem_append_right F.led hx)) (List.mem_append_left R (List.mem_append_right F.led hd))) fun od ents n I h1 h2 h3 h4 h5 => ?_
  have h4 := h4 name
  rw [he] at h4
  exact method_fn (S.kin hc) I hC.ga hC.noga hm ht (by unfold shadowIn; dsimp only; rw [lookIn_of h2 h3 h4]; rfl) ⟨w1, (D.ref m, [D.ref x]), _, .refl _, ⟨by simp [Rel], .one (by simp [Rel])⟩, S, F, G, f, rfl, hq⟩
theorem seta_inst {x C dx : Addr} {es : List (Str × D)} {name : Str} {r : D} {G1 G2 : Led} {Q : Frm → Led → Prop} (hc : c.Ok) (hC : ClsOk c C true) (hno : takerIn c.K C name = some none) (hx : (x, O.inst C dx) ∈ G1 ++ (dx, O.attrs es) :: G2) (hlen : es.length ≤ 900)
    (hq : Q F (G1 ++ (dx, O.attrs (aset name r es)) :: G2)) : SetA c A env F (G1 ++ (dx, O.attrs es) :: G2) (.ref x) name r Q E := fun w v u hv hu f l hl w1 R s hs S => by
  simp only [Rel] at hv; subst hv
  have hmem : ∀ p, p ∈ G1 ++ (dx, O.attrs es) :: G2 → p ∈ F.led ++ (G1 ++ (dx, O.attrs es) :: G2) ++ R := fun p hp => List.mem_append_left R (List.mem_append_right F.led hp)
  refine e3a6 (instAt_of S (hmem _ hx) (hmem (dx, O.attrs es) (by simp))) fun od ents n I h1 h2 h3 h4 h5 => ?_
  refine e3a4 (S.get (a := F.L) (o := .ns F.loc) (by simp [Frm.led])) fun obL entsL nL l1 l2 l3 l4 => ?_
  have hL : s.heap.Ns F.L (nsFind entsL) := ⟨obL, entsL, nL, l1, l2, l3, fun _ => rfl⟩
  have hne : F.L ≠ dx := fun q => by
    have := nodup_uniq S.nd (x := dx) (y := O.ns F.loc) (z := O.attrs es) (by rw [← q]; simp [Frm.led]) (hmem _ (by simp))
    cases this
  refine set_plain (S.kin hc) I hC.sa ?_
  refine e2a4 (put_attrs (name := name) (hash := PyData.keyHash c.wd.params name) (tk := s.toks + 1) (v := u) h2 h3) fun ents' n' p1 p2 p3 p4 => ?_
  refine e1a2 (any_some hC.dict) fun cd hcd hdict => ?_
  refine osa_dict (s := { s with toks := s.toks + 1 }) (pre := []) (post := objsBut s.heap [F.L, dx]) (es := ents'.toList) (n := n') (fr_of hL) (news_cons (news_of (by simp)) h1 (Ne.symm hne)) (S.kin hc) I rfl hC.over hno (by rw [hcd]; simpa using hdict)
    (by rw [lookIn_of h2 h3 rfl]; rfl) (by simp) (fun p hp => by obtain ⟨a, o⟩ := p; have := (mem_objsBut.mp hp).1; simp at this; exact this.2) rfl (by rw [p1]) (by
      rw [Array.length_toList]; refine Nat.le_trans p4 ?_; split <;> walk_at "q") ?_
  intro h' F' N'
  have ho : OAt c w1 h' dx (.attrs (aset name r es)) := by
    refine ⟨_, ents', n', (N' (dx, _) (.head _)).1, p1, p2, fun y => ?_, ?_⟩
    · rw [aset_lookup]
      by_cases q : y = name
      · rw [if_pos q]; exact ⟨u, by rw [p3, if_pos q], hu.mono hs⟩
      · rw [if_neg q]
        have := h4 y
        revert this
        cases es.lookup y with
        | none => intro z; rw [p3, if_neg q]; exact z
        | some d => rintro ⟨v, z1, z2⟩; exact ⟨v, by rw [p3, if_neg q]; exact z1, z2⟩
    · rw [aset_length]
      refine Nat.le_trans p4 ?_
      have := h4 name
      cases e : es.lookup name with
      | none => rw [e] at this; rw [show nsFind ents name = none from this]; simpa using h5
      | some d => rw [e] at this; obtain ⟨v, z1, _⟩ := this; rw [z1]; simpa using h5
  refine ⟨w1, (), F.led ++ (G1 ++ (dx, O.attrs (aset name r es)) :: G2), .refl _, rfl, ?_, F, _, f, rfl, hq⟩
  have S' := Sim.put2 (A := F.led ++ G1) (B := G2 ++ R) (a := dx) (o := .attrs es) (o' := .attrs (aset name r es)) (L := F.L) (loc := F.loc) (h' := h') (tk := s.toks + 1 + 1) (m := nsFind entsL) (by simpa using S) (by simp [Frm.led]) hL
    (fun b ob q1 q2 e => (N' (b, ob) (.tail _ (mem_objsBut.mpr ⟨by simp [q1, q2], e⟩))).1) F'.ns hne ho rfl
  simpa using S'
end
section
variable {c : Cx} {A : Around} {env : Env} {w : Wd} {F : Frm} {G : Led} {E : LX} {Q : D → Frm → Led → Prop}
structure SlotOk (c : Cx) (C : Addr) (name : Str) (i : Nat) : Prop where
  at_ : ∃ p, findObj c.K C none name = some (.bind (.builtin "member_descriptor.__get__") (.ref p)) ∧ slotIn c.K p C = some i ∧ takerIn c.K C name = some (some (.ref p)) ∧ typeIn c.K (.ref p) = some (.type "member_descriptor")
theorem findObj_nodict {K : Frag} {C : Addr} {od : Option Obj} {name : Str} (h : (clsIn K C).any (·.hasDict == false) = true) : findObj K C od name = findObj K C none name := by
  refine e1a2 (any_some h) fun cd hcd hd => ?_
  have hd : cd.hasDict = false := by simpa using hd
  unfold findObj PySem.W.ownOf
  rw [hcd]
  simp only [Option.bind_some, hd, Bool.false_eq_true, if_false]
theorem slots_at {l : List Env} {s : Shared} {G : Led} {x C : Addr} {xs : List D} (S : Sim c l w G s) (hx : (x, O.slots C xs) ∈ G) :
    ∃ sl dx vs, InstAt s.heap x { cls := .ref C, dict := some dx, slots := sl } C (some emptyDict) ∧ w dx = some emptyDict ∧ sl = (vs.map some).toArray ∧ Rels w xs vs := by
  refine e2a3 (S.get hx) fun sl dx h1 h2 zq39 => ?_
  obtain ⟨vs, h3, h4⟩ := zq39
  exact ⟨sl, dx, vs, ⟨h1, rfl, rfl, S.wok _ _ h2⟩, h2, h3, h4⟩
theorem geta_slot {x C : Addr} {xs : List D} {name : Str} {i : Nat} {r : D} (hc : c.Ok) (hC : ClsOk c C false) (hs : SlotOk c C name i) (hx : (x, O.slots C xs) ∈ G) (he : xs[i]? = some r) (hr : ∀ n, r ≠ .bi n) (hq : Q r F G) :
    GetA c A env F G (.ref x) name Q E := fun w v hv f l hl w1 R s hs' S => by
  simp only [Rel] at hv; subst hv
  refine e3a4 (slots_at S (List.mem_append_left R (List.mem_append_right F.led hx))) fun sl dx vs I h1 h2 h3 => ?_
  refine e1a4 hs.at_ fun p k1 k2 k3 k4 => ?_
  refine e1a2 (h3.get he) fun u hu hru => ?_
  refine get_bind (S.kin hc) I hC.ga (by rw [findObj_nodict hC.dict]; exact k1) hC.noga ?_
  refine wpAny_call (slot_get (s := { s with toks := s.toks + 1 }) (S.kin hc) I k2 (v := u) (by dsimp only; rw [h2]; simp [hu]) ?_)
  dsimp only
  rw [handedOut_of (handed_rel hru hr)]
  exact wpAny_pure ⟨w1, r, _, .refl _, hru, S.toks _, F, G, f, rfl, hq⟩
noncomputable def sset (i : Nat) (r : D) (xs : List D) : List D := if i < xs.length then xs.set i r else xs ++ [r]
theorem seta_slot {x C : Addr} {xs : List D} {name : Str} {i : Nat} {r : D} {G1 G2 : Led} {Q : Frm → Led → Prop} (hc : c.Ok) (hC : ClsOk c C false) (hs : SlotOk c C name i) (hi : i ≤ xs.length) (hi2 : i < 1000)
    (hq : Q F (G1 ++ (x, O.slots C (sset i r xs)) :: G2)) : SetA c A env F (G1 ++ (x, O.slots C xs) :: G2) (.ref x) name r Q E := fun w v u hv hu f l hl w1 R s hs' S => by
  simp only [Rel] at hv; subst hv
  have hmem : (x, O.slots C xs) ∈ F.led ++ (G1 ++ (x, O.slots C xs) :: G2) ++ R := by simp
  refine e3a4 (slots_at S hmem) fun sl dx vs I h1 h2 h3 => ?_
  refine e1a4 hs.at_ fun p k1 k2 k3 k4 => ?_
  refine e3a4 (S.get (a := F.L) (o := .ns F.loc) (by simp [Frm.led])) fun obL entsL nL l1 l2 l3 l4 => ?_
  have hL : s.heap.Ns F.L (nsFind entsL) := ⟨obL, entsL, nL, l1, l2, l3, fun _ => rfl⟩
  have hne : F.L ≠ x := fun q => by
    have := nodup_uniq S.nd (x := x) (y := O.ns F.loc) (z := O.slots C xs) (by rw [← q]; simp [Frm.led]) hmem
    cases this
  refine set_plain (S.kin hc) I hC.sa ?_
  refine osa_descr (s := { s with toks := s.toks + 1 }) KF.slot_mset (S.kin hc) I hC.over k3 k4 ?_
  refine slot_set (s := { s with toks := s.toks + 1 }) (pre := []) (post := objsBut s.heap [F.L, x]) (fr_of hL) (news_cons (news_of (by simp)) I.at_ (Ne.symm hne)) (S.kin hc) I k2 hi2 (by simp)
    (fun p hp => by obtain ⟨a, o⟩ := p; have := (mem_objsBut.mp hp).1; simp at this; exact this.2) rfl rfl ?_
  intro h' F' N'
  have hlen := h3.length
  have ho : OAt c w1 h' x (.slots C (sset i r xs)) := by
    refine ⟨_, dx, (N' (x, _) (.head _)).1, h1, ?_⟩
    unfold sset
    by_cases q : i < xs.length
    · rw [if_pos q]
      refine ⟨vs.set i u, ?_, Rels.set (hu.mono hs') h3⟩
      subst h2
      apply Array.ext'
      simp only [Array.toList_setIfInBounds, Array.toList_append, List.size_toArray, List.length_map]
      rw [show i + 1 - vs.length = 0 by walk_at "q"]
      simp
    · rw [if_neg q]
      have e : i = vs.length := by walk_at "q"
      subst e
      refine ⟨vs ++ [u], ?_, h3.append (.one (hu.mono hs'))⟩
      subst h2
      apply Array.ext'
      simp only [Array.toList_setIfInBounds, Array.toList_append, List.size_toArray, List.length_map]
      rw [show vs.length + 1 - vs.length = 1 by walk_at "q"]
      simp
  refine ⟨w1, (), F.led ++ (G1 ++ (x, O.slots C (sset i r xs)) :: G2), .refl _, rfl, ?_, F, _, f, rfl, hq⟩
  have S' := Sim.put2 (A := F.led ++ G1) (B := G2 ++ R) (a := x) (o := .slots C xs) (o' := .slots C (sset i r xs)) (L := F.L) (loc := F.loc) (h' := h') (tk := s.toks + 1) (m := nsFind entsL) (by simpa using S) (by simp [Frm.led]) hL
    (fun b ob q1 q2 e => (N' (b, ob) (.tail _ (mem_objsBut.mpr ⟨by simp [q1, q2], e⟩))).1) F'.ns hne ho rfl
  simpa using S'

noncomputable abbrev kAug4 (c : Cx) (A : Around) (env : Env) (name : Str) (d : D) (Q : Frm → Led → Prop) (E : LX) (n : D) (F : Frm) (G : Led) : Prop := SetA c A env F G d name n Q E
noncomputable abbrev kAug2 (c : Cx) (A : Around) (env : Env) (name : Str) (value : Expr) (op : Operator) (d : D) (Q : Frm → Led → Prop) (E : LX) (old : D) (F : Frm) (G : Led) : Prop := AE c A env F G value (kOp2 c A env (inplaceOp op) old (kAug4 c A env name d Q E) E) E
noncomputable abbrev kAug1 (c : Cx) (A : Around) (env : Env) (name : Str) (value : Expr) (op : Operator) (Q : Frm → Led → Prop) (E : LX) (d : D) (F : Frm) (G : Led) : Prop := GetA c A env F G d name (kAug2 c A env name value op d Q E) E
theorem as_AugAttr {o value : Expr} {name : Str} {tpos pos : Pos} {op : Operator} {Q : Fl → Frm → Led → Prop}
    (h : AE c A env F G o (kAug1 c A env name value op (Q .next) E) E) :
    AS1 c A env F G (.AugAssign (.Attribute o name tpos) op value pos) Q E := by
  show AT c A env FRel Wd.nil F G (standAt pos >>= fun _ => eval o env >>= fun ov => holding [ov] (standAt tpos.atName >>= fun _ => getAttr ov name true >>= fun old => holding [old] (eval value env) >>= fun v => standAt pos >>= fun _ => operate [old, v] (inplaceOp op old v)) >>= fun new =>
    standAt tpos.atName >>= fun _ => holding [new, ov] (setAttr ov name new) >>= fun _ => release [new, ov] [] >>= fun _ => pure .next) Q E
  refine AT.standAt (AT.bind (h.mono (fun d F1 G1 h1 w1 ov hs hr => ?_) fun _ _ _ _ z => z))
  refine AT.bind (rel' := Rel) (AT.holding (AT.standAt (AT.bind ((h1 w1 ov hr).mono (fun old F2 G2 h2 w2 oldv hs2 hr2 => ?_) fun _ _ _ _ z => z))))
  refine AT.bind (AT.holding ((AT.up h2 (Sub.nil _)).mono (fun e F3 G3 h3 w3 ev hs3 hr3 => AT.standAt (AT.operate ((h3 w3 oldv ev (hr2.mono hs3) hr3).mono (fun n F4 G4 h4 w4 nv hs4 hr4 => ?_) fun _ _ _ _ z => z))) fun _ _ _ _ z => z))
  refine AT.standAt (AT.bind (rel' := Rel1) (AT.holding ((h4 w4 ov nv (hr.mono hs4) hr4).mono (fun _ F5 G5 h5 w5 _ hs5 _ => ?_) fun _ _ _ _ z => z)))
  intro f l hl w6 R s hs6 S
  exact wpAny_bind (wpAny_release' (wpAny_pure ⟨w6, Fl.next, _, .refl _, rfl, S, F5, G5, f, rfl, h5⟩))
theorem op_iadd {a b : Int} (hq : Q (.int (a + b)) F G) : Op2 c A env Rel F G (inplaceOp .Add) (.int a) (.int b) Q E := fun w v u h1 h2 => by
  simp only [Rel] at h1 h2; obtain ⟨t, rfl⟩ := h1; obtain ⟨t', rfl⟩ := h2
  exact AT.val (r := .int (a + b)) (fun Q E s h => iadd_int (h _ _ (by simp [Rel]))) hq
theorem op_isub {a b : Int} (hq : Q (.int (a - b)) F G) : Op2 c A env Rel F G (inplaceOp .Sub) (.int a) (.int b) Q E := fun w v u h1 h2 => by
  simp only [Rel] at h1 h2; obtain ⟨t, rfl⟩ := h1; obtain ⟨t', rfl⟩ := h2
  exact AT.val (r := .int (a - b)) (fun Q E s h => isub_int (h _ _ (by simp [Rel]))) hq
end
theorem Rm.deeper {n : Nat} {A : Around} {env : Env} (h : Rm (n + 1) A) : Rm n (A.deeper env) := ⟨by have := h.depth; show A.depth + 1 + n ≤ 900; walk_at "q", by have := h.units; show A.units + 3 + 10 * n ≤ 9000; walk_at "q", h.guards, h.handled⟩
theorem Rm.room {n : Nat} {A : Around} (h : Rm n A) : A.depth < recursionLimit := by have := h.depth; show A.depth < 1000; walk_at "q"
theorem Rm.uroom {n : Nat} {A : Around} (h : Rm n A) : A.units + 100 < cLine := by have := h.units; show A.units + 100 < 9900; walk_at "q"
theorem Rm.make {n : Nat} {A : Around} {C : Addr} {vals : List Value} (h : Rm (n + 1) A) : Rm n (A.under (.builtin "type.__call__" ⟨.ref C :: vals, []⟩)) :=
  ⟨by rw [depth_under_make]; have := h.depth; walk_at "q", by rw [units_under_make]; have := h.units; walk_at "q", h.guards, h.handled⟩

noncomputable def BRel (w : Wd) : List (Str × D) → List (Str × Value) → Prop
  | [], bs => bs = []
  | (x, d) :: r, bs => ∃ v t, bs = (x, v) :: t ∧ Rel w d v ∧ BRel w r t
theorem BRel.mono {w w' : Wd} (h : Sub w w') : ∀ {a : List (Str × D)} {b : List (Str × Value)}, BRel w a b → BRel w' a b
  | [], _, e => e
  | (x, d) :: r, _, ⟨v, t, e, h1, h2⟩ => ⟨v, t, e, h1.mono h, h2.mono h⟩
theorem BRel.append {w : Wd} : ∀ {a a' : List (Str × D)} {b b' : List (Str × Value)}, BRel w a b → BRel w a' b' → BRel w (a ++ a') (b ++ b')
  | [], _, _, _, e, f => by simp only [BRel] at e; subst e; exact f
  | (x, d) :: r, _, _, _, ⟨v, t, e, h1, h2⟩, f => by subst e; exact ⟨v, _, rfl, h1, h2.append f⟩
theorem BRel.names {w : Wd} : ∀ {a : List (Str × D)} {b : List (Str × Value)}, BRel w a b → b.map (·.1) = a.map (·.1)
  | [], _, e => by simp only [BRel] at e; subst e; rfl
  | (x, d) :: r, _, ⟨v, t, e, h1, h2⟩ => by subst e; simp [h2.names]
theorem BRel.look {w : Wd} {x : Str} {d : D} : ∀ {a : List (Str × D)} {b : List (Str × Value)}, BRel w a b → a.lookup x = some d → ∃ v, b.lookup x = some v ∧ Rel w d v
  | [], _, e, h => by cases h
  | (y, d') :: r, _, ⟨v, t, e, h1, h2⟩, h => by
    subst e
    rw [List.lookup_cons] at h ⊢
    cases q : x == y with
    | true => rw [q] at h; cases h; exact ⟨v, rfl, h1⟩
    | false => rw [q] at h; exact h2.look h
noncomputable def frm0 (scope : Scope) (L : Addr) (bs : List (Str × D)) : Frm :=
  { L := L, loc := bs.filter fun p => scope.names.lookup p.1 == some .local, cel := (cellsFrom (L + 1) scope.names []).map fun p => (p.1, p.2, bs.lookup p.1) }
theorem lookup_filter {p : Str → Bool} {x : Str} {d : D} : ∀ {l : List (Str × D)}, (l.filter fun q => p q.1).lookup x = some d → l.lookup x = some d ∧ p x = true
  | [], h => by cases h
  | (y, e) :: r, h => by
    rw [List.filter_cons] at h
    rw [List.lookup_cons]
    cases q : x == y with
    | true =>
      have := eq_of_beq q; subst this
      by_cases hp : p x = true
      · rw [if_pos hp, List.lookup_cons, q] at h; exact ⟨h, hp⟩
      · rw [if_neg hp] at h
        exact absurd (lookup_filter h).2 hp
    | false =>
      split at h
      · rw [List.lookup_cons, q] at h; exact lookup_filter h
      · exact lookup_filter h
theorem bindL_get {k : Str → Option NameKind} {x : Str} (hx : k x = some .local) : ∀ {bs : List (Str × Value)} {m : Str → Option Value}, (bs.map (·.1)).Nodup → bindL k bs m x = (bs.lookup x).or (m x)
  | [], m, _ => by simp [bindL]
  | (n, v) :: r, m, nd => by
    rw [List.map_cons, List.nodup_cons] at nd
    unfold bindL
    rw [bindL_get hx nd.2, List.lookup_cons]
    cases q : x == n with
    | true =>
      have := eq_of_beq q; subst this
      have : r.lookup x = none := by
        cases e : r.lookup x with
        | none => rfl
        | some u => exact absurd (List.mem_map.mpr ⟨_, lookup_mem e, rfl⟩) nd.1
      rw [this, if_pos hx]; simp
    | false =>
      have ne : ¬ x = n := by simpa using q
      split
      · simp [ne]
      · rfl
theorem bindC_get {k : Str → Option NameKind} {x : Str} (hx : k x ≠ some .local) : ∀ {bs : List (Str × Value)} {m : Str → Option Value}, (bs.map (·.1)).Nodup → bindC k bs m x = (bs.lookup x).or (m x)
  | [], m, _ => by simp [bindC]
  | (n, v) :: r, m, nd => by
    rw [List.map_cons, List.nodup_cons] at nd
    unfold bindC
    rw [bindC_get hx nd.2, List.lookup_cons]
    cases q : x == n with
    | true =>
      have := eq_of_beq q; subst this
      have : r.lookup x = none := by
        cases e : r.lookup x with
        | none => rfl
        | some u => exact absurd (List.mem_map.mpr ⟨_, lookup_mem e, rfl⟩) nd.1
      rw [this, if_neg hx]; simp
    | false =>
      have ne : ¬ x = n := by simpa using q
      split
      · rfl
      · simp [ne]
theorem lookup_map3 {x : Str} {f : Str → Option D} : ∀ {l : List (Str × Addr)}, (l.map fun p => (p.1, p.2, f p.1)).lookup x = (l.lookup x).map fun a => (a, f x)
  | [] => rfl
  | (y, a) :: r => by
    rw [List.map_cons, List.lookup_cons, List.lookup_cons]
    cases q : x == y with
    | true => have := eq_of_beq q; subst this; rfl
    | false => exact lookup_map3
noncomputable abbrev envD (fd : FuncData) (L f : Addr) : Env := newEnv fd.scope L fd.globals (cellsFrom (L + 1) fd.scope.names []) (fd.qualname ++ ".<locals>.") (some f) fd.code none fd.builtins

structure DefOk (c : Cx) (f : Addr) (fd : FuncData) (body : List Stmt) : Prop where
  at_ : ∃ fo, c.base.get? f = some fo ∧ fo.data = .func fd
  code : c.base.CodeRec fd.code fd.qualname
  body : fd.body = .stmts body
  co : fd.scope.isCoroutine = false
  gen : fd.scope.isGenerator = false
  kind : fd.scope.kind = .function
  clo : fd.closure = []
  gl : fd.globals = mainGlobals
  bi : fd.builtins = builtinsNs
  nd : ((cellsFrom 0 fd.scope.names []).map (·.1)).Nodup
  nol : ∀ x ∈ (cellsFrom 0 fd.scope.names []).map (·.1), fd.scope.names.lookup x ≠ some .local

theorem fr_deeper {A : Around} {env : Env} {l : List Env} (h : A.frames = some l) : (A.deeper env).frames = some (env :: l) := by unfold Around.deeper; simp [h]

theorem cells_sim {c : Cx} {l : List Env} {w : Wd} {s : Shared} (cl : List (Str × Addr)) (f : Str → Option D) (G : Led) (h0 : Nat) (S : Sim c l w G s) (ha : cl.Pairwise fun x y => x.2 ≠ y.2) (hn : ∀ p ∈ cl, h0 ≤ (p.2 : Nat)) (hG : ∀ p ∈ G, (p.1 : Nat) < h0) (hw : ∀ (a : Nat) o, w a = some o → a < h0)
    (hl : ∀ env ∈ l, ∀ a : Nat, env.frame = some a → a < h0)
    (hc : ∀ p ∈ cl, OAt c w s.heap p.2 (.cell (f p.1))) : Sim c l w (cl.map (fun p => (p.2, O.cell (f p.1))) ++ G) s := by
  refine ⟨S.wok, S.wbase, ?_, fun p hp => ?_, fun env he => ?_, S.gens, S.os⟩
  · rw [List.map_append, List.map_map, List.nodup_append]
    refine ⟨?_, S.nd, fun x hx y hy e => ?_⟩
    · rw [List.nodup_iff_pairwise_ne, List.pairwise_map]; exact ha
    · refine e1a2 (List.mem_map.mp hx) fun p hp e1 => ?_
      refine e1a2 (List.mem_map.mp hy) fun q hq e2 => ?_
      have k1 := hn p hp; have k2 := hG q hq
      dsimp only [Function.comp] at e1
      have e3 : p.2 = q.1 := (e1.trans e).trans e2.symm
      exact Nat.lt_irrefl _ (Nat.lt_of_le_of_lt k1 (e3 ▸ k2))
  · rcases List.mem_append.mp hp with q | q
    · refine e1a2 (List.mem_map.mp q) fun p' hp' zq40 => ?_
      subst zq40
      refine ⟨?_, hc p' hp'⟩
      cases e : w p'.2 with
      | none => rfl
      | some o => exact absurd (hw _ _ e) (Nat.not_lt.mpr (hn p' hp'))
    · exact S.ents p q
  · refine e0a2 (S.frs env he) fun k zq41 => ?_
    obtain ⟨L, h1, h2, h3, h4⟩ := zq41
    refine ⟨k, L, h1, h2, h3, fun o ho => ?_⟩
    rcases List.mem_append.mp ho with q | q
    · refine e1a2 (List.mem_map.mp q) fun p hp e => ?_
      have e1 : p.2 = L := congrArg Prod.fst e
      exact absurd (hl env he _ h1) (Nat.not_lt.mpr (e1 ▸ hn p hp))
    · exact h4 o q

theorem ac_def {c : Cx} {A : Around} {n : Nat} {f : Addr} {fd : FuncData} {body : List Stmt} {args : List D} {bs : List (Str × D)} {G : Led} {Q : D → Led → Prop} {E : Value → List D → Led → Prop}
    (hc : c.Ok) (hR : Rm (n + 1) A) (hd : DefOk c f fd body)
    (hb : ∀ w vs, Rels w args vs → AW c A.in1 BRel w G (bindArgs fd ⟨vs, []⟩) (fun b G' => b = bs ∧ G' = G) (fun _ _ _ => False))
    (hnd : (bs.map (·.1)).Nodup) (hk : ∀ x ∈ bs.map (·.1), fd.scope.names.lookup x = some .local ∨ (fd.scope.names.lookup x = some .cell ∧ ∀ m, ((cellsFrom m fd.scope.names []).lookup x).isSome = true))
    (h : ∀ L, Rm n (A.deeper (envD fd L f)) → FitA (A.deeper (envD fd L f)) (envD fd L f) → AS c (A.deeper (envD fd L f)) (envD fd L f) (frm0 fd.scope L bs) G body (fun fl _ G' => Q (match fl with | .ret d => d | _ => .none) G') (fun x y _ G' => E x y G')) :
    AC c A (.ref f) args G Q E := fun w v vs hv hvs l hl w1 R s hs S => by
  simp only [Rel] at hv; subst hv
  refine e1a2 hd.at_ fun fo f1 f2 => ?_
  refine codeAny_call_function hR.room (S.keep _ _ f1) f2 hd.co hd.gen hd.body (hd.code.keeps S.keep) ?_
  refine wpAny_mono (hb w vs hvs l hl w1 R s hs S) (fun bv s1 z9 => ?_) fun e s1 ⟨w2, x, k, as, G', _, _, _, _, z⟩ => z.elim
  obtain ⟨w2, b, G', h1, h2, h3, e1, e2⟩ := z9
  subst e1 e2
  rw [hd.clo]
  have nm := h2.names
  have hLs : ∀ p ∈ cellsFrom (s1.heap.objs.size + 1) fd.scope.names [], True := fun _ _ => trivial
  refine wpAny_newFunctionEnv_cells hd.kind (fun x hx => ?_) fun env he s2 X => ?_
  · have hx' : x.1 ∈ b.map (·.1) := by rw [← nm]; exact List.mem_map_of_mem hx
    rcases hk _ hx' with q | ⟨q1, q2⟩
    · exact .inl q
    · exact .inr ⟨q1, q2 _⟩
  · subst he
    refine e2a2 X.done fun h' tk zq42 _ => ?_
    subst zq42
    have keep := X.toInCall.keep
    refine ⟨(hc.nolimit.keeps h3.keep).keeps keep, codeAny_func ?_⟩
    generalize hL : s1.heap.objs.size = L at X ⊢
    have wlt : ∀ a o, w2 a = some o → a < L := fun a o e => hL ▸ Heap.lt_size (h3.wok a o e)
    have glt : ∀ p ∈ G' ++ R, p.1 < L := fun p hp => hL ▸ h3.lt hp
    have ns := X.toInCall.ns
    change Heap.Ns _ L _ at ns
    have fit : Fit (envD fd L f) (frm0 fd.scope L b) := ⟨hd.kind, rfl, fun x hx => by
      show List.lookup x (cellsFrom (L + 1) fd.scope.names []) = _
      unfold frm0
      dsimp only
      have e := @lookup_map3 x (fun x => List.lookup x b) (cellsFrom (L + 1) fd.scope.names [])
      rw [e]
      cases List.lookup x (cellsFrom (L + 1) fd.scope.names []) <;> rfl, hd.gl, hd.bi⟩
    have nd' : (bv.map (·.1)).Nodup := by rw [nm]; exact hnd
    -- the frame's own object
    have S1 : Sim c l w2 (G' ++ R) { s1 with heap := h', toks := tk } := (h3.more keep).toks tk
    have frlt : ∀ env ∈ l, ∀ a, env.frame = some a → a < L := fun env he a hf => by
      refine e0a2 (h3.frs env he) fun _ zq43 => ?_
      obtain ⟨L', k1, _, ⟨ob, es, n', k3, _⟩, _⟩ := zq43
      rw [k1] at hf; cases hf; exact hL ▸ Heap.lt_size k3
    have hns : OAt c w2 h' L (.ns (frm0 fd.scope L b).loc) := by
      refine e3a4 ns ?_
      try clear ns
      intro ob ents n' k1 k2 k3 k4
      refine ⟨ob, ents, n', k1, k2, k3, fun x d hx => ?_⟩
      refine e0a2 (lookup_filter (p := fun x => fd.scope.names.lookup x == some .local) hx) fun q1 q2 => ?_
      refine e1a2 (h2.look q1) fun u hu hru => ?_
      have q2 : fd.scope.names.lookup x = some .local := by simpa using q2
      refine ⟨u, (k4 x).trans ?_, hru⟩
      show bindL (envD fd L f).kindOf bv (fun _ => none) x = some u
      rw [bindL_get (show (envD fd L f).kindOf x = some .local from q2) nd', hu]; rfl
    have S2 : Sim c l w2 ((L, .ns (frm0 fd.scope L b).loc) :: (G' ++ R)) { s1 with heap := h', toks := tk } := by
      refine ⟨S1.wok, S1.wbase, ?_, fun p hp => ?_, fun env he => ?_, S1.gens, S1.os⟩
      · rw [List.map_cons, List.nodup_cons]
        refine ⟨fun q => ?_, S1.nd⟩
        refine e1a2 (List.mem_map.mp q) fun p hp e => ?_
        exact absurd (glt p hp) (by rw [e]; exact Nat.lt_irrefl _)
      · rcases List.mem_cons.mp hp with rfl | q
        · refine ⟨?_, hns⟩
          cases e : w2 L with
          | none => rfl
          | some o => exact absurd (wlt _ _ e) (Nat.lt_irrefl _)
        · exact S1.ents p q
      · refine e0a2 (S1.frs env he) fun k zq44 => ?_
        obtain ⟨L', k1, k2, k3, k4⟩ := zq44
        refine ⟨k, L', k1, k2, k3, fun o ho => ?_⟩
        rcases List.mem_cons.mp ho with q | q
        · cases q; exact absurd (frlt env he _ k1) (Nat.lt_irrefl _)
        · exact k4 o q
    have hcl : (cellsFrom (L + 1) fd.scope.names []).map (·.1) = (cellsFrom 0 fd.scope.names []).map (·.1) := by
      have := cellsFrom_names fd.scope.names 0 (L + 1) [] [] rfl
      exact this.symm
    have S3 : Sim c l w2 ((frm0 fd.scope L b).led ++ G' ++ R) { s1 with heap := h', toks := tk } := by
      have := cells_sim (cellsFrom (L + 1) fd.scope.names []) (fun x => b.lookup x) _ (L + 1) S2 X.apart (fun p hp => X.above p.1 p.2 hp) (fun p hp => by
        rcases List.mem_cons.mp hp with rfl | q
        · exact Nat.lt_succ_self _
        · exact Nat.lt_succ_of_lt (glt p q)) (fun a o e => Nat.lt_succ_of_lt (wlt a o e)) (fun env he a hf => Nat.lt_succ_of_lt (frlt env he a hf)) (fun p hp => ?_)
      · refine this.perm ?_
        unfold frm0 Frm.led
        simp only [List.map_map, List.cons_append]
        refine List.Perm.trans ?_ List.perm_middle.symm
        refine List.Perm.cons _ ?_
        rw [List.append_assoc]
        exact .refl _
      · have hcell := X.cell p.1 p.2 (lookup_of_mem_nodup (by
          show ((cellsFrom (L + 1) fd.scope.names []).map (·.1)).Nodup
          rw [hcl]; exact hd.nd) hp)
        cases e : b.lookup p.1 with
        | none => exact ⟨_, hcell⟩
        | some d =>
          refine e1a2 (h2.look e) fun u hu hru => ?_
          refine ⟨u, ?_, hru⟩
          have hpn : p.1 ∈ b.map (·.1) := List.mem_map.mpr ⟨_, lookup_mem e, rfl⟩
          have hloc := hd.nol p.1 (by rw [← hcl]; exact List.mem_map_of_mem hp)
          have := bindC_get (k := (envD fd L f).kindOf) (x := p.1) (show (envD fd L f).kindOf p.1 ≠ some .local from hloc) (m := fun _ => none) nd'
          rw [this, hu] at hcell
          exact hcell
    have S4 : Sim c (envD fd L f :: l) w2 ((frm0 fd.scope L b).led ++ G' ++ R) { s1 with heap := h', toks := tk } := by
      refine ⟨S3.wok, S3.wbase, S3.nd, S3.ents, fun env he => ?_, S3.gens, S3.os⟩
      rcases List.mem_cons.mp he with rfl | q
      · refine ⟨by show fd.scope.kind ≠ .module; rw [hd.kind]; decide, L, rfl, (S2.ents _ (.head _)).1, ?_, fun o ho => ?_⟩
        · refine e3a3 ns ?_
          try clear ns
          intro ob ents n' k1 k2 _
          exact ⟨ob, ents, n', k1, k2⟩
        · have := nodup_uniq S3.nd ho (y := o) (z := .ns (frm0 fd.scope L b).loc) (by simp [Frm.led, frm0])
          rw [this]; rfl
      · exact S3.frs env q
    have B := h L hR.deeper ⟨l, fr_deeper hl⟩ fit (envD fd L f :: l) (fr_deeper hl) w2 R _ (Sub.nil _) S4
    refine wpAny_mono B (fun fl s2 z9 => ?_) fun e s2 ⟨w3, x, cls, ar, G2, j1, j2, ⟨m, j3⟩, j4, F3, G3, j5, j6, j7⟩ => ?_
    · obtain ⟨w3, fl', G2, j1, j2, j3, F3, G3, j4, j5, j6⟩ := z9
      subst j5
      have S5 : Sim c l w3 (G3 ++ R) s2 := by
        have := Sim.tail (A := F3.led) (B := G3 ++ R) (by simpa using j3)
        exact ⟨this.wok, this.wbase, this.nd, this.ents, fun env he => this.frs env (.tail _ he), this.gens, this.os⟩
      cases fl' with
      | next => cases j2; exact ⟨w3, .none, G3, h1.trans j1, by simp [Rel], S5, j6⟩
      | brk => cases j2; exact ⟨w3, .none, G3, h1.trans j1, by simp [Rel], S5, j6⟩
      | cont => cases j2; exact ⟨w3, .none, G3, h1.trans j1, by simp [Rel], S5, j6⟩
      | ret d => obtain ⟨v, rfl, hv⟩ := j2; exact ⟨w3, d, G3, h1.trans j1, hv, S5, j6⟩
    · subst j2 j6
      unfold leaving
      refine wpAny_bind (x_note j4 (fr_deeper hl) j3 fun h2' S6 X6 => ?_)
      refine x_flight (l' := l) (m' := .fly) S6 (by intro q; cases q) (.inl ⟨rfl, rfl⟩) X6 fun h3' S7 X7 => ?_
      have S8 : Sim c l w3 (G3 ++ R) { s2 with heap := h3' } := by
        have := Sim.tail (A := F3.led) (B := G3 ++ R) (by simpa using S7)
        exact ⟨this.wok, this.wbase, this.nd, this.ents, fun env he => this.frs env (.tail _ he), this.gens, this.os⟩
      exact ⟨w3, x, cls, ar, G3, h1.trans j1, rfl, ⟨.fly, X7.less (by intro a ha; simp only [List.map_append, List.mem_append] at ha ⊢; rcases ha with q | q <;> simp [q])⟩, S8, j7⟩

theorem ac_make {c : Cx} {A : Around} {n : Nat} {C fI : Addr} {args : List D} {G : Led} {Q : D → Led → Prop} {E : Value → List D → Led → Prop} (hc : c.Ok) (hR : Rm (n + 1) A) (hm : makesIn c.K C = true) (hi : findIn c.K (.ref C) "__init__" = some (some (.ref fI))) (hf : typeIn c.K (.ref fI) = some (.type "function"))
    (h : ∀ x dx A', Rm n A' → AC c A' (.ref fI) (.ref x :: args) ((x, .inst C dx) :: (dx, .attrs []) :: G) (fun r G' => r = .none ∧ Q (.ref x) G') E) : AC c A (.ref C) args G Q E := fun w v vs hv hvs l hl w1 R s hs S => by
  simp only [Rel] at hv; subst hv
  obtain ⟨hh, g, d, t, os⟩ := s
  refine make_core (makes_of (S.kin hc) hm) (looks_findIn (S.kin hc) hi) (fun self => bind_fn (S.kin hc) self hf) (.inl rfl) ?_
  have S1 := S.alloc (ob := emptyDict) (o := .attrs []) rfl ⟨_, #[], 0, Heap.get?_push_size _ rfl, rfl, by intro e he; simp at he, fun x => rfl, Nat.le_refl _⟩
  have S2 := S1.alloc (ob := instObj C hh.objs.size) (o := .inst C hh.objs.size) rfl (Heap.get?_push_size _ rfl)
  have sz : (hh.push emptyDict).objs.size = hh.objs.size + 1 := Heap.size_push ..
  change Sim c l w1 (((hh.push emptyDict).objs.size, _) :: _) _ at S2
  rw [sz] at S2
  have z := h (hh.objs.size + 1) hh.objs.size (A.under (.builtin "type.__call__" ⟨.ref C :: vs, []⟩)) hR.make w (.ref fI) (.ref (hh.objs.size + 1) :: vs) (by simp [Rel]) (.cons (by simp [Rel]) hvs) l hl w1 R _ hs S2
  refine codeAny_mono z fun r s' q => ?_
  unfold InitBack
  rcases r with e | (_ | _ | _ | v)
  · exact q
  · exact q
  · exact q
  · exact q
  · obtain ⟨w', b, G', k1, k2, k3, rfl, k4⟩ := q
    simp only [Rel] at k2
    exact ⟨k2, w', _, G', k1, by simp [Rel], k3, k4⟩
theorem ac_makeS {c : Cx} {A : Around} {n : Nat} {C fI : Addr} {args : List D} {G : Led} {Q : D → Led → Prop} {E : Value → List D → Led → Prop} (hc : c.Ok) (hR : Rm (n + 1) A) (hm : makesIn c.K C = true) (hi : findIn c.K (.ref C) "__init__" = some (some (.ref fI))) (hf : typeIn c.K (.ref fI) = some (.type "function"))
    (h : ∀ x A', Rm n A' → AC c A' (.ref fI) (.ref x :: args) ((x, .slots C []) :: G) (fun r G' => r = .none ∧ Q (.ref x) G') E) : AC c A (.ref C) args G Q E := fun w v vs hv hvs l hl w1 R s hs S => by
  simp only [Rel] at hv; subst hv
  obtain ⟨hh, g, d, t, os⟩ := s
  refine make_core (makes_of (S.kin hc) hm) (looks_findIn (S.kin hc) hi) (fun self => bind_fn (S.kin hc) self hf) (.inl rfl) ?_
  refine e0a2 (S.allocF (ob := emptyDict) rfl) fun sub S1 => ?_
  have S2 := S1.alloc (ob := instObj C hh.objs.size) (o := .slots C []) rfl ⟨#[], hh.objs.size, Heap.get?_push_size _ rfl, Wd.add_self _ _ _, [], rfl, .nil⟩
  have sz : (hh.push emptyDict).objs.size = hh.objs.size + 1 := Heap.size_push ..
  change Sim c l _ (((hh.push emptyDict).objs.size, _) :: _) _ at S2
  rw [sz] at S2
  have z := h (hh.objs.size + 1) (A.under (.builtin "type.__call__" ⟨.ref C :: vs, []⟩)) hR.make w (.ref fI) (.ref (hh.objs.size + 1) :: vs) (by simp [Rel]) (.cons (by simp [Rel]) hvs) l hl _ R _ (hs.trans sub) S2
  refine codeAny_mono z fun r s' q => ?_
  unfold InitBack
  rcases r with e | (_ | _ | _ | v)
  · exact Px.up q sub
  · exact q
  · exact q
  · exact q
  · obtain ⟨w', b, G', k1, k2, k3, rfl, k4⟩ := q
    simp only [Rel] at k2
    exact ⟨k2, w', _, G', sub.trans k1, by simp [Rel], k3, k4⟩

section
variable {c : Cx} {A : Around} {env : Env} {w : Wd} {F : Frm} {G : Led} {E : LX} {Q : D → Frm → Led → Prop}
noncomputable abbrev kCallK (c : Cx) (A : Around) (env : Env) (g : D) (Q : D → Frm → Led → Prop) (E : LX) (ds : List D) (F : Frm) (G : Led) : Prop := CallK c A env F G g ds Q E
noncomputable abbrev kCall (c : Cx) (A : Around) (env : Env) (pos : Pos) (es : List Expr) (Q : D → Frm → Led → Prop) (E : LX) (g : D) (F : Frm) (G : Led) : Prop := Args c A env F G pos es (kCallK c A env g Q E) E
theorem ae_Call {func : Expr} {es : List Expr} {pos : Pos} (h : AE c A env F G func (kCall c A env pos es Q E) E)
    (he : eval (.Call func es [] pos) env = (eval func env >>= fun f => callWith pos f [] (backTo pos (starEach es env)) []) := by with_unfolding_all rfl) : AE c A env F G (.Call func es [] pos) Q E := by
  unfold AE
  rw [he]
  refine AT.bind (h.mono (fun g F1 G1 h1 w1 a hs hr => ?_) fun _ _ _ _ z => z)
  exact at_callWith hr .nil h1
noncomputable abbrev kMeth3 (c : Cx) (A : Around) (env : Env) (g : D) (fst : List D) (Q : D → Frm → Led → Prop) (E : LX) (ds : List D) (F : Frm) (G : Led) : Prop := CallK c A env F G g (fst ++ ds) Q E
noncomputable abbrev kMeth2 (c : Cx) (A : Around) (env : Env) (pos : Pos) (es : List Expr) (Q : D → Frm → Led → Prop) (E : LX) (g : D) (fst : List D) (F : Frm) (G : Led) : Prop := Args c A env F G pos es (kMeth3 c A env g fst Q E) E
noncomputable abbrev kMeth (c : Cx) (A : Around) (env : Env) (name : Str) (pos : Pos) (es : List Expr) (Q : D → Frm → Led → Prop) (E : LX) (d : D) (F : Frm) (G : Led) : Prop := Meth c A env F G d name (kMeth2 c A env pos es Q E) E
theorem ae_Meth {o : Expr} {name : Str} {es : List Expr} {apos pos : Pos} (h : AE c A env F G o (kMeth c A env name pos es Q E) E)
    (hb : attributeBase o name env (eval o env) = eval o env := by with_unfolding_all rfl) (hf : methodCallForm (es.length + 0) (backTo pos (starEach es env)) [] = true := by with_unfolding_all rfl) (hp : (apos.endLine == pos.line) = true := by with_unfolding_all rfl) : AE c A env F G (.Call (.Attribute o name apos) es [] pos) Q E := by
  show AT c A env Rel Wd.nil F G (attributeBase o name env (eval o env) >>= fun ov => standAt apos.atName >>= fun _ => methodCall o name apos pos env ov (es.length + 0) (backTo pos (starEach es env)) []) Q E
  rw [hb]
  refine AT.bind (h.mono (fun d F1 G1 h1 w1 ov hs hr => AT.standAt ?_) fun _ _ _ _ z => z)
  unfold methodCall calleeOf methodCallPos
  rw [hf, hp]
  refine AT.bind (AT.holding ((h1 w1 ov _ hr).mono (fun p F2 G2 h2 w2 q hs2 hr2 => ?_) fun _ _ _ _ z => z))
  obtain ⟨g, fst⟩ := p
  obtain ⟨gv, fv⟩ := q
  intro f l hl w3 R s hs3 S
  exact wpAny_bind (wpAny_pure (at_callWith (hr2.1.mono hs3) (hr2.2.mono hs3) h2 f l hl w3 R s (.refl _) S))
theorem ae_MethS {o : Expr} {name : Str} {es : List Expr} {apos pos : Pos} (h : AE c A env F G o (kGetA c A env name (kCall c A env pos es Q E) E) E)
    (hb : attributeBase o name env (eval o env) = eval o env := by with_unfolding_all rfl) (hf : methodCallForm (es.length + 0) (backTo pos (starEach es env)) [] = false := by with_unfolding_all rfl) : AE c A env F G (.Call (.Attribute o name apos) es [] pos) Q E := by
  show AT c A env Rel Wd.nil F G (attributeBase o name env (eval o env) >>= fun ov => standAt apos.atName >>= fun _ => methodCall o name apos pos env ov (es.length + 0) (backTo pos (starEach es env)) []) Q E
  rw [hb]
  refine AT.bind (h.mono (fun d F1 G1 h1 w1 ov hs hr => AT.standAt ?_) fun _ _ _ _ z => z)
  unfold methodCall calleeOf methodCallPos
  rw [hf]
  refine AT.bind (rel' := fun w (p : D × List D) (q : Value × List Value) => Rel w p.1 q.1 ∧ Rels w p.2 q.2) (AT.holding (AT.bind ((h1 w1 ov hr).mono (fun g F2 G2 h2 w2 q hs2 hr2 => AT.pure (b := (g, ([] : List D))) ⟨hr2, .nil⟩ (fun _ s z => ⟨z.1.mono s, z.2.mono s⟩) ?_) fun _ _ _ _ z => z)))
  intro w3 p3 hs3 hr3 f l hl w4 R s hs4 S
  obtain ⟨gv, fv⟩ := p3
  exact wpAny_bind (wpAny_pure (at_callWith (hr3.1.mono hs4) (hr3.2.mono hs4) h2 f l hl w4 R s (.refl _) S))
end

section
variable {c : Cx} {A : Around} {env : Env} {w : Wd} {F : Frm} {G : Led} {E : LX} {Q : D → Frm → Led → Prop}
theorem callk_bound {a m x : Addr} {ds : List D} {G1 Rest : Led} {Q' : D → Led → Prop} {E' : Value → List D → Led → Prop} (hc : c.Ok) (hf : fnIn c.K m = true) (ha : (a, O.raw (methodObj (.ref m) (.ref x))) ∈ G) (h : AC c A (.ref m) (.ref x :: ds) G1 Q' E')
    (p : G.Perm (G1 ++ Rest)) (hQ : ∀ d G', Q' d G' → Q d F (G' ++ Rest)) (hE : ∀ x y G', E' x y G' → E x y F (G' ++ Rest)) : CallK c A env F G (.ref a) ds Q E := by
  refine ⟨fun w v l R s hr S => ?_, ?_⟩
  · simp only [Rel] at hr; subst hr
    refine e0a2 (S.get (List.mem_append_left R (List.mem_append_right F.led ha))) fun h1 _ => ?_
    refine e1a2 (keeps_M (M := model c.prog c.wd) (K := c.K) (q := a) (f := m) (self := .ref x) hf s.heap ⟨h1, S.kin hc⟩) fun k _ L => ?_
    exact ⟨k, L⟩
  · intro w v vs hr hrs f l hl w1 R s hs S
    simp only [Rel] at hr; subst hr
    refine e0a2 (S.get (List.mem_append_left R (List.mem_append_right F.led ha))) fun h1 _ => ?_
    refine wpAny_call (method_call h1 (codeAny_mono (h w (.ref m) (.ref x :: vs) (by simp [Rel]) (.cons (by simp [Rel]) hrs) l hl w1 (F.led ++ Rest ++ R) s hs (S.perm (perm3 p))) fun r s' z => ?_))
    rcases r with e | (_ | _ | _ | v)
    · obtain ⟨w', x, k, as, G', h1, h2, ⟨m, h3⟩, h4, h5⟩ := z
      exact ⟨w', x, k, as, F.led ++ (G' ++ Rest), h1, h2, ⟨m, h3.less fun a ha => ((perm3 (X := F.led) (G1 := G') (Rest := Rest) (R := R) (.refl _)).map _).mem_iff.mpr ha⟩, h4.perm (perm3 (.refl _)).symm, F, _, f, rfl, hE _ _ _ h5⟩
    · exact z.elim
    · exact z.elim
    · exact z.elim
    · obtain ⟨w', b, G', h1, h2, h3, h4⟩ := z
      exact ⟨w', b, F.led ++ (G' ++ Rest), h1, h2, h3.perm (perm3 (.refl _)).symm, F, _, f, rfl, hQ _ _ h4⟩
theorem callk_ac {f : D} {args : List D} {G1 Rest : Led} {Q' : D → Led → Prop} {E' : Value → List D → Led → Prop} (hk : KOk c F G f) (h : AC c A f args G1 Q' E') (p : G.Perm (G1 ++ Rest)) (hQ : ∀ d G', Q' d G' → Q d F (G' ++ Rest)) (hE : ∀ x y G', E' x y G' → E x y F (G' ++ Rest)) :
    CallK c A env F G f args Q E := ⟨hk, calld_ac h p hQ hE⟩
end
noncomputable def KV (w : Wd) : List (Key × D) → List (Key × Value) → Prop
  | [], kvs => kvs = []
  | (k, d) :: r, kvs => ∃ v t, kvs = (k, v) :: t ∧ Rel w d v ∧ KV w r t
noncomputable def dget (k : Key) (es : List (Key × D)) : Option D := (es.find? fun p => decide (p.1 = k)).map (·.2)
noncomputable def dput (k : Key) (d : D) (es : List (Key × D)) : List (Key × D) := if es.any (fun p => decide (p.1 = k)) then es.map (fun p => if p.1 = k then (p.1, d) else p) else es ++ [(k, d)]
noncomputable def dwo (k : Key) (es : List (Key × D)) : List (Key × D) := es.filter fun p => decide (p.1 ≠ k)
theorem KV.of {w : Wd} : ∀ {es : List (Key × D)} {kvs : List (Key × Value)}, kvs.map (·.1) = es.map (·.1) → Rels w (es.map (·.2)) (kvs.map (·.2)) → KV w es kvs
  | [], kvs, h, _ => by simp only [KV]; simpa using h
  | (k, d) :: r, [], h, _ => by cases h
  | (k, d) :: r, (k', v) :: t, h, h2 => by
    simp only [List.map_cons, List.cons.injEq] at h
    refine e0a2 h ?_
    try clear h
    intro zq45 h
    subst zq45
    simp only [List.map_cons, Rels] at h2
    refine e2a3 h2 ?_
    try clear h2
    intro v' r' e h3 h4
    cases e
    exact ⟨v, t, rfl, h3, KV.of h h4⟩
theorem KV.keys {w : Wd} : ∀ {es : List (Key × D)} {kvs : List (Key × Value)}, KV w es kvs → kvs.map (·.1) = es.map (·.1)
  | [], _, h => by simp only [KV] at h; subst h; rfl
  | (k, d) :: r, _, ⟨v, t, e, _, h⟩ => by subst e; simp [h.keys]
theorem KV.get {w : Wd} (k : Key) : ∀ {es : List (Key × D)} {kvs : List (Key × Value)}, KV w es kvs → match dget k es with | some d => ∃ v, valueAt kvs k = some v ∧ Rel w d v | none => valueAt kvs k = none
  | [], _, h => by simp only [KV] at h; subst h; simp [dget, valueAt]
  | (k', d) :: r, _, ⟨v, t, e, h1, h⟩ => by
    subst e
    have ih := KV.get k h
    unfold dget valueAt at ih ⊢
    rw [List.find?_cons, List.find?_cons]
    by_cases q : k' = k
    · simp only [decide_eq_true q]; exact ⟨v, rfl, h1⟩
    · simp only [decide_eq_false q]; exact ih
theorem KV.any {w : Wd} (k : Key) : ∀ {es : List (Key × D)} {kvs : List (Key × Value)}, KV w es kvs → kvs.any (fun p => decide (p.1 = k)) = es.any (fun p => decide (p.1 = k))
  | [], _, h => by simp only [KV] at h; subst h; rfl
  | (k', d) :: r, _, ⟨v, t, e, h1, h⟩ => by subst e; simp [h.any k]
theorem KV.append {w : Wd} : ∀ {a b : List (Key × D)} {x y : List (Key × Value)}, KV w a x → KV w b y → KV w (a ++ b) (x ++ y)
  | [], _, _, _, h, g => by simp only [KV] at h; subst h; exact g
  | (k, d) :: r, _, _, _, ⟨v, t, e, h1, h⟩, g => by subst e; exact ⟨v, _, rfl, h1, h.append g⟩
theorem KV.put {w : Wd} {k : Key} {d : D} {v : Value} (hv : Rel w d v) {es : List (Key × D)} {kvs : List (Key × Value)} (h : KV w es kvs) : KV w (dput k d es) (stored kvs k v) := by
  have m : ∀ {es : List (Key × D)} {kvs : List (Key × Value)}, KV w es kvs → KV w (es.map (fun p => if p.1 = k then (p.1, d) else p)) (kvs.map (fun p => if p.1 = k then (p.1, v) else p)) := by
    intro es
    induction es with
    | nil => intro kvs h; simp only [KV] at h; subst h; rfl
    | cons p r ih =>
      intro kvs h
      obtain ⟨k', d'⟩ := p
      refine e2a3 h ?_
      try clear h
      intro u t e h1 h
      subst e
      simp only [List.map_cons]
      by_cases q : k' = k
      · rw [if_pos q, if_pos q]; exact ⟨v, _, rfl, hv, ih h⟩
      · rw [if_neg q, if_neg q]; exact ⟨u, _, rfl, h1, ih h⟩
  unfold dput stored
  rw [h.any k]
  split
  · exact m h
  · exact h.append ⟨v, [], rfl, hv, rfl⟩
theorem KV.wo {w : Wd} {k : Key} : ∀ {es : List (Key × D)} {kvs : List (Key × Value)}, KV w es kvs → KV w (dwo k es) (without kvs k)
  | [], _, h => by simp only [KV] at h; subst h; rfl
  | (k', d) :: r, _, ⟨v, t, e, h1, h⟩ => by
    subst e
    have ih := KV.wo (k := k) h
    unfold dwo without at ih ⊢
    rw [List.filter_cons, List.filter_cons]
    by_cases q : k' = k
    · have : decide ((k', d).1 ≠ k) = false := by simp [q]
      rw [if_neg (by simp [q]), if_neg (by simp [q])]; exact ih
    · rw [if_pos (by simp [q]), if_pos (by simp [q])]; exact ⟨v, _, rfl, h1, ih⟩
theorem OAt.dictKV {c : Cx} {w : Wd} {h : Heap} {a : Addr} {es : List (Key × D)} {n : Nat} (x : OAt c w h a (.dict es n)) : ∃ kvs : List (Key × Value), h.DictAt (kk c.prog c.wd) a kvs n ∧ KV w es kvs ∧ (∀ p ∈ es, p.1.ok = true) ∧ es.length ≤ 1000000 := by
  refine e1a3 (OAt.dictAt x) fun kvs h1 h2 h3 => ?_
  refine e1a4 x ?_
  try clear x
  intro ents _ hE _ hl
  exact ⟨kvs, h1, KV.of h2 h3, hE.oks, hl.1⟩
theorem entRel_of {c : Cx} {w : Wd} : ∀ {ents : List DictEntry} {es : List (Key × D)} {kvs : List (Key × Value)}, Pairs (kk c.prog c.wd) ents kvs → (∀ e ∈ ents, ∃ k, (kk c.prog c.wd).is k e.key = true ∧ e.hash = (kk c.prog c.wd).hash k) → KV w es kvs → (∀ p ∈ es, p.1.ok = true) → EntRel c.wd w es ents
  | _, [], _, p, _, h, _ => by simp only [KV] at h; subst h; cases p; rfl
  | _, (k, d) :: r, _, p, hk, ⟨v, t, e, h1, h⟩, ho => by
    subst e
    cases p with
    | cons q1 q2 q3 =>
      rename_i en ens
      refine e1a2 (hk en (.head _)) fun k' z1 z2 => ?_
      have ek : k = k' := (kk c.prog c.wd).inj _ _ _ q1 z1
      subst ek
      refine ⟨en, ens, rfl, q1, ho _ (.head _), z2, by rw [q2]; exact h1, entRel_of q3 (fun e he => hk e (.tail _ he)) h fun p hp => ho p (.tail _ hp)⟩
theorem oat_dict {c : Cx} {w : Wd} {h : Heap} {a : Addr} {es : List (Key × D)} {kvs : List (Key × Value)} (x : h.DictOf (kk c.prog c.wd) a kvs) (hk : KV w es kvs) (ho : ∀ p ∈ es, p.1.ok = true) (hl : es.length ≤ 1000000) (hsm : (a == sysModules) = false) : ∃ n, OAt c w h a (.dict es n) := by
  refine e3a6 x ?_
  try clear x
  intro o ents ep h1 zq46 h2 h3 h4 h5
  obtain ⟨c1, c2, c3⟩ := zq46
  obtain ⟨oc, od, odt, osl⟩ := o
  dsimp only at c1 c2 c3 h2
  subst c1 c2 c3 h2
  exact ⟨ep, ents, h1, entRel_of h4 (fun e he => h3 e (by simpa using he)) hk ho, by rw [← hk.keys]; exact h5, hl, hsm⟩

section
variable {c : Cx} {A : Around} {env : Env} {w : Wd} {F : Frm} {G : Led} {E : LX} {Q : D → Frm → Led → Prop}
theorem dput_length (k : Key) (d : D) (es : List (Key × D)) : (dput k d es).length ≤ es.length + 1 := by unfold dput; split <;> simp
noncomputable def SetI (c : Cx) (A : Around) (env : Env) (F : Frm) (G : Led) (d i e : D) (Q : Frm → Led → Prop) (E : LX) : Prop := ∀ w v u x, Rel w d v → Rel w i u → Rel w e x → AT c A env Rel1 w F G (setItem v u x) (fun (_ : Unit) => Q) E
noncomputable def GetI (c : Cx) (A : Around) (env : Env) (F : Frm) (G : Led) (d i : D) (Q : D → Frm → Led → Prop) (E : LX) : Prop :=
  ∀ w v u, Rel w d v → Rel w i u → (∀ l w1 R s, Sub w w1 → Sim c l w1 (F.led ++ G ++ R) s → ∀ (Q : Bool → Shared → Prop) (E : Value → Shared → Prop), Q false s → wpAny (model c.prog c.wd) A (getitemInPython v) Q E s) ∧ AT c A env Rel w F G (getItem v u) Q E
theorem gip_builtin {s : Shared} {v : Value} {T id : String} {Q : Bool → Shared → Prop} {E : Value → Shared → Prop} (hT : s.TypeIs v T) (hl : typeLookup (.type T) "__getitem__" = pure (some (.builtin id))) (hq : Q false s) : wpAny (model c.prog c.wd) A (getitemInPython v) Q E s := by
  unfold getitemInPython
  exact wpAny_bind (wpAny_specialOf hT hl (wpAny_pure hq))
theorem seti_dict {a : Addr} {k : Key} {e : D} {es : List (Key × D)} {n : Nat} {G1 G2 : Led} {Q : Frm → Led → Prop} (hl : es.length < 1000000) (hq : ∀ n', Q F (G1 ++ (a, .dict (dput k e es) n') :: G2)) : SetI c A env F (G1 ++ (a, .dict es n) :: G2) (.ref a) k.d e Q E :=
  fun w v u x hv hu hx f l hl' w1 R s hs S => by
    simp only [Rel] at hv; subst hv
    refine e0a2 (Key.is_of_rel hu) fun ki ko => ?_
    refine e1a4 (OAt.dictKV (S.get (a := a) (o := .dict es n) (by simp))) fun kvs h1 h2 h3 h4 => ?_
    refine wpAny_setItem_pairs (knd := kk c.prog c.wd) ki h1.dictOf (fun h' m hsb => ?_) (by have := congrArg List.length h2.keys; simp at this; rw [sizeLine_eq]; walk_at "q")
    obtain ⟨n', o'⟩ := oat_dict (es := dput k e es) m (h2.put (hx.mono hs)) (fun p hp => by
      unfold dput at hp
      split at hp
      · refine e1a2 (List.mem_map.mp hp) fun q hq zq47 => ?_
        subst zq47
        split <;> exact h3 q hq
      · rcases List.mem_append.mp hp with q | q
        · exact h3 p q
        · rw [List.mem_singleton] at q; subst q; exact ko) (by have := dput_length k e es; walk_at "q") (OAt.sm (S.get (a := a) (o := .dict es n) (by simp)))
    refine ⟨w1, (), F.led ++ (G1 ++ (a, .dict (dput k e es) n') :: G2), .refl _, rfl, ?_, F, _, f, rfl, hq n'⟩
    have S' := Sim.put (A := F.led ++ G1) (B := G2 ++ R) (a := a) (o := .dict es n) (o' := .dict (dput k e es) n') (tk := s.toks + 1) (by simpa using S) hsb o' rfl
    simpa using S'
theorem mapOf_of {h : Heap} {a : Addr} {kvs : List (Key × Value)} (x : h.DictOf (kk c.prog c.wd) a kvs) : h.MapOf (kk c.prog c.wd) a (fun k => valueAt kvs k) := by
  refine e3a6 x ?_
  try clear x
  intro o es ep h1 h2 h3 h4 h5 h6
  exact ⟨o, es, ep, h1, h2, h3, h4, fun k => by have := h5.find k; rw [Array.find?_toList] at this; exact this⟩
theorem geti_dict {a : Addr} {k : Key} {e : D} {es : List (Key × D)} {n : Nat} (ha : (a, O.dict es n) ∈ G) (hg : dget k es = some e) (hq : Q e F G) : GetI c A env F G (.ref a) k.d Q E := fun w v u hv hu => by
  simp only [Rel] at hv; subst hv
  refine e0a2 (Key.is_of_rel hu) fun ki ko => ?_
  refine ⟨fun l w1 R s hs S Q E q => ?_, fun f l hl' w1 R s hs S => ?_⟩
  · refine e1a2 (OAt.dictKV (S.get (List.mem_append_left R (List.mem_append_right F.led ha)))) fun kvs h1 _ => ?_
    exact gip_builtin (mapOf_of h1.dictOf).typeIs slot_dict_getitem.lookup q
  · refine e1a4 (OAt.dictKV (S.get (List.mem_append_left R (List.mem_append_right F.led ha)))) fun kvs h1 h2 h3 h4 => ?_
    have z := h2.get k
    rw [hg] at z
    refine e1a2 z ?_
    try clear z
    intro u' z1 z2
    exact wpAny_getItem_of ki (mapOf_of h1.dictOf) z1 ⟨w1, e, _, .refl _, z2, S.toks _, F, G, f, rfl, hq⟩
theorem op_inDict {a : Addr} {k : Key} {es : List (Key × D)} {n : Nat} (ha : (a, O.dict es n) ∈ G) (hq : Q (.bool (dget k es).isSome) F G) : Op2 c A env Rel F G (compareOp .In) k.d (.ref a) Q E := fun w u v hu hv f l hl' w1 R s hs S => by
  simp only [Rel] at hv; subst hv
  refine e0a2 (Key.is_of_rel hu) fun ki ko => ?_
  refine e1a4 (OAt.dictKV (S.get (List.mem_append_left R (List.mem_append_right F.led ha)))) fun kvs h1 h2 h3 h4 => ?_
  have z := h2.get k
  refine wpAny_in_of ki (OAt.sm (S.get (List.mem_append_left R (List.mem_append_right F.led ha)))) (mapOf_of h1.dictOf) ⟨w1, .bool (dget k es).isSome, _, .refl _, ?_, S.toks _, F, G, f, rfl, hq⟩
  simp only [Rel]
  cases e : dget k es with
  | none => rw [e] at z; rw [show valueAt kvs k = none from z]; rfl
  | some d => rw [e] at z; obtain ⟨v, z, _⟩ := z; rw [z]; rfl
theorem meth_dict {a : Addr} {es : List (Key × D)} {n : Nat} {name : Str} {id : String} {Q : D → List D → Frm → Led → Prop} (slot : Slot "dict" name id) (hty : typeOf (.builtin id) = pure (.type "method_descriptor")) (ha : (a, O.dict es n) ∈ G) (hq : Q (.bi id) [.ref a] F G) : Meth c A env F G (.ref a) name Q E :=
  fun w v pl hv f l hl w1 R s hs S => by
    simp only [Rel] at hv; subst hv
    refine e1a2 (S.get (List.mem_append_left R (List.mem_append_right F.led ha))) fun ents h1 _ => ?_
    exact getMethod_builtin ⟨_, h1, rfl⟩ PySem.F.plainAttrs_dict slot hty (fun b e => by cases e; exact ⟨_, h1, rfl⟩) ⟨w1, (D.bi id, [D.ref a]), _, .refl _, ⟨by simp [Rel], .one (by simp [Rel])⟩, S, F, G, f, rfl, hq⟩
theorem callk_bi {id : String} {ds : List D} (h : CallD c A env F G (.bi id) ds Q E) : CallK c A env F G (.bi id) ds Q E := ⟨kok_bi, h⟩
theorem callk_typ {id : String} {ds : List D} (h : CallD c A env F G (.typ id) ds Q E) : CallK c A env F G (.typ id) ds Q E := ⟨kok_typ, h⟩
theorem call_dictget {a : Addr} {k : Key} {es : List (Key × D)} {n : Nat} (ha : (a, O.dict es n) ∈ G) (hq : Q ((dget k es).getD .none) F G) : CallD c A env F G (.bi "dict.get") [.ref a, k.d] Q E := fun w v vs hv hvs f l hl w1 R s hs S => by
  simp only [Rel] at hv; subst hv
  simp only [Rels] at hvs
  refine e2a3 hvs ?_
  try clear hvs
  intro v1 r1 zq48 hv1 zq49
  subst zq48
  obtain ⟨v2, r2, rfl, hv2, rfl⟩ := zq49
  simp only [Rel] at hv1; subst hv1
  refine e0a2 (Key.is_of_rel hv2) fun ki ko => ?_
  refine e1a4 (OAt.dictKV (S.get (List.mem_append_left R (List.mem_append_right F.led ha)))) fun kvs h1 h2 h3 h4 => ?_
  have z := h2.get k
  have hm := mapOf_of h1.dictOf
  refine call_meetsIn PySem.F.slot_dict_get hm.typeIs PySem.F.entry_dict_get (PySem.F.args_dict_get_2 _ _) (meets_dict_get (kk c.prog c.wd) a ki (OAt.sm (S.get (List.mem_append_left R (List.mem_append_right F.led ha))))) ⟨_, hm, ?_⟩
  refine ⟨w1, (dget k es).getD .none, _, .refl _, ?_, S.toks _, F, G, f, rfl, hq⟩
  cases e : dget k es with
  | none => rw [e] at z; rw [show valueAt kvs k = none from z]; simp [Rel]
  | some d => rw [e] at z; obtain ⟨v, z, zr⟩ := z; rw [z]; exact zr
theorem del_dict {a : Addr} {k : Key} {es : List (Key × D)} {n : Nat} {G1 G2 : Led} {w : Wd} {u : Value} {Q : Unit → Frm → Led → Prop} (hu : Rel w k.d u) (hk : (dget k es).isSome = true) (hq : ∀ n', Q () F (G1 ++ (a, .dict (dwo k es) n') :: G2)) :
    AT c A env Rel1 w F (G1 ++ (a, .dict es n) :: G2) (delItem (.ref a) u) Q E := fun f l hl w1 R s hs S => by
  refine e0a2 (Key.is_of_rel hu) fun ki ko => ?_
  refine e1a4 (OAt.dictKV (S.get (a := a) (o := .dict es n) (by simp))) fun kvs h1 h2 h3 h4 => ?_
  have z := h2.get k
  have hm := mapOf_of h1.dictOf
  have hlen : kvs.length = es.length := by have := congrArg List.length h2.keys; simpa using this
  refine wpAny_delItem_slot hm.typeIs (by decide) PySem.F.slot_dict_delitem (call_meetsIn PySem.F.slot_dict_delitem hm.typeIs PySem.F.entry_dict_delitem (PySem.F.args_dict_delitem_2 _ _) (meets_dict_delitem_pairs (kk c.prog c.wd) a ki) ⟨kvs, h1.dictOf, by rw [sizeLine_eq]; walk_at "q", ?_, fun h' m hsb => ?_⟩)
  · cases e : dget k es with
    | none => rw [e] at hk; cases hk
    | some d => rw [e] at z; obtain ⟨v, z, _⟩ := z; rw [z]; rfl
  · refine e1a1 (oat_dict (es := dwo k es) m h2.wo (fun p hp => h3 p (List.mem_filter.mp hp).1) (Nat.le_trans (List.length_filter_le _ _) h4) (OAt.sm (S.get (a := a) (o := .dict es n) (by simp)))) fun n' o' => ?_
    refine ⟨w1, (), F.led ++ (G1 ++ (a, .dict (dwo k es) n') :: G2), .refl _, rfl, ?_, F, _, f, rfl, hq n'⟩
    have S' := Sim.put (A := F.led ++ G1) (B := G2 ++ R) (a := a) (o := .dict es n) (o' := .dict (dwo k es) n') (tk := s.toks + 1) (by simpa using S) hsb o' rfl
    simpa using S'
end
noncomputable def SeqD (c : Cx) (F : Frm) (G : Led) (d : D) (T : String) (xs : List D) : Prop :=
  ∀ l w R s v, Rel w d v → Sim c l w (F.led ++ G ++ R) s → ∃ a vs n, v = .ref a ∧ s.heap.get? a = some (seqO T vs n) ∧ Rels w xs vs.toList
section
variable {c : Cx} {A : Around} {env : Env} {w : Wd} {F : Frm} {G : Led} {E : LX} {Q : D → Frm → Led → Prop}
theorem seq_list {xs : List D} : SeqD c F G (.list xs) "list" xs := fun l w R s v hr S => by
  simp only [Rel] at hr; obtain ⟨a, vs, n, rfl, h1, h2⟩ := hr; exact ⟨a, vs, n, rfl, S.wok _ _ h1, h2⟩
theorem seq_tuple {xs : List D} : SeqD c F G (.tuple xs) "tuple" xs := fun l w R s v hr S => by
  simp only [Rel] at hr; obtain ⟨a, vs, n, rfl, h1, h2⟩ := hr; exact ⟨a, vs, n, rfl, S.wok _ _ h1, h2⟩
theorem seq_mut {a : Addr} {xs : List D} (hm : (a, O.list xs) ∈ G) : SeqD c F G (.ref a) "list" xs := fun l w R s v hr S => by
  simp only [Rel] at hr; subst hr
  refine e2a3 (S.get (List.mem_append_left R (List.mem_append_right F.led hm))) fun vs n h1 h2 h3 => ?_
  exact ⟨a, vs, n, rfl, h1, h2⟩

theorem at_newF {T : String} {ds : List D} {vs : Array Value} {r : D} (hT : T = "list" ∧ r = .list ds ∨ T = "tuple" ∧ r = .tuple ds) (hr : Rels w ds vs.toList) (hl : ds.length ≤ 1000000) (hq : Q r F G) : AT c A env Rel w F G (newObj (.type T) (.seq vs)) Q E := fun f l hl' w1 R s hs S => by
  refine wpAny_newObj_type ?_ (by show vs.size ≤ sizeLine; have := hr.length; simp at this; rw [sizeLine_eq]; walk_at "q")
  refine e0a2 (S.allocF (ob := seqO T vs 0) rfl) fun k1 k2 => ?_
  refine ⟨_, r, _, k1, ?_, k2, F, G, f, rfl, hq⟩
  rcases hT with ⟨rfl, rfl⟩ | ⟨rfl, rfl⟩
  · simp only [Rel]; exact ⟨_, vs, 0, rfl, Wd.add_self _ _ _, (hr.mono hs).mono k1⟩
  · simp only [Rel]; exact ⟨_, vs, 0, rfl, Wd.add_self _ _ _, (hr.mono hs).mono k1⟩
theorem at_newM {ds : List D} {vs : Array Value} (hr : Rels w ds vs.toList) (hl : ds.length ≤ 1000000) (hq : ∀ a, Q (.ref a) F ((a, .list ds) :: G)) : AT c A env Rel w F G (newObj (.type "list") (.seq vs)) Q E := fun f l hl' w1 R s hs S => by
  refine wpAny_newObj_type ?_ (by show vs.size ≤ sizeLine; have := hr.length; simp at this; rw [sizeLine_eq]; walk_at "q")
  have k := S.alloc (ob := seqO "list" vs 0) (o := .list ds) rfl ⟨vs, 0, Heap.get?_push_size _ rfl, hr.mono hs, hl⟩
  refine ⟨w1, .ref s.heap.objs.size, F.led ++ ((s.heap.objs.size, .list ds) :: G), .refl _, by simp [Rel], k.perm ?_, F, _, f, rfl, hq _⟩
  simp only [List.append_assoc, List.cons_append]
  exact List.perm_middle
noncomputable abbrev kList (Q : D → Frm → Led → Prop) (ds : List D) (F : Frm) (G : Led) : Prop := ds.length ≤ 1000000 ∧ Q (.list ds) F G
theorem ae_List {es : List Expr} {pos : Pos} (h : AL c A env F G pos es (kList Q) E) : AE c A env F G (.List es pos) Q E := by
  show AT c A env Rel Wd.nil F G (standAt pos >>= fun _ => spliced (backTo pos (starEach es env)) >>= fun vs => newList vs) Q E
  refine AT.standAt (AT.bind (h.mono (fun ds F1 G1 h1 w1 vs hs hr => ?_) fun _ _ _ _ z => z))
  exact at_newF (.inl ⟨rfl, rfl⟩) (by simpa using hr) h1.1 h1.2
noncomputable abbrev kListM (Q : D → Frm → Led → Prop) (ds : List D) (F : Frm) (G : Led) : Prop := ds.length ≤ 1000000 ∧ ∀ a, Q (.ref a) F ((a, .list ds) :: G)
theorem ae_ListM {es : List Expr} {pos : Pos} (h : AL c A env F G pos es (kListM Q) E) : AE c A env F G (.List es pos) Q E := by
  show AT c A env Rel Wd.nil F G (standAt pos >>= fun _ => spliced (backTo pos (starEach es env)) >>= fun vs => newList vs) Q E
  refine AT.standAt (AT.bind (h.mono (fun ds F1 G1 h1 w1 vs hs hr => ?_) fun _ _ _ _ z => z))
  exact at_newM (by simpa using hr) h1.1 h1.2
noncomputable abbrev kTup (Q : D → Frm → Led → Prop) (ds : List D) (F : Frm) (G : Led) : Prop := ds.length ≤ 1000000 ∧ Q (.tuple ds) F G
theorem ae_Tuple {es : List Expr} {k : Nat} {pos : Pos} (h : AL c A env F G pos es (kTup Q) E) : AE c A env F G (.Tuple es k pos) Q E := by
  show AT c A env Rel Wd.nil F G (standAt pos >>= fun _ => spliced (backTo pos (starEach es env)) >>= fun vs => newTuple vs) Q E
  refine AT.standAt (AT.bind (h.mono (fun ds F1 G1 h1 w1 vs hs hr => ?_) fun _ _ _ _ z => z))
  exact at_newF (.inr ⟨rfl, rfl⟩) (by simpa using hr) h1.1 h1.2
theorem ae_Dict0 {pos : Pos} (hc : c.Ok) (hq : ∀ a, Q (.ref a) F ((a, .dict [] 0) :: G)) : AE c A env F G (.Dict [] [] pos) Q E := fun f l hl' w1 R s hs S => by
  refine wpAny_Dict_empty ?_
  have k := S.alloc (ob := emptyDict) (o := .dict [] 0) rfl ⟨#[], Heap.get?_push_size _ rfl, rfl, by simp, by simp, by
    refine e4a2 hc.g fun mg ob es n e _ => ?_
    have := Heap.lt_size (S.keep _ _ e)
    have h3 : 3 < s.heap.objs.size := this
    exact beq_false_of_ne (fun q => by have q' : s.heap.objs.size = 1 := q; walk_at "q")⟩
  refine ⟨w1, .ref s.heap.objs.size, F.led ++ ((s.heap.objs.size, .dict [] 0) :: G), .refl _, by simp [Rel], k.perm ?_, F, _, f, rfl, hq _⟩
  simp only [List.append_assoc, List.cons_append]
  exact List.perm_middle

theorem AT.letTemp {base : Expr} {o r : Value} {f : Unit → Sem Value} (h : AT c A env Rel w F G (f ()) Q E) : AT c A env Rel w F G (letTemporaryGo base o r >>= f) Q E := fun ft l hl w1 R s hs S =>
  wpAny_bind (wpAny_letTemporaryGo (h ft l hl w1 R s hs S))
noncomputable abbrev kGetI (c : Cx) (A : Around) (env : Env) (d : D) (Q : D → Frm → Led → Prop) (E : LX) (i : D) (F : Frm) (G : Led) : Prop := GetI c A env F G d i Q E
noncomputable abbrev kSub (c : Cx) (A : Around) (env : Env) (slice : Expr) (Q : D → Frm → Led → Prop) (E : LX) (d : D) (F : Frm) (G : Led) : Prop := AE c A env F G slice (kGetI c A env d Q E) E
theorem ae_Sub {value slice : Expr} {pos : Pos} (h : AE c A env F G value (kSub c A env slice Q E) E)
    (hs : ∀ o i, subscripted slice false o i = operate [o, i] (getItem o i) := by intros; with_unfolding_all rfl) : AE c A env F G (.Subscript value slice pos) Q E := by
  show AT c A env Rel Wd.nil F G (eval value env >>= fun o => holding [o] (eval slice env) >>= fun i => standAt pos >>= fun _ => getitemInPython o >>= fun b => subscripted slice b o i >>= fun r => letTemporaryGo value o r >>= fun _ => pure r) Q E
  refine AT.bind (h.mono (fun d F1 G1 h1 w1 o hs1 hr1 => ?_) fun _ _ _ _ z => z)
  refine AT.bind (AT.holding ((AT.up h1 (Sub.nil _)).mono (fun i F2 G2 h2 w2 iv hs2 hr2 => AT.standAt ?_) fun _ _ _ _ z => z))
  refine e0a2 (h2 w2 o iv (hr1.mono hs2) hr2) fun k1 k2 => ?_
  intro f l hl w3 R s hs3 S
  refine wpAny_bind (k1 l w3 R s hs3 S _ _ ?_)
  rw [hs]
  exact AT.bind (AT.operate (k2.mono (fun r F4 G4 h4 w5 rv hs5 hr5 => AT.letTemp (AT.pure hr5 (fun _ s z => z.mono s) h4)) fun _ _ _ _ z => z)) f l hl w3 R s hs3 S
theorem geti_seq {d : D} {T id : String} {xs : List D} {i : Int} {e : D} (hd : SeqD c F G d T xs) (hT : T = "list" ∨ T = "tuple") (j : Nat) (hj : (0 ≤ i ∧ j = i.toNat ∨ i < 0 ∧ 0 ≤ i + xs.length ∧ j = (i + xs.length).toNat)) (hlo : -(2 ^ 63) ≤ i) (hhi : i < 2 ^ 63) (he : xs[j]? = some e) (hq : Q e F G) : GetI c A env F G d (.int i) Q E := fun w v u hv hu => by
  simp only [Rel] at hu; obtain ⟨t, rfl⟩ := hu
  refine ⟨fun l w1 R s hs S Q E q => ?_, fun f l hl w1 R s hs S => ?_⟩
  · refine e3a3 (hd l w1 R s v (hv.mono hs) S) fun a vs n zq50 h1 h2 => ?_
    subst zq50
    rcases hT with rfl | rfl
    · exact gip_builtin ⟨_, h1, rfl⟩ slot_list_getitem.lookup q
    · exact gip_builtin ⟨_, h1, rfl⟩ slot_tuple_getitem.lookup q
  · refine e3a3 (hd l w1 R s v (hv.mono hs) S) fun a vs n zq51 h1 h2 => ?_
    subst zq51
    refine e1a2 (h2.get he) fun y hy hry => ?_
    have hlen : vs.size = xs.length := by simpa using h2.length
    have hjl : j < xs.length := (List.getElem?_eq_some_iff.mp he).1
    have hy' : vs[j]? = some y := by simpa using hy
    have fin : Po c l Rel w1 R (fun b G' => PF env (Q b) G') y s := ⟨w1, e, _, .refl _, hry, S, F, G, f, rfl, hq⟩
    rcases hT with rfl | rfl
    · rcases hj with ⟨h0, rfl⟩ | ⟨h0, h0', rfl⟩
      · exact wpAny_getItem_list ⟨_, h1, rfl, _, rfl⟩ h0 hhi hy' fin
      · exact wpAny_getItem_list_neg ⟨_, h1, rfl, _, rfl⟩ h0 (by walk_at "q") hlo (by rw [hlen]; exact hy') fin
    · refine PyProof.Rows.getItem_tuple (j := j) ⟨_, h1, rfl, _, rfl⟩ hlo hhi ?_ hy' fin
      rw [hlen]
      rcases hj with ⟨h0, rfl⟩ | ⟨h0, h0', rfl⟩
      · exact PySem.seqIndex_of h0 (by walk_at "q")
      · exact PySem.seqIndex_neg h0 (by walk_at "q")

noncomputable def IsPt : D → Option Int → Prop
  | .none, o => o = none
  | .int i, o => o = some i
  | _, _ => False
noncomputable def pick (xs : List D) (lo hi st : Option Int) : List D :=
  (sliceRange (sliceBounds lo hi st xs.length).1 (sliceBounds lo hi st xs.length).2.1 (sliceBounds lo hi st xs.length).2.2).filterMap (xs[·]?)
theorem Rels.filt {vs : Array Value} {xs : List D} (h : Rels w xs vs.toList) : ∀ (js : List Nat), Rels w (js.filterMap (xs[·]?)) (js.filterMap (vs[·]?))
  | [] => .nil
  | j :: r => by
    have ih := Rels.filt h r
    cases e : xs[j]? with
    | none => have := h.getNone e; rw [List.filterMap_cons_none e, List.filterMap_cons_none (by simpa using this)]; exact ih
    | some d => obtain ⟨v, h1, h2⟩ := h.get e; rw [List.filterMap_cons_some e, List.filterMap_cons_some (by simpa using h1)]; exact .cons h2 ih
theorem rel_part {d : D} {v : Value} {o : Option Int} (hr : Rel w d v) (h : IsPt d o) : IsPart v o := by
  cases d <;> simp only [IsPt] at h
  · simp only [Rel] at hr; subst hr h; exact .none
  · simp only [Rel] at hr; obtain ⟨t, rfl⟩ := hr; subst h; exact .int _ _
noncomputable def APart (c : Cx) (A : Around) (env : Env) (F : Frm) (G : Led) (e : Option Expr) (Q : D → Frm → Led → Prop) (E : LX) : Prop := match e with
  | none => Q .none F G
  | some e => AE c A env F G e Q E
theorem apart_some {e : Expr} (h : AE c A env F G e Q E) : APart c A env F G (some e) Q E := h
theorem apart_none (h : Q .none F G) : APart c A env F G none Q E := h
theorem APart.at {e : Option Expr} (h : APart c A env F G e Q E) : AT c A env Rel w F G (valueOrNone (evalOpt e env)) Q E := by
  cases e with
  | none => exact AT.pure (b := D.none) (by simp [Rel]) (fun _ s z => z.mono s) h
  | some e => exact AT.up h (Sub.nil _)
noncomputable def SlR (w : Wd) (x : D × D × D) (v : Value) : Prop := ∃ b vl vu vs, v = .ref b ∧ Rel w x.1 vl ∧ Rel w x.2.1 vu ∧ Rel w x.2.2 vs ∧ w b = some { cls := .type "slice", data := .fields #[vl, vu, vs] }
inductive kSl4 (c : Cx) (d lo hi : D) (Q : D → Frm → Led → Prop) (st : D) (F : Frm) (G : Led) : Prop
  | mk (xs : List D) (a b k : Option Int) (h1 : SeqD c F G d "list" xs) (h2 : xs.length ≤ 1000000) (h3 : IsPt lo a) (h4 : IsPt hi b) (h5 : IsPt st k) (h6 : k ≠ some 0) (h7 : Q (.list (pick xs a b k)) F G)
noncomputable abbrev kSl3 (c : Cx) (A : Around) (env : Env) (step : Option Expr) (d lo : D) (Q : D → Frm → Led → Prop) (E : LX) (hi : D) (F : Frm) (G : Led) : Prop := APart c A env F G step (kSl4 c d lo hi Q) E
noncomputable abbrev kSl2 (c : Cx) (A : Around) (env : Env) (upper step : Option Expr) (d : D) (Q : D → Frm → Led → Prop) (E : LX) (lo : D) (F : Frm) (G : Led) : Prop := APart c A env F G upper (kSl3 c A env step d lo Q E) E
noncomputable abbrev kSl1 (c : Cx) (A : Around) (env : Env) (lower upper step : Option Expr) (Q : D → Frm → Led → Prop) (E : LX) (d : D) (F : Frm) (G : Led) : Prop := APart c A env F G lower (kSl2 c A env upper step d Q E) E
theorem ae_Slice {value : Expr} {lower upper step : Option Expr} {p pos : Pos} (hst : ∀ o i, subscripted (.Slice lower upper step p) false o i = operate [o, i] (getItem o i) ∨ subscripted (.Slice lower upper step p) false o i = operate [i, o] (getItem o i))
    (h : AE c A env F G value (kSl1 c A env lower upper step Q E) E) : AE c A env F G (.Subscript value (.Slice lower upper step p) pos) Q E := by
  show AT c A env Rel Wd.nil F G (eval value env >>= fun o => holding [o] (valueOrNone (evalOpt lower env) >>= fun l => holding [l] (valueOrNone (evalOpt upper env)) >>= fun u => holding [l, u] (valueOrNone (evalOpt step env)) >>= fun s => newFields "slice" [l, u, s]) >>= fun i => standAt pos >>= fun _ => getitemInPython o >>= fun b => subscripted (.Slice lower upper step p) b o i >>= fun r => letTemporaryGo value o r >>= fun _ => pure r) Q E
  refine AT.bind (h.mono (fun d F1 G1 h1 w1 o hs1 hr1 => ?_) fun _ _ _ _ z => z)
  refine AT.bind (rel' := SlR) (AT.holding ?_)
  refine AT.bind ((APart.at h1).mono (fun lo F2 G2 h2 w2 lv hs2 hr2 => ?_) fun _ _ _ _ z => z)
  refine AT.bind (AT.holding ((APart.at h2).mono (fun hi F3 G3 h3 w3 hv hs3 hr3 => ?_) fun _ _ _ _ z => z))
  refine AT.bind (AT.holding ((APart.at h3).mono (fun st F4 G4 h4 w4 sv hs4 hr4 => ?_) fun _ _ _ _ z => z))
  obtain ⟨xs, a, b, k, hx, hlen, pa, pb, pk, k0, hq⟩ := h4
  intro f l hl w5 R s hs5 S
  refine wpAny_newObj_type ?_
  refine e0a2 (S.allocF (ob := { cls := .type "slice", data := .fields #[lv, hv, sv] }) rfl) fun k1 k2 => ?_
  refine ⟨_, (lo, hi, st), _, k1, ⟨_, lv, hv, sv, rfl, ((hr2.mono (hs3.trans hs4)).mono hs5).mono k1, ((hr3.mono hs4).mono hs5).mono k1, (hr4.mono hs5).mono k1, Wd.add_self _ _ _⟩, k2, F4, G4, f, rfl, ?_⟩
  intro w6 v hs6 zr3
  refine e4a5 zr3 ?_
  try clear zr3
  intro bb vl vu vs zq52 r1 r2 r3 r4
  subst zq52
  refine AT.standAt fun f l hl w7 R s hs7 S => ?_
  refine e3a3 (hx l w7 R s o (((hr1.mono hs6)).mono hs7) S) fun oa ovs n zq53 o1 o2 => ?_
  subst zq53
  refine wpAny_bind (gip_builtin ⟨_, o1, rfl⟩ slot_list_getitem.lookup ?_)
  have core : AT c A env Rel w7 F4 G4 (getItem (.ref oa) (.ref bb)) Q E := fun f l hl w8 R s hs8 S => by
    refine e3a3 (hx l w8 R s (.ref oa) (((hr1.mono hs6).mono hs7).mono hs8) S) fun oa' ovs n e o1 o2 => ?_
    cases e
    have hz : ovs.size = xs.length := by simpa using o2.length
    refine wpAny_getItem_list_slice (vl := vl) (vu := vu) (vs := vs) ⟨_, o1, rfl, _, rfl⟩ ⟨_, S.wok _ _ (hs8 _ _ (hs7 _ _ r4)), rfl, rfl⟩ (rel_part r1 pa) (rel_part r2 pb) (rel_part r3 pk) k0 ?_ (by rw [sizeLine_eq]; walk_at "q")
    refine e0a2 (S.allocF (ob := seqO "list" (slicePick ovs a b k) 0) rfl) fun j1 j2 => ?_
    refine ⟨_, .list (pick xs a b k), _, j1, ?_, j2, F4, G4, f, rfl, hq⟩
    simp only [Rel]
    refine ⟨_, _, 0, rfl, Wd.add_self _ _ _, ?_⟩
    refine Rels.mono j1 ?_
    have z := Rels.filt o2 (sliceRange (sliceBounds a b k xs.length).1 (sliceBounds a b k xs.length).2.1 (sliceBounds a b k xs.length).2.2)
    unfold pick slicePick
    rw [hz]
    simpa using z
  rcases hst (.ref oa) (.ref bb) with q | q
  all_goals
    rw [q]
    exact AT.bind (AT.operate (core.mono (fun r F4 G4 h4 w5 rv hs5 hr5 => AT.letTemp (AT.pure hr5 (fun _ s z => z.mono s) h4)) fun _ _ _ _ z => z)) f l hl w7 R s (.refl _) S

theorem upd_list {l : List Env} {s : Shared} {A B : Led} {a : Addr} {xs ys : List D} {vs : Array Value} {n tk : Nat} {g : Array Value → Array Value} (S : Sim c l w (A ++ (a, .list xs) :: B) s) (h1 : s.heap.get? a = some (seqO "list" vs n)) (hg : Rels w ys (g vs).toList) (hl : ys.length ≤ 1000000) :
    Sim c l w (A ++ (a, .list ys) :: B) { s with heap := s.heap.update a (Obj.mapSeq g), toks := tk } :=
  S.put (Heap.SameBut.update ..) ⟨g vs, _, Heap.get?_update_self _ h1 rfl, hg, hl⟩ rfl
theorem meth_list {d : D} {xs : List D} {name : Str} {id : String} {Q : D → List D → Frm → Led → Prop} (slot : Slot "list" name id) (hty : typeOf (.builtin id) = pure (.type "method_descriptor")) (hd : SeqD c F G d "list" xs) (hq : Q (.bi id) [d] F G) : Meth c A env F G d name Q E :=
  fun w v pl hv f l hl w1 R s hs S => by
    refine e3a3 (hd l w1 R s v (hv.mono hs) S) fun a vs n zq54 h1 h2 => ?_
    subst zq54
    exact getMethod_builtin ⟨_, h1, rfl⟩ PySem.F.plainAttrs_list slot hty (fun b e => by cases e; exact ⟨_, h1, rfl⟩) ⟨w1, (D.bi id, [d]), _, .refl _, ⟨by simp [Rel], .one (hv.mono hs)⟩, S, F, G, f, rfl, hq⟩
theorem call_append {a : Addr} {xs : List D} {d : D} {G1 G2 : Led} (hl : xs.length < 1000000) (hq : Q .none F (G1 ++ (a, .list (xs ++ [d])) :: G2)) : CallD c A env F (G1 ++ (a, .list xs) :: G2) (.bi "list.append") [.ref a, d] Q E := fun w v vs hv hvs f l hl' w1 R s hs S => by
  simp only [Rel] at hv; subst hv
  simp only [Rels] at hvs
  refine e2a3 hvs ?_
  try clear hvs
  intro v1 r1 zq55 hv1 zq56
  subst zq55
  obtain ⟨v2, r2, rfl, hv2, rfl⟩ := zq56
  simp only [Rel] at hv1; subst hv1
  refine e2a3 (S.get (a := a) (o := .list xs) (by simp)) fun us n h1 h2 h3 => ?_
  have hz : us.size = xs.length := by simpa using h2.length
  refine wpAny_list_append_plain ⟨n, h1⟩ (fun h' hp hsb => ?_) (by rw [sizeLine_eq]; walk_at "q")
  refine e1a1 hp ?_
  try clear hp
  intro n' hp
  refine ⟨w1, .none, F.led ++ (G1 ++ (a, .list (xs ++ [d])) :: G2), .refl _, by simp [Rel], ?_, F, _, f, rfl, hq⟩
  have S' := Sim.put (A := F.led ++ G1) (B := G2 ++ R) (a := a) (o := .list xs) (o' := .list (xs ++ [d])) (tk := s.toks) (by simpa using S) hsb ⟨_, n', hp, by simpa using h2.append (.one (hv2.mono hs)), by simp; walk_at "q"⟩ rfl
  simpa using S'
theorem call_extend {a : Addr} {T : String} {xs ys : List D} {d : D} {G1 G2 : Led} (hT : T = "list" ∨ T = "tuple") (hd : SeqD c F (G1 ++ (a, .list xs) :: G2) d T ys) (hl : xs.length + ys.length ≤ 1000000) (hq : Q .none F (G1 ++ (a, .list (xs ++ ys)) :: G2)) : CallD c A env F (G1 ++ (a, .list xs) :: G2) (.bi "list.extend") [.ref a, d] Q E := fun w v vs hv hvs f l hl' w1 R s hs S => by
  simp only [Rel] at hv; subst hv
  simp only [Rels] at hvs
  refine e2a3 hvs ?_
  try clear hvs
  intro v1 r1 zq57 hv1 zq58
  subst zq57
  obtain ⟨v2, r2, rfl, hv2, rfl⟩ := zq58
  simp only [Rel] at hv1; subst hv1
  refine e2a3 (S.get (a := a) (o := .list xs) (by simp)) fun us n h1 h2 h3 => ?_
  refine e3a3 (hd l w1 R s v2 (hv2.mono hs) S) fun b ws n2 zq59 k1 k2 => ?_
  subst zq59
  have hz : us.size = xs.length := by simpa using h2.length
  have hz2 : ws.size = ys.length := by simpa using k2.length
  have fin : ∀ tk, Po c l Rel w1 R (fun b G' => PF env (Q b) G') Value.none { s with heap := s.heap.update a (Obj.mapSeq fun x => x ++ ws), toks := tk } := fun tk => by
    refine ⟨w1, .none, F.led ++ (G1 ++ (a, .list (xs ++ ys)) :: G2), .refl _, by simp [Rel], ?_, F, _, f, rfl, hq⟩
    have S' := upd_list (A := F.led ++ G1) (B := G2 ++ R) (tk := tk) (g := fun x => x ++ ws) (ys := xs ++ ys) (by simpa using S) h1 (by simpa using h2.append k2) (by simpa using hl)
    simpa using S'
  have hlong : ¬ (!us.isEmpty && Builtin.List.listTooLong (us.size + ws.size)) = true := by
    unfold Builtin.List.listTooLong
    simp only [Bool.and_eq_true, decide_eq_true_eq, not_and]
    intro _; rw [hz, hz2]; first | walk_at "q" | (rw [sizeLine_eq]; walk_at "q")
  rcases hT with rfl | rfl
  · exact call_meets PySem.F.slot_list_extend ⟨_, h1, rfl⟩ PySem.F.entry_list_extend (PySem.F.args_list_extend_2 _ _) (AutoSeq1.list_extend_list_list_0 a us n b ws n2 hlong (by rw [sizeLine_eq]; walk_at "q") (by rw [sizeLine_eq]; walk_at "q")) ⟨h1, k1, fin _⟩
  · exact call_meets PySem.F.slot_list_extend ⟨_, h1, rfl⟩ PySem.F.entry_list_extend (PySem.F.args_list_extend_2 _ _) (AutoSeq1.list_extend_list_tuple_0 a us n b ws n2 hlong (by rw [sizeLine_eq]; walk_at "q") (by rw [sizeLine_eq]; walk_at "q")) ⟨h1, k1, fin _⟩
theorem call_pop {a : Addr} {xs : List D} {d : D} {G1 G2 : Led} (hq : Q d F (G1 ++ (a, .list xs) :: G2)) : CallD c A env F (G1 ++ (a, .list (xs ++ [d])) :: G2) (.bi "list.pop") [.ref a] Q E := fun w v vs hv hvs f l hl' w1 R s hs S => by
  simp only [Rel] at hv; subst hv
  simp only [Rels] at hvs
  refine e2a3 hvs ?_
  try clear hvs
  intro v1 r1 zq60 hv1 zq61
  subst zq60
  subst zq61
  simp only [Rel] at hv1; subst hv1
  refine e2a3 (S.get (a := a) (o := .list (xs ++ [d])) (by simp)) fun us n h1 h2 h3 => ?_
  refine e2a3 h2.split fun ts ss e k1 k2 => ?_
  simp only [Rels] at k2
  refine e2a3 k2 ?_
  try clear k2
  intro y _ zq62 hy zq63
  subst zq62
  subst zq63
  have hz : us.size = xs.length + 1 := by simpa using h2.length
  have e' : us = (ts ++ [y]).toArray := by apply Array.ext'; simpa using e
  refine call_meets PySem.F.slot_list_pop ⟨_, h1, rfl⟩ PySem.F.entry_list_pop (PySem.F.args_list_pop_1 _) (MeetsSeq.list_pop_last a us n y (by rw [e']; simp) (by rw [sizeLine_eq]; simp at h3; walk_at "q")) ⟨h1, w1, d, F.led ++ (G1 ++ (a, .list xs) :: G2), .refl _, hy, ?_, F, _, f, rfl, hq⟩
  have S' := upd_list (A := F.led ++ G1) (B := G2 ++ R) (tk := s.toks) (g := fun x => x.eraseIdxIfInBounds (us.size - 1)) (ys := xs) (by simpa using S) h1 (by
    rw [e']
    have : ((ts ++ [y]).toArray.eraseIdxIfInBounds ((ts ++ [y]).toArray.size - 1)).toList = ts := by
      unfold Array.eraseIdxIfInBounds
      rw [dif_pos (by simp)]
      rw [Array.toList_eraseIdx]
      simp [List.eraseIdx_append_of_length_le]
    rw [this]; exact k1) (by simp at h3; walk_at "q")
  simpa using S'
theorem call_clear {a : Addr} {xs : List D} {G1 G2 : Led} (hq : Q .none F (G1 ++ (a, .list []) :: G2)) : CallD c A env F (G1 ++ (a, .list xs) :: G2) (.bi "list.clear") [.ref a] Q E := fun w v vs hv hvs f l hl' w1 R s hs S => by
  simp only [Rel] at hv; subst hv
  simp only [Rels] at hvs
  refine e2a3 hvs ?_
  try clear hvs
  intro v1 r1 zq64 hv1 zq65
  subst zq64
  subst zq65
  simp only [Rel] at hv1; subst hv1
  refine e2a3 (S.get (a := a) (o := .list xs) (by simp)) fun us n h1 h2 h3 => ?_
  have hz : us.size = xs.length := by simpa using h2.length
  refine call_meets PySem.F.slot_list_clear ⟨_, h1, rfl⟩ PySem.F.entry_list_clear (PySem.F.args_list_clear_1 _) (AutoSeq1.list_clear_list_0 a us n (by rw [sizeLine_eq]; walk_at "q")) ⟨h1, w1, .none, F.led ++ (G1 ++ (a, .list []) :: G2), .refl _, by simp [Rel], ?_, F, _, f, rfl, hq⟩
  have S' := upd_list (A := F.led ++ G1) (B := G2 ++ R) (tk := s.toks) (g := fun _ => #[]) (ys := []) (by simpa using S) h1 .nil (by simp)
  simpa using S'
end
mutual
noncomputable def D.py : D → PyData
  | .bool b => .bool b
  | .int i => .int i
  | .str s => .str s
  | .list xs => .list (pys xs)
  | .tuple xs => .tuple (pys xs)
  | _ => .none
noncomputable def pys : List D → List PyData
  | [] => []
  | d :: ds => d.py :: pys ds
end
mutual
noncomputable def D.data : D → Bool
  | .none => true
  | .bool _ => true
  | .int _ => true
  | .str _ => true
  | .list xs => datas xs
  | .tuple xs => datas xs
  | _ => false
noncomputable def datas : List D → Bool
  | [] => true
  | d :: ds => d.data && datas ds
end
theorem datas_iff {xs : List D} : datas xs = true ↔ ∀ x ∈ xs, x.data = true := by
  induction xs with
  | nil => simp [datas]
  | cons x r ih => simp [datas, ih]
theorem pys_map (xs : List D) : pys xs = xs.map D.py := by
  induction xs with
  | nil => rfl
  | cons x r ih => simp [pys, ih]
mutual
theorem rel_reads {w : Wd} {h : Heap} (hw : ∀ a o, w a = some o → h.get? a = some o) : ∀ {d : D} {v : Value}, Rel w d v → d.data = true → ∃ as, Reads h v d.py as ∧ d.py.canLay0 = true
  | .none, _, e, _ => by simp only [Rel] at e; subst e; exact ⟨[], .none, by simp [D.py, PyData.canLay0]⟩
  | .bool b, _, e, _ => by simp only [Rel] at e; subst e; exact ⟨[], .bool b, by simp [D.py, PyData.canLay0]⟩
  | .int i, _, e, _ => by simp only [Rel] at e; obtain ⟨t, rfl⟩ := e; exact ⟨[], .int i t, by simp [D.py, PyData.canLay0]⟩
  | .str s, _, e, _ => by simp only [Rel] at e; obtain ⟨o, t, rfl⟩ := e; exact ⟨[], .str s t, by simpa [D.py, PyData.canLay0] using o⟩
  | .list ds, _, e, hd => by
    simp only [Rel] at e
    refine e3a3 e ?_
    try clear e
    intro a vs n zq66 h2 h3
    subst zq66
    refine e1a2 (rels_reads hw h3 (by simpa [D.data] using hd)) fun as r c => ?_
    exact ⟨a :: as, .list (hw _ _ h2) rfl rfl r, by simpa [D.py, PyData.canLay0] using c⟩
  | .tuple ds, _, e, hd => by
    simp only [Rel] at e
    refine e3a3 e ?_
    try clear e
    intro a vs n zq67 h2 h3
    subst zq67
    refine e1a2 (rels_reads hw h3 (by simpa [D.data] using hd)) fun as r c => ?_
    exact ⟨as, .tuple (hw _ _ h2) rfl rfl r, by simpa [D.py, PyData.canLay0] using c⟩
  | .typ n, _, _, hd => by simp [D.data] at hd
  | .bi n, _, _, hd => by simp [D.data] at hd
  | .ref n, _, _, hd => by simp [D.data] at hd
  | .range x y z, _, _, hd => by simp [D.data] at hd
theorem rels_reads {w : Wd} {h : Heap} (hw : ∀ a o, w a = some o → h.get? a = some o) : ∀ {ds : List D} {vs : List Value}, Rels w ds vs → datas ds = true → ∃ as, ReadsAll h vs (pys ds) as ∧ PyData.canLayAll0 (pys ds) = true
  | [], _, e, _ => by simp only [Rels] at e; subst e; exact ⟨[], .nil, rfl⟩
  | d :: ds, _, e, hd => by
    simp only [Rels] at e
    refine e2a3 e ?_
    try clear e
    intro v r zq68 h1 h2
    subst zq68
    simp only [datas, Bool.and_eq_true] at hd
    refine e1a2 (rel_reads hw h1 hd.1) fun as r1 c1 => ?_
    refine e1a2 (rels_reads hw h2 hd.2) fun bs r2 c2 => ?_
    exact ⟨as ++ bs, .cons r1 r2, by simp [pys, PyData.canLayAll0, c1, c2]⟩
end
noncomputable def RdD (c : Cx) (F : Frm) (G : Led) (d : D) (p : PyData) : Prop :=
  ∀ l w R s v, Rel w d v → Sim c l w (F.led ++ G ++ R) s → ∃ as, Reads s.heap v p as ∧ p.canLay0 = true
section
variable {c : Cx} {A : Around} {env : Env} {w : Wd} {F : Frm} {G : Led} {E : LX} {Q : D → Frm → Led → Prop}
theorem rd_data {d : D} (h : d.data = true) : RdD c F G d d.py := fun l w R s v hr S => rel_reads S.wok hr h
theorem rd_seq {d : D} {T : String} {xs : List D} {p : PyData} (hs : SeqD c F G d T xs) (hT : T = "list" ∧ p = .list (pys xs) ∨ T = "tuple" ∧ p = .tuple (pys xs)) (h : datas xs = true) : RdD c F G d p := fun l w R s v hr S => by
  refine e3a3 (hs l w R s v hr S) fun a vs n zq69 h1 h2 => ?_
  subst zq69
  refine e1a2 (rels_reads S.wok h2 h) fun as r c => ?_
  rcases hT with ⟨rfl, rfl⟩ | ⟨rfl, rfl⟩
  · exact ⟨_, .list h1 rfl rfl r, by simpa [PyData.canLay0] using c⟩
  · exact ⟨_, .tuple h1 rfl rfl r, by simpa [PyData.canLay0] using c⟩
theorem op_eqD {n : Nat} {d e : D} {p q : PyData} (hR : Rm n A) (hd : RdD c F G d p) (he : RdD c F G e q) (hl : min p.depth q.depth ≤ 90) (hq : Q (.bool (PyData.eqv p q)) F G) : Op2 c A env Rel F G (compareOp .Eq) d e Q E := fun w v u hv hu f l hl' w1 R s hs S => by
  refine e1a2 (hd l w1 R s v (hv.mono hs) S) fun as r1 c1 => ?_
  refine e1a2 (he l w1 R s u (hu.mono hs) S) fun bs r2 c2 => ?_
  exact SeqAt.compareEq_reads r1 r2 c1 c2 (by have := hR.uroom; walk_at "q") ⟨w1, .bool (PyData.eqv p q), _, .refl _, by simp [Rel], S, F, G, f, rfl, hq⟩
theorem op_neD {n : Nat} {d e : D} {p q : PyData} (hR : Rm n A) (hd : RdD c F G d p) (he : RdD c F G e q) (hl : min p.depth q.depth ≤ 90) (hq : Q (.bool (!PyData.eqv p q)) F G) : Op2 c A env Rel F G (compareOp .NotEq) d e Q E := fun w v u hv hu f l hl' w1 R s hs S => by
  refine e1a2 (hd l w1 R s v (hv.mono hs) S) fun as r1 c1 => ?_
  refine e1a2 (he l w1 R s u (hu.mono hs) S) fun bs r2 c2 => ?_
  exact SeqAt.compareNe_reads r1 r2 c1 c2 (by have := hR.uroom; walk_at "q") ⟨w1, .bool (!PyData.eqv p q), _, .refl _, by simp [Rel], S, F, G, f, rfl, hq⟩
theorem op_inD {n : Nat} {d e : D} {T : String} {xs : List D} {p : PyData} (hR : Rm n A) (hd : RdD c F G d p) (hp : p.depth ≤ 90) (he : SeqD c F G e T xs) (hT : T = "list" ∨ T = "tuple") (hx : datas xs = true) (hq : Q (.bool (xs.any fun y => PyData.eqv y.py p)) F G) : Op2 c A env Rel F G (compareOp .In) d e Q E := fun w v u hv hu f l hl' w1 R s hs S => by
  refine e1a2 (hd l w1 R s v (hv.mono hs) S) fun as r1 c1 => ?_
  refine e3a3 (he l w1 R s u (hu.mono hs) S) fun a vs n zq70 h1 h2 => ?_
  subst zq70
  refine e1a2 (rels_reads S.wok h2 hx) fun bs r2 c2 => ?_
  have e1 : (pys xs).any (fun y => PyData.eqv y p) = xs.any fun y => PyData.eqv y.py p := by rw [pys_map, List.any_map]; rfl
  rcases hT with rfl | rfl
  · exact SeqAt.in_list_reads (Reads.list h1 rfl rfl r2) r1 c2 c1 (by have := hR.uroom; walk_at "q") ⟨w1, .bool _, _, .refl _, by simp [Rel], S, F, G, f, rfl, e1 ▸ hq⟩
  · exact SeqAt.in_tuple_reads (Reads.tuple h1 rfl rfl r2) r1 c2 c1 (by have := hR.uroom; walk_at "q") ⟨w1, .bool _, _, .refl _, by simp [Rel], S, F, G, f, rfl, e1 ▸ hq⟩
theorem op_ninD {n : Nat} {d e : D} {T : String} {xs : List D} {p : PyData} (hR : Rm n A) (hd : RdD c F G d p) (hp : p.depth ≤ 90) (he : SeqD c F G e T xs) (hT : T = "list" ∨ T = "tuple") (hx : datas xs = true) (hq : Q (.bool (!xs.any fun y => PyData.eqv y.py p)) F G) : Op2 c A env Rel F G (compareOp .NotIn) d e Q E := fun w v u hv hu f l hl' w1 R s hs S => by
  refine e1a2 (hd l w1 R s v (hv.mono hs) S) fun as r1 c1 => ?_
  refine e3a3 (he l w1 R s u (hu.mono hs) S) fun a vs n zq71 h1 h2 => ?_
  subst zq71
  refine e1a2 (rels_reads S.wok h2 hx) fun bs r2 c2 => ?_
  have e1 : (pys xs).any (fun y => PyData.eqv y p) = xs.any fun y => PyData.eqv y.py p := by rw [pys_map, List.any_map]; rfl
  rcases hT with rfl | rfl
  · exact SeqAt.notIn_list_reads (Reads.list h1 rfl rfl r2) r1 c2 c1 (by have := hR.uroom; walk_at "q") ⟨w1, .bool _, _, .refl _, by simp [Rel], S, F, G, f, rfl, e1 ▸ hq⟩
  · exact SeqAt.notIn_tuple_reads (Reads.tuple h1 rfl rfl r2) r1 c2 c1 (by have := hR.uroom; walk_at "q") ⟨w1, .bool _, _, .refl _, by simp [Rel], S, F, G, f, rfl, e1 ▸ hq⟩

theorem Key.data (k : Key) : k.d.data = true := by cases k <;> rfl
theorem keys_data (ks : List Key) : datas (ks.map Key.d) = true := datas_iff.mpr (by intro x hx; obtain ⟨k, _, rfl⟩ := List.mem_map.mp hx; exact k.data)
theorem Key.depth (k : Key) : k.d.py.depth = 0 := by cases k <;> rfl
theorem Key.eqv (a b : Key) : PyData.eqv a.d.py b.d.py = decide (a = b) := by
  cases a <;> cases b <;> simp [Key.d, D.py, PyData.eqv]
  · rename_i i j; by_cases q : i = j <;> simp [q]
  · rename_i i j; by_cases q : i = j <;> simp [q]
theorem any_keys (k : Key) (ks : List Key) : ((ks.map Key.d).any fun y => PyData.eqv y.py k.d.py) = decide (k ∈ ks) := by
  induction ks with
  | nil => rfl
  | cons x r ih =>
    simp only [List.map_cons, List.any_cons, ih, Key.eqv, List.mem_cons]
    by_cases q : x = k
    · subst q; simp
    · have q' : ¬ k = x := fun z => q z.symm
      simp [q, q']
theorem op_eqK {n : Nat} {a b : Key} (hR : Rm n A) (hq : Q (.bool (decide (a = b))) F G) : Op2 c A env Rel F G (compareOp .Eq) a.d b.d Q E :=
  op_eqD hR (rd_data a.data) (rd_data b.data) (by rw [Key.depth, Key.depth]; simp) (by rw [Key.eqv]; exact hq)
theorem op_inK {n : Nat} {k : Key} {e : D} {T : String} {ks : List Key} (hR : Rm n A) (he : SeqD c F G e T (ks.map Key.d)) (hT : T = "list" ∨ T = "tuple") (hq : Q (.bool (decide (k ∈ ks))) F G) : Op2 c A env Rel F G (compareOp .In) k.d e Q E :=
  op_inD hR (rd_data k.data) (by rw [Key.depth]; simp) he hT (keys_data ks) (by rw [any_keys]; exact hq)
theorem op_ninK {n : Nat} {k : Key} {e : D} {T : String} {ks : List Key} (hR : Rm n A) (he : SeqD c F G e T (ks.map Key.d)) (hT : T = "list" ∨ T = "tuple") (hq : Q (.bool (!decide (k ∈ ks))) F G) : Op2 c A env Rel F G (compareOp .NotIn) k.d e Q E :=
  op_ninD hR (rd_data k.data) (by rw [Key.depth]; simp) he hT (keys_data ks) (by rw [any_keys]; exact hq)
mutual
theorem eqv_refl : ∀ d : D, PyData.eqv d.py d.py = true
  | .none => rfl
  | .bool b => by simp [D.py, PyData.eqv]
  | .int i => by simp [D.py, PyData.eqv]
  | .str s => by simp [D.py, PyData.eqv]
  | .list xs => by simp only [D.py, PyData.eqv]; exact eqvs_refl xs
  | .tuple xs => by simp only [D.py, PyData.eqv]; exact eqvs_refl xs
  | .typ _ => rfl
  | .bi _ => rfl
  | .ref _ => rfl
  | .range _ _ _ => rfl
theorem eqvs_refl : ∀ ds : List D, PyData.eqvAll (pys ds) (pys ds) = true
  | [] => rfl
  | d :: ds => by simp only [pys, PyData.eqvAll, eqv_refl d, eqvs_refl ds]; rfl
end
theorem depthAll_le {k : Nat} {ps : List PyData} (h : ∀ p ∈ ps, p.depth ≤ k) : PyData.depthAll ps ≤ k := by
  induction ps with
  | nil => simp [PyData.depthAll]
  | cons p r ih => simp only [PyData.depthAll]; exact Nat.max_le.mpr ⟨h p (.head _), ih fun q hq => h q (.tail _ hq)⟩
theorem op_neSame {n : Nat} {d : D} (hR : Rm n A) (hd : d.data = true) (hl : d.py.depth ≤ 90) (hq : Q (.bool false) F G) : Op2 c A env Rel F G (compareOp .NotEq) d d Q E :=
  op_neD hR (rd_data hd) (rd_data hd) (by walk_at "q") (by rw [eqv_refl]; exact hq)
theorem op_eqNil {n : Nat} {d : D} {xs : List D} (hR : Rm n A) (hd : SeqD c F G d "list" xs) (hx : datas xs = true) (hq : Q (.bool xs.isEmpty) F G) : Op2 c A env Rel F G (compareOp .Eq) d (.list []) Q E :=
  op_eqD (p := .list (pys xs)) hR (rd_seq hd (.inl ⟨rfl, rfl⟩) hx) (rd_data rfl) (by simp [D.py, pys, PyData.depth, PyData.depthAll]) (by cases xs <;> simpa [D.py, pys, PyData.eqv, PyData.eqvAll] using hq)
theorem op_neNil {n : Nat} {d : D} {xs : List D} (hR : Rm n A) (hd : SeqD c F G d "list" xs) (hx : datas xs = true) (hq : Q (.bool (!xs.isEmpty)) F G) : Op2 c A env Rel F G (compareOp .NotEq) d (.list []) Q E :=
  op_neD (p := .list (pys xs)) hR (rd_seq hd (.inl ⟨rfl, rfl⟩) hx) (rd_data rfl) (by simp [D.py, pys, PyData.depth, PyData.depthAll]) (by cases xs <;> simpa [D.py, pys, PyData.eqv, PyData.eqvAll] using hq)
theorem op_neNilT {n : Nat} {d : D} {xs : List D} (hR : Rm n A) (hd : SeqD c F G d "tuple" xs) (hx : datas xs = true) (hq : Q (.bool (!xs.isEmpty)) F G) : Op2 c A env Rel F G (compareOp .NotEq) d (.tuple []) Q E :=
  op_neD (p := .tuple (pys xs)) hR (rd_seq hd (.inr ⟨rfl, rfl⟩) hx) (rd_data rfl) (by simp [D.py, pys, PyData.depth, PyData.depthAll]) (by cases xs <;> simpa [D.py, pys, PyData.eqv, PyData.eqvAll] using hq)
theorem op_eqS {n : Nat} {x y : Str} (hR : Rm n A) (hq : Q (.bool (x == y)) F G) : Op2 c A env Rel F G (compareOp .Eq) (.str x) (.str y) Q E := op_eqD hR (rd_data rfl) (rd_data rfl) (by simp [D.py, PyData.depth]) (by simpa [D.py, PyData.eqv] using hq)
theorem rel_plainNone {d : D} {v : Value} (h : Rel w d v) (hb : ∀ n, d ≠ .bi n) : PySem.plainIs v .none = true ∧ ((v == Value.none) = true ↔ d = .none) := by
  cases d <;> simp only [Rel] at h
  case bi n => exact absurd rfl (hb n)
  all_goals first | (subst h; simp [PySem.plainIs]) | (obtain ⟨t, rfl⟩ := h; simp [PySem.plainIs]; done) | (obtain ⟨_, t, rfl⟩ := h; simp [PySem.plainIs]; done) | (obtain ⟨a, vs, n, rfl, _⟩ := h; simp [PySem.plainIs]; done) | (obtain ⟨a, vs, n, k, rfl, _⟩ := h; simp [PySem.plainIs]; done)
noncomputable def D.isNone : D → Bool
  | .none => true
  | _ => false
theorem D.isNone_iff {d : D} : d.isNone = true ↔ d = .none := by cases d <;> simp [D.isNone]
theorem op_isNone {d : D} (hb : ∀ n, d ≠ .bi n) (hq : Q (.bool d.isNone) F G) : Op2 c A env Rel F G (compareOp .Is) d .none Q E := fun w v u hv hu f l hl' w1 R s hs S => by
  simp only [Rel] at hu; subst hu
  refine e0a2 (rel_plainNone hv hb) fun p e => ?_
  refine wpAny_is_plain p ⟨w1, .bool d.isNone, _, .refl _, ?_, S, F, G, f, rfl, hq⟩
  simp only [Rel]; congr 1; rw [Bool.eq_iff_iff, e, D.isNone_iff]
theorem op_isNotNone {d : D} (hb : ∀ n, d ≠ .bi n) (hq : Q (.bool (!d.isNone)) F G) : Op2 c A env Rel F G (compareOp .IsNot) d .none Q E := fun w v u hv hu f l hl' w1 R s hs S => by
  simp only [Rel] at hu; subst hu
  refine e0a2 (rel_plainNone hv hb) fun p e => ?_
  refine wpAny_isNot_plain p ⟨w1, .bool (!d.isNone), _, .refl _, ?_, S, F, G, f, rfl, hq⟩
  simp only [Rel]; congr 2; rw [Bool.eq_iff_iff, e, D.isNone_iff]
theorem beq_typ (a b : String) : (Value.type a == Value.type b) = (a == b) := by
  rw [Bool.eq_iff_iff, beq_iff_eq, beq_iff_eq]
  exact ⟨fun h => by cases h; rfl, fun h => by rw [h]⟩
theorem op_isTyp {a b : String} (hq : Q (.bool (a == b)) F G) : Op2 c A env Rel F G (compareOp .Is) (.typ a) (.typ b) Q E := fun w v u hv hu f l hl' w1 R s hs S => by
  simp only [Rel] at hu hv; subst hu hv
  exact wpAny_is_plain rfl ⟨w1, .bool (a == b), _, .refl _, by simp only [Rel]; congr 1; exact (beq_typ a b), S, F, G, f, rfl, hq⟩
theorem op_isNotTyp {a b : String} (hq : Q (.bool (!(a == b))) F G) : Op2 c A env Rel F G (compareOp .IsNot) (.typ a) (.typ b) Q E := fun w v u hv hu f l hl' w1 R s hs S => by
  simp only [Rel] at hu hv; subst hu hv
  exact wpAny_isNot_plain rfl ⟨w1, .bool (!(a == b)), _, .refl _, by simp only [Rel]; congr 2; exact (beq_typ a b), S, F, G, f, rfl, hq⟩

theorem tr_none {Q : Bool → Frm → Led → Prop} (hq : Q false F G) : Tr c A env F G .none Q E := fun w v hr => by
  simp only [Rel] at hr; subst hr
  exact AT.valB (r := false) (fun Q E s h => PyProof.Rows.truthy_none (h s.toks)) hq
theorem tr_seq {d : D} {xs : List D} {T : String} {Q : Bool → Frm → Led → Prop} (hd : SeqD c F G d T xs) (hT : T = "list" ∨ T = "tuple") (hl : xs.length ≤ 1000000) (hq : Q (!xs.isEmpty) F G) : Tr c A env F G d Q E := fun w v hv f l hl' w1 R s hs S => by
  refine e3a3 (hd l w1 R s v (hv.mono hs) S) fun a vs n zq72 h1 h2 => ?_
  subst zq72
  have hz : vs.size = xs.length := by simpa using h2.length
  have he : vs.isEmpty = xs.isEmpty := by cases xs <;> simp [Array.isEmpty, hz]
  have fin : ∀ tk, Po c l Rel1 w1 R (fun b G' => PF env (Q b) G') (!vs.isEmpty) { s with toks := tk } := fun tk => ⟨w1, _, _, .refl _, rfl, S.toks tk, F, G, f, rfl, by rw [he]; exact hq⟩
  rcases hT with rfl | rfl
  · exact wpAny_truthy_list ⟨_, h1, rfl, _, rfl⟩ (by walk_at "q") (fin _)
  · exact PyProof.Rows.truthy_tuple ⟨_, h1, rfl, _, rfl⟩ (by walk_at "q") (fin _)
theorem call_len {d : D} {xs : List D} {T : String} (hd : SeqD c F G d T xs) (hT : T = "list" ∨ T = "tuple") (hl : xs.length ≤ 1000000) (hq : Q (.int xs.length) F G) : CallD c A env F G (.bi "len") [d] Q E := fun w v vs hv hvs f l hl' w1 R s hs S => by
  simp only [Rel] at hv; subst hv
  simp only [Rels] at hvs
  refine e2a3 hvs ?_
  try clear hvs
  intro v1 r1 zq73 hv1 zq74
  subst zq73
  subst zq74
  refine e3a3 (hd l w1 R s v1 (hv1.mono hs) S) fun a vs n zq75 h1 h2 => ?_
  subst zq75
  have hz : vs.size = xs.length := by simpa using h2.length
  have fin : ∀ t tk, Po c l Rel w1 R (fun b G' => PF env (Q b) G') (.int vs.size t) { s with toks := tk } := fun t tk => ⟨w1, .int xs.length, _, .refl _, by simp only [Rel]; exact ⟨t, by rw [hz]⟩, S.toks tk, F, G, f, rfl, hq⟩
  rcases hT with rfl | rfl
  · exact call_len_list ⟨_, h1, rfl, _, rfl⟩ (by walk_at "q") (fin _ _)
  · exact PyProof.Rows.len_tuple ⟨_, h1, rfl, _, rfl⟩ (by walk_at "q") (fin _ _)
end
noncomputable def ExcOk (c : Cx) (C : Addr) (bmB : List Value) (newId : String) : Prop := ∃ x mg, OwnCls x C bmB newId mg c.base

section
variable {c : Cx} {A : Around} {env : Env} {w : Wd} {F : Frm} {G : Led} {E : LX} {Q : Fl → Frm → Led → Prop}
theorem x_made {l : List Env} {s : Shared} {h' : Heap} {e : Addr} {cls : Value} {vs : List Value} {ds : List D} (S : Sim c l w G s) (hv : Rels w ds vs) (hm : Heap.MadeExcOf s.heap h' e cls vs) :
    ∃ w', Sub w w' ∧ XAt l w' G h' e cls ds ∧ Sim c l w' G { s with heap := h' } := by
  refine e1a3 hm.there fun t h1 h2 h3 => ?_
  have S1 := S.more hm.keeps
  have nw : ∀ a, s.heap.get? a = none → w a = none := fun a e => by
    cases q : w a with
    | none => rfl
    | some o => rw [S.wok _ _ q] at e; cases e
  have nG : ∀ a, s.heap.get? a = none → a ∉ G.map (·.1) := fun a e q => by
    refine e1a2 (List.mem_map.mp q) fun p hp zq76 => ?_
    subst zq76
    refine e1a1 ((S.ents p hp).2.there) fun x hx => ?_
    rw [hx] at e; cases e
  refine e0a2 (S1.freeze (a := t) h3 (nw t h2) (nG t h2) (by intro es n q; cases q)) fun k1 k2 => ?_
  have het : e ≠ t := fun q => by subst q; rw [h1] at h3; cases h3
  refine ⟨_, k1, ⟨.fresh, ?_, nG e hm.new, _, _, t, vs.toArray, 0, h1, rfl, rfl, rfl, Wd.add_self _ _ _, ?_, rfl⟩, k2⟩
  · unfold Wd.add; rw [if_neg het]; exact nw e hm.new
  · simpa using hv.mono k1
noncomputable abbrev kRaise (Q : List D → Frm → Led → Prop) (ds : List D) (F : Frm) (G : Led) : Prop := ds.length ≤ 1000 ∧ Q ds F G
theorem as_RaiseT {n : Nat} {x : Str} {np cpos pos : Pos} {cls newId initId : String} {e₀ : Expr} {es : List Expr} (hR : Rm n A) (hx : env.kindOf x = some .globalImplicit) (hb : Blt c x (.typ cls)) (FC : ExcCallFacts cls newId initId) (FR : ExcRaiseFacts cls)
    (h : AL c A env F G cpos (e₀ :: es) (kRaise (E (.type cls))) E) (hd : (x == ("__debug__" : Str)) = false := by with_unfolding_all rfl)
    (he : starEach (e₀ :: es) env = (false, eval e₀ env) :: starEach es env := by with_unfolding_all rfl) (hp : (backTo cpos (starEach es env)).any (·.1) = false := by with_unfolding_all rfl) : AS1 c A env F G (.Raise (some (.Call (.Name x np) (e₀ :: es) [] cpos)) none pos) Q E := fun f l hl w1 R s hs S => by
  refine e3a5 hb ?_
  try clear hb
  intro mg mb v h1 h2 h3 h4 h5
  simp only [Rel] at h5; subst h5
  refine wpAny_Raise_call FC FR hR.handled (by rw [he]; show (false || (backTo cpos (starEach es env)).any (·.1)) = false; rw [hp]; rfl) ?_
  refine Name_function_global f.kind hx (loadGlobal_builtin (f.gl ▸ h1.keeps S.keep) h2 (f.bi ▸ h3.keeps S.keep) h4 ⟨rfl, ?_⟩) hd
  have z := h f l hl w1 R s hs S
  rw [he] at z ⊢
  refine Calls.evalArgs_plain (wpAny_mono z (fun vs s2 ⟨w2, ds, G', k1, k2, k3, F1, G1, k4, k5, k6, k7⟩ => ⟨rfl, ?_, fun h' e hm => ?_⟩) fun _ _ y => y)
  · have := k2.length; rw [sizeLine_eq]; show vs.length ≤ _; walk_at "o"
  · subst k5
    refine e1a3 (x_made k3 k2 hm.of) fun w3 j1 j2 j3 => ?_
    exact ⟨w3, e, .type cls, ds, _, k1.trans j1, rfl, j2, j3, F1, G1, k4, rfl, k7⟩
theorem as_RaiseO {n : Nat} {x : Str} {np cpos pos : Pos} {C : Addr} {B newId initId : String} {bm : List Value} {e₀ : Expr} {es : List Expr} (hR : Rm n A) (hx : env.kindOf x = some .globalImplicit) (hb : Glob c x (.ref C)) (O : ExcOk c C bm newId) (FB : ExcBaseFacts B newId initId bm)
    (h : AL c A env F G cpos (e₀ :: es) (kRaise (E (.ref C))) E) (hd : (x == ("__debug__" : Str)) = false := by with_unfolding_all rfl)
    (he : starEach (e₀ :: es) env = (false, eval e₀ env) :: starEach es env := by with_unfolding_all rfl) (hp : (backTo cpos (starEach es env)).any (·.1) = false := by with_unfolding_all rfl) : AS1 c A env F G (.Raise (some (.Call (.Name x np) (e₀ :: es) [] cpos)) none pos) Q E := fun f l hl w1 R s hs S => by
  refine e2a3 hb ?_
  try clear hb
  intro mg v h1 h2 h3
  simp only [Rel] at h3; subst h3
  refine e2a1 O ?_
  try clear O
  intro x' mg' O
  obtain ⟨tl, N, nm, q, bs, hdct, sn, sub, ab, col, dd, k0, k1, k2, k3, k5, mN, hC, hN, hni, T⟩ := O.obj
  refine wpAny_Raise_call_subT (C := C) (nm := nm) (q := q) (N := N) (bs := bs) (bm := tl) (hdct := hdct) (sn := sn) (sub := sub) (ab := ab) (col := col) (dd := dd) (k0 := k0) (k1 := k1) (k2 := k2) (k3 := k3) (k5 := k5)
    FB (mN := mN) (T.hasType FB.hasBase) hR.handled (by rw [he]; show (false || (backTo cpos (starEach es env)).any (·.1)) = false; rw [hp]; rfl) hni ?_
  refine Name_function_global f.kind hx (loadGlobal_global (f.gl ▸ h1.keeps S.keep) h2 ⟨rfl, ?_⟩) hd
  have z := h f l hl w1 R s hs S
  rw [he] at z ⊢
  refine Calls.evalArgs_plain (wpAny_mono z (fun vs s2 ⟨w2, ds, G', k1, k2, k3, F1, G1, k4, k5, k6, k7⟩ => ⟨rfl, ?_, k3.keep _ _ hC, hN.keeps k3.keep, T.keeps k3.keep, fun h' e hm => ?_⟩) fun _ _ y => y)
  · have := k2.length; rw [sizeLine_eq]; show vs.length ≤ _; walk_at "o"
  · subst k5
    refine e1a3 (x_made k3 k2 hm) fun w3 j1 j2 j3 => ?_
    exact ⟨w3, e, .ref C, ds, _, k1.trans j1, rfl, j2, j3, F1, G1, k4, rfl, k7⟩

noncomputable def AH (c : Cx) (A : Around) (env : Env) (F : Frm) (G : Led) (hs : List ExceptHandler) (cls : Value) (args : List D) (Q : Fl → Frm → Led → Prop) (E : LX) : Prop :=
  Fit env F → ∀ l, A.frames = some l → ∀ (w : Wd) (R : Led) (s : Shared) (x : Addr), Sim c l w (F.led ++ G ++ R) s → XAtM .fly l w (F.led ++ G ++ R) s.heap x cls args →
    wpAny (model c.prog c.wd) A (handleBy (.ref x) env hs) (fun fl s' => Po c l FRel w R (fun b G' => PF env (Q b) G') fl s') (EQ c env l R w E) s
noncomputable abbrev kTry (c : Cx) (A : Around) (env : Env) (hs : List ExceptHandler) (Q : Fl → Frm → Led → Prop) (E : LX) (cls : Value) (args : List D) (F : Frm) (G : Led) : Prop := AH c A env F G hs cls args Q E
theorem as_Try {body : List Stmt} {h₀ : ExceptHandler} {hs : List ExceptHandler} {pos : Pos} (hA : FitA A env) (h : AS c A env F G body Q (kTry c A env (h₀ :: hs) Q E)) : AS1 c A env F G (.Try body (h₀ :: hs) [] [] pos) Q E := fun f l hl w1 R s hs' S => by
  refine e1a1 hA ?_
  try clear hA
  intro r hr
  rw [hr] at hl; cases hl
  refine wpAny_Try_except (wpAny_mono (h f _ hr w1 R s hs' S) (fun fl s1 z => ?_) fun e s1 ⟨w2, x, cls, args, G', k1, k2, ⟨m, k3⟩, k4, F1, G1, k5, k6, k7⟩ => ?_)
  · cases fl with
    | next => exact wpAny_pure z
    | brk => exact z
    | cont => exact z
    | ret v => exact z
  · subst k2 k6
    refine x_note k4 hr k3 fun h2' S2 X2 => ?_
    refine x_flight (l' := env :: r) (m' := .fly) S2 (by intro q; cases q) (.inl ⟨rfl, rfl⟩) X2 fun h3' S3 X3 => ?_
    refine wpAny_mono (k7 k5 _ hr w2 R _ x S3 X3) (fun fl s2 z => Po.up z k1) fun e s2 z => z.up k1
theorem Sim.adopt {l : List Env} {s : Shared} {x : Addr} {cls : Value} {args : List D} {m : XM} (S : Sim c l w G s) (X : XAtM m l w G s.heap x cls args) : Sim c l w ((x, .exc cls args) :: G) s := by
  refine e0a3 X ?_
  try clear X
  intro x1 x2 zq77
  obtain ⟨ob, vs, t, us, n, x3, x4, x5, x6, x7, x8, x9⟩ := zq77
  refine ⟨S.wok, S.wbase, ?_, fun p hp => ?_, fun en he => ?_, S.gens, S.os⟩
  · rw [List.map_cons, List.nodup_cons]; exact ⟨x2, S.nd⟩
  · rcases List.mem_cons.mp hp with rfl | q
    · exact ⟨x1, ob, vs, t, x3, x4, x5, x6, us, n, x7, x8⟩
    · exact S.ents p q
  · refine e0a2 (S.frs en he) fun k zq78 => ?_
    obtain ⟨L, h1, h2, ⟨ob', es, n', h3, h4⟩, h5⟩ := zq78
    refine ⟨k, L, h1, h2, ⟨ob', es, n', h3, h4⟩, fun o ho => ?_⟩
    rcases List.mem_cons.mp ho with q | q
    · cases q; rw [x3] at h3; cases h3; rw [x5] at h4; cases h4
    · exact h5 o q
noncomputable def Match (c : Cx) (A : Around) (env : Env) (t : Expr) (cls : Value) (b : Bool) : Prop :=
  ∀ F l w G m args s x (Q : Bool → Shared → Prop) (E : Value → Shared → Prop), Fit env F → Sim c l w G s → XAtM m l w G s.heap x cls args → Q b s →
    wpAny (model c.prog c.wd) (A.mark (some (.ref x))) (eval t env) (fun cv s1 => wpAny (model c.prog c.wd) (A.mark (some (.ref x))) (excMatches (.ref x) cv) Q E s1) E s
theorem match_type {x : Str} {np : Pos} {X T : String} {b : Bool} (hx : env.kindOf x = some .globalImplicit) (hb : Blt c x (.typ T))
    (hexc : isSubtype (.type T) (.type "BaseException") = pure true) (hnt : isSubtype (.type ((Manifest.find? T).elim "type" fun x => x.metatype)) (.type "tuple") = pure false) (hsub : isSubtype (.type X) (.type T) = pure b) (hd : (x == ("__debug__" : Str)) = false := by with_unfolding_all rfl) : Match c A env (.Name x np) (.type X) b :=
  fun F l w G m args s e Q E f S Xa hq => by
    refine e3a5 hb ?_
    try clear hb
    intro mg mb v h1 h2 h3 h4 h5
    simp only [Rel] at h5; subst h5
    refine e0a3 Xa ?_
    try clear Xa
    intro x1 x2 zq79
    obtain ⟨ob, vs, t, us, n, x3, x4, x5, x6, x7, x8, x9⟩ := zq79
    exact Name_function_global f.kind hx (loadGlobal_builtin (f.gl ▸ h1.keeps S.keep) h2 (f.bi ▸ h3.keeps S.keep) h4 (wpAny_excMatches_type ⟨ob, x3, x4⟩ hexc hnt hsub hq)) hd
theorem match_own {x : Str} {np : Pos} {C : Addr} {bm : List Value} {newId : String} (hx : env.kindOf x = some .globalImplicit) (hb : Glob c x (.ref C)) (O : ExcOk c C bm newId) (hbase : bm.contains (.type "BaseException") = true) (hd : (x == ("__debug__" : Str)) = false := by with_unfolding_all rfl) : Match c A env (.Name x np) (.ref C) true :=
  fun F l w G m args s e Q E f S Xa hq => by
    refine e2a3 hb ?_
    try clear hb
    intro mg v h1 h2 h3
    simp only [Rel] at h3; subst h3
    refine e0a3 Xa ?_
    try clear Xa
    intro x1 x2 zq80
    obtain ⟨ob, vs, t, us, n, x3, x4, x5, x6, x7, x8, x9⟩ := zq80
    refine e2a1 O ?_
    try clear O
    intro x' mg' O
    obtain ⟨tl, N, nm, q, bs, hdct, sn, sub, ab, col, dd, k0, k1, k2, k3, k5, mN, hC, hN, hni, T⟩ := O.obj
    refine Name_function_global f.kind hx (loadGlobal_global (f.gl ▸ h1.keeps S.keep) h2 ?_) hd
    obtain ⟨hh, g, d, tk, os⟩ := s
    exact wpAny_excMatches_sub_self (S.keep _ _ hC) x3 x4 (T.hasType hbase) hq
theorem ah_miss {t : Expr} {nm : Option Str} {body : List Stmt} {pos : Pos} {rest : List ExceptHandler} {cls : Value} {args : List D} (hm : Match c A env t cls false) (h : AH c A env F G rest cls args Q E) : AH c A env F G (.ExceptHandler (some t) nm body pos :: rest) cls args Q E := fun f l hl w R s x S X => by
  refine wpAny_handleBy_cons (codeAny_handlers_test ?_) (by intro q; cases q)
  exact hm F l w _ _ args s x _ _ f S X (h f l hl w R s x S X)
theorem ah_hit {t : Expr} {b₀ : Stmt} {body : List Stmt} {pos : Pos} {rest : List ExceptHandler} {cls : Value} {args : List D} (hm : Match c A env t cls true)
    (h : ∀ x, AS c (A.mark (some (.ref x))) env F G (b₀ :: body) Q (fun _ _ _ _ => False)) : AH c A env F G (.ExceptHandler (some t) none (b₀ :: body) pos :: rest) cls args Q E := fun f l hl w R s x S X => by
  refine wpAny_handleBy_cons (codeAny_handlers_test ?_) (by intro q; cases q)
  refine hm F l w _ _ args s x _ _ f S X ?_
  refine codeAny_handlers_suite ?_
  refine x_flight (l' := l) (m' := .fly) S (by intro q; cases q) (.inl ⟨rfl, rfl⟩) X fun h3' S3 X3 => ?_
  exact wpAny_mono (h x f l hl w R _ (Sub.nil _) S3) (fun fl s2 z => z) fun e s2 ⟨w3, y, cl, ar, G3, j1, j2, j3, j4, F4, G4, j5, j6, j7⟩ => j7.elim
noncomputable def Frm.wo (F : Frm) (n : Str) : Frm := { F with loc := F.loc.filter fun p => !(p.1 == n) }
theorem lookup_wo {n x : Str} {d : D} {loc : List (Str × D)} (h : (loc.filter fun p => !(p.1 == n)).lookup x = some d) : loc.lookup x = some d ∧ x ≠ n := by
  refine e0a2 (lookup_filter (p := fun y => !(y == n)) h) fun h1 h2 => ?_
  exact ⟨h1, by simpa using h2⟩
theorem ah_hitAs {t : Expr} {nm : Str} {b₀ : Stmt} {body : List Stmt} {pos : Pos} {rest : List ExceptHandler} {cls : Value} {args : List D} (hm : Match c A env t cls true) (hk : env.kindOf nm = some .local)
    (h : ∀ x, AS c (A.mark (some (.ref x))) env { F with loc := (nm, .ref x) :: F.loc } ((x, .exc cls args) :: G) (b₀ :: body) (fun fl F1 G1 => ∃ G2, G1 = (x, .exc cls args) :: G2 ∧ Q fl (F1.wo nm) G2) (fun _ _ _ _ => False)) : AH c A env F G (.ExceptHandler (some t) (some nm) (b₀ :: body) pos :: rest) cls args Q E := fun f l hl w R s x S X => by
  refine wpAny_handleBy_cons (codeAny_handlers_test ?_) (by intro q; cases q)
  refine hm F l w _ _ args s x _ _ f S X ?_
  refine codeAny_handlers_suite_as ?_
  refine x_flight (l' := l) (m' := .fly) S (by intro q; cases q) (.inl ⟨rfl, rfl⟩) X fun h3' S3 X3 => ?_
  have S4 : Sim c l w (F.led ++ ((x, .exc cls args) :: G) ++ R) { s with heap := h3' } := (S3.adopt X3).perm (by simp only [List.append_assoc, List.cons_append]; exact List.perm_middle)
  refine wpAny_mono (store_local (A := A.mark (some (.ref x))) (c := c) (F := F) (G := (x, .exc cls args) :: G) (E := fun _ _ _ _ => False) (Q := fun _ F1 G1 => F1 = { F with loc := (nm, .ref x) :: F.loc } ∧ G1 = (x, .exc cls args) :: G) (w := w) hk (d := .ref x) (by simp [Rel]) ⟨rfl, rfl⟩ f l hl w R _ (.refl _) S4)
    (fun _ s2 ⟨w3, _, G3, j1, j2, j3, F4, G4, j5, j6, j7, j8⟩ => ?_) fun e s2 ⟨w3, y, cl, ar, G3, j1, j2, j3, j4, F4, G4, j5, j6, j7⟩ => j7.elim
  subst j6 j7 j8
  refine wpAny_mono (h x j5 l hl w3 R s2 (Sub.nil _) j3) (fun fl s3 z9 => ?_) fun e s3 ⟨w4, y, cl, ar, G3, j1, j2, j3, j4, F4, G4, j5, j6, j7⟩ => j7.elim
  obtain ⟨w4, b, G5, q1, q2, q3, F6, G6, q4, q5, G7, q6, q7⟩ := z9
  subst q5 q6
  show wpAny _ A (bindName env nm .none >>= fun _ => unbindBehindTheSuite env nm pos) _ _ s3
  refine wpAny_bind (wpAny_bindName ?_)
  refine wpAny_mono (store_local (A := A) (c := c) (F := F6) (G := (x, .exc cls args) :: G7) (E := fun _ _ _ _ => False) (Q := fun _ F1 G1 => F1 = { F6 with loc := (nm, .none) :: F6.loc } ∧ G1 = (x, .exc cls args) :: G7) (w := w4) hk (d := .none) (by simp [Rel]) ⟨rfl, rfl⟩ q4 l hl w4 R _ (.refl _) q3)
    (fun _ s4 ⟨w5, _, G8, u1, u2, u3, F8, G9, u4, u5, u6, u7⟩ => ?_) fun e s2 ⟨w3, y, cl, ar, G3, j1, j2, j3, j4, F4, G4, j5, j6, j7⟩ => j7.elim
  subst u5 u6 u7
  unfold unbindBehindTheSuite
  refine wpAny_onRaise ?_
  refine e3a4 (u3.get (a := F6.L) (o := .ns ((nm, .none) :: F6.loc)) (by simp [Frm.led])) fun ob ents n h1 h2 h3 h4 => ?_
  refine e1a2 (h4 nm .none (by simp)) fun v0 hv0 _ => ?_
  have hloc : env.locals = F6.L := u4.loc
  refine wpAny_unbindName_local (v := v0) hk ⟨ob, ents, n, hloc ▸ h1, h2, h3, fun _ => rfl⟩ hv0 (by rw [u4.kind]; rfl) fun h' u hn hsb => ?_
  rw [hloc] at hn hsb
  refine e3a4 hn ?_
  try clear hn
  intro ob' ents' n' k1 k2 k3 k4
  have u3' := u3.perm (G' := (x, .exc cls args) :: (({ F6 with loc := (nm, .none) :: F6.loc } : Frm).led ++ G7 ++ R)) (by simp only [List.append_assoc, List.cons_append]; exact List.perm_middle.symm)
  have S6 := Sim.put (A := []) (B := F6.cel.map (fun p => (p.2.1, O.cell p.2.2)) ++ G7 ++ R) (a := F6.L) (o := .ns ((nm, .none) :: F6.loc)) (o' := .ns (F6.wo nm).loc) (tk := s4.toks) (h' := h') (by simpa [Frm.led] using Sim.tail (A := [(x, O.exc cls args)]) u3') hsb ⟨ob', ents', n', k1, k2, k3, fun y d hy => by
    refine e0a2 (lookup_wo hy) fun y1 y2 => ?_
    have ne : (y == nm) = false := by simpa using y2
    refine e1a2 (h4 y d (by rw [List.lookup_cons, ne]; exact y1)) fun v hv hr => ?_
    exact ⟨v, (k4 y).trans ((if_neg y2).trans hv), hr⟩⟩ rfl
  exact ⟨w5, b, (F6.wo nm).led ++ G7, (j1.trans q1).trans u1, FRel.mono u1 q2, by simpa [Frm.led, Frm.wo] using S6, F6.wo nm, G7, ⟨u4.kind, u4.loc, u4.cel, u4.gl, u4.bi⟩, rfl, q7⟩
end
section
variable {M : Model} {A : Around} {E : Value → Shared → Prop} {nm q : Str} {C N : Addr} {bs bm : List Value} {hdct : Bool} {sn : List Str} {sub : List Value} {ab : Bool} {col : Option Bool} {dd : Option Addr} {k0 k1 k2 k3 k5 : Option Value} {newId : String}
theorem excMatches_miss {h : Heap} {g : Array GenState} {d : Drawn} {t : Nat} {os : OsState} {e : Addr} {oe : Obj} {X : String} {Q : Bool → Shared → Prop}
    (hC : h.get? C = some (excClassObj nm q C N bs bm hdct sn sub ab col dd k0 k1 k2 k3 k5 newId)) (he : h.get? e = some oe) (hcls : oe.cls = .type X) (hbase : bm.contains (.type "BaseException") = true)
    (hsub : isSubtype (.type X) (.ref C) = pure false)
    (hq : Q false ⟨h, g, d, t, os⟩) : wpAny M A (excMatches (.ref e) (.ref C)) Q E ⟨h, g, d, t, os⟩ := by
  have hcB : (Value.ref C :: bm).contains (.type "BaseException") = true := by rw [List.contains_cons, hbase, Bool.or_true]
  have f := tc_notTuple
  unfold excMatches
  repeat (first | (with_reducible refine wpAny_loadPart_at he ?_; rw [hcls]) | with_reducible refine wpAny_loadPart_at hC ?_ | (with_reducible refine wpAny_isSubtype_exc hC ?_; rw [hcB]) | wp_step)
  exact hq
end
section
variable {c : Cx} {A : Around} {env : Env} {w : Wd} {F : Frm} {G : Led} {E : LX} {Q : D → Frm → Led → Prop}
theorem match_ownMiss {x : Str} {np : Pos} {C : Addr} {bm : List Value} {newId X : String} (hx : env.kindOf x = some .globalImplicit) (hb : Glob c x (.ref C)) (O : ExcOk c C bm newId) (hbase : bm.contains (.type "BaseException") = true) (hsub : isSubtype (.type X) (.ref C) = pure false) (hd : (x == ("__debug__" : Str)) = false := by with_unfolding_all rfl) : Match c A env (.Name x np) (.type X) false :=
  fun F l w G m args s e Q E f S Xa hq => by
    refine e2a3 hb ?_
    try clear hb
    intro mg v h1 h2 h3
    simp only [Rel] at h3; subst h3
    refine e0a3 Xa ?_
    try clear Xa
    intro x1 x2 zq81
    obtain ⟨ob, vs, t, us, n, x3, x4, x5, x6, x7, x8, x9⟩ := zq81
    refine e2a1 O ?_
    try clear O
    intro x' mg' O
    obtain ⟨tl, N, nm, q, bs, hdct, sn, sub, ab, col, dd, k0, k1, k2, k3, k5, mN, hC, hN, hni, T⟩ := O.obj
    refine Name_function_global f.kind hx (loadGlobal_global (f.gl ▸ h1.keeps S.keep) h2 ?_) hd
    obtain ⟨hh, g, d, tk, os⟩ := s
    exact excMatches_miss (S.keep _ _ hC) x3 x4 (T.hasType hbase) hsub hq
theorem VE_notOwn (C : Addr) : isSubtype (.type "ValueError") (.ref C) = pure false := by
  rw [isSubtype_type]
  have : fastBuiltinMro "ValueError" = some [.type "ValueError", .type "Exception", .type "BaseException", .type "object"] := by kernel_rfl
  rw [this]; rfl

noncomputable def Shed (Q : Led → Prop) (G : Led) : Prop := ∃ J G2, G.Perm (J ++ G2) ∧ Q G2
theorem AC.shed {f : D} {args : List D} {Q : D → Led → Prop} {E : Value → List D → Led → Prop} (h : AC c A f args G (fun d => Shed (Q d)) (fun x y => Shed (E x y))) : AC c A f args G Q E := fun w v vs hv hvs l hl w1 R s hs S => by
  refine codeAny_mono (h w v vs hv hvs l hl w1 R s hs S) fun r s' z => ?_
  rcases r with e | (_ | _ | _ | v)
  · obtain ⟨w', x, k, as, G', h1, h2, ⟨m, h3⟩, h4, J, G2, p, hE⟩ := z
    refine ⟨w', x, k, as, G2, h1, h2, ⟨m, h3.less fun a ha => ?_⟩, Sim.tail (A := J) (by simpa using h4.perm (p.symm.append_right R)), hE⟩
    refine ((p.append_right R).map (·.1)).mem_iff.mpr ?_
    simp only [List.map_append, List.mem_append] at ha ⊢
    rcases ha with q | q <;> simp [q]
  · exact z.elim
  · exact z.elim
  · exact z.elim
  · obtain ⟨w', b, G', h1, h2, h3, J, G2, p, hQ⟩ := z
    exact ⟨w', b, G2, h1, h2, Sim.tail (A := J) (by simpa using h3.perm (p.symm.append_right R)), hQ⟩
theorem AC.mono {f : D} {args : List D} {Q Q' : D → Led → Prop} {E E' : Value → List D → Led → Prop} (h : AC c A f args G Q E) (hQ : ∀ d G, Q d G → Q' d G) (hE : ∀ x y G, E x y G → E' x y G) : AC c A f args G Q' E' := fun w v vs hv hvs l hl w1 R s hs S => by
  refine codeAny_mono (h w v vs hv hvs l hl w1 R s hs S) fun r s' z => ?_
  rcases r with e | (_ | _ | _ | v)
  · obtain ⟨w', x, k, as, G', h1, h2, h3, h4, h5⟩ := z; exact ⟨w', x, k, as, G', h1, h2, h3, h4, hE _ _ _ h5⟩
  · exact z
  · exact z
  · exact z
  · obtain ⟨w', b, G', h1, h2, h3, h4⟩ := z; exact ⟨w', b, G', h1, h2, h3, hQ _ _ h4⟩
theorem AT.reorder {α β : Type} {rel : Wd → β → α → Prop} {t : Sem α} {G' : Led} {Q : β → Frm → Led → Prop} (h : AT c A env rel w F G' t Q E) (p : G.Perm G') : AT c A env rel w F G t Q E := fun f => (h f).perm (p.append_left _)
theorem AT.forget {α β : Type} {rel : Wd → β → α → Prop} {t : Sem α} {J G' : Led} {Q : β → Frm → Led → Prop} (h : AT c A env rel w F G' t Q E) (p : G.Perm (J ++ G')) : AT c A env rel w F G t Q E := fun f l hl w1 R s hs S => by
  refine h f l hl w1 R s hs (Sim.tail (A := J) (S.perm ?_))
  have h1 : (F.led ++ (J ++ G') ++ R).Perm (F.led ++ G ++ R) := (p.symm.append_left F.led).append_right R
  refine List.Perm.trans ?_ h1
  rw [← List.append_assoc, ← List.append_assoc, ← List.append_assoc]
  exact ((List.perm_append_comm).append_right G').append_right R
end
section
variable {c : Cx} {A : Around} {env : Env} {w : Wd} {F : Frm} {G : Led} {E : LX} {Q : D → Frm → Led → Prop}
theorem AT.release {vs ks : List Value} {Q : Unit → Frm → Led → Prop} (hq : Q () F G) : AT c A env Rel1 w F G (release vs ks) Q E := fun f l hl w1 R s hs S => wpAny_release' ⟨w1, (), _, .refl _, rfl, S, F, G, f, rfl, hq⟩
noncomputable abbrev kSetI (c : Cx) (A : Around) (env : Env) (e d : D) (Q : Frm → Led → Prop) (E : LX) (j : D) (F : Frm) (G : Led) : Prop := SetI c A env F G e j d Q E
noncomputable abbrev kASub (c : Cx) (A : Around) (env : Env) (i : Expr) (d : D) (Q : Frm → Led → Prop) (E : LX) (e : D) (F : Frm) (G : Led) : Prop := AE c A env F G i (kSetI c A env e d Q E) E
theorem asg_Sub {o i : Expr} {pos : Pos} {d : D} {Q : Frm → Led → Prop} (h : AE c A env F G o (kASub c A env i d Q E) E) : Asg c A env F G (.Subscript o i pos) d Q E := fun w v hr => by
  rw [arm_assign_Subscript]
  refine AT.bind (AT.holding ((AT.up h (Sub.nil _)).mono (fun e F1 G1 h1 w1 ov hs1 hr1 => ?_) fun _ _ _ _ z => z))
  refine AT.bind (AT.holding ((AT.up h1 (Sub.nil _)).mono (fun j F2 G2 h2 w2 iv hs2 hr2 => AT.standAt ?_) fun _ _ _ _ z => z))
  exact AT.bind (AT.holding ((h2 w2 ov iv v (hr1.mono hs2) hr2 ((hr.mono hs1).mono hs2)).mono (fun _ F3 G3 h3 w3 _ hs3 _ => AT.release h3) fun _ _ _ _ z => z))
noncomputable def DelI (c : Cx) (A : Around) (env : Env) (F : Frm) (G : Led) (d i : D) (Q : Frm → Led → Prop) (E : LX) : Prop := ∀ w v u, Rel w d v → Rel w i u → AT c A env Rel1 w F G (delItem v u) (fun (_ : Unit) => Q) E
noncomputable abbrev kDelI (c : Cx) (A : Around) (env : Env) (d : D) (Q : Frm → Led → Prop) (E : LX) (j : D) (F : Frm) (G : Led) : Prop := DelI c A env F G d j Q E
noncomputable abbrev kDSub (c : Cx) (A : Around) (env : Env) (i : Expr) (Q : Frm → Led → Prop) (E : LX) (d : D) (F : Frm) (G : Led) : Prop := AE c A env F G i (kDelI c A env d Q E) E
theorem as_DelSub {o i : Expr} {tp pos : Pos} {Q : Fl → Frm → Led → Prop} (h : AE c A env F G o (kDSub c A env i (Q .next) E) E) : AS1 c A env F G (.Delete [.Subscript o i tp] pos) Q E := by
  unfold AS1
  rw [arm_exec_Delete, arm_deleteEach_cons, arm_deleteEach_nil, arm_delete_Subscript]
  refine AT.standAt (AT.bind (rel' := Rel1) (AT.bind (rel' := Rel1) (AT.bind (h.mono (fun d F1 G1 h1 w1 ov hs1 hr1 => ?_) fun _ _ _ _ z => z))))
  refine AT.bind (AT.holding ((AT.up h1 (Sub.nil _)).mono (fun j F2 G2 h2 w2 iv hs2 hr2 => AT.standAt ?_) fun _ _ _ _ z => z))
  refine AT.bind (AT.holding ((h2 w2 ov iv (hr1.mono hs2) hr2).mono (fun _ F3 G3 h3 w3 _ hs3 _ => AT.release ?_) fun _ _ _ _ z => z))
  intro w4 _ hs4 _
  exact AT.pure (b := ()) rfl (fun _ _ z => z) fun w5 _ _ _ => AT.pure (b := Fl.next) rfl (fun _ _ z => z) h3
theorem deli_dict {a : Addr} {k : Key} {es : List (Key × D)} {n : Nat} {G1 G2 : Led} {Q : Frm → Led → Prop} (hk : (dget k es).isSome = true) (hq : ∀ n', Q F (G1 ++ (a, .dict (dwo k es) n') :: G2)) : DelI c A env F (G1 ++ (a, .dict es n) :: G2) (.ref a) k.d Q E := fun w v u hv hu => by
  simp only [Rel] at hv; subst hv
  exact del_dict hu hk hq

noncomputable def reprK : Key → Str
  | .int i => Str.ofString (toString i)
  | .str x => reprText x
noncomputable def Key.fine : Key → Prop
  | .int i => i.natAbs.log2 < 1920 ∧ PyData.strOk (reprK (.int i)) = true ∧ (reprK (.int i)).length ≤ 1000
  | .str x => PyData.strOk (reprK (.str x)) = true ∧ (reprK (.str x)).length ≤ 1000
theorem Key.fine_ok {k : Key} (h : k.fine) : PyData.strOk (reprK k) = true ∧ (reprK k).length ≤ 1000 := by cases k with | int i => exact h.2 | str x => exact h
theorem strOk_append {x y : Str} (hx : PyData.strOk x = true) (hy : PyData.strOk y = true) : PyData.strOk (x ++ y) = true := by
  obtain ⟨x⟩ := x; obtain ⟨y⟩ := y
  show (x ++ y).all _ = true
  rw [Array.all_append]
  exact Bool.and_eq_true_iff.mpr ⟨hx, hy⟩
theorem len_append (x y : Str) : (x ++ y).length = x.length + y.length := by
  obtain ⟨x⟩ := x; obtain ⟨y⟩ := y
  show (x ++ y).size = _
  rw [Array.size_append]; rfl
noncomputable def AJ (c : Cx) (A : Around) (env : Env) (F : Frm) (G : Led) (out : Str) (es : List Expr) (Q : D → Frm → Led → Prop) (E : LX) : Prop := AT c A env Rel Wd.nil F G (joinParts out (evalEach es env)) Q E
theorem aj_nil {out : Str} (ho : PyData.strOk out = true) (hl : out.length ≤ 100000) (hq : Q (.str out) F G) : AJ c A env F G out [] Q E := fun f l hl' w1 R s hs S =>
  PyProof.Rows.joinParts_nil ⟨w1, .str out, _, .refl _, by simp [Rel, ho], S.toks _, F, G, f, rfl, hq⟩ (by rw [sizeLine_eq]; walk_at "o")
noncomputable abbrev kAJ (c : Cx) (A : Around) (env : Env) (out : Str) (es : List Expr) (Q : D → Frm → Led → Prop) (E : LX) (d : D) (F : Frm) (G : Led) : Prop := ∃ y, d = .str y ∧ (out ++ y).length ≤ 100000 ∧ AJ c A env F G (out ++ y) es Q E
theorem aj_cons {out x : Str} {e : Expr} {es : List Expr} (h : AE c A env F G e (kAJ c A env out es Q E) E) : AJ c A env F G out (e :: es) Q E := fun f l hl w1 R s hs S => by
  refine PyProof.Rows.joinParts_cons (wpAny_mono (h f l hl w1 R s hs S) (fun v s1 z9 => ?_) fun _ _ z => z)
  obtain ⟨w2, d, G', k1, k2, k3, F1, G1, k4, k5, y, k6, k7, k8⟩ := z9
  subst k5 k6
  simp only [Rel] at k2
  refine e0a2 k2 ?_
  try clear k2
  intro o zq82
  obtain ⟨t, rfl⟩ := zq82
  refine ⟨by rw [sizeLine_eq]; walk_at "o", ?_⟩
  exact wpAny_mono (k8 k4 l hl w2 R s1 (Sub.nil _) k3) (fun a s2 z => Po.up z k1) fun e s2 z => z.up k1
theorem ae_Joined {e₁ e₂ : Expr} {es : List Expr} {pos : Pos} (h : AJ c A env F G Str.empty (e₁ :: e₂ :: es) Q E) : AE c A env F G (.JoinedStr (e₁ :: e₂ :: es) pos) Q E := fun f l hl w1 R s hs S => PyProof.Rows.JoinedStr_many (h f l hl w1 R s hs S)
theorem ae_Joined1 {e₁ : Expr} {pos : Pos} (h : AE c A env F G e₁ Q E) : AE c A env F G (.JoinedStr [e₁] pos) Q E := fun f l hl w1 R s hs S => PyProof.Rows.JoinedStr_one (h f l hl w1 R s hs S)
noncomputable abbrev kRepr (Q : D → Frm → Led → Prop) (d : D) (F : Frm) (G : Led) : Prop := ∃ k : Key, d = k.d ∧ k.fine ∧ Q (.str (reprK k)) F G
theorem ae_Repr {e : Expr} {pos : Pos} (h : AE c A env F G e (kRepr Q) E) : AE c A env F G (.FormattedValue e 114 none pos) Q E := fun f l hl w1 R s hs S => by
  refine wpAny_FormattedValue_repr (wpAny_mono (h f l hl w1 R s hs S) (fun v s1 z9 => ?_) fun _ _ z => z)
  obtain ⟨w2, d, G', k1, k2, k3, F1, G1, k4, k5, k, k6, k7, k8⟩ := z9
  subst k5 k6
  refine e0a2 (Key.fine_ok k7) fun ok ol => ?_
  have fin : ∀ t tk, Po c l Rel w1 R (fun b G' => PF env (Q b) G') (.str (reprK k) t) { s1 with toks := tk } := fun t tk => ⟨w2, .str (reprK k), _, k1, by simp [Rel, ok], k3.toks tk, F1, G1, k4, rfl, k8⟩
  have step : ∀ tk, wpAny (model c.prog c.wd) A (formatField (.str (reprK k) s1.toks) Str.empty) (fun a s' => Po c l Rel w1 R (fun b G' => PF env (Q b) G') a s')
      (fun e s' => Px c l w1 R (fun x y G' => PF env (E x y) G') e s') { s1 with toks := tk } := fun tk =>
    wpAny_formatField_str (fin _ _) (fin _ _) (by rw [sizeLine_eq]; walk_at "o")
  cases k with
  | int i =>
    simp only [Key.d, Rel] at k2
    refine e1a1 k2 ?_
    try clear k2
    intro t zq83
    subst zq83
    exact wpAny_pyReprObj_gives (typeIs_int s1 i t) PySem.F.slot_int_repr PySem.F.entry_int_repr (PySem.F.args_int_repr_1 _) (gives_int_repr i t k7.1) (step _) rfl (by rw [sizeLine_eq]; exact Nat.le_trans ol (by walk_at "o"))
  | str x =>
    simp only [Key.d, Rel] at k2
    refine e0a2 k2 ?_
    try clear k2
    intro _ zq84
    obtain ⟨t, rfl⟩ := zq84
    exact wpAny_pyReprObj_str (step _) (by rw [sizeLine_eq]; exact Nat.le_trans ol (by walk_at "o"))
end
theorem meets_bool_list (l : Addr) (items : Array Value) (hfit : (items.size : Int) < 2 ^ 63) :
    Meets (Builtin.«bool.__new__» ⟨[.type "bool", .ref l], []⟩) (fun _ R s => s.heap.IsList l items ∧ R (.ok (.ret (.bool (!items.isEmpty)))) { s with toks := s.toks + 1 + 1 }) :=
  Meets.of_wp fun prog w A R s hs => by
    refine e0a2 hs ?_
    try clear hs
    intro hl hs
    have f1 := PySem.F.conv_sub_bool
    obtain ⟨hp, g, d, tk, os⟩ := s
    repeat (any_goals (first | assumption | (with_reducible refine wpAny_truthy_list hl hfit ?_) | wp_step))
    all_goals first | exact ⟨_, rfl, hs⟩ | exact hs | skip
section
variable {c : Cx} {A : Around} {env : Env} {w : Wd} {F : Frm} {G : Led} {E : LX} {Q : D → Frm → Led → Prop}
theorem call_boolL {d : D} {xs : List D} (hd : SeqD c F G d "list" xs) (hl : xs.length ≤ 1000000) (hq : Q (.bool (!xs.isEmpty)) F G) : CallD c A env F G (.typ "bool") [d] Q E := fun w v vs hv hvs f l hl' w1 R s hs S => by
  simp only [Rel] at hv; subst hv
  simp only [Rels] at hvs
  refine e2a3 hvs ?_
  try clear hvs
  intro v1 r1 zq85 hv1 zq86
  subst zq85
  subst zq86
  refine e3a3 (hd l w1 R s v1 (hv1.mono hs) S) fun a vs n zq87 h1 h2 => ?_
  subst zq87
  have hz : vs.size = xs.length := by simpa using h2.length
  have he : vs.isEmpty = xs.isEmpty := by cases xs <;> simp [Array.isEmpty, hz]
  refine call_bool_1 (meets_bool_list a vs (by walk_at "q")) ⟨⟨_, h1, rfl, _, rfl⟩, ?_⟩
  exact ⟨rfl, w1, .bool (!xs.isEmpty), _, .refl _, by simp only [Rel]; rw [he], S.toks _, F, G, f, rfl, hq⟩
theorem call_tuple {d : D} {T : String} {xs : List D} (hd : SeqD c F G d T xs) (hT : T = "list" ∨ T = "tuple" ∧ d = .tuple xs) (hl : xs.length ≤ 1000000) (hq : Q (.tuple xs) F G) : CallD c A env F G (.typ "tuple") [d] Q E := fun w v vs hv hvs f l hl' w1 R s hs S => by
  simp only [Rel] at hv; subst hv
  simp only [Rels] at hvs
  refine e2a3 hvs ?_
  try clear hvs
  intro v1 r1 zq88 hv1 zq89
  subst zq88
  subst zq89
  refine e3a3 (hd l w1 R s v1 (hv1.mono hs) S) fun a vs n zq90 h1 h2 => ?_
  subst zq90
  have hz : vs.size = xs.length := by simpa using h2.length
  rcases hT with rfl | ⟨rfl, rfl⟩
  · refine call_tuple_list ⟨_, h1, rfl, _, rfl⟩ (fun h' hk => ?_) (by rw [sizeLine_eq]; walk_at "q")
    have S1 := S.more hk
    refine e0a2 (S1.allocF (ob := seqO "tuple" vs 0) rfl) fun k1 k2 => ?_
    refine ⟨_, .tuple xs, _, k1, ?_, k2, F, G, f, rfl, hq⟩
    simp only [Rel]; exact ⟨_, _, 0, rfl, Wd.add_self _ _ _, h2.mono k1⟩
  · exact call_tuple_same ⟨_, h1, rfl, _, rfl⟩ ⟨w1, .tuple xs, _, .refl _, hv1.mono hs, S, F, G, f, rfl, hq⟩
theorem op_addL {d e : D} {xs ys : List D} (hd : SeqD c F G d "list" xs) (he : SeqD c F G e "list" ys) (hl : xs.length + ys.length ≤ 1000000) (hq : Q (.list (xs ++ ys)) F G) : Op2 c A env Rel F G (binaryOp .Add) d e Q E := fun w v u hv hu f l hl' w1 R s hs S => by
  refine e3a3 (hd l w1 R s v (hv.mono hs) S) fun a vs n zq91 h1 h2 => ?_
  subst zq91
  refine e3a3 (he l w1 R s u (hu.mono hs) S) fun b us m zq92 k1 k2 => ?_
  subst zq92
  have hz : vs.size = xs.length := by simpa using h2.length
  have hz2 : us.size = ys.length := by simpa using k2.length
  refine concat_meets ⟨_, h1, rfl⟩ ⟨_, k1, rfl⟩ PySem.noFill_list_add PySem.seq_list_add PySem.F.slot_list_add PySem.F.entry_list_add (PySem.F.args_list_add_2 _ _) (AutoSeq1.list___add___list_list_0 a vs n b us m (by rw [sizeLine_eq]; walk_at "q")) ⟨h1, k1, ?_⟩
  refine e0a2 (S.allocF (ob := seqO "list" (vs ++ us) 0) rfl) fun j1 j2 => ?_
  refine ⟨_, .list (xs ++ ys), _, j1, ?_, j2, F, G, f, rfl, hq⟩
  simp only [Rel]; exact ⟨_, _, 0, rfl, Wd.add_self _ _ _, by simpa using (h2.append k2).mono j1⟩
theorem op_addT {xs ys : List D} (hl : xs.length + ys.length ≤ 1000000) (hx : xs ≠ []) (hy : ys ≠ []) (hq : Q (.tuple (xs ++ ys)) F G) : Op2 c A env Rel F G (binaryOp .Add) (.tuple xs) (.tuple ys) Q E := fun w v u hv hu f l hl' w1 R s hs S => by
  refine e3a3 ((seq_tuple (c := c) (F := F) (G := G)) l w1 R s v (hv.mono hs) S) fun a vs n zq93 h1 h2 => ?_
  subst zq93
  refine e3a3 ((seq_tuple (c := c) (F := F) (G := G)) l w1 R s u (hu.mono hs) S) fun b us m zq94 k1 k2 => ?_
  subst zq94
  have hz : vs.size = xs.length := by simpa using h2.length
  have hz2 : us.size = ys.length := by simpa using k2.length
  have p1 : 0 < xs.length := List.length_pos_iff.mpr hx
  have p2 : 0 < ys.length := List.length_pos_iff.mpr hy
  refine PySem.P.add_tuple (n := n) (n2 := m) h1 k1 (by simp; intro q; simp [q] at hz; walk_at "q") (by simp; intro q; simp [q] at hz2; walk_at "q") ?_ (by rw [sizeLine_eq]; walk_at "q")
  refine e0a2 (S.allocF (ob := seqO "tuple" (vs ++ us) 0) rfl) fun j1 j2 => ?_
  refine ⟨_, .tuple (xs ++ ys), _, j1, ?_, j2, F, G, f, rfl, hq⟩
  simp only [Rel]; exact ⟨_, _, 0, rfl, Wd.add_self _ _ _, by simpa using (h2.append k2).mono j1⟩
end
noncomputable abbrev noE : LX := fun _ _ _ _ => False
theorem itr_self {c : Cx} {A : Around} {l : List Env} {w : Wd} {G : Led} {s : Shared} {it : Addr} {o : O} {Q : Value → Shared → Prop} {E : Value → Shared → Prop} (h : Itr o) (S : Sim c l w ((it, o) :: G) s) (hQ : Q (.ref it) s) : wpAny (model c.prog c.wd) A (pyIter (.ref it)) Q E s := by
  have ho := S.get (.head _)
  cases h with
  | list a i => exact wpAny_pyIter_listiter (l := a) (i := i) ho hQ
  | tuple a i => exact wpAny_pyIter_tupleiter (t := a) (i := i) ho hQ
  | key a i n m => exact wpAny_pyIter_keyiter (d := a) (i := i) (n := n) (ep := m) ho hQ
  | val a i n m => exact wpAny_pyIter_valiter (d := a) (i := i) (n := n) (ep := m) ho hQ
  | range x n st => exact wpAny_pyIter_rangeiter (x := x) (left := n) (step := st) ho hQ

noncomputable def Tst (c : Cx) (A : Around) (env : Env) (F : Frm) (G : Led) (ifs : List Expr) (Q : Bool → Frm → Led → Prop) : Prop :=
  AT c A env Rel1 Wd.nil F G (forIn ifs true fun c r => if r = true then do let ok ← isTrue c env (eval c env); pure (ForInStep.yield ok) else pure (ForInStep.yield r)) Q noE
theorem tst_nil {c : Cx} {A : Around} {env : Env} {F : Frm} {G : Led} {Q : Bool → Frm → Led → Prop} (hq : Q true F G) : Tst c A env F G [] Q := AT.pure (b := true) rfl (fun _ _ z => z) hq
theorem tst_one {c : Cx} {A : Around} {env : Env} {F : Frm} {G : Led} {t : Expr} {Q : Bool → Frm → Led → Prop} (h : AI c A env F G t Q noE) : Tst c A env F G [t] Q := fun f l hl w1 R s hs S => wpAny_tests_one (h f l hl w1 R s hs S)

noncomputable def turnG (p : Pos) (target : Expr) (ifs : List Expr) (act : Sem Unit) (cd : Code) (it : Value) (env : Env) : Sem PySem.Fin := do
  standAt p
  match ← pyNext it with
  | none => pure (.done .next)
  | some v =>
    letOwnedTupleGo target it v
    assign target env v
    let mut ok := true
    for c in ifs do
      if ok then ok ← isTrue c env (eval c env)
    if ok then
      act
    again cd

theorem comp_loop {c : Cx} {A : Around} {l : List Env} {cenv : Env} {e : Expr} {depth : Nat} {ita : Addr} {acc : Value} {en : Nat → O} {items : List D} {P : Led → Prop} {w0 : Wd} {p : Pos} {target : Expr} {ifs : List Expr} {act : Sem Unit} (hl : A.frames = some l) (hU : A.under (.compLoop e depth (.ref ita) acc cenv) = A)
    (hd : (model c.prog c.wd).den (.compLoop e depth (.ref ita) acc cenv) = (compTurn e depth (.ref ita) acc cenv).onRaise (fun x => do noteFrame x cenv; theTreesLotGoes x))
    (hq : (Code.compLoop e depth (.ref ita) acc cenv).quiet = true)
    (hturn : compTurn e depth (.ref ita) acc cenv = turnG p target ifs act (.compLoop e depth (.ref ita) acc cenv) (.ref ita) cenv)
    (nx : Nx c A w0 ita en items P) (Inv : Nat → Frm → Led → Prop) (hP : ∀ i F G, Inv i F G → P (F.led ++ G))
    (turn : ∀ i d F G, items[i]? = some d → Inv i F G → Asg c A cenv F G target d (fun F1 G1 => Tst c A cenv F1 G1 ifs (fun ok F2 G2 => if ok then AT c A cenv Rel1 Wd.nil F2 G2 act (fun (_ : Unit) F3 G3 => Inv (i + 1) F3 G3) noE else Inv (i + 1) F2 G2)) noE)
    {F : Frm} {G R : Led} {w : Wd} {s : Shared} (i0 : Inv 0 F G) (fit : Fit cenv F) (hw : Sub w0 w) (S : Sim c l w ((ita, en 0) :: (F.led ++ G) ++ R) s) :
    codeAny (model c.prog c.wd) A (.compLoop e depth (.ref ita) acc cenv) (fun r s' => r = .ok .next ∧ ∃ w' F' G', Sub w w' ∧ Fit cenv F' ∧ Sim c l w' (F'.led ++ G' ++ R) s' ∧ Inv items.length F' G') s := by
  refine codeAny_loop hq (fun n s' => ∃ i w4 F' G', n = items.length - i ∧ i ≤ items.length ∧ Sub w w4 ∧ Fit cenv F' ∧ Sim c l w4 ((ita, en i) :: (F'.led ++ G') ++ R) s' ∧ Inv i F' G') (fun n s' z9 => ?_) items.length ⟨0, w, F, G, by simp, Nat.zero_le _, .refl _, fit, S, i0⟩
  refine e4a6 z9 ?_
  try clear z9
  intro i w4 F' G' e0 e1 j1 j2 j3 j4
  rw [hU, hd, hturn]
  refine wpAny_onRaise (wpAny_noRaise ?_)
  unfold turnG
  refine wpAny_bind (wpAny_standAt (wpAny_bind (wpAny_mono (nx l hl target i _ w4 R s' (hw.trans j1) (hP i F' G' j4) j3) (fun rr s3 z => ?_) fun _ _ z => z.elim)))
  cases hi : items[i]? with
  | none =>
    rw [hi] at z
    refine e0a2 z ?_
    try clear z
    intro zq95 zq96
    subst zq95
    obtain ⟨w5, m1, m2⟩ := zq96
    have hin : i = items.length := Nat.le_antisymm e1 (by simpa using hi)
    subst hin
    exact wpAny_pure ⟨rfl, w5, F', G', j1.trans m1, j2, m2, j4⟩
  | some dd =>
    rw [hi] at z
    refine e1a2 z ?_
    try clear z
    intro v zq97 m1
    subst zq97
    have hlt : i < items.length := (List.getElem?_eq_some_iff.mp hi).1
    refine wpAny_bind (wpAny_mono m1 (fun _ s4 z9 => ?_) fun _ _ z => z.elim)
    refine e1a3 z9 ?_
    try clear z9
    intro w5 m2 m3 m4
    have T := turn i dd F' G' hi j4 w5 v m3 j2 l hl w5 ((ita, en (i + 1)) :: R) s4 (.refl _) (m4.perm swap_perm)
    refine wpAny_bind (wpAny_mono T (fun _ s5 z9 => ?_) fun e s5 ⟨w6, x, cl, ar, G6, q1, q2, q3, q4, F6, G7, q5, q6, q7⟩ => q7.elim)
    obtain ⟨w6, _, G6, q1, _, q3, F6, G7, q4, q5, q6⟩ := z9
    subst q5
    refine wpAny_bind (wpAny_mono (q6 q4 l hl w6 ((ita, en (i + 1)) :: R) s5 (Sub.nil _) q3) (fun ok s6 z9 => ?_) fun e s5 ⟨w6, x, cl, ar, G6, q1, q2, q3, q4, F6, G7, q5, q6, q7⟩ => q7.elim)
    obtain ⟨w7, ok', G8, u1, u2, u3, F8, G9, u4, u5, u6⟩ := z9
    cases u2
    subst u5
    cases ok with
    | false =>
      refine wpAny_pure ⟨rfl, items.length - (i + 1), by walk_at "o", i + 1, w7, F8, G9, rfl, hlt, ((j1.trans m2).trans q1).trans u1, u4, u3.perm swap_perm.symm, u6⟩
    | true =>
      refine wpAny_bind (wpAny_mono (u6 u4 l hl w7 ((ita, en (i + 1)) :: R) s6 (Sub.nil _) u3) (fun _ s7 z9 => ?_) fun e s5 ⟨w6, x, cl, ar, G6, q1, q2, q3, q4, F6, G7, q5, q6, q7⟩ => q7.elim)
      obtain ⟨w8, _, G10, v1, _, v3, F10, G11, v4, v5, v6⟩ := z9
      subst v5
      exact wpAny_pure ⟨rfl, items.length - (i + 1), by walk_at "o", i + 1, w8, F10, G11, rfl, hlt, (((j1.trans m2).trans q1).trans u1).trans v1, v4, v3.perm swap_perm.symm, v6⟩

noncomputable def CelOk (cl : List (Str × Addr)) (cel : List (Str × Addr × Option D)) : List (Str × NameKind) → Prop
  | [] => True
  | (x, k) :: r => ((k = .cell ∨ k = .free) → cl.lookup x = (cel.lookup x).map (·.1)) ∧ CelOk cl cel r
theorem CelOk.all {cl : List (Str × Addr)} {cel : List (Str × Addr × Option D)} : ∀ {ns : List (Str × NameKind)}, CelOk cl cel ns → ∀ x, (ns.lookup x = some .cell ∨ ns.lookup x = some .free) → cl.lookup x = (cel.lookup x).map (·.1)
  | [], _, x, h => by rcases h with h | h <;> cases h
  | (y, k) :: r, ⟨h1, h2⟩, x, h => by
    rw [List.lookup_cons] at h
    cases q : x == y with
    | true =>
      rw [q] at h
      have := eq_of_beq q; subst this
      rcases h with h | h <;> cases h
      · exact h1 (.inl rfl)
      · exact h1 (.inr rfl)
    | false => rw [q] at h; exact h2.all x h
theorem Sim.gone2 {c : Cx} {l : List Env} {w : Wd} {G : Led} {s : Shared} {C : Addr} {o : O} {h' : Heap} (S : Sim c l w ((C, o) :: G) s) (hx : Heap.SameBut C s.heap h') (hC : ∀ env ∈ l, env.frame ≠ some C) : Sim c l w G { s with heap := h' } := by
  have hit := S.ents (C, o) (.head _)
  have e := S.nd
  rw [List.map_cons, List.nodup_cons] at e
  refine ⟨fun a ob q => ?_, S.wbase, e.2, fun p hp => ⟨(S.ents p (.tail _ hp)).1, ?_⟩, fun env he => ?_, S.gens, S.os⟩
  · show h'.get? a = _
    rw [hx.2 a (fun z => by rw [z, hit.1] at q; cases q)]; exact S.wok a ob q
  · have ne : p.1 ≠ C := fun z => e.1 (List.mem_map.mpr ⟨p, hp, z⟩)
    exact (S.ents p (.tail _ hp)).2.congr (hx.2 _ ne)
  · refine e0a2 (S.frs env he) fun k zq98 => ?_
    obtain ⟨L, h1, h2, ⟨ob, es, n, h3, h4⟩, h5⟩ := zq98
    refine ⟨k, L, h1, h2, ⟨ob, es, n, (hx.2 L fun z => hC env he (by rw [h1, z])).trans h3, h4⟩, fun o ho => h5 o (.tail _ ho)⟩
noncomputable abbrev innerG (F : Frm) (a : Addr) (o : O) (G : Led) : Led := (F.L, .ns F.loc) :: (a, o) :: G
theorem inner_perm {F : Frm} {C a ita : Addr} {loc : List (Str × D)} {o oi : O} {G R : Led} :
    ((ita, oi) :: ((⟨C, loc, F.cel⟩ : Frm).led ++ innerG F a o G) ++ R).Perm ((C, .ns loc) :: (a, o) :: (ita, oi) :: (F.led ++ G) ++ R) := by
  unfold Frm.led innerG
  simp only [List.cons_append, List.append_assoc]
  refine (List.Perm.swap ..).trans (.cons _ ?_)
  refine List.Perm.trans (.cons _ List.perm_middle) ?_
  refine List.Perm.trans (.cons _ (.cons _ List.perm_middle)) ?_
  refine List.Perm.trans ((List.Perm.cons _ (List.Perm.swap ..))) ?_
  exact List.Perm.swap ..
theorem inner_perm2 {F : Frm} {C a : Addr} {loc : List (Str × D)} {o : O} {G R : Led} :
    (((⟨C, loc, F.cel⟩ : Frm).led ++ innerG F a o G) ++ R).Perm ((C, .ns loc) :: ((F.led ++ (a, o) :: G) ++ R)) := by
  unfold Frm.led innerG
  simp only [List.cons_append, List.append_assoc]
  refine .cons _ ?_
  exact List.perm_middle

theorem comp_core {c : Cx} {A : Around} {env : Env} {F1 : Frm} {G1 R : Led} {l : List Env} {w2 : Wd} {s1 : Shared} {x : Value} {e : Expr} {scope : Scope} {newAcc : Sem Value} {g : Comprehension} {cl : List (Str × Addr)} {use : Option (Value → Sem Unit)} {Qv : Value → Shared → Prop} {Ev : Value → Shared → Prop} {d : D} {items : List D} {P : Led → Prop} {act : Value → Env → Sem Unit} {acc0 : Obj}
    (hl : A.frames = some l) (hclos : closureFor scope env = pure cl) (hkind : scope.kind = .function) (hcell : ∀ y ∈ scope.names, y.2 ≠ .cell) (fit : Fit env F1) (cok : CelOk cl F1.cel (relabel scope env).names)
    (St : Nat → O → Prop) (h0f : acc0.isFreed = false)
    (hacc : ∀ (Q : Value → Shared → Prop) (E : Value → Shared → Prop) s, Q (.ref s.heap.objs.size) { s with heap := s.heap.push acc0 } → wpAny (model c.prog c.wd) A newAcc Q E s) (o0 : O) (hst0 : St 0 o0) (ho0 : ∀ w h a, h.get? a = some acc0 → (3 : Nat) < a → OAt c w h a o0)
    (hturn : ∀ ita C a1, compTurn e 0 (.ref ita) (.ref a1) (compEnvC scope cl C env) = turnG g.iter.pos g.target g.ifs (act (.ref a1) (compEnvC scope cl C env)) (.compLoop e 0 (.ref ita) (.ref a1) (compEnvC scope cl C env)) (.ref ita) (compEnvC scope cl C env))
    (hden : ∀ ita C a1, (model c.prog c.wd).den (.compLoop e 0 (.ref ita) (.ref a1) (compEnvC scope cl C env)) = (compTurn e 0 (.ref ita) (.ref a1) (compEnvC scope cl C env)).onRaise (fun x => do noteFrame x (compEnvC scope cl C env); theTreesLotGoes x))
    (hunder : ∀ ita C a1, A.under (.compLoop e 0 (.ref ita) (.ref a1) (compEnvC scope cl C env)) = A) (hquiet : ∀ ita C a1, (Code.compLoop e 0 (.ref ita) (.ref a1) (compEnvC scope cl C env)).quiet = true)
    (hstart : ∀ ita C a1 s (Rr : Result → Shared → Prop), codeAny (model c.prog c.wd) A (.compLoop e 0 (.ref ita) (.ref a1) (compEnvC scope cl C env)) Rr s → (∀ (Q : Value → Shared → Prop) (E : Value → Shared → Prop), Q (.ref ita) s → wpAny (model c.prog c.wd) A (pyIter (.ref ita)) Q E s) → codeAny (model c.prog c.wd) A (.compStart e 0 (.ref ita) (.ref a1) (compEnvC scope cl C env)) Rr s)
    (hc : c.Ok) (hI : IterOf c A d items P) (hP : ∀ C loc a o, P ((⟨C, loc, F1.cel⟩ : Frm).led ++ innerG F1 a o G1)) (hPo : P (F1.led ++ G1))
    (turn : ∀ C a1 loc i d o, items[i]? = some d → St i o → Asg c A (compEnvC scope cl C env) ⟨C, loc, F1.cel⟩ (innerG F1 a1 o G1) g.target d (fun F2 G2 => Tst c A (compEnvC scope cl C env) F2 G2 g.ifs (fun ok F3 G3 =>
        if ok then AT c A (compEnvC scope cl C env) Rel1 Wd.nil F3 G3 (act (.ref a1) (compEnvC scope cl C env)) (fun (_ : Unit) F4 G4 => ∃ loc' o', F4 = ⟨C, loc', F1.cel⟩ ∧ G4 = innerG F1 a1 o' G1 ∧ St (i + 1) o') noE
        else ∃ loc' o', F3 = ⟨C, loc', F1.cel⟩ ∧ G3 = innerG F1 a1 o' G1 ∧ St (i + 1) o')) noE)
    (hx : Rel w2 d x) (S1 : Sim c l w2 (F1.led ++ G1 ++ R) s1)
    (fin : ∀ w' C a1 o' loc s', Sub w2 w' → St items.length o' → Sim c l w' ((C, .ns loc) :: ((F1.led ++ (a1, o') :: G1) ++ R)) s' → (∀ en ∈ l, en.frame ≠ some C) → compPost (model c.prog c.wd) A Ev use Qv (.ref a1) C (.ok .next) s') :
    wpAny (model c.prog c.wd) A (pyIter x) (fun it s₂ => wpAny (model c.prog c.wd) A newAcc (fun acc s₃ =>
      wpAny (model c.prog c.wd) A (newFunctionEnv scope env.globals cl [] env.qual none .none (some env)) (fun cenv s₄ =>
        codeAny (model c.prog c.wd) A (.compStart e 0 it acc { cenv with scope := relabel scope env }) (compPost (model c.prog c.wd) A Ev use Qv acc cenv.locals) s₄) Ev s₃) Ev s₂) Ev s1 := by
  refine wpAny_mono (hI l hl w2 x (F1.led ++ G1) R s1 hx hPo S1) (fun u s2 z9 => ?_) (fun _ _ z => z.elim)
  refine e3a5 z9 ?_
  try clear z9
  intro ita en w3 k1 nx k2 k3 itr
  subst k1
  refine hacc _ _ s2 ?_
  have sz3 : (3 : Nat) < s2.heap.objs.size := by
    refine e4a2 hc.g fun mg ob es n e' _ => ?_
    exact Heap.lt_size (k3.keep _ _ e')
  have S3 := k3.alloc (ob := acc0) (o := o0) h0f (ho0 _ _ _ (Heap.get?_push_size _ h0f) sz3)
  generalize ha1 : s2.heap.objs.size = a1 at S3 ⊢
  refine wpAny_newFunctionEnv hcell (by intro y hy; simp at hy) (fun h₁ hns₁ hsb₁ => ?_) hkind
  dsimp only at hns₁ hsb₁ ⊢
  have S4 := S3.alloc (ob := { cls := .type "dict", data := .dict #[] }) (o := .ns []) rfl ⟨_, #[], 0, Heap.get?_push_size _ rfl, rfl, by intro e he; simp at he, by intro x d h; cases h⟩
  have hCf : ∀ en ∈ l, en.frame ≠ some (s2.heap.push acc0).objs.size := fun en he q => by
    refine e0a2 (S3.frs en he) fun _ zq99 => ?_
    obtain ⟨L, z1, _, ⟨ob, es, n, z3, _⟩, _⟩ := zq99
    rw [z1] at q; cases q
    exact absurd (Heap.lt_size z3) (Nat.lt_irrefl _)
  change Sim c l w3 (((s2.heap.push acc0).objs.size, O.ns []) :: _) _ at S4
  generalize hCC : (s2.heap.push acc0).objs.size = C at *
  have S5 : Sim c l w3 ((C, .ns []) :: (a1, o0) :: (ita, en 0) :: (F1.led ++ G1) ++ R) { s2 with heap := h₁, toks := s2.toks + ([] : List (Str × Value)).length } := by
    refine e3a4 hns₁ ?_
    try clear hns₁
    intro ob es n z1 z2 z3 z4
    have z := Sim.put (A := []) (B := (a1, o0) :: ((ita, en 0) :: (F1.led ++ G1) ++ R)) (o := .ns []) (o' := .ns []) (tk := s2.toks + ([] : List (Str × Value)).length) S4 hsb₁ ⟨ob, es, n, z1, z2, z3, by intro x d h; cases h⟩ rfl
    exact z
  have fitC : Fit (compEnvC scope cl C env) ⟨C, [], F1.cel⟩ := ⟨hkind, rfl, fun x hx => cok.all x hx, fit.gl, fit.bi⟩
  show codeAny _ A (.compStart e 0 (.ref ita) (.ref a1) (compEnvC scope cl C env)) _ _
  have S6 := S5.perm (inner_perm (F := F1) (C := C) (a := a1) (ita := ita) (loc := []) (o := o0) (oi := en 0) (G := G1) (R := R))
  refine hstart ita C a1 _ _ ?_ (fun Q E hQ => itr_self (itr 0) S6 hQ)
  have loop := comp_loop (R := R) hl (hunder ita C a1) (hden ita C a1) (hquiet ita C a1) (hturn ita C a1) nx (fun i F G => ∃ loc o, F = ⟨C, loc, F1.cel⟩ ∧ G = innerG F1 a1 o G1 ∧ St i o)
    (fun i F G ⟨loc, o, z1, z2, _⟩ => by subst z1 z2; exact hP C loc a1 o) (fun i d F G hd ⟨loc, o, z1, z2, z3⟩ => by subst z1 z2; exact turn C a1 loc i d o hd z3) (F := ⟨C, [], F1.cel⟩) (G := innerG F1 a1 o0 G1) ⟨[], o0, rfl, rfl, hst0⟩ fitC (.refl _) S6
  refine codeAny_mono loop fun r s' ⟨z1, w', F', G', z2, z3, z4, loc, o, z5, z6, z7⟩ => ?_
  subst z1 z5 z6
  exact fin w' C a1 o loc s' (k2.trans z2) z7 (z4.perm inner_perm2.symm) hCf

section
variable {c : Cx} {A : Around} {env : Env} {w : Wd} {F : Frm} {G : Led} {E : LX} {Q : D → Frm → Led → Prop}
theorem AT.frozen {t : Sem Value} (h : AT c A env Rel w F G t (fun d F1 G1 => ∃ a xs G2, d = .ref a ∧ G1 = (a, .list xs) :: G2 ∧ Q (.list xs) F1 G2) E) : AT c A env Rel w F G t Q E := fun f l hl w1 R s hs S =>
  wpAny_mono (h f l hl w1 R s hs S) (fun v s' ⟨w2, d, G', k1, k2, k3, F1, G1, k4, k5, a, xs, G2, k6, k7, k8⟩ => by
    subst k5 k6 k7
    simp only [Rel] at k2; subst k2
    refine e1a3 (Sim.freezeList (A := F1.led) (B := G2 ++ R) (by simpa using k3)) fun w3 j1 j2 j3 => ?_
    exact ⟨w3, .list xs, F1.led ++ G2, k1.trans j1, j3, by simpa using j2, F1, G2, k4, rfl, k8⟩) fun _ _ z => z
structure CompSc (env : Env) (scope : Scope) (cl : List (Str × Addr)) : Prop where
  clos : closureFor scope env = pure cl
  kind : scope.kind = .function
  cell : ∀ y ∈ scope.names, y.2 ≠ .cell
  names : ∀ x ∈ scope.names, x.2 = .local → scope.names.lookup x.1 = some .local
structure CompOk (c : Cx) (A : Around) (env : Env) (F : Frm) (G : Led) (scope : Scope) (cl : List (Str × Addr)) (target : Expr) (ifs : List Expr) (elt : Expr) (d : D) (items : List D) (p : D → Bool) (f : D → D) : Prop where
  cok : CelOk cl F.cel (relabel scope env).names
  it : ∃ P, IterOf c A d items P ∧ P (F.led ++ G) ∧ ∀ C loc a o, P ((⟨C, loc, F.cel⟩ : Frm).led ++ innerG F a o G)
  len : items.length ≤ 1000000
  turn : ∀ C a1 ys loc (i : Nat) d, items[i]? = some d → Asg c A (compEnvC scope cl C env) ⟨C, loc, F.cel⟩ (innerG F a1 (.list ys) G) target d (fun F2 G2 => Tst c A (compEnvC scope cl C env) F2 G2 ifs (fun ok F3 G3 => ok = p d ∧
      if ok then AE c A (compEnvC scope cl C env) F3 G3 elt (fun y F4 G4 => y = f d ∧ (∃ loc', F4 = ⟨C, loc', F.cel⟩) ∧ G4 = innerG F a1 (.list ys) G) noE
      else (∃ loc', F3 = ⟨C, loc', F.cel⟩) ∧ G3 = innerG F a1 (.list ys) G)) noE
theorem Sim.nsAt {l : List Env} {s : Shared} {C : Addr} {loc : List (Str × D)} (S : Sim c l w ((C, .ns loc) :: G) s) : ∃ m, s.heap.Ns C m := by
  refine e3a4 (S.get (.head _)) fun ob ents n h1 h2 h3 _ => ?_
  exact ⟨_, ob, ents, n, h1, h2, h3, fun _ => rfl⟩
theorem comp_list {F1 : Frm} {G1 R : Led} {l : List Env} {w2 : Wd} {s1 : Shared} {x : Value} {elt target iter : Expr} {ifs : List Expr} {scope : Scope} {pos : Pos} {cl : List (Str × Addr)} {use : Option (Value → Sem Unit)} {Qv : Value → Shared → Prop} {Ev : Value → Shared → Prop} {d : D} {items : List D} {p : D → Bool} {f : D → D}
    (hl : A.frames = some l) (hc : c.Ok) (fit : Fit env F1) (K0 : CompSc env scope cl) (K : CompOk c A env F1 G1 scope cl target ifs elt d items p f) (hx : Rel w2 d x) (S1 : Sim c l w2 (F1.led ++ G1 ++ R) s1)
    (fin : ∀ w' C a1 loc s', Sub w2 w' → Sim c l w' ((C, .ns loc) :: ((F1.led ++ (a1, .list ((items.filter p).map f)) :: G1) ++ R)) s' → (∀ en ∈ l, en.frame ≠ some C) → compPost (model c.prog c.wd) A Ev use Qv (.ref a1) C (.ok .next) s') :
    wpAny (model c.prog c.wd) A (pyIter x) (fun it s₂ => wpAny (model c.prog c.wd) A (newList []) (fun acc s₃ =>
      wpAny (model c.prog c.wd) A (newFunctionEnv scope env.globals cl [] env.qual none .none (some env)) (fun cenv s₄ =>
        codeAny (model c.prog c.wd) A (.compStart (.ListComp elt [⟨target, iter, ifs, 0⟩] scope pos) 0 it acc { cenv with scope := relabel scope env }) (compPost (model c.prog c.wd) A Ev use Qv acc cenv.locals) s₄) Ev s₃) Ev s₂) Ev s1 := by
  refine e1a3 K.it fun P it1 it2 it3 => ?_
  refine comp_core (g := ⟨target, iter, ifs, 0⟩) (acc0 := seqO "list" #[] 0) (act := fun acc env => do let _ ← call (.builtin "list.append") [acc, ← eval elt env]) hl K0.clos K0.kind K0.cell fit K.cok (fun i o => o = .list (((items.take i).filter p).map f)) rfl
    (fun Q E s h => wpAny_newObj_type h) (.list []) (by simp) (fun w h a ha _ => ⟨#[], 0, ha, .nil, by simp⟩) (fun _ _ _ => rfl) (fun _ _ _ => rfl) (fun _ _ _ => rfl) (fun _ _ _ => rfl)
    (fun ita C a1 s Rr h1 h2 => codeAny_compStart_list h1 (h2 _ _ h1)) hc it1 it3 it2 ?_ hx S1 ?_
  · rintro C a1 loc i d o hd rfl
    have hi : i < items.length := (List.getElem?_eq_some_iff.mp hd).1
    have tk : ((items.take (i + 1)).filter p).map f = ((items.take i).filter p).map f ++ (if p d then [f d] else []) := by
      rw [List.take_add_one, hd, List.filter_append, List.map_append]
      congr 1
      by_cases q : p d <;> simp [q]
    have hlen : (((items.take i).filter p).map f).length < 1000000 := by
      rw [List.length_map]
      have h1 := List.length_filter_le p (items.take i)
      have h2 : (items.take i).length = i := by rw [List.length_take]; walk_at "o"
      have := K.len; walk_at "o"
    refine fun w v hr => (K.turn C a1 _ loc i d hd w v hr).mono (fun _ F2 G2 h2 => AT.mono h2 (fun ok F3 G3 h3 => ?_) fun _ _ _ _ z => z) fun _ _ _ _ z => z
    refine e0a2 h3 ?_
    try clear h3
    intro e1 h3
    cases ok with
    | false =>
      rw [if_neg (by decide)] at h3 ⊢
      refine e0a2 h3 ?_
      try clear h3
      intro zq100 z2
      obtain ⟨loc', z1⟩ := zq100
      exact ⟨loc', _, z1, z2, by rw [tk, ← e1]; simp⟩
    | true =>
      rw [if_pos rfl] at h3 ⊢
      refine AT.bind (h3.mono (fun y F4 G4 ⟨z1, ⟨loc', z2⟩, z3⟩ w1 v1 hs1 hr1 => ?_) fun _ _ _ _ z => z)
      subst z1 z2 z3
      refine AT.bind (rel' := Rel) (AT.mono (call_append (G1 := [(F1.L, .ns F1.loc)]) (Q := fun r F5 G5 => F5 = ⟨C, loc', F1.cel⟩ ∧ G5 = innerG F1 a1 (.list (((items.take i).filter p).map f ++ [f d])) G1) hlen ⟨rfl, rfl⟩ w1 (.builtin "list.append") [.ref a1, v1] (by simp [Rel]) (.cons (by simp [Rel]) (.one hr1))) (fun r F5 G5 ⟨z4, z5⟩ w2 v2 _ _ => AT.pure (b := ()) rfl (fun _ _ z => z) ⟨loc', _, z4, z5, by rw [tk, ← e1]; simp⟩) fun _ _ _ _ z => z)
  · rintro w' C a1 o' loc s' h1 rfl h3 h4
    rw [List.take_length] at h3
    exact fin w' C a1 loc s' h1 h3 h4
inductive CompMK (c : Cx) (A : Around) (env : Env) (scope : Scope) (cl : List (Str × Addr)) (target : Expr) (ifs : List Expr) (elt : Expr) (Q : D → Frm → Led → Prop) (d : D) (F1 : Frm) (G1 : Led) : Prop
  | mk (items : List D) (p : D → Bool) (f : D → D) (h : CompOk c A env F1 G1 scope cl target ifs elt d items p f) (hq : ∀ a, Q (.ref a) F1 ((a, .list ((items.filter p).map f)) :: G1))
inductive CompK (c : Cx) (A : Around) (env : Env) (scope : Scope) (cl : List (Str × Addr)) (target : Expr) (ifs : List Expr) (elt : Expr) (Q : D → Frm → Led → Prop) (d : D) (F1 : Frm) (G1 : Led) : Prop
  | mk (items : List D) (p : D → Bool) (f : D → D) (h : CompOk c A env F1 G1 scope cl target ifs elt d items p f) (hq : Q (.list ((items.filter p).map f)) F1 G1)
inductive CompAK (c : Cx) (A : Around) (env : Env) (x : Str) (scope : Scope) (cl : List (Str × Addr)) (target : Expr) (ifs : List Expr) (elt : Expr) (Q : Fl → Frm → Led → Prop) (d : D) (F1 : Frm) (G1 : Led) : Prop
  | mk (items : List D) (p : D → Bool) (f : D → D) (h : CompOk c A env F1 G1 scope cl target ifs elt d items p f) (hq : Q .next { F1 with loc := (x, .list ((items.filter p).map f)) :: F1.loc } G1)
theorem ae_CompM {elt target iter : Expr} {ifs : List Expr} {scope : Scope} {pos : Pos} {cl : List (Str × Addr)} (hc : c.Ok) (K0 : CompSc env scope cl)
    (h : AE c A env F G iter (CompMK c A env scope cl target ifs elt Q) E)
    (hfs : ∀ x, foldedSetIterable iter env x = pure x := by intro _; with_unfolding_all rfl) : AE c A env F G (.ListComp elt [⟨target, iter, ifs, 0⟩] scope pos) Q E := fun f l hl w1 R s hs S => by
  refine wpAny_comprehension_free (g := ⟨target, iter, ifs, 0⟩) (gs := []) rfl hfs K0.clos K0.kind K0.names ?_
  refine wpAny_mono (h f l hl w1 R s hs S) (fun x s1 z9 => ?_) fun _ _ z => z
  obtain ⟨w2, d, G', k1, k2, k3, F1, G1, k4, k5, items, p, fn, K, hq⟩ := z9
  subst k5
  refine comp_list hl hc k4 K0 K k2 k3 (fun w' C a1 loc s' j1 j2 j3 => ?_)
  refine ⟨_, (Sim.nsAt j2).choose_spec, fun h' hsb => ?_⟩
  exact ⟨w', .ref a1, F1.led ++ (a1, .list ((items.filter p).map fn)) :: G1, k1.trans j1, by simp [Rel], j2.gone2 hsb j3, F1, _, k4, rfl, hq a1⟩
theorem ae_Comp {elt target iter : Expr} {ifs : List Expr} {scope : Scope} {pos : Pos} {cl : List (Str × Addr)} (hc : c.Ok) (K0 : CompSc env scope cl)
    (h : AE c A env F G iter (CompK c A env scope cl target ifs elt Q) E)
    (hfs : ∀ x, foldedSetIterable iter env x = pure x := by intro _; with_unfolding_all rfl) : AE c A env F G (.ListComp elt [⟨target, iter, ifs, 0⟩] scope pos) Q E :=
  AT.frozen (ae_CompM hc K0 (h.mono (fun d F1 G1 ⟨items, p, f, K, hq⟩ => ⟨items, p, f, K, fun a => ⟨a, _, G1, rfl, rfl, hq⟩⟩) fun _ _ _ _ z => z) hfs)
theorem as_AssignComp {x : Str} {px : Pos} {elt target iter : Expr} {ifs : List Expr} {scope : Scope} {pos spos : Pos} {cl : List (Str × Addr)} {Q : Fl → Frm → Led → Prop} (hc : c.Ok) (K0 : CompSc env scope cl) (hk : env.kindOf x = some .local)
    (h : AE c A env F G iter (CompAK c A env x scope cl target ifs elt Q) E)
    (hsw : swapsWith (.ListComp elt [⟨target, iter, ifs, 0⟩] scope pos) (some (.Name x px)) spos.line env = pure true)
    (hfs : ∀ x, foldedSetIterable iter env x = pure x := by intro _; with_unfolding_all rfl) : AS1 c A env F G (.Assign [.Name x px] (.ListComp elt [⟨target, iter, ifs, 0⟩] scope pos) spos) Q E := fun f l hl w1 R s hs S => by
  rw [exec_Assign_Name_used _ _ _ _ hsw]
  refine wpAny_bind (wpAny_standAt (wpAny_bind ?_))
  show wpAny _ A (comprehension (.ListComp elt [⟨target, iter, ifs, 0⟩] scope pos) scope env (firstIterPos [⟨target, iter, ifs, 0⟩] pos) (newList []) (firstAsync [⟨target, iter, ifs, 0⟩]) (firstIter [⟨target, iter, ifs, 0⟩] env) (some (assign (.Name x px) env)) >>= fun _ => pure ()) _ _ _
  refine wpAny_bind (wpAny_comprehension_free (g := ⟨target, iter, ifs, 0⟩) (gs := []) rfl hfs K0.clos K0.kind K0.names ?_)
  refine wpAny_mono (h f l hl w1 R s hs S) (fun xv s1 z9 => ?_) fun _ _ z => z
  obtain ⟨w2, d, G', k1, k2, k3, F1, G1, k4, k5, items, p, fn, K, hq⟩ := z9
  subst k5
  refine comp_list hl hc k4 K0 K k2 k3 (fun w' C a1 loc s' j1 j2 j3 => ?_)
  refine e1a3 (Sim.freezeList (A := (C, .ns loc) :: F1.led) (B := G1 ++ R) (a := a1) (xs := (items.filter p).map fn) (by simpa using j2)) fun w3 f1 f2 f3 => ?_
  have S3 : Sim c l w3 (F1.led ++ ((C, .ns loc) :: G1) ++ R) s' := f2.perm (by simp only [List.append_assoc, List.cons_append]; exact List.perm_middle)
  show wpAny _ A (standAt px >>= fun _ => bindName env x (.ref a1)) _ _ s'
  refine wpAny_bind (wpAny_standAt (wpAny_bindName ?_))
  refine wpAny_mono (store_local (A := A) (c := c) (F := F1) (G := (C, .ns loc) :: G1) (E := noE) (Q := fun _ F2 G2 => F2 = { F1 with loc := (x, .list ((items.filter p).map fn)) :: F1.loc } ∧ G2 = (C, .ns loc) :: G1) (w := w3) hk f3 ⟨rfl, rfl⟩ k4 l hl w3 R s' (.refl _) S3)
    (fun _ s4 ⟨w5, _, G8, u1, u2, u3, F8, G9, u4, u5, u6, u7⟩ => ?_) fun e s2 ⟨w3, y, cl, ar, G3, j1, j2, j3, j4, F4, G4, j5, j6, j7⟩ => j7.elim
  subst u5 u6 u7
  have S5 : Sim c l w5 ((C, .ns loc) :: (({ F1 with loc := (x, .list ((items.filter p).map fn)) :: F1.loc } : Frm).led ++ G1 ++ R)) s4 := u3.perm (by simp only [List.append_assoc, List.cons_append]; exact List.perm_middle.symm)
  refine ⟨_, (Sim.nsAt S5).choose_spec, fun h' hsb => wpAny_pure (wpAny_pure ?_)⟩
  exact ⟨w5, Fl.next, ({ F1 with loc := (x, .list ((items.filter p).map fn)) :: F1.loc } : Frm).led ++ G1, ((k1.trans j1).trans f1).trans u1, rfl, S5.gone2 hsb j3, _, G1, u4, rfl, hq⟩
end
section
variable {c : Cx} {A : Around} {env : Env} {w : Wd} {F : Frm} {G : Led} {E : LX} {Q : D → Frm → Led → Prop}
theorem call_values {a : Addr} {es : List (Key × D)} {n : Nat} (ha : (a, O.dict es n) ∈ G) (hq : ∀ v, Q (.ref v) F ((v, .rcd "dict_values" [.ref a]) :: G)) : CallD c A env F G (.bi "dict.values") [.ref a] Q E := fun w v vs hv hvs f l hl w1 R s hs S => by
  simp only [Rel] at hv; subst hv
  simp only [Rels] at hvs
  refine e2a3 hvs ?_
  try clear hvs
  intro v1 r1 zq101 hv1 zq102
  subst zq101
  subst zq102
  simp only [Rel] at hv1; subst hv1
  have hD := S.get (List.mem_append_left R (List.mem_append_right F.led ha))
  refine e1a4 (OAt.dictKV hD) fun kvs h1 h2 h3 h4 => ?_
  refine call_meetsIn PySem.F.slot_dict_values (mapOf_of h1.dictOf).typeIs PySem.F.entry_dict_values (PySem.F.args_dict_values_1 _) (meets_dict_values (kk c.prog c.wd) a (OAt.sm hD)) ⟨⟨kvs, h1.dictOf⟩, ?_⟩
  have k := S.alloc (ob := { cls := .type "dict_values", data := .fields #[.ref a] }) (o := .rcd "dict_values" [.ref a]) rfl ⟨_, Heap.get?_push_size _ rfl, rfl, rfl⟩
  refine ⟨w1, .ref s.heap.objs.size, F.led ++ ((s.heap.objs.size, .rcd "dict_values" [.ref a]) :: G), .refl _, by simp [Rel], k.perm ?_, F, _, f, rfl, hq _⟩
  simp only [List.append_assoc, List.cons_append]
  exact List.perm_middle
theorem iter_values {n m : Nat} {v a : Addr} {es : List (Key × D)} (hR : Rm n A) : IterOf c A (.ref v) (es.map (·.2)) (fun G => (v, O.rcd "dict_values" [.ref a]) ∈ G ∧ (a, O.dict es m) ∈ G) := fun l hl w vv G R s hr hm S => by
  simp only [Rel] at hr
  subst hr
  refine e1a3 (OAt.dictAt (S.get (List.mem_append_left R hm.2))) fun kvs h1 h2 h3 => ?_
  have hV : s.heap.IsValuesView v a := S.get (List.mem_append_left R hm.1)
  have hlen : kvs.length = es.length := by have := congrArg List.length h2; simpa using this
  refine wpAny_pyIter_values hV h1 ⟨s.heap.objs.size, fun i => .rcd "dict_valueiterator" [.ref a, .int i 0, .int es.length 0, .int m 0], w, rfl, ?_, .refl _, S.alloc rfl ⟨_, Heap.get?_push_size _ rfl, rfl, by rw [hlen]; rfl⟩, fun i => .val _ _ _ _⟩
  generalize s.heap.objs.size = it
  intro l hl tg i G w' R s hw hm S
  have hD := S.get (List.mem_cons_of_mem _ (List.mem_append_left R hm.2))
  refine e1a3 (OAt.dictAt hD) fun kvs h1 h2 h3 => ?_
  have hlen : kvs.length = es.length := by have := congrArg List.length h2; simpa using this
  have hI : s.heap.IsValIter it a i kvs.length m := by rw [hlen]; exact S.get (.head _)
  rw [List.getElem?_map]
  cases hx : es[i]? with
  | some p =>
    refine e1a2 (h3.get (i := i) (d := p.2) (by rw [List.getElem?_map, hx]; rfl)) fun u hu hru => ?_
    rw [List.getElem?_map] at hu
    refine e1a2 (Option.map_eq_some_iff.mp hu) fun zq103 hy e => ?_
    obtain ⟨k, v'⟩ := zq103
    dsimp only at e
    subst e
    refine wpAny_pyNext_values_item hI h1 hy fun h' k1 k2 => ⟨v', rfl, ?_⟩
    rw [hlen] at k1
    exact lot_noop (c := c) (w := w') k1 (by decide) ⟨w', .refl _, hru, Sim.put (A := []) (tk := s.toks) S k2 k1 rfl⟩
  | none =>
    have hy : kvs[i]? = none := by rw [List.getElem?_eq_none_iff] at hx ⊢; walk_at "o"
    exact wpAny_pyNext_values_end hR.handled hI h1 hy fun h' k1 => ⟨rfl, w', .refl _, S.gone k1 rfl⟩

theorem call_set0 (hc : c.Ok) (hq : ∀ a, Q (.ref a) F ((a, .set []) :: G)) : CallD c A env F G (.typ "set") [] Q E := fun w v vs hv hvs f l hl w1 R s hs S => by
  simp only [Rel] at hv; subst hv
  simp only [Rels] at hvs; subst hvs
  refine call_set_0 fun led => ?_
  have k := S.alloc (ob := { cls := .type "set", dict := none, data := .set #[] 0 (.fresh 0 0 led) }) (o := .set []) rfl ⟨?_, by simp, by simp⟩
  · refine ⟨w1, .ref s.heap.objs.size, F.led ++ ((s.heap.objs.size, .set []) :: G), .refl _, by simp [Rel], k.perm ?_, F, _, f, rfl, hq _⟩
    simp only [List.append_assoc, List.cons_append]
    exact List.perm_middle
  · exact ⟨_, #[], 0, .fresh 0 0 led, Heap.get?_push_size _ rfl, ⟨rfl, rfl, rfl⟩, rfl, by intro e he; simp at he, by intro k; simp, by show 0 < scanBound; decide, rfl, rfl⟩
theorem op_inSet {a : Addr} {k : Key} {ks : List Key} (ha : (a, O.set ks) ∈ G) (hq : Q (.bool (decide (k ∈ ks))) F G) : Op2 c A env Rel F G (compareOp .In) k.d (.ref a) Q E := fun w u v hu hv f l hl' w1 R s hs S => by
  simp only [Rel] at hv; subst hv
  refine e0a2 (Key.is_of_rel hu) fun ki ko => ?_
  refine e0a3 (S.get (List.mem_append_left R (List.mem_append_right F.led ha))) fun h1 h2 h3 => ?_
  exact wpAny_inSet_of (knd := kk c.prog c.wd) ki (Key.scannable ki) h1 ⟨w1, .bool (decide (k ∈ ks)), _, .refl _, by simp [Rel], S.toks _, F, G, f, rfl, hq⟩
theorem call_setadd {a : Addr} {k : Key} {ks : List Key} {G1 G2 : Led} (hn : k ∉ ks) (hl : ks.length + 1 < 1000) (hq : Q .none F (G1 ++ (a, .set (ks ++ [k])) :: G2)) : CallD c A env F (G1 ++ (a, .set ks) :: G2) (.bi "set.add") [.ref a, k.d] Q E := fun w v vs hv hvs f l hl' w1 R s hs S => by
  simp only [Rel] at hv; subst hv
  simp only [Rels] at hvs
  refine e2a3 hvs ?_
  try clear hvs
  intro v1 r1 zq104 hv1 zq105
  subst zq104
  obtain ⟨v2, r2, rfl, hv2, rfl⟩ := zq105
  simp only [Rel] at hv1; subst hv1
  refine e0a2 (Key.is_of_rel hv2) fun ki ko => ?_
  refine e0a3 (S.get (a := a) (o := .set ks) (by simp)) fun h1 h2 h3 => ?_
  refine call_set_add (knd := kk c.prog c.wd) ki (Key.scannable ki) h1 (by show ks.length + 1 < scanBound; first | (unfold scanBound; walk_at "o") | exact Nat.lt_of_lt_of_le hl (by decide)) fun h' hsb hS => ?_
  refine ⟨w1, .none, F.led ++ (G1 ++ (a, .set (ks ++ [k])) :: G2), .refl _, by simp [Rel], ?_, F, _, f, rfl, hq⟩
  have hS' : h'.SetOf (kk c.prog c.wd) a (fun k' => decide (k' ∈ ks ++ [k])) (ks ++ [k]).length := by
    have e1 : (fun k' => decide (k' ∈ ks) || decide (k' = k)) = fun k' => decide (k' ∈ ks ++ [k]) := by funext k'; simp
    have e2 : (if decide (k ∈ ks) = true then ks.length else ks.length + 1) = (ks ++ [k]).length := by simp [hn]
    rw [e1, e2] at hS; exact hS
  have S' := Sim.put (A := F.led ++ G1) (B := G2 ++ R) (a := a) (o := .set ks) (o' := .set (ks ++ [k])) (tk := s.toks + 1) (by simpa using S) hsb ⟨hS', by
    rw [List.nodup_append]; exact ⟨h2, by simp, fun x hx y hy e => by simp at hy; subst hy e; exact hn hx⟩, fun x hx => by
    rcases List.mem_append.mp hx with q | q
    · exact h3 x q
    · simp at q; subst q; exact ko⟩ rfl
  simpa using S'
end
theorem li_next : typeLookup (.type "list_iterator") "__next__" = pure (some (.builtin "list_iterator.__next__")) := by rw [typeLookup_type, builtinLookup_eq_fast]; kernel_rfl
theorem slot_li_ga : Slot "list_iterator" "__getattribute__" "object.__getattribute__" :=
  .of (owner := "object") (n := "__getattribute__") (by rw [typeLookup_type, builtinLookup_eq_fast]; kernel_rfl) (by decide +kernel) (by decide +kernel) (by decide +kernel)
    (by first | exact .inl (by decide +kernel) | exact .inr (by decide +kernel)) (by rw [isSubtype_type]; kernel_rfl)
theorem li_noga : typeLookup (.type "list_iterator") "__getattr__" = pure none := by rw [typeLookup_type, builtinLookup_eq_fast]; kernel_rfl
theorem li_ty : typeOf (.builtin "list_iterator.__next__") = pure (.type "wrapper_descriptor") := by show builtinType _ = _; rw [builtinType_eq_fast]; kernel_rfl
theorem slot_wd_get : Slot "wrapper_descriptor" "__get__" "wrapper_descriptor.__get__" :=
  .of (owner := "wrapper_descriptor") (n := "__get__") (by rw [typeLookup_type, builtinLookup_eq_fast]; kernel_rfl) (by decide +kernel) (by decide +kernel) (by decide +kernel)
    (by first | exact .inl (by decide +kernel) | exact .inr (by decide +kernel)) (by rw [isSubtype_type]; kernel_rfl)
theorem wd_set : typeLookup (.type "wrapper_descriptor") "__set__" = pure none := by rw [typeLookup_type, builtinLookup_eq_fast]; kernel_rfl
theorem wd_del : typeLookup (.type "wrapper_descriptor") "__delete__" = pure none := by rw [typeLookup_type, builtinLookup_eq_fast]; kernel_rfl
theorem entry_oga : entryFor table "object.__getattribute__" = some Builtin.«object.__getattribute__» := entryFor_of_tree (by kernel_rfl)
theorem args_oga (a b : Value) : argsOk "object.__getattribute__" ⟨[a, b], []⟩ := by unfold argsOk; kernel_rfl
theorem entry_wd_get : entryFor table "wrapper_descriptor.__get__" = some Builtin.«wrapper_descriptor.__get__» := entryFor_of_tree (by kernel_rfl)
theorem args_wd_get (a b c : Value) : argsOk "wrapper_descriptor.__get__" ⟨[a, b, c], []⟩ := by unfold argsOk; kernel_rfl
theorem sub_li : isSubtype (.type "list_iterator") (.type (".".intercalate ("list_iterator.__next__".cutAt '.').dropLast)) = pure true := by
  rw [show (".".intercalate ("list_iterator.__next__".cutAt '.').dropLast) = "list_iterator" by decide +kernel, isSubtype_type]; kernel_rfl
section
variable {prog : Program} {w : World} {A : Around} {E : Value → Shared → Prop} {h : Heap} {g : Array GenState} {d : Drawn} {t : Nat} {os : OsState} {a : Addr} {o : Obj}
noncomputable abbrev wrapObj (a : Addr) : Obj := { cls := .type "method-wrapper", data := .fields #[.builtin "list_iterator.__next__", .ref a] }
theorem wd_call {R : Result → Shared → Prop} (hx : h.get? a = some o) (hc : o.cls = .type "list_iterator") (hq : R (.ok (.ret (.ref h.objs.size))) ⟨h.push (wrapObj a), g, d, t, os⟩) :
    codeAny (model prog w) A (.call (.builtin "wrapper_descriptor.__get__") ⟨[.builtin "list_iterator.__next__", .ref a, .type "list_iterator"], []⟩) R ⟨h, g, d, t, os⟩ := by
  have hT : (⟨h, g, d, t, os⟩ : Shared).TypeIs (.ref a) "list_iterator" := ⟨_, hx, hc⟩
  have hT5 : (⟨h, g, d, t, os⟩ : Shared).TypeIs (.builtin "list_iterator.__next__") "wrapper_descriptor" := li_ty
  refine codeAny_call_builtin slot_wd_get.plain entry_wd_get (slot_wd_get.check _ _ _ _ _ _ _ _ hT5 (args_wd_get _ _ _) ?_)
  have f8 := sub_li
  repeat (any_goals (first | assumption | wp_step))
noncomputable abbrev liObj (l : Addr) (i : Nat) : Obj := { cls := .type "list_iterator", data := .fields #[.ref l, .int i 0] }
theorem li_entry {tk : Tok} {l : Addr} {i : Nat} {Q : PySem.Fin → Shared → Prop} (hx : h.get? a = some (liObj l i)) (hq : Q (.done (.ret (.ref h.objs.size))) ⟨h.push (wrapObj a), g, d, t, os⟩) :
    wpAny (model prog w) A (Builtin.«object.__getattribute__» ⟨[.ref a, .str "__next__" tk], []⟩) Q E ⟨h, g, d, t, os⟩ := by
  have hT : (⟨h, g, d, t, os⟩ : Shared).TypeIs (.ref a) "list_iterator" := ⟨_, hx, rfl⟩
  have hT5 : (⟨h, g, d, t, os⟩ : Shared).TypeIs (.builtin "list_iterator.__next__") "wrapper_descriptor" := li_ty
  have f4 := li_next
  have f5 := li_ty
  have f6 := slot_wd_get.lookup
  have f7 := wd_set
  have f8 := wd_del
  repeat (any_goals (first | assumption | wp_step))
  exact wd_call hx rfl (wpAny_pure hq)
theorem li_call {tk : Tok} {l : Addr} {i : Nat} {R : Result → Shared → Prop} (hx : h.get? a = some (liObj l i)) (hq : R (.ok (.ret (.ref h.objs.size))) ⟨h.push (wrapObj a), g, d, t, os⟩) :
    codeAny (model prog w) A (.call (.builtin "object.__getattribute__") ⟨[.ref a, .str "__next__" tk], []⟩) R ⟨h, g, d, t, os⟩ :=
  codeAny_call_builtin slot_li_ga.plain entry_oga (slot_li_ga.check _ _ _ _ _ _ _ _ (show (⟨h, g, d, t, os⟩ : Shared).TypeIs (.ref a) "list_iterator" from ⟨_, hx, rfl⟩) (args_oga _ _) (li_entry hx hq))
theorem li_getAttr {l : Addr} {i : Nat} {Q : Value → Shared → Prop} (hx : h.get? a = some (liObj l i)) (hq : Q (.ref h.objs.size) ⟨h.push (wrapObj a), g, d, t + 1, os⟩) :
    wpAny (model prog w) A (getAttr (.ref a) "__next__" true) Q E ⟨h, g, d, t, os⟩ := by
  have hT : ∀ t, (⟨h, g, d, t, os⟩ : Shared).TypeIs (.ref a) "list_iterator" := fun t => ⟨_, hx, rfl⟩
  have f2 := slot_li_ga.lookup
  have f3 := slot_li_ga.bind (.ref a)
  have f4 := li_noga
  unfold getAttr
  refine wpAny_bind (wpAny_mkText ?_)
  have hT1 := hT (t + 1)
  repeat (any_goals (first | assumption | wp_step))
  refine li_call hx ?_
  show wpAny _ _ (handedOut (.ref _)) Q E _
  rw [handedOut_of rfl]
  exact wpAny_pure hq
theorem wrap_call {q : Addr} {R : Result → Shared → Prop} (hq : h.get? q = some (wrapObj a)) (hx : h.get? a = some o) (hc : o.cls = .type "list_iterator")
    (hn : codeAny (model prog w) A (.builtin "list_iterator.__next__" ⟨[.ref a], []⟩) R ⟨h, g, d, t, os⟩) : codeAny (model prog w) A (.call (.ref q) ⟨[], []⟩) R ⟨h, g, d, t, os⟩ := by
  have hT : (⟨h, g, d, t, os⟩ : Shared).TypeIs (.ref a) "list_iterator" := ⟨_, hx, hc⟩
  refine codeAny_of_tree ?_
  show wpAny _ _ (callAny (.ref q) _) _ _ _
  repeat (any_goals (first | assumption | with_reducible refine wpAny_loadPart_at hq ?_ | wp_step))
  exact ⟨Code.quiet_builtin _ (by decide +kernel), hn⟩
end
section
variable {prog : Program} {w : World} {A : Around} {E : Value → Shared → Prop} {s : Shared}
theorem next_item {it l : Addr} {i : Nat} {items : Array Value} {x : Value} {R : Result → Shared → Prop} (hit : s.heap.IsListIter it l i) (hl : s.heap.IsList l items) (hx : items[i]? = some x)
    (hQ : ∀ h', h'.IsListIter it l (i + 1) → Heap.SameBut it s.heap h' → R (.ok (.ret x)) { s with heap := h' }) : codeAny (model prog w) A (.builtin "list_iterator.__next__" ⟨[.ref it], []⟩) R s := by
  refine e1a3 (id hit) fun o ho hc hd => ?_
  refine e1a3 hl ?_
  try clear hl
  intro ol hol _ zq106
  obtain ⟨nl, hdl⟩ := zq106
  refine codeAny_builtin entry_listiter_next ?_
  show wpAny _ _ (field (.ref it) 0 >>= _) _ _ s
  refine wpAny_bind (wpAny_field ho hd (x := .ref l) rfl ?_)
  show wpAny _ _ (if (Value.ref l == Value.none) = true then _ else _) _ _ s
  rw [if_neg (show ¬ ((Value.ref l == Value.none) = true) from Bool.false_ne_true)]
  show wpAny _ _ (field (.ref it) 1 >>= _) _ _ s
  refine wpAny_bind (wpAny_field ho hd (x := .int i 0) rfl ?_)
  show wpAny _ _ (seqItems? (.ref l) >>= _) _ _ s
  refine wpAny_bind (wpAny_seqItems hol hdl ?_)
  simp only [Int.toNat_natCast, hx]
  refine wpAny_bind (wpAny_setField ho hd (by simp) (wpAny_pure (hQ _ ?_ (Heap.SameBut.update ..))))
  exact ⟨_, Heap.get?_update_self _ ho (Obj.isFreed_of_fields (Obj.data_mapFields hd _)), (Obj.cls_mapFields ..).trans hc, by
    rw [Obj.data_mapFields hd]; simp [rawInt]⟩
end
section
variable {prog : Program} {w : World} {A : Around} {E : Value → Shared → Prop} {s : Shared}
theorem next_end {it l : Addr} {i : Nat} {items : Array Value} {R : Result → Shared → Prop} (hh : A.handled = none) (hit : s.heap.IsListIter it l i) (hl : s.heap.IsList l items) (hx : items[i]? = none)
    (hQ : ∀ h1 vs, Heap.SameBut it s.heap h1 → (∃ o, h1.get? it = some o ∧ o.cls = .type "list_iterator" ∧ o.data = .fields #[.none, .int i 0]) → vs[0]? = some (.ref h1.objs.size) → vs[1]? = some .none →
      R (.error (.ref (h1.objs.size + 1))) { s with heap := (h1.push (seqO "tuple" #[] 0)).push { cls := .type "StopIteration", data := .fields vs } }) : codeAny (model prog w) A (.builtin "list_iterator.__next__" ⟨[.ref it], []⟩) R s := by
  refine e1a3 (id hit) fun o ho hc hd => ?_
  refine e1a3 hl ?_
  try clear hl
  intro ol hol _ zq107
  obtain ⟨nl, hdl⟩ := zq107
  refine codeAny_builtin entry_listiter_next ?_
  show wpAny _ _ (field (.ref it) 0 >>= _) _ _ s
  refine wpAny_bind (wpAny_field ho hd (x := .ref l) rfl ?_)
  show wpAny _ _ (if (Value.ref l == Value.none) = true then _ else _) _ _ s
  rw [if_neg (show ¬ ((Value.ref l == Value.none) = true) from Bool.false_ne_true)]
  show wpAny _ _ (field (.ref it) 1 >>= _) _ _ s
  refine wpAny_bind (wpAny_field ho hd (x := .int i 0) rfl ?_)
  show wpAny _ _ (seqItems? (.ref l) >>= _) _ _ s
  refine wpAny_bind (wpAny_seqItems hol hdl ?_)
  simp only [Int.toNat_natCast, hx]
  refine wpAny_bind (wpAny_rule (wpAny_bind (wpAny_setField ho hd (by simp) ?_)))
  show wpAny _ _ (newExc (.type "StopIteration") [] >>= _) _ _ _
  refine wpAny_bind ?_
  simp only [newExc, newTuple]
  refine wpAny_bind (wpAny_newObj_type ?_ (by size_fits))
  refine wpAny_bind (m := firstArgMember _ _) (wpAny_of_eq (a := Value.none) (by first | rfl | (simp only [firstArgMember]; rfl)) ?_)
  refine wpAny_newObj_type ?_ (by size_fits)
  simp only [raiseNew]
  refine wpAny_bind (wpAny_handled ?_)
  rw [show (A.under (.builtin "list_iterator.__next__" ⟨[.ref it], []⟩)).handled = none from hh]
  refine wpAny_bind (wpAny_pure (wpAny_throw ?_))
  rw [Heap.size_push]
  exact hQ _ _ (Heap.SameBut.update ..) ⟨_, Heap.get?_update_self _ ho (Obj.isFreed_of_fields (Obj.data_mapFields hd _)), (Obj.cls_mapFields ..).trans hc, by rw [Obj.data_mapFields hd]; simp [rawInt]⟩ rfl rfl
end
section
variable {c : Cx} {A : Around} {env : Env} {w : Wd} {F : Frm} {G : Led} {E : LX} {Q : D → Frm → Led → Prop}
theorem call_iterL {a : Addr} {xs : List D} (ha : (a, O.list xs) ∈ G) (hq : ∀ it, Q (.ref it) F ((it, .raw (liObj a 0)) :: G)) : CallD c A env F G (.bi "iter") [.ref a] Q E := fun w v vs hv hvs f l hl w1 R s hs S => by
  simp only [Rel] at hv; subst hv
  simp only [Rels] at hvs
  refine e2a3 hvs ?_
  try clear hvs
  intro v1 r1 zq108 hv1 zq109
  subst zq108
  subst zq109
  simp only [Rel] at hv1; subst hv1
  refine e2a3 (S.get (List.mem_append_left R (List.mem_append_right F.led ha))) fun us n h1 h2 h3 => ?_
  refine call_function_entry (by decide +kernel) (by decide +kernel) kdk_entry_iter (kdk_args_iter _) ?_
  unfold Builtin.«iter»
  refine wpAny_bind (m := someArgs "iter" 1 2 _) (wpAny_of_eq (a := [Value.ref a]) (by first | rfl | kernel_rfl!) ?_)
  show wpAny _ _ (pyIter (.ref a) >>= _) _ _ _
  refine wpAny_bind (wpAny_pyIter_list ⟨_, h1, rfl, _, rfl⟩ ?_)
  have k := S.alloc (ob := liObj a 0) (o := .raw (liObj a 0)) rfl ⟨Heap.get?_push_size _ rfl, by intro es n q; cases q⟩
  refine wpAny_pure ⟨_, rfl, w1, .ref s.heap.objs.size, F.led ++ ((s.heap.objs.size, .raw (liObj a 0)) :: G), .refl _, by simp [Rel], k.perm ?_, F, _, f, rfl, hq _⟩
  simp only [List.append_assoc, List.cons_append]
  exact List.perm_middle
theorem geta_next {it a : Addr} {i : Nat} (ha : (it, O.raw (liObj a i)) ∈ G) (hq : ∀ q, Q (.ref q) F ((q, .raw (wrapObj it)) :: G)) : GetA c A env F G (.ref it) "__next__" Q E := fun w v hv f l hl w1 R s hs S => by
  simp only [Rel] at hv; subst hv
  refine e0a2 (S.get (List.mem_append_left R (List.mem_append_right F.led ha))) fun h1 _ => ?_
  obtain ⟨h, g, d, t, os⟩ := s
  refine li_getAttr h1 ?_
  have S1 := (S.toks (t + 1)).alloc (ob := wrapObj it) (o := .raw (wrapObj it)) rfl ⟨Heap.get?_push_size _ rfl, by intro es n q; cases q⟩
  refine ⟨w1, .ref h.objs.size, F.led ++ ((h.objs.size, .raw (wrapObj it)) :: G), .refl _, by simp [Rel], S1.perm ?_, F, _, f, rfl, hq _⟩
  simp only [List.append_assoc, List.cons_append]
  exact List.perm_middle
theorem AT.rawRcd {α β : Type} {rel : Wd → β → α → Prop} {t : Sem α} {G1 G2 : Led} {it : Addr} {ob : Obj} {cls : String} {vs : List Value} {Q : β → Frm → Led → Prop} (hc : ob.cls = .type cls) (hd : ob.data = .fields vs.toArray) (h : AT c A env rel w F (G1 ++ (it, .rcd cls vs) :: G2) t Q E) : AT c A env rel w F (G1 ++ (it, .raw ob) :: G2) t Q E := fun f l hl w1 R s hs S => by
  refine h f l hl w1 R s hs ?_
  refine e0a2 (S.get (a := it) (o := .raw ob) (by simp)) fun h1 _ => ?_
  have S' := Sim.put (A := F.led ++ G1) (B := G2 ++ R) (a := it) (o := .raw ob) (o' := .rcd cls vs) (tk := s.toks) (h' := s.heap) (by simpa using S) ⟨rfl, fun _ _ => rfl⟩ ⟨ob, h1, hc, hd⟩ rfl
  simpa using S'
theorem callk_next {n : Nat} {q it a : Addr} {i : Nat} {xs : List D} {G1 G2 : Led} (hR : Rm n A) (hq0 : (q, O.raw (wrapObj it)) ∈ G1 ++ (it, .rcd "list_iterator" [.ref a, .int i 0]) :: G2) (ha : (a, O.list xs) ∈ G1 ++ (it, .rcd "list_iterator" [.ref a, .int i 0]) :: G2)
    (hi : ∀ d, xs[i]? = some d → Q d F (G1 ++ (it, .rcd "list_iterator" [.ref a, .int ((i + 1 : Nat) : Int) 0]) :: G2)) (he : xs[i]? = none → E (.type "StopIteration") [] F (G1 ++ (it, .rcd "list_iterator" [.none, .int i 0]) :: G2)) :
    CallK c A env F (G1 ++ (it, .rcd "list_iterator" [.ref a, .int i 0]) :: G2) (.ref q) [] Q E := by
  refine ⟨fun w v l R s hr S => ?_, fun w v vs hv hvs f l hl w1 R s hs S => ?_⟩
  · simp only [Rel] at hr; subst hr
    refine e0a2 (S.get (List.mem_append_left R (List.mem_append_right F.led hq0))) fun h1 _ => ?_
    refine ⟨.machine, fun A Q E s' hk hQ => ?_⟩
    unfold keeperOf
    exact wpAny_bind (wpAny_load (hk _ _ h1) (wpAny_pure hQ))
  · simp only [Rel] at hv; subst hv
    simp only [Rels] at hvs; subst hvs
    refine e0a2 (S.get (List.mem_append_left R (List.mem_append_right F.led hq0))) fun h1 _ => ?_
    refine e2a3 (S.get (List.mem_append_left R (List.mem_append_right F.led ha))) fun us m a1 a2 a3 => ?_
    have hI : s.heap.IsListIter it a i := S.get (a := it) (o := .rcd "list_iterator" [.ref a, .int i 0]) (by simp)
    refine e1a3 (id hI) fun oi i1 i2 i3 => ?_
    obtain ⟨h, g, d, t, os⟩ := s
    refine wpAny_call (wrap_call h1 i1 i2 ?_)
    cases hx : xs[i]? with
    | some y =>
      refine e1a2 (a2.get hx) fun yv y1 y2 => ?_
      refine next_item hI ⟨_, a1, rfl, _, rfl⟩ (by simpa using y1) fun h' k1 k2 => ?_
      refine ⟨w1, y, F.led ++ (G1 ++ (it, .rcd "list_iterator" [.ref a, .int ((i + 1 : Nat) : Int) 0]) :: G2), .refl _, y2, ?_, F, _, f, rfl, hi y hx⟩
      have S' := Sim.put (A := F.led ++ G1) (B := G2 ++ R) (a := it) (o := .rcd "list_iterator" [.ref a, .int i 0]) (o' := .rcd "list_iterator" [.ref a, .int ((i + 1 : Nat) : Int) 0]) (tk := t) (h' := h') (by simpa using S) k2 k1 rfl
      simpa using S'
    | none =>
      refine next_end hR.handled hI ⟨_, a1, rfl, _, rfl⟩ (by simpa using a2.getNone hx) fun h' vs k1 k2 k3 k4 => ?_
      have S' := Sim.put (A := F.led ++ G1) (B := G2 ++ R) (a := it) (o := .rcd "list_iterator" [.ref a, .int i 0]) (o' := .rcd "list_iterator" [.none, .int i 0]) (tk := t) (h' := h') (by simpa using S) k1 k2 rfl
      have S'' : Sim c l w1 (F.led ++ (G1 ++ (it, O.rcd "list_iterator" [.none, .int i 0]) :: G2) ++ R) ⟨h', g, d, t, os⟩ := by simpa using S'
      refine e0a2 (S''.allocF (ob := seqO "tuple" #[] 0) rfl) fun j1 j2 => ?_
      have j3 := j2.push (ob := { cls := .type "StopIteration", data := .fields vs })
      have sz : (h'.push (seqO "tuple" #[] 0)).objs.size = h'.objs.size + 1 := Heap.size_push ..
      have ge : ((h'.push (seqO "tuple" #[] 0)).push { cls := .type "StopIteration", data := .fields vs }).get? (h'.objs.size + 1) = some { cls := .type "StopIteration", data := .fields vs } := by rw [← sz]; exact Heap.get?_push_size _ rfl
      refine ⟨_, h'.objs.size + 1, .type "StopIteration", [], F.led ++ (G1 ++ (it, O.rcd "list_iterator" [.none, .int i 0]) :: G2), j1, rfl, ⟨.fresh, ?_, ?_, _, vs, h'.objs.size, #[], 0, ge, rfl, rfl, k3, Wd.add_self _ _ _, .nil, k4⟩, j3, F, _, f, rfl, he hx⟩
      · cases z : (w1.add h'.objs.size (seqO "tuple" #[] 0)) (h'.objs.size + 1) with
        | none => rfl
        | some o =>
          have := Heap.lt_size (j2.wok _ _ z)
          change h'.objs.size + 1 < (h'.push (seqO "tuple" #[] 0)).objs.size at this
          rw [sz] at this
          exact absurd this (Nat.lt_irrefl _)
      · intro z
        refine e1a2 (List.mem_map.mp z) fun p hp e => ?_
        have := j2.lt hp
        change p.1 < (h'.push (seqO "tuple" #[] 0)).objs.size at this
        rw [e, sz] at this
        exact absurd this (Nat.lt_irrefl _)
end
noncomputable def nth : Led → Nat → Option (Addr × O)
  | [], _ => none
  | p :: _, 0 => some p
  | _ :: r, n + 1 => nth r n
theorem mg {p : Addr × O} : ∀ {G : Led} (n : Nat), nth G n = some p → p ∈ G
  | [], _, h => by cases h
  | q :: r, 0, h => by cases h; exact .head _
  | q :: r, n + 1, h => .tail _ (mg n h)
section
variable {c : Cx} {A : Around} {env : Env} {F : Frm} {G : Led} {E : LX} {Q : D → Frm → Led → Prop}
theorem geti_nat {d : D} {T : String} {xs : List D} {e : D} (hd : SeqD c F G d T xs) (hT : T = "list" ∨ T = "tuple") (j : Nat) (hj : j ≤ 1000000) (he : xs[j]? = some e) (hq : Q e F G) : GetI c A env F G d (.int (j : Int)) Q E :=
  geti_seq (id := "") hd hT j (.inl ⟨by walk_at "o", by walk_at "o"⟩) (by walk_at "o") (by walk_at "o") he hq
end
local macro_rules | `(tactic| walk_at "h") => `(tactic| first
  | exact mg 0 rfl
  | exact mg 1 rfl
  | exact mg 2 rfl
  | exact mg 3 rfl
  | exact mg 4 rfl
  | exact mg 5 rfl
  | exact mg 6 rfl
  | exact mg 7 rfl
  | exact mg 8 rfl
  | exact mg 9 rfl)
theorem pick_plain (xs : List D) (lo hi : Option Int) : pick xs lo hi none = (xs.drop (lo.elim 0 (clipAt xs.length))).take (hi.elim xs.length (clipAt xs.length) - lo.elim 0 (clipAt xs.length)) := by
  unfold pick
  rw [sliceBounds_plain]
  have := pick_run xs.toArray (lo.elim 0 (clipAt xs.length)) (hi.elim xs.length (clipAt xs.length) - lo.elim 0 (clipAt xs.length))
  simp only [sliceRange_one]
  simpa using this
theorem pick_from (xs : List D) (a : Nat) : pick xs (some a) none none = xs.drop a := by
  rw [pick_plain]
  simp only [Option.elim, clipAt_nat]
  rcases Nat.le_total a xs.length with h | h
  · rw [Nat.min_eq_left h, List.take_of_length_le (by simp)]
  · rw [Nat.min_eq_right h, List.drop_of_length_le (by simp), List.drop_of_length_le (by simpa using h)]; simp
theorem pick_upto (xs : List D) (b : Nat) : pick xs none (some b) none = xs.take b := by
  rw [pick_plain]
  simp only [Option.elim, clipAt_nat, List.drop_zero, Nat.sub_zero]
  rcases Nat.le_total b xs.length with h | h
  · rw [Nat.min_eq_left h]
  · rw [Nat.min_eq_right h, List.take_of_length_le (by simp), List.take_of_length_le (by simpa using h)]
theorem pick_run2 (xs : List D) (a b : Nat) : pick xs (some a) (some b) none = (xs.take b).drop a := by
  rw [pick_plain]
  simp only [Option.elim, clipAt_nat]
  rw [List.drop_take]
  rcases Nat.le_total a xs.length with h | h
  · rw [Nat.min_eq_left h]
    rcases Nat.le_total b xs.length with h2 | h2
    · rw [Nat.min_eq_left h2]
    · rw [Nat.min_eq_right h2, List.take_of_length_le (by simp), List.take_of_length_le (by simp; walk_at "o")]
  · rw [Nat.min_eq_right h, List.drop_of_length_le (by simp), List.drop_of_length_le (by simpa using h)]; simp
theorem pick_last (xs : List D) (k : Nat) (hk : 1 ≤ k) : pick xs (some (-(k : Int))) none none = xs.drop (xs.length - k) := by
  rw [pick_plain]
  simp only [Option.elim, clipAt_neg _ _ hk]
  rw [List.take_of_length_le (by simp)]
section
variable {c : Cx} {A : Around} {env : Env} {w : Wd} {F : Frm} {G : Led} {E : LX} {Q : D → Frm → Led → Prop}
theorem meth_setadd {a : Addr} {ks : List Key} {Q : D → List D → Frm → Led → Prop} (ha : (a, O.set ks) ∈ G) (hq : Q (.bi "set.add") [.ref a] F G) : Meth c A env F G (.ref a) "add" Q E :=
  fun w v pl hv f l hl w1 R s hs S => by
    simp only [Rel] at hv; subst hv
    refine e0a2 (S.get (List.mem_append_left R (List.mem_append_right F.led ha))) fun h1 _ => ?_
    exact getMethod_builtin h1.typeIs PySem.F.plainAttrs_set PySem.F.slot_set_add PySem.F.type_set_add h1.noDict ⟨w1, (D.bi "set.add", [D.ref a]), _, .refl _, ⟨by simp [Rel], .one (by simp [Rel])⟩, S, F, G, f, rfl, hq⟩
theorem AT.apart {α β : Type} {rel : Wd → β → α → Prop} {t : Sem α} {Q : β → Frm → Led → Prop} (h : ((F.led ++ G).map (·.1)).Nodup → AT c A env rel w F G t Q E) : AT c A env rel w F G t Q E := fun f l hl w1 R s hs S => by
  have nd := S.nd
  rw [List.map_append] at nd
  exact h (List.nodup_append.mp nd).1 f l hl w1 R s hs S
end
section
variable {c : Cx} {A : Around} {env : Env} {F : Frm} {G : Led} {E : LX} {Q : D → Frm → Led → Prop} {α : Type}
theorem sl_from {e : α → D} {xs : List α} {a : Nat} {d : D} (h1 : SeqD c F G d "list" (xs.map e)) (h2 : xs.length ≤ 1000000) (hq : Q (.list ((xs.drop a).map e)) F G) : kSl4 c d (.int (a : Int)) .none Q .none F G :=
  ⟨xs.map e, some a, none, none, h1, by simpa using h2, rfl, rfl, rfl, by simp, by rw [pick_from, ← List.map_drop]; exact hq⟩
theorem sl_upto {e : α → D} {xs : List α} {b : Nat} {d : D} (h1 : SeqD c F G d "list" (xs.map e)) (h2 : xs.length ≤ 1000000) (hq : Q (.list ((xs.take b).map e)) F G) : kSl4 c d .none (.int (b : Int)) Q .none F G :=
  ⟨xs.map e, none, some b, none, h1, by simpa using h2, rfl, rfl, rfl, by simp, by rw [pick_upto, ← List.map_take]; exact hq⟩
theorem ForK.ofE {tg : Expr} {b o : List Stmt} {Q : Fl → Frm → Led → Prop} {d : D} {F1 : Frm} {G1 : Led} {e : α → D} (xs : List α) (P : Led → Prop) (Inv : Nat → Frm → Led → Prop) (hI : IterOf c A d (xs.map e) P) (h0 : Inv 0 F1 G1) (hP : ∀ i F G, Inv i F G → P (F.led ++ G))
    (turn : ∀ i x F G, xs[i]? = some x → Inv i F G → Asg c A env F G tg (e x) (kBody c A env b (turnQ Q (Inv (i + 1))) E) E) (fin : ∀ F G, Inv xs.length F G → AS c A env F G o Q E) : ForK c A env tg b o Q E d F1 G1 :=
  ⟨xs.map e, P, Inv, hI, h0, hP, fun i d F G hd z => by
    rw [List.getElem?_map] at hd
    refine e1a2 (Option.map_eq_some_iff.mp hd) fun x hx zq110 => ?_
    subst zq110
    exact turn i x F G hx z, fun F G z => fin F G (by rw [List.length_map] at z; exact z)⟩
end
theorem Sim.newW {c : Cx} {l : List Env} {w : Wd} {G : Led} {s : Shared} (S : Sim c l w G s) : w s.heap.objs.size = none ∧ s.heap.objs.size ∉ G.map (·.1) := by
  constructor
  · cases q : w s.heap.objs.size with
    | none => rfl
    | some o => exact absurd (Heap.lt_size (S.wok _ _ q)) (Nat.lt_irrefl _)
  · intro q
    refine e1a2 (List.mem_map.mp q) fun p hp e => ?_
    exact absurd (S.lt hp) (by rw [e]; exact Nat.lt_irrefl _)
section
variable {c : Cx} {A : Around} {env : Env} {w : Wd} {F : Frm} {G : Led} {E : LX} {Q : D → Frm → Led → Prop}
theorem call_range1 {n : Int} (hq : Q (.range 0 n 1) F G) : CallD c A env F G (.typ "range") [.int n] Q E := fun w v vs hv hvs f l hl' w1 R s hs S => by
  simp only [Rel] at hv; subst hv
  simp only [Rels, Rel] at hvs
  refine e2a3 hvs ?_
  try clear hvs
  intro _ r1 zq111 zq112 zq113
  subst zq111
  obtain ⟨t, rfl⟩ := zq112
  subst zq113
  refine call_range_1 ?_
  refine e0a2 (S.allocF (ob := { cls := .type "range", data := .fields #[.int 0 s.toks, .int n t, .int 1 (s.toks + 1)] }) rfl) fun k1 k2 => ?_
  refine ⟨_, .range 0 n 1, _, k1, ?_, k2.toks _, F, G, f, rfl, hq⟩
  simp only [Rel]; exact ⟨_, _, _, _, rfl, Wd.add_self _ _ _⟩
theorem call_range2 {a n : Int} (hq : Q (.range a n 1) F G) : CallD c A env F G (.typ "range") [.int a, .int n] Q E := fun w v vs hv hvs f l hl' w1 R s hs S => by
  simp only [Rel] at hv; subst hv
  simp only [Rels, Rel] at hvs
  refine e2a3 hvs ?_
  try clear hvs
  intro _ r1 zq114 zq115 zq116
  subst zq114
  obtain ⟨t, rfl⟩ := zq115
  obtain ⟨_, r2, rfl, ⟨t2, rfl⟩, rfl⟩ := zq116
  refine call_range_2 ?_
  refine e0a2 (S.allocF (ob := { cls := .type "range", data := .fields #[.int a t, .int n t2, .int 1 s.toks] }) rfl) fun k1 k2 => ?_
  refine ⟨_, .range a n 1, _, k1, ?_, k2.toks _, F, G, f, rfl, hq⟩
  simp only [Rel]; exact ⟨_, _, _, _, rfl, Wd.add_self _ _ _⟩
theorem rels_ints {w : Wd} : ∀ {ns : List Int} {vs : List Value}, Rels w (ns.map .int) vs → ∃ xs : Array (Int × Tok), vs.toArray = intItems xs ∧ xs.toList.map (·.1) = ns
  | [], _, h => by simp only [List.map_nil, Rels] at h; subst h; exact ⟨#[], by simp [intItems], rfl⟩
  | n :: ns, _, h => by
    simp only [List.map_cons, Rels, Rel] at h
    refine e2a3 h ?_
    try clear h
    intro _ r zq117 zq118 h
    subst zq117
    obtain ⟨t, rfl⟩ := zq118
    refine e1a2 (rels_ints h) fun xs h1 h2 => ?_
    have h1' : r = (intItems xs).toList := by rw [← h1]
    refine ⟨((n, t) :: xs.toList).toArray, ?_, by simp [h2]⟩
    rw [h1']; simp [intItems]
theorem preSum_numAt (xs : Array (Int × Tok)) : preSum (numAt xs) xs.size = (xs.toList.map (·.1)).sum := by
  rw [preSum_eq, List.take_of_length_le (by simp)]
theorem call_sum {n : Nat} {d : D} {ns : List Int} (hR : Rm n A) (hd : SeqD c F G d "list" (ns.map .int)) (hq : Q (.int ns.sum) F G) : CallD c A env F G (.bi "sum") [d] Q E := fun w v vs hv hvs f l hl' w1 R s hs S => by
  simp only [Rel] at hv; subst hv
  simp only [Rels] at hvs
  refine e2a3 hvs ?_
  try clear hvs
  intro v1 r1 zq119 hv1 zq120
  subst zq119
  subst zq120
  refine e3a3 (hd l w1 R s v1 (hv1.mono hs) S) fun a vs n zq121 h1 h2 => ?_
  subst zq121
  refine e1a2 (rels_ints h2) fun xs e1 e2 => ?_
  have hl : s.heap.IsList a (intItems xs) := ⟨_, h1, rfl, n, by rw [← e1]⟩
  refine sum_intListG hR.handled hl fun h' tk t' hk => ?_
  refine ⟨w1, .int ns.sum, _, .refl _, ?_, (S.more hk).toks tk, F, G, f, rfl, hq⟩
  simp only [Rel]; exact ⟨t', by rw [preSum_numAt, e2]⟩
noncomputable def AsgN (c : Cx) (A : Around) (env : Env) (F : Frm) (G : Led) (ts : List (Value → Sem Unit)) (ds : List D) (Q : Frm → Led → Prop) (E : LX) : Prop :=
  ∀ w vs, Rels w ds vs → AT c A env Rel1 w F G (assignInOrder ts vs) (fun (_ : Unit) F1 G1 => Q F1 G1) E
theorem asgn_nil {Q : Frm → Led → Prop} (hq : Q F G) : AsgN c A env F G [] [] Q E := fun w vs hv => by
  simp only [Rels] at hv; subst hv
  exact AT.pure (b := ()) rfl (fun _ _ z => z) hq
theorem asgn_cons {tg : Expr} {ts : List (Value → Sem Unit)} {d : D} {ds : List D} {Q : Frm → Led → Prop} (h : Asg c A env F G tg d (fun F1 G1 => AsgN c A env F1 G1 ts ds Q E) E) : AsgN c A env F G (assign tg env :: ts) (d :: ds) Q E := fun w vs hv => by
  simp only [Rels] at hv
  refine e2a3 hv ?_
  try clear hv
  intro v r zq122 h1 h2
  subst zq122
  show AT c A env Rel1 w F G (do holding r (assign tg env v); assignInOrder ts r) _ _
  exact AT.bind (AT.holding ((h w v h1).mono (fun _ F1 G1 h3 w1 _ hs _ => h3 w1 r (h2.mono hs)) fun _ _ _ _ z => z))
theorem asg_Tuple {n : Nat} {elts : List Expr} {k : Nat} {pos : Pos} {ds : List D} {Q : Frm → Led → Prop} (hR : Rm n A) (h : AsgN c A env F G ((assignEach elts env).map (·.2)) ds Q E) (hn : (assignEach elts env).length = ds.length := by with_unfolding_all rfl) (hstar : (assignEach elts env).findIdx? (·.1) = none := by with_unfolding_all rfl) :
    Asg c A env F G (.Tuple elts k pos) (.tuple ds) Q E := fun w v hv f l hl w1 R s hs S => by
  simp only [Rel] at hv
  refine e3a3 hv ?_
  try clear hv
  intro a vs m zq123 h1 h2
  subst zq123
  refine wpAny_assign_Tuple hR.handled (S.isTuple (hs _ _ h1)) (by rw [hn]; have := h2.length; simpa using this.symm) hstar fun h' he => ?_
  exact h w vs.toList h2 f l hl w1 R _ hs (S.more fun b o e => he b o (Nat.ne_of_lt (Heap.lt_size e)) e)
theorem geta_args {x : Addr} {X : String} {args : List D} (FX : ExcAttrFacts X) (hx : (x, O.exc (.type X) args) ∈ G) (hq : Q (.tuple args) F G) : GetA c A env F G (.ref x) "args" Q E := fun w v hv f l hl w1 R s hs S => by
  simp only [Rel] at hv; subst hv
  refine e3a5 (S.get (List.mem_append_left R (List.mem_append_right F.led hx))) fun ob vs t h1 h2 h3 h4 zq124 => ?_
  obtain ⟨us, n, h5, h6⟩ := zq124
  refine args_attr FX h1 h2 h3 h4 ⟨w1, .tuple args, _, .refl _, ?_, S.toks _, F, G, f, rfl, hq⟩
  simp only [Rel]; exact ⟨t, us, n, rfl, h5, h6⟩
theorem call_index {d : D} {k : Key} {ks : List Key} (hd : SeqD c F G d "list" (ks.map Key.d)) (hk : k ∈ ks) (hl : ks.length ≤ 1000000) (hq : Q (.int (ks.idxOf k : Nat)) F G) : CallD c A env F G (.bi "list.index") [d, k.d] Q E := fun w v vs hv hvs f l hl' w1 R s hs S => by
  simp only [Rel] at hv; subst hv
  simp only [Rels] at hvs
  refine e2a3 hvs ?_
  try clear hvs
  intro v1 r1 zq125 hv1 zq126
  subst zq125
  obtain ⟨v2, r2, rfl, hv2, rfl⟩ := zq126
  refine e3a3 (hd l w1 R s v1 (hv1.mono hs) S) fun a vs n zq127 h1 h2 => ?_
  subst zq127
  refine e0a2 (Key.is_of_rel hv2) fun ki ko => ?_
  have hlt := List.idxOf_lt_length_of_mem hk
  have hz : vs.size = ks.length := by simpa using h2.length
  have at_ : ∀ (i : Nat) (hi : i < vs.size), ∃ k', ks[i]? = some k' ∧ Key.is k' vs[i] = true := fun i hi => by
    have hi' : i < ks.length := by walk_at "q"
    refine e1a2 (h2.get (i := i) (d := ks[i].d) (by simp [hi'])) fun v e1 e2 => ?_
    have e3 : v = vs[i] := by simp [hi] at e1; exact e1.symm
    subst e3
    exact ⟨ks[i], by simp [hi'], (Key.is_of_rel e2).1⟩
  have hj : ks.idxOf k < vs.size := by walk_at "q"
  refine call_meets PySem.F.slot_list_index ⟨_, h1, rfl⟩ PySem.F.entry_list_index (PySem.F.args_list_index_2 _ _) (MeetsSeq.list_index a vs n v2 (fun y => Key.is k y) (fun y hy => ?_) (ks.idxOf k) hj (by walk_at "q") ?_ ?_) ⟨h1, ⟨w1, .int (ks.idxOf k : Nat), _, .refl _, ?_, S.toks _, F, G, f, rfl, hq⟩⟩
  · refine e1a1 (Array.getElem_of_mem hy) fun i zq128 => ?_
    obtain ⟨hi, rfl⟩ := zq128
    refine e1a2 (at_ i hi) fun k' e1 e2 => ?_
    have e3 : Key.is k vs[i] = decide (k' = k) := by
      by_cases q : k' = k
      · subst q; simp [e2]
      · cases z : Key.is k vs[i] with
        | false => simp [q]
        | true => exact absurd ((kk c.prog c.wd).inj _ _ _ e2 z) q
    intro prog' w' A' E' s' Q' hq'
    rw [e3] at hq'
    exact (kk prog' w').eqBool e2 ki hq'
  · refine e1a2 (at_ _ hj) fun k' e1 e2 => ?_
    have : k' = k := by
      have := List.getElem_idxOf hlt
      rw [List.getElem?_eq_getElem hlt, this] at e1
      exact (Option.some.inj e1).symm
    rw [this] at e2; exact e2
  · intro m hm hmj
    refine e1a2 (at_ _ hm) fun k' e1 e2 => ?_
    cases q : Key.is k vs[m] with
    | false => rfl
    | true =>
      exfalso
      have e3 := (kk c.prog c.wd).inj _ _ _ e2 q
      subst e3
      have : ks[m]'(by walk_at "q") = k' := by
        rw [List.getElem?_eq_getElem (by walk_at "q")] at e1; exact Option.some.inj e1
      have z := List.not_of_lt_findIdx (p := (· == k')) (xs := ks) (i := m) hmj
      simp [this] at z
  · simp only [Rel]; exact ⟨_, rfl⟩
end
noncomputable def FinOk (g : Key → List Key) (fin : List Key) : Prop := ∀ a b u, fin = a ++ u :: b → ∀ v ∈ g u, v ∈ a
noncomputable def Took (g : Key → List Key) (fin : List Key) (k : Key) (i : Nat) : Option Key → Prop
  | some v => 1 ≤ i ∧ (g k)[i - 1]? = some v ∧ ∀ j < i - 1, ∀ u, (g k)[j]? = some u → u ∈ fin
  | none => i ≤ (g k).length ∧ ∀ j < i, ∀ u, (g k)[j]? = some u → u ∈ fin
noncomputable def StkOk (g : Key → List Key) (fin : List Key) : List (Key × Nat) → Option Key → Prop
  | [], _ => True
  | [(k, i)], p => Took g fin k i p
  | (k, i) :: (k', i') :: r, p => Took g fin k i (some k') ∧ StkOk g fin ((k', i') :: r) p
theorem FinOk.snoc {g : Key → List Key} {fin : List Key} {u : Key} (h : FinOk g fin) (hu : ∀ v ∈ g u, v ∈ fin) : FinOk g (fin ++ [u]) := by
  intro a b x e v hv
  rcases List.append_eq_append_iff.mp e with ⟨c, h1, h2⟩ | ⟨c, h1, h2⟩
  · -- a = fin ++ c, [u] = c ++ x :: b
    cases c with
    | nil => simp at h2; obtain ⟨rfl, rfl⟩ := h2; rw [h1]; simpa using hu v hv
    | cons y r => simp at h2
  · cases c with
    | nil => simp at h2 h1; obtain ⟨rfl, rfl⟩ := h2; subst h1; exact hu v hv
    | cons y r =>
      simp only [List.cons_append, List.cons.injEq] at h2
      refine e0a2 h2 ?_
      try clear h2
      intro zq129 h2
      subst zq129
      exact h a r x h1 v hv
theorem Took.mono {g : Key → List Key} {fin fin' : List Key} {k : Key} {i : Nat} {p : Option Key} (h : Took g fin k i p) (hf : ∀ v ∈ fin, v ∈ fin') : Took g fin' k i p := by
  cases p with
  | some v => exact ⟨h.1, h.2.1, fun j hj u hu => hf _ (h.2.2 j hj u hu)⟩
  | none => exact ⟨h.1, fun j hj u hu => hf _ (h.2 j hj u hu)⟩
theorem StkOk.push {g : Key → List Key} {fin : List Key} {v : Key} : ∀ {st : List (Key × Nat)}, StkOk g fin st (some v) → StkOk g fin (st ++ [(v, 0)]) none
  | [], _ => ⟨Nat.zero_le _, fun j hj => absurd hj (Nat.not_lt_zero _)⟩
  | [(k, i)], h => ⟨h, Nat.zero_le _, fun j hj => absurd hj (Nat.not_lt_zero _)⟩
  | (k, i) :: (k', i') :: r, ⟨h1, h2⟩ => ⟨h1, StkOk.push h2⟩
theorem StkOk.back {g : Key → List Key} {fin : List Key} {v : Key} (hv : v ∈ fin) : ∀ {st : List (Key × Nat)}, StkOk g fin st (some v) → StkOk g fin st none
  | [], _ => trivial
  | [(k, i)], ⟨h1, h2, h3⟩ => by
    have hlt : i - 1 < (g k).length := (List.getElem?_eq_some_iff.mp h2).1
    refine ⟨by walk_at "q", fun j hj u hu => ?_⟩
    by_cases q : j < i - 1
    · exact h3 j q u hu
    · have : j = i - 1 := by walk_at "q"
      subst this; rw [h2] at hu; cases hu; exact hv
  | (k, i) :: (k', i') :: r, ⟨h1, h2⟩ => ⟨h1, StkOk.back hv h2⟩
theorem StkOk.next {g : Key → List Key} {fin : List Key} {k : Key} {i : Nat} {v : Key} (hv : (g k)[i]? = some v) : ∀ {st : List (Key × Nat)}, StkOk g fin (st ++ [(k, i)]) none → StkOk g fin (st ++ [(k, i + 1)]) (some v)
  | [], ⟨h1, h2⟩ => ⟨by walk_at "q", by simpa using hv, fun j hj u hu => h2 j (by walk_at "q") u hu⟩
  | [(k', i')], ⟨h1, h2⟩ => ⟨h1, StkOk.next (st := []) hv h2⟩
  | (k', i') :: (k'', i'') :: r, ⟨h1, h2⟩ => ⟨h1, StkOk.next (st := (k'', i'') :: r) hv h2⟩
theorem StkOk.pop {g : Key → List Key} {fin : List Key} {k : Key} {i : Nat} (hv : (g k)[i]? = none) : ∀ {st : List (Key × Nat)}, StkOk g fin (st ++ [(k, i)]) none → (∀ v ∈ g k, v ∈ fin) ∧ StkOk g (fin ++ [k]) st none
  | [], ⟨h1, h2⟩ => ⟨fun v hm => by
      refine e1a1 (List.mem_iff_getElem.mp hm) fun j zq130 => ?_
      obtain ⟨hj, e⟩ := zq130
      have : (g k).length ≤ i := by simpa using hv
      exact h2 j (by walk_at "q") v (by rw [← e]; exact List.getElem?_eq_getElem hj), trivial⟩
  | [(k', i')], ⟨h1, h2⟩ => by
    refine e0a2 (StkOk.pop (st := []) hv h2) fun h3 h4 => ?_
    exact ⟨h3, StkOk.back (v := k) (by simp) (st := [(k', i')]) (Took.mono h1 (by intro v hv; simp [hv]))⟩
  | (k', i') :: (k'', i'') :: r, ⟨h1, h2⟩ => by
    refine e0a2 (StkOk.pop (st := (k'', i'') :: r) hv h2) fun h3 h4 => ?_
    exact ⟨h3, h1.mono (by intro v hv; simp [hv]), h4⟩
noncomputable def Steps (g : Key → List Key) : List Key → Prop
  | [] => True
  | [_] => True
  | a :: b :: r => b ∈ g a ∧ Steps g (b :: r)
theorem StkOk.steps {g : Key → List Key} {fin : List Key} {v : Key} : ∀ {st : List (Key × Nat)}, StkOk g fin st (some v) → Steps g (st.map (·.1) ++ [v])
  | [], _ => trivial
  | [(k, i)], ⟨h1, h2, h3⟩ => ⟨List.mem_of_getElem? h2, trivial⟩
  | (k, i) :: (k', i') :: r, ⟨⟨h1, h2, h3⟩, h4⟩ => ⟨List.mem_of_getElem? h2, StkOk.steps h4⟩
theorem Steps.drop {g : Key → List Key} : ∀ {l : List Key} (n : Nat), Steps g l → Steps g (l.drop n)
  | _, 0, h => h
  | [], n + 1, _ => trivial
  | [_], n + 1, _ => by simp [Steps]
  | a :: b :: r, n + 1, h => Steps.drop (l := b :: r) n h.2
noncomputable def posE : Nat → List Key → List (Key × D)
  | _, [] => []
  | n, k :: r => (k, .int n) :: posE (n + 1) r
theorem posE_keys : ∀ (n : Nat) (ks : List Key), (posE n ks).map (·.1) = ks
  | _, [] => rfl
  | n, k :: r => by simp [posE, posE_keys (n + 1) r]
theorem posE_append : ∀ (n : Nat) (a b : List Key), posE n (a ++ b) = posE n a ++ posE (n + a.length) b
  | _, [], _ => by simp [posE]
  | n, k :: r, b => by
    simp only [List.cons_append, posE, posE_append (n + 1) r b, List.length_cons]
    congr 3; walk_at "q"
theorem posE_length (n : Nat) (ks : List Key) : (posE n ks).length = ks.length := by
  have := congrArg List.length (posE_keys n ks); simpa using this
theorem dget_posE {k : Key} : ∀ (n : Nat) (ks : List Key), dget k (posE n ks) = if k ∈ ks then some (.int (n + ks.idxOf k : Nat)) else none
  | n, [] => by simp [dget, posE]
  | n, x :: r => by
    have ih := dget_posE (k := k) (n + 1) r
    unfold dget at ih ⊢
    simp only [posE, List.find?_cons]
    by_cases q : x = k
    · subst q; simp
    · simp only [decide_eq_false q]
      rw [ih]
      have q' : ¬ k = x := fun z => q z.symm
      simp only [List.mem_cons, q', false_or]
      split
      · have e : (x :: r).idxOf k = r.idxOf k + 1 := by
          have q2 : (x == k) = false := beq_false_of_ne q
          simp [List.idxOf_cons, q2]
        rw [e]; congr 3; walk_at "q"
      · rfl
theorem dput_posE {k : Key} {ks : List Key} (h : k ∉ ks) : dput k (.int ks.length) (posE 0 ks) = posE 0 (ks ++ [k]) := by
  unfold dput
  rw [if_neg, posE_append]
  · simp [posE]
  · simp only [List.any_eq_true, decide_eq_true_eq, not_exists, not_and]
    rintro p hp e
    exact h (by rw [← posE_keys 0 ks]; exact e ▸ List.mem_map_of_mem hp)
theorem dwo_posE {k : Key} {ks : List Key} (h : k ∉ ks) : dwo k (posE 0 (ks ++ [k])) = posE 0 ks := by
  rw [posE_append]
  unfold dwo
  rw [List.filter_append]
  have e1 : (posE 0 ks).filter (fun p => decide (p.1 ≠ k)) = posE 0 ks := by
    rw [List.filter_eq_self]
    intro p hp
    have : p.1 ∈ ks := by rw [← posE_keys 0 ks]; exact List.mem_map_of_mem hp
    simp; intro z; exact h (z ▸ this)
  rw [e1]; simp [posE]
noncomputable def Tok (n : Nat) (lt : Nat → Nat → Bool) {α : Type} : KasT α → (α → Prop) → Prop
  | .ret a, P => P a
  | .ask i j k, P => i < n ∧ j < n ∧ Tok n lt (k (lt i j)) P
section
variable {n : Nat} {lt : Nat → Nat → Bool} {α β : Type}
theorem Tok.mono : ∀ {t : KasT α} {P P' : α → Prop}, Tok n lt t P → (∀ a, P a → P' a) → Tok n lt t P'
  | .ret a, _, _, h, hp => hp a h
  | .ask i j k, _, _, h, hp => ⟨h.1, h.2.1, Tok.mono h.2.2 hp⟩
theorem Tok.bind {f : α → KasT β} {P : β → Prop} : ∀ {t : KasT α}, Tok n lt t (fun a => Tok n lt (f a) P) → Tok n lt (t.bind f) P
  | .ret a, h => h
  | .ask i j k, h => ⟨h.1, h.2.1, Tok.bind h.2.2⟩
theorem Tok.wp {cmp : Nat → Nat → (Bool → Shared → Prop) → Shared → Prop} {G : α → Shared → Prop} {s : Shared} (hc : ∀ i j C, i < n → j < n → C (lt i j) s → cmp i j C s) : ∀ {t : KasT α}, Tok n lt t (fun a => G a s) → t.kasWp cmp G s
  | .ret a, h => h
  | .ask i j k, h => hc i j _ h.1 h.2.1 (Tok.wp hc h.2.2)
end
section
variable (O : KeyOrd) (key : Nat → O.α)
noncomputable def KA (p : Array Nat) (i : Nat) : O.α := key (p.getD i 0)
noncomputable def SrtTo (p : Array Nat) (k : Nat) : Prop := ∀ i j, i ≤ j → j < k → O.kle (KA O key p i) (KA O key p j)
noncomputable def NInc (p : Array Nat) (k : Nat) : Prop := ∀ i j, i ≤ j → j < k → O.kle (KA O key p j) (KA O key p i)
structure Pm (n : Nat) (p : Array Nat) : Prop where
  size : p.size = n
  perm : p.toList.Perm (List.range n)
variable {O key}
theorem Pm.lt {n : Nat} {p : Array Nat} (h : Pm n p) (hn : 0 < n) (i : Nat) : p.getD i 0 < n := by
  by_cases q : i < p.size
  · have : p.getD i 0 = p[i] := by simp [Array.getD, q]
    rw [this]
    have hm : p[i] ∈ p.toList := by simp
    simpa using h.perm.mem_iff.mp hm
  · have : p.getD i 0 = 0 := by simp [Array.getD, q]
    walk_at "q"
theorem Pm.range (n : Nat) : Pm n (List.toArray (List.range n)) := ⟨by simp, by simp⟩
theorem Pm.rev {n : Nat} {p : Array Nat} (h : Pm n p) (i j : Nat) : Pm n (kas_rev p i j) := by
  refine ⟨by rw [kas_rev, mirror_size]; exact h.size, ?_⟩
  exact ((mirror_perm p i j ((j - i) / 2)).toList).trans h.perm
theorem Pm.bubble {n : Nat} {p : Array Nat} (h : Pm n p) (k d : Nat) : Pm n (PyProof.Rows.bubble p k d) := by
  refine ⟨by rw [bubble_size]; exact h.size, ?_⟩
  exact ((bubble_perm p k d).toList).trans h.perm
theorem KA_of {p q : Array Nat} {i j : Nat} (h : p[i]? = q[j]?) : KA O key p i = KA O key q j := by
  unfold KA
  have e : ∀ (a : Array Nat) (k : Nat), a.getD k 0 = a[k]?.getD 0 := fun a k => by simp
  rw [e, e, h]
theorem KA_rev {p : Array Nat} {i j : Nat} (hj : j ≤ p.size) (k : Nat) : KA O key (kas_rev p i j) k = if i ≤ k ∧ k < j then KA O key p (i + j - 1 - k) else KA O key p k := by
  have e := getElem?_mirror_all (i := i) hj k
  unfold kas_rev
  by_cases h1 : i ≤ k ∧ k < j
  · rw [if_pos h1] at e ⊢; exact KA_of e
  · rw [if_neg h1] at e ⊢; exact KA_of e
theorem KA_revEq {p : Array Nat} {i j : Nat} (hj : j ≤ p.size) (heq : ∀ k, i ≤ k → k < j → KA O key p k = KA O key p (j - 1)) (k : Nat) : KA O key (kas_rev p i j) k = KA O key p k := by
  rw [KA_rev hj]
  split
  · rw [heq _ (by walk_at "q") (by walk_at "q"), heq k (by walk_at "q") (by walk_at "q")]
  · rfl
theorem KA_bub {p : Array Nat} {k d : Nat} (hk : k < p.size) (hd : d ≤ k) (i : Nat) : KA O key (PyProof.Rows.bubble p k d) i = if i = k - d then KA O key p k else if k - d < i ∧ i ≤ k then KA O key p (i - 1) else KA O key p i := by
  have e := getElem?_bubble hk d hd i
  by_cases h1 : i = k - d
  · rw [if_pos h1] at e ⊢; exact KA_of e
  · rw [if_neg h1] at e ⊢
    by_cases h2 : k - d < i ∧ i ≤ k
    · rw [if_pos h2] at e ⊢; exact KA_of e
    · rw [if_neg h2] at e ⊢; exact KA_of e
variable {n : Nat}
variable (O key) in
noncomputable def ltK (i j : Nat) : Bool := O.blt (key i) (key j)
theorem ltK_p {p : Array Nat} {i j : Nat} : ltK O key (p.getD i 0) (p.getD j 0) = O.blt (KA O key p i) (KA O key p j) := rfl
theorem SrtTo.succ {p : Array Nat} {k : Nat} (h : SrtTo O key p k) (h1 : 1 ≤ k) (hk : O.kle (KA O key p (k - 1)) (KA O key p k)) : SrtTo O key p (k + 1) := fun i j hij hj => by
  rcases Nat.lt_or_eq_of_le (Nat.lt_succ_iff.mp hj) with q | q
  · exact h i j hij q
  · subst q
    rcases Nat.lt_or_eq_of_le hij with q | q
    · exact KeyOrd.kle_trans (h i (j - 1) (by walk_at "q") (by walk_at "q")) hk
    · subst q; exact KeyOrd.kle_refl _
theorem NInc.succ {p : Array Nat} {k : Nat} (h : NInc O key p k) (h1 : 1 ≤ k) (hk : O.kle (KA O key p k) (KA O key p (k - 1))) : NInc O key p (k + 1) := fun i j hij hj => by
  rcases Nat.lt_or_eq_of_le (Nat.lt_succ_iff.mp hj) with q | q
  · exact h i j hij q
  · subst q
    rcases Nat.lt_or_eq_of_le hij with q | q
    · exact KeyOrd.kle_trans hk (h i (j - 1) (by walk_at "q") (by walk_at "q"))
    · subst q; exact KeyOrd.kle_refl _
theorem ok_asc {p : Array Nat} (hp : Pm n p) : ∀ (f k : Nat), 1 ≤ k → k + f ≤ n → SrtTo O key p k → Tok n (ltK O key) (kas_asc p f k) (fun m => k ≤ m ∧ m ≤ k + f ∧ SrtTo O key p m ∧ (m = k + f ∨ O.klt (KA O key p m) (KA O key p (m - 1))))
  | 0, k, h1, hf, hs => ⟨Nat.le_refl _, Nat.le_refl _, hs, .inl rfl⟩
  | f + 1, k, h1, hf, hs => by
    refine ⟨hp.lt (by walk_at "q") _, hp.lt (by walk_at "q") _, ?_⟩
    rw [ltK_p]
    cases q : O.blt (KA O key p k) (KA O key p (k - 1)) with
    | true => exact ⟨Nat.le_refl _, by walk_at "q", hs, .inr q⟩
    | false =>
      exact (ok_asc hp f (k + 1) (by walk_at "q") (by walk_at "q") (hs.succ h1 q)).mono fun m ⟨a, b, c, d⟩ => ⟨by walk_at "q", by walk_at "q", c, d.elim (fun d => .inl (by walk_at "q")) .inr⟩
structure Fall (O : KeyOrd) (key : Nat → O.α) (n : Nat) (p : Array Nat) (k q : Nat) : Prop where
  pm : Pm n p
  inc : NInc O key p k
  hq : q + 1 ≤ k
  hk : k ≤ n
  eq : ∀ i, k - (q + 1) ≤ i → i < k → KA O key p i = KA O key p (k - 1)
theorem NInc.congr {p p' : Array Nat} {k : Nat} (h : NInc O key p k) (e : ∀ i, KA O key p' i = KA O key p i) : NInc O key p' k := fun i j a b => by rw [e, e]; exact h i j a b
theorem ok_desc : ∀ (f : Nat) (p : Array Nat) (k q : Nat), k + f ≤ n → Fall O key n p k q → Tok n (ltK O key) (kas_desc f p k q) (fun r => k ≤ r.2.1 ∧ Fall O key n r.1 r.2.1 r.2.2)
  | 0, p, k, q, hf, h => ⟨Nat.le_refl _, h⟩
  | f + 1, p, k, q, hf, h => by
    have hq := h.hq
    refine ⟨h.pm.lt (by walk_at "q") _, h.pm.lt (by walk_at "q") _, ?_⟩
    rw [ltK_p]
    cases z : O.blt (KA O key p k) (KA O key p (k - 1)) with
    | true =>
      show Tok n (ltK O key) (if true = true then _ else _) _
      rw [if_pos rfl]
      have hle := KeyOrd.klt_asymm (O := O) z
      have mk : ∀ p', Pm n p' → (∀ i, KA O key p' i = KA O key p i) → Fall O key n p' (k + 1) 0 := fun p' hp' e => by
        refine ⟨hp', NInc.succ (h.inc.congr e) (by walk_at "q") (by rw [e, e]; exact hle), by walk_at "q", by walk_at "q", fun i a b => ?_⟩
        have : i = k := by walk_at "q"
        subst this; rfl
      by_cases g : q > 0
      · rw [if_pos g]
        exact (ok_desc f _ (k + 1) 0 (by walk_at "q") (mk _ (h.pm.rev _ _) (KA_revEq (by rw [h.pm.size]; exact h.hk) h.eq))).mono fun r ⟨a, b⟩ => ⟨by walk_at "q", b⟩
      · rw [if_neg g]
        exact (ok_desc f _ (k + 1) 0 (by walk_at "q") (mk _ h.pm fun _ => rfl)).mono fun r ⟨a, b⟩ => ⟨by walk_at "q", b⟩
    | false =>
      show Tok n (ltK O key) (if false = true then _ else _) _
      rw [if_neg (by simp)]
      refine ⟨h.pm.lt (by walk_at "q") _, h.pm.lt (by walk_at "q") _, ?_⟩
      rw [ltK_p]
      cases y : O.blt (KA O key p (k - 1)) (KA O key p k) with
      | true => exact ⟨Nat.le_refl _, h⟩
      | false =>
        have e : KA O key p k = KA O key p (k - 1) := O.total _ _ z y
        refine (ok_desc f p (k + 1) (q + 1) (by walk_at "q") ⟨h.pm, h.inc.succ (by walk_at "q") (by rw [e]; exact KeyOrd.kle_refl _), by walk_at "q", by walk_at "q", fun i a b => ?_⟩).mono fun r ⟨a, b⟩ => ⟨by walk_at "q", b⟩
        rw [show k + 1 - 1 = k by walk_at "q"]
        by_cases g : i = k
        · subst g; rfl
        · rw [h.eq i (by walk_at "q") (by walk_at "q"), e]
theorem ok_tail3 {p : Array Nat} {k : Nat} (hp : Pm n p) (h1 : 1 ≤ k) (hk : k ≤ n) (hi : NInc O key p k) : Tok n (ltK O key) (kas_tail3 k n p) (fun r => 1 ≤ r.1 ∧ r.1 ≤ n ∧ Pm n r.2 ∧ SrtTo O key r.2 r.1) := by
  unfold kas_tail3
  refine Tok.bind ((ok_asc (hp.rev 0 k) (n - k) k h1 (by walk_at "q") fun i j hij hj => ?_).mono fun m ⟨a, b, c, d⟩ => ⟨by walk_at "q", by walk_at "q", hp.rev 0 k, c⟩)
  rw [KA_rev (by rw [hp.size]; walk_at "q"), KA_rev (by rw [hp.size]; walk_at "q"), if_pos (by walk_at "q"), if_pos (by walk_at "q")]
  exact hi _ _ (by walk_at "q") (by walk_at "q")
theorem ok_descPart {p : Array Nat} {k : Nat} (hk : k + 1 ≤ n) (h : Fall O key n p (k + 1) 0) : Tok n (ltK O key) (kas_descPart k n p) (fun r => 1 ≤ r.1 ∧ r.1 ≤ n ∧ Pm n r.2 ∧ SrtTo O key r.2 r.1) := by
  unfold kas_descPart
  refine Tok.bind ((ok_desc _ p (k + 1) 0 (by walk_at "q") h).mono fun r ⟨a, b⟩ => ?_)
  by_cases g : r.2.2 > 0
  · rw [if_pos g]
    refine ok_tail3 (b.pm.rev _ _) (by walk_at "q") b.hk (b.inc.congr (KA_revEq (by rw [b.pm.size]; exact b.hk) b.eq))
  · rw [if_neg g]
    exact ok_tail3 b.pm (by walk_at "q") b.hk b.inc
theorem ok_count {p : Array Nat} (hp : Pm n p) (hn : 1 ≤ n) : Tok n (ltK O key) (kas_count n p) (fun r => 1 ≤ r.1 ∧ r.1 ≤ n ∧ Pm n r.2 ∧ SrtTo O key r.2 r.1) := by
  unfold kas_count
  refine Tok.bind ((ok_asc hp (n - 1) 1 (Nat.le_refl _) (by walk_at "q") fun i j hij hj => ?_).mono fun m ⟨a, b, c, d⟩ => ?_)
  · have : i = j := by walk_at "q"
    subst this; exact KeyOrd.kle_refl _
  by_cases g : (m == n) = true
  · rw [if_pos g]
    have g' : m = n := by simpa using g
    exact ⟨a, by walk_at "q", hp, c⟩
  · rw [if_neg g]
    have g' : m ≠ n := by simpa using g
    have hlt : O.klt (KA O key p m) (KA O key p (m - 1)) := d.resolve_left (by walk_at "q")
    have fall : ∀ p', Pm n p' → (∀ i, KA O key p' i = KA O key p i) → (∀ i j, i < m → j < m → KA O key p i = KA O key p j) → Fall O key n p' (m + 1) 0 := fun p' hp' e heq => by
      refine ⟨hp', NInc.succ (fun i j hij hj => ?_) a (by rw [e, e]; exact KeyOrd.klt_asymm hlt), by walk_at "q", by walk_at "q", fun i x y => ?_⟩
      · rw [e, e, heq i j (by walk_at "q") hj]; exact KeyOrd.kle_refl _
      · have : i = m := by walk_at "q"
        subst this; rfl
    by_cases g2 : m > 1
    · rw [if_pos g2]
      refine ⟨hp.lt (by walk_at "q") _, hp.lt (by walk_at "q") _, ?_⟩
      rw [ltK_p]
      cases z : O.blt (KA O key p 0) (KA O key p (m - 1)) with
      | true => exact ⟨a, by walk_at "q", hp, c⟩
      | false =>
        show Tok n (ltK O key) (if false = true then _ else _) _
        rw [if_neg (by simp)]
        have heq : ∀ i, i < m → KA O key p i = KA O key p 0 := fun i hi => by
          have h1 := c 0 i (Nat.zero_le _) hi
          have h2 : O.kle (KA O key p i) (KA O key p 0) := KeyOrd.kle_trans (c i (m - 1) (by walk_at "q") (by walk_at "q")) z
          exact KeyOrd.kle_antisymm h2 h1
        have heq2 : ∀ i j, i < m → j < m → KA O key p i = KA O key p j := fun i j hi hj => (heq i hi).trans (heq j hj).symm
        exact ok_descPart (by walk_at "q") (fall _ (hp.rev 0 m) (KA_revEq (by rw [hp.size]; walk_at "q") fun i _ hi => heq2 i (m - 1) hi (by walk_at "q")) heq2)
    · rw [if_neg g2]
      refine ok_descPart (by walk_at "q") (fall _ hp (fun _ => rfl) fun i j hi hj => ?_)
      have : i = j := by walk_at "q"
      subst this; rfl
theorem ok_place {p : Array Nat} {k : Nat} (hp : Pm n p) (hk : k < n) (hs : SrtTo O key p k) : ∀ (f l r : Nat), l ≤ r → r ≤ k → r - l ≤ f → (∀ i, i < l → O.kle (KA O key p i) (KA O key p k)) → (∀ i, r ≤ i → i < k → O.klt (KA O key p k) (KA O key p i)) →
    Tok n (ltK O key) (kas_place p k f l r) (fun m => m ≤ k ∧ (∀ i, i < m → O.kle (KA O key p i) (KA O key p k)) ∧ ∀ i, m ≤ i → i < k → O.klt (KA O key p k) (KA O key p i))
  | 0, l, r, h1, h2, h3, ha, hb => ⟨by walk_at "q", ha, fun i x y => hb i (by walk_at "q") y⟩
  | f + 1, l, r, h1, h2, h3, ha, hb => by
    unfold kas_place
    by_cases g : l ≥ r
    · rw [if_pos g]; exact ⟨by walk_at "q", ha, fun i x y => hb i (by walk_at "q") y⟩
    · rw [if_neg g]
      refine ⟨hp.lt (by walk_at "q") _, hp.lt (by walk_at "q") _, ?_⟩
      rw [ltK_p]
      cases z : O.blt (KA O key p k) (KA O key p ((l + r) / 2)) with
      | true =>
        show Tok n (ltK O key) (if true = true then _ else _) _
        rw [if_pos rfl]
        exact ok_place hp hk hs f l ((l + r) / 2) (by walk_at "q") (by walk_at "q") (by walk_at "q") ha fun i x y => KeyOrd.klt_of_klt_of_kle z (hs _ i x y)
      | false =>
        show Tok n (ltK O key) (if false = true then _ else _) _
        rw [if_neg (by simp)]
        exact ok_place hp hk hs f ((l + r) / 2 + 1) r (by walk_at "q") h2 (by walk_at "q") (fun i hi => KeyOrd.kle_trans (hs i ((l + r) / 2) (by walk_at "q") (by walk_at "q")) z) hb
theorem SrtTo.ins {p : Array Nat} {k l : Nat} (hz : k < p.size) (hl : l ≤ k) (hs : SrtTo O key p k) (ha : ∀ i, i < l → O.kle (KA O key p i) (KA O key p k)) (hb : ∀ i, l ≤ i → i < k → O.klt (KA O key p k) (KA O key p i)) : SrtTo O key (bubble p k (k - l)) (k + 1) := fun i j hij hj => by
  rw [KA_bub hz (by walk_at "q"), KA_bub hz (by walk_at "q"), show k - (k - l) = l by walk_at "q"]
  by_cases i1 : i = l
  · rw [if_pos i1]
    by_cases j1 : j = l
    · rw [if_pos j1]; exact KeyOrd.kle_refl _
    · rw [if_neg j1, if_pos (by walk_at "q")]; exact KeyOrd.klt_asymm (hb _ (by walk_at "q") (by walk_at "q"))
  · rw [if_neg i1]
    by_cases i2 : l < i ∧ i ≤ k
    · rw [if_pos i2, if_neg (by walk_at "q"), if_pos (by walk_at "q")]; exact hs _ _ (by walk_at "q") (by walk_at "q")
    · rw [if_neg i2]
      by_cases j1 : j = l
      · rw [if_pos j1]; exact ha i (by walk_at "q")
      · rw [if_neg j1]
        by_cases j2 : l < j ∧ j ≤ k
        · rw [if_pos j2]; exact hs _ _ (by walk_at "q") (by walk_at "q")
        · rw [if_neg j2]; exact hs _ _ hij (by walk_at "q")
theorem ok_bin : ∀ (f : Nat) (p : Array Nat) (k : Nat), k + f = n → Pm n p → SrtTo O key p k → Tok n (ltK O key) (kas_bin f p k) (fun q => Pm n q ∧ SrtTo O key q n)
  | 0, p, k, h, hp, hs => ⟨hp, by rw [← h]; exact hs⟩
  | f + 1, p, k, h, hp, hs => by
    unfold kas_bin
    refine Tok.bind ((ok_place hp (by walk_at "q") hs k 0 k (Nat.zero_le _) (Nat.le_refl _) (by walk_at "q") (fun i hi => by walk_at "q") fun i x y => by walk_at "q").mono fun l ⟨a, b, c⟩ => ?_)
    exact ok_bin f _ (k + 1) (by walk_at "q") (hp.bubble _ _) (SrtTo.ins (by rw [hp.size]; walk_at "q") a hs b c)
theorem ok_sort (hn : 1 ≤ n) : Tok n (ltK O key) (kas_sort n) (fun p => Pm n p ∧ SrtTo O key p n) := by
  unfold kas_sort
  refine Tok.bind ((ok_count (Pm.range n) hn).mono fun r ⟨a, b, c, d⟩ => ?_)
  by_cases g : r.1 < n
  · rw [if_pos g, Nat.max_eq_left a]; exact ok_bin _ _ _ (by walk_at "q") c d
  · rw [if_neg g]
    have : r.1 = n := by walk_at "q"
    exact ⟨c, by rw [← this]; exact d⟩
end
noncomputable def SortOk (c : Cx) (A : Around) (U : KeyOrd) (key : D → U.α) (xs : List D) : Prop :=
  ∀ (w : Wd) (s : Shared) vs, (∀ a o, w a = some o → s.heap.get? a = some o) → Rels w xs vs → 2 ≤ xs.length →
   wpAny (model c.prog c.wd) A (keyKind' vs.toArray) (fun κ s' => s' = s ∧ ∀ i j C, i < xs.length → j < xs.length → C (U.blt (key (xs.getD i .none)) (key (xs.getD j .none))) s → kas_ask c.prog c.wd A κ vs i j C s) (fun _ _ => False) s
noncomputable def OrdBy (U : KeyOrd) (key : D → U.α) (ys : List D) : Prop := ys.Pairwise fun a b => U.kle (key a) (key b)
section
variable {c : Cx} {A : Around} {env : Env} {w : Wd} {F : Frm} {G : Led} {E : LX} {Q : D → Frm → Led → Prop}
theorem map_getD_range {α : Type} (xs : List α) (d : α) : (List.range xs.length).map (fun i => xs.getD i d) = xs := by
  apply List.ext_getElem (by simp)
  intro i h1 h2
  simp [h2]
theorem Rels.pick {w : Wd} {xs : List D} {vs : List Value} (h : Rels w xs vs) : ∀ {p : List Nat}, (∀ i ∈ p, i < xs.length) → Rels w (p.map fun i => xs.getD i .none) (p.map fun i => vs.getD i .none)
  | [], _ => .nil
  | i :: p, hp => by
    have hi := hp i (.head _)
    refine e1a2 (h.get (i := i) (d := xs[i]) (by simp [hi])) fun v e1 e2 => ?_
    refine .cons ?_ (Rels.pick h fun j hj => hp j (.tail _ hj))
    have h1 : vs.getD i .none = v := by simp [List.getD, e1]
    have h2 : xs.getD i .none = xs[i] := by simp [List.getD, hi]
    show Rel w (xs.getD i .none) (vs.getD i .none)
    rw [h1, h2]; exact e2
theorem ord_short {U : KeyOrd} {key : D → U.α} : ∀ {xs : List D}, xs.length < 2 → OrdBy U key xs
  | [], _ => .nil
  | [x], _ => by simp [OrdBy]
  | _ :: _ :: _, h => absurd h (by simp)
theorem sort_run {U : KeyOrd} {key : D → U.α} {xs : List D} {l : List Env} {R : Led} {s : Shared} {a : Addr} {vs : List Value} {n : Nat} {L : Addr} {loc : List (Str × D)} {Ev : Value → Shared → Prop} (hso : SortOk c A U key xs) (hl : xs.length < 64)
    (S : Sim c l w ((a, .list xs) :: R) s) (hL : (L, O.ns loc) ∈ R) (ha : s.heap.get? a = some (seqObj "list" vs.toArray n)) (hr : Rels w xs vs) :
    wpAny (model c.prog c.wd) A (Builtin.«list.sort» ⟨[.ref a], []⟩) (fun r s' => r = .done (.ret .none) ∧ ∃ ys, ys.Perm xs ∧ OrdBy U key ys ∧ Sim c l w ((a, .list ys) :: R) s') Ev s := by
  have hlen : vs.length = xs.length := hr.length
  by_cases h2 : xs.length < 2
  · rw [list_sort_plain]
    have ha' : a < s.heap.objs.size := Heap.lt_size ha
    refine wpAny_bind (listItems_at ha rfl ?_)
    refine wpAny_bind (listUpdate_at ha rfl ?_ (by rw [List.size_toArray, sizeLine_eq]; walk_at "q") (Nat.zero_le _))
    obtain ⟨e1, ho1⟩ : ∃ e1, (s.heap.update a (Obj.mapSeq fun _ => #[])).get? a = some (seqObj "list" #[] e1) := ⟨_, get?_update_seq ha (fun _ => #[])⟩
    refine wpAny_bind (seqEpoch_at ho1 rfl ?_)
    refine wpAny_bind (wpAny_newTuple ?_ (by show vs.length ≤ _; rw [sizeLine_eq]; walk_at "q"))
    refine wpAny_bind (wpAny_newList ?_ (Nat.zero_le _))
    refine wpAny_holding ?_
    have ho6 : (((s.heap.update a (Obj.mapSeq fun _ => #[])).push (seqObj "tuple" vs.toArray 0)).push (seqObj "list" #[] 0)).get? a = some (seqObj "list" #[] e1) := by
      rw [Heap.get?_push_ne _ _ _ (by rw [size_push', Heap.size_update]; exact Nat.ne_of_lt (Nat.lt_succ_of_lt ha')), Heap.get?_push_ne _ _ _ (by rw [Heap.size_update]; exact Nat.ne_of_lt ha')]
      exact ho1
    show wpAny (model c.prog c.wd) A _ _ _ { s with heap := ((s.heap.update a (Obj.mapSeq fun _ => #[])).push (seqObj "tuple" vs.toArray 0)).push (seqObj "list" #[] 0) }
    dsimp only
    have h2' : vs.toArray.size < 2 := by simp; walk_at "q"
    rw [if_pos h2', if_pos h2']
    refine wpAny_bind (wpAny_pure ?_)
    rw [StateT.run_pure]
    refine wpAny_bind (wpAny_pure ?_)
    dsimp only
    refine wpAny_bind (seqEpoch_at ho6 rfl ?_)
    refine wpAny_bind (listUpdate_at ho6 rfl ?_ (Nat.zero_le _) (by rw [Array.size_map]; show (pairsOf vs).size ≤ _; rw [pairsOf_size, sizeLine_eq]; walk_at "q"))
    simp only [bne_self_eq_false, Bool.false_eq_true, if_false]
    refine wpAny_pure ⟨rfl, xs, .refl _, ?_, ?_⟩
    · exact ord_short h2
    · have S1 := upd_list (A := []) (tk := s.toks) (ys := []) (g := fun _ => #[]) S ha .nil (by simp)
      have S2 := (S1.push (ob := seqObj "tuple" vs.toArray 0)).push (ob := seqObj "list" #[] 0)
      exact upd_list (A := []) (tk := s.toks) (ys := xs) S2 ho6 (by
        show Rels w xs ((pairsOf vs).map (·.2)).toList
        have : ((pairsOf vs).map (·.2)).toList = vs := by rw [Array.toList_map, pairsOf_toList]; simp [List.map_snd_zip]
        rw [this]; exact hr) (by walk_at "q")
  · have hnd := S.nd
    rw [List.map_cons, List.nodup_cons] at hnd
    have hLa : L ≠ a := fun e => hnd.1 (List.mem_map.mpr ⟨_, hL, e⟩)
    refine e3a4 (S.get (List.mem_cons_of_mem _ hL)) fun ob ents n0 q1 q2 q3 q4 => ?_
    have hm : s.heap.Ns L (nsFind ents) := ⟨ob, ents, n0, q1, q2, q3, fun _ => rfl⟩
    have wa : w a = none := (S.ents _ (.head _)).1
    have wL : w L = none := (S.ents _ (List.mem_cons_of_mem _ hL)).1
    refine kat_list_sort (h₀ := {}) (L := L) (m := nsFind ents) (news := objsBut s.heap [L, a]) (fr_of hm) (news_of (by simp)) ha (Ne.symm hLa) (by simp [Heap.get?]) (fun p hp e => ?_) (by walk_at "q") (by walk_at "q") fun e1 h' F' N' => ?_
    · obtain ⟨b, o⟩ := p
      have := (mem_objsBut.mp hp).1
      simp only [List.mem_cons, not_or] at this
      exact this.2.1 e
    · have keep : ∀ b o, b ≠ a → b ≠ L → s.heap.get? b = some o → h'.get? b = some o := fun b o x y z => (N' (b, o) (List.mem_cons_of_mem _ (mem_objsBut.mpr ⟨by simp [x, y], z⟩))).1
      have wk : ∀ b o, w b = some o → h'.get? b = some o := fun b o z => keep b o (fun e => by rw [e, wa] at z; cases z) (fun e => by rw [e, wL] at z; cases z) (S.wok b o z)
      refine wpAny_mono (hso w { s with heap := h' } vs wk hr (by walk_at "q")) (fun κ s' z9 => ?_) fun _ _ z => z
      refine e0a2 z9 ?_
      try clear z9
      intro es hask
      subst es
      rw [hlen]
      refine Tok.wp (n := xs.length) (lt := ltK U fun i => key (xs.getD i .none)) (fun i j C hi hj hC => hask i j C hi hj hC) ?_
      refine (ok_sort (O := U) (key := fun i => key (xs.getD i .none)) (by walk_at "q")).mono fun p ⟨pm, ps⟩ => ?_
      have pl : ∀ i ∈ p.toList, i < xs.length := fun i hi => by simpa using pm.perm.mem_iff.mp hi
      refine KasFin.intro F' N' (.head fun q hq e => ?_) fun h'' c' F'' N'' => ⟨rfl, p.toList.map fun i => xs.getD i .none, ?_, ?_, ?_⟩
      · obtain ⟨b, o⟩ := q
        have := (mem_objsBut.mp hq).1
        simp only [List.mem_cons, not_or] at this
        exact this.2.1 e
      · have := pm.perm.map fun i => xs.getD i .none
        rwa [map_getD_range] at this
      · unfold OrdBy
        rw [List.pairwise_iff_getElem]
        intro i j hi hj hij
        have hi' : i < p.size := by simpa using hi
        have hj' : j < p.size := by simpa using hj
        have := ps i j (Nat.le_of_lt hij) (by rw [← pm.size]; exact hj')
        unfold KA at this
        have g : ∀ k (hk : k < p.size), p.getD k 0 = p[k] := fun k hk => by simp [Array.getD, hk]
        rw [g i hi', g j hj'] at this
        simpa using this
      · have keep2 : ∀ b o, b ≠ a → b ≠ L → s.heap.get? b = some o → h''.get? b = some o := fun b o x y z => (N'' (b, o) (List.mem_cons_of_mem _ (mem_objsBut.mpr ⟨by simp [x, y], z⟩))).1
        refine Sim.put2 (A := []) (s := s) (tk := s.toks) (o := .list xs) S (List.mem_cons_of_mem _ hL) hm keep2 F''.ns hLa ⟨_, _, (N'' _ (.head _)).1, ?_, ?_⟩ rfl
        · exact hr.pick pl
        · have := pm.size; simp; walk_at "q"
theorem call_sorted {U : KeyOrd} {key : D → U.α} {d : D} {T : String} {xs : List D} (hd : SeqD c F G d T xs) (hT : T = "list" ∨ T = "tuple") (hl : xs.length < 64) (hso : SortOk c A.in1.in1 U key xs)
    (hq : ∀ ys, ys.Perm xs → OrdBy U key ys → Q (.list ys) F G) : CallD c A env F G (.bi "sorted") [d] Q E := fun w v vs hv hvs f l hl' w1 R s hs S => by
  simp only [Rel] at hv; subst hv
  simp only [Rels] at hvs
  refine e2a3 hvs ?_
  try clear hvs
  intro v1 r1 zq131 hv1 zq132
  subst zq131
  subst zq132
  refine e3a3 (hd l w1 R s v1 (hv1.mono hs) S) fun a us n zq133 h1 h2 => ?_
  subst zq133
  have hz : us.size = xs.length := by have := h2.length; simpa using this
  refine Calls.call_function_entry kind_sorted plain_sorted entry_sorted (args_sorted1 _) ?_
  unfold Builtin.«sorted»
  refine wpAny_bind (m := checkCount "sorted" 1 1 _) (wpAny_pure ?_)
  refine wpAny_bind (wpAny_collect_seq a hT h1 rfl rfl (fun h' hk => ?_) (by rw [sizeLine_eq]; walk_at "q"))
  have S1 : Sim c l w1 (F.led ++ G ++ R) { s with heap := h' } := S.more hk
  refine wpAny_bind (wpAny_newList ?_ (by rw [sizeLine_eq]; simp; walk_at "q"))
  have S2 : Sim c l w1 ((h'.objs.size, .list xs) :: (F.led ++ G ++ R)) { s with heap := h'.push (seqObj "list" us.toList.toArray 0) } := S1.alloc rfl ⟨_, _, Heap.get?_push_size _ rfl, by simpa using h2, by walk_at "q"⟩
  have hoL : (h'.push (seqObj "list" us.toList.toArray 0)).get? h'.objs.size = some (seqObj "list" us.toList.toArray 0) := Heap.get?_push_size _ rfl
  refine wpAny_bind (wpAny_holding (wpAny_call_entry slot_list_sort ⟨_, hoL, rfl⟩ entry_list_sort ?_ (args_list_sort _)))
  refine wpAny_mono (sort_run (L := F.L) (loc := F.loc) hso hl S2 (by simp [Frm.led]) hoL h2) (fun r s' z9 => ?_) fun _ _ z => z
  refine e0a2 z9 ?_
  try clear z9
  intro e zq134
  obtain ⟨ys, p1, p2, S3⟩ := zq134
  subst e
  refine e1a3 (Sim.freezeList (A := []) S3) fun w' k1 k2 k3 => ?_
  exact ⟨_, rfl, wpAny_pure ⟨_, rfl, w', .list ys, _, k1, k3, k2, F, G, f, rfl, hq ys p1 p2⟩⟩
end
noncomputable def intOrd : KeyOrd where
  α := Int
  blt a b := decide (a < b)
  irrefl a := by simp
  trans a b c h1 h2 := by simp only [decide_eq_true_eq] at *; walk_at "q"
  negTrans a b c h := by simp only [decide_eq_true_eq] at *; walk_at "q"
  total a b h1 h2 := by simp only [decide_eq_false_iff_not] at *; walk_at "q"
noncomputable def lexOrd (U V : KeyOrd) : KeyOrd where
  α := U.α × V.α
  blt a b := U.blt a.1 b.1 || (!U.blt b.1 a.1 && V.blt a.2 b.2)
  irrefl a := by simp [U.irrefl, V.irrefl]
  trans a b c h1 h2 := by
    simp only [Bool.or_eq_true, Bool.and_eq_true, Bool.not_eq_true'] at *
    rcases h1 with h1 | ⟨h1, h1'⟩
    · rcases h2 with h2 | ⟨h2, h2'⟩
      · exact .inl (U.trans _ _ _ h1 h2)
      · exact .inl (KeyOrd.klt_of_klt_of_kle h1 h2)
    · rcases h2 with h2 | ⟨h2, h2'⟩
      · exact .inl (KeyOrd.klt_of_kle_of_klt h1 h2)
      · exact .inr ⟨KeyOrd.kle_trans (O := U) h1 h2, V.trans _ _ _ h1' h2'⟩
  negTrans a b c h := by
    simp only [Bool.or_eq_true, Bool.and_eq_true, Bool.not_eq_true'] at *
    rcases h with h | ⟨h, h'⟩
    · rcases U.negTrans _ b.1 _ h with q | q
      · exact .inl (.inl q)
      · exact .inr (.inl q)
    · cases e1 : U.blt a.1 b.1 with
      | true => exact .inl (.inl rfl)
      | false =>
        cases e2 : U.blt b.1 c.1 with
        | true => exact .inr (.inl rfl)
        | false =>
          rcases V.negTrans _ b.2 _ h' with q | q
          · refine .inl (.inr ⟨?_, q⟩)
            exact KeyOrd.kle_trans (O := U) (a := a.1) (b := c.1) (c := b.1) h e2
          · refine .inr (.inr ⟨?_, q⟩)
            exact KeyOrd.kle_trans (O := U) (a := b.1) (b := a.1) (c := c.1) e1 h
  total a b h1 h2 := by
    simp only [Bool.or_eq_false_iff] at *
    have e := U.total _ _ h1.1 h2.1
    obtain ⟨a1, a2⟩ := a
    obtain ⟨b1, b2⟩ := b
    dsimp only at *
    subst e
    simp only [U.irrefl, Bool.not_false, Bool.true_and] at h1 h2
    rw [V.total _ _ h1.2 h2.2]
noncomputable def srt {α : Type} (U : KeyOrd) (k : α → U.α) (xs : List α) : List α := xs.mergeSort fun a b => !U.blt (k b) (k a)
theorem srt_perm {α : Type} (U : KeyOrd) (k : α → U.α) (xs : List α) : (srt U k xs).Perm xs := List.mergeSort_perm _ _
theorem srt_ord {α : Type} (U : KeyOrd) (k : α → U.α) (xs : List α) : (srt U k xs).Pairwise fun a b => U.kle (k a) (k b) := by
  have := List.pairwise_mergeSort (le := fun a b => !U.blt (k b) (k a)) (fun a b c h1 h2 => by
    simp only [Bool.not_eq_true'] at *; exact KeyOrd.kle_trans (O := U) h1 h2) (fun a b => by
    simp only [Bool.or_eq_true, Bool.not_eq_true']
    cases e : U.blt (k b) (k a) with
    | false => exact .inl rfl
    | true => exact .inr (KeyOrd.klt_asymm (O := U) e)) xs
  exact this.imp fun h => by simp only [Bool.not_eq_true'] at h; exact h
theorem srt_one {α : Type} {U : KeyOrd} {k : α → U.α} {xs ys : List α} (inj : ∀ a ∈ xs, ∀ b ∈ xs, k a = k b → a = b) (hp : ys.Perm xs) (ho : ys.Pairwise fun a b => U.kle (k a) (k b)) : ys = srt U k xs :=
  List.Perm.eq_of_pairwise (fun a b ha hb h1 h2 => inj a (hp.mem_iff.mp ha) b ((srt_perm U k xs).mem_iff.mp hb) (KeyOrd.kle_antisymm (O := U) h1 h2)) ho (srt_ord U k xs) (hp.trans (srt_perm U k xs).symm)
theorem perm_map {α β : Type} {f : α → β} : ∀ {xs : List α} {ys : List β}, ys.Perm (xs.map f) → ∃ zs : List α, zs.Perm xs ∧ ys = zs.map f := by
  intro xs ys h
  generalize e : xs.map f = m at h
  induction h generalizing xs with
  | nil => cases xs with
    | nil => exact ⟨[], .nil, rfl⟩
    | cons _ _ => cases e
  | cons x p ih =>
    cases xs with
    | nil => cases e
    | cons y r =>
      simp only [List.map_cons, List.cons.injEq] at e
      refine e1a2 (ih e.2) fun zs h1 h2 => ?_
      exact ⟨y :: zs, h1.cons y, by rw [h2, ← e.1]; rfl⟩
  | swap x y l =>
    match xs, e with
    | a :: b :: r, e =>
      simp only [List.map_cons, List.cons.injEq] at e
      exact ⟨b :: a :: r, .swap a b r, by rw [← e.1, ← e.2.1, ← e.2.2]; rfl⟩
  | trans p q ih1 ih2 =>
    refine e1a2 (ih2 e) fun zs h1 h2 => ?_
    refine e1a2 (ih1 h2.symm) fun us h3 h4 => ?_
    exact ⟨us, h3.trans h1, h4⟩
section
variable {c : Cx} {A : Around} {env : Env} {w : Wd} {F : Frm} {G : Led} {E : LX} {Q : D → Frm → Led → Prop}
theorem call_sortedE {α : Type} {U : KeyOrd} {key : D → U.α} (e : α → D) (k : α → U.α) {d : D} {T : String} {xs : List α} (inj : ∀ a ∈ xs, ∀ b ∈ xs, k a = k b → a = b) (hk : ∀ a, key (e a) = k a) (hd : SeqD c F G d T (xs.map e)) (hT : T = "list" ∨ T = "tuple") (hl : xs.length < 64)
    (hso : SortOk c A.in1.in1 U key (xs.map e)) (hq : Q (.list ((srt U k xs).map e)) F G) : CallD c A env F G (.bi "sorted") [d] Q E := by
  refine call_sorted hd hT (by simpa using hl) hso fun ys hp ho => ?_
  refine e1a2 (perm_map hp) fun zs h1 zq135 => ?_
  subst zq135
  have : zs.Pairwise fun a b => U.kle (k a) (k b) := by
    unfold OrdBy at ho
    rw [List.pairwise_map] at ho
    exact ho.imp fun h => by rw [hk, hk] at h; exact h
  rw [srt_one inj h1 this]; exact hq
noncomputable def keyI : D → Int
  | .int i => i
  | _ => 0
noncomputable def keyIS : D → Int × List Nat
  | .tuple [.int i, .str s] => (i, s.cps.toList)
  | _ => (0, [])
theorem getD_map {α : Type} {e : α → D} {xs : List α} {vs : List Value} {w : Wd} (h : Rels w (xs.map e) vs) {i : Nat} (hi : i < xs.length) : ∃ v, vs.getD i .none = v ∧ Rel w (e xs[i]) v ∧ (xs.map e).getD i .none = e xs[i] := by
  refine e1a2 (h.get (i := i) (d := e xs[i]) (by simp [hi])) fun v e1 e2 => ?_
  exact ⟨v, by simp [List.getD, e1], e2, by simp [List.getD, hi]⟩
end
theorem rng_nat (n : Nat) : rngL 0 n 1 = (List.range n).map fun (k : Nat) => D.int k := by
  have e : rngN 0 n 1 = n := by unfold rngN; rw [rangeSize_nat]; simp
  unfold rngL
  rw [e]
  refine List.map_congr_left fun i _ => ?_
  simp
theorem rng_nat2 (a n : Nat) : rngL a n 1 = (List.range (n - a)).map fun (k : Nat) => D.int ((a + k : Nat) : Int) := by
  have e : rngN a n 1 = n - a := by unfold rngN; rw [rangeSize_nat]; walk_at "q"
  unfold rngL
  rw [e]
  refine List.map_congr_left fun i _ => ?_
  simp
theorem rng_small {a n : Nat} (h : n ≤ 1000000) (ha : a ≤ 1000000) : Builtin.Range.small a n 1 = true := by
  unfold Builtin.Range.small Builtin.Range.rangeFitsLong
  rw [rangeSize_nat]
  simp
  walk_at "q"
section
variable {c : Cx} {A : Around} {env : Env} {w : Wd} {F : Frm} {G : Led} {E : LX} {Q : D → Frm → Led → Prop}
theorem iter_rng {k n : Nat} (hR : Rm k A) (hn : n ≤ 1000000) : IterOf c A (.range 0 n 1) ((List.range n).map fun (k : Nat) => D.int k) (fun _ => True) := by
  have := iter_range (c := c) (A := A) (a := 0) (b := n) (k := 1) hR (rng_small (a := 0) hn (by walk_at "q")) (by rw [rangeSize_nat]; walk_at "q")
  rwa [rng_nat] at this
theorem iter_rng2 {k a n : Nat} (hR : Rm k A) (hn : n ≤ 1000000) (ha : a ≤ 1000000) : IterOf c A (.range a n 1) ((List.range (n - a)).map fun (k : Nat) => D.int ((a + k : Nat) : Int)) (fun _ => True) := by
  have := iter_range (c := c) (A := A) (a := a) (b := n) (k := 1) hR (rng_small hn ha) (by rw [rangeSize_nat]; walk_at "q")
  rwa [rng_nat2] at this
end
open Classical in
noncomputable def einv {α : Type} (e : α → D) (d : D) : Option α := if h : ∃ a, e a = d then some h.choose else none
theorem einv_e {α : Type} {e : α → D} (inj : ∀ a b, e a = e b → a = b) (a : α) : einv e (e a) = some a := by
  unfold einv
  have h : ∃ b, e b = e a := ⟨a, rfl⟩
  rw [dif_pos h]
  exact congrArg some (inj _ _ h.choose_spec)
structure CompE (c : Cx) (A : Around) (env : Env) (F : Frm) (G : Led) (scope : Scope) (cl : List (Str × Addr)) (target : Expr) (ifs : List Expr) (elt : Expr) (d : D) {α : Type} (e : α → D) (xs : List α) (p : α → Bool) (f : α → D) : Prop where
  cok : CelOk cl F.cel (relabel scope env).names
  it : ∃ P, IterOf c A d (xs.map e) P ∧ P (F.led ++ G) ∧ ∀ C loc a o, P ((⟨C, loc, F.cel⟩ : Frm).led ++ innerG F a o G)
  len : xs.length ≤ 1000000
  turn : ∀ C a1 ys loc x, x ∈ xs → Asg c A (compEnvC scope cl C env) ⟨C, loc, F.cel⟩ (innerG F a1 (.list ys) G) target (e x) (fun F2 G2 => Tst c A (compEnvC scope cl C env) F2 G2 ifs (fun ok F3 G3 => ok = p x ∧
      if ok then AE c A (compEnvC scope cl C env) F3 G3 elt (fun y F4 G4 => y = f x ∧ (∃ loc', F4 = ⟨C, loc', F.cel⟩) ∧ G4 = innerG F a1 (.list ys) G) noE
      else (∃ loc', F3 = ⟨C, loc', F.cel⟩) ∧ G3 = innerG F a1 (.list ys) G)) noE
inductive CompEK (c : Cx) (A : Around) (env : Env) (scope : Scope) (cl : List (Str × Addr)) (target : Expr) (ifs : List Expr) (elt : Expr) {α : Type} (e : α → D) (Q : D → Frm → Led → Prop) (d : D) (F1 : Frm) (G1 : Led) : Prop
  | mk (xs : List α) (p : α → Bool) (f : α → D) (h : CompE c A env F1 G1 scope cl target ifs elt d e xs p f) (hq : Q (.list ((xs.filter p).map f)) F1 G1)
inductive CompEA (c : Cx) (A : Around) (env : Env) (x : Str) (scope : Scope) (cl : List (Str × Addr)) (target : Expr) (ifs : List Expr) (elt : Expr) {α : Type} (e : α → D) (Q : Fl → Frm → Led → Prop) (d : D) (F1 : Frm) (G1 : Led) : Prop
  | mk (xs : List α) (p : α → Bool) (f : α → D) (h : CompE c A env F1 G1 scope cl target ifs elt d e xs p f) (hq : Q .next ⟨F1.L, (x, .list ((xs.filter p).map f)) :: F1.loc, F1.cel⟩ G1)
section
variable {c : Cx} {A : Around} {env : Env} {F : Frm} {G : Led} {E : LX} {Q : D → Frm → Led → Prop} {α : Type} {e : α → D}
theorem CompE.ok {scope : Scope} {cl : List (Str × Addr)} {target : Expr} {ifs : List Expr} {elt : Expr} {d : D} {xs : List α} {p : α → Bool} {f : α → D} (inj : ∀ a b, e a = e b → a = b) (h : CompE c A env F G scope cl target ifs elt d e xs p f) :
    CompOk c A env F G scope cl target ifs elt d (xs.map e) (fun d => ((einv e d).map p).getD false) (fun d => ((einv e d).map f).getD .none) := by
  refine ⟨h.cok, h.it, by simpa using h.len, fun C a1 ys loc i d hd => ?_⟩
  rw [List.getElem?_map] at hd
  refine e1a2 (Option.map_eq_some_iff.mp hd) fun x hx zq136 => ?_
  subst zq136
  rw [einv_e inj]
  show Asg _ _ _ _ _ _ _ _ _
  exact h.turn C a1 ys loc x (List.mem_of_getElem? hx)
theorem comp_out {xs : List α} {p : α → Bool} {f : α → D} (inj : ∀ a b, e a = e b → a = b) : ((xs.map e).filter fun d => ((einv e d).map p).getD false).map (fun d => ((einv e d).map f).getD .none) = (xs.filter p).map f := by
  rw [List.filter_map, List.map_map]
  have h1 : ((fun d => ((einv e d).map p).getD false) ∘ e) = p := funext fun a => by show ((einv e (e a)).map p).getD false = p a; rw [einv_e inj]; rfl
  have h2 : ((fun d => ((einv e d).map f).getD .none) ∘ e) = f := funext fun a => by show ((einv e (e a)).map f).getD .none = f a; rw [einv_e inj]; rfl
  rw [h1, h2]
theorem ae_CompE {elt target iter : Expr} {ifs : List Expr} {scope : Scope} {pos : Pos} {cl : List (Str × Addr)} (inj : ∀ a b, e a = e b → a = b) (hc : c.Ok) (K0 : CompSc env scope cl)
    (h : AE c A env F G iter (CompEK c A env scope cl target ifs elt e Q) E)
    (hfs : ∀ x, foldedSetIterable iter env x = pure x := by intro _; with_unfolding_all rfl) : AE c A env F G (.ListComp elt [⟨target, iter, ifs, 0⟩] scope pos) Q E :=
  ae_Comp hc K0 (h.mono (fun d F1 G1 ⟨xs, p, f, K, q⟩ => ⟨_, _, _, K.ok inj, by rw [comp_out inj]; exact q⟩) fun _ _ _ _ z => z) hfs
theorem as_AssignCompE {x : Str} {px : Pos} {elt target iter : Expr} {ifs : List Expr} {scope : Scope} {pos spos : Pos} {cl : List (Str × Addr)} {Q : Fl → Frm → Led → Prop} (inj : ∀ a b, e a = e b → a = b) (hc : c.Ok) (K0 : CompSc env scope cl) (hk : env.kindOf x = some .local)
    (h : AE c A env F G iter (CompEA c A env x scope cl target ifs elt e Q) E)
    (hsw : swapsWith (.ListComp elt [⟨target, iter, ifs, 0⟩] scope pos) (some (.Name x px)) spos.line env = pure true)
    (hfs : ∀ x, foldedSetIterable iter env x = pure x := by intro _; with_unfolding_all rfl) : AS1 c A env F G (.Assign [.Name x px] (.ListComp elt [⟨target, iter, ifs, 0⟩] scope pos) spos) Q E :=
  as_AssignComp hc K0 hk (h.mono (fun d F1 G1 ⟨xs, p, f, K, q⟩ => ⟨_, _, _, K.ok inj, by rw [comp_out inj]; exact q⟩) fun _ _ _ _ z => z) hsw hfs
end
section
variable {c : Cx} {A : Around} {env : Env} {F : Frm} {G : Led} {E : LX} {Q : Frm → Led → Prop}
theorem asg_T2 {n k : Nat} {pos : Pos} {t1 t2 : Expr} {d1 d2 : D} (hR : Rm n A) (h : Asg c A env F G t1 d1 (fun F1 G1 => Asg c A env F1 G1 t2 d2 Q E) E)
    (hs : (assignEach [t1, t2] env).map (·.2) = [assign t1 env, assign t2 env] := by with_unfolding_all rfl) (hn : (assignEach [t1, t2] env).length = 2 := by with_unfolding_all rfl) (hst : (assignEach [t1, t2] env).findIdx? (·.1) = none := by with_unfolding_all rfl) : Asg c A env F G (.Tuple [t1, t2] k pos) (.tuple [d1, d2]) Q E := by
  refine asg_Tuple hR ?_ hn hst
  rw [hs]
  refine asgn_cons ?_
  intro w v hr
  refine (h w v hr).mono (fun _ F1 G1 h1 => ?_) (fun _ _ _ _ z => z)
  refine asgn_cons ?_
  intro w v hr
  refine (h1 w v hr).mono (fun _ F2 G2 h2 => ?_) (fun _ _ _ _ z => z)
  exact asgn_nil h2
theorem asg_T3 {n k : Nat} {pos : Pos} {t1 t2 t3 : Expr} {d1 d2 d3 : D} (hR : Rm n A) (h : Asg c A env F G t1 d1 (fun F1 G1 => Asg c A env F1 G1 t2 d2 (fun F2 G2 => Asg c A env F2 G2 t3 d3 Q E) E) E)
    (hs : (assignEach [t1, t2, t3] env).map (·.2) = [assign t1 env, assign t2 env, assign t3 env] := by with_unfolding_all rfl) (hn : (assignEach [t1, t2, t3] env).length = 3 := by with_unfolding_all rfl) (hst : (assignEach [t1, t2, t3] env).findIdx? (·.1) = none := by with_unfolding_all rfl) : Asg c A env F G (.Tuple [t1, t2, t3] k pos) (.tuple [d1, d2, d3]) Q E := by
  refine asg_Tuple hR ?_ hn hst
  rw [hs]
  refine asgn_cons ?_
  intro w v hr
  refine (h w v hr).mono (fun _ F1 G1 h1 => ?_) (fun _ _ _ _ z => z)
  refine asgn_cons ?_
  intro w v hr
  refine (h1 w v hr).mono (fun _ F2 G2 h2 => ?_) (fun _ _ _ _ z => z)
  refine asgn_cons ?_
  intro w v hr
  refine (h2 w v hr).mono (fun _ F3 G3 h3 => ?_) (fun _ _ _ _ z => z)
  exact asgn_nil h3
end
theorem int_inj : ∀ a b : Int, D.int a = D.int b → a = b := fun a b h => by cases h; rfl
theorem nat_inj : ∀ a b : Nat, D.int (a : Int) = D.int (b : Int) → a = b := fun a b h => by simp at h; walk_at "q"
theorem key_inj : ∀ a b : Key, a.d = b.d → a = b := fun a b h => by cases a <;> cases b <;> simp_all [Key.d]
theorem findObj_meth {K : Frag} {C m : Addr} {od : Obj} {name : Str} {cd : ClassData} {g : Value} (h1 : clsIn K C = some cd) (h2 : findIn K (.ref C) name = some (some (.ref m))) (h3 : specialIn K (.ref m) "__get__" = some (some g)) (h4 : takesIn K (.ref m) = some false) (h5 : ownOf cd (some od) name = some none) (h6 : copiedNames.contains name = false) :
    findObj K C (some od) name = some (.bind g (.ref m)) := by
  unfold findObj
  simp only [h1, h2, h3, h4, h5, h6, Option.bind_some, Bool.false_and, Bool.false_eq_true, if_false]
section
variable {c : Cx} {A : Around} {env : Env} {w : Wd} {F : Frm} {G : Led} {E : LX} {Q : D → Frm → Led → Prop}
theorem geta_meth {x C dx m : Addr} {es : List (Str × D)} {name : Str} (hc : c.Ok) (hC : ClsOk c C true) (hm : ∀ od, lookIn name od = some none → findObj c.K C (some od) name = some (.bind (.builtin "function.__get__") (.ref m))) (ht : typeIn c.K (.ref m) = some (.type "function"))
    (hx : (x, O.inst C dx) ∈ G) (hd : (dx, O.attrs es) ∈ G) (he : es.lookup name = none) (hq : ∀ a, Q (.ref a) F ((a, .raw (methodObj (.ref m) (.ref x))) :: G)) : GetA c A env F G (.ref x) name Q E := fun w v hv f l hl w1 R s hs S => by
  refine e3a6 (instAt_of S (List.mem_append_left R (List.mem_append_right F.led hx)) (List.mem_append_left R (List.mem_append_right F.led hd))) fun od ents n I h1 h2 h3 h4 h5 => ?_
  have h4 := h4 name
  rw [he] at h4
  have h6 := lookIn_of h2 h3 h4
  simp only [Rel] at hv; subst hv
  refine get_bind (S.kin hc) I hC.ga (hm od h6) hC.noga ?_
  refine wpAny_call (fn_get (s := { s with toks := s.toks + 1 }) (S.kin hc) ht ?_)
  dsimp only
  rw [handedOut_of rfl]
  have S1 := (S.toks (s.toks + 1)).alloc (ob := methodObj (.ref m) (.ref x)) (o := .raw (methodObj (.ref m) (.ref x))) rfl ⟨Heap.get?_push_size _ rfl, by intro es n q; cases q⟩
  refine wpAny_pure ⟨w1, .ref s.heap.objs.size, F.led ++ ((s.heap.objs.size, .raw (methodObj (.ref m) (.ref x))) :: G), .refl _, by simp [Rel], S1.perm ?_, F, _, f, rfl, hq _⟩
  simp only [List.append_assoc, List.cons_append]
  exact List.perm_middle
end
section
variable {c : Cx} {A : Around} {env : Env} {w : Wd} {F : Frm} {G : Led} {E : LX} {Q : D → Frm → Led → Prop}
theorem ints_pack {w : Wd} {ns : List Int} {vs : Array Value} (h : Rels w (ns.map .int) vs.toList) : ∃ xs : Array (Int × PySem.Tok), vs = intItems xs ∧ xs.toList.map (·.1) = ns := by
  refine e1a2 (rels_ints h) fun xs e1 e2 => ?_
  exact ⟨xs, by rw [← e1], e2⟩
theorem call_max {n : Nat} {d : D} {ns : List Int} (hR : Rm n A) (hd : SeqD c F G d "list" (ns.map .int)) (hne : ns ≠ []) (hq : ∀ M, M ∈ ns → (∀ a ∈ ns, a ≤ M) → Q (.int M) F G) : CallD c A env F G (.bi "max") [d] Q E := fun w v vs hv hvs f l hl' w1 R s hs S => by
  simp only [Rel] at hv; subst hv
  simp only [Rels] at hvs
  refine e2a3 hvs ?_
  try clear hvs
  intro v1 r1 zq137 hv1 zq138
  subst zq137
  subst zq138
  refine e3a3 (hd l w1 R s v1 (hv1.mono hs) S) fun a us n zq139 h1 h2 => ?_
  subst zq139
  refine e1a2 (ints_pack h2) fun xs zq140 e2 => ?_
  subst zq140
  have hl : s.heap.IsList a (intItems xs) := ⟨_, h1, rfl, n, rfl⟩
  have hsz : 0 < xs.size := by
    have h3 := List.length_pos_iff.mpr hne; rw [← e2, List.length_map, Array.length_toList] at h3; exact h3
  refine max_intList hR.handled hl hsz fun v h' tk hv hk => ?_
  refine e1a1 (intItems_at hv) fun t zq141 => ?_
  subst zq141
  refine e0a2 (argBest_gt (numAt xs) (xs.size - 1)) fun p1 p2 => ?_
  refine ⟨w1, .int _, _, .refl _, by simp only [Rel]; exact ⟨t, rfl⟩, (S.more hk).toks tk, F, G, f, rfl, hq _ ?_ fun a ha => ?_⟩
  · rw [← e2, numAt_eq]; exact getD_mem (by rw [List.length_map, Array.length_toList]; walk_at "o")
  · rw [← e2] at ha
    refine e1a2 (mem_getD ha) fun j hj zq142 => ?_
    subst zq142
    rw [List.length_map, Array.length_toList] at hj
    rw [← numAt_eq]; exact p2 j (by walk_at "o")
noncomputable def D.ty : D → String
  | .none => "NoneType"
  | .bool _ => "bool"
  | .int _ => "int"
  | .str _ => "str"
  | .list _ => "list"
  | .tuple _ => "tuple"
  | _ => "object"
theorem call_type {d : D} (hd : d.data = true) (hq : Q (.typ d.ty) F G) : CallD c A env F G (.typ "type") [d] Q E := fun w v vs hv hvs f l hl' w1 R s hs S => by
  simp only [Rel] at hv; subst hv
  simp only [Rels] at hvs
  refine e2a3 hvs ?_
  try clear hvs
  intro v1 r1 zq143 hv1 zq144
  subst zq143
  subst zq144
  have hv2 := hv1.mono hs
  have key : s.TypeIs v1 d.ty := by
    cases d with
    | none => simp only [Rel] at hv2; subst hv2; rfl
    | bool b => simp only [Rel] at hv2; subst hv2; rfl
    | int i => simp only [Rel] at hv2; obtain ⟨t, rfl⟩ := hv2; exact typeIs_int s i t
    | str x => simp only [Rel] at hv2; obtain ⟨_, t, rfl⟩ := hv2; exact typeIs_str s x t
    | list xs => simp only [Rel] at hv2; obtain ⟨a, us, n, rfl, h1, _⟩ := hv2; exact ⟨_, S.wok _ _ h1, rfl⟩
    | tuple xs => simp only [Rel] at hv2; obtain ⟨a, us, n, rfl, h1, _⟩ := hv2; exact ⟨_, S.wok _ _ h1, rfl⟩
    | _ => cases hd
  refine call_type_of key ?_ ⟨w1, .typ d.ty, _, .refl _, by simp [Rel], S, F, G, f, rfl, hq⟩
  cases d <;> first | rfl | cases hd
theorem call_typeX {x : Addr} {X : String} {args : List D} (hX : (Value.type X == Value.type "builtin_function_or_method") = false) (hx : (x, O.exc (.type X) args) ∈ G) (hq : Q (.typ X) F G) : CallD c A env F G (.typ "type") [.ref x] Q E := fun w v vs hv hvs f l hl' w1 R s hs S => by
  simp only [Rel] at hv; subst hv
  simp only [Rels, Rel] at hvs
  refine e2a3 hvs ?_
  try clear hvs
  intro _ r1 zq145 zq146 zq147
  subst zq145
  subst zq146
  subst zq147
  refine e3a5 (S.get (List.mem_append_left R (List.mem_append_right F.led hx))) fun ob vs t h1 h2 h3 h4 zq148 => ?_
  obtain ⟨us, n, h5, h6⟩ := zq148
  exact call_type_of ⟨ob, h1, h2⟩ hX ⟨w1, .typ X, _, .refl _, by simp [Rel], S, F, G, f, rfl, hq⟩
noncomputable def pK (p : Key × Key) : D := .tuple [p.1.d, p.2.d]
theorem pK_inj : ∀ a b : Key × Key, pK a = pK b → a = b := fun a b h => by
  simp only [pK, D.tuple.injEq, List.cons.injEq, and_true] at h
  exact Prod.ext (key_inj _ _ h.1) (key_inj _ _ h.2)
theorem pK_data (p : Key × Key) : (pK p).data = true := by simp [pK, D.data, datas, Key.data]
theorem pK_eqv (a b : Key × Key) : PyData.eqv (pK a).py (pK b).py = decide (a = b) := by
  simp only [pK, D.py, pys, PyData.eqv, PyData.eqvAll, Key.eqv, Bool.and_true]
  obtain ⟨a1, a2⟩ := a
  obtain ⟨b1, b2⟩ := b
  by_cases h1 : a1 = b1 <;> by_cases h2 : a2 = b2 <;> simp [h1, h2]
theorem pK_depth (p : Key × Key) : (pK p).py.depth ≤ 5 := by simp [pK, D.py, pys, PyData.depth, PyData.depthAll, Key.depth]
theorem pKs_data (ps : List (Key × Key)) : datas (ps.map pK) = true := datas_iff.mpr (by intro x hx; obtain ⟨p, _, rfl⟩ := List.mem_map.mp hx; exact pK_data p)
theorem op_eqP {n : Nat} {a b : Key × Key} (hR : Rm n A) (hq : Q (.bool (decide (a = b))) F G) : Op2 c A env Rel F G (compareOp .Eq) (pK a) (pK b) Q E :=
  op_eqD hR (rd_data (pK_data a)) (rd_data (pK_data b)) (by have := pK_depth a; walk_at "o") (by rw [pK_eqv]; exact hq)
theorem op_ninP {n : Nat} {a : Key × Key} {e : D} {ps : List (Key × Key)} (hR : Rm n A) (he : SeqD c F G e "list" (ps.map pK)) (hq : Q (.bool (!decide (a ∈ ps))) F G) : Op2 c A env Rel F G (compareOp .NotIn) (pK a) e Q E :=
  op_ninD hR (rd_data (pK_data a)) (by have := pK_depth a; walk_at "o") he (.inl rfl) (pKs_data ps) (by
    have : ((ps.map pK).any fun y => PyData.eqv y.py (pK a).py) = decide (a ∈ ps) := by
      rw [List.any_map]
      simp only [Function.comp_def, pK_eqv]
      rw [Bool.eq_iff_iff, List.any_eq_true]
      simp only [decide_eq_true_eq]
      exact ⟨fun ⟨x, hx, e⟩ => e ▸ hx, fun h => ⟨a, h, rfl⟩⟩
    rw [this]; exact hq)
noncomputable abbrev Tri := Int × Int × Key
noncomputable def pT (t : Tri) : D := .tuple [.int t.1, .int t.2.1, t.2.2.d]
theorem pT_inj : ∀ a b : Tri, pT a = pT b → a = b := fun a b h => by
  simp only [pT, D.tuple.injEq, List.cons.injEq, D.int.injEq, and_true] at h
  obtain ⟨a1, a2, a3⟩ := a
  obtain ⟨b1, b2, b3⟩ := b
  refine e0a3 h ?_
  try clear h
  intro h1 h2 h3
  dsimp only at h1 h2 h3
  rw [h1, h2, key_inj _ _ h3]
noncomputable abbrev ord2 : KeyOrd := lexOrd intOrd intOrd
noncomputable def keyT : D → ord2.α
  | .tuple [.int i, .int j, _] => ((i : Int), (j : Int))
  | _ => ((0 : Int), (0 : Int))
noncomputable abbrev kT (t : Tri) : ord2.α := ((t.1 : Int), (t.2.1 : Int))
theorem eqBool_same {prog : Program} {wd : World} {Ev : Value → Shared → Prop} {s : Shared} {k : Key} {v u : Value} {Qv : Bool → Shared → Prop} (h1 : k.is v = true) (h2 : k.is u = true) (hq : Qv true s) : wpAny (model prog wd) A (eqBool v u) Qv Ev s := by
  cases k with
  | int i =>
    refine e1a1 (Key.is_int h1) fun t zq149 => ?_
    subst zq149
    refine e1a1 (Key.is_int h2) fun t' zq150 => ?_
    subst zq150
    exact wpAny_eqBool_int (by simpa using hq)
  | str x =>
    refine e1a1 (Key.is_str h1) fun t zq151 => ?_
    subst zq151
    refine e1a1 (Key.is_str h2) fun t' zq152 => ?_
    subst zq152
    exact wpAny_eqBool_str (by simpa using hq)
theorem so_T {ts : List Tri} (inj : ∀ a ∈ ts, ∀ b ∈ ts, kT a = kT b → a = b) : SortOk c A ord2 keyT (ts.map pT) := fun w s vs wk hr h2 => by
  have hlen := hr.length
  have shape : ∀ (p : Tri) v, Rel w (pT p) v → ∃ a ob xs n t u z, v = .ref a ∧ s.heap.get? a = some ob ∧ ob.cls = .type "tuple" ∧ ob.data = .seq xs n ∧ xs = #[.int p.1 t, .int p.2.1 u, z] ∧ p.2.2.is z = true := fun p v hv => by
    simp only [pT, Rel, Rels] at hv
    refine e3a3 hv ?_
    try clear hv
    intro a xs n zq153 h1 zq154
    subst zq153
    obtain ⟨v1, r1, h2, ⟨t, rfl⟩, v2, r2, rfl, ⟨u, rfl⟩, v3, r3, rfl, h3, rfl⟩ := zq154
    exact ⟨a, _, xs, n, t, u, v3, rfl, wk _ _ h1, rfl, rfl, by rw [← Array.toList_inj]; exact h2, (Key.is_of_rel h3).1⟩
  have tups : ∀ (ns : List Tri) vs, Rels w (ns.map pT) vs → ∃ fs : List Value, KatTups s.heap vs fs ∧ fs.length = ns.length ∧ ∀ v ∈ fs, ∃ i t, v = Value.int i t := by
    intro ns
    induction ns with
    | nil => intro vs h; simp only [List.map_nil, Rels] at h; subst h; exact ⟨[], .nil, rfl, by simp⟩
    | cons p ns ih =>
      intro vs h
      simp only [List.map_cons, Rels] at h
      refine e2a3 h ?_
      try clear h
      intro v r zq155 h1 h2
      subst zq155
      refine e1a3 (ih r h2) fun fs g1 g2 g3 => ?_
      refine e7a6 (shape p v h1) fun a ob xs n t u z zq156 q1 q2 q3 zq157 q4 => ?_
      subst zq156
      subst zq157
      refine ⟨.int p.1 t :: fs, .cons q1 q2 q3 rfl g1, by simp [g2], fun v hv => ?_⟩
      rcases List.mem_cons.mp hv with rfl | q
      · exact ⟨_, _, rfl⟩
      · exact g3 v q
  refine e1a3 (tups ts vs hr) fun fs g1 g2 g3 => ?_
  refine PySem.W.kat_kind (T := .type "int") g1 (by simp at h2; walk_at "o") (fun v hv => ?_) (by rfl) ⟨rfl, fun i j C hi hj hC => ?_⟩
  · refine e2a1 (g3 v hv) fun i t zq158 => ?_
    subst zq158
    exact .now
  · refine e1a3 (getD_map hr (i := i) (by simpa using hi)) fun v e1 e2 e3 => ?_
    refine e1a3 (getD_map hr (i := j) (by simpa using hj)) fun u f1 f2 f3 => ?_
    rw [e3, f3] at hC
    have hi' : i < ts.length := by simpa using hi
    have hj' : j < ts.length := by simpa using hj
    have mp : ts[i] ∈ ts := List.getElem_mem hi'
    have mq : ts[j] ∈ ts := List.getElem_mem hj'
    generalize ts[i] = p at *
    generalize ts[j] = q at *
    refine e7a6 (shape p v e2) fun a ob xs n t1 t2 z1 zq159 q1 q2 q3 zq160 q4 => ?_
    subst zq159
    subst zq160
    refine e7a6 (shape q u f2) fun b ob' ys n' t3 t4 z2 zq161 r1 r2 r3 zq162 r4 => ?_
    subst zq161
    subst zq162
    unfold kas_ask
    rw [e1, f1]
    show wpAny _ _ (keyLt' (tuples' true) _ _) _ _ _
    refine PySem.W.kat_lt q1 q3 r1 r3 ?_
    show PySem.W.KatLex _ _ _ true _ C [(.int p.1 t1, .int q.1 t3), (.int p.2.1 t2, .int q.2.1 t4), (z1, z2)] 0 s
    refine PySem.W.kat_cons (wpAny_eqBool_int ?_)
    have hb : ord2.blt (keyT (pT p)) (keyT (pT q)) = (decide (p.1 < q.1) || (!decide (q.1 < p.1) && decide (p.2.1 < q.2.1))) := rfl
    rw [hb] at hC
    by_cases hi1 : p.1 = q.1
    · rw [show (p.1 == q.1) = true by simp [hi1]]
      refine PySem.W.kat_yes (PySem.W.kat_cons (wpAny_eqBool_int ?_))
      simp only [hi1, Int.lt_irrefl, decide_false, Bool.not_false, Bool.true_and, Bool.false_or] at hC
      by_cases hi2 : p.2.1 = q.2.1
      · have e : p = q := inj p mp q mq (by show ((p.1 : Int), (p.2.1 : Int)) = ((q.1 : Int), (q.2.1 : Int)); rw [hi1, hi2])
        subst e
        rw [show (p.2.1 == p.2.1) = true by simp]
        refine PySem.W.kat_yes (PySem.W.kat_cons (eqBool_same q4 r4 (PySem.W.kat_yes (PySem.W.kat_nil ?_))))
        rw [show decide (p.2.1 < p.2.1) = false by simp] at hC
        exact hC
      · rw [show (p.2.1 == q.2.1) = false by simp [hi2]]
        refine PySem.W.kat_no ?_
        show wpAny _ _ (oneLt' false _ _) _ _ _
        exact PySem.W.kat_one _ _ (lt_int hC)
    · rw [show (p.1 == q.1) = false by simp [hi1]]
      refine PySem.W.kat_no ?_
      show wpAny _ _ (oneLt' true _ _) _ _ _
      refine oneLt_int ?_
      rcases Int.lt_or_lt_of_ne hi1 with z | z
      · rw [decide_eq_true z] at hC ⊢; exact hC
      · rw [decide_eq_true z, show decide (p.1 < q.1) = false by simp; walk_at "o"] at hC
        rw [show decide (p.1 < q.1) = false by simp; walk_at "o"]; exact hC
theorem call_sortedT {d : D} {T : String} {ts : List Tri} (inj : ∀ a ∈ ts, ∀ b ∈ ts, kT a = kT b → a = b) (hd : SeqD c F G d T (ts.map pT)) (hT : T = "list" ∨ T = "tuple") (hl : ts.length < 64) (hq : Q (.list ((srt ord2 kT ts).map pT)) F G) : CallD c A env F G (.bi "sorted") [d] Q E :=
  call_sortedE (U := ord2) (key := keyT) pT kT inj (fun _ => rfl) hd hT hl (so_T inj) hq
end
section
open PySem.Spec
noncomputable def metK : List Key → List Key
  | [] => []
  | k :: r => k :: (metK r).filter fun x => !decide (x = k)
noncomputable def metTo (val : Nat → Key) : Nat → List Key
  | 0 => []
  | i + 1 => if val i ∈ metTo val i then metTo val i else metTo val i ++ [val i]
theorem metTo_succ (val : Nat → Key) (i : Nat) : metTo val (i + 1) = if val i ∈ metTo val i then metTo val i else metTo val i ++ [val i] := rfl
theorem metTo_len (val : Nat → Key) : ∀ i, (metTo val i).length ≤ i
  | 0 => Nat.le_refl _
  | i + 1 => by
    have := metTo_len val i
    unfold metTo
    split
    · walk_at "q"
    · simp; walk_at "q"
theorem metTo_nodup (val : Nat → Key) : ∀ i, (metTo val i).Nodup
  | 0 => .nil
  | i + 1 => by
    have := metTo_nodup val i
    unfold metTo
    split
    · exact this
    · rename_i h
      rw [List.nodup_append]
      exact ⟨this, by simp, fun a ha b hb e => h (by simp at hb; rw [← hb, ← e]; exact ha)⟩
theorem mem_metTo (val : Nat → Key) (x : Key) : ∀ i, x ∈ metTo val i ↔ ∃ j < i, val j = x
  | 0 => by simp [metTo]
  | i + 1 => by
    have ih := mem_metTo val x i
    have up : (∃ j < i + 1, val j = x) ↔ (∃ j < i, val j = x) ∨ val i = x := by
      constructor
      · intro zr4
        refine e1a2 zr4 ?_
        try clear zr4
        intro j hj e
        by_cases q : j = i
        · subst q; exact .inr e
        · exact .inl ⟨j, by walk_at "q", e⟩
      · rintro (⟨j, hj, e⟩ | e)
        · exact ⟨j, by walk_at "q", e⟩
        · exact ⟨i, by walk_at "q", e⟩
    rw [up, ← ih, metTo_succ]
    split
    · rename_i h
      constructor
      · exact .inl
      · rintro (q | q)
        · exact q
        · rw [← q]; exact h
    · rw [List.mem_append]
      simp only [List.mem_singleton]
      constructor
      · rintro (q | q)
        · exact .inl q
        · exact .inr q.symm
      · rintro (q | q)
        · exact .inl q
        · exact .inr q.symm
section
variable {prog : Program} {w : World} {A : Around} {R : Result → Shared → Prop} {I : Addr} {fp wr : List Addr} {G : Array GenState → Array GenState → Prop} {n : Nat} {P : Nat → Value → Prop} {St : Nat → Shared → Prop}
theorem set_loopK (W : WalksS prog w A.in1 I fp wr G n P St) (S : Addr) (hSf : S ∉ fp) (val : Nat → Key) (hval : ∀ i v, P i v → (val i).is v = true) (hb : n + 1 < scanBound) :
    ∀ (k i : Nat) (s : Shared), n - i = k → i ≤ n → St i s → s.heap.SetOf (kk prog w) S (fun x => decide (x ∈ metTo val i)) (metTo val i).length →
      (∀ s', Moved (S :: wr) G s s' → s'.heap.SetOf (kk prog w) S (fun x => decide (x ∈ metTo val n)) (metTo val n).length → R (.ok (.ret .none)) s') →
      codeAny (model prog w) A (.builtin "set.update.loop" ⟨[.ref S, .ref I], []⟩) R s := by
  have off : S ∉ wr := fun h => hSf (W.sub _ h)
  have more : ∀ b ∈ wr, b ∈ S :: wr := fun b hb => List.mem_cons_of_mem _ hb
  have carry : ∀ {s s' : Shared} {i : Nat}, Moved wr G s s' → s.heap.SetOf (kk prog w) S (fun x => decide (x ∈ metTo val i)) (metTo val i).length → s'.heap.SetOf (kk prog w) S (fun x => decide (x ∈ metTo val i)) (metTo val i).length :=
    fun hm ⟨o, es, ep, t, ho, rest⟩ => ⟨o, es, ep, t, hm.heap S _ off ho, rest⟩
  intro k
  induction k with
  | zero =>
    intro i s hk hi hst hS hR
    obtain rfl : i = n := by walk_at "q"
    refine codeAny_builtin PyProof.Rows.F.entry_set_update_loop ?_
    rw [Around.under_plainId PyProof.Rows.F.plain_set_update_loop _]
    show wpAny _ A.in1 (pyNext (.ref I) >>= _) _ _ s
    refine wpAny_bind (W.done s _ _ hst fun s' hm => ?_)
    show wpAny _ A.in1 (ret Value.none) _ _ s'
    exact wpAny_pure (hR s' (hm.mono more) (carry hm hS))
  | succ k ih =>
    intro i s hk hi hst hS hR
    have hlt : i < n := by walk_at "q"
    refine codeAny_builtin PyProof.Rows.F.entry_set_update_loop ?_
    rw [Around.under_plainId PyProof.Rows.F.plain_set_update_loop _]
    show wpAny _ A.in1 (pyNext (.ref I) >>= _) _ _ s
    refine wpAny_bind (W.item i s _ _ hlt hst fun v s' hP hst' hm => ?_)
    have hv := hval i v hP
    have hS' := carry hm hS
    show wpAny _ A.in1 (holding [v] (setAdd S v) >>= _) _ _ s'
    refine wpAny_bind (wpAny_holding ?_)
    unfold setAdd
    refine wpAny_holding ?_
    refine wpAny_bind ((kk prog w).pyHash (k := val i) hv ?_)
    have room : (metTo val i).length + 1 < scanBound := by have := metTo_len val i; walk_at "q"
    refine wpAny_setAddHashed_of (knd := kk prog w) (s := { s' with toks := s'.toks + 1 }) hv (Key.scannable hv) hS' room fun h' hsb hS2 => ?_
    have hSi : h'.SetOf (kk prog w) S (fun x => decide (x ∈ metTo val (i + 1))) (metTo val (i + 1)).length := by
      refine SetOf_congr hS2 (fun x => ?_) ?_
      · by_cases q : val i ∈ metTo val i
        · simp only [metTo, if_pos q]
          by_cases z : x = val i
          · subst z; simp [q]
          · simp [z]
        · simp only [metTo, if_neg q]
          by_cases z : x = val i
          · subst z; simp
          · simp [z]
      · by_cases q : val i ∈ metTo val i
        · simp [metTo, q]
        · simp [metTo, q]
    refine wpAny_pure ⟨plainId_quiet PyProof.Rows.F.plain_set_update_loop _, ih (i + 1) _ (by walk_at "q") hlt (W.frame _ s' _ _ hst' (Nat.le_succ _) fun b hb o e => ?_) hSi fun s'' hm'' hS'' => ?_⟩
    · rw [hsb.2 b (fun h : b = S => hSf (by rw [← h]; exact hb))]; exact e
    · refine hR s'' (Moved.trans W.gtrans ((hm.mono more).then_heap (Nat.le_succ _) fun b o hb e => ?_) hm'') hS''
      rw [hsb.2 b (fun h : b = S => hb (by rw [h]; exact List.mem_cons_self))]; exact e
end
section
variable {prog : Program} {w : World} {A : Around} {E : Value → Shared → Prop} {s : Shared}
set_option maxHeartbeats 3200000 in
theorem new_setK {l : Addr} {items : Array Value} {ks : List Key} {Q : Value → Shared → Prop} (hh : A.handled = none) (hl : s.heap.IsList l items) (hi : ∀ (i : Nat) v, items[i]? = some v → (ks.getD i (.int 0)).is v = true) (hb : items.size + 1 < scanBound)
    (h : ∀ (h' : Heap) (tk : Nat), h'.SetOf (kk prog w) s.heap.objs.size (fun x => decide (x ∈ metTo (fun i => ks.getD i (.int 0)) items.size)) (metTo (fun i => ks.getD i (.int 0)) items.size).length →
      (∀ b o, b < s.heap.objs.size → s.heap.get? b = some o → h'.get? b = some o) → Q (.ref s.heap.objs.size) { s with heap := h', toks := tk }) :
    wpAny (model prog w) A (call (.type "set") [.ref l]) Q E s := by
  refine e2a1 PySem.F.called_set.mro fun c tl hmro => ?_
  have hmade := PySem.F.called_set.made
  have hsub := PySem.F.called_set.sub
  refine wpAny_call (codeAny_of_tree ?_)
  show wpAny _ _ (callAny (.type "set") _) _ _ _
  refine wpAny_pure ⟨Code.quiet_builtin _ (by decide +kernel), codeAny_builtin PySem.F.entry_type_call ?_⟩
  rw [Around.under_plain (weight_type_call_type "set" [.ref l] []) rfl]
  have h1 := PySem.F.called_set.notType
  have h2 := PySem.F.called_set.canCreate
  have hct := PySem.F.typeCall_set_1 (.ref l)
  repeat (any_goals (first | assumption | wp_step))
  refine codeAny_mono (code_set_new_1 (.ref l) (E := E) (Q₁ := fun obj s₁ => ∃ led : Bool, obj = .ref s.heap.objs.size ∧ s₁ = { s with heap := s.heap.push { cls := .type "set", dict := none, data := .set #[] 0 (.fresh 0 0 led) } }) fun led => ⟨led, rfl, rfl⟩) fun r s₁ hr => ?_
  cases r with
  | error e => exact hr
  | ok fl =>
    cases fl with
    | ret obj =>
      refine e1a2 hr ?_
      try clear hr
      intro led zq163 zq164
      subst zq163
      subst zq164
      have hS : (s.heap.push { cls := .type "set", dict := none, data := .set #[] 0 (.fresh 0 0 led) }).get? s.heap.objs.size = some { cls := .type "set", dict := none, data := .set #[] 0 (.fresh 0 0 led) } := Heap.get?_push_size _ rfl
      have hT : Shared.TypeIs { s with heap := s.heap.push { cls := .type "set", dict := none, data := .set #[] 0 (.fresh 0 0 led) } } (.ref s.heap.objs.size) "set" := ⟨_, hS, rfl⟩
      have hli := PySem.F.called_set.init.lookup
      have hbi := PySem.F.called_set.init.bind (.ref s.heap.objs.size)
      repeat (any_goals (first | assumption | wp_step))
      refine codeAny_mono (codeAny_call_builtin (R := wants (fun r s₂ => r = .none ∧ ∃ h' tk, s₂ = { s with heap := h', toks := tk } ∧
          h'.SetOf (kk prog w) s.heap.objs.size (fun x => decide (x ∈ metTo (fun i => ks.getD i (.int 0)) items.size)) (metTo (fun i => ks.getD i (.int 0)) items.size).length ∧
          (∀ b o, b < s.heap.objs.size → s.heap.get? b = some o → h'.get? b = some o)) E) PySem.F.called_set.init.plain PySem.F.entry_set_init (check_set_init_1 hT ?_)) fun r₂ s₂ hr₂ => ?_
      · refine e1a3 hl ?_
        try clear hl
        intro ol hol hcl2 zq165
        obtain ⟨nl, hdl⟩ := zq165
        obtain ⟨ocls, odict, odata, oslots⟩ := ol
        simp only at hcl2 hdl
        subst hcl2; subst hdl
        have hol' : (s.heap.push { cls := .type "set", dict := none, data := .set #[] 0 (.fresh 0 0 led) }).get? l = some { cls := .type "list", dict := odict, data := .seq items nl, slots := oslots } := Heap.get?_push_of_some _ hol
        have hsls := PySem.F.sub_list_set
        have hslf := PySem.F.sub_list_frozenset
        have hne : (Value.type "list" == Value.type "dict") = false := by decide
        have hl1 : (s.heap.push { cls := .type "set", dict := none, data := .set #[] 0 (.fresh 0 0 led) }).IsList l items := ⟨_, hol', rfl, nl, rfl⟩
        unfold Builtin.«set.__init__» noKeywords Builtin.Frozenset.updateFrom
        generalize hPI : pyIter = PI
        wp_walk
        subst hPI
        refine wpAny_pyIter_list hl1 ?_
        refine wpAny_bind (wpAny_runValue ?_)
        have hlS : l < s.heap.objs.size := Heap.lt_size hol
        have hh3 : A.in1.in1.in1.handled = none := by simp [hh]
        have hneI : l ≠ (s.heap.push { cls := .type "set", dict := none, data := .set #[] 0 (.fresh 0 0 led) }).objs.size := by rw [Heap.size_push]; exact Nat.ne_of_lt (Nat.lt_succ_of_lt hlS)
        have hSf : s.heap.objs.size ∉ [(s.heap.push { cls := .type "set", dict := none, data := .set #[] 0 (.fresh 0 0 led) }).objs.size, l] := by
          rw [Heap.size_push]; simp only [List.mem_cons, List.mem_singleton, List.not_mem_nil, or_false, not_or]
          exact ⟨Nat.ne_of_lt (Nat.lt_succ_self _), Nat.ne_of_gt hlS⟩
        refine set_loopK ((Walks.list hh3 _ l hneI items).toS) s.heap.objs.size hSf (fun i => ks.getD i (.int 0)) (fun i v hv => hi i v hv) hb (items.size - 0) 0 _ (by walk_at "q") (Nat.zero_le _)
          ⟨⟨_, Heap.get?_push_size _ rfl, rfl, rfl⟩, (hl1.push _)⟩ ?hS0 ?hR
        case hS0 =>
          have hget : ((s.heap.push { cls := .type "set", dict := none, data := .set #[] 0 (.fresh 0 0 led) }).push { cls := .type "list_iterator", data := .fields #[.ref l, .int 0 0] }).get? s.heap.objs.size = some { cls := .type "set", dict := none, data := .set #[] 0 (.fresh 0 0 led) } := Heap.get?_push_of_some _ hS
          exact SetOf_congr ((setObjOf_fresh (knd := kk prog w) led).setOf hget (by unfold scanBound; walk_at "q")) (fun x => by simp [metTo]) rfl
        case hR =>
          intro s' hm hS'
          obtain ⟨h', g', d', tk', os'⟩ := s'
          have eg : g' = s.gens := hm.gens
          have ed : d' = s.drawn := hm.drawn
          have eo : os' = s.os := hm.os
          subst eg; subst ed; subst eo
          show wpAny _ _ _ _ _ _
          refine wpAny_pure ?_
          show wpAny _ _ (ret Value.none) _ _ _
          refine wpAny_pure ⟨rfl, h', tk', rfl, hS', fun b o hb e => ?_⟩
          have hb1 : b ≠ s.heap.objs.size := Nat.ne_of_lt hb
          have hb2 : b ≠ (s.heap.push { cls := .type "set", dict := none, data := .set #[] 0 (.fresh 0 0 led) }).objs.size := by rw [Heap.size_push]; exact Nat.ne_of_lt (Nat.lt_succ_of_lt hb)
          exact hm.heap b o (by simp only [List.mem_cons, List.mem_singleton, List.not_mem_nil, or_false, not_or]; exact ⟨hb1, hb2⟩) (Heap.get?_push_of_some _ (Heap.get?_push_of_some _ e))
      · cases r₂ with
        | error e => exact hr₂
        | ok fl₂ =>
          cases fl₂ with
          | ret r =>
            refine e0a2 hr₂ ?_
            try clear hr₂
            intro zq166 zq167
            subst zq166
            obtain ⟨h', tk, rfl, hS', hk'⟩ := zq167
            repeat (any_goals (first | assumption | wp_step))
            exact h _ _ hS' hk'
          | _ => exact hr₂.elim
    | _ => exact hr.elim
end
end
section
open PySem.Spec
theorem Rm.in1 {n : Nat} {A : Around} (h : Rm (n + 1) A) : Rm n A.in1 := ⟨by have := h.depth; show A.depth + n ≤ 900; walk_at "q", by have := h.units; show A.units + 1 + 10 * n ≤ 9000; walk_at "q", h.guards, h.handled⟩
section
variable {c : Cx} {A : Around} {env : Env} {w : Wd} {F : Frm} {G : Led} {E : LX} {Q : D → Frm → Led → Prop}
theorem meets_boolI {prog : Program} {wd : World} (x : Value) : MeetsIn prog wd (Builtin.«bool.__new__» ⟨[.type "bool", x], []⟩) (fun A R s => wpAny (model prog wd) A.in1 (truthy x) (fun b s' => R (.ok (.ret (.bool b))) s') (fun e s' => R (.error e) s') s) :=
  .of_wp fun A R s h => by
    have f1 := PySem.F.conv_sub_bool
    unfold Builtin.«bool.__new__»
    obtain ⟨hp, g, d, tk, os⟩ := s
    repeat (any_goals (first | assumption | wp_step))
    show wpAny (model prog wd) A.in1 (truthy x) _ _ _
    exact wpAny_mono h (fun b s' hb => wpAny_pure ⟨_, rfl, hb⟩) fun _ _ z => z
theorem call_boolI {x C dx m : Addr} {es : List (Str × D)} {G1 Rest : Led} {Q' : D → Led → Prop} {E' : Value → List D → Led → Prop} (hc : c.Ok) (hm : findIn c.K (.ref C) "__bool__" = some (some (.ref m))) (ht : typeIn c.K (.ref m) = some (.type "function"))
    (hx : (x, O.inst C dx) ∈ G) (hd : (dx, O.attrs es) ∈ G) (h : AC c A.in1.in1 (.ref m) [.ref x] G1 Q' E') (p : G.Perm (G1 ++ Rest)) (hQ : ∀ d G', Q' d G' → ∃ b, d = .bool b ∧ Q (.bool b) F (G' ++ Rest)) (hE : ∀ x y G', E' x y G' → E x y F (G' ++ Rest)) : CallD c A env F G (.typ "bool") [.ref x] Q E := fun w v vs hv hvs f l hl w1 R s hs S => by
  simp only [Rel] at hv; subst hv
  simp only [Rels, Rel] at hvs
  refine e2a3 hvs ?_
  try clear hvs
  intro _ r1 zq168 zq169 zq170
  subst zq168
  subst zq169
  subst zq170
  refine e3a2 (instAt_of S (List.mem_append_left R (List.mem_append_right F.led hx)) (List.mem_append_left R (List.mem_append_right F.led hd))) fun od ents n I _ => ?_
  refine callType_newIn PySem.F.called_bool PySem.F.newNe_bool (PySem.F.typeCall_bool_1 (.ref x)) (PySem.F.newCall_bool_1 (.ref x)) (fun obj => PySem.F.args_object_init_2 obj (.ref x)) PySem.F.entry_bool_new (meets_boolI (.ref x)) ?_
  unfold truthy
  refine wpAny_bind (m := callSpecial? (.ref x) (Str.ofString "__bool__")) (special_fn (S.kin hc) I hm ht ?_)
  refine wpAny_call (codeAny_mono (h w1 (.ref m) [.ref x] (by simp [Rel]) (.one (by simp [Rel])) l hl w1 (F.led ++ Rest ++ R) s (.refl _) (S.perm (perm3 p))) fun r s' z => ?_)
  rcases r with e | (_ | _ | _ | v)
  · obtain ⟨w', x, k, as, G', h1, h2, ⟨m, h3⟩, h4, h5⟩ := z
    exact ⟨w', x, k, as, F.led ++ (G' ++ Rest), h1, h2, ⟨m, h3.less fun a ha => ((perm3 (X := F.led) (G1 := G') (Rest := Rest) (R := R) (.refl _)).map _).mem_iff.mpr ha⟩, h4.perm (perm3 (.refl _)).symm, F, _, f, rfl, hE _ _ _ h5⟩
  · exact z.elim
  · exact z.elim
  · exact z.elim
  · obtain ⟨w', d, G', h1, h2, h3, h4⟩ := z
    refine e1a2 (hQ _ _ h4) fun b zq171 hq => ?_
    subst zq171
    simp only [Rel] at h2
    subst h2
    exact wpAny_pure ⟨rfl, w', .bool b, F.led ++ (G' ++ Rest), h1, by simp [Rel], h3.perm (perm3 (.refl _)).symm, F, _, f, rfl, hq⟩
theorem Sim.join {l : List Env} {s : Shared} {a : Addr} {o : O} (S : Sim c l w G s) (hn : a ∉ G.map (·.1)) (hw : w a = none) (ho : OAt c w s.heap a o) (hf : ∀ en ∈ l, en.frame ≠ some a) : Sim c l w ((a, o) :: G) s := by
  refine ⟨S.wok, S.wbase, ?_, fun p hp => ?_, fun env he => ?_, S.gens, S.os⟩
  · rw [List.map_cons, List.nodup_cons]; exact ⟨hn, S.nd⟩
  · rcases List.mem_cons.mp hp with rfl | q
    · exact ⟨hw, ho⟩
    · exact S.ents p q
  · refine e0a2 (S.frs env he) fun k zq172 => ?_
    obtain ⟨L, h1, h2, h3, h4⟩ := zq172
    refine ⟨k, L, h1, h2, h3, fun x hx => ?_⟩
    rcases List.mem_cons.mp hx with q | q
    · cases q; exact absurd h1 (hf env he)
    · exact h4 x q
noncomputable def metL (ks : List Key) : List Key := metTo (fun i => ks.getD i (.int 0)) ks.length
theorem call_setK {n : Nat} {d : D} {ks : List Key} (hR : Rm n A) (hd : SeqD c F G d "list" (ks.map Key.d)) (hl : ks.length ≤ 1000) (hok : ∀ k ∈ ks, k.ok = true) (hq : ∀ a, Q (.ref a) F ((a, .set (metL ks)) :: G)) : CallD c A env F G (.typ "set") [d] Q E := fun w v vs hv hvs f l hl' w1 R s hs S => by
  simp only [Rel] at hv; subst hv
  simp only [Rels] at hvs
  refine e2a3 hvs ?_
  try clear hvs
  intro v1 r1 zq173 hv1 zq174
  subst zq173
  subst zq174
  refine e3a3 (hd l w1 R s v1 (hv1.mono hs) S) fun a us n zq175 h1 h2 => ?_
  subst zq175
  have hz : us.size = ks.length := by simpa using h2.length
  have hget : ∀ i, ∀ v, us[i]? = some v → (ks.getD i (.int 0)).is v = true := fun i v hv => by
    have hi : i < us.size := (Array.getElem?_eq_some_iff.mp hv).1
    refine e1a2 (h2.get (i := i) (d := (ks.getD i (.int 0)).d) (by simp [show i < ks.length by walk_at "q"])) fun u e1 e2 => ?_
    have : u = v := by
      rw [Array.getElem?_toList] at e1
      rw [hv] at e1; cases e1; rfl
    subst this
    exact (Key.is_of_rel e2).1
  refine new_setK (ks := ks) hR.handled ⟨_, h1, rfl, n, rfl⟩ hget (by unfold scanBound; walk_at "q") fun h' tk hS hk => ?_
  rw [hz] at hS
  have S1 : Sim c l w1 (F.led ++ G ++ R) { s with heap := h' } := S.more fun b o e => hk b o (Heap.lt_size e) e
  have newW := S.newW
  have hf : ∀ en ∈ l, en.frame ≠ some s.heap.objs.size := fun en he q => by
    refine e0a2 (S.frs en he) fun _ zq176 => ?_
    obtain ⟨L, z1, _, ⟨ob, es, n, z3, _⟩, _⟩ := zq176
    rw [z1] at q; cases q
    exact absurd (Heap.lt_size z3) (Nat.lt_irrefl _)
  have S2 := (S1.join (o := .set (metL ks)) newW.2 newW.1 ⟨hS, metTo_nodup _ _, fun k hk' => by
    refine e1a2 ((mem_metTo _ k _).mp hk') fun j hj e => ?_
    rw [← e]
    have : ks.getD j (.int 0) = ks[j] := by simp [hj]
    rw [this]
    exact hok _ (List.getElem_mem hj)⟩ hf).toks tk
  refine ⟨w1, .ref s.heap.objs.size, F.led ++ ((s.heap.objs.size, .set (metL ks)) :: G), .refl _, by simp [Rel], S2.perm ?_, F, _, f, rfl, hq _⟩
  simp only [List.append_assoc, List.cons_append]
  exact List.perm_middle
theorem call_lenS {a : Addr} {ks : List Key} (ha : (a, O.set ks) ∈ G) (hl : ks.length ≤ 1000) (hq : Q (.int ks.length) F G) : CallD c A env F G (.bi "len") [.ref a] Q E := fun w v vs hv hvs f l hl' w1 R s hs S => by
  simp only [Rel] at hv; subst hv
  simp only [Rels, Rel] at hvs
  refine e2a3 hvs ?_
  try clear hvs
  intro _ r1 zq177 zq178 zq179
  subst zq177
  subst zq178
  subst zq179
  refine e0a3 (S.get (List.mem_append_left R (List.mem_append_right F.led ha))) fun hS hnd _ => ?_
  refine e4a8 hS ?_
  try clear hS
  intro o es ep t h1 h2 h3 _ _ _ h6 h7
  refine call_len_set h1 h2 h3 h6 (by walk_at "q") ⟨w1, .int ks.length, _, .refl _, ?_, S.toks _, F, G, f, rfl, hq⟩
  simp only [Rel]; rw [h7]; exact ⟨_, rfl⟩
end
end
structure CompSc1 (env : Env) (scope : Scope) (cl : List (Str × Addr)) (xn : Str) : Prop where
  clos : closureFor scope env = pure cl
  kind : scope.kind = .function
  names : ∀ x ∈ scope.names, x.2 = .local → scope.names.lookup x.1 = some .local
  hcf : ∀ n acc, cellsFrom n scope.names acc = (xn, n) :: acc
  hpc : ∀ h, pushCells h scope.names = h.push { cls := .type "cell", data := .cell none }
structure CompE1 (c : Cx) (A : Around) (env : Env) (F : Frm) (G : Led) (scope : Scope) (cl : List (Str × Addr)) (xn : Str) (target : Expr) (ifs : List Expr) (elt : Expr) (d : D) {α : Type} (e : α → D) (xs : List α) (p : α → Bool) (f : α → D) : Prop where
  cok : ∀ (C : Addr) v, CelOk ((xn, C + 1) :: cl) ((xn, C + 1, v) :: F.cel) (relabel scope env).names
  it : ∃ P, IterOf c A d (xs.map e) P ∧ P (F.led ++ G) ∧ ∀ (C : Addr) loc v a o, P ((⟨C, loc, (xn, C + 1, v) :: F.cel⟩ : Frm).led ++ innerG F a o G)
  len : xs.length ≤ 1000000
  turn : ∀ (C : Addr) a1 ys loc v x, x ∈ xs → Asg c A (compEnvC scope ((xn, C + 1) :: cl) C env) ⟨C, loc, (xn, C + 1, v) :: F.cel⟩ (innerG F a1 (.list ys) G) target (e x) (fun F2 G2 => Tst c A (compEnvC scope ((xn, C + 1) :: cl) C env) F2 G2 ifs (fun ok F3 G3 => ok = p x ∧
      if ok then AE c A (compEnvC scope ((xn, C + 1) :: cl) C env) F3 G3 elt (fun y F4 G4 => y = f x ∧ (∃ loc' v', F4 = ⟨C, loc', (xn, C + 1, v') :: F.cel⟩) ∧ G4 = innerG F a1 (.list ys) G) noE
      else (∃ loc' v', F3 = ⟨C, loc', (xn, C + 1, v') :: F.cel⟩) ∧ G3 = innerG F a1 (.list ys) G)) noE
theorem inner_perm1 {F : Frm} {C C1 a ita : Addr} {xn : Str} {v : Option D} {loc : List (Str × D)} {o oi : O} {G R : Led} :
    ((ita, oi) :: ((⟨C, loc, (xn, C1, v) :: F.cel⟩ : Frm).led ++ innerG F a o G) ++ R).Perm ((C1, .cell v) :: (C, .ns loc) :: (a, o) :: (ita, oi) :: (F.led ++ G) ++ R) := by
  have h := inner_perm (F := F) (C := C) (a := a) (ita := ita) (loc := loc) (o := o) (oi := oi) (G := G) (R := R)
  have e : (ita, oi) :: ((⟨C, loc, (xn, C1, v) :: F.cel⟩ : Frm).led ++ innerG F a o G) ++ R = [(ita, oi), (C, .ns loc)] ++ (C1, .cell v) :: ((F.cel.map fun p => (p.2.1, O.cell p.2.2)) ++ innerG F a o G ++ R) := by
    simp [Frm.led]
  rw [e]
  refine List.perm_middle.trans (.cons _ ?_)
  refine List.Perm.trans ?_ h
  simp [Frm.led]
theorem inner_perm3 {F : Frm} {C C1 a : Addr} {xn : Str} {v : Option D} {loc : List (Str × D)} {o : O} {G R : Led} :
    (((⟨C, loc, (xn, C1, v) :: F.cel⟩ : Frm).led ++ innerG F a o G) ++ R).Perm ((C1, .cell v) :: (C, .ns loc) :: ((F.led ++ (a, o) :: G) ++ R)) := by
  have h := inner_perm2 (F := F) (C := C) (a := a) (loc := loc) (o := o) (G := G) (R := R)
  have e : ((⟨C, loc, (xn, C1, v) :: F.cel⟩ : Frm).led ++ innerG F a o G) ++ R = [(C, .ns loc)] ++ (C1, .cell v) :: ((F.cel.map fun p => (p.2.1, O.cell p.2.2)) ++ innerG F a o G ++ R) := by
    simp [Frm.led]
  rw [e]
  refine List.perm_middle.trans (.cons _ ?_)
  refine List.Perm.trans ?_ h
  simp [Frm.led]
section
variable {c : Cx} {A : Around} {env : Env} {F : Frm} {G : Led} {E : LX} {Q : D → Frm → Led → Prop} {α : Type} {e : α → D}
theorem start_list {elt : Expr} {target iter : Expr} {ifs : List Expr} {rest : List Comprehension} {scope : Scope} {pos : Pos} {ita : Addr} {acc : Value} {cenv : Env} {Rr : Result → Shared → Prop} {s : Shared} (hi : ∀ (Q : Value → Shared → Prop) (E : Value → Shared → Prop), Q (.ref ita) s → wpAny (model c.prog c.wd) A (pyIter (.ref ita)) Q E s)
    (h : codeAny (model c.prog c.wd) A (.compLoop (.ListComp elt (⟨target, iter, ifs, 0⟩ :: rest) scope pos) 0 (.ref ita) acc cenv) Rr s) : codeAny (model c.prog c.wd) A (.compStart (.ListComp elt (⟨target, iter, ifs, 0⟩ :: rest) scope pos) 0 (.ref ita) acc cenv) Rr s :=
  codeAny_compStart_list h (hi _ _ h)
theorem ae_CompE1 {elt target iter : Expr} {ifs : List Expr} {scope : Scope} {pos : Pos} {cl : List (Str × Addr)} {xn : Str} (hc : c.Ok) (K0 : CompSc1 env scope cl xn)
    (h : AE c A env F G iter (fun d F1 G1 => ∃ (xs : List α) (p : α → Bool) (f : α → D), CompE1 c A env F1 G1 scope cl xn target ifs elt d e xs p f ∧ Q (.list ((xs.filter p).map f)) F1 G1) E)
    (hfs : ∀ x, foldedSetIterable iter env x = pure x := by intro _; with_unfolding_all rfl) : AE c A env F G (.ListComp elt [⟨target, iter, ifs, 0⟩] scope pos) Q E := by
  refine AT.frozen ?_
  intro f l hl w1 R s hs S
  refine wpAny_comprehension_free (g := ⟨target, iter, ifs, 0⟩) (gs := []) rfl hfs K0.clos K0.kind K0.names ?_
  refine wpAny_mono (h f l hl w1 R s hs S) (fun x s1 z9 => ?_) fun _ _ z => z
  obtain ⟨w2, d, G', k1, k2, k3, F1, G1, k4, k5, xs, p, fn, K, hq⟩ := z9
  subst k5
  refine e1a3 K.it fun P it1 it2 it3 => ?_
  refine wpAny_mono (it1 l hl w2 x (F1.led ++ G1) R s1 k2 it2 k3) (fun u s2 z9 => ?_) (fun _ _ z => z.elim)
  refine e3a5 z9 ?_
  try clear z9
  intro ita en w3 e1 nx j2 j3 itr
  subst e1
  refine wpAny_newObj_type ?_
  have S3 := j3.alloc (ob := seqO "list" #[] 0) (o := .list []) rfl ⟨#[], 0, Heap.get?_push_size _ rfl, .nil, by simp⟩
  generalize ha1 : s2.heap.objs.size = a1 at S3 ⊢
  have S4 := S3.alloc (ob := { cls := .type "dict", data := .dict #[] }) (o := .ns []) rfl ⟨_, #[], 0, Heap.get?_push_size _ rfl, rfl, by intro e he; simp at he, by intro x d h; cases h⟩
  have S5 := S4.alloc (ob := { cls := .type "cell", data := .cell none }) (o := .cell none) rfl ⟨none, _, Heap.get?_push_size _ rfl, rfl⟩
  have hCf : ∀ en ∈ l, en.frame ≠ some (s2.heap.push (seqO "list" #[] 0)).objs.size := fun en he q => by
    refine e0a2 (S3.frs en he) fun _ zq180 => ?_
    obtain ⟨L, z1, _, ⟨ob, es, n, z3, _⟩, _⟩ := zq180
    rw [z1] at q; cases q
    exact absurd (Heap.lt_size z3) (Nat.lt_irrefl _)
  dsimp only at S5
  rw [Heap.size_push] at S5
  rw [Heap.size_push] at S5 hCf
  rw [ha1] at S5 hCf
  unfold newFunctionEnv
  refine wpAny_bind (wpAny_alloc ?_)
  refine wpAny_bind (wpAny_layCells _ (fun name kind cells => by cases hkc : kind == NameKind.cell <;> simp [hkc]) _ _ _ _ ?_)
  rw [K0.hcf, K0.hpc]
  dsimp only
  rw [List.forIn_nil]
  refine wpAny_bind (wpAny_pure (wpAny_pure ?_))
  dsimp only
  simp only [Heap.size_push, ha1]
  generalize hCC : a1 + 1 = C at *
  show codeAny _ A (.compStart _ 0 (.ref ita) (.ref a1) (compEnvC scope ((xn, C + 1) :: cl) C env)) _ _
  have S6 := S5.perm (inner_perm1 (F := F1) (C := C) (C1 := C + 1) (xn := xn) (v := none) (a := a1) (ita := ita) (loc := []) (o := .list []) (oi := en 0) (G := G1) (R := R))
  have fitC : Fit (compEnvC scope ((xn, C + 1) :: cl) C env) ⟨C, [], (xn, C + 1, none) :: F1.cel⟩ := ⟨K0.kind, rfl, fun x hx => (K.cok C none).all x hx, k4.gl, k4.bi⟩
  have loop := comp_loop (R := R) (e := .ListComp elt [⟨target, iter, ifs, 0⟩] scope pos) (depth := 0) (p := iter.pos) (target := target) (ifs := ifs) (act := do let _ ← call (.builtin "list.append") [.ref a1, ← eval elt (compEnvC scope ((xn, C + 1) :: cl) C env)]) (cenv := compEnvC scope ((xn, C + 1) :: cl) C env) (acc := .ref a1) hl rfl rfl rfl rfl nx
    (fun i F G => ∃ loc v, F = ⟨C, loc, (xn, C + 1, v) :: F1.cel⟩ ∧ G = innerG F1 a1 (.list (((xs.take i).filter p).map fn)) G1)
    (fun i F G ⟨loc, v, z1, z2⟩ => by subst z1 z2; exact it3 C loc v a1 _) (fun i d F G hd ⟨loc, v, z1, z2⟩ => by
      subst z1 z2
      rw [List.getElem?_map] at hd
      refine e1a2 (Option.map_eq_some_iff.mp hd) fun y hy zq181 => ?_
      subst zq181
      have hi : i < xs.length := (List.getElem?_eq_some_iff.mp hy).1
      have tk : ((xs.take (i + 1)).filter p).map fn = ((xs.take i).filter p).map fn ++ (if p y then [fn y] else []) := by
        rw [List.take_add_one, hy, List.filter_append, List.map_append]
        congr 1
        by_cases q : p y <;> simp [q]
      have hlen : (((xs.take i).filter p).map fn).length < 1000000 := by
        rw [List.length_map]
        have h1 := List.length_filter_le p (xs.take i)
        have h2 : (xs.take i).length = i := by rw [List.length_take]; walk_at "o"
        have := K.len; walk_at "o"
      refine fun w v' hr => (K.turn C a1 _ loc v y (List.mem_of_getElem? hy) w v' hr).mono (fun _ F2 G2 h2 => AT.mono h2 (fun ok F3 G3 h3 => ?_) fun _ _ _ _ z => z) fun _ _ _ _ z => z
      refine e0a2 h3 ?_
      try clear h3
      intro e1 h3
      cases ok with
      | false =>
        rw [if_neg (by decide)] at h3 ⊢
        refine e0a2 h3 ?_
        try clear h3
        intro zq182 z2
        obtain ⟨loc', v', z1⟩ := zq182
        exact ⟨loc', v', z1, by rw [z2, tk, ← e1]; simp⟩
      | true =>
        rw [if_pos rfl] at h3 ⊢
        refine AT.bind (h3.mono (fun y' F4 G4 ⟨z1, ⟨loc', v', z2⟩, z3⟩ w1 v1 hs1 hr1 => ?_) fun _ _ _ _ z => z)
        subst z1 z2 z3
        refine AT.bind (rel' := Rel) (AT.mono (call_append (G1 := [(F1.L, .ns F1.loc)]) (Q := fun r F5 G5 => F5 = ⟨C, loc', (xn, C + 1, v') :: F1.cel⟩ ∧ G5 = innerG F1 a1 (.list (((xs.take i).filter p).map fn ++ [fn y])) G1) hlen ⟨rfl, rfl⟩ w1 (.builtin "list.append") [.ref a1, v1] (by simp [Rel]) (.cons (by simp [Rel]) (.one hr1))) (fun r F5 G5 ⟨z4, z5⟩ w2 v2 _ _ => AT.pure (b := ()) rfl (fun _ _ z => z) ⟨loc', v', z4, by rw [z5, tk, ← e1]; simp⟩) fun _ _ _ _ z => z))
    (F := ⟨C, [], (xn, C + 1, none) :: F1.cel⟩) (G := innerG F1 a1 (.list []) G1) ⟨[], none, rfl, by simp⟩ fitC (.refl _) S6
  refine start_list (fun Q E hQ => itr_self (itr 0) S6 hQ) (codeAny_mono loop fun r s' ⟨z1, w', F', G', z2, z3, z4, loc, v, z5, z6⟩ => ?_)
  · subst z1 z5 z6
    have S7 := z4.perm inner_perm3.symm
    rw [List.length_map, List.take_length] at S7
    have S8 : Sim c l w' ((C, .ns loc) :: ((F1.led ++ (a1, .list ((xs.filter p).map fn)) :: G1) ++ R)) s' := Sim.tail (A := [_]) S7
    refine ⟨_, (Sim.nsAt S8).choose_spec, fun h' hsb => ?_⟩
    exact ⟨w', .ref a1, F1.led ++ (a1, .list ((xs.filter p).map fn)) :: G1, (k1.trans j2).trans z2, by simp [Rel], S8.gone2 hsb hCf, F1, _, k4, rfl, a1, _, G1, rfl, rfl, hq⟩
end
structure Comp2 (c : Cx) (A : Around) (env : Env) (F : Frm) (G : Led) (scope : Scope) (cl : List (Str × Addr)) (t1 t2 it2 : Expr) (ifs : List Expr) (elt : Expr) (d : D) {α β : Type} (e1 : α → D) (e2 : β → D) (xs : List α) (ys : α → List β) (p : α → β → Bool) (f : α → β → D) : Prop where
  cok : CelOk cl F.cel (relabel scope env).names
  it : ∃ P, IterOf c A d (xs.map e1) P ∧ P (F.led ++ G) ∧ ∀ C loc a o, P ((⟨C, loc, F.cel⟩ : Frm).led ++ innerG F a o G)
  len : (xs.flatMap fun x => ((ys x).filter (p x)).map (f x)).length < 1000000
  turn : ∀ C a1 zs loc x, x ∈ xs → Asg c A (compEnvC scope cl C env) ⟨C, loc, F.cel⟩ (innerG F a1 (.list zs) G) t1 (e1 x) (fun F2 G2 => (∃ loc', F2 = ⟨C, loc', F.cel⟩) ∧ G2 = innerG F a1 (.list zs) G ∧
      AE c A (compEnvC scope cl C env) F2 G2 it2 (fun d2 F3 G3 => F3 = F2 ∧ G3 = G2 ∧ ∃ P2 : Led → Prop, IterOf c A d2 ((ys x).map e2) P2 ∧ (∀ loc' o, P2 ((⟨C, loc', F.cel⟩ : Frm).led ++ innerG F a1 o G)) ∧
        ∃ Lo : List (Str × D) → Prop, Lo F2.loc ∧ ∀ zs loc' y, Lo loc' → y ∈ ys x → Asg c A (compEnvC scope cl C env) ⟨C, loc', F.cel⟩ (innerG F a1 (.list zs) G) t2 (e2 y) (fun F4 G4 => Tst c A (compEnvC scope cl C env) F4 G4 ifs (fun ok F5 G5 => ok = p x y ∧
          if ok then AE c A (compEnvC scope cl C env) F5 G5 elt (fun z F6 G6 => z = f x y ∧ (∃ loc'', F6 = ⟨C, loc'', F.cel⟩ ∧ Lo loc'') ∧ G6 = innerG F a1 (.list zs) G) noE
          else (∃ loc'', F5 = ⟨C, loc'', F.cel⟩ ∧ Lo loc'') ∧ G5 = innerG F a1 (.list zs) G)) noE) noE) noE
section
variable {c : Cx} {A : Around} {env : Env} {F : Frm} {G : Led} {E : LX} {Q : D → Frm → Led → Prop} {α β : Type} {e1 : α → D} {e2 : β → D}
theorem start_list1 {elt : Expr} {g1 : Comprehension} {target iter : Expr} {ifs : List Expr} {scope : Scope} {pos : Pos} {ita : Addr} {acc : Value} {cenv : Env} {Rr : Result → Shared → Prop} {s : Shared} (hi : ∀ (Q : Value → Shared → Prop) (E : Value → Shared → Prop), Q (.ref ita) s → wpAny (model c.prog c.wd) A (pyIter (.ref ita)) Q E s)
    (h : codeAny (model c.prog c.wd) A (.compLoop (.ListComp elt [g1, ⟨target, iter, ifs, 0⟩] scope pos) 1 (.ref ita) acc cenv) Rr s) : codeAny (model c.prog c.wd) A (.compStart (.ListComp elt [g1, ⟨target, iter, ifs, 0⟩] scope pos) 1 (.ref ita) acc cenv) Rr s := by
  refine codeAny_of_tree ?_
  show wpAny _ _ ((compStart (.ListComp elt [g1, ⟨target, iter, ifs, 0⟩] scope pos) 1 (.ref ita) acc cenv).onRaise (fun x => do noteFrame x cenv; standAt theWindowsPlace)) _ _ s
  refine wpAny_notedAt ?_
  unfold compStart
  show wpAny _ _ (ask >>= _) _ _ s
  refine wpAny_bind (wpAny_askSetting (wpAny_ite ?_))
  split
  · first
      | exact wpAny_bind (wpAny_pure (wpAny_pure (And.intro rfl h)))
      | exact wpAny_pure (And.intro rfl h)
  · refine wpAny_bind (wpAny_rule ?_)
    show wpAny _ _ (standAt iter.pos >>= _) _ _ s
    refine wpAny_bind (wpAny_standAt (wpAny_bind (hi _ _ ?_)))
    exact wpAny_pure ⟨rfl, h⟩
noncomputable def act2 (e : Expr) (it2 : Expr) (acc : Value) (env : Env) : Sem Unit := do
  let x ← eval it2 env
  standAt it2.pos
  let x ← foldedSetIterable it2 env x
  let _ ← runOwn (.compStart e 1 (← holding [x] (pyIter x)) acc env) env
theorem turn2_eq {elt t1 t2 it1 it2 : Expr} {ifs : List Expr} {scope : Scope} {pos : Pos} (it acc : Value) (cenv : Env) :
    compTurn (.ListComp elt [⟨t1, it1, [], 0⟩, ⟨t2, it2, ifs, 0⟩] scope pos) 0 it acc cenv = turnG it1.pos t1 [] (act2 (.ListComp elt [⟨t1, it1, [], 0⟩, ⟨t2, it2, ifs, 0⟩] scope pos) it2 acc cenv) (.compLoop (.ListComp elt [⟨t1, it1, [], 0⟩, ⟨t2, it2, ifs, 0⟩] scope pos) 0 it acc cenv) it cenv := by
  have e : act2 (.ListComp elt [⟨t1, it1, [], 0⟩, ⟨t2, it2, ifs, 0⟩] scope pos) it2 acc cenv >>= (fun _ => again (.compLoop (.ListComp elt [⟨t1, it1, [], 0⟩, ⟨t2, it2, ifs, 0⟩] scope pos) 0 it acc cenv)) =
      (eval it2 cenv >>= fun x => standAt it2.pos >>= fun _ => foldedSetIterable it2 cenv x >>= fun x => holding [x] (pyIter x) >>= fun i => runOwn (.compStart (.ListComp elt [⟨t1, it1, [], 0⟩, ⟨t2, it2, ifs, 0⟩] scope pos) 1 i acc cenv) cenv >>= fun _ => again (.compLoop (.ListComp elt [⟨t1, it1, [], 0⟩, ⟨t2, it2, ifs, 0⟩] scope pos) 0 it acc cenv)) := by
    unfold act2
    simp only [bind_assoc, pure_bind]
  unfold turnG
  rw [show (fun (ok : Bool) => if ok = true then act2 (.ListComp elt [⟨t1, it1, [], 0⟩, ⟨t2, it2, ifs, 0⟩] scope pos) it2 acc cenv >>= (fun _ => again (.compLoop (.ListComp elt [⟨t1, it1, [], 0⟩, ⟨t2, it2, ifs, 0⟩] scope pos) 0 it acc cenv)) else again (.compLoop (.ListComp elt [⟨t1, it1, [], 0⟩, ⟨t2, it2, ifs, 0⟩] scope pos) 0 it acc cenv)) = (fun (ok : Bool) => if ok = true then _ else _) from by rw [e]]
  rfl
theorem ae_Comp2 {elt t1 t2 it1 it2 : Expr} {ifs : List Expr} {scope : Scope} {pos : Pos} {cl : List (Str × Addr)} (hc : c.Ok) (K0 : CompSc env scope cl)
    (h : AE c A env F G it1 (fun d F1 G1 => ∃ (xs : List α) (ys : α → List β) (p : α → β → Bool) (f : α → β → D), Comp2 c A env F1 G1 scope cl t1 t2 it2 ifs elt d e1 e2 xs ys p f ∧ Q (.list (xs.flatMap fun x => ((ys x).filter (p x)).map (f x))) F1 G1) E)
    (hfs : ∀ x, foldedSetIterable it1 env x = pure x := by intro _; with_unfolding_all rfl) (hfs2 : ∀ C x, foldedSetIterable it2 (compEnvC scope cl C env) x = pure x := by intro _ _; with_unfolding_all rfl) :
    AE c A env F G (.ListComp elt [⟨t1, it1, [], 0⟩, ⟨t2, it2, ifs, 0⟩] scope pos) Q E := by
  refine AT.frozen ?_
  intro f l hl w1 R s hs S
  refine wpAny_comprehension_free (g := ⟨t1, it1, [], 0⟩) (gs := [⟨t2, it2, ifs, 0⟩]) rfl hfs K0.clos K0.kind K0.names ?_
  refine wpAny_mono (h f l hl w1 R s hs S) (fun x s1 z9 => ?_) fun _ _ z => z
  obtain ⟨w2, d, G', k1, k2, k3, F1, G1, k4, k5, xs, ys, p, fn, K, hq⟩ := z9
  subst k5
  refine e1a3 K.it fun P q1 q2 q3 => ?_
  refine comp_core (g := ⟨t1, it1, [], 0⟩) (acc0 := seqO "list" #[] 0) (act := fun acc env => act2 (.ListComp elt [⟨t1, it1, [], 0⟩, ⟨t2, it2, ifs, 0⟩] scope pos) it2 acc env) hl K0.clos K0.kind K0.cell k4 K.cok
    (fun i o => o = .list ((xs.take i).flatMap fun x => ((ys x).filter (p x)).map (fn x))) rfl
    (fun Q E s h => wpAny_newObj_type h) (.list []) (by simp) (fun w h a ha _ => ⟨#[], 0, ha, .nil, by simp⟩) (fun _ _ _ => turn2_eq _ _ _) (fun _ _ _ => rfl) (fun _ _ _ => rfl) (fun _ _ _ => rfl)
    (fun ita C a1 s Rr h1 h2 => start_list h2 h1) hc q1 q3 q2 ?_ k2 k3 ?_
  · rintro C a1 loc i d o hd rfl
    rw [List.getElem?_map] at hd
    refine e1a2 (Option.map_eq_some_iff.mp hd) fun x hx zq183 => ?_
    subst zq183
    have hi : i < xs.length := (List.getElem?_eq_some_iff.mp hx).1
    have hsplit : xs = xs.take i ++ x :: xs.drop (i + 1) := by
      have := (List.getElem?_eq_some_iff.mp hx).2
      rw [← this, ← List.drop_eq_getElem_cons hi, List.take_append_drop]
    have hlen := K.len
    rw [hsplit, List.flatMap_append, List.flatMap_cons, List.length_append, List.length_append] at hlen
    refine fun w v hr => (K.turn C a1 _ loc x (List.mem_of_getElem? hx) w v hr).mono (fun _ F2 G2 h2 => ?_) fun _ _ _ _ z => z
    refine e0a3 h2 ?_
    try clear h2
    intro zq184 zq185 h2
    obtain ⟨loc', rfl⟩ := zq184
    subst zq185
    refine tst_nil ?_
    first | refine ite_t (rfl) ?_ | rw [if_pos (rfl)]
    unfold act2
    refine AT.bind (h2.mono (fun d2 F3 G3 h3 w3 v3 hs3 hr3 => AT.standAt ?_) fun _ _ _ _ z => z)
    refine e0a3 h3 ?_
    try clear h3
    intro zq186 zq187 zq188
    subst zq186
    subst zq187
    obtain ⟨P2, hI2, hP2, Lo, lo0, turn2⟩ := zq188
    rw [hfs2]
    intro fit l' hl' w4 R4 s4 hs4 S4
    rw [hl] at hl'
    cases hl'
    refine wpAny_bind (wpAny_pure ?_)
    refine wpAny_bind (wpAny_holding (wpAny_mono (hI2 l hl w4 v3 _ R4 s4 (hr3.mono hs4) (hP2 loc' _) S4) (fun u s5 z9 => ?_) fun _ _ z => z.elim))
    refine e3a5 z9 ?_
    try clear z9
    intro ita en w5 u1 nx u2 u3 itr
    subst u1
    have tk : ∀ zs : List D, ∀ j y, (ys x)[j]? = some y → zs ++ (((ys x).take (j + 1)).filter (p x)).map (fn x) = (zs ++ (((ys x).take j).filter (p x)).map (fn x)) ++ (if p x y then [fn x y] else []) := fun zs j y hy => by
      rw [List.take_add_one, hy, List.filter_append, List.map_append, List.append_assoc]
      congr 2
      by_cases q : p x y <;> simp [q]
    generalize hzs : ((xs.take i).flatMap fun x => ((ys x).filter (p x)).map (fn x)) = zs at *
    have loop := comp_loop (R := R4) (e := .ListComp elt [⟨t1, it1, [], 0⟩, ⟨t2, it2, ifs, 0⟩] scope pos) (depth := 1) (p := it2.pos) (target := t2) (ifs := ifs) (act := do let _ ← call (.builtin "list.append") [.ref a1, ← eval elt (compEnvC scope cl C env)]) (cenv := compEnvC scope cl C env) (acc := .ref a1) hl rfl rfl rfl rfl nx
      (fun j F G => ∃ loc, F = ⟨C, loc, F1.cel⟩ ∧ Lo loc ∧ G = innerG F1 a1 (.list (zs ++ (((ys x).take j).filter (p x)).map (fn x))) G1)
      (fun j F G ⟨loc, z1, z2, z3⟩ => by subst z1 z3; exact hP2 loc _) (fun j d F G hd ⟨loc, z1, z2, z3⟩ => by
        subst z1 z3
        rw [List.getElem?_map] at hd
        refine e1a2 (Option.map_eq_some_iff.mp hd) fun y hy zq189 => ?_
        subst zq189
        have hle : (zs ++ (((ys x).take j).filter (p x)).map (fn x)).length < 1000000 := by
          rw [List.length_append, List.length_map]
          rw [List.length_map] at hlen
          have : (((ys x).take j).filter (p x)).length ≤ ((ys x).filter (p x)).length := (List.Sublist.filter _ (List.take_sublist j (ys x))).length_le
          walk_at "o"
        refine fun w v' hr => (turn2 _ loc y z2 (List.mem_of_getElem? hy) w v' hr).mono (fun _ F2 G2 h2 => AT.mono h2 (fun ok F3 G3 h3 => ?_) fun _ _ _ _ z => z) fun _ _ _ _ z => z
        refine e0a2 h3 ?_
        try clear h3
        intro e1 h3
        cases ok with
        | false =>
          rw [if_neg (by decide)] at h3 ⊢
          refine e0a2 h3 ?_
          try clear h3
          intro zq190 z2
          obtain ⟨loc', z1, z4⟩ := zq190
          exact ⟨loc', z1, z4, by rw [z2, tk _ _ _ hy, ← e1]; simp⟩
        | true =>
          rw [if_pos rfl] at h3 ⊢
          refine AT.bind (h3.mono (fun y' F4 G4 ⟨z1, ⟨loc', z2, z4⟩, z3⟩ w1 v1 hs1 hr1 => ?_) fun _ _ _ _ z => z)
          subst z1 z2 z3
          refine AT.bind (rel' := Rel) (AT.mono (call_append (G1 := [(F1.L, .ns F1.loc)]) (Q := fun r F5 G5 => F5 = ⟨C, loc', F1.cel⟩ ∧ G5 = innerG F1 a1 (.list ((zs ++ (((ys x).take j).filter (p x)).map (fn x)) ++ [fn x y])) G1) hle ⟨rfl, rfl⟩ w1 (.builtin "list.append") [.ref a1, v1] (by simp [Rel]) (.cons (by simp [Rel]) (.one hr1))) (fun r F5 G5 ⟨z5, z6⟩ w2 v2 _ _ => AT.pure (b := ()) rfl (fun _ _ z => z) ⟨loc', z5, z4, by rw [z6, tk _ _ _ hy, ← e1]; simp⟩) fun _ _ _ _ z => z))
      (F := ⟨C, loc', F1.cel⟩) (G := innerG F1 a1 (.list zs) G1) ⟨loc', rfl, lo0, by simp⟩ fit (.refl _) u3
    refine wpAny_bind (wpAny_runOwn ?_)
    rw [Around.mark_none]
    refine start_list1 (fun Q E hQ => itr_self (itr 0) u3 hQ) (codeAny_mono loop fun r s' ⟨z1, w', F', G', z2, z3, z4, loc2, z5, z6, z7⟩ => ?_)
    subst z1 z5 z7
    rw [List.length_map, List.take_length] at z4
    refine wpAny_pure ⟨w', (), _, u2.trans z2, rfl, z4, _, _, z3, rfl, loc2, _, rfl, rfl, ?_⟩
    rw [List.take_add_one, hx, List.flatMap_append, hzs]
    simp
  · rintro w' C a1 o' loc s' h1 rfl h3 h4
    rw [List.length_map, List.take_length] at h3
    refine ⟨_, (Sim.nsAt h3).choose_spec, fun h' hsb => ?_⟩
    exact ⟨w', .ref a1, F1.led ++ (a1, .list _) :: G1, k1.trans h1, by simp [Rel], h3.gone2 hsb h4, F1, _, k4, rfl, a1, _, G1, rfl, rfl, hq⟩
end
noncomputable abbrev KF : Params → Frag := hd.heap_1

theorem after_next {c : Cx} {A : Around} {env : Env} {F : Frm} {G : Led} {rest : List Stmt} {Q : Fl → Frm → Led → Prop} {E : LX} (h : AS c A env F G rest Q E) : after c A env rest Q E .next F G := h
theorem after_ret {c : Cx} {A : Around} {env : Env} {F : Frm} {G : Led} {rest : List Stmt} {Q : Fl → Frm → Led → Prop} {E : LX} {d : D} (h : Q (.ret d) F G) : after c A env rest Q E (.ret d) F G := h
theorem bind_pure {c : Cx} {A : Around} {w : Wd} {G : Led} {fd : FuncData} {vs : List Value} {bv : List (Str × Value)} {bs : List (Str × D)} (h : bindArgs fd ⟨vs, []⟩ = pure bv) (hr : BRel w bs bv) :
    AW c A BRel w G (bindArgs fd ⟨vs, []⟩) (fun b G' => b = bs ∧ G' = G) (fun _ _ _ => False) := by
  rw [h]; exact AW.pure hr (fun _ s z => z.mono s) ⟨rfl, rfl⟩
theorem kind_of {env env' : Env} {x : Str} {r : Option NameKind} (he : env = env') (h : env'.kindOf x = r) : env.kindOf x = r := he ▸ h
theorem ite_t {p : Prop} [i : Decidable p] {a b : Prop} (h : p) (x : a) : ite p a b := by rw [if_pos h]; exact x
theorem ite_f {p : Prop} [i : Decidable p] {a b : Prop} (h : ¬ p) (x : b) : ite p a b := by rw [if_neg h]; exact x
theorem hk_of {names : List (Str × NameKind)} {xs : List Str} (h : (xs.all fun x => names.lookup x == some .local || (names.lookup x == some .cell && ((cellsFrom 0 names []).lookup x).isSome)) = true) :
    ∀ x ∈ xs, names.lookup x = some .local ∨ (names.lookup x = some .cell ∧ ∀ m, ((cellsFrom m names []).lookup x).isSome = true) := fun x hx => by
  have := List.all_eq_true.mp h x hx
  simp only [Bool.or_eq_true, Bool.and_eq_true, beq_iff_eq] at this
  rcases this with q | ⟨q1, q2⟩
  · exact .inl q
  · refine .inr ⟨q1, fun m => ?_⟩
    have e : (cellsFrom m names []).map (·.1) = (cellsFrom 0 names []).map (·.1) := (cellsFrom_names names 0 m [] [] rfl).symm
    refine e1a1 (Option.isSome_iff_exists.mp q2) fun a ha => ?_
    have hm : x ∈ (cellsFrom m names []).map (·.1) := by rw [e]; exact List.mem_map.mpr ⟨_, lookup_mem ha, rfl⟩
    refine e1a2 (List.mem_map.mp hm) fun p hp zq191 => ?_
    subst zq191
    cases q : (cellsFrom m names []).lookup p.1 with
    | some b => rfl
    | none => exact absurd (List.lookup_eq_none_iff.mp q p hp) (by first | walk_at "h" | simp)

theorem ac_fun {c : Cx} {A : Around} {n : Nat} {f : Addr} {fd : FuncData} {body : List Stmt} {args : List D} {bs : List (Str × D)} {G : Led} {Q : D → Led → Prop} {E : Value → List D → Led → Prop} (F0 : Addr → Frm)
    (hc : c.Ok) (hR : Rm (n + 1) A) (hd : DefOk c f fd body)
    (hb : ∀ w vs, Rels w args vs → AW c A.in1 BRel w G (bindArgs fd ⟨vs, []⟩) (fun b G' => b = bs ∧ G' = G) (fun _ _ _ => False))
    (hnd : (bs.map (·.1)).Nodup) (hk : ∀ x ∈ bs.map (·.1), fd.scope.names.lookup x = some .local ∨ (fd.scope.names.lookup x = some .cell ∧ ∀ m, ((cellsFrom m fd.scope.names []).lookup x).isSome = true))
    (hF : ∀ L, frm0 fd.scope L bs = F0 L)
    (h : ∀ L env A', env = envD fd L f → Rm n A' → FitA A' env → AS c A' env (F0 L) G body (fun fl _ G' => Q (match fl with | .ret d => d | _ => .none) G') (fun x y _ G' => E x y G')) :
    AC c A (.ref f) args G Q E := ac_def hc hR hd hb hnd hk fun L h1 h2 => by rw [hF]; exact h L _ _ rfl h1 h2

structure Top (c : Cx) : Prop where
  ok : c.Ok
  K : c.K = KF c.wd.params
  exc : ExcOk c 55 [.type "ValueError", .type "Exception", .type "BaseException", .type "object"] "ValueError.__new__"

section
variable {c : Cx}
theorem Top.glob (T : Top c) {x : Str} {v : Value} {d : D} (h : nsIn (KF c.wd.params) mainGlobals x = some (some v)) (hr : Rel Wd.nil d v) : Glob c x d := by
  refine e1a1 T.ok.g fun mg hg => ?_
  exact ⟨mg, v, hg, mg_of (T.K ▸ T.ok.kin) hg h, hr⟩
theorem Top.blt (T : Top c) {x : Str} {v : Value} {d : D} (h : nsIn (KF c.wd.params) mainGlobals x = some none) (hb : bootBuiltins x = some v) (hr : Rel Wd.nil d v) (hx : x ≠ "__name__" := by decide) : Blt c x d := by
  refine e1a1 T.ok.g fun mg hg => ?_
  refine e1a2 T.ok.b fun mb hmb hbb => ?_
  exact ⟨mg, mb, v, hg, ns_none_of (T.K ▸ T.ok.kin) hg h, hmb, (hbb x hx).trans hb, hr⟩
theorem Top.in (T : Top c) {a : Addr} {o : Obj} (h : (KF c.wd.params).lookup a = some o) : c.base.get? a = some o := T.ok.kin a o (by rw [T.K]; exact h)
end
set_option genInjectivity false in
structure Nd where
  k : Key
  a : Addr
  s : Addr
  np : Int
  su : List Key
noncomputable def Nd.led (n : Nd) : Led := [(n.a, .slots 40 [n.k.d, .int n.np, .ref n.s]), (n.s, .list (n.su.map Key.d))]

local macro_rules | `(tactic| walk_at "r") => `(tactic| with_unfolding_all rfl)
local macro_rules | `(tactic| walk_at "l") => `(tactic| first | with_unfolding_all rfl | with_unfolding_all assumption)
local macro_rules | `(tactic| walk_at "m") => `(tactic| with_reducible first
  | refine as_cons ?_
  | refine as_nil ?_
  | refine after_next ?_
  | refine after_ret ?_
  | refine al_nil ?_
  | refine args_nil ?_
  | refine ae_int ?_
  | refine ae_none ?_
  | refine ae_bool ?_
  | refine tr_bool ?_
  | (refine' ae_local ?a ?b ?_ ?c; (case a => assumption); (case b => walk_at "l"); (case c => walk_at "r"))
  | (refine' ae_cell ?a ?b ?_ ?c; (case a => assumption); (case b => walk_at "l"); (case c => walk_at "r"))
  | (refine' ae_glob ?a ?b ?_ ?c; (case a => assumption); (case b => assumption); (case c => walk_at "r"))
  | (refine' ae_blt ?a ?b ?_ ?c; (case a => assumption); (case b => assumption); (case c => walk_at "r"))
  | (refine ae_str ?a ?_; (case a => decide +kernel))
  | (refine asg_local ?a ?_; (case a => assumption))
  | (refine as_Assign1 ?_ ?a ?b ?c; (case a => walk_at "r"); (case b => walk_at "r"); (case c => walk_at "r"))
  | (refine as_Assign2 ?_ ?a ?b ?c; (case a => walk_at "r"); (case b => walk_at "r"); (case c => walk_at "r"))
  | refine as_Return ?_
  | (refine as_Expr ?_ ?a ?b; (case a => assumption); (case b => walk_at "r"))
  | refine as_If ?_
  | refine as_Break ?_
  | refine as_Continue ?_
  | refine asg_Attr ?_
  | refine asg_Sub ?_
  | (refine ae_Attr ?_ ?a; (case a => walk_at "r"))
  | (refine ae_Sub ?_ ?a; (case a => intros; walk_at "r"))
  | refine ae_Named ?_
  | (refine ae_Meth ?_ ?a ?b ?c; (case a => walk_at "r"); (case b => walk_at "r"); (case c => walk_at "r"))
  | (refine ae_Call ?_ ?a; (case a => walk_at "r"))
  | (refine ai_Compare1 ?_ ?a; (case a => walk_at "r"))
  | (refine al_cons ?_ ?a; (case a => walk_at "r"))
  | (refine args_plain ?_ ?a; (case a => walk_at "r"))
  | refine as_AugAttr ?_
  | (refine' asg_cell2 ?a ?b ?c ?_; (case a => assumption); (case b => walk_at "l"); (case c => with_unfolding_all (repeat (first | exact celSet_h2 | apply celSet_t2 (by decide)))))
  | refine ae_UnaryOp ?_
  | refine ae_BinOp ?_
  | (refine ae_Compare1 ?_ ?a; (case a => walk_at "r"))
  | refine ai_Not ?_
  | refine op_neg ?_
  | refine apart_some ?_
  | refine apart_none ?_
  | refine ae_Tuple ?_
  | refine ae_IfExp ?_)
local macro_rules | `(tactic| walk_at "M") => `(tactic| repeat walk_at "m")
section
variable {c : Cx} {A : Around}
theorem cls40 (T : Top c) : ClsOk c 40 false := by
  constructor <;> rw [T.K] <;> with_unfolding_all rfl
theorem slot_node (T : Top c) : SlotOk c 40 "node" 0 := ⟨_, by rw [T.K]; with_unfolding_all rfl, by rw [T.K]; with_unfolding_all rfl, by rw [T.K]; with_unfolding_all rfl, by rw [T.K]; with_unfolding_all rfl⟩
theorem slot_np (T : Top c) : SlotOk c 40 "npredecessors" 1 := ⟨_, by rw [T.K]; with_unfolding_all rfl, by rw [T.K]; with_unfolding_all rfl, by rw [T.K]; with_unfolding_all rfl, by rw [T.K]; with_unfolding_all rfl⟩
theorem slot_su (T : Top c) : SlotOk c 40 "successors" 2 := ⟨_, by rw [T.K]; with_unfolding_all rfl, by rw [T.K]; with_unfolding_all rfl, by rw [T.K]; with_unfolding_all rfl, by rw [T.K]; with_unfolding_all rfl⟩
theorem cls137 (T : Top c) : ClsOk c 137 true := by
  constructor <;> rw [T.K] <;> with_unfolding_all rfl

theorem ac_ni_init {n : Nat} (T : Top c) (hR : Rm (n + 1) A) (x : Addr) (k : Key) (G : Led) :
    AC c A (.ref 36) [.ref x, k.d] ((x, .slots 40 []) :: G) (fun r G' => r = .none ∧ ∃ s, G' = (s, .list []) :: (x, .slots 40 [k.d, .int 0, .ref s]) :: G) (fun _ _ _ => False) := by
  refine ac_fun (bs := [("self", .ref x), ("node", k.d)]) (fun L => ⟨L, [("self", .ref x), ("node", k.d)], []⟩) T.ok hR (DefOk.mk ⟨_, T.in (by with_unfolding_all rfl), by with_unfolding_all rfl⟩ ⟨35, _, _, _, rfl, T.in (by with_unfolding_all rfl), rfl, rfl⟩ rfl rfl rfl rfl rfl rfl rfl (by decide) (by decide)) (fun w vs hvs => ?_) (by show (["self", "node"] : List Str).Nodup; decide) (hk_of (by with_unfolding_all rfl)) (fun L => by with_unfolding_all rfl) (fun L env A' he hR' hA => ?_)
  · simp only [Rels] at hvs
    refine e2a3 hvs ?_
    try clear hvs
    intro v1 r1 zq192 h1 zq193
    subst zq192
    obtain ⟨v2, r2, rfl, h2, rfl⟩ := zq193
    exact bind_pure rfl ⟨_, _, rfl, h1, _, _, rfl, h2, rfl⟩
  · have k1 : env.kindOf "self" = some .local := kind_of he (by with_unfolding_all rfl)
    have k2 : env.kindOf "node" = some .local := kind_of he (by with_unfolding_all rfl)
    walk_at "M"
    refine seta_slot (G1 := []) (xs := []) T.ok (cls40 T) (slot_node T) (by first | walk_at "h" | simp) (by decide) ?_
    walk_at "M"
    refine seta_slot (G1 := []) T.ok (cls40 T) (slot_np T) (by simp [sset]) (by decide) ?_
    walk_at "M"
    refine ae_ListM (al_nil ⟨by simp, fun s => ?_⟩)
    walk_at "M"
    refine seta_slot (G1 := [(s, _)]) T.ok (cls40 T) (slot_su T) (by simp [sset]) (by decide) ?_
    walk_at "M"
    exact ⟨rfl, s, rfl⟩
end
noncomputable def one (p q : Addr × O) : Nat := open Classical in if q = p then 1 else 0
noncomputable def cnt (p : Addr × O) : Led → Nat
  | [] => 0
  | q :: r => one p q + cnt p r
theorem cnt_nil (p : Addr × O) : cnt p [] = 0 := rfl
theorem cnt_cons (p q : Addr × O) (r : Led) : cnt p (q :: r) = one p q + cnt p r := rfl
theorem cnt_append (p : Addr × O) (a b : Led) : cnt p (a ++ b) = cnt p a + cnt p b := by
  induction a with
  | nil => simp [cnt]
  | cons q r ih => simp only [List.cons_append, cnt, ih]; walk_at "q"
theorem perm_cnt {a b : Led} (h : ∀ p, cnt p a = cnt p b) : a.Perm b := by
  classical
  rw [List.perm_iff_count]
  intro p
  have e : ∀ l : Led, cnt p l = List.count p l := by
    intro l
    induction l with
    | nil => rfl
    | cons q r ih => rw [List.count_cons, cnt, ih, one]; by_cases z : q = p <;> simp [z]; walk_at "q"
  rw [← e, ← e]; exact h p

set_option genInjectivity false in
structure So where
  x : Addr
  dx : Addr
  dd : Addr
  ep : Nat
  nds : List Nd
  rdy : Option (Addr × List Key)
  out : Int
  fin : Int
noncomputable def ndsLed (ns : List Nd) : Led := ns.flatMap Nd.led
noncomputable def rdyD : Option (Addr × List Key) → D
  | none => .none
  | some (r, _) => .ref r
noncomputable def rdyLed : Option (Addr × List Key) → Led
  | none => []
  | some (r, ks) => [(r, .list (ks.map Key.d))]
noncomputable def So.at (so : So) : List (Str × D) := [("_node2info", .ref so.dd), ("_ready_nodes", rdyD so.rdy), ("_npassedout", .int so.out), ("_nfinished", .int so.fin)]
noncomputable def ents (ns : List Nd) : List (Key × D) := ns.map fun n => (n.k, .ref n.a)
noncomputable def So.led (so : So) : Led := (so.x, .inst 137 so.dx) :: (so.dx, .attrs so.at) :: (so.dd, .dict (ents so.nds) so.ep) :: (rdyLed so.rdy ++ ndsLed so.nds)
theorem ndsLed_append (a b : List Nd) : ndsLed (a ++ b) = ndsLed a ++ ndsLed b := by simp [ndsLed]
theorem ndsLed_cons (n : Nd) (b : List Nd) : ndsLed (n :: b) = (n.a, .slots 40 [n.k.d, .int n.np, .ref n.s]) :: (n.s, .list (n.su.map Key.d)) :: ndsLed b := by simp [ndsLed, Nd.led]
theorem ndsLed_nil : ndsLed [] = [] := rfl
noncomputable def nfind (k : Key) (ns : List Nd) : Option Nd := ns.find? fun n => decide (n.k = k)
theorem dget_ents (k : Key) (ns : List Nd) : dget k (ents ns) = (nfind k ns).map fun n => .ref n.a := by
  unfold dget ents nfind
  rw [List.find?_map]
  cases h : List.find? ((fun p => decide (p.1 = k)) ∘ fun n : Nd => (n.k, D.ref n.a)) ns <;> (simp only [Function.comp_def] at h; rw [h]; rfl)
theorem nfind_split {k : Key} {ns : List Nd} {n : Nd} (h : nfind k ns = some n) : n.k = k ∧ ∃ a b, ns = a ++ n :: b := by
  refine e0a2 (List.find?_eq_some_iff_append.mp h) fun h1 zq194 => ?_
  obtain ⟨a, b, h2, _⟩ := zq194
  exact ⟨by simpa using h1, a, b, h2⟩
theorem dput_ents {k : Key} {a : Addr} {ns : List Nd} (h : nfind k ns = none) : dput k (.ref a) (ents ns) = ents (ns ++ [⟨k, a, s, 0, []⟩]) := by
  unfold dput
  rw [if_neg]
  · simp [ents]
  · unfold nfind at h
    simp only [List.find?_eq_none, decide_eq_true_eq] at h
    simp only [List.any_eq_true, decide_eq_true_eq, not_exists, not_and]
    rintro p hp e
    refine e1a2 (List.mem_map.mp hp) fun n hn zq195 => ?_
    subst zq195
    exact h n hn e

section
variable {c : Cx} {A : Around}
theorem g_NI (T : Top c) : Glob c "_NodeInfo" (.ref 40) := T.glob (v := .ref 40) (by with_unfolding_all rfl) (by simp [Rel])
theorem ac_ni {n : Nat} (T : Top c) (hR : Rm (n + 2) A) (k : Key) :
    AC c A (.ref 40) [k.d] [] (fun d G' => ∃ x s, d = .ref x ∧ G' = [(s, .list []), (x, .slots 40 [k.d, .int 0, .ref s])]) (fun _ _ _ => False) := by
  refine ac_makeS T.ok hR (by rw [T.K]; with_unfolding_all rfl) (fI := 36) (by rw [T.K]; with_unfolding_all rfl) (by rw [T.K]; with_unfolding_all rfl) fun x A' hR' => ?_
  exact (ac_ni_init T hR' x k []).mono (fun d G ⟨h1, s, h2⟩ => ⟨h1, x, s, rfl, h2⟩) (fun _ _ _ z => z)

noncomputable def touch (k : Key) (a s : Addr) (ns : List Nd) : List Nd := if (nfind k ns).isSome then ns else ns ++ [⟨k, a, s, 0, []⟩]

theorem ac_get {n : Nat} (T : Top c) (hR : Rm (n + 3) A) (so : So) (k : Key) (hl : so.nds.length < 100000) :
    AC c A (.ref 80) [.ref so.x, k.d] so.led (fun d G' => ∃ a s ep nd, nfind k (touch k a s so.nds) = some nd ∧ d = .ref nd.a ∧ G' = ({ so with nds := touch k a s so.nds, ep := ep } : So).led) (fun _ _ _ => False) := by
  refine AC.shed (ac_fun (bs := [("self", .ref so.x), ("node", k.d)]) (fun L => ⟨L, [("self", .ref so.x), ("node", k.d)], []⟩) T.ok hR (DefOk.mk ⟨_, T.in (by with_unfolding_all rfl), by with_unfolding_all rfl⟩ ⟨79, _, _, _, rfl, T.in (by with_unfolding_all rfl), rfl, rfl⟩ rfl rfl rfl rfl rfl rfl rfl (by decide) (by decide)) (fun w vs hvs => ?_) (by show (["self", "node"] : List Str).Nodup; decide) (hk_of (by with_unfolding_all rfl)) (fun L => by with_unfolding_all rfl) (fun L env A' he hR' hA => ?_))
  · simp only [Rels] at hvs
    refine e2a3 hvs ?_
    try clear hvs
    intro v1 r1 zq196 h1 zq197
    subst zq196
    obtain ⟨v2, r2, rfl, h2, rfl⟩ := zq197
    exact bind_pure rfl ⟨_, _, rfl, h1, _, _, rfl, h2, rfl⟩
  · have k1 : env.kindOf "self" = some .local := kind_of he (by with_unfolding_all rfl)
    have k2 : env.kindOf "node" = some .local := kind_of he (by with_unfolding_all rfl)
    have k3 : env.kindOf "result" = some .local := kind_of he (by with_unfolding_all rfl)
    have k4 : env.kindOf "_NodeInfo" = some .globalImplicit := kind_of he (by with_unfolding_all rfl)
    have no1 : findIn c.K (.ref 137) "_node2info" = some none := by rw [T.K]; with_unfolding_all rfl
    have g1 := g_NI T
    walk_at "M"
    refine geta_inst T.ok (cls137 T) no1 (x := so.x) (dx := so.dx) (es := so.at) (by first | walk_at "h" | simp [So.led]) (by first | walk_at "h" | simp [So.led]) (by with_unfolding_all rfl) (by intro n e; cases e) ?_
    refine meth_dict PySem.F.slot_dict_get (by with_unfolding_all rfl) (es := ents so.nds) (n := so.ep) (by first | walk_at "h" | simp [So.led]) ?_
    walk_at "M"
    refine callk_bi (call_dictget (es := ents so.nds) (n := so.ep) (by first | walk_at "h" | simp [So.led]) ?_)
    rw [dget_ents]
    cases hf : nfind k so.nds with
    | some nd =>
      simp only [Option.map_some, Option.getD_some]
      walk_at "M"
      refine op_isNone (by intro n e; cases e) ?_
      walk_at "M"
      first | refine ite_f (by simp [D.isNone]) ?_ | rw [if_neg (by simp [D.isNone])]
      walk_at "M"
      refine ⟨[], so.led, by simp, 0, 0, so.ep, nd, ?_, rfl, ?_⟩
      · unfold touch; rw [hf]; exact hf
      · unfold touch; rw [hf]; rfl
    | none =>
      simp only [Option.map_none, Option.getD_none]
      walk_at "M"
      refine op_isNone (by intro n e; cases e) ?_
      walk_at "M"
      first | refine ite_t (by simp [D.isNone]) ?_ | rw [if_pos (by simp [D.isNone])]
      walk_at "M"
      refine callk_ac (kok_K T.ok (by rw [T.K]; with_unfolding_all rfl)) (ac_ni T hR' k) (G1 := []) (Rest := so.led) (.refl _) ?_ (fun _ _ _ z => z.elim)
      intro d G' zr5
      refine e2a2 zr5 ?_
      try clear zr5
      intro x s zq198 zq199
      subst zq198
      subst zq199
      walk_at "M"
      refine geta_inst T.ok (cls137 T) no1 (x := so.x) (dx := so.dx) (es := so.at) (by first | walk_at "h" | simp [So.led]) (by first | walk_at "h" | simp [So.led]) (by with_unfolding_all rfl) (by intro n e; cases e) ?_
      walk_at "M"
      refine seti_dict (k := k) (es := ents so.nds) (n := so.ep) (G1 := [(s, O.list []), (x, O.slots 40 [k.d, D.int 0, D.ref s]), (so.x, .inst 137 so.dx), (so.dx, .attrs so.at)]) (by simp [ents]; walk_at "q") (fun n' => ?_)
      walk_at "M"
      have hf' : nfind k (so.nds ++ [⟨k, x, s, 0, []⟩]) = some ⟨k, x, s, 0, []⟩ := by
        unfold nfind at hf ⊢
        rw [List.find?_append, hf]
        simp
      have ht : touch k x s so.nds = so.nds ++ [⟨k, x, s, 0, []⟩] := by unfold touch; rw [hf]; rfl
      refine ⟨[], ({ so with nds := touch k x s so.nds, ep := n' } : So).led, perm_cnt fun p => ?_, x, s, n', ⟨k, x, s, 0, []⟩, by rw [ht]; exact hf', rfl, rfl⟩
      rw [ht, dput_ents (s := s) hf]
      simp only [So.led, So.at, ndsLed_append, ndsLed_cons, ndsLed_nil, cnt_cons, cnt_append, cnt_nil, List.map_nil]
      walk_at "q"
end
noncomputable abbrev PN := List (Key × Int × List Key)
noncomputable def pn (ns : List Nd) : PN := ns.map fun n => (n.k, n.np, n.su)
noncomputable def touchP (k : Key) (l : PN) : PN := if l.any (fun e => decide (e.1 = k)) then l else l ++ [(k, 0, [])]
noncomputable def upP (k : Key) (f : Int → Int) (g : List Key → List Key) (l : PN) : PN := l.map fun e => if e.1 = k then (e.1, f e.2.1, g e.2.2) else e
noncomputable def addP (k : Key) (ps : List Key) (l : PN) : PN := ps.foldl (fun l p => upP p id (· ++ [k]) (touchP p l)) (upP k (· + ps.length) id (touchP k l))
noncomputable def nup (k : Key) (f : Int → Int) (g : List Key → List Key) (ns : List Nd) : List Nd := ns.map fun n => if n.k = k then { n with np := f n.np, su := g n.su } else n
theorem pn_nup (k : Key) (f : Int → Int) (g : List Key → List Key) (ns : List Nd) : pn (nup k f g ns) = upP k f g (pn ns) := by
  unfold pn nup upP
  rw [List.map_map, List.map_map]
  refine List.map_congr_left fun n _ => ?_
  simp only [Function.comp_def]
  by_cases h : n.k = k <;> simp [h]
theorem pn_touch (k : Key) (a s : Addr) (ns : List Nd) : pn (touch k a s ns) = touchP k (pn ns) := by
  unfold touch touchP
  have : (nfind k ns).isSome = (pn ns).any (fun e => decide (e.1 = k)) := by
    unfold nfind pn
    rw [List.any_map, Bool.eq_iff_iff, List.find?_isSome, List.any_eq_true]; rfl
  rw [this]
  split
  · rfl
  · simp [pn]
structure NOk (N : Nat) (ns : List Nd) : Prop where
  nd : (ns.map (·.k)).Nodup
  len : ns.length ≤ N
  su : ∀ n ∈ ns, n.su.length ≤ N
inductive SoTo (x : Addr) (rd : Option (Addr × List Key)) (o f : Int) (N : Nat) (l : PN) (G : Led) : Prop
  | mk (so : So) (h1 : so.x = x) (h2 : so.rdy = rd) (h3 : so.out = o) (h4 : so.fin = f) (h5 : NOk N so.nds) (h6 : pn so.nds = l) (h7 : G = so.led)
inductive DoneTo (x r : Addr) (st : PN × List Key) (o f : Int) (N B : Nat) (G : Led) : Prop
  | mk (so : So) (h1 : so.x = x) (h2 : so.rdy = some (r, st.2)) (h3 : so.out = o) (h4 : so.fin = f) (h5 : NOk N so.nds) (h6 : pn so.nds = st.1) (hl : st.2.length ≤ B) (h7 : G = so.led)
theorem NOk.mono {N M : Nat} {ns : List Nd} (h : NOk N ns) (hm : N ≤ M) : NOk M ns := ⟨h.nd, Nat.le_trans h.len hm, fun n hn => Nat.le_trans (h.su n hn) hm⟩
theorem NOk.touch {N : Nat} {ns : List Nd} (h : NOk N ns) (k : Key) (a s : Addr) : NOk (N + 1) (touch k a s ns) := by
  unfold Mine.touch
  split
  · exact h.mono (by walk_at "q")
  · rename_i q
    have q : nfind k ns = none := by simpa using q
    refine ⟨?_, by simpa using h.len, fun n hn => ?_⟩
    · rw [List.map_append, List.nodup_append]
      refine ⟨h.nd, by simp, fun x hx y hy e => ?_⟩
      simp at hy; subst hy
      refine e1a2 (List.mem_map.mp hx) fun n hn zq200 => ?_
      subst zq200
      unfold nfind at q
      simp only [List.find?_eq_none, decide_eq_true_eq] at q
      exact q n hn e
    · rcases List.mem_append.mp hn with z | z
      · exact Nat.le_succ_of_le (h.su n z)
      · simp at z; subst z; simp
theorem NOk.nup {N M : Nat} {ns : List Nd} (h : NOk N ns) (k : Key) (f : Int → Int) (g : List Key → List Key) (hm : N ≤ M) (hg : ∀ l : List Key, l.length ≤ N → (g l).length ≤ M) : NOk M (nup k f g ns) := by
  refine ⟨?_, by unfold Mine.nup; simpa using Nat.le_trans h.len hm, fun n hn => ?_⟩
  · have : (Mine.nup k f g ns).map (·.k) = ns.map (·.k) := by
      unfold Mine.nup; rw [List.map_map]; refine List.map_congr_left fun n _ => ?_
      simp only [Function.comp_def]; split <;> rfl
    rw [this]; exact h.nd
  · unfold Mine.nup at hn
    refine e1a2 (List.mem_map.mp hn) fun m hm' zq201 => ?_
    subst zq201
    split
    · exact hg _ (h.su m hm')
    · exact Nat.le_trans (h.su m hm') hm
theorem nup_split {k : Key} {f : Int → Int} {g : List Key → List Key} {a b : List Nd} {n : Nd} (nd : ((a ++ n :: b).map (·.k)).Nodup) (hk : n.k = k) : nup k f g (a ++ n :: b) = a ++ { n with np := f n.np, su := g n.su } :: b := by
  rw [List.map_append, List.map_cons, List.nodup_append, List.nodup_cons] at nd
  have same : ∀ l : List Nd, (∀ m ∈ l, m.k ≠ k) → l.map (fun n => if n.k = k then { n with np := f n.np, su := g n.su } else n) = l := by
    intro l hl
    induction l with
    | nil => rfl
    | cons m r ih => rw [List.map_cons, if_neg (hl m (.head _)), ih fun x hx => hl x (.tail _ hx)]
  unfold nup
  rw [List.map_append, List.map_cons, if_pos hk, same a, same b]
  · intro m hm e; exact nd.2.1.1 (List.mem_map.mpr ⟨m, hm, by rw [e, hk]⟩)
  · intro m hm e; exact nd.2.2 m.k (List.mem_map_of_mem hm) n.k (by first | walk_at "h" | simp) (by rw [e, hk])
theorem ents_nup (k : Key) (f : Int → Int) (g : List Key → List Key) (ns : List Nd) : ents (nup k f g ns) = ents ns := by
  unfold ents nup; rw [List.map_map]; refine List.map_congr_left fun n _ => ?_
  simp only [Function.comp_def]; split <;> rfl
theorem bind_done {fd : FuncData} {p1 p3 : Pos} {v1 : Value} {vs : List Value} (h : fd.params = ⟨[], [⟨"self", none, p1⟩], some ⟨"nodes", none, p3⟩, [], [], none, []⟩) (hd : fd.defaults = .none) :
    bindArgs fd ⟨v1 :: vs, []⟩ = newTuple vs >>= fun t => pure ([(("self" : Str), v1)] ++ [(("nodes" : Str), t)]) := by
  cases fd
  cases h; cases hd
  match vs with
  | [] => with_unfolding_all rfl
  | [x] => with_unfolding_all rfl
  | x :: y :: r => with_unfolding_all rfl
theorem bind_add {fd : FuncData} {p1 p2 p3 : Pos} {v1 v2 : Value} {vs : List Value} (h : fd.params = ⟨[], [⟨"self", none, p1⟩, ⟨"node", none, p2⟩], some ⟨"predecessors", none, p3⟩, [], [], none, []⟩) (hd : fd.defaults = .none) :
    bindArgs fd ⟨v1 :: v2 :: vs, []⟩ = newTuple vs >>= fun t => pure ([(("self" : Str), v1), (("node" : Str), v2)] ++ [(("predecessors" : Str), t)]) := by
  cases fd
  cases h; cases hd
  match vs with
  | [] => with_unfolding_all rfl
  | [x] => with_unfolding_all rfl
  | x :: y :: r => with_unfolding_all rfl
section
variable {c : Cx} {A : Around}
theorem bind_var {w : Wd} {G : Led} {fd : FuncData} {all vs : List Value} {bv : List (Str × Value)} {bs : List (Str × D)} {nm : Str} {ds : List D} (h : bindArgs fd ⟨all, []⟩ = newTuple vs >>= fun t => pure (bv ++ [(nm, t)])) (hr : BRel w bs bv) (hv : Rels w ds vs) (hl : ds.length ≤ 1000000) :
    AW c A BRel w G (bindArgs fd ⟨all, []⟩) (fun b G' => b = bs ++ [(nm, .tuple ds)] ∧ G' = G) (fun _ _ _ => False) := fun l hl' w1 R s hs S => by
  rw [h]
  refine wpAny_bind (wpAny_newObj_type (wpAny_pure ?_) (by show vs.toArray.size ≤ sizeLine; have := hv.length; simp; rw [sizeLine_eq]; walk_at "q"))
  refine e0a2 (S.allocF (ob := seqO "tuple" vs.toArray 0) rfl) fun k1 k2 => ?_
  refine ⟨_, bs ++ [(nm, .tuple ds)], _, k1, ((hr.mono hs).mono k1).append ⟨_, [], rfl, ?_, rfl⟩, k2, rfl, rfl⟩
  simp only [Rel]; exact ⟨_, _, 0, rfl, Wd.add_self _ _ _, by simpa using (hv.mono hs).mono k1⟩
theorem b_len (T : Top c) : Blt c "len" (.bi "len") := T.blt (v := .builtin "len") (by with_unfolding_all rfl) (by kernel_rfl) (by simp [Rel])
theorem b_VE (T : Top c) : Blt c "ValueError" (.typ "ValueError") := T.blt (v := .type "ValueError") (by with_unfolding_all rfl) (by kernel_rfl) (by simp [Rel])
inductive InvAdd (so : So) (k : Key) (ps : List Key) (N : Nat) (L : Addr) (i : Nat) : Frm → Led → Prop
  | mk (loc) (so' : So) (h2 : List.lookup ("self" : Str) loc = some (.ref so.x)) (h3 : List.lookup ("node" : Str) loc = some k.d) (h4 : so'.x = so.x) (h5 : so'.rdy = none) (h6 : so'.out = so.out) (h7 : so'.fin = so.fin) (h8 : NOk (N + 1 + 2 * i) so'.nds) (h9 : pn so'.nds = (ps.take i).foldl (fun l p => upP p id (· ++ [k]) (touchP p l)) (upP k (· + ps.length) id (touchP k (pn so.nds)))) : InvAdd so k ps N L i (⟨L, loc, []⟩) (so'.led)
theorem ac_add_late {n : Nat} (T : Top c) (hR : Rm (n + 4) A) (so : So) (r : Addr × List Key) (hr : so.rdy = some r) (k : Key) (ps : List Key) (hp : ps.length ≤ 1000) :
    AC c A (.ref 87) (.ref so.x :: k.d :: ps.map Key.d) so.led (fun _ _ => False) (fun cls args G' => cls = .type "ValueError" ∧ args = [.str "Nodes cannot be added after a call to prepare()"] ∧ G' = so.led) := by
  refine ac_fun (bs := [("self", .ref so.x), ("node", k.d), ("predecessors", .tuple (ps.map Key.d))]) (fun L => ⟨L, [("self", .ref so.x), ("node", k.d), ("predecessors", .tuple (ps.map Key.d))], []⟩) T.ok hR (DefOk.mk ⟨_, T.in (by with_unfolding_all rfl), by with_unfolding_all rfl⟩ ⟨_, _, _, _, rfl, T.in (by with_unfolding_all rfl), rfl, rfl⟩ rfl rfl rfl rfl rfl rfl rfl (by decide) (by decide)) (fun w vs hvs => ?_) (by show (["self", "node", "predecessors"] : List Str).Nodup; decide) (hk_of (by with_unfolding_all rfl)) (fun L => by with_unfolding_all rfl) (fun L env A' he hR' hA => ?_)
  · simp only [Rels] at hvs
    refine e2a3 hvs ?_
    try clear hvs
    intro v1 r1 zq202 h1 zq203
    subst zq202
    obtain ⟨v2, r2, rfl, h2, h3⟩ := zq203
    exact bind_var (bs := [("self", .ref so.x), ("node", k.d)]) (bv := [("self", v1), ("node", v2)]) (nm := "predecessors") (bind_add rfl rfl) ⟨_, _, rfl, h1, _, _, rfl, h2, rfl⟩ h3 (by simp; walk_at "q")
  · have k1 : env.kindOf "self" = some .local := kind_of he (by with_unfolding_all rfl)
    have k2 : env.kindOf "ValueError" = some .globalImplicit := kind_of he (by with_unfolding_all rfl)
    have no1 : findIn c.K (.ref 137) "_ready_nodes" = some none := by rw [T.K]; with_unfolding_all rfl
    have ha : List.lookup ("_ready_nodes" : Str) so.at = some (.ref r.1) := by unfold So.at; rw [hr]; with_unfolding_all rfl
    walk_at "M"
    refine geta_inst T.ok (cls137 T) no1 (x := so.x) (dx := so.dx) (es := so.at) (by first | walk_at "h" | simp [So.led]) (by first | walk_at "h" | simp [So.led]) ha (by intro n e; cases e) ?_
    walk_at "M"
    refine op_isNotNone (by intro n e; cases e) ?_
    walk_at "M"
    first | refine ite_t (by simp [D.isNone]) ?_ | rw [if_pos (by simp [D.isNone])]
    walk_at "M"
    refine as_RaiseT hR' k2 (b_VE T) PySem.F.excCall_ValueError PySem.F.excRaise_ValueError ?_
    walk_at "M"
    exact ⟨by simp, rfl, rfl, rfl⟩

theorem So.node {so : So} {k : Key} {nd : Nd} (h : nfind k so.nds = some nd) : (nd.a, O.slots 40 [nd.k.d, .int nd.np, .ref nd.s]) ∈ so.led ∧ (nd.s, O.list (nd.su.map Key.d)) ∈ so.led := by
  refine e0a2 (nfind_split h) fun _ zq204 => ?_
  obtain ⟨a, b, e⟩ := zq204
  unfold So.led
  rw [e, ndsLed_append, ndsLed_cons]
  exact ⟨by simp, by simp⟩
theorem So.see {so : So} {k : Key} {nd : Nd} (h : nfind k so.nds = some nd) : ∃ P S, so.led = P ++ (nd.a, O.slots 40 [nd.k.d, .int nd.np, .ref nd.s]) :: (nd.s, O.list (nd.su.map Key.d)) :: S ∧
    ((so.nds.map (·.k)).Nodup → ∀ f g, P ++ (nd.a, O.slots 40 [nd.k.d, .int (f nd.np), .ref nd.s]) :: (nd.s, O.list ((g nd.su).map Key.d)) :: S = ({ so with nds := nup k f g so.nds } : So).led) := by
  refine e0a2 (nfind_split h) fun hk zq205 => ?_
  obtain ⟨a, b, e⟩ := zq205
  refine ⟨(so.x, .inst 137 so.dx) :: (so.dx, .attrs so.at) :: (so.dd, .dict (ents so.nds) so.ep) :: (rdyLed so.rdy ++ ndsLed a), ndsLed b, ?_, fun hn f g => ?_⟩
  · unfold So.led; rw [e, ndsLed_append, ndsLed_cons]; simp
  · unfold So.led So.at
    dsimp only
    rw [ents_nup, e, nup_split (by rw [← e]; exact hn) hk, ndsLed_append, ndsLed_cons]
    simp

theorem ac_add {n N : Nat} (T : Top c) (hR : Rm (n + 4) A) (so : So) (hr : so.rdy = none) (hN : NOk N so.nds) (k : Key) (ps : List Key) (hp : ps.length ≤ 1000) (hNN : N ≤ 50000) :
    AC c A (.ref 87) (.ref so.x :: k.d :: ps.map Key.d) so.led (fun d G' => d = .none ∧ SoTo so.x none so.out so.fin (N + 1 + 2 * ps.length) (addP k ps (pn so.nds)) G') (fun _ _ _ => False) := by
  refine ac_fun (bs := [("self", .ref so.x), ("node", k.d), ("predecessors", .tuple (ps.map Key.d))]) (fun L => ⟨L, [("self", .ref so.x), ("node", k.d), ("predecessors", .tuple (ps.map Key.d))], []⟩) T.ok hR (DefOk.mk ⟨_, T.in (by with_unfolding_all rfl), by with_unfolding_all rfl⟩ ⟨_, _, _, _, rfl, T.in (by with_unfolding_all rfl), rfl, rfl⟩ rfl rfl rfl rfl rfl rfl rfl (by decide) (by decide)) (fun w vs hvs => ?_) (by show (["self", "node", "predecessors"] : List Str).Nodup; decide) (hk_of (by with_unfolding_all rfl)) (fun L => by with_unfolding_all rfl) (fun L env A' he hR' hA => ?_)
  · simp only [Rels] at hvs
    refine e2a3 hvs ?_
    try clear hvs
    intro v1 r1 zq206 h1 zq207
    subst zq206
    obtain ⟨v2, r2, rfl, h2, h3⟩ := zq207
    exact bind_var (bs := [("self", .ref so.x), ("node", k.d)]) (bv := [("self", v1), ("node", v2)]) (nm := "predecessors") (bind_add rfl rfl) ⟨_, _, rfl, h1, _, _, rfl, h2, rfl⟩ h3 (by simp; walk_at "q")
  · have k1 : env.kindOf "self" = some .local := kind_of he (by with_unfolding_all rfl)
    have k2 : env.kindOf "node" = some .local := kind_of he (by with_unfolding_all rfl)
    have k3 : env.kindOf "predecessors" = some .local := kind_of he (by with_unfolding_all rfl)
    have k4 : env.kindOf "nodeinfo" = some .local := kind_of he (by with_unfolding_all rfl)
    have k5 : env.kindOf "pred" = some .local := kind_of he (by with_unfolding_all rfl)
    have k6 : env.kindOf "pred_info" = some .local := kind_of he (by with_unfolding_all rfl)
    have k7 : env.kindOf "len" = some .globalImplicit := kind_of he (by with_unfolding_all rfl)
    have hi : interactive env = false := by rw [he]; with_unfolding_all rfl
    have b1 := b_len T
    have no1 : findIn c.K (.ref 137) "_ready_nodes" = some none := by rw [T.K]; with_unfolding_all rfl
    have m80 : findIn c.K (.ref 137) "_get_nodeinfo" = some (some (.ref 80)) := by rw [T.K]; with_unfolding_all rfl
    have t80 : typeIn c.K (.ref 80) = some (.type "function") := by rw [T.K]; with_unfolding_all rfl
    have kp : keepIn c.K (.ref 80) = true := by rw [T.K]; with_unfolding_all rfl
    have ha : List.lookup ("_ready_nodes" : Str) so.at = some .none := by unfold So.at; rw [hr]; with_unfolding_all rfl
    walk_at "M"
    refine geta_inst T.ok (cls137 T) no1 (x := so.x) (dx := so.dx) (es := so.at) (by first | walk_at "h" | simp [So.led]) (by first | walk_at "h" | simp [So.led]) ha (by intro n e; cases e) ?_
    walk_at "M"
    refine op_isNotNone (by intro n e; cases e) ?_
    walk_at "M"
    first | refine ite_f (by simp [D.isNone]) ?_ | rw [if_neg (by simp [D.isNone])]
    walk_at "M"
    refine meth_inst T.ok (cls137 T) m80 t80 (dx := so.dx) (es := so.at) (by first | walk_at "h" | simp [So.led]) (by first | walk_at "h" | simp [So.led]) (by with_unfolding_all rfl) ?_
    walk_at "M"
    refine callk_ac (kok_K T.ok kp) (ac_get T hR' so k (by have := hN.len; walk_at "q")) (Rest := []) (by first | walk_at "h" | simp) ?_ (fun _ _ _ z => z.elim)
    intro d G' zr6
    refine e4a3 zr6 ?_
    try clear zr6
    intro a s ep nd hf zq208 zq209
    subst zq208
    subst zq209
    rw [List.append_nil]
    have hN1 := hN.touch k a s
    refine e2a2 (So.see (so := { so with nds := touch k a s so.nds, ep := ep }) hf) fun P S e1 e2 => ?_
    rw [e1]
    walk_at "M"
    refine geta_slot T.ok (cls40 T) (slot_np T) (xs := [nd.k.d, .int nd.np, .ref nd.s]) (by first | walk_at "h" | simp) rfl (by intro n e; cases e) ?_
    walk_at "M"
    refine callk_bi (call_len (xs := ps.map Key.d) seq_tuple (.inr rfl) (by simp; walk_at "q") ?_)
    refine op_iadd ?_
    refine seta_slot T.ok (cls40 T) (slot_np T) (by first | walk_at "h" | simp) (by decide) ?_
    have e3 : P ++ (nd.a, O.slots 40 [nd.k.d, .int (nd.np + (ps.length : Int)), .ref nd.s]) :: (nd.s, O.list (nd.su.map Key.d)) :: S = _ := e2 hN1.nd (· + (ps.length : Int)) id
    rw [show sset 1 (D.int (nd.np + ((ps.map Key.d).length : Nat))) [nd.k.d, .int nd.np, .ref nd.s] = [nd.k.d, .int (nd.np + (ps.length : Int)), .ref nd.s] by simp [sset], e3]
    have hN2 := hN1.nup k (· + (ps.length : Int)) id (M := N + 1) (Nat.le_refl _) (fun l h => h)
    walk_at "M"
    refine as_For hA ?_
    walk_at "M"
    refine ⟨ps.map Key.d, fun _ => True, InvAdd so k ps N L, iter_tuple hR', ⟨_, { so with nds := nup k (· + (ps.length : Int)) id (touch k a s so.nds), ep := ep }, by with_unfolding_all rfl, by with_unfolding_all rfl, rfl, hr, rfl, rfl, hN2, ?_⟩, fun _ _ _ _ => trivial, ?_, ?_⟩
    · rw [pn_nup, pn_touch]; rfl
    · intro i d F G hd z
      induction z with
      | mk loc so' l1 l2 x1 x2 x3 x4 x5 x6 =>
      rw [List.getElem?_map] at hd
      refine e1a2 (Option.map_eq_some_iff.mp hd) fun p hp' zq210 => ?_
      subst zq210
      have hil : i < ps.length := (List.getElem?_eq_some_iff.mp hp').1
      walk_at "M"
      refine meth_inst T.ok (cls137 T) m80 t80 (x := so.x) (dx := so'.dx) (es := so'.at) (by simp [So.led, x1]) (by first | walk_at "h" | simp [So.led]) (by with_unfolding_all rfl) ?_
      walk_at "M"
      have hget := ac_get T hR' so' p (by have := x5.len; walk_at "q")
      rw [x1] at hget
      refine callk_ac (kok_K T.ok kp) hget (Rest := []) (by first | walk_at "h" | simp) ?_ (fun _ _ _ z => z.elim)
      intro d G' zr7
      refine e4a3 zr7 ?_
      try clear zr7
      intro a' s' ep' nd' hf' zq211 zq212
      subst zq211
      subst zq212
      rw [List.append_nil]
      have hN1 := x5.touch p a' s'
      refine e2a2 (So.see (so := { so' with x := so.x, nds := touch p a' s' so'.nds, ep := ep' }) hf') fun P S e1 e2 => ?_
      rw [e1]
      walk_at "M"
      refine geta_slot T.ok (cls40 T) (slot_su T) (xs := [nd'.k.d, .int nd'.np, .ref nd'.s]) (by first | walk_at "h" | simp) rfl (by intro n e; cases e) ?_
      refine meth_list PySem.F.slot_list_append (by with_unfolding_all rfl) (seq_mut (xs := nd'.su.map Key.d) (by first | walk_at "h" | simp)) ?_
      walk_at "M"
      have hsu : nd'.su.length ≤ N + 1 + 2 * i + 1 := hN1.su nd' (by obtain ⟨_, a, b, e⟩ := nfind_split hf'; rw [e]; simp)
      refine callk_bi ?_
      rw [show P ++ (nd'.a, O.slots 40 [nd'.k.d, .int nd'.np, .ref nd'.s]) :: (nd'.s, O.list (nd'.su.map Key.d)) :: S = (P ++ [(nd'.a, O.slots 40 [nd'.k.d, .int nd'.np, .ref nd'.s])]) ++ (nd'.s, O.list (nd'.su.map Key.d)) :: S by simp]
      refine call_append (by simp; walk_at "q") ?_
      have e3 : (P ++ [(nd'.a, O.slots 40 [nd'.k.d, .int nd'.np, .ref nd'.s])]) ++ (nd'.s, O.list (nd'.su.map Key.d ++ [k.d])) :: S = _ := Eq.trans (by first | walk_at "h" | simp) (e2 hN1.nd id (· ++ [k]))
      rw [e3]
      walk_at "M"
      refine ⟨_, { so' with x := so.x, nds := nup p id (· ++ [k]) (touch p a' s' so'.nds), ep := ep' }, by with_unfolding_all assumption, by with_unfolding_all assumption, rfl, x2, x3, x4, hN1.nup p id (· ++ [k]) (by walk_at "q") (by intro l h; simp; walk_at "q"), ?_⟩
      rw [pn_nup, pn_touch, x6, List.take_add_one, hp']
      simp [List.foldl_append]
    · intro F G z
      induction z with
      | mk loc so' l1 l2 x1 x2 x3 x4 x5 x6 =>
      walk_at "M"
      refine ⟨rfl, so', x1, x2, x3, x4, by simpa using x5, ?_, rfl⟩
      rw [x6]
      unfold addP
      congr 1
      simp
end
section
variable {c : Cx} {A : Around}
theorem b_tuple (T : Top c) : Blt c "tuple" (.typ "tuple") := T.blt (v := .type "tuple") (by with_unfolding_all rfl) (by kernel_rfl) (by simp [Rel])
theorem b_bool (T : Top c) : Blt c "bool" (.typ "bool") := T.blt (v := .type "bool") (by with_unfolding_all rfl) (by kernel_rfl) (by simp [Rel])
theorem g_OUT (T : Top c) : Glob c "_NODE_OUT" (.int (-1)) := T.glob (v := .int (-1) 197) (by with_unfolding_all rfl) (by simp [Rel])
theorem g_DONE (T : Top c) : Glob c "_NODE_DONE" (.int (-2)) := T.glob (v := .int (-2) 200) (by with_unfolding_all rfl) (by simp [Rel])
theorem no_n2i (T : Top c) : findIn c.K (.ref 137) "_node2info" = some none := by rw [T.K]; with_unfolding_all rfl
theorem no_rdy (T : Top c) : findIn c.K (.ref 137) "_ready_nodes" = some none := by rw [T.K]; with_unfolding_all rfl
theorem no_out (T : Top c) : findIn c.K (.ref 137) "_npassedout" = some none := by rw [T.K]; with_unfolding_all rfl
theorem no_fin (T : Top c) : findIn c.K (.ref 137) "_nfinished" = some none := by rw [T.K]; with_unfolding_all rfl
theorem tk_rdy (T : Top c) : takerIn c.K 137 "_ready_nodes" = some none := by rw [T.K]; with_unfolding_all rfl
theorem tk_out (T : Top c) : takerIn c.K 137 "_npassedout" = some none := by rw [T.K]; with_unfolding_all rfl
theorem tk_fin (T : Top c) : takerIn c.K 137 "_nfinished" = some none := by rw [T.K]; with_unfolding_all rfl

section
variable {A' : Around} {env : Env} {F : Frm} {E : LX} {Q : D → Frm → Led → Prop}
theorem at_n2i (T : Top c) {so : So} {G : Led} (hq : Q (.ref so.dd) F G) (hG : ∀ p ∈ so.led, p ∈ G := by exact fun _ h => h) : GetA c A' env F G (.ref so.x) "_node2info" Q E :=
  geta_inst T.ok (cls137 T) (no_n2i T) (x := so.x) (dx := so.dx) (es := so.at) (hG _ (by first | walk_at "h" | simp [So.led])) (hG _ (by first | walk_at "h" | simp [So.led])) (by with_unfolding_all rfl) (by intro n e; cases e) hq
theorem at_rdy (T : Top c) {so : So} {G : Led} (hq : Q (rdyD so.rdy) F G) (hG : ∀ p ∈ so.led, p ∈ G := by exact fun _ h => h) : GetA c A' env F G (.ref so.x) "_ready_nodes" Q E :=
  geta_inst T.ok (cls137 T) (no_rdy T) (x := so.x) (dx := so.dx) (es := so.at) (hG _ (by first | walk_at "h" | simp [So.led])) (hG _ (by first | walk_at "h" | simp [So.led])) (by with_unfolding_all rfl) (by intro n e; cases h : so.rdy <;> simp [h, rdyD] at e) hq
theorem at_out (T : Top c) {so : So} {G : Led} (hq : Q (.int so.out) F G) (hG : ∀ p ∈ so.led, p ∈ G := by exact fun _ h => h) : GetA c A' env F G (.ref so.x) "_npassedout" Q E :=
  geta_inst T.ok (cls137 T) (no_out T) (x := so.x) (dx := so.dx) (es := so.at) (hG _ (by first | walk_at "h" | simp [So.led])) (hG _ (by first | walk_at "h" | simp [So.led])) (by with_unfolding_all rfl) (by intro n e; cases e) hq
theorem at_fin (T : Top c) {so : So} {G : Led} (hq : Q (.int so.fin) F G) (hG : ∀ p ∈ so.led, p ∈ G := by exact fun _ h => h) : GetA c A' env F G (.ref so.x) "_nfinished" Q E :=
  geta_inst T.ok (cls137 T) (no_fin T) (x := so.x) (dx := so.dx) (es := so.at) (hG _ (by first | walk_at "h" | simp [So.led])) (hG _ (by first | walk_at "h" | simp [So.led])) (by with_unfolding_all rfl) (by intro n e; cases e) hq
theorem set_out (T : Top c) {so : So} {i : Int} {Q : Frm → Led → Prop} (hq : Q F ({ so with out := i } : So).led) : SetA c A' env F so.led (.ref so.x) "_npassedout" (.int i) Q E :=
  seta_inst (G1 := [(so.x, .inst 137 so.dx)]) T.ok (cls137 T) (tk_out T) (by first | walk_at "h" | simp) (by simp [So.at]) hq
theorem set_fin (T : Top c) {so : So} {i : Int} {Q : Frm → Led → Prop} (hq : Q F ({ so with fin := i } : So).led) : SetA c A' env F so.led (.ref so.x) "_nfinished" (.int i) Q E :=
  seta_inst (G1 := [(so.x, .inst 137 so.dx)]) T.ok (cls137 T) (tk_fin T) (by first | walk_at "h" | simp) (by simp [So.at]) hq
end

theorem ac_early {n : Nat} (T : Top c) (hR : Rm (n + 2) A) (so : So) (hr : so.rdy = none) :
    AC c A (.ref 99) [.ref so.x] so.led (fun _ _ => False) (fun cls args G' => cls = .type "ValueError" ∧ args = [.str "prepare() must be called first"] ∧ G' = so.led) := by
  refine (ac_fun (bs := [("self", .ref so.x)]) (fun L => ⟨L, [("self", .ref so.x)], []⟩) T.ok hR (DefOk.mk ⟨_, T.in (by with_unfolding_all rfl), by with_unfolding_all rfl⟩ ⟨_, _, _, _, rfl, T.in (by with_unfolding_all rfl), rfl, rfl⟩ rfl rfl rfl rfl rfl rfl rfl (by decide) (by decide)) (fun w vs hvs => ?_) (by show (["self"] : List Str).Nodup; decide) (hk_of (by with_unfolding_all rfl)) (fun L => by with_unfolding_all rfl) (fun L env A' he hR' hA => ?_))
  · simp only [Rels] at hvs
    refine e2a3 hvs ?_
    try clear hvs
    intro v1 r1 zq213 h1 zq214
    subst zq213
    subst zq214
    exact bind_pure (by with_unfolding_all rfl) ⟨_, _, rfl, h1, rfl⟩
  · have k1 : env.kindOf "self" = some .local := kind_of he (by with_unfolding_all rfl)
    have k2 : env.kindOf "ValueError" = some .globalImplicit := kind_of he (by with_unfolding_all rfl)
    have hi : interactive env = false := by rw [he]; with_unfolding_all rfl
    clear he
    walk_at "M"
    refine at_rdy T ?_
    walk_at "M"
    refine op_isNone (by intro n e; rw [hr] at e; cases e) ?_
    walk_at "M"
    first | refine ite_t (by rw [hr]; rfl) ?_ | rw [if_pos (by rw [hr]; rfl)]
    walk_at "M"
    refine as_RaiseT hR' k2 (b_VE T) PySem.F.excCall_ValueError PySem.F.excRaise_ValueError ?_
    walk_at "M"
    exact ⟨by simp, rfl, rfl, rfl⟩

inductive InvReady (so : So) (ks : List Key) (N : Nat) (L : Addr) (i : Nat) : Frm → Led → Prop
  | mk (loc) (ns) (h2 : List.lookup ("self" : Str) loc = some (.ref so.x)) (h3 : List.lookup ("result" : Str) loc = some (.tuple (ks.map Key.d))) (h4 : List.lookup ("n2i" : Str) loc = some (.ref so.dd)) (h5 : NOk N ns) (h6 : ents ns = ents so.nds) (h7 : pn ns = (ks.take i).foldl (fun l k => upP k (fun _ => -1) id l) (pn so.nds)) : InvReady so ks N L i (⟨L, loc, []⟩) (({ so with nds := ns } : So).led)
theorem ac_ready {n N : Nat} (T : Top c) (hR : Rm (n + 2) A) (so : So) (r : Addr) (ks : List Key) (hr : so.rdy = some (r, ks)) (hN : NOk N so.nds) (hks : ks.length ≤ 100000) (hin : ∀ k ∈ ks, (nfind k so.nds).isSome = true) :
    AC c A (.ref 99) [.ref so.x] so.led (fun d G' => d = .tuple (ks.map Key.d) ∧ SoTo so.x (some (r, [])) (so.out + ks.length) so.fin N (ks.foldl (fun l k => upP k (fun _ => -1) id l) (pn so.nds)) G') (fun _ _ _ => False) := by
  refine (ac_fun (bs := [("self", .ref so.x)]) (fun L => ⟨L, [("self", .ref so.x)], []⟩) T.ok hR (DefOk.mk ⟨_, T.in (by with_unfolding_all rfl), by with_unfolding_all rfl⟩ ⟨_, _, _, _, rfl, T.in (by with_unfolding_all rfl), rfl, rfl⟩ rfl rfl rfl rfl rfl rfl rfl (by decide) (by decide)) (fun w vs hvs => ?_) (by show (["self"] : List Str).Nodup; decide) (hk_of (by with_unfolding_all rfl)) (fun L => by with_unfolding_all rfl) (fun L env A' he hR' hA => ?_))
  · simp only [Rels] at hvs
    refine e2a3 hvs ?_
    try clear hvs
    intro v1 r1 zq215 h1 zq216
    subst zq215
    subst zq216
    exact bind_pure (by with_unfolding_all rfl) ⟨_, _, rfl, h1, rfl⟩
  · have k1 : env.kindOf "self" = some .local := kind_of he (by with_unfolding_all rfl)
    have k2 : env.kindOf "result" = some .local := kind_of he (by with_unfolding_all rfl)
    have k3 : env.kindOf "n2i" = some .local := kind_of he (by with_unfolding_all rfl)
    have k4 : env.kindOf "node" = some .local := kind_of he (by with_unfolding_all rfl)
    have k5 : env.kindOf "tuple" = some .globalImplicit := kind_of he (by with_unfolding_all rfl)
    have k6 : env.kindOf "len" = some .globalImplicit := kind_of he (by with_unfolding_all rfl)
    have k7 : env.kindOf "_NODE_OUT" = some .globalImplicit := kind_of he (by with_unfolding_all rfl)
    have hi : interactive env = false := by rw [he]; with_unfolding_all rfl
    clear he
    have g1 := b_tuple T
    have g2 := b_len T
    have g3 := g_OUT T
    walk_at "M"
    refine at_rdy T ?_
    rw [hr]
    walk_at "M"
    refine op_isNone (by intro n e; cases e) ?_
    walk_at "M"
    first | refine ite_f (by simp [rdyD, D.isNone]) ?_ | rw [if_neg (by simp [rdyD, D.isNone])]
    walk_at "M"
    refine at_rdy T ?_
    rw [hr]
    walk_at "M"
    refine callk_typ (call_tuple (xs := ks.map Key.d) (seq_mut (by simp [So.led, hr, rdyLed])) (.inl rfl) (by simp; walk_at "o") ?_)
    walk_at "M"
    refine at_n2i T ?_
    walk_at "M"
    refine as_For hA ?_
    walk_at "M"
    refine ⟨ks.map Key.d, fun _ => True, InvReady so ks N L, iter_tuple hR', ⟨_, so.nds, by with_unfolding_all rfl, by with_unfolding_all rfl, by with_unfolding_all rfl, hN, rfl, rfl⟩, fun _ _ _ _ => trivial, ?_, ?_⟩
    · intro i d F G hd z
      induction z with
      | mk loc ns l1 l2 l3 x2 x3 x4 =>
      rw [List.getElem?_map] at hd
      refine e1a2 (Option.map_eq_some_iff.mp hd) fun k hk zq217 => ?_
      subst zq217
      walk_at "M"
      have hs : (dget k (ents ns)).isSome = true := by rw [x3, dget_ents, Option.isSome_map]; exact hin k (List.mem_of_getElem? hk)
      rw [dget_ents, Option.isSome_map] at hs
      refine e1a1 (Option.isSome_iff_exists.mp hs) fun nd hf => ?_
      refine geti_dict (k := k) (a := so.dd) (es := ents ns) (n := so.ep) (e := .ref nd.a) ?_ (by rw [dget_ents, hf]; rfl) ?_
      · simp [So.led]
      refine e2a2 (So.see (so := { so with nds := ns }) hf) fun P S e1 e2 => ?_
      rw [e1]
      refine seta_slot T.ok (cls40 T) (slot_np T) (by first | walk_at "h" | simp) (by decide) ?_
      have e3 : P ++ (nd.a, O.slots 40 [nd.k.d, .int (-1), .ref nd.s]) :: (nd.s, O.list (nd.su.map Key.d)) :: S = _ := e2 x2.nd (fun _ => -1) id
      rw [show sset 1 (D.int (-1)) [nd.k.d, .int nd.np, .ref nd.s] = [nd.k.d, .int (-1), .ref nd.s] by rfl, e3]
      walk_at "M"
      refine ⟨_, nup k (fun _ => -1) id ns, by with_unfolding_all assumption, by with_unfolding_all assumption, by with_unfolding_all assumption, x2.nup k _ id (Nat.le_refl _) (fun l h => h), by rw [← x3]; exact ents_nup _ _ _ _, ?_⟩
      rw [pn_nup, x4, List.take_add_one, hk]
      simp [List.foldl_append]
    · intro F G z
      induction z with
      | mk loc ns l1 l2 l3 x2 x3 x4 =>
      walk_at "M"
      refine at_rdy (so := { so with nds := ns }) T ?_
      dsimp only
      rw [hr]
      refine meth_list PySem.F.slot_list_clear (by with_unfolding_all rfl) (seq_mut (xs := ks.map Key.d) (by simp [So.led, hr, rdyLed])) ?_
      walk_at "M"
      refine callk_bi ?_
      rw [show ({ so with nds := ns, rdy := some (r, ks) } : So).led = ([(so.x, .inst 137 so.dx), (so.dx, .attrs so.at), (so.dd, .dict (ents ns) so.ep)] ++ (r, .list (ks.map Key.d)) :: ndsLed ns) by simp [So.led, So.at, hr, rdyLed]]
      refine call_clear ?_
      rw [show ([(so.x, .inst 137 so.dx), (so.dx, .attrs so.at), (so.dd, .dict (ents ns) so.ep)] ++ (r, .list []) :: ndsLed ns) = ({ so with nds := ns, rdy := some (r, []) } : So).led by simp [So.led, So.at, hr, rdyLed, rdyD]]
      walk_at "M"
      refine at_out (so := { so with nds := ns, rdy := some (r, []) }) T ?_
      walk_at "M"
      refine callk_bi (call_len (xs := ks.map Key.d) seq_tuple (.inr rfl) (by simp; walk_at "o") ?_)
      refine op_iadd ?_
      refine set_out (so := { so with nds := ns, rdy := some (r, []) }) T ?_
      walk_at "M"
      refine ⟨rfl, { so with nds := ns, rdy := some (r, []), out := so.out + ((ks.map Key.d).length : Nat) }, rfl, rfl, by simp, rfl, x2, ?_, rfl⟩
      show pn ns = _
      rw [x4]; simp
end
section
variable {c : Cx} {A : Around}
theorem ac_active_early {n : Nat} (T : Top c) (hR : Rm (n + 2) A) (so : So) (hr : so.rdy = none) :
    AC c A (.ref 106) [.ref so.x] so.led (fun _ _ => False) (fun cls args G' => cls = .type "ValueError" ∧ args = [.str "prepare() must be called first"] ∧ G' = so.led) := by
  refine (ac_fun (bs := [("self", .ref so.x)]) (fun L => ⟨L, [("self", .ref so.x)], []⟩) T.ok hR (DefOk.mk ⟨_, T.in (by with_unfolding_all rfl), by with_unfolding_all rfl⟩ ⟨_, _, _, _, rfl, T.in (by with_unfolding_all rfl), rfl, rfl⟩ rfl rfl rfl rfl rfl rfl rfl (by decide) (by decide)) (fun w vs hvs => ?_) (by show (["self"] : List Str).Nodup; decide) (hk_of (by with_unfolding_all rfl)) (fun L => by with_unfolding_all rfl) (fun L env A' he hR' hA => ?_))
  · simp only [Rels] at hvs
    refine e2a3 hvs ?_
    try clear hvs
    intro v1 r1 zq218 h1 zq219
    subst zq218
    subst zq219
    exact bind_pure (by with_unfolding_all rfl) ⟨_, _, rfl, h1, rfl⟩
  · have k1 : env.kindOf "self" = some .local := kind_of he (by with_unfolding_all rfl)
    have k2 : env.kindOf "ValueError" = some .globalImplicit := kind_of he (by with_unfolding_all rfl)
    have hi : interactive env = false := by rw [he]; with_unfolding_all rfl
    clear he
    walk_at "M"
    refine at_rdy T ?_
    walk_at "M"
    refine op_isNone (by intro n e; rw [hr] at e; cases e) ?_
    walk_at "M"
    first | refine ite_t (by rw [hr]; rfl) ?_ | rw [if_pos (by rw [hr]; rfl)]
    walk_at "M"
    refine as_RaiseT hR' k2 (b_VE T) PySem.F.excCall_ValueError PySem.F.excRaise_ValueError ?_
    walk_at "M"
    exact ⟨by simp, rfl, rfl, rfl⟩
theorem ac_active {n : Nat} (T : Top c) (hR : Rm (n + 2) A) (so : So) (r : Addr) (ks : List Key) (hr : so.rdy = some (r, ks)) (hks : ks.length ≤ 100000) :
    AC c A (.ref 106) [.ref so.x] so.led (fun d G' => d = .bool (decide (so.fin < so.out) || !ks.isEmpty) ∧ G' = so.led) (fun _ _ _ => False) := by
  refine (ac_fun (bs := [("self", .ref so.x)]) (fun L => ⟨L, [("self", .ref so.x)], []⟩) T.ok hR (DefOk.mk ⟨_, T.in (by with_unfolding_all rfl), by with_unfolding_all rfl⟩ ⟨_, _, _, _, rfl, T.in (by with_unfolding_all rfl), rfl, rfl⟩ rfl rfl rfl rfl rfl rfl rfl (by decide) (by decide)) (fun w vs hvs => ?_) (by show (["self"] : List Str).Nodup; decide) (hk_of (by with_unfolding_all rfl)) (fun L => by with_unfolding_all rfl) (fun L env A' he hR' hA => ?_))
  · simp only [Rels] at hvs
    refine e2a3 hvs ?_
    try clear hvs
    intro v1 r1 zq220 h1 zq221
    subst zq220
    subst zq221
    exact bind_pure (by with_unfolding_all rfl) ⟨_, _, rfl, h1, rfl⟩
  · have k1 : env.kindOf "self" = some .local := kind_of he (by with_unfolding_all rfl)
    have k2 : env.kindOf "bool" = some .globalImplicit := kind_of he (by with_unfolding_all rfl)
    have hi : interactive env = false := by rw [he]; with_unfolding_all rfl
    clear he
    have g1 := b_bool T
    walk_at "M"
    refine at_rdy T ?_
    rw [hr]
    walk_at "M"
    refine op_isNone (by intro n e; cases e) ?_
    walk_at "M"
    first | refine ite_f (by simp [rdyD, D.isNone]) ?_ | rw [if_neg (by simp [rdyD, D.isNone])]
    walk_at "M"
    refine ae_Or2 (ae_Compare1 ?_)
    walk_at "M"
    refine at_fin T ?_
    walk_at "M"
    refine at_out T ?_
    refine op_lt ?_
    walk_at "M"
    by_cases q : so.fin < so.out
    · first | refine ite_t (by simpa using q) ?_ | rw [if_pos (by simpa using q)]
      walk_at "M"
      exact ⟨by simp [q], rfl⟩
    · first | refine ite_f (by simpa using q) ?_ | rw [if_neg (by simpa using q)]
      walk_at "M"
      refine at_rdy T ?_
      rw [hr]
      walk_at "M"
      refine callk_typ (call_boolL (xs := ks.map Key.d) (seq_mut (by simp [So.led, hr, rdyLed])) (by simp; walk_at "o") ?_)
      walk_at "M"
      exact ⟨by simp [q], rfl⟩

noncomputable def look (k : Key) (l : PN) : Option (Int × List Key) := (l.find? fun e => decide (e.1 = k)).map (·.2)
theorem look_pn (k : Key) (ns : List Nd) : look k (pn ns) = (nfind k ns).map fun n => (n.np, n.su) := by
  unfold look pn nfind
  rw [List.find?_map]
  cases h : List.find? ((fun e => decide (e.1 = k)) ∘ fun n : Nd => (n.k, n.np, n.su)) ns <;> (simp only [Function.comp_def] at h; rw [h]; rfl)
noncomputable abbrev PS := PN × List Key
noncomputable def stepP (s : Key) (st : PS) : PS := (upP s (· - 1) id st.1, match look s (upP s (· - 1) id st.1) with
  | some (0, _) => st.2 ++ [s]
  | _ => st.2)
noncomputable def done1 (k : Key) (su : List Key) (st : PS) : PS := su.foldl (fun st s => stepP s st) (upP k (fun _ => -2) id st.1, st.2)
noncomputable def msg (k : Key) (x : Str) : Str := (Str.empty ++ "node ") ++ reprK k ++ x
noncomputable def doneP : List Key → PS → Option (PS × Nat × Option Str)
  | [], st => some (st, 0, none)
  | k :: ks, st => match look k st.1 with
    | none => some (st, 0, some (msg k " was not added using add()"))
    | some (np, su) => if 0 ≤ np then some (st, 0, some (msg k " was not passed out (still not ready)"))
      else if np = -2 then some (st, 0, some (msg k " was already marked done"))
      else if np = -1 then (doneP ks (done1 k su st)).map fun r => (r.1, r.2.1 + 1, r.2.2)
      else none
theorem nfind_nup2 {k k' : Key} {f : Int → Int} {ns : List Nd} {n : Nd} (h : nfind k' ns = some n) : nfind k' (nup k f id ns) = some { n with np := if n.k = k then f n.np else n.np } := by
  unfold nfind nup at *
  rw [List.find?_map]
  have e : ((fun n : Nd => decide (n.k = k')) ∘ fun n : Nd => if n.k = k then { n with np := f n.np, su := id n.su } else n) = fun n => decide (n.k = k') := by
    funext n; simp only [Function.comp_def]; split <;> rfl
  rw [e, h]
  show some (if n.k = k then _ else n : Nd) = _
  split <;> rfl

theorem ac_done_early {n : Nat} (T : Top c) (hR : Rm (n + 2) A) (so : So) (hr : so.rdy = none) (ks : List Key) (hl : ks.length ≤ 1000) :
    AC c A (.ref 120) (.ref so.x :: ks.map Key.d) so.led (fun _ _ => False) (fun cls args G' => cls = .type "ValueError" ∧ args = [.str "prepare() must be called first"] ∧ G' = so.led) := by
  refine (ac_fun (bs := [("self", .ref so.x), ("nodes", .tuple (ks.map Key.d))]) (fun L => ⟨L, [("self", .ref so.x), ("nodes", .tuple (ks.map Key.d))], []⟩) T.ok hR (DefOk.mk ⟨_, T.in (by with_unfolding_all rfl), by with_unfolding_all rfl⟩ ⟨_, _, _, _, rfl, T.in (by with_unfolding_all rfl), rfl, rfl⟩ rfl rfl rfl rfl rfl rfl rfl (by decide) (by decide)) (fun w vs hvs => ?_) (by show (["self", "nodes"] : List Str).Nodup; decide) (hk_of (by with_unfolding_all rfl)) (fun L => by with_unfolding_all rfl) (fun L env A' he hR' hA => ?_))
  · simp only [Rels] at hvs
    refine e2a3 hvs ?_
    try clear hvs
    intro v1 r1 zq222 h1 h2
    subst zq222
    exact bind_var (bs := [("self", .ref so.x)]) (bv := [("self", v1)]) (nm := "nodes") (bind_done rfl rfl) ⟨_, _, rfl, h1, rfl⟩ h2 (by simp; walk_at "o")
  · have k1 : env.kindOf "self" = some .local := kind_of he (by with_unfolding_all rfl)
    have k2 : env.kindOf "ValueError" = some .globalImplicit := kind_of he (by with_unfolding_all rfl)
    have hi : interactive env = false := by rw [he]; with_unfolding_all rfl
    clear he
    walk_at "M"
    refine at_rdy T ?_
    walk_at "M"
    refine op_isNone (by intro n e; rw [hr] at e; cases e) ?_
    walk_at "M"
    first | refine ite_t (by rw [hr]; rfl) ?_ | rw [if_pos (by rw [hr]; rfl)]
    walk_at "M"
    refine as_RaiseT hR' k2 (b_VE T) PySem.F.excCall_ValueError PySem.F.excRaise_ValueError ?_
    walk_at "M"
    exact ⟨by simp, rfl, rfl, rfl⟩
end
section
variable {c : Cx} {A : Around}
theorem ae_msg {A' : Around} {env : Env} {F : Frm} {G : Led} {E : LX} {Q : D → Frm → Led → Prop} {e : Expr} {k : Key} {k1 k2 : Nat} {p1 p2 p3 pos : Pos} {w : Str} (kf : k.fine) (hw : PyData.strOk w = true) (hl : w.length ≤ 1000) (h : AE c A' env F G e (fun d F1 G1 => d = k.d ∧ Q (.str (msg k w)) F1 G1) E) :
    AE c A' env F G (.JoinedStr [.Constant (.str "node ") k1 p1, .FormattedValue e 114 none p2, .Constant (.str w) k2 p3] pos) Q E := by
  refine e0a2 (Key.fine_ok kf) fun ro rl => ?_
  have l5 : (Str.empty ++ Str.ofString "node ").length = 5 := by decide
  have o5 : PyData.strOk (Str.empty ++ Str.ofString "node ") = true := by decide +kernel
  refine ae_Joined (aj_cons (x := "") (ae_str (by decide +kernel) ⟨_, rfl, by rw [l5]; walk_at "q", aj_cons (x := "") (ae_Repr (h.mono (fun d F1 G1 ⟨h1, h2⟩ => ⟨k, h1, kf, _, rfl, ?_, aj_cons (x := "") (ae_str hw ⟨_, rfl, ?_, aj_nil ?_ ?_ h2⟩)⟩) fun _ _ _ _ z => z))⟩))
  · rw [len_append, l5]; walk_at "q"
  · rw [len_append, len_append, l5]; walk_at "q"
  · exact strOk_append (strOk_append o5 ro) hw
  · rw [len_append, len_append, l5]; walk_at "q"
theorem stepP_pn {s : Key} {ns : List Nd} {kz : List Key} {nd : Nd} (h : nfind s ns = some nd) : stepP s (pn ns, kz) = (pn (nup s (· - 1) id ns), if nd.np - 1 = 0 then kz ++ [s] else kz) := by
  unfold stepP
  dsimp only
  rw [← pn_nup, look_pn, nfind_nup2 h, if_pos (nfind_split h).1]
  simp only [Option.map_some]
  by_cases q : nd.np - 1 = 0
  · rw [if_pos q, q]; rfl
  · rw [if_neg q]
    congr 1
    split
    · rename_i e; simp only [Option.some.injEq, Prod.mk.injEq] at e; exact absurd e.1 q
    · rfl
theorem su_nup (k k' : Key) (f : Int → Int) (ns : List Nd) : (nfind k' (nup k f id ns)).map (·.su) = (nfind k' ns).map (·.su) := by
  cases h : nfind k' ns with
  | some n => rw [nfind_nup2 h]; rfl
  | none =>
    have : nfind k' (nup k f id ns) = none := by
      have e := dget_ents k' (nup k f id ns)
      rw [ents_nup, dget_ents, h] at e
      cases q : nfind k' (nup k f id ns) with
      | none => rfl
      | some z => rw [q] at e; cases e
    rw [this]
theorem pn_keys (ns : List Nd) : (pn ns).map (·.1) = ns.map (·.k) := by simp [pn]
theorem So.ready_led {so : So} {r : Addr} {ks : List Key} (hr : so.rdy = some (r, ks)) : so.led = [(so.x, .inst 137 so.dx), (so.dx, .attrs so.at), (so.dd, .dict (ents so.nds) so.ep)] ++ (r, .list (ks.map Key.d)) :: ndsLed so.nds := by
  simp [So.led, hr, rdyLed]

inductive InvDone (so : So) (N B m : Nat) (xs : List Key) (st' : PS) (res : Option Str) (r L : Addr) (i : Nat) : Frm → Led → Prop
  | mk {G : Led} (loc) (ns) (kz) (m0) (h2 : List.lookup ("self" : Str) loc = some (.ref so.x)) (h3 : List.lookup ("n2i" : Str) loc = some (.ref so.dd)) (h4 : NOk N ns) (h5 : ents ns = ents so.nds) (h6 : (∀ k, (nfind k ns).map (·.su) = (nfind k so.nds).map (·.su))) (h7 : kz.length ≤ B + i * N) (h8 : m0 ≤ m) (h9 : doneP (xs.drop i) (pn ns, kz) = some (st', m - m0, res)) (h10 : G = ({ so with nds := ns, rdy := some (r, kz), fin := so.fin + m0 } : So).led) : InvDone so N B m xs st' res r L i (⟨L, loc, []⟩) G
inductive InvDone2 (so : So) (N B i m0 : Nat) (k : Key) (nd : Nd) (ns : List Nd) (kz : List Key) (r L : Addr) (j : Nat) : Frm → Led → Prop
  | mk {G : Led} (loc) (ns') (kz') (h2 : List.lookup ("self" : Str) loc = some (.ref so.x)) (h3 : List.lookup ("n2i" : Str) loc = some (.ref so.dd)) (h4 : NOk N ns') (h5 : ents ns' = ents so.nds) (h6 : (∀ k, (nfind k ns').map (·.su) = (nfind k so.nds).map (·.su))) (h7 : (∃ nd', nfind k ns' = some nd' ∧ nd'.s = nd.s ∧ nd'.su = nd.su)) (h8 : kz'.length ≤ B + i * N + j) (h9 : (pn ns', kz') = (nd.su.take j).foldl (fun st s => stepP s st) (upP k (fun _ => -2) id (pn ns), kz)) (h10 : G = ({ so with nds := ns', rdy := some (r, kz'), fin := so.fin + m0 } : So).led) : InvDone2 so N B i m0 k nd ns kz r L j (⟨L, loc, []⟩) G
theorem ac_done {n N B : Nat} (T : Top c) (hR : Rm (n + 2) A) (so : So) (r : Addr) (ks : List Key) (hr : so.rdy = some (r, ks)) (hN : NOk N so.nds) (hB : ks.length ≤ B) (xs : List Key) (hxl : xs.length ≤ 1000) (hBB : B + xs.length * N ≤ 900000)
    (hcl : ∀ nd ∈ so.nds, ∀ s ∈ nd.su, (nfind s so.nds).isSome = true) (hfine : ∀ k ∈ xs, k.fine) (st' : PS) (m : Nat) (res : Option Str) (hd : doneP xs (pn so.nds, ks) = some (st', m, res)) :
    AC c A (.ref 120) (.ref so.x :: xs.map Key.d) so.led
      (fun d G' => res = none ∧ d = .none ∧ DoneTo so.x r st' so.out (so.fin + m) N (B + xs.length * N) G')
      (fun cls args G' => cls = .type "ValueError" ∧ ∃ w, res = some w ∧ args = [.str w] ∧ DoneTo so.x r st' so.out (so.fin + m) N (B + xs.length * N) G') := by
  refine (ac_fun (bs := [("self", .ref so.x), ("nodes", .tuple (xs.map Key.d))]) (fun L => ⟨L, [("self", .ref so.x), ("nodes", .tuple (xs.map Key.d))], []⟩) T.ok hR (DefOk.mk ⟨_, T.in (by with_unfolding_all rfl), by with_unfolding_all rfl⟩ ⟨_, _, _, _, rfl, T.in (by with_unfolding_all rfl), rfl, rfl⟩ rfl rfl rfl rfl rfl rfl rfl (by decide) (by decide)) (fun w vs hvs => ?_) (by show (["self", "nodes"] : List Str).Nodup; decide) (hk_of (by with_unfolding_all rfl)) (fun L => by with_unfolding_all rfl) (fun L env A' he hR' hA => ?_))
  · simp only [Rels] at hvs
    refine e2a3 hvs ?_
    try clear hvs
    intro v1 r1 zq223 h1 h2
    subst zq223
    exact bind_var (bs := [("self", .ref so.x)]) (bv := [("self", v1)]) (nm := "nodes") (bind_done rfl rfl) ⟨_, _, rfl, h1, rfl⟩ h2 (by simp; walk_at "q")
  · have k1 : env.kindOf "self" = some .local := kind_of he (by with_unfolding_all rfl)
    have k2 : env.kindOf "nodes" = some .local := kind_of he (by with_unfolding_all rfl)
    have k3 : env.kindOf "n2i" = some .local := kind_of he (by with_unfolding_all rfl)
    have k4 : env.kindOf "node" = some .local := kind_of he (by with_unfolding_all rfl)
    have k5 : env.kindOf "nodeinfo" = some .local := kind_of he (by with_unfolding_all rfl)
    have k6 : env.kindOf "stat" = some .local := kind_of he (by with_unfolding_all rfl)
    have k7 : env.kindOf "successor" = some .local := kind_of he (by with_unfolding_all rfl)
    have k8 : env.kindOf "successor_info" = some .local := kind_of he (by with_unfolding_all rfl)
    have k9 : env.kindOf "ValueError" = some .globalImplicit := kind_of he (by with_unfolding_all rfl)
    have k10 : env.kindOf "_NODE_OUT" = some .globalImplicit := kind_of he (by with_unfolding_all rfl)
    have k11 : env.kindOf "_NODE_DONE" = some .globalImplicit := kind_of he (by with_unfolding_all rfl)
    have hi : interactive env = false := by rw [he]; with_unfolding_all rfl
    clear he
    have g1 := g_OUT T
    have g2 := g_DONE T
    have hcl0 : ∀ k nd, nfind k so.nds = some nd → ∀ s ∈ nd.su, (nfind s so.nds).isSome = true := fun k nd h s hs => hcl nd (by obtain ⟨_, a, b, e⟩ := nfind_split h; rw [e]; simp) s hs
    walk_at "M"
    refine at_rdy T ?_
    rw [hr]
    walk_at "M"
    refine op_isNone (by intro n e; cases e) ?_
    walk_at "M"
    first | refine ite_f (by simp [rdyD, D.isNone]) ?_ | rw [if_neg (by simp [rdyD, D.isNone])]
    walk_at "M"
    refine at_n2i T ?_
    walk_at "M"
    refine as_For hA ?_
    walk_at "M"
    refine ⟨xs.map Key.d, fun _ => True, InvDone so N B m xs st' res r L, iter_tuple hR', ⟨_, so.nds, ks, 0, by with_unfolding_all rfl, by with_unfolding_all rfl, hN, rfl, fun _ => rfl, by walk_at "q", Nat.zero_le _, hd, ?_⟩, fun _ _ _ _ => trivial, ?_, ?_⟩
    · simp [So.led, So.at, hr]
    · intro i d F G hd zr8
      obtain ⟨loc, ns, kz, m0, l1, l2, x1, x2, x3, x4, x5, x6, rfl⟩ := zr8
      rw [List.getElem?_map] at hd
      refine e1a2 (Option.map_eq_some_iff.mp hd) fun k hk zq224 => ?_
      subst zq224
      have hil : i < xs.length := (List.getElem?_eq_some_iff.mp hk).1
      have hdrop : xs.drop i = k :: xs.drop (i + 1) := by
        rw [List.drop_eq_getElem_cons hil]; congr 1; exact (List.getElem?_eq_some_iff.mp hk).2
      have kf := hfine k (List.mem_of_getElem? hk)
      have iN : B + i * N ≤ B + xs.length * N := Nat.add_le_add_left (Nat.mul_le_mul_right N (Nat.le_of_lt hil)) B
      have iN1 : B + i * N + N ≤ B + xs.length * N := by
        have := Nat.mul_le_mul_right N (show i + 1 ≤ xs.length from hil)
        rw [Nat.add_mul, Nat.one_mul] at this
        walk_at "q"
      rw [hdrop, doneP, look_pn] at x6
      walk_at "M"
      refine meth_dict PySem.F.slot_dict_get (by with_unfolding_all rfl) (es := ents ns) (n := so.ep) (by first | walk_at "h" | simp [So.led]) ?_
      walk_at "M"
      refine callk_bi (call_dictget (es := ents ns) (n := so.ep) (by first | walk_at "h" | simp [So.led]) ?_)
      rw [dget_ents]
      cases hf : nfind k ns with
      | none =>
        simp only [Option.map_none, Option.getD_none]
        rw [hf] at x6
        simp only [Option.map_none, Option.some.injEq, Prod.mk.injEq] at x6
        refine e0a3 x6 ?_
        try clear x6
        intro zq225 e2 zq226
        subst zq225
        subst zq226
        walk_at "M"
        refine op_isNone (by intro n e; cases e) ?_
        walk_at "M"
        first | refine ite_t (by simp [D.isNone]) ?_ | rw [if_pos (by simp [D.isNone])]
        walk_at "M"
        refine as_RaiseT hR' (by with_reducible assumption) (b_VE T) PySem.F.excCall_ValueError PySem.F.excRaise_ValueError ?_
        refine al_cons (ae_msg kf (by decide +kernel) (by decide) ?_)
        walk_at "M"
        refine ⟨rfl, al_nil ⟨by simp, rfl, _, rfl, rfl, { so with nds := ns, rdy := some (r, kz), fin := so.fin + m0 }, rfl, rfl, rfl, ?_, x1, rfl, by show kz.length ≤ _; walk_at "q", rfl⟩⟩
        show so.fin + (m0 : Int) = so.fin + (m : Int); walk_at "q"
      | some nd =>
        simp only [Option.map_some, Option.getD_some]
        rw [hf] at x6
        simp only [Option.map_some] at x6
        have ndk := (nfind_split hf).1
        walk_at "M"
        refine op_isNone (by intro n e; cases e) ?_
        walk_at "M"
        first | refine ite_f (by simp [D.isNone]) ?_ | rw [if_neg (by simp [D.isNone])]
        have see := So.node (so := { so with nds := ns, rdy := some (r, kz), fin := so.fin + m0 }) hf
        walk_at "M"
        refine geta_slot T.ok (cls40 T) (slot_np T) (xs := [nd.k.d, .int nd.np, .ref nd.s]) see.1 rfl (by intro n e; cases e) ?_
        walk_at "M"
        refine op_nei ?_
        walk_at "M"
        by_cases h1 : nd.np = -1
        · first | refine ite_f (by simp [h1]) ?_ | rw [if_neg (by simp [h1])]
          rw [if_neg (by walk_at "q"), if_neg (by walk_at "q"), if_pos h1] at x6
          refine e1a2 (Option.map_eq_some_iff.mp x6) fun zq227 hd2 e2 => ?_
          obtain ⟨st2, m2, res2⟩ := zq227
          simp only [Prod.mk.injEq] at e2
          refine e0a3 e2 ?_
          try clear e2
          intro zq228 e3 zq229
          subst zq228
          subst zq229
          refine e2a2 (So.see (so := { so with nds := ns, rdy := some (r, kz), fin := so.fin + m0 }) hf) fun P S f1 f2 => ?_
          have nsu : ∀ s ∈ nd.su, (nfind s so.nds).isSome = true := by
            have q := x3 k
            rw [hf] at q
            cases q2 : nfind k so.nds with
            | none => rw [q2] at q; cases q
            | some z =>
              rw [q2] at q
              have q3 : nd.su = z.su := by simpa using q
              rw [q3]; exact hcl0 k z q2
          have nsl : nd.su.length ≤ N := x1.su nd (by obtain ⟨_, a, b, e⟩ := nfind_split hf; rw [e]; simp)
          rw [f1]
          walk_at "M"
          refine seta_slot T.ok (cls40 T) (slot_np T) (by first | walk_at "h" | simp) (by decide) ?_
          have f3 : P ++ (nd.a, O.slots 40 [nd.k.d, .int (-2), .ref nd.s]) :: (nd.s, O.list (nd.su.map Key.d)) :: S = _ := f2 x1.nd (fun _ => -2) id
          rw [show sset 1 (D.int (-2)) [nd.k.d, .int nd.np, .ref nd.s] = [nd.k.d, .int (-2), .ref nd.s] by rfl]
          walk_at "M"
          refine as_For hA ?_
          walk_at "M"
          refine geta_slot T.ok (cls40 T) (slot_su T) (xs := [nd.k.d, .int (-2), .ref nd.s]) (by first | walk_at "h" | simp) rfl (by intro n e; cases e) ?_
          refine ⟨nd.su.map Key.d, _, InvDone2 so N B i m0 k nd ns kz r L,
            iter_mut (a := nd.s) (xs := nd.su.map Key.d) hR', ⟨_, nup k (fun _ => -2) id ns, kz, by with_unfolding_all assumption, by with_unfolding_all assumption, x1.nup k _ id (Nat.le_refl _) (fun l h => h), by rw [ents_nup]; exact x2, fun k' => by rw [su_nup]; exact x3 k', ⟨_, nfind_nup2 hf, rfl, rfl⟩, by simpa using x4, by rw [pn_nup]; rfl, f3⟩, ?_, ?_, ?_⟩
          · intro j F G zr9
            obtain ⟨loc', ns', kz', _, _, _, _, _, ⟨nd', y1, y2, y3⟩, _, _, rfl⟩ := zr9
            rw [← y2, ← y3]
            exact List.mem_append_right _ (So.node (so := { so with nds := ns', rdy := some (r, kz'), fin := so.fin + m0 }) y1).2
          · intro j d F G hd zr10
            obtain ⟨loc', ns', kz', w1, w2, y1, y2, y3, y4, y5, y6, rfl⟩ := zr10
            rw [List.getElem?_map] at hd
            refine e1a2 (Option.map_eq_some_iff.mp hd) fun s hs zq230 => ?_
            subst zq230
            have hjl : j < nd.su.length := (List.getElem?_eq_some_iff.mp hs).1
            have hs2 : (nfind s ns').isSome = true := by
              have q := nsu s (List.mem_of_getElem? hs)
              have q2 := y3 s
              cases q3 : nfind s ns' with
              | some z => rfl
              | none => rw [q3] at q2; cases q4 : nfind s so.nds with
                | none => rw [q4] at q; cases q
                | some z => rw [q4] at q2; cases q2
            refine e1a1 (Option.isSome_iff_exists.mp hs2) fun ndS hfs => ?_
            walk_at "M"
            refine geti_dict (k := s) (a := so.dd) (es := ents ns') (n := so.ep) (e := .ref ndS.a) ?_ (by rw [dget_ents, hfs]; rfl) ?_
            · simp [So.led]
            refine e2a2 (So.see (so := { so with nds := ns', rdy := some (r, kz'), fin := so.fin + m0 }) hfs) fun P' S' u1 u2 => ?_
            rw [u1]
            walk_at "M"
            refine geta_slot T.ok (cls40 T) (slot_np T) (xs := [ndS.k.d, .int ndS.np, .ref ndS.s]) (by first | walk_at "h" | simp) rfl (by intro n e; cases e) ?_
            walk_at "M"
            refine op_isub ?_
            refine seta_slot T.ok (cls40 T) (slot_np T) (by first | walk_at "h" | simp) (by decide) ?_
            have u3 : P' ++ (ndS.a, O.slots 40 [ndS.k.d, .int (ndS.np - 1), .ref ndS.s]) :: (ndS.s, O.list (ndS.su.map Key.d)) :: S' = _ := u2 y1.nd (fun x => x - 1) id
            rw [show sset 1 (D.int (ndS.np - 1)) [ndS.k.d, .int ndS.np, .ref ndS.s] = [ndS.k.d, .int (ndS.np - 1), .ref ndS.s] by rfl]
            walk_at "M"
            refine geta_slot T.ok (cls40 T) (slot_np T) (xs := [ndS.k.d, .int (ndS.np - 1), .ref ndS.s]) (by first | walk_at "h" | simp) rfl (by intro n e; cases e) ?_
            walk_at "M"
            refine op_eqi ?_
            walk_at "M"
            rw [u3]
            have fold : ∀ kz'', stepP s (pn ns', kz') = (pn (nup s (fun x => x - 1) id ns'), kz'') → (pn (nup s (fun x => x - 1) id ns'), kz'') = (nd.su.take (j + 1)).foldl (fun st s => stepP s st) (upP k (fun _ => -2) id (pn ns), kz) := fun kz'' q => by
              rw [List.take_add_one, hs, List.foldl_append, ← y6]; exact q.symm
            have two : ∃ nd', nfind k (nup s (fun x => x - 1) id ns') = some nd' ∧ nd'.s = nd.s ∧ nd'.su = nd.su := by
              refine e1a3 y4 ?_
              try clear y4
              intro nd' z1 z2 z3
              exact ⟨_, nfind_nup2 z1, z2, z3⟩
            by_cases hz : ndS.np - 1 = 0
            · first | refine ite_t (by simpa using hz) ?_ | rw [if_pos (by simpa using hz)]
              walk_at "M"
              refine at_rdy (so := { so with nds := nup s (fun x => x - 1) id ns', rdy := some (r, kz'), fin := so.fin + m0 }) T ?_
              refine meth_list PySem.F.slot_list_append (by with_unfolding_all rfl) (seq_mut (a := r) (xs := kz'.map Key.d) (by simp [So.led, rdyLed])) ?_
              walk_at "M"
              refine callk_bi ?_
              have v1 := So.ready_led (so := { so with nds := nup s (fun x => x - 1) id ns', rdy := some (r, kz'), fin := so.fin + m0 }) rfl
              rw [v1]
              refine call_append (by simp; walk_at "q") ?_
              have v2 := So.ready_led (so := { so with nds := nup s (fun x => x - 1) id ns', rdy := some (r, kz' ++ [s]), fin := so.fin + m0 }) rfl
              walk_at "M"
              refine ⟨_, nup s (fun x => x - 1) id ns', kz' ++ [s], by with_unfolding_all assumption, by with_unfolding_all assumption, y1.nup s _ id (Nat.le_refl _) (fun l h => h), by rw [ents_nup]; exact y2, fun k' => by rw [su_nup]; exact y3 k', two, by simp; walk_at "q", fold _ (by rw [stepP_pn hfs, if_pos hz]), ?_⟩
              rw [v2]
              simp [So.at, rdyD]
            · first | refine ite_f (by simpa using hz) ?_ | rw [if_neg (by simpa using hz)]
              walk_at "M"
              exact ⟨_, nup s (fun x => x - 1) id ns', kz', by with_unfolding_all assumption, by with_unfolding_all assumption, y1.nup s _ id (Nat.le_refl _) (fun l h => h), by rw [ents_nup]; exact y2, fun k' => by rw [su_nup]; exact y3 k', two, by walk_at "q", fold _ (by rw [stepP_pn hfs, if_neg hz]), rfl⟩
          · intro F G zr11
            obtain ⟨loc', ns', kz', w1, w2, y1, y2, y3, y4, y5, y6, rfl⟩ := zr11
            rw [List.length_map, List.take_length] at y6
            rw [List.length_map] at y5
            walk_at "M"
            refine at_fin (so := { so with nds := ns', rdy := some (r, kz'), fin := so.fin + m0 }) T ?_
            walk_at "M"
            refine op_iadd ?_
            refine set_fin (so := { so with nds := ns', rdy := some (r, kz'), fin := so.fin + m0 }) T ?_
            walk_at "M"
            refine ⟨_, ns', kz', m0 + 1, by with_unfolding_all assumption, by with_unfolding_all assumption, y1, y2, y3, ?_, by walk_at "q", ?_, ?_⟩
            · have : B + (i + 1) * N = B + i * N + N := by rw [Nat.add_mul, Nat.one_mul]; walk_at "q"
              walk_at "q"
            · rw [show m - (m0 + 1) = m2 by walk_at "q"]
              rw [y6]; exact hd2
            · have : so.fin + (m0 : Int) + 1 = so.fin + ((m0 + 1 : Nat) : Int) := by walk_at "q"
              simp only [this]
        · first | refine ite_t (by simp [h1]) ?_ | rw [if_pos (by simp [h1])]
          walk_at "M"
          refine op_ge ?_
          walk_at "M"
          by_cases h2 : 0 ≤ nd.np
          · first | refine ite_t (by simpa using h2) ?_ | rw [if_pos (by simpa using h2)]
            rw [if_pos h2] at x6
            simp only [Option.some.injEq, Prod.mk.injEq] at x6
            refine e0a3 x6 ?_
            try clear x6
            intro zq231 e2 zq232
            subst zq231
            subst zq232
            walk_at "M"
            refine as_RaiseT hR' (by with_reducible assumption) (b_VE T) PySem.F.excCall_ValueError PySem.F.excRaise_ValueError ?_
            refine al_cons (ae_msg kf (by decide +kernel) (by decide) ?_)
            walk_at "M"
            refine ⟨rfl, al_nil ⟨by simp, rfl, _, rfl, rfl, { so with nds := ns, rdy := some (r, kz), fin := so.fin + m0 }, rfl, rfl, rfl, ?_, x1, rfl, by show kz.length ≤ _; walk_at "q", rfl⟩⟩
            show so.fin + (m0 : Int) = so.fin + (m : Int); walk_at "q"
          · first | refine ite_f (by simpa using h2) ?_ | rw [if_neg (by simpa using h2)]
            rw [if_neg h2] at x6
            walk_at "M"
            refine op_eqi ?_
            walk_at "M"
            by_cases h3 : nd.np = -2
            · first | refine ite_t (by simpa using h3) ?_ | rw [if_pos (by simpa using h3)]
              rw [if_pos h3] at x6
              simp only [Option.some.injEq, Prod.mk.injEq] at x6
              refine e0a3 x6 ?_
              try clear x6
              intro zq233 e2 zq234
              subst zq233
              subst zq234
              walk_at "M"
              refine as_RaiseT hR' (by with_reducible assumption) (b_VE T) PySem.F.excCall_ValueError PySem.F.excRaise_ValueError ?_
              refine al_cons (ae_msg kf (by decide +kernel) (by decide) ?_)
              walk_at "M"
              refine ⟨rfl, al_nil ⟨by simp, rfl, _, rfl, rfl, { so with nds := ns, rdy := some (r, kz), fin := so.fin + m0 }, rfl, rfl, rfl, ?_, x1, rfl, by show kz.length ≤ _; walk_at "q", rfl⟩⟩
              show so.fin + (m0 : Int) = so.fin + (m : Int); walk_at "q"
            · rw [if_neg h3, if_neg h1] at x6; cases x6
    · intro F G zr12
      obtain ⟨loc, ns, kz, m0, l1, l2, x1, x2, x3, x4, x5, x6, rfl⟩ := zr12
      rw [List.length_map, List.drop_length, doneP] at x6
      simp only [Option.some.injEq, Prod.mk.injEq] at x6
      refine e0a3 x6 ?_
      try clear x6
      intro zq235 e2 zq236
      subst zq235
      subst zq236
      walk_at "M"
      refine ⟨rfl, rfl, { so with nds := ns, rdy := some (r, kz), fin := so.fin + m0 }, rfl, rfl, rfl, ?_, x1, rfl, by simpa using x4, rfl⟩
      show so.fin + (m0 : Int) = so.fin + (m : Int); walk_at "q"
end
set_option genInjectivity false in
structure Se where
  k : Key
  i : Nat
  q : Addr
  it : Addr
  s : Addr
noncomputable def Se.led (e : Se) : Led := [(e.q, .raw (wrapObj e.it)), (e.it, .rcd "list_iterator" [.ref e.s, .int e.i 0])]
noncomputable def stkLed (es : List Se) : Led := es.flatMap Se.led
noncomputable def scLed (st its se ns : Addr) (ep : Nat) (es : List Se) (seen : List Key) : Led :=
  (ns, .dict (posE 0 (es.map (·.k))) ep) :: (se, .set seen) :: (its, .list (es.map fun e => .ref e.q)) :: (st, .list (es.map fun e => e.k.d)) :: stkLed es
theorem cnt_app (p : Addr × O) (a b : Led) : cnt p (List.append a b) = cnt p a + cnt p b := cnt_append p a b
theorem stkLed_append (a b : List Se) : stkLed (a ++ b) = stkLed a ++ stkLed b := by simp [stkLed]
theorem stkLed_one (e : Se) : stkLed [e] = [(e.q, .raw (wrapObj e.it)), (e.it, .rcd "list_iterator" [.ref e.s, .int e.i 0])] := by simp [stkLed, Se.led]
noncomputable def sucs (l : PN) (k : Key) : List Key := ((look k l).map (·.2)).getD []
section
variable {c : Cx} {A : Around}
theorem b_set (T : Top c) : Blt c "set" (.typ "set") := T.blt (v := .type "set") (by with_unfolding_all rfl) (by kernel_rfl) (by simp [Rel])
theorem b_iter (T : Top c) : Blt c "iter" (.bi "iter") := T.blt (v := .builtin "iter") (by with_unfolding_all rfl) (by kernel_rfl) (by simp [Rel])
theorem b_SI (T : Top c) : Blt c "StopIteration" (.typ "StopIteration") := T.blt (v := .type "StopIteration") (by with_unfolding_all rfl) (by kernel_rfl) (by simp [Rel])
noncomputable def Ring (g : Key → List Key) (ring : List Key) : Prop := Steps g ring ∧ 2 ≤ ring.length ∧ ring.head? = ring.getLast? ∧ ring.dropLast.Nodup
theorem sucs_nd {so : So} {k : Key} {nd : Nd} (h : nfind k so.nds = some nd) : sucs (pn so.nds) k = nd.su := by unfold sucs; rw [look_pn, h]; rfl
noncomputable def wNew (ns : List Nd) (seen : List Key) : Nat := (ns.map fun n => if n.k ∈ seen then 0 else n.su.length + 2).sum
noncomputable def wStk (g : Key → List Key) (es : List Se) : Nat := (es.map fun e => (g e.k).length - e.i + 1).sum
theorem wStk_snoc (g : Key → List Key) (es : List Se) (e : Se) : wStk g (es ++ [e]) = wStk g es + ((g e.k).length - e.i + 1) := by simp [wStk]
theorem wNew_push {ns : List Nd} {seen : List Key} {k : Key} {nd : Nd} (hn : (ns.map (·.k)).Nodup) (hf : nfind k ns = some nd) (hk : k ∉ seen) : wNew ns (seen ++ [k]) + (nd.su.length + 2) = wNew ns seen := by
  refine e0a2 (nfind_split hf) fun h1 zq237 => ?_
  obtain ⟨a, b, e⟩ := zq237
  subst e
  rw [List.map_append, List.map_cons, List.nodup_append, List.nodup_cons] at hn
  have same : ∀ l : List Nd, (∀ m ∈ l, m.k ≠ k) → (l.map fun n => if n.k ∈ seen ++ [k] then 0 else n.su.length + 2) = l.map fun n => if n.k ∈ seen then 0 else n.su.length + 2 := by
    intro l hl
    refine List.map_congr_left fun m hm => ?_
    have := hl m hm
    simp [this]
  unfold wNew
  rw [List.map_append, List.map_cons, List.map_append, List.map_cons, same a (fun m hm z => hn.2.2 m.k (List.mem_map_of_mem hm) nd.k (by first | walk_at "h" | simp) (by rw [z, h1])), same b (fun m hm z => hn.2.1.1 (List.mem_map.mpr ⟨m, hm, by rw [z, h1]⟩))]
  simp only [List.sum_append, List.sum_cons, h1]
  rw [if_pos (by first | walk_at "h" | simp), if_neg hk]
  walk_at "q"
theorem nodup_len {α : Type} [DecidableEq α] : ∀ {l m : List α}, l.Nodup → (∀ x ∈ l, x ∈ m) → l.length ≤ m.length
  | [], _, _, _ => Nat.zero_le _
  | x :: r, m, h, hs => by
    rw [List.nodup_cons] at h
    have hx := hs x (.head _)
    have ih := nodup_len (l := r) (m := m.erase x) h.2 (fun y hy => (List.mem_erase_of_ne (fun (z : y = x) => h.1 (by rw [← z]; exact hy))).mpr (hs y (.tail _ hy)))
    rw [List.length_erase_of_mem hx] at ih
    have := List.length_pos_of_mem hx
    simp only [List.length_cons]; walk_at "q"
structure ScOk (so : So) (g : Key → List Key) (i : Nat) (es : List Se) (seen fin : List Key) : Prop where
  finok : FinOk g fin
  see : ∀ k, k ∈ seen ↔ k ∈ fin ∨ k ∈ es.map (·.k)
  nd : seen.Nodup
  there : ∀ k ∈ seen, (nfind k so.nds).isSome = true
  apart : (es.map (·.k)).Nodup
  off : ∀ k ∈ es.map (·.k), k ∉ fin
  lists : ∀ e ∈ es, ∃ nd, nfind e.k so.nds = some nd ∧ e.s = nd.s
  done : ∀ nd ∈ so.nds.take i, nd.k ∈ fin
theorem ScOk.len {so : So} {g : Key → List Key} {i : Nat} {es : List Se} {seen fin : List Key} {N : Nat} (h : ScOk so g i es seen fin) (hN : so.nds.length ≤ N) : seen.length ≤ N := by
  have sub : ∀ k ∈ seen, k ∈ so.nds.map (·.k) := fun k hk => by
    refine e1a1 (Option.isSome_iff_exists.mp (h.there k hk)) fun nd hf => ?_
    refine e0a2 (nfind_split hf) fun e zq238 => ?_
    obtain ⟨a, b, e2⟩ := zq238
    rw [e2, ← e]; simp
  have := nodup_len h.nd sub
  simp at this; walk_at "q"
theorem ScOk.elen {so : So} {g : Key → List Key} {i : Nat} {es : List Se} {seen fin : List Key} {N : Nat} (h : ScOk so g i es seen fin) (hN : so.nds.length ≤ N) : es.length ≤ N := by
  have := nodup_len h.apart (m := seen) fun k hk => (h.see k).mpr (.inr hk)
  have := h.len hN
  simp at *; walk_at "q"
theorem ScOk.push {so : So} {g : Key → List Key} {i : Nat} {es : List Se} {seen fin : List Key} {k : Key} {nd : Nd} {q it : Addr} (h : ScOk so g i es seen fin) (hk : k ∉ seen) (hf : nfind k so.nds = some nd) : ScOk so g i (es ++ [⟨k, 0, q, it, nd.s⟩]) (seen ++ [k]) fin := by
  have hk' := fun z => hk ((h.see k).mpr z)
  refine ⟨h.finok, fun x => ?_, ?_, fun x hx => ?_, ?_, fun x hx => ?_, fun e he => ?_, h.done⟩
  · simp only [List.mem_append, h.see x, List.map_append, List.map_cons, List.map_nil]; simp [or_assoc]
  · rw [List.nodup_append]; exact ⟨h.nd, by simp, fun x hx y hy e => by simp at hy; subst hy; subst e; exact hk hx⟩
  · rcases List.mem_append.mp hx with z | z
    · exact h.there x z
    · simp at z; subst z; rw [hf]; rfl
  · rw [List.map_append, List.nodup_append]; exact ⟨h.apart, by simp, fun x hx y hy e => by simp at hy; subst hy; subst e; exact hk' (.inr hx)⟩
  · rw [List.map_append, List.mem_append] at hx
    rcases hx with z | z
    · exact h.off x z
    · simp at z; subst z; exact fun z => hk' (.inl z)
  · rcases List.mem_append.mp he with z | z
    · exact h.lists e z
    · simp at z; subst z; exact ⟨nd, hf, rfl⟩
theorem ScOk.next {so : So} {g : Key → List Key} {i : Nat} {es : List Se} {e : Se} {seen fin : List Key} {j : Nat} (h : ScOk so g i (es ++ [e]) seen fin) : ScOk so g i (es ++ [{ e with i := j }]) seen fin := by
  refine ⟨h.finok, by simpa using h.see, h.nd, h.there, by simpa using h.apart, by simpa using h.off, fun x hx => ?_, h.done⟩
  rcases List.mem_append.mp hx with z | z
  · exact h.lists x (List.mem_append_left _ z)
  · simp at z; subst z; exact h.lists e (by first | walk_at "h" | simp)
theorem ScOk.pop {so : So} {g : Key → List Key} {i : Nat} {es : List Se} {e : Se} {seen fin : List Key} (h : ScOk so g i (es ++ [e]) seen fin) (hv : ∀ v ∈ g e.k, v ∈ fin) : ScOk so g i es seen (fin ++ [e.k]) := by
  have ha := h.apart
  rw [List.map_append, List.nodup_append] at ha
  refine ⟨h.finok.snoc hv, fun x => ?_, h.nd, h.there, ha.1, fun x hx z => ?_, fun x hx => h.lists x (List.mem_append_left _ hx), fun n hn => List.mem_append_left _ (h.done n hn)⟩
  · rw [h.see x]; simp only [List.map_append, List.mem_append, List.map_cons, List.map_nil, List.mem_singleton]
    constructor
    · rintro (z | z | z)
      · exact .inl (.inl z)
      · exact .inr z
      · exact .inl (.inr z)
    · rintro ((z | z) | z)
      · exact .inl z
      · exact .inr (.inr z)
      · exact .inr (.inl z)
  · rcases List.mem_append.mp z with z | z
    · exact h.off x (by simp only [List.map_append, List.mem_append]; exact .inl hx) z
    · simp at z; exact ha.2.2 x hx e.k (by first | walk_at "h" | simp) z
theorem ring_of {g : Key → List Key} {fin : List Key} {st : List (Key × Nat)} {v : Key} (h : StkOk g fin st (some v)) (hn : (st.map (·.1)).Nodup) (hv : v ∈ st.map (·.1)) : Ring g ((st.map (·.1)).drop ((st.map (·.1)).idxOf v) ++ [v]) := by
  have hl := List.idxOf_lt_length_of_mem hv
  have hd : (st.map (·.1)).drop ((st.map (·.1)).idxOf v) = v :: (st.map (·.1)).drop ((st.map (·.1)).idxOf v + 1) := by
    rw [List.drop_eq_getElem_cons hl, List.getElem_idxOf hl]
  refine ⟨?_, ?_, ?_, ?_⟩
  · have := (h.steps).drop ((st.map (·.1)).idxOf v)
    rwa [List.drop_append_of_le_length (by walk_at "q")] at this
  · simp at hl ⊢; walk_at "q"
  · rw [hd, List.getLast?_concat]; rfl
  · rw [List.dropLast_concat]; exact hn.drop
set_option maxHeartbeats 2000000 in
inductive InvC1 (so : So) (g : Key → List Key) (st its se ns L : Addr) (i : Nat) : Frm → Led → Prop
  | mk {G : Led} (J) (loc) (ep) (seen) (fin) (h2 : List.lookup ("n2i" : Str) loc = some (.ref so.dd)) (h3 : List.lookup ("stack" : Str) loc = some (.ref st)) (h4 : List.lookup ("itstack" : Str) loc = some (.ref its)) (h5 : List.lookup ("seen" : Str) loc = some (.ref se)) (h6 : List.lookup ("node2stacki" : Str) loc = some (.ref ns)) (h7 : ScOk so g i [] seen fin) (h8 : G.Perm (J ++ (scLed st its se ns ep [] seen ++ so.led))) : InvC1 so g st its se ns L i (⟨L, loc, []⟩) G
inductive InvC2 (so : So) (g : Key → List Key) (st its se ns L : Addr) (i : Nat) (nd : Nd) (m : Nat) : Frm → Led → Prop
  | mk {G : Led} (J) (loc) (ep) (es) (seen) (fin) (node) (h2 : List.lookup ("n2i" : Str) loc = some (.ref so.dd)) (h3 : List.lookup ("stack" : Str) loc = some (.ref st)) (h4 : List.lookup ("itstack" : Str) loc = some (.ref its)) (h5 : List.lookup ("seen" : Str) loc = some (.ref se)) (h6 : List.lookup ("node2stacki" : Str) loc = some (.ref ns)) (h7 : List.lookup ("node" : Str) loc = some (Key.d node)) (h8 : ScOk so g i es seen fin) (h9 : StkOk g fin (es.map fun e => (e.k, e.i)) (some node)) (h10 : (nfind node so.nds).isSome = true) (h11 : ((node = nd.k ∧ es = [] ∧ node ∉ seen) ∨ (nd.k ∈ seen ∧ es ≠ []))) (h12 : m = wNew so.nds seen + wStk g es) (h13 : G.Perm (J ++ (scLed st its se ns ep es seen ++ so.led))) : InvC2 so g st its se ns L i nd m (⟨L, loc, []⟩) G
inductive InvC3 (so : So) (g : Key → List Key) (st its se ns L : Addr) (i m : Nat) (seen : List Key) (k : Nat) : Frm → Led → Prop
  | mk {G : Led} (J) (loc) (ep) (es) (fin) (h2 : List.lookup ("n2i" : Str) loc = some (.ref so.dd)) (h3 : List.lookup ("stack" : Str) loc = some (.ref st)) (h4 : List.lookup ("itstack" : Str) loc = some (.ref its)) (h5 : List.lookup ("seen" : Str) loc = some (.ref se)) (h6 : List.lookup ("node2stacki" : Str) loc = some (.ref ns)) (h7 : ScOk so g i es seen fin) (h8 : StkOk g fin (es.map fun e => (e.k, e.i)) none) (h9 : wNew so.nds seen + wStk g es ≤ m) (h10 : k = es.length) (h11 : G.Perm (J ++ (scLed st its se ns ep es seen ++ so.led))) : InvC3 so g st its se ns L i m seen k (⟨L, loc, []⟩) G
inductive MidC (so : So) (g : Key → List Key) (fin : List Key) (st its se ns L : Addr) (i : Nat) (nd : Nd) (m : Nat) : Frm → Led → Prop
  | mk {G : Led} (loc) (ep) (es) (seen) (h1 : List.lookup ("n2i" : Str) loc = some (.ref so.dd)) (h2 : List.lookup ("stack" : Str) loc = some (.ref st)) (h3 : List.lookup ("itstack" : Str) loc = some (.ref its)) (h4 : List.lookup ("seen" : Str) loc = some (.ref se)) (h5 : List.lookup ("node2stacki" : Str) loc = some (.ref ns)) (h6 : ScOk so g i es seen fin) (h7 : StkOk g fin (es.map fun e => (e.k, e.i)) none) (h8 : nd.k ∈ seen) (h9 : wNew so.nds seen + wStk g es ≤ m) (h10 : G.Perm (scLed st its se ns ep es seen ++ so.led)) : MidC so g fin st its se ns L i nd m ⟨L, loc, []⟩ G
inductive RingC (so : So) (g : Key → List Key) (fl : Fl) (G : Led) : Prop
  | mk (ring : List Key) (h1 : fl = .ret (.list (ring.map Key.d))) (h2 : Ring g ring) (h3 : ∀ k ∈ ring, (nfind k so.nds).isSome = true) (J : Led) (h4 : G.Perm (J ++ so.led))
theorem ac_cycle {n N : Nat} (T : Top c) (hR : Rm (n + 2) A) (so : So) (hN : NOk N so.nds) (hNN : N ≤ 900) (hcl : ∀ nd ∈ so.nds, ∀ s ∈ nd.su, (nfind s so.nds).isSome = true) :
    AC c A (.ref 127) [.ref so.x] so.led (fun d G' => G' = so.led ∧ ((d = .none ∧ ∃ fin, FinOk (sucs (pn so.nds)) fin ∧ ∀ nd ∈ so.nds, nd.k ∈ fin) ∨ ∃ ring, d = .list (ring.map Key.d) ∧ Ring (sucs (pn so.nds)) ring ∧ ∀ k ∈ ring, (nfind k so.nds).isSome = true)) (fun _ _ _ => False) := by
  refine AC.shed (ac_fun (bs := [("self", .ref so.x)]) (fun L => ⟨L, [("self", .ref so.x)], []⟩) T.ok hR (DefOk.mk ⟨_, T.in (by with_unfolding_all rfl), by with_unfolding_all rfl⟩ ⟨_, _, _, _, rfl, T.in (by with_unfolding_all rfl), rfl, rfl⟩ rfl rfl rfl rfl rfl rfl rfl (by decide) (by decide)) (fun w vs hvs => ?_) (by show (["self"] : List Str).Nodup; decide) (hk_of (by with_unfolding_all rfl)) (fun L => by with_unfolding_all rfl) (fun L env A' he hR' hA => ?_))
  · simp only [Rels] at hvs
    refine e2a3 hvs ?_
    try clear hvs
    intro v1 r1 zq239 h1 zq240
    subst zq239
    subst zq240
    exact bind_pure (by with_unfolding_all rfl) ⟨_, _, rfl, h1, rfl⟩
  · have k1 : env.kindOf "self" = some .local := kind_of he (by with_unfolding_all rfl)
    have k2 : env.kindOf "n2i" = some .local := kind_of he (by with_unfolding_all rfl)
    have k3 : env.kindOf "stack" = some .local := kind_of he (by with_unfolding_all rfl)
    have k4 : env.kindOf "itstack" = some .local := kind_of he (by with_unfolding_all rfl)
    have k5 : env.kindOf "seen" = some .local := kind_of he (by with_unfolding_all rfl)
    have k6 : env.kindOf "node2stacki" = some .local := kind_of he (by with_unfolding_all rfl)
    have k7 : env.kindOf "node" = some .local := kind_of he (by with_unfolding_all rfl)
    have k8 : env.kindOf "set" = some .globalImplicit := kind_of he (by with_unfolding_all rfl)
    have k9 : env.kindOf "len" = some .globalImplicit := kind_of he (by with_unfolding_all rfl)
    have k10 : env.kindOf "iter" = some .globalImplicit := kind_of he (by with_unfolding_all rfl)
    have k11 : env.kindOf "StopIteration" = some .globalImplicit := kind_of he (by with_unfolding_all rfl)
    have hi : interactive env = false := by rw [he]; with_unfolding_all rfl
    clear he
    have g1 := b_set T
    have g2 := b_len T
    have g3 := b_iter T
    have g4 := b_SI T
    generalize hg : sucs (pn so.nds) = g
    walk_at "M"
    refine at_n2i T ?_
    walk_at "M"
    refine ae_ListM (al_nil ⟨by simp, fun st => ?_⟩)
    walk_at "M"
    refine ae_ListM (al_nil ⟨by simp, fun its => ?_⟩)
    walk_at "M"
    refine callk_typ (call_set0 T.ok fun se => ?_)
    walk_at "M"
    refine ae_Dict0 T.ok fun ns => ?_
    walk_at "M"
    refine as_For hA ?_
    walk_at "M"
    refine ⟨(ents so.nds).map (·.1.d), fun G => (so.dd, O.dict (ents so.nds) so.ep) ∈ G, InvC1 so g st its se ns L, iter_dict hR', ?_, ?_, ?_, ?_⟩
    · refine ⟨[], _, 0, [], [], by with_unfolding_all rfl, by with_unfolding_all rfl, by with_unfolding_all rfl, by with_unfolding_all rfl, by with_unfolding_all rfl, ⟨fun a b u e => by simp at e, by simp, by simp, by simp, by simp, by simp, by simp, by simp⟩, .refl _⟩
    · intro i F G z
      induction z with
      | mk J loc ep seen fin l1 l2 l3 l4 l5 K p =>
      exact List.mem_append_right _ (p.mem_iff.mpr (by first | walk_at "h" | simp [So.led]))
    · intro i d F G hd z
      induction z with
      | mk J loc ep seen fin l1 l2 l3 l4 l5 K p =>
      obtain ⟨nd, hnd, rfl⟩ : ∃ nd, so.nds[i]? = some nd ∧ nd.k.d = d := by
        simpa [ents] using hd
      have hil : i < so.nds.length := (List.getElem?_eq_some_iff.mp hnd).1
      have hff : ∀ fin : List Key, (∀ nd ∈ so.nds.take i, nd.k ∈ fin) → nd.k ∈ fin → ∀ nd ∈ so.nds.take (i + 1), nd.k ∈ fin := fun fin h1 h2 m hm => by
        rw [List.take_add_one, hnd] at hm
        rcases List.mem_append.mp hm with z | z
        · exact h1 m z
        · simp at z; subst z; exact h2
      walk_at "M"
      refine op_inSet (ks := seen) (p.mem_iff.mpr (by first | walk_at "h" | simp [scLed])) ?_
      walk_at "M"
      by_cases q : nd.k ∈ seen
      · first | refine ite_t (by simpa using q) ?_ | rw [if_pos (by simpa using q)]
        refine as_cons (as_Continue ?_)
        refine ⟨J, _, ep, seen, fin, by with_unfolding_all assumption, by with_unfolding_all assumption, by with_unfolding_all assumption, by with_unfolding_all assumption, by with_unfolding_all assumption, { K with done := hff fin K.done ?_ }, p⟩
        have := (K.see nd.k).mp q
        simpa using this
      · first | refine ite_f (by simpa using q) ?_ | rw [if_neg (by simpa using q)]
        walk_at "M"
        have hnf : (nfind nd.k so.nds).isSome = true := by
          unfold nfind; rw [List.find?_isSome]; exact ⟨nd, List.mem_of_getElem? hnd, by simp⟩
        refine as_While hA (InvC2 so g st its se ns L i nd) _ ⟨J, _, ep, [], seen, fin, nd.k, by with_unfolding_all assumption, by with_unfolding_all assumption, by with_unfolding_all assumption, by with_unfolding_all assumption, by with_unfolding_all assumption, by with_unfolding_all rfl, K, trivial, hnf, .inl ⟨rfl, rfl, q⟩, rfl, p⟩ ?_
        clear hd p l1 l2 l3 l4 l5 K q
        clear J loc ep seen fin
        intro m F G z
        induction z with
        | mk J loc ep es seen fin node l1 l2 l3 l4 l5 l6 K KS hnode hroot hm p =>
        refine AT.forget ?_ p
        clear p J
        have hkeys : (es.map fun e => (e.k, e.i)).map (·.1) = es.map (·.k) := by simp
        refine ai_value (by with_unfolding_all rfl) ?_
        walk_at "M"
        first | refine ite_t (rfl) ?_ | rw [if_pos (rfl)]
        refine as_cons (AT.mono (Q := fun fl F G => (fl = .next ∧ MidC so g fin st its se ns L i nd m F G) ∨ RingC so g fl G) ?_ ?_ (fun _ _ _ _ z => z))
        · walk_at "M"
          refine op_inSet (ks := seen) (by first | walk_at "h" | simp [scLed]) ?_
          walk_at "M"
          by_cases q : node ∈ seen
          · first | refine ite_t (by simpa using q) ?_ | rw [if_pos (by simpa using q)]
            walk_at "M"
            refine op_inDict (es := posE 0 (es.map (·.k))) (n := ep) (by first | walk_at "h" | simp [scLed]) ?_
            rw [dget_posE]
            walk_at "M"
            by_cases q2 : node ∈ es.map (·.k)
            · first | refine ite_t (by simp only [if_pos q2]; rfl) ?_ | rw [if_pos (by simp only [if_pos q2]; rfl)]
              walk_at "M"
              refine ae_Slice (fun _ _ => .inr (by with_unfolding_all rfl)) ?_
              walk_at "M"
              refine geti_dict (es := posE 0 (es.map (·.k))) (n := ep) (e := .int (0 + (es.map (·.k)).idxOf node : Nat)) (by first | walk_at "h" | simp [scLed]) (by rw [dget_posE, if_pos q2]) ?_
              have hel := K.elen hN.len
              refine ⟨es.map (fun e => e.k.d), _, _, _, seq_mut (by first | walk_at "h" | simp [scLed]), by simp; walk_at "q", rfl, rfl, rfl, by simp, ?_⟩
              rw [pick_from]
              refine ae_List ?_
              walk_at "M"
              refine ⟨by simp, ?_⟩
              refine op_addL seq_list seq_list (by simp; walk_at "q") ?_
              walk_at "M"
              refine .inr ⟨(es.map (·.k)).drop ((es.map (·.k)).idxOf node) ++ [node], ?_, ?_, ?_, _, .refl _⟩
              · simp [List.map_drop, Function.comp_def]
              · have := ring_of KS (by rw [hkeys]; exact K.apart) (by rw [hkeys]; exact q2)
                rwa [hkeys] at this
              · intro x hx
                rcases List.mem_append.mp hx with z | z
                · exact K.there x ((K.see x).mpr (.inr (List.mem_of_mem_drop z)))
                · simp at z; subst z; exact hnode
            · first | refine ite_f (by simp only [if_neg q2]; simp) ?_ | rw [if_neg (by simp only [if_neg q2]; simp)]
              walk_at "M"
              refine .inl ⟨rfl, loc, ep, es, seen, l1, l2, l3, l4, l5, K, ?_, ?_, by walk_at "q", .refl _⟩
              · exact KS.back (((K.see node).mp q).resolve_right q2)
              · rcases hroot with ⟨z1, z2, z3⟩ | ⟨z, _⟩
                · exact absurd q z3
                · exact z
          · first | refine ite_f (by simpa using q) ?_ | rw [if_neg (by simpa using q)]
            walk_at "M"
            refine e1a1 (Option.isSome_iff_exists.mp hnode) fun ndn hndn => ?_
            refine e0a2 (So.node hndn) fun m1 m2 => ?_
            have hel := K.elen hN.len
            refine meth_setadd (ks := seen) (by first | walk_at "h" | simp [scLed]) ?_
            walk_at "M"
            refine callk_bi (call_setadd (ks := seen) (G1 := [(ns, .dict (posE 0 (es.map (·.k))) ep)]) q (by have := K.len hN.len; walk_at "q") ?_)
            walk_at "M"
            refine meth_list PySem.F.slot_list_append (by with_unfolding_all rfl) (seq_mut (xs := es.map fun e => .ref e.q) (by first | walk_at "h" | simp)) ?_
            walk_at "M"
            refine geti_dict (es := ents so.nds) (n := so.ep) (e := .ref ndn.a) (by first | walk_at "h" | simp [So.led]) (by rw [dget_ents, hndn]; rfl) ?_
            refine geta_slot T.ok (cls40 T) (slot_su T) (xs := [ndn.k.d, .int ndn.np, .ref ndn.s]) (by simp [m1]) rfl (by intro n e; cases e) ?_
            walk_at "M"
            refine callk_bi (call_iterL (xs := ndn.su.map Key.d) (by simp [m2]) fun it => ?_)
            refine geta_next (it := it) (a := ndn.s) (i := 0) (by first | walk_at "h" | simp) fun qa => ?_
            refine AT.rawRcd (G1 := [(qa, .raw (wrapObj it))]) (cls := "list_iterator") (vs := [.ref ndn.s, .int ((0 : Nat) : Int) 0]) rfl rfl ?_
            walk_at "M"
            refine callk_bi (call_append (G1 := [(qa, .raw (wrapObj it)), (it, .rcd "list_iterator" [.ref ndn.s, .int ((0 : Nat) : Int) 0]), (ns, .dict (posE 0 (es.map (·.k))) ep), (se, .set (seen ++ [node]))]) (by simp; walk_at "q") ?_)
            walk_at "M"
            refine callk_bi (call_len (xs := es.map fun e => e.k.d) (seq_mut (by first | walk_at "h" | simp)) (.inl rfl) (by simp; walk_at "q") ?_)
            walk_at "M"
            refine seti_dict (k := node) (es := posE 0 (es.map (·.k))) (n := ep) (G1 := [(qa, .raw (wrapObj it)), (it, .rcd "list_iterator" [.ref ndn.s, .int ((0 : Nat) : Int) 0])]) (by rw [posE_length]; simp; walk_at "q") fun ep' => ?_
            walk_at "M"
            refine meth_list PySem.F.slot_list_append (by with_unfolding_all rfl) (seq_mut (xs := es.map fun e => e.k.d) (by first | walk_at "h" | simp)) ?_
            walk_at "M"
            refine callk_bi (call_append (G1 := [(qa, .raw (wrapObj it)), (it, .rcd "list_iterator" [.ref ndn.s, .int ((0 : Nat) : Int) 0]), (ns, .dict _ ep'), (se, .set (seen ++ [node])), (its, _)]) (by simp; walk_at "q") ?_)
            walk_at "M"
            refine .inl ⟨rfl, loc, ep', es ++ [⟨node, 0, qa, it, ndn.s⟩], seen ++ [node], l1, l2, l3, l4, l5, K.push q hndn, ?_, ?_, ?_, ?_⟩
            · rw [List.map_append]; exact KS.push
            · rcases hroot with ⟨z1, z2, z3⟩ | ⟨z, _⟩
              · simp [z1]
              · simp [z]
            · rw [wStk_snoc]
              have e1 := wNew_push hN.nd hndn q
              have e2 : (g node).length = ndn.su.length := by rw [← hg, sucs_nd hndn]
              simp only [e2]
              walk_at "q"
            · have e1 : dput node (.int ((es.map fun e => e.k.d).length : Nat)) (posE 0 (es.map (·.k))) = posE 0 ((es ++ [⟨node, 0, qa, it, ndn.s⟩] : List Se).map (·.k)) := by
                have := dput_posE (k := node) (ks := es.map (·.k)) (fun z => q ((K.see node).mpr (.inr z)))
                simpa using this
              rw [e1]
              refine perm_cnt fun p => ?_
              simp only [scLed, stkLed_append, stkLed_one, cnt_cons, cnt_append, cnt_app, cnt_nil, List.map_append, List.map_cons, List.map_nil]
              walk_at "q"
        · rintro fl F G (⟨rfl, loc, ep, es, seen, l1, l2, l3, l4, l5, K, KS, hroot, hm, p⟩ | ⟨ring, rfl, hr1, hr2, J, p⟩)
          · refine after_next ?_
            refine as_cons ?_
            refine as_While hA (InvC3 so g st its se ns L i m seen) _ ⟨[], loc, ep, es, fin, l1, l2, l3, l4, l5, K, KS, hm, rfl, p⟩ ?_
            clear l1 l2 l3 l4 l5 K KS hm p
            clear loc ep es
            intro k F G zr13
            obtain ⟨J, loc, ep, es, fin, l1, l2, l3, l4, l5, K, KS, hm, rfl, p⟩ := zr13
            refine AT.forget ?_ p
            clear p J
            have hel := K.elen hN.len
            refine ai_value (by with_unfolding_all rfl) ?_
            walk_at "M"
            refine tr_seq (xs := es.map fun e => e.k.d) (seq_mut (by first | walk_at "h" | simp [scLed])) (.inl rfl) (by simp; walk_at "q") ?_
            rcases List.eq_nil_or_concat es with rfl | ⟨es, e, rfl⟩
            · first | refine ite_f (by first | walk_at "h" | simp) ?_ | rw [if_neg (by first | walk_at "h" | simp)]
              refine as_cons (as_Break ?_)
              refine as_nil ?_
              refine ⟨[], loc, ep, seen, fin, l1, l2, l3, l4, l5, { K with done := hff fin K.done ?_ }, .refl _⟩
              have := (K.see nd.k).mp hroot
              simpa using this
            · rw [List.concat_eq_append] at *
              first | refine ite_t (by first | walk_at "h" | simp) ?_ | rw [if_pos (by first | walk_at "h" | simp)]
              refine e1a2 (K.lists e (by first | walk_at "h" | simp)) fun nde hnde hes => ?_
              refine e0a2 (So.node hnde) fun m1 m2 => ?_
              have hge : g e.k = nde.su := by rw [← hg, sucs_nd hnde]
              have hp : (scLed st its se ns ep (es ++ [e]) seen ++ so.led).Perm ((e.it, .rcd "list_iterator" [.ref e.s, .int e.i 0]) :: (e.q, .raw (wrapObj e.it)) :: (ns, .dict (posE 0 (es.map (·.k) ++ [e.k])) ep) :: (se, .set seen) :: (its, .list ((es.map fun e => .ref e.q) ++ [.ref e.q])) :: (st, .list ((es.map fun e => e.k.d) ++ [e.k.d])) :: (stkLed es ++ so.led)) := by
                refine perm_cnt fun p => ?_
                simp only [scLed, stkLed_append, stkLed_one, cnt_cons, cnt_append, cnt_app, cnt_nil, List.map_append, List.map_cons, List.map_nil]
                walk_at "q"
              refine AT.reorder ?_ hp
              rw [List.map_append] at KS
              refine as_cons (as_Try hA ?_)
              walk_at "M"
              refine geti_seq (id := "") (xs := (es.map fun e => .ref e.q) ++ [.ref e.q]) (seq_mut (by first | walk_at "h" | simp)) (.inl rfl) es.length (.inr ⟨by decide, by simp; walk_at "q", by simp; walk_at "q"⟩) (by decide) (by decide) (e := .ref e.q) (by rw [List.getElem?_append_right (by first | walk_at "h" | simp)]; simp) ?_
              walk_at "M"
              refine callk_next (G1 := []) (xs := nde.su.map Key.d) hR' (by first | walk_at "h" | simp) (by rw [hes]; simp [m2]) ?_ ?_
              · intro d hd
                rw [List.getElem?_map] at hd
                refine e1a2 (Option.map_eq_some_iff.mp hd) fun v hv zq241 => ?_
                subst zq241
                walk_at "M"
                refine as_nil ?_
                refine ⟨_, ?_, [], _, ep, es ++ [{ e with i := e.i + 1 }], seen, fin, v, by with_unfolding_all assumption, by with_unfolding_all assumption, by with_unfolding_all assumption, by with_unfolding_all assumption, by with_unfolding_all assumption, by with_unfolding_all rfl, K.next, ?_, ?_, .inr ⟨hroot, by simp⟩, rfl, ?_⟩
                · rw [wStk_snoc] at hm ⊢
                  rw [hge] at hm
                  simp only [hge]
                  have := (List.getElem?_eq_some_iff.mp hv).1
                  walk_at "q"
                · rw [List.map_append]
                  exact StkOk.next (by rw [hge]; exact hv) KS
                · exact hcl nde (by obtain ⟨_, a, b, e⟩ := nfind_split hnde; rw [e]; simp) v (List.mem_of_getElem? hv)
                · refine perm_cnt fun p => ?_
                  simp only [scLed, stkLed_append, stkLed_one, cnt_cons, cnt_append, cnt_app, cnt_nil, List.map_append, List.map_cons, List.map_nil]
                  walk_at "q"
              · intro hd
                have hv : (g e.k)[e.i]? = none := by
                  rw [hge]; rw [List.getElem?_map] at hd
                  cases q : nde.su[e.i]? with
                  | none => rfl
                  | some z => rw [q] at hd; cases hd
                refine e0a2 (StkOk.pop hv KS) fun hfin KS' => ?_
                refine ah_hit (match_type k11 g4 (by with_unfolding_all rfl) (by with_unfolding_all rfl) (by with_unfolding_all rfl)) fun x => ?_
                refine as_cons (as_DelSub ?_)
                walk_at "M"
                refine meth_list PySem.F.slot_list_pop (by with_unfolding_all rfl) (seq_mut (xs := (es.map fun e => e.k.d) ++ [e.k.d]) (by first | walk_at "h" | simp)) ?_
                walk_at "M"
                refine callk_bi (call_pop (d := e.k.d) (G1 := [(e.it, .rcd "list_iterator" [.none, .int e.i 0]), (e.q, .raw (wrapObj e.it)), (ns, .dict (posE 0 (es.map (·.k) ++ [e.k])) ep), (se, .set seen), (its, .list ((es.map fun e => .ref e.q) ++ [.ref e.q]))]) ?_)
                have ha := K.apart
                rw [List.map_append, List.nodup_append] at ha
                have hek : e.k ∉ es.map (·.k) := fun z => ha.2.2 _ z e.k (by first | walk_at "h" | simp) rfl
                refine deli_dict (k := e.k) (es := posE 0 (es.map (·.k) ++ [e.k])) (n := ep) (G1 := [(e.it, .rcd "list_iterator" [.none, .int e.i 0]), (e.q, .raw (wrapObj e.it))]) (by rw [dget_posE, if_pos (by first | walk_at "h" | simp)]; rfl) fun ep' => ?_
                rw [dwo_posE hek]
                walk_at "M"
                refine meth_list PySem.F.slot_list_pop (by with_unfolding_all rfl) (seq_mut (xs := (es.map fun e => .ref e.q) ++ [.ref e.q]) (by first | walk_at "h" | simp)) ?_
                walk_at "M"
                refine callk_bi (call_pop (d := .ref e.q) (G1 := [(e.it, .rcd "list_iterator" [.none, .int e.i 0]), (e.q, .raw (wrapObj e.it)), (ns, .dict (posE 0 (es.map (·.k))) ep'), (se, .set seen)]) ?_)
                walk_at "M"
                refine ⟨es.length, by simp, [(e.it, .rcd "list_iterator" [.none, .int e.i 0]), (e.q, .raw (wrapObj e.it))], _, ep', es, fin ++ [e.k], l1, l2, l3, l4, l5, K.pop hfin, KS', ?_, rfl, ?_⟩
                · rw [wStk_snoc] at hm; walk_at "q"
                · refine perm_cnt fun p => ?_
                  simp only [scLed, cnt_cons, cnt_append, cnt_app, cnt_nil]
                  walk_at "q"
          · exact ⟨J, so.led, p, rfl, .inr ⟨ring, rfl, hg ▸ hr1, hr2⟩⟩
    · intro F G z
      induction z with
      | mk J loc ep seen fin l1 l2 l3 l4 l5 K p =>
      walk_at "M"
      refine ⟨J ++ scLed st its se ns ep [] seen, so.led, by simpa using p, rfl, .inl ⟨rfl, fin, hg ▸ K.finok, fun nd hnd => K.done nd ?_⟩⟩
      rw [List.take_of_length_le (by simp [ents])]; exact hnd
end
section
variable {c : Cx} {A : Around}
theorem g_CE (T : Top c) : Glob c "CycleError" (.ref 55) := T.glob (v := .ref 55) (by with_unfolding_all rfl) (by simp [Rel])
theorem ac_prep_late {n : Nat} (T : Top c) (hR : Rm (n + 3) A) (so : So) (r : Addr × List Key) (hr : so.rdy = some r) :
    AC c A (.ref 92) [.ref so.x] so.led (fun _ _ => False) (fun cls args G' => cls = .type "ValueError" ∧ args = [.str "cannot prepare() more than once"] ∧ G' = so.led) := by
  refine (ac_fun (bs := [("self", .ref so.x)]) (fun L => ⟨L, [("self", .ref so.x)], []⟩) T.ok hR (DefOk.mk ⟨_, T.in (by with_unfolding_all rfl), by with_unfolding_all rfl⟩ ⟨_, _, _, _, rfl, T.in (by with_unfolding_all rfl), rfl, rfl⟩ rfl rfl rfl rfl rfl rfl rfl (by decide) (by decide)) (fun w vs hvs => ?_) (by show (["self"] : List Str).Nodup; decide) (hk_of (by with_unfolding_all rfl)) (fun L => by with_unfolding_all rfl) (fun L env A' he hR' hA => ?_))
  · simp only [Rels] at hvs
    refine e2a3 hvs ?_
    try clear hvs
    intro v1 r1 zq242 h1 zq243
    subst zq242
    subst zq243
    exact bind_pure (by with_unfolding_all rfl) ⟨_, _, rfl, h1, rfl⟩
  · have k1 : env.kindOf "self" = some .local := kind_of he (by with_unfolding_all rfl)
    have k2 : env.kindOf "ValueError" = some .globalImplicit := kind_of he (by with_unfolding_all rfl)
    have hi : interactive env = false := by rw [he]; with_unfolding_all rfl
    clear he
    walk_at "M"
    refine at_rdy T ?_
    rw [hr]
    walk_at "M"
    refine op_isNotNone (by intro n e; cases e) ?_
    walk_at "M"
    first | refine ite_t (by rfl) ?_ | rw [if_pos (by rfl)]
    walk_at "M"
    refine as_RaiseT hR' k2 (b_VE T) PySem.F.excCall_ValueError PySem.F.excRaise_ValueError ?_
    walk_at "M"
    exact ⟨by simp, rfl, rfl, rfl⟩
theorem Key.notbi (k : Key) : ∀ n, k.d ≠ .bi n := by intro n e; cases k <;> cases e
noncomputable def npz (ns : List Nd) : D → Bool
  | .ref a => (ns.find? fun n => decide (n.a = a)).any fun n => decide (n.np = 0)
  | _ => false
noncomputable def keyAt (ns : List Nd) : D → D
  | .ref a => ((ns.find? fun n => decide (n.a = a)).map (·.k.d)).getD .none
  | _ => .none
theorem bind_init {w : Wd} {G : Led} {fd : FuncData} {p1 p2 : Pos} {dfs} {t : Addr} {ob : Obj} {n : Nat} {v1 : Value} {d1 : D} (hp : fd.params = ⟨[], [⟨"self", none, p1⟩, ⟨"graph", none, p2⟩], none, [], [], none, dfs⟩) (hd : fd.defaults = .ref t) (ht : c.base.get? t = some ob) (hob : ob.data = .seq #[.none] n) (hr : Rel w d1 v1) :
    AW c A BRel w G (bindArgs fd ⟨[v1], []⟩) (fun b G' => b = [(("self" : Str), d1), (("graph" : Str), .none)] ∧ G' = G) (fun _ _ _ => False) := fun l hl w1 R s hs S => by
  cases fd
  cases hp; cases hd
  refine wpAny_bind (wpAny_pure ?_)
  refine wpAny_bind (wpAny_seqItems (S.keep _ _ ht) hob ?_)
  exact wpAny_pure ⟨w1, [("self", d1), ("graph", .none)], G, .refl _, ⟨_, _, rfl, hr.mono hs, _, _, rfl, by simp [Rel], rfl⟩, S, rfl, rfl⟩
noncomputable def ready0 (l : PN) : List Key := (l.filter fun e => decide (e.2.1 = 0)).map (·.1)
theorem ac_prep {n N : Nat} (T : Top c) (hR : Rm (n + 3) A) (so : So) (hr : so.rdy = none) (hN : NOk N so.nds) (hNN : N ≤ 900) (hcl : ∀ nd ∈ so.nds, ∀ s ∈ nd.su, (nfind s so.nds).isSome = true) :
    AC c A (.ref 92) [.ref so.x] so.led
      (fun d G' => d = .none ∧ (∃ fin, FinOk (sucs (pn so.nds)) fin ∧ ∀ nd ∈ so.nds, nd.k ∈ fin) ∧ ∃ r, G' = ({ so with rdy := some (r, ready0 (pn so.nds)) } : So).led)
      (fun cls args G' => cls = .ref 55 ∧ (∃ ring, args = [.str "nodes are in a cycle", .list (ring.map Key.d)] ∧ Ring (sucs (pn so.nds)) ring ∧ ∀ k ∈ ring, (nfind k so.nds).isSome = true) ∧ ∃ r, G' = ({ so with rdy := some (r, ready0 (pn so.nds)) } : So).led) := by
  refine AC.shed (ac_fun (bs := [("self", .ref so.x)]) (fun L => ⟨L, [("self", .ref so.x)], []⟩) T.ok hR (DefOk.mk ⟨_, T.in (by with_unfolding_all rfl), by with_unfolding_all rfl⟩ ⟨_, _, _, _, rfl, T.in (by with_unfolding_all rfl), rfl, rfl⟩ rfl rfl rfl rfl rfl rfl rfl (by decide) (by decide)) (fun w vs hvs => ?_) (by show (["self"] : List Str).Nodup; decide) (hk_of (by with_unfolding_all rfl)) (fun L => by with_unfolding_all rfl) (fun L env A' he hR' hA => ?_))
  · simp only [Rels] at hvs
    refine e2a3 hvs ?_
    try clear hvs
    intro v1 r1 zq244 h1 zq245
    subst zq244
    subst zq245
    exact bind_pure (by with_unfolding_all rfl) ⟨_, _, rfl, h1, rfl⟩
  · have k1 : env.kindOf "self" = some .local := kind_of he (by with_unfolding_all rfl)
    have k2 : env.kindOf "ValueError" = some .globalImplicit := kind_of he (by with_unfolding_all rfl)
    have k3 : env.kindOf "cycle" = some .local := kind_of he (by with_unfolding_all rfl)
    have k4 : env.kindOf "CycleError" = some .globalImplicit := kind_of he (by with_unfolding_all rfl)
    have hi : interactive env = false := by rw [he]; with_unfolding_all rfl
    refine AT.apart fun hap => ?_
    have hu : ∀ nd ∈ so.nds, ∃ nd', so.nds.find? (fun n => decide (n.a = nd.a)) = some nd' ∧ nd'.np = nd.np ∧ nd'.k.d = nd.k.d := fun nd hnd => by
      cases h : so.nds.find? (fun n => decide (n.a = nd.a)) with
      | none => rw [List.find?_eq_none] at h; exact absurd (h nd hnd) (by first | walk_at "h" | simp)
      | some nd' =>
        have h1 : nd'.a = nd.a := by simpa using List.find?_some h
        have mem : ∀ z ∈ so.nds, (z.a, O.slots 40 [z.k.d, .int z.np, .ref z.s]) ∈ so.led := fun z hz => by
          refine e2a1 (mem_split hz) fun a b e => ?_
          unfold So.led; rw [e, ndsLed_append, ndsLed_cons]; simp
        have m1 := mem nd hnd
        have m2 := mem nd' (List.mem_of_find?_eq_some h)
        rw [h1] at m2
        have := nodup_uniq hap (List.mem_append_right _ m1) (List.mem_append_right _ m2)
        simp only [O.slots.injEq, List.cons.injEq, D.int.injEq] at this
        exact ⟨nd', rfl, this.2.2.1.symm, this.2.1.symm⟩
    walk_at "M"
    refine at_rdy T ?_
    rw [hr]
    walk_at "M"
    refine op_isNotNone (by intro n e; cases e) ?_
    walk_at "M"
    first | refine ite_f (by simp [rdyD, D.isNone]) ?_ | rw [if_neg (by simp [rdyD, D.isNone])]
    walk_at "M"
    refine ae_CompM T.ok ⟨by rw [he]; with_unfolding_all rfl, rfl, by decide, by decide⟩ ?_
    walk_at "M"
    refine at_n2i T ?_
    refine meth_dict PySem.F.slot_dict_values (by with_unfolding_all rfl) (es := ents so.nds) (n := so.ep) (by first | walk_at "h" | simp [So.led]) ?_
    walk_at "M"
    refine callk_bi (call_values (es := ents so.nds) (n := so.ep) (by first | walk_at "h" | simp [So.led]) fun v => ?_)
    refine ⟨(ents so.nds).map (·.2), npz so.nds, keyAt so.nds, ?_, fun a => ?_⟩
    · refine ⟨by rw [he]; exact ⟨fun _ => rfl, fun _ => rfl, trivial⟩, ⟨_, iter_values (a := so.dd) (m := so.ep) hR', ⟨by simp, by simp [So.led]⟩, fun C loc a o => ⟨by simp, by simp [So.led]⟩⟩, by have := hN.len; simp [ents]; walk_at "q", fun C a1 ys loc i d hd => ?_⟩
      have kc1 : (compEnvC { kind := ScopeKind.function, names := [(".0", NameKind.local), ("i", NameKind.local)], isGenerator := false, isCoroutine := false } [] C env).kindOf "i" = some .local := by rw [he]; with_unfolding_all rfl
      obtain ⟨nd, hnd, rfl⟩ : ∃ nd, so.nds[i]? = some nd ∧ .ref nd.a = d := by simpa [ents] using hd
      refine e1a3 (hu nd (List.mem_of_getElem? hnd)) fun nd' e1 e2 e3 => ?_
      refine e2a1 (mem_split (List.mem_of_getElem? hnd)) fun P1 P2 e => ?_
      have m1 : (nd.a, O.slots 40 [nd.k.d, .int nd.np, .ref nd.s]) ∈ so.led := by unfold So.led; rw [e, ndsLed_append, ndsLed_cons]; simp
      walk_at "M"
      refine tst_one ?_
      walk_at "M"
      refine geta_slot T.ok (cls40 T) (slot_np T) (xs := [nd.k.d, .int nd.np, .ref nd.s]) (by simp [m1]) rfl (by intro n e; cases e) ?_
      walk_at "M"
      refine op_eqi ?_
      walk_at "M"
      refine ⟨by simp [npz, e1, e2], ?_⟩
      by_cases q : nd.np = 0
      · first | refine ite_t (by simpa using q) ?_ | rw [if_pos (by simpa using q)]
        walk_at "M"
        refine geta_slot T.ok (cls40 T) (slot_node T) (xs := [nd.k.d, .int nd.np, .ref nd.s]) (by simp [m1]) rfl (Key.notbi _) ?_
        exact ⟨by simp [keyAt, e1, e3], ⟨_, rfl⟩, rfl⟩
      · first | refine ite_f (by simpa using q) ?_ | rw [if_neg (by simpa using q)]
        exact ⟨⟨_, rfl⟩, rfl⟩
    · clear he
      have hl : (((ents so.nds).map (·.2)).filter (npz so.nds)).map (keyAt so.nds) = (ready0 (pn so.nds)).map Key.d := by
        unfold ready0 pn ents
        rw [List.map_map, List.filter_map, List.map_map, List.filter_map, List.map_map, List.map_map]
        have e1 : so.nds.filter (npz so.nds ∘ (fun x => x.2) ∘ fun n : Nd => (n.k, D.ref n.a)) = so.nds.filter ((fun e => decide (e.2.1 = 0)) ∘ fun n : Nd => (n.k, n.np, n.su)) := by
          refine List.filter_congr fun nd hnd => ?_
          refine e1a3 (hu nd hnd) fun nd' e1 e2 e3 => ?_
          simp [npz, e1, e2]
        rw [e1]
        refine List.map_congr_left fun nd hnd => ?_
        refine e1a3 (hu nd (List.mem_filter.mp hnd).1) fun nd' e1 e2 e3 => ?_
        simp [keyAt, e1, e3]
      rw [hl]
      walk_at "M"
      refine seta_inst (es := so.at) (G1 := [(a, .list ((ready0 (pn so.nds)).map Key.d)), (v, .rcd "dict_values" [.ref so.dd]), (so.x, .inst 137 so.dx)]) T.ok (cls137 T) (tk_rdy T) (by first | walk_at "h" | simp) (by simp [So.at]) ?_
      refine after_next ?_
      generalize hso : ({ so with rdy := some (a, ready0 (pn so.nds)) } : So) = so'
      have hat : aset "_ready_nodes" (.ref a) so.at = so'.at := by subst hso; with_unfolding_all rfl
      rw [hat]
      have h1 : so'.nds = so.nds := by subst hso; rfl
      have h2 : so'.x = so.x := by subst hso; rfl
      refine AT.forget (J := [(v, .rcd "dict_values" [.ref so.dd])]) (G' := so'.led) ?_ ?_
      rotate_left
      · refine perm_cnt fun p => ?_
        rw [← hso]
        simp only [So.led, hr, rdyLed, cnt_cons, cnt_append, cnt_app, cnt_nil]
        walk_at "q"
      have m127 : findIn c.K (.ref 137) "_find_cycle" = some (some (.ref 127)) := by rw [T.K]; with_unfolding_all rfl
      have t127 : typeIn c.K (.ref 127) = some (.type "function") := by rw [T.K]; with_unfolding_all rfl
      have kp : keepIn c.K (.ref 127) = true := by rw [T.K]; with_unfolding_all rfl
      walk_at "M"
      rw [← h2]
      refine meth_inst T.ok (cls137 T) m127 t127 (dx := so'.dx) (es := so'.at) (by first | walk_at "h" | simp [So.led]) (by first | walk_at "h" | simp [So.led]) (by with_unfolding_all rfl) ?_
      walk_at "M"
      refine callk_ac (kok_K T.ok kp) (ac_cycle T hR' so' (h1 ▸ hN) hNN (h1 ▸ hcl)) (Rest := []) (by first | walk_at "h" | simp) ?_ (fun _ _ _ z => z.elim)
      rintro d G' ⟨rfl, ⟨rfl, fin, hf1, hf2⟩ | ⟨ring, rfl, hr1, hr2⟩⟩
      · rw [List.append_nil]
        walk_at "M"
        refine ai_value (by with_unfolding_all rfl) ?_
        walk_at "M"
        refine tr_none ?_
        first | refine ite_f (by first | walk_at "h" | simp) ?_ | rw [if_neg (by first | walk_at "h" | simp)]
        walk_at "M"
        exact ⟨[], so'.led, .refl _, rfl, ⟨fin, h1 ▸ hf1, h1 ▸ hf2⟩, a, by rw [← hso]⟩
      · rw [List.append_nil]
        walk_at "M"
        refine ai_value (by with_unfolding_all rfl) ?_
        walk_at "M"
        have hne : ring ≠ [] := by rintro rfl; exact absurd hr1.2.1 (by first | walk_at "h" | simp)
        have hrl : ring.length ≤ 900000 := by
          have z := nodup_len (l := ring.dropLast) (m := so.nds.map (·.k)) hr1.2.2.2 fun k hk => by
            refine e1a1 (Option.isSome_iff_exists.mp (hr2 k (List.dropLast_subset _ hk))) fun nd hf => ?_
            rw [h1] at hf
            refine e0a2 (nfind_split hf) fun e zq246 => ?_
            obtain ⟨a, b, e2⟩ := zq246
            rw [e2, ← e]; simp
          have := hN.len
          simp at z; walk_at "q"
        refine tr_seq (T := "list") (xs := ring.map Key.d) seq_list (.inl rfl) (by simp; walk_at "q") ?_
        first | refine ite_t (by simpa using hne) ?_ | rw [if_pos (by simpa using hne)]
        walk_at "M"
        refine as_RaiseO hR' k4 (g_CE T) T.exc PySem.F.excBase_ValueError ?_
        walk_at "M"
        refine ae_Joined1 ?_
        walk_at "M"
        refine ⟨by simp, [], so'.led, .refl _, rfl, ⟨ring, rfl, h1 ▸ hr1, h1 ▸ hr2⟩, a, by rw [← hso]⟩
end
section
variable {c : Cx} {A : Around}
theorem ac_init0 {n : Nat} (T : Top c) (hR : Rm (n + 1) A) (x dx : Addr) :
    AC c A (.ref 73) [.ref x] [(x, .inst 137 dx), (dx, .attrs [])] (fun d G' => d = .none ∧ ∃ dd, G' = (⟨x, dx, dd, 0, [], none, 0, 0⟩ : So).led) (fun _ _ _ => False) := by
  refine AC.shed (ac_fun (bs := [("self", .ref x), ("graph", .none)]) (fun L => ⟨L, [("self", .ref x), ("graph", .none)], []⟩) T.ok hR (DefOk.mk ⟨_, T.in (by with_unfolding_all rfl), by with_unfolding_all rfl⟩ ⟨_, _, _, _, rfl, T.in (by with_unfolding_all rfl), rfl, rfl⟩ rfl rfl rfl rfl rfl rfl rfl (by decide) (by decide)) (fun w vs hvs => ?_) (by show (["self", "graph"] : List Str).Nodup; decide) (hk_of (by with_unfolding_all rfl)) (fun L => by with_unfolding_all rfl) (fun L env A' he hR' hA => ?_))
  · simp only [Rels] at hvs
    refine e2a3 hvs ?_
    try clear hvs
    intro v1 r1 zq247 h1 zq248
    subst zq247
    subst zq248
    exact bind_init rfl rfl (T.in (by with_unfolding_all rfl)) rfl h1
  · have k1 : env.kindOf "self" = some .local := kind_of he (by with_unfolding_all rfl)
    have k2 : env.kindOf "graph" = some .local := kind_of he (by with_unfolding_all rfl)
    have hi : interactive env = false := by rw [he]; with_unfolding_all rfl
    clear he
    have tk_n2i : takerIn c.K 137 "_node2info" = some none := by rw [T.K]; with_unfolding_all rfl
    walk_at "M"
    refine ae_Dict0 T.ok fun dd => ?_
    walk_at "M"
    refine seta_inst (G1 := [(dd, .dict [] 0), (x, .inst 137 dx)]) T.ok (cls137 T) tk_n2i (by first | walk_at "h" | simp) (by first | walk_at "h" | simp) ?_
    walk_at "M"
    refine seta_inst (G1 := [(dd, .dict [] 0), (x, .inst 137 dx)]) T.ok (cls137 T) (tk_rdy T) (by first | walk_at "h" | simp) (by simp [aset]) ?_
    walk_at "M"
    refine seta_inst (G1 := [(dd, .dict [] 0), (x, .inst 137 dx)]) T.ok (cls137 T) (tk_out T) (by first | walk_at "h" | simp) (by simp [aset_length]; (repeat' split) <;> walk_at "q") ?_
    walk_at "M"
    refine seta_inst (G1 := [(dd, .dict [] 0), (x, .inst 137 dx)]) T.ok (cls137 T) (tk_fin T) (by first | walk_at "h" | simp) (by simp [aset_length]; (repeat' split) <;> walk_at "q") ?_
    walk_at "M"
    refine op_isNotNone (by intro n e; cases e) ?_
    walk_at "M"
    first | refine ite_f (by simp [D.isNone]) ?_ | rw [if_neg (by simp [D.isNone])]
    walk_at "M"
    refine ⟨[], (⟨x, dx, dd, 0, [], none, 0, 0⟩ : So).led, perm_cnt fun p => ?_, rfl, dd, rfl⟩
    have e : aset "_nfinished" (.int 0) (aset "_npassedout" (.int 0) (aset "_ready_nodes" .none (aset "_node2info" (.ref dd) []))) = (⟨x, dx, dd, 0, [], none, 0, 0⟩ : So).at := by with_unfolding_all rfl
    rw [e]
    simp only [So.led, rdyLed, ndsLed_nil, ents, List.map_nil, cnt_cons, cnt_append, cnt_app, cnt_nil]
    walk_at "q"
theorem ac_new {n : Nat} (T : Top c) (hR : Rm (n + 2) A) :
    AC c A (.ref 137) [] [] (fun d G' => ∃ x dx dd, d = .ref x ∧ G' = (⟨x, dx, dd, 0, [], none, 0, 0⟩ : So).led) (fun _ _ _ => False) := by
  refine ac_make T.ok hR (by rw [T.K]; with_unfolding_all rfl) (fI := 73) (by rw [T.K]; with_unfolding_all rfl) (by rw [T.K]; with_unfolding_all rfl) fun x dx A' hR' => ?_
  exact (ac_init0 T hR' x dx).mono (fun d G ⟨h1, dd, h2⟩ => ⟨h1, x, dx, dd, rfl, h2⟩) (fun _ _ _ z => z)
end
theorem ints_rels {w : Wd} : ∀ {vs : List Value} {ns : List Int}, IntsAre vs ns → Rels w (ns.map .int) vs
  | vs, [], h => by cases h.nil_inv; exact .nil
  | vs, n :: ns, h => by
    refine e2a2 h.cons_inv fun t vs' zq249 h' => ?_
    subst zq249
    exact .cons (by simp [Rel]) (ints_rels h')
theorem glue (h : ∀ c : Cx, Top c → ∀ A, Rm 100 A → ∀ ns : List Int, ns.length ≤ 63 → AC c A (.ref 180) [.list (ns.map .int)] [] (fun d _ => d = .bool true) (fun _ _ _ => False)) : PySem.Challenge.rw_dv0014_01.Holds := hd (by
  intro w s₀ s₁ mg mb G Y fa o pm cd doc dV kV ho hd' hcd hD hmg hg args vals as hpre hlay hrd hwl hlo
  have KX := kIn_of Y
  have T := G.T
  have e := mg_of KX T.g (n := "law") (v := .ref 180) (by with_unfolding_all rfl)
  rw [e] at hmg
  cases hmg
  clear hd' hcd hD dV kV ho e
  wrow_args hpre hlay hrd hwl hlo
  rename_i ns _ _ _ _ _ _ _ a vs _ hL _ hW _ hI _ hcond _
  let c : Cx := ⟨PySem.Challenge.pw_dv0014_01, w, s₁.heap, KF w.params, s₁.os⟩
  have Tc : Mine.Top c := by
    refine ⟨⟨KX, ⟨mg, T.g⟩, ⟨mb, T.b, T.builtins⟩, T.nolimit⟩, rfl, "CycleError", mg, ?_⟩
    exact own_of_in KX (topRead_of T) (by with_unfolding_all rfl) (by with_unfolding_all rfl)
  have hR : Rm 100 callerA := ⟨by show 1 + claimMargin + 100 ≤ 900; decide, by show 4 + 10 * 100 ≤ 9000; decide, rfl, rfl⟩
  have S0 : Sim c [] (fun a => s₁.heap.get? a) ([] ++ []) s₁ := ⟨fun _ _ e => e, fun _ _ e => e, by simp, by simp, fun _ he => by simp at he, hg, rfl⟩
  have hr : Rels (fun a => s₁.heap.get? a) [.list (ns.map .int)] [.ref a] := by
    refine .one ?_
    simp only [Rel]
    refine e1a3 hL ?_
    try clear hL
    intro o h1 h2 zq250
    obtain ⟨n, h3⟩ := zq250
    cases hW with
    | list g _ =>
      rw [h1] at g
      obtain rfl := Option.some.inj g
      simp only [Data.seq.injEq] at h3
      exact ⟨a, vs.toArray, 0, rfl, by rw [h1, ← h3.1], ints_rels hI⟩
  refine wpAny_call (codeAny_mono (h c Tc callerA hR ns (by walk_at "o") _ (.ref 180) [.ref a] (by simp [Rel]) hr [] rfl _ [] s₁ (.refl _) S0) fun r s' z => ?_)
  rcases r with e | (_ | _ | _ | v)
  · obtain ⟨w', x, k, as, G', h1, h2, h3, h4, h5⟩ := z
    exact h5.elim
  · exact z.elim
  · exact z.elim
  · exact z.elim
  · obtain ⟨w', b, G', h1, h2, h3, rfl⟩ := z
    simp only [Rel] at h2
    subst h2
    refine GoodW.toG ⟨.inl ⟨_, .bool true, [], rfl, ?_, ?_, ?_, ?_⟩, fun b o e => h3.wok _ _ (h1 _ _ e), h3.os, h3.gens⟩
    · intro cls; rfl
    · exact .bool _
    · show (WShape.has [] (WData.bool true) .bool && (WTm.eq .res (.lit (.bool true))).holds [] { args := [ofPy (.list (ns.map .int))], res := some (.bool true), after := [ofPy (.list (ns.map .int))] }) = true
      have h1 : ∀ R : WRecords, WShape.has R (WData.bool true) .bool = true := fun R => by with_unfolding_all rfl
      have h2 : ∀ (R : WRecords) (e : WCtx), e.res = some (.bool true) → (WTm.eq .res (.lit (.bool true))).holds R e = true := fun R e he => by
        simp [WTm.holds, WTm.value, he, same]
      rw [h1, h2 _ _ rfl]; rfl
    · intro _; exact ⟨.nil, by simp⟩)
set_option genInjectivity false in
structure LS where
  row : List Key
  st : List (Key × Key)
  out : List Key
  gone : List Key
noncomputable def preds (st : List (Key × Key)) (x : Key) : List Key := (st.filter fun p => decide (p.2 = x)).map (·.1)
noncomputable def succs (st : List (Key × Key)) (a : Key) : List Key := (st.filter fun p => decide (p.1 = a)).map (·.2)
noncomputable def leftN (s : LS) (x : Key) : Nat := ((preds s.st x).filter fun a => decide (a ∉ s.gone)).length
noncomputable def npOf (s : LS) (x : Key) : Int := if x ∈ s.gone then -2 else if x ∈ s.out then -1 else (leftN s x : Int)
noncomputable def rowP (row : List Key) (f : Key → Int) (g : Key → List Key) : PN := row.map fun x => (x, f x, g x)
noncomputable def mkL (s : LS) : PN := rowP s.row (npOf s) (succs s.st)
theorem rowP_congr {row : List Key} {f f' : Key → Int} {g g' : Key → List Key} (h : ∀ x ∈ row, f x = f' x ∧ g x = g' x) : rowP row f g = rowP row f' g' :=
  List.map_congr_left fun x hx => by rw [(h x hx).1, (h x hx).2]
theorem upP_row {row : List Key} {f : Key → Int} {g : Key → List Key} {k : Key} {f' : Int → Int} {g' : List Key → List Key} :
    upP k f' g' (rowP row f g) = rowP row (fun x => if x = k then f' (f x) else f x) (fun x => if x = k then g' (g x) else g x) := by
  unfold upP rowP
  rw [List.map_map]
  refine List.map_congr_left fun x _ => ?_
  show (if x = k then (x, f' (f x), g' (g x)) else (x, f x, g x)) = (x, (if x = k then f' (f x) else f x), (if x = k then g' (g x) else g x))
  split <;> rfl
theorem look_row {f : Key → Int} {g : Key → List Key} {k : Key} : ∀ {row : List Key}, look k (rowP row f g) = if k ∈ row then some (f k, g k) else none
  | [] => rfl
  | x :: r => by
    have ih := look_row (f := f) (g := g) (k := k) (row := r)
    unfold look rowP at ih ⊢
    rw [List.map_cons, List.find?_cons]
    by_cases q : x = k
    · subst q; simp
    · have q' : ¬ k = x := fun e => q e.symm
      simp only [q, decide_false, List.mem_cons, q', false_or]
      exact ih
theorem touch_row {row : List Key} {f : Key → Int} {g : Key → List Key} {k : Key} (h : k ∉ row → f k = 0 ∧ g k = []) : touchP k (rowP row f g) = rowP (if k ∈ row then row else row ++ [k]) f g := by
  unfold touchP
  have e : ((rowP row f g).any fun e => decide (e.1 = k)) = decide (k ∈ row) := by
    rw [Bool.eq_iff_iff]; simp [rowP]
  rw [e]
  by_cases q : k ∈ row
  · rw [if_pos (by simpa using q), if_pos q]
  · rw [if_neg (by simpa using q), if_neg q]
    unfold rowP
    rw [List.map_append, List.map_cons, (h q).1, (h q).2]; rfl
noncomputable def newR : List Key → List Key → List Key
  | row, [] => row
  | row, x :: r => newR (if x ∈ row then row else row ++ [x]) r
theorem mem_newR {x : Key} : ∀ {ks row : List Key}, x ∈ newR row ks ↔ x ∈ row ∨ x ∈ ks
  | [], row => by simp [newR]
  | y :: r, row => by
    unfold newR
    rw [mem_newR (ks := r)]
    by_cases q : y ∈ row
    · rw [if_pos q, List.mem_cons]
      exact ⟨fun h => h.elim .inl fun h => .inr (.inr h), fun h => h.elim .inl fun h => h.elim (fun e => .inl (e ▸ q)) .inr⟩
    · rw [if_neg q]; simp only [List.mem_append, List.mem_cons, List.not_mem_nil, or_false, or_assoc]
theorem newR_nodup : ∀ {ks row : List Key}, row.Nodup → (newR row ks).Nodup
  | [], row, h => h
  | y :: r, row, h => by
    unfold newR
    refine newR_nodup (ks := r) ?_
    split
    · exact h
    · rename_i q
      rw [List.nodup_append]
      exact ⟨h, by simp, fun a ha b hb e => q (by simp at hb; rw [← hb, ← e]; exact ha)⟩
theorem newR_snoc {x : Key} : ∀ {ks row : List Key}, newR row (ks ++ [x]) = if x ∈ newR row ks then newR row ks else newR row ks ++ [x]
  | [], row => rfl
  | y :: r, row => by
    show newR _ (r ++ [x]) = _
    rw [newR_snoc (ks := r)]; rfl
noncomputable def freshL (row ks : List Key) (n : Nat) : List Key := ((List.range n).filter fun i => !decide (ks.getD i (.int 0) ∈ row ++ ks.take i)).map fun i => ks.getD i (.int 0)
theorem fresh_row {row ks : List Key} : ∀ n, n ≤ ks.length → row ++ freshL row ks n = newR row (ks.take n)
  | 0, _ => by simp [freshL, newR]
  | n + 1, h => by
    have ih := fresh_row (row := row) (ks := ks) n (by (first | lia | omega))
    have hx : ks[n]? = some (ks.getD n (.int 0)) := by simp [List.getD, List.getElem?_eq_getElem (show n < ks.length by (first | lia | omega))]
    rw [List.take_add_one, hx]
    show _ = newR row (ks.take n ++ [_])
    rw [newR_snoc, ← ih]
    unfold freshL at ih ⊢
    rw [List.range_succ, List.filter_append, List.map_append]
    have hm : (ks.getD n (.int 0) ∈ row ++ ks.take n) ↔ ks.getD n (.int 0) ∈ row ++ (((List.range n).filter fun i => !decide (ks.getD i (.int 0) ∈ row ++ ks.take i)).map fun i => ks.getD i (.int 0)) := by
      rw [ih, mem_newR, List.mem_append]
    by_cases q : ks.getD n (.int 0) ∈ row ++ ks.take n
    · rw [if_pos (hm.mp q), List.filter_cons_of_neg (by rw [decide_eq_true q]; decide)]; simp
    · rw [if_neg (fun z => q (hm.mpr z)), List.filter_cons_of_pos (by rw [decide_eq_false q]; rfl)]; simp
structure LOk (s : LS) : Prop where
  row : s.row.Nodup
  st : ∀ p ∈ s.st, p.1 ∈ s.row ∧ p.2 ∈ s.row
  out : ∀ x ∈ s.out, x ∈ s.row
  gone : ∀ x ∈ s.gone, x ∈ s.out
  gnd : s.gone.Nodup
  ond : s.out.Nodup
  free : ∀ x ∈ s.out, ∀ a ∈ preds s.st x, a ∈ s.gone
theorem mem_preds {st : List (Key × Key)} {x a : Key} : a ∈ preds st x ↔ (a, x) ∈ st := by
  unfold preds
  rw [List.mem_map]
  constructor
  · intro zr14
    refine e1a2 zr14 ?_
    try clear zr14
    intro zq251 h zq252
    obtain ⟨u, v⟩ := zq251
    subst zq252
    refine e0a2 (List.mem_filter.mp h) fun h1 h2 => ?_
    have : v = x := by simpa using h2
    exact this ▸ h1
  · intro h; exact ⟨(a, x), List.mem_filter.mpr ⟨h, by simp⟩, rfl⟩
theorem mem_succs {st : List (Key × Key)} {x a : Key} : x ∈ succs st a ↔ (a, x) ∈ st := by
  unfold succs
  rw [List.mem_map]
  constructor
  · intro zr15
    refine e1a2 zr15 ?_
    try clear zr15
    intro zq253 h zq254
    obtain ⟨u, v⟩ := zq253
    subst zq254
    refine e0a2 (List.mem_filter.mp h) fun h1 h2 => ?_
    have : u = a := by simpa using h2
    exact this ▸ h1
  · intro h; exact ⟨(a, x), List.mem_filter.mpr ⟨h, by simp⟩, rfl⟩
theorem fold_add {k : Key} {f : Key → Int} : ∀ {ps row : List Key} {g : Key → List Key}, (∀ x, x ∉ row → f x = 0 ∧ g x = []) →
    ps.foldl (fun l p => upP p id (· ++ [k]) (touchP p l)) (rowP row f g) = rowP (newR row ps) f (fun x => g x ++ (ps.filter fun p => decide (p = x)).map fun _ => k)
  | [], row, g, h => by simp [newR]
  | p :: ps, row, g, h => by
    rw [List.foldl_cons, touch_row (h p), upP_row]
    rw [show rowP (if p ∈ row then row else row ++ [p]) (fun x => if x = p then id (f x) else f x) (fun x => if x = p then g x ++ [k] else g x) = rowP (if p ∈ row then row else row ++ [p]) f (fun x => if x = p then g x ++ [k] else g x) from rowP_congr fun x _ => ⟨by split <;> rfl, rfl⟩]
    rw [fold_add (ps := ps)]
    · refine rowP_congr fun x _ => ⟨rfl, ?_⟩
      by_cases q : x = p
      · subst q; simp
      · have q' : ¬ p = x := fun e => q e.symm
        simp [q, q']
    · intro x hx
      have hxp : x ≠ p ∧ x ∉ row := by
        split at hx
        · rename_i q; exact ⟨fun e => hx (e ▸ q), hx⟩
        · exact ⟨fun e => hx (by simp [e]), fun z => hx (List.mem_append_left _ z)⟩
      exact ⟨(h x hxp.2).1, by rw [if_neg hxp.1]; exact (h x hxp.2).2⟩
noncomputable def LS.add (s : LS) (k : Key) (ps : List Key) : LS := { s with row := newR s.row (k :: ps), st := s.st ++ ps.map fun p => (p, k) }
theorem LOk.add {s : LS} (h : LOk s) (k : Key) (ps : List Key) (ho : s.out = []) : LOk (s.add k ps) where
  row := newR_nodup h.row
  st := fun p hp => by
    show p.1 ∈ newR _ _ ∧ p.2 ∈ newR _ _
    rw [mem_newR, mem_newR]
    rcases List.mem_append.mp hp with q | q
    · exact ⟨.inl (h.st p q).1, .inl (h.st p q).2⟩
    · refine e1a2 (List.mem_map.mp q) fun a ha zq255 => ?_
      subst zq255
      exact ⟨.inr (.tail _ ha), .inr (.head _)⟩
  out := fun x hx => by rw [show (s.add k ps).out = s.out from rfl, ho] at hx; cases hx
  gone := h.gone
  gnd := h.gnd
  ond := h.ond
  free := fun x hx => by rw [show (s.add k ps).out = s.out from rfl, ho] at hx; cases hx
theorem preds_add {st : List (Key × Key)} {ps : List Key} {k x : Key} : preds (st ++ ps.map fun p => (p, k)) x = preds st x ++ if x = k then ps else [] := by
  unfold preds
  rw [List.filter_append, List.map_append, List.filter_map, List.map_map]
  congr 1
  by_cases q : x = k
  · subst q
    rw [if_pos rfl, List.filter_eq_self.mpr (by simp)]
    exact (List.map_congr_left fun _ _ => rfl).trans (List.map_id ps)
  · have q' : ¬ k = x := fun e => q e.symm
    rw [if_neg q, List.filter_eq_nil_iff.mpr (by simp [q'])]; rfl
theorem succs_add {st : List (Key × Key)} {ps : List Key} {k x : Key} : succs (st ++ ps.map fun p => (p, k)) x = succs st x ++ (ps.filter fun p => decide (p = x)).map fun _ => k := by
  unfold succs
  rw [List.filter_append, List.map_append, List.filter_map, List.map_map]
  rfl
theorem filt_all (l : List Key) : l.filter (fun a => decide (a ∉ ([] : List Key))) = l := List.filter_eq_self.mpr fun a _ => by simp
theorem add_mkL {s : LS} (h : LOk s) (k : Key) (ps : List Key) (ho : s.out = []) : addP k ps (mkL s) = mkL (s.add k ps) := by
  have hg : s.gone = [] := List.eq_nil_iff_forall_not_mem.mpr fun x hx => by have := h.gone x hx; rw [ho] at this; cases this
  have np : ∀ x, npOf s x = ((preds s.st x).length : Int) := fun x => by
    unfold npOf leftN; rw [hg, ho, if_neg (by simp), if_neg (by simp), filt_all]
  have np' : ∀ x, npOf (s.add k ps) x = ((preds (s.st ++ ps.map fun p => (p, k)) x).length : Int) := fun x => by
    unfold npOf leftN
    rw [show (s.add k ps).gone = s.gone from rfl, show (s.add k ps).out = s.out from rfl, hg, ho, if_neg (by simp), if_neg (by simp), filt_all]; rfl
  have off : ∀ x, x ∉ s.row → npOf s x = 0 ∧ succs s.st x = [] := fun x hx => by
    rw [np]
    refine ⟨?_, List.eq_nil_iff_forall_not_mem.mpr fun y hy => hx (h.st _ (mem_succs.mp hy)).1⟩
    rw [show preds s.st x = [] from List.eq_nil_iff_forall_not_mem.mpr fun y hy => hx (h.st _ (mem_preds.mp hy)).2]; rfl
  unfold addP mkL
  rw [touch_row (off k), upP_row, fold_add]
  · show rowP (newR s.row (k :: ps)) _ _ = rowP (newR s.row (k :: ps)) _ _
    refine rowP_congr fun x _ => ⟨?_, ?_⟩
    · rw [np', preds_add, np, List.length_append]
      split <;> simp
    · rw [show (s.add k ps).st = s.st ++ ps.map fun p => (p, k) from rfl, succs_add]
      congr 1
      split <;> rfl
  · intro x hx
    have hxk : x ≠ k ∧ x ∉ s.row := by
      split at hx
      · rename_i q; exact ⟨fun e => hx (e ▸ q), hx⟩
      · exact ⟨fun e => hx (by simp [e]), fun z => hx (List.mem_append_left _ z)⟩
    rw [if_neg hxk.1]
    refine ⟨(off x hxk.2).1, ?_⟩
    rw [if_neg hxk.1]; exact (off x hxk.2).2
noncomputable def zeros : (Key → Int) → List Key → List Key
  | _, [] => []
  | f, s :: r => (if f s - 1 = 0 then [s] else []) ++ zeros (fun x => if x = s then f x - 1 else f x) r
noncomputable def lastOcc : List Key → List Key
  | [] => []
  | x :: r => if x ∈ r then lastOcc r else x :: lastOcc r
theorem mem_lastOcc {x : Key} : ∀ {l : List Key}, x ∈ lastOcc l ↔ x ∈ l
  | [] => Iff.rfl
  | y :: r => by
    unfold lastOcc
    split
    · rename_i q
      rw [mem_lastOcc (l := r), List.mem_cons]
      exact ⟨.inr, fun h => h.elim (fun e => e ▸ q) id⟩
    · rw [List.mem_cons, List.mem_cons, mem_lastOcc (l := r)]
theorem zeros_eq : ∀ {su : List Key} {f : Key → Int}, (∀ x ∈ su, (su.count x : Int) ≤ f x) → zeros f su = (lastOcc su).filter fun x => decide (f x = su.count x)
  | [], f, h => rfl
  | s :: r, f, h => by
    have cs : ∀ x, ((s :: r).count x : Int) = r.count x + if x = s then 1 else 0 := fun x => by
      rw [List.count_cons]
      by_cases q : s = x
      · subst q; simp
      · have q' : ¬ x = s := fun e => q e.symm
        simp [q, q']
    have h' : ∀ x ∈ r, (r.count x : Int) ≤ (fun x => if x = s then f x - 1 else f x) x := fun x hx => by
      have := h x (.tail _ hx)
      rw [cs] at this
      dsimp only
      split at this
      · rename_i q; rw [if_pos q]; (first | lia | omega)
      · rename_i q; rw [if_neg q]; (first | lia | omega)
    have ih := zeros_eq h'
    have same : (lastOcc r).filter (fun x => decide ((fun x => if x = s then f x - 1 else f x) x = (r.count x : Int))) = (lastOcc r).filter fun x => decide (f x = ((s :: r).count x : Int)) := by
      refine List.filter_congr fun x _ => ?_
      rw [decide_eq_decide, cs]
      dsimp only
      split <;> (first | lia | omega)
    unfold zeros lastOcc
    rw [ih, same]
    have hs := h s (.head _)
    rw [cs, if_pos rfl] at hs
    by_cases q : s ∈ r
    · have : 1 ≤ r.count s := List.one_le_count_iff.mpr q
      rw [if_neg (by (first | lia | omega)), if_pos q]; rfl
    · rw [if_neg q]
      have c0 : r.count s = 0 := List.count_eq_zero.mpr q
      have c1 := cs s
      rw [if_pos rfl, c0] at c1
      by_cases z : f s - 1 = 0
      · rw [if_pos z, List.filter_cons_of_pos (by rw [c1]; simp; (first | lia | omega))]; rfl
      · rw [if_neg z, List.filter_cons_of_neg (by rw [c1]; simp; (first | lia | omega))]; rfl
theorem step_row {row : List Key} {f : Key → Int} {g : Key → List Key} {rl : List Key} {s : Key} (hs : s ∈ row) :
    stepP s (rowP row f g, rl) = (rowP row (fun x => if x = s then f x - 1 else f x) g, rl ++ if f s - 1 = 0 then [s] else []) := by
  unfold stepP
  dsimp only
  rw [upP_row, look_row, if_pos hs, if_pos rfl, rowP_congr (f := fun x => if x = s then f x - 1 else f x) (f' := fun x => if x = s then f x - 1 else f x) (g' := g) fun x _ => ⟨rfl, by split <;> rfl⟩]
  refine Prod.ext rfl ?_
  dsimp only
  generalize f s - 1 = z
  by_cases q : z = 0
  · subst q
    show rl ++ [s] = rl ++ _
    rw [if_pos rfl]
  · rw [if_neg q, List.append_nil]
    split
    · rename_i u e
      cases e; exact absurd rfl q
    · rfl
theorem steps_row {row : List Key} {g : Key → List Key} : ∀ {su : List Key} {f : Key → Int} {rl : List Key}, (∀ s ∈ su, s ∈ row) →
    su.foldl (fun st s => stepP s st) (rowP row f g, rl) = (rowP row (fun x => f x - su.count x) g, rl ++ zeros f su)
  | [], f, rl, h => by
    exact Prod.ext (rowP_congr fun x _ => ⟨by simp, rfl⟩) (List.append_nil rl).symm
  | s :: r, f, rl, h => by
    rw [List.foldl_cons, step_row (h s (.head _)), steps_row (fun x hx => h x (.tail _ hx))]
    refine Prod.ext ?_ (List.append_assoc rl _ _)
    refine rowP_congr fun x _ => ⟨?_, rfl⟩
    rw [List.count_cons]
    by_cases q : s = x
    · subst q; simp; (first | lia | omega)
    · have q' : ¬ x = s := fun e => q e.symm
      simp [q, q']
noncomputable def LS.fin (s : LS) (k : Key) : LS := { s with gone := s.gone ++ [k] }
noncomputable def newly (s : LS) (k : Key) : List Key := (lastOcc (succs s.st k)).filter fun x => decide (leftN s x = (succs s.st k).count x)
theorem count_succs (st : List (Key × Key)) (k x : Key) : (succs st k).count x = (preds st x).count k := by
  induction st with
  | nil => rfl
  | cons p st ih =>
    unfold succs preds at ih ⊢
    rw [List.filter_cons, List.filter_cons]
    obtain ⟨a, b⟩ := p
    by_cases q : a = k
    · by_cases r : b = x
      · subst q r; simp [ih]
      · simp [q, r, ih]
    · by_cases r : b = x
      · simp [q, r, ih]
      · simp [q, r, ih]
theorem leftN_fin {s : LS} {k x : Key} (hk : k ∉ s.gone) : leftN s x = leftN (s.fin k) x + (succs s.st k).count x := by
  rw [count_succs]
  unfold leftN
  rw [show (s.fin k).st = s.st from rfl, show (s.fin k).gone = s.gone ++ [k] from rfl]
  generalize preds s.st x = l
  induction l with
  | nil => rfl
  | cons a l ih =>
    rw [List.filter_cons, List.filter_cons, List.count_cons]
    by_cases q : a = k
    · subst q
      rw [if_pos (by simpa using hk), if_neg (by simp), if_pos (by simp), List.length_cons, ih]; (first | lia | omega)
    · by_cases r : a ∈ s.gone
      · rw [if_neg (by simpa using r), if_neg (by simp [r]), if_neg (by simpa using q), ih]; (first | lia | omega)
      · rw [if_pos (by simpa using r), if_pos (by simp [r, q]), if_neg (by simpa using q), List.length_cons, List.length_cons, ih]; (first | lia | omega)
theorem LOk.fin {s : LS} (h : LOk s) {k : Key} (ho : k ∈ s.out) (hk : k ∉ s.gone) : LOk (s.fin k) where
  row := h.row
  st := h.st
  out := h.out
  gone := fun x hx => by
    rcases List.mem_append.mp hx with q | q
    · exact h.gone x q
    · simp at q; exact q ▸ ho
  gnd := by
    show (s.gone ++ [k]).Nodup
    rw [List.nodup_append]
    exact ⟨h.gnd, by simp, fun a ha b hb e => hk (by simp at hb; rw [← hb, ← e]; exact ha)⟩
  ond := h.ond
  free := fun x hx a ha => List.mem_append_left _ (h.free x hx a ha)
theorem done1_mkL {s : LS} (h : LOk s) {k : Key} (ho : k ∈ s.out) (hk : k ∉ s.gone) (rl : List Key) : done1 k (succs s.st k) (mkL s, rl) = (mkL (s.fin k), rl ++ newly s k) := by
  have off : ∀ x ∈ succs s.st k, x ∉ s.out := fun x hx z => hk (h.free x z k (mem_preds.mpr (mem_succs.mp hx)))
  have offk : k ∉ succs s.st k := fun z => off k z ho
  unfold done1 mkL
  dsimp only
  rw [upP_row, steps_row (fun x hx => (h.st _ (mem_succs.mp hx)).2)]
  have fx : ∀ x ∈ succs s.st k, (if x = k then (-2 : Int) else npOf s x) = leftN s x := fun x hx => by
    rw [if_neg (fun e => offk (Eq.subst (motive := fun z => z ∈ succs s.st k) e hx))]
    unfold npOf
    rw [if_neg (fun z => off x hx (h.gone x z)), if_neg (off x hx)]
  refine Prod.ext ?_ ?_
  · refine rowP_congr fun x hx => ⟨?_, by split <;> rfl⟩
    by_cases q : x = k
    · subst q
      rw [if_pos rfl, List.count_eq_zero.mpr offk]
      unfold npOf
      rw [if_pos (by simp [LS.fin])]; rfl
    · rw [if_neg q]
      unfold npOf
      by_cases g : x ∈ s.gone
      · rw [if_pos g, if_pos (show x ∈ (s.fin k).gone from List.mem_append_left _ g), List.count_eq_zero.mpr fun z => off x z (h.gone x g)]; rfl
      · rw [if_neg g, if_neg (show x ∉ (s.fin k).gone from fun z => by
          rcases List.mem_append.mp z with z | z
          · exact g z
          · simp at z; exact q z)]
        by_cases o : x ∈ s.out
        · rw [if_pos o, if_pos (show x ∈ (s.fin k).out from o), List.count_eq_zero.mpr fun z => off x z o]; rfl
        · rw [if_neg o, if_neg (show x ∉ (s.fin k).out from o), leftN_fin hk]; (first | lia | omega)
  · dsimp only
    congr 1
    rw [zeros_eq (fun x hx => by rw [fx x hx, leftN_fin hk]; (first | lia | omega))]
    refine List.filter_congr fun x hx => ?_
    rw [fx x (mem_lastOcc.mp hx), decide_eq_decide]; (first | lia | omega)
noncomputable def lawDone (row out : List Key) : List Key → List Key → List Key × Option Str
  | [], gone => (gone, none)
  | x :: xs, gone => if x ∉ row then (gone, some (msg x " was not added using add()"))
    else if x ∈ gone then (gone, some (msg x " was already marked done"))
    else if x ∉ out then (gone, some (msg x " was not passed out (still not ready)"))
    else lawDone row out xs (gone ++ [x])
theorem doneP_mkL (P : LS → List Key → Prop) (hP : ∀ s rl k, LOk s → P s rl → k ∈ s.out → k ∉ s.gone → P (s.fin k) (rl ++ newly s k)) : ∀ (ks : List Key) (s : LS) (rl : List Key), LOk s → P s rl → ∃ rl' m,
    doneP ks (mkL s, rl) = some ((mkL { s with gone := (lawDone s.row s.out ks s.gone).1 }, rl'), m, (lawDone s.row s.out ks s.gone).2) ∧ (lawDone s.row s.out ks s.gone).1.length = s.gone.length + m ∧
    LOk { s with gone := (lawDone s.row s.out ks s.gone).1 } ∧ P { s with gone := (lawDone s.row s.out ks s.gone).1 } rl'
  | [], s, rl, h, p => ⟨rl, 0, rfl, rfl, h, p⟩
  | k :: ks, s, rl, h, p => by
    have hl : look k (mkL s) = if k ∈ s.row then some (npOf s k, succs s.st k) else none := look_row
    unfold doneP
    rw [hl]
    by_cases r : k ∈ s.row
    · rw [if_pos r]
      dsimp only
      by_cases g : k ∈ s.gone
      · have L : lawDone s.row s.out (k :: ks) s.gone = (s.gone, some (msg k " was already marked done")) := by unfold lawDone; rw [if_neg (fun z => z r), if_pos g]
        rw [L, show npOf s k = -2 from if_pos g]
        exact ⟨rl, 0, rfl, rfl, h, p⟩
      · by_cases o : k ∈ s.out
        · have L : lawDone s.row s.out (k :: ks) s.gone = lawDone s.row s.out ks (s.fin k).gone := by rw [lawDone, if_neg (fun z => z r), if_neg g, if_neg (fun z => z o)]; rfl
          rw [L, show npOf s k = -1 from by unfold npOf; rw [if_neg g, if_pos o]]
          refine e2a4 (doneP_mkL P hP ks (s.fin k) (rl ++ newly s k) (h.fin o g) (hP s rl k h p o g)) fun rl' m e1 e2 e3 e4 => ?_
          refine ⟨rl', m + 1, ?_, ?_, e3, e4⟩
          · rw [if_neg (by decide), if_neg (by decide), if_pos rfl, done1_mkL h o g, e1]; rfl
          · have : (s.fin k).gone.length = s.gone.length + 1 := by simp [LS.fin]
            rw [this] at e2
            exact e2.trans (by (first | lia | omega))
        · have L : lawDone s.row s.out (k :: ks) s.gone = (s.gone, some (msg k " was not passed out (still not ready)")) := by unfold lawDone; rw [if_neg (fun z => z r), if_neg g, if_pos o]
          rw [L, show npOf s k = (leftN s k : Int) from by unfold npOf; rw [if_neg g, if_neg o], if_pos (by (first | lia | omega))]
          exact ⟨rl, 0, rfl, rfl, h, p⟩
    · have L : lawDone s.row s.out (k :: ks) s.gone = (s.gone, some (msg k " was not added using add()")) := by unfold lawDone; rw [if_pos r]
      rw [L, if_neg r]
      exact ⟨rl, 0, rfl, rfl, h, p⟩
noncomputable def mxi : List (Key × Key) → Key × Key → Nat
  | [], _ => 0
  | s :: r, p => if p ∈ r then mxi r p + 1 else 0
theorem mxi_at : ∀ {st : List (Key × Key)} {p : Key × Key}, p ∈ st → st[mxi st p]? = some p ∧ ∀ k : Nat, st[k]? = some p → k ≤ mxi st p
  | s :: r, p, h => by
    unfold mxi
    by_cases q : p ∈ r
    · refine e0a2 (mxi_at q) fun h1 h2 => ?_
      rw [if_pos q]
      refine ⟨by simpa using h1, fun k hk => ?_⟩
      cases k with
      | zero => exact Nat.zero_le _
      | succ k => exact Nat.succ_le_succ (h2 k (by simpa using hk))
    · rw [if_neg q]
      rcases List.mem_cons.mp h with e | e
      · refine ⟨by rw [e]; rfl, fun k hk => ?_⟩
        cases k with
        | zero => exact Nat.le_refl _
        | succ k => exact absurd (List.mem_of_getElem? (show r[k]? = some p by simpa using hk)) q
      · exact absurd e q
theorem lastOcc_ord {k : Key} : ∀ (st : List (Key × Key)), (lastOcc (succs st k)).Pairwise fun x y => mxi st (k, x) < mxi st (k, y)
  | [] => .nil
  | (a, b) :: r => by
    have ih := lastOcc_ord (k := k) r
    have up : (lastOcc (succs r k)).Pairwise fun x y => mxi ((a, b) :: r) (k, x) < mxi ((a, b) :: r) (k, y) := by
      refine ih.imp_of_mem fun {x y} hx hy hlt => ?_
      rw [mem_lastOcc, mem_succs] at hx hy
      unfold mxi
      rw [if_pos hx, if_pos hy]; (first | lia | omega)
    by_cases q : a = k
    · subst q
      have e : succs ((a, b) :: r) a = b :: succs r a := by unfold succs; rw [List.filter_cons_of_pos (by simp)]; rfl
      rw [e]
      unfold lastOcc
      split
      · exact up
      · rename_i hb
        refine List.pairwise_cons.mpr ⟨fun y hy => ?_, up⟩
        rw [mem_lastOcc, mem_succs] at hy
        rw [mem_succs] at hb
        unfold mxi
        rw [if_neg hb, if_pos hy]; (first | lia | omega)
    · have e : succs ((a, b) :: r) k = succs r k := by unfold succs; rw [List.filter_cons_of_neg (by simpa using q)]
      rw [e]; exact up
noncomputable def IsRank (s : LS) (t : Tri) : Prop := (preds s.st t.2.2 = [] ∧ t.1 = -1 ∧ t.2.1 = (s.row.idxOf t.2.2 : Nat)) ∨
  (preds s.st t.2.2 ≠ [] ∧ ∃ L M : Nat, ∃ g : Key, t.1 = (L : Int) ∧ t.2.1 = (M : Int) ∧ s.gone[L]? = some g ∧ g ∈ preds s.st t.2.2 ∧ (∀ a ∈ preds s.st t.2.2, s.gone.idxOf a ≤ L) ∧ s.st[M]? = some (g, t.2.2) ∧ ∀ k : Nat, s.st[k]? = some (g, t.2.2) → k ≤ M)
noncomputable def Tlt (t u : Tri) : Prop := t.1 < u.1 ∨ t.1 = u.1 ∧ t.2.1 < u.2.1
noncomputable def Rdy (s : LS) (x : Key) : Prop := x ∈ s.row ∧ x ∉ s.out ∧ ∀ a ∈ preds s.st x, a ∈ s.gone
structure RdyOk (s : LS) (rl : List Key) : Prop where
  mem : ∀ x, x ∈ rl ↔ Rdy s x
  ord : ∃ ts : List Tri, ts.map (·.2.2) = rl ∧ (∀ t ∈ ts, IsRank s t) ∧ ts.Pairwise Tlt
theorem nodup_idx {g : Key} {l : List Key} {L : Nat} (h : l.Nodup) (hg : l[L]? = some g) : l.idxOf g = L := by
  obtain ⟨hl, e⟩ := List.getElem?_eq_some_iff.mp hg
  subst e
  exact h.idxOf_getElem L hl
theorem IsRank.one {s : LS} (h : LOk s) {t u : Tri} (a : IsRank s t) (b : IsRank s u) (e : t.2.2 = u.2.2) : t = u := by
  obtain ⟨t1, t2, x⟩ := t
  obtain ⟨u1, u2, y⟩ := u
  dsimp only at e
  subst e
  rcases a with ⟨p1, p2, p3⟩ | ⟨p1, L, M, g, p2, p3, p4, p5, p6, p7, p8⟩
  · rcases b with ⟨q1, q2, q3⟩ | ⟨q1, _⟩
    · dsimp only at p2 p3 q2 q3
      rw [p2, p3, q2, q3]
    · exact absurd p1 q1
  · rcases b with ⟨q1, q2, q3⟩ | ⟨q1, L', M', g', q2, q3, q4, q5, q6, q7, q8⟩
    · exact absurd q1 p1
    · dsimp only at *
      have i1 := nodup_idx h.gnd p4
      have i2 := nodup_idx h.gnd q4
      have l1 := q6 g p5
      have l2 := p6 g' q5
      have eL : L = L' := by (first | lia | omega)
      subst eL
      rw [p4] at q4
      cases q4
      have m1 := q8 M p7
      have m2 := p8 M' q7
      rw [p2, p3, q2, q3, show M = M' by (first | lia | omega)]
theorem Tlt.kle {t u : Tri} (h : Tlt t u) : ord2.kle (kT t) (kT u) := by
  unfold KeyOrd.kle
  show ((decide (u.1 < t.1)) || (!(decide (t.1 < u.1)) && decide (u.2.1 < t.2.1))) = false
  unfold Tlt at h
  rw [Bool.or_eq_false_iff, Bool.and_eq_false_iff]
  refine ⟨by simp; (first | lia | omega), ?_⟩
  rcases h with h | ⟨h1, h2⟩
  · left; simp; (first | lia | omega)
  · right; simp; (first | lia | omega)
theorem rank_inj {s : LS} (h : LOk s) {ts : List Tri} (hr : ∀ t ∈ ts, IsRank s t ∧ t.2.2 ∈ s.row) : ∀ a ∈ ts, ∀ b ∈ ts, kT a = kT b → a = b := by
  intro a ha b hb e
  refine e0a2 (hr a ha) fun ra wa => ?_
  refine e0a2 (hr b hb) fun rb wb => ?_
  have e1 : a.1 = b.1 := congrArg (fun z : Int × Int => z.1) e
  have e2 : a.2.1 = b.2.1 := congrArg (fun z : Int × Int => z.2) e
  refine IsRank.one h ra rb ?_
  rcases ra with ⟨p1, p2, p3⟩ | ⟨p1, L, M, g, p2, p3, p4, p5, p6, p7, p8⟩
  · rcases rb with ⟨q1, q2, q3⟩ | ⟨q1, L', M', g', q2, q3, q4, q5, q6, q7, q8⟩
    · rw [p3, q3] at e2
      have : s.row.idxOf a.2.2 = s.row.idxOf b.2.2 := by (first | lia | omega)
      have ga := List.getElem_idxOf (List.idxOf_lt_length_iff.mpr wa)
      have gb := List.getElem_idxOf (List.idxOf_lt_length_iff.mpr wb)
      rw [← ga, ← gb]
      simp only [this]
    · (first | lia | omega)
  · rcases rb with ⟨q1, q2, q3⟩ | ⟨q1, L', M', g', q2, q3, q4, q5, q6, q7, q8⟩
    · (first | lia | omega)
    · have eM : M = M' := by (first | lia | omega)
      subst eM
      rw [p7] at q7
      exact congrArg (fun z : Key × Key => z.2) (Option.some.inj q7)
theorem ready_eq {s : LS} (h : LOk s) {rl : List Key} (R : RdyOk s rl) {ts : List Tri} (hx : ∀ t ∈ ts, IsRank s t) (hm : ts.map (·.2.2) = s.row.filter fun x => decide (x ∈ rl)) : (srt ord2 kT ts).map (·.2.2) = rl := by
  refine e1a3 R.ord fun us u1 u2 u3 => ?_
  have tm : ∀ t ∈ ts, t.2.2 ∈ s.row ∧ t.2.2 ∈ rl := fun t ht => by
    have : t.2.2 ∈ ts.map (·.2.2) := List.mem_map_of_mem ht
    rw [hm] at this
    have := List.mem_filter.mp this
    exact ⟨this.1, by simpa using this.2⟩
  have tnd : ts.Nodup := by
    have : (ts.map (·.2.2)).Nodup := by rw [hm]; exact h.row.filter _
    exact (List.pairwise_map.mp this).imp fun hne e => hne (by rw [e])
  have und : us.Nodup := u3.imp fun {a b} hlt e => by subst e; unfold Tlt at hlt; (first | lia | omega)
  have hp : us.Perm ts := by
    rw [List.perm_ext_iff_of_nodup und tnd]
    intro t
    constructor
    · intro ht
      have hr : t.2.2 ∈ rl := by rw [← u1]; exact List.mem_map_of_mem ht
      have : t.2.2 ∈ ts.map (·.2.2) := by rw [hm]; exact List.mem_filter.mpr ⟨((R.mem _).mp hr).1, by simpa using hr⟩
      refine e1a2 (List.mem_map.mp this) fun t' h1 h2 => ?_
      rw [IsRank.one h (u2 t ht) (hx t' h1) h2.symm]; exact h1
    · intro ht
      have hr := (tm t ht).2
      rw [← u1] at hr
      refine e1a2 (List.mem_map.mp hr) fun t' h1 h2 => ?_
      rw [IsRank.one h (hx t ht) (u2 t' h1) h2.symm]; exact h1
  rw [← srt_one (rank_inj h fun t ht => ⟨hx t ht, (tm t ht).1⟩) hp (u3.imp Tlt.kle), u1]
theorem leftN_zero {s : LS} {x : Key} : leftN s x = 0 ↔ ∀ a ∈ preds s.st x, a ∈ s.gone := by
  unfold leftN
  rw [List.length_eq_zero_iff, List.filter_eq_nil_iff]
  exact ⟨fun h a ha => Classical.not_not.mp fun q => h a ha (decide_eq_true q), fun h a ha q => of_decide_eq_true q (h a ha)⟩
theorem IsRank.fin {s : LS} {k : Key} {t : Tri} (h : IsRank s t) (hp : ∀ a ∈ preds s.st t.2.2, a ∈ s.gone) : IsRank (s.fin k) t := by
  rcases h with h | ⟨p1, L, M, g, p2, p3, p4, p5, p6, p7, p8⟩
  · exact .inl h
  · refine .inr ⟨p1, L, M, g, p2, p3, ?_, p5, fun a ha => ?_, p7, p8⟩
    · show (s.gone ++ [k])[L]? = some g
      rw [List.getElem?_append_left (List.getElem?_eq_some_iff.mp p4).1]; exact p4
    · show (s.gone ++ [k]).idxOf a ≤ L
      rw [List.idxOf_append, if_pos (hp a ha)]; exact p6 a ha
theorem RdyOk.done {s : LS} {rl : List Key} {k : Key} (h : LOk s) (R : RdyOk s rl) (ho : k ∈ s.out) (hk : k ∉ s.gone) : RdyOk (s.fin k) (rl ++ newly s k) where
  mem := fun x => by
    have hn : x ∈ newly s k ↔ (k, x) ∈ s.st ∧ leftN s x = (succs s.st k).count x := by
      unfold newly; rw [List.mem_filter, mem_lastOcc, mem_succs, decide_eq_true_iff]
    have hl := leftN_fin (s := s) (k := k) (x := x) hk
    have hz := leftN_zero (s := s.fin k) (x := x)
    rw [List.mem_append, R.mem, hn]
    constructor
    · rintro (⟨h1, h2, h3⟩ | ⟨h1, h2⟩)
      · exact ⟨h1, h2, fun a ha => List.mem_append_left _ (h3 a ha)⟩
      · exact ⟨(h.st _ h1).2, fun z => hk (h.free x z k (mem_preds.mpr h1)), hz.mp (by (first | lia | omega))⟩
    · intro zr16
      refine e0a3 zr16 ?_
      try clear zr16
      intro h1 h2 h3
      by_cases q : (k, x) ∈ s.st
      · exact .inr ⟨q, by have := hz.mpr h3; (first | lia | omega)⟩
      · refine .inl ⟨h1, h2, fun a ha => ?_⟩
        rcases List.mem_append.mp (h3 a ha) with z | z
        · exact z
        · simp at z; subst z; exact absurd (mem_preds.mp ha) q
  ord := by
    refine e1a3 R.ord fun ts t1 t2 t3 => ?_
    refine ⟨ts ++ (newly s k).map fun x => ((s.gone.length : Int), (mxi s.st (k, x) : Int), x), ?_, ?_, ?_⟩
    · rw [List.map_append, t1, List.map_map]
      congr 1
      exact (List.map_congr_left fun _ _ => rfl).trans (List.map_id _)
    · intro t ht
      rcases List.mem_append.mp ht with q | q
      · exact (t2 t q).fin ((R.mem t.2.2).mp (t1 ▸ List.mem_map_of_mem q)).2.2
      · refine e1a2 (List.mem_map.mp q) fun x hx zq256 => ?_
        subst zq256
        replace hx : (k, x) ∈ s.st ∧ leftN s x = (succs s.st k).count x := by
          unfold newly at hx
          rw [List.mem_filter, mem_lastOcc, mem_succs, decide_eq_true_iff] at hx
          exact hx
        have hp := mem_preds.mpr hx.1
        refine e0a2 (mxi_at hx.1) fun m1 m2 => ?_
        refine .inr ⟨(fun e => List.not_mem_nil (a := k) (by rw [← show preds (s.fin k).st x = [] from e]; exact hp)), s.gone.length, mxi s.st (k, x), k, rfl, rfl, ?_, hp, fun a ha => ?_, m1, m2⟩
        · show (s.gone ++ [k])[s.gone.length]? = some k
          simp
        · have hz := (leftN_zero (s := s.fin k) (x := x)).mp (by have := leftN_fin (s := s) (k := k) (x := x) hk; (first | lia | omega)) a ha
          have := List.idxOf_lt_length_iff.mpr hz
          rw [show (s.fin k).gone = s.gone ++ [k] from rfl] at this
          rw [List.length_append] at this
          exact Nat.le_of_lt_succ this
    · rw [List.pairwise_append]
      refine ⟨t3, ?_, ?_⟩
      · refine List.pairwise_map.mpr (((lastOcc_ord (k := k) s.st).filter _).imp fun {a b} hlt => .inr ⟨rfl, ?_⟩)
        exact Int.ofNat_lt.mpr hlt
      · intro t ht u hu
        refine e1a2 (List.mem_map.mp hu) fun x hx zq257 => ?_
        subst zq257
        left
        rcases t2 t ht with ⟨p1, p2, p3⟩ | ⟨p1, L, M, g, p2, p3, p4, _⟩
        · rw [p2]; show (-1 : Int) < s.gone.length; (first | lia | omega)
        · have := (List.getElem?_eq_some_iff.mp p4).1
          rw [p2]; exact Int.ofNat_lt.mpr this
theorem idx_ord {l : List Key} (h : l.Nodup) : l.Pairwise fun x y => l.idxOf x < l.idxOf y := by
  rw [List.pairwise_iff_getElem]
  intro i j hi hj hij
  rw [h.idxOf_getElem i hi, h.idxOf_getElem j hj]; exact hij
theorem gone_nil {s : LS} (h : LOk s) (ho : s.out = []) : s.gone = [] := List.eq_nil_iff_forall_not_mem.mpr fun x hx => by have := h.gone x hx; rw [ho] at this; cases this
theorem RdyOk.first {s : LS} (h : LOk s) (ho : s.out = []) : RdyOk s (ready0 (mkL s)) := by
  have hg := gone_nil h ho
  have e : ready0 (mkL s) = s.row.filter fun x => decide (preds s.st x = []) := by
    unfold ready0 mkL rowP
    rw [List.filter_map, List.map_map]
    rw [show ((fun x : Key × Int × List Key => x.1) ∘ fun x => (x, npOf s x, succs s.st x)) = id from rfl, List.map_id]
    refine List.filter_congr fun x _ => ?_
    show decide (npOf s x = 0) = _
    rw [decide_eq_decide]
    unfold npOf leftN
    rw [hg, ho, if_neg (by simp), if_neg (by simp), filt_all]
    exact ⟨fun z => List.length_eq_zero_iff.mp (by (first | lia | omega)), fun z => by rw [z]; rfl⟩
  rw [e]
  constructor
  · intro x
    unfold Rdy
    rw [List.mem_filter, decide_eq_true_iff, hg, ho]
    exact ⟨fun ⟨h1, h2⟩ => ⟨h1, by simp, (fun a ha => absurd (h2 ▸ ha) List.not_mem_nil)⟩, fun ⟨h1, _, h3⟩ => ⟨h1, List.eq_nil_iff_forall_not_mem.mpr fun a ha => absurd (h3 a ha) List.not_mem_nil⟩⟩
  · refine ⟨(s.row.filter fun x => decide (preds s.st x = [])).map fun x => ((-1 : Int), ((s.row.idxOf x : Nat) : Int), x), ?_, ?_, ?_⟩
    · rw [List.map_map]; exact (List.map_congr_left fun _ _ => rfl).trans (List.map_id _)
    · intro t ht
      refine e1a2 (List.mem_map.mp ht) fun x hx zq258 => ?_
      subst zq258
      exact .inl ⟨of_decide_eq_true (List.mem_filter.mp hx).2, rfl, rfl⟩
    · exact List.pairwise_map.mpr (((idx_ord h.row).filter _).imp fun {a b} hlt => .inr ⟨rfl, Int.ofNat_lt.mpr hlt⟩)
noncomputable def LS.give (s : LS) (rl : List Key) : LS := { s with out := s.out ++ rl }
theorem RdyOk.nodup {s : LS} {rl : List Key} (h : LOk s) (R : RdyOk s rl) : rl.Nodup := by
  refine e1a3 R.ord fun ts t1 t2 t3 => ?_
  rw [← t1]
  refine List.pairwise_map.mpr (t3.imp_of_mem fun {a b} ha hb hlt e => ?_)
  have := IsRank.one h (t2 a ha) (t2 b hb) e
  subst this
  unfold Tlt at hlt; (first | lia | omega)
theorem LOk.give {s : LS} (h : LOk s) {rl : List Key} (R : RdyOk s rl) : LOk (s.give rl) where
  row := h.row
  st := h.st
  out := fun x hx => by
    rcases List.mem_append.mp hx with q | q
    · exact h.out x q
    · exact ((R.mem x).mp q).1
  gone := fun x hx => List.mem_append_left _ (h.gone x hx)
  gnd := h.gnd
  ond := by
    show (s.out ++ rl).Nodup
    rw [List.nodup_append]
    exact ⟨h.ond, R.nodup h, fun a ha b hb e => by subst e; exact ((R.mem a).mp hb).2.1 ha⟩
  free := fun x hx => by
    rcases List.mem_append.mp hx with q | q
    · exact h.free x q
    · exact ((R.mem x).mp q).2.2
theorem RdyOk.give {s : LS} {rl : List Key} (R : RdyOk s rl) : RdyOk (s.give rl) [] where
  mem := fun x => by
    refine ⟨fun z => absurd z (List.not_mem_nil), fun ⟨h1, h2, h3⟩ => ?_⟩
    exact absurd (List.mem_append_right _ ((R.mem x).mpr ⟨h1, fun z => h2 (List.mem_append_left _ z), h3⟩)) h2
  ord := ⟨[], rfl, (fun t ht => absurd ht List.not_mem_nil), .nil⟩
theorem fold_out {row : List Key} {g : Key → List Key} : ∀ {rl : List Key} {f : Key → Int}, rl.foldl (fun l k => upP k (fun _ => -1) id l) (rowP row f g) = rowP row (fun x => if x ∈ rl then -1 else f x) g
  | [], f => rowP_congr fun x _ => ⟨by rw [if_neg (by simp)], rfl⟩
  | k :: rl, f => by
    rw [List.foldl_cons, upP_row, rowP_congr (f' := fun x => if x = k then (-1 : Int) else f x) (g' := g) fun x _ => ⟨rfl, by split <;> rfl⟩, fold_out]
    refine rowP_congr fun x _ => ⟨?_, rfl⟩
    by_cases q : x = k
    · subst q; simp
    · simp [q]
theorem give_mkL {s : LS} (h : LOk s) {rl : List Key} (R : RdyOk s rl) : rl.foldl (fun l k => upP k (fun _ => -1) id l) (mkL s) = mkL (s.give rl) := by
  unfold mkL
  rw [fold_out]
  refine rowP_congr fun x hx => ⟨?_, rfl⟩
  unfold npOf
  rw [show (s.give rl).gone = s.gone from rfl, show (s.give rl).out = s.out ++ rl from rfl, show leftN (s.give rl) x = leftN s x from rfl]
  by_cases q : x ∈ rl
  · have hr := (R.mem x).mp q
    rw [if_pos q, if_neg (fun z => hr.2.1 (h.gone x z)), if_pos (List.mem_append_right _ q)]
  · rw [if_neg q]
    split
    · rfl
    · refine ite_congr (propext ?_) (fun _ => rfl) (fun _ => rfl)
      rw [List.mem_append]
      exact ⟨.inl, fun z => z.resolve_right q⟩
theorem out_gone {s : LS} (h : LOk s) : decide ((s.gone.length : Int) < s.out.length) = !(s.out.filter fun x => !decide (x ∈ s.gone)).isEmpty := by
  have e1 : (s.out.filter fun x => decide (x ∈ s.gone)).Perm s.gone := by
    rw [List.perm_ext_iff_of_nodup (h.ond.filter _) h.gnd]
    intro a
    rw [List.mem_filter, decide_eq_true_iff]
    exact ⟨fun z => z.2, fun z => ⟨h.gone a z, z⟩⟩
  have e2 := (List.filter_append_perm (fun x => decide (x ∈ s.gone)) s.out).length_eq
  rw [List.length_append, e1.length_eq] at e2
  rw [Bool.eq_iff_iff, decide_eq_true_iff, Bool.not_eq_true', List.isEmpty_eq_false_iff, ← List.length_pos_iff]
  (first | lia | omega)
noncomputable def aheadL (st : List (Key × Key)) (left : List Key) (x : Key) : List Key := (st.filter fun p => decide (p.2 = x) && decide (p.1 ∈ left)).map (·.1)
noncomputable def leftStep (st : List (Key × Key)) (left : List Key) : List Key := left.filter fun x => !(aheadL st left x).isEmpty
noncomputable def leftIt (st : List (Key × Key)) (l : List Key) : Nat → List Key
  | 0 => l
  | n + 1 => leftStep st (leftIt st l n)
theorem mem_aheadL {st : List (Key × Key)} {left : List Key} {x a : Key} : a ∈ aheadL st left x ↔ (a, x) ∈ st ∧ a ∈ left := by
  unfold aheadL
  rw [List.mem_map]
  constructor
  · intro zr17
    refine e1a2 zr17 ?_
    try clear zr17
    intro zq259 h zq260
    obtain ⟨u, v⟩ := zq259
    subst zq260
    refine e0a2 (List.mem_filter.mp h) fun h1 h2 => ?_
    simp only [Bool.and_eq_true, decide_eq_true_eq] at h2
    exact ⟨h2.1 ▸ h1, h2.2⟩
  · rintro ⟨h1, h2⟩; exact ⟨(a, x), List.mem_filter.mpr ⟨h1, by simp [h2]⟩, rfl⟩
theorem mem_leftStep {st : List (Key × Key)} {left : List Key} {x : Key} : x ∈ leftStep st left ↔ x ∈ left ∧ ∃ a, (a, x) ∈ st ∧ a ∈ left := by
  unfold leftStep
  rw [List.mem_filter, Bool.not_eq_true', List.isEmpty_eq_false_iff]
  refine and_congr_right fun _ => ⟨fun h => ?_, fun ⟨a, h1, h2⟩ e => ?_⟩
  · refine e1a1 (List.exists_mem_of_ne_nil _ h) fun a ha => ?_
    exact ⟨a, mem_aheadL.mp ha⟩
  · have := mem_aheadL.mpr ⟨h1, h2⟩
    rw [e] at this; cases this
theorem leftIt_mem {st : List (Key × Key)} {l : List Key} : ∀ {n : Nat} {x : Key}, x ∈ leftIt st l n → x ∈ l
  | 0, _, h => h
  | n + 1, _, h => leftIt_mem (mem_leftStep.mp h).1
theorem leftIt_len {st : List (Key × Key)} {l : List Key} : ∀ n, leftStep st (leftIt st l n) = leftIt st l n ∨ (leftIt st l n).length + n ≤ l.length
  | 0 => .inr (Nat.le_refl _)
  | n + 1 => by
    rcases leftIt_len (st := st) (l := l) n with h | h
    · left; show leftStep st (leftStep st _) = leftStep st _; rw [h, h]
    · by_cases q : (leftStep st (leftIt st l n)).length = (leftIt st l n).length
      · left
        have e : leftStep st (leftIt st l n) = leftIt st l n := List.filter_sublist.eq_of_length q
        show leftStep st (leftStep st _) = leftStep st _; rw [e, e]
      · right
        have := List.length_filter_le (fun x => !(aheadL st (leftIt st l n) x).isEmpty) (leftIt st l n)
        show (leftStep st (leftIt st l n)).length + (n + 1) ≤ _
        unfold leftStep at q ⊢
        (first | lia | omega)
theorem leftIt_stop {st : List (Key × Key)} {l : List Key} : leftStep st (leftIt st l l.length) = leftIt st l l.length := by
  rcases leftIt_len (st := st) (l := l) l.length with h | h
  · exact h
  · have : leftIt st l l.length = [] := List.length_eq_zero_iff.mp (by (first | lia | omega))
    rw [this]; rfl
theorem FinOk.idx {g : Key → List Key} {fin : List Key} (h : FinOk g fin) {u v : Key} (hu : u ∈ fin) (hv : v ∈ g u) : fin.idxOf v < fin.idxOf u := by
  have hi := List.idxOf_lt_length_iff.mpr hu
  have e : fin = fin.take (fin.idxOf u) ++ u :: fin.drop (fin.idxOf u + 1) := by
    have h1 := List.take_append_drop (fin.idxOf u) fin
    rw [List.drop_eq_getElem_cons hi, List.getElem_idxOf hi] at h1
    exact h1.symm
  have hm := h _ _ u e v hv
  have hlt := List.idxOf_lt_length_iff.mpr hm
  have e2 : fin.idxOf v = (fin.take (fin.idxOf u)).idxOf v := by
    conv => lhs; rw [e]
    rw [List.idxOf_append, if_pos hm]
  rw [e2]
  exact Nat.lt_of_lt_of_le hlt (by rw [List.length_take]; exact Nat.min_le_left _ _)
theorem left_nil {s : LS} {fin : List Key} (hf : FinOk (sucs (mkL s)) fin) (hr : ∀ x ∈ s.row, x ∈ fin) (h : LOk s) : leftIt s.st s.row s.row.length = [] := by
  generalize hl : leftIt s.st s.row s.row.length = l
  have fix : leftStep s.st l = l := hl ▸ leftIt_stop
  have inr : ∀ x ∈ l, x ∈ s.row := fun x hx => leftIt_mem (hl ▸ hx)
  refine List.eq_nil_iff_forall_not_mem.mpr ?_
  have key : ∀ n x, x ∈ l → fin.length - fin.idxOf x ≤ n → False := by
    intro n
    induction n with
    | zero => intro x hx hn; have := List.idxOf_lt_length_iff.mpr (hr x (inr x hx)); (first | lia | omega)
    | succ n ih =>
      intro x hx hn
      rw [← fix, mem_leftStep] at hx
      refine e0a2 hx ?_
      try clear hx
      intro h1 zq261
      obtain ⟨a, h2, h3⟩ := zq261
      refine ih a h3 ?_
      have hs : x ∈ sucs (mkL s) a := by
        unfold sucs; rw [show look a (mkL s) = if a ∈ s.row then some (npOf s a, succs s.st a) else none from look_row, if_pos (h.st _ h2).1]
        exact mem_succs.mpr h2
      have := hf.idx (hr a (inr a h3)) hs
      (first | lia | omega)
  exact fun x hx => key _ x hx (Nat.le_refl _)
theorem Steps.at {g : Key → List Key} : ∀ {l : List Key}, Steps g l → ∀ {i : Nat} {a b : Key}, l[i]? = some a → l[i + 1]? = some b → b ∈ g a
  | [], _, i, a, b, h, _ => by simp at h
  | [x], _, i, a, b, _, h => by simp at h
  | x :: y :: r, ⟨h1, h2⟩, 0, a, b, ha, hb => by
    simp at ha hb; subst ha hb; exact h1
  | x :: y :: r, ⟨h1, h2⟩, i + 1, a, b, ha, hb => Steps.at h2 (by simpa using ha) (by simpa using hb)
structure RingOk (s : LS) (ring : List Key) : Prop where
  two : 2 ≤ ring.length
  ends : ring.head? = ring.getLast?
  nd : ring.dropLast.Nodup
  inr : ∀ k ∈ ring, k ∈ s.row
  step : ∀ i a b, ring[i]? = some a → ring[i + 1]? = some b → (a, b) ∈ s.st
theorem RingOk.of {s : LS} {ring : List Key} (h : Ring (sucs (mkL s)) ring) (hr : ∀ k ∈ ring, k ∈ s.row) : RingOk s ring where
  two := h.2.1
  ends := h.2.2.1
  nd := h.2.2.2
  inr := hr
  step := fun i a b ha hb => by
    have := h.1.at ha hb
    unfold sucs at this
    rw [show look a (mkL s) = if a ∈ s.row then some (npOf s a, succs s.st a) else none from look_row, if_pos (hr a (List.mem_of_getElem? ha))] at this
    exact mem_succs.mp this
theorem RingOk.left {s : LS} {ring : List Key} (h : RingOk s ring) : ∀ n, ∀ k ∈ ring, k ∈ leftIt s.st s.row n
  | 0, k, hk => h.inr k hk
  | n + 1, k, hk => by
    refine mem_leftStep.mpr ⟨h.left n k hk, ?_⟩
    refine e1a1 (List.mem_iff_getElem.mp hk) fun i zq262 => ?_
    obtain ⟨hi, e⟩ := zq262
    have hk' : ring[i]? = some k := by rw [List.getElem?_eq_getElem hi, e]
    cases i with
    | succ i =>
      exact ⟨ring[i], h.step i _ _ (List.getElem?_eq_getElem (by (first | lia | omega))) hk', h.left n _ (List.getElem_mem _)⟩
    | zero =>
      have h2 := h.two
      have e1 : ring[ring.length - 1]? = some k := by
        rw [← List.getLast?_eq_getElem?, ← h.ends, List.head?_eq_getElem?]; exact hk'
      refine ⟨ring[ring.length - 2], h.step (ring.length - 2) _ _ (List.getElem?_eq_getElem (by (first | lia | omega))) (by rw [show ring.length - 2 + 1 = ring.length - 1 by (first | lia | omega)]; exact e1), h.left n _ (List.getElem_mem _)⟩
theorem RingOk.left_ne {s : LS} {ring : List Key} (h : RingOk s ring) : leftIt s.st s.row s.row.length ≠ [] := by
  intro e
  have h2 := h.two
  have := h.left s.row.length ring[0] (List.getElem_mem (by (first | lia | omega)))
  rw [e] at this; cases this
section
variable {c : Cx} {A : Around} {env : Env} {F : Frm} {G : Led} {E : LX}
end
section
variable {c : Cx}
theorem b_range (T : Top c) : Blt c "range" (.typ "range") := T.blt (v := .type "range") (by with_unfolding_all rfl) (by kernel_rfl) (by simp [Rel])
theorem b_list (T : Top c) : Blt c "list" (.typ "list") := T.blt (v := .type "list") (by with_unfolding_all rfl) (by kernel_rfl) (by simp [Rel])
theorem b_type (T : Top c) : Blt c "type" (.typ "type") := T.blt (v := .type "type") (by with_unfolding_all rfl) (by kernel_rfl) (by simp [Rel])
theorem b_sum (T : Top c) : Blt c "sum" (.bi "sum") := T.blt (v := .builtin "sum") (by with_unfolding_all rfl) (by kernel_rfl) (by simp [Rel])
theorem b_max (T : Top c) : Blt c "max" (.bi "max") := T.blt (v := .builtin "max") (by with_unfolding_all rfl) (by kernel_rfl) (by simp [Rel])
theorem b_sorted (T : Top c) : Blt c "sorted" (.bi "sorted") := T.blt (v := .builtin "sorted") (by with_unfolding_all rfl) (by kernel_rfl) (by simp [Rel])
theorem fmod_rng {x : Int} {k : Int} (h : 0 < k) : 0 ≤ x.fmod k ∧ x.fmod k < k := ⟨Int.fmod_nonneg_of_pos x h, Int.fmod_lt_of_pos x h⟩
theorem fmod_nat (x : Int) {k : Nat} (h : 0 < k) : ∃ m : Nat, x.fmod k = (m : Int) ∧ m < k := by
  have := fmod_rng (x := x) (k := (k : Int)) (by omega)
  exact ⟨(x.fmod k).toNat, by omega, by omega⟩
theorem pw_ok : ∀ q : Fin 9, ∀ k : Fin 9, (Builtin.Int.intBits (q.val : Int) : Int) * (k.val : Int) ≤ 2 ^ 27 ∧ ((q.val : Int) ^ k.val).natAbs < 1073741824 := by decide +kernel
theorem pw_bits {q k : Nat} (h2 : q ≤ 8) (h4 : k ≤ 8) : (Builtin.Int.intBits (q : Int) : Int) * (k : Int) ≤ 2 ^ 27 ∧ ((q : Int) ^ k).natAbs < 1073741824 := pw_ok ⟨q, by omega⟩ ⟨k, by omega⟩
theorem op_powN {A : Around} {env : Env} {F : Frm} {G : Led} {E : LX} {Q : D → Frm → Led → Prop} {q k : Nat} (h2 : q ≤ 8) (h4 : k ≤ 8) (hq : Q (.int ((q : Int) ^ k)) F G) : Op2 c A env Rel F G (binaryOp .Pow) (.int q) (.int k) Q E :=
  op_pow (by omega) (pw_bits h2 h4).1 (by rw [Int.toNat_natCast]; exact hq)
theorem op_divP {A : Around} {env : Env} {F : Frm} {G : Led} {E : LX} {Q : D → Frm → Led → Prop} {a : Int} {q k : Nat} (h1 : 1 ≤ q) (h2 : q ≤ 8) (h4 : k ≤ 8) (hq : Q (.int (a.fdiv ((q : Int) ^ k))) F G) : Op2 c A env Rel F G (binaryOp .FloorDiv) (.int a) (.int ((q : Int) ^ k)) Q E :=
  op_div (Int.ne_of_gt (Int.pow_pos (by omega))) (pw_bits h2 h4).2 hq
theorem op_modN {A : Around} {env : Env} {F : Frm} {G : Led} {E : LX} {Q : D → Frm → Led → Prop} {a : Int} {q : Nat} (h1 : 1 ≤ q) (hq : Q (.int (a.fmod q)) F G) : Op2 c A env Rel F G (binaryOp .Mod) (.int a) (.int (q : Int)) Q E :=
  op_mod (by omega) hq
theorem op_addE {A : Around} {env : Env} {F : Frm} {G : Led} {E : LX} {Q : D → Frm → Led → Prop} {a b z : Int} (e : a + b = z) (hq : Q (.int z) F G) : Op2 c A env Rel F G (binaryOp .Add) (.int a) (.int b) Q E := op_add (e ▸ hq)
theorem op_modE {A : Around} {env : Env} {F : Frm} {G : Led} {E : LX} {Q : D → Frm → Led → Prop} {a b z : Int} (hb : b ≠ 0) (e : a.fmod b = z) (hq : Q (.int z) F G) : Op2 c A env Rel F G (binaryOp .Mod) (.int a) (.int b) Q E := op_mod hb (e ▸ hq)
theorem op_divN {A : Around} {env : Env} {F : Frm} {G : Led} {E : LX} {Q : D → Frm → Led → Prop} {a : Int} {q : Nat} (h1 : 1 ≤ q) (h2 : q ≤ 1000) (hq : Q (.int (a.fdiv q)) F G) : Op2 c A env Rel F G (binaryOp .FloorDiv) (.int a) (.int (q : Int)) Q E :=
  op_div (by omega) (by omega) hq
end
section
variable {c : Cx} {A : Around} {env : Env} {F : Frm} {G : Led} {E : LX} {b : Bool}
theorem kIf_t {x y : List Stmt} {Q : Fl → Frm → Led → Prop} (h : b = true) (z : AS c A env F G x Q E) : kIf c A env x y Q E b F G := by subst h; exact z
theorem kIf_f {x y : List Stmt} {Q : Fl → Frm → Led → Prop} (h : b = false) (z : AS c A env F G y Q E) : kIf c A env x y Q E b F G := by subst h; exact z
theorem kIte_t {x y : Expr} {Q : D → Frm → Led → Prop} (h : b = true) (z : AE c A env F G x Q E) : kIte c A env x y Q E b F G := by subst h; exact z
theorem kIte_f {x y : Expr} {Q : D → Frm → Led → Prop} (h : b = false) (z : AE c A env F G y Q E) : kIte c A env x y Q E b F G := by subst h; exact z
theorem kAnd_t {xs : List Expr} {Q : Bool → Frm → Led → Prop} (h : b = true) (z : AAll c A env F G .And xs Q E) : kAnd c A env xs Q E b F G := by subst h; exact z
theorem kAnd_f {xs : List Expr} {Q : Bool → Frm → Led → Prop} (h : b = false) (z : Q false F G) : kAnd c A env xs Q E b F G := by subst h; exact z
theorem kOr_t {xs : List Expr} {Q : Bool → Frm → Led → Prop} (h : b = true) (z : Q true F G) : kOr c A env xs Q E b F G := by subst h; exact z
theorem kOr_f {xs : List Expr} {Q : Bool → Frm → Led → Prop} (h : b = false) (z : AAll c A env F G .Or xs Q E) : kOr c A env xs Q E b F G := by subst h; exact z
end
noncomputable abbrev Kp (b : Bool) (F : Frm) (G : Led) (b' : Bool) (F1 : Frm) (G1 : Led) : Prop := b' = b ∧ F1 = F ∧ G1 = G
theorem ai_keep {c : Cx} {A : Around} {env : Env} {F : Frm} {G : Led} {E : LX} {t : Expr} {Q : Bool → Frm → Led → Prop} (b : Bool) (h : AI c A env F G t (Kp b F G) noE) (hq : Q b F G) : AI c A env F G t Q E :=
  AT.mono h (fun _ _ _ z => by rw [z.1, z.2.1, z.2.2]; exact hq) fun _ _ _ _ z => z.elim
theorem CompEA.all {c : Cx} {A : Around} {env : Env} {x : Str} {scope : Scope} {cl : List (Str × Addr)} {target : Expr} {elt : Expr} {α : Type} {e : α → D} {Q : Fl → Frm → Led → Prop} {d : D} {F1 : Frm} {G1 : Led} (xs : List α) (f : α → D) (h : CompE c A env F1 G1 scope cl target [] elt d e xs (fun _ => true) f)
    (hq : Q .next ⟨F1.L, (x, .list (xs.map f)) :: F1.loc, F1.cel⟩ G1) : CompEA c A env x scope cl target [] elt e Q d F1 G1 := ⟨xs, _, f, h, by rw [List.filter_eq_self.mpr (fun _ _ => rfl)]; exact hq⟩
theorem CompEK.all {c : Cx} {A : Around} {env : Env} {scope : Scope} {cl : List (Str × Addr)} {target : Expr} {elt : Expr} {α : Type} {e : α → D} {Q : D → Frm → Led → Prop} {d : D} {F1 : Frm} {G1 : Led} (xs : List α) (f : α → D) (h : CompE c A env F1 G1 scope cl target [] elt d e xs (fun _ => true) f)
    (hq : Q (.list (xs.map f)) F1 G1) : CompEK c A env scope cl target [] elt e Q d F1 G1 := ⟨xs, _, f, h, by rw [List.filter_eq_self.mpr (fun _ _ => rfl)]; exact hq⟩
inductive Op where
  | add (k : Key) (ps : List Key)
  | prep
  | ready
  | done (ks : List Key)
  | act
  | boo
noncomputable def Op.call : Op → List Key
  | .add k ps => .str "add" :: k :: ps
  | .prep => [.str "prepare"]
  | .ready => [.str "get_ready"]
  | .done ks => .str "done" :: ks
  | .act => [.str "is_active"]
  | .boo => [.str "bool"]
noncomputable def cD (c : List Key) : D := .list (c.map Key.d)
noncomputable def Op.d (o : Op) : D := cD o.call
noncomputable def namesT : List Key := [.int 0, .str "0", .int (-1), .str "", .int 7, .str "a", .int 12, .str "b"]
noncomputable def nameAt (i : Int) : Key := namesT.getD i.toNat (.int 0)
noncomputable def dgt (w : Nat) (x : Int) (k : Nat) : Int := (x.fdiv ((w : Int) ^ k)).fmod w
noncomputable def ahdL (w : Nat) (node more : Int) : List Int := ((List.range (more.fmod 4).toNat).map (dgt w (more.fdiv 4))).filter fun k => decide (k < node) || decide (((more.fdiv 4).fdiv ((w : Int) ^ 3)).fmod 8 = 7)
noncomputable def opOf (w place len : Nat) (x : Int) : Op :=
  if x.fmod 4 = 0 then (if (x.fdiv 4).fmod 32 = 31 then .prep else .ready)
  else if x.fmod 4 = 1 ∨ (x.fmod 4 = 3 ∧ len < place) then .add (nameAt ((x.fdiv 4).fmod w)) ((ahdL w ((x.fdiv 4).fmod w) ((x.fdiv 4).fdiv w)).map nameAt)
  else .done ((List.range ((x.fdiv 4).fmod 9).toNat).map fun k => nameAt (dgt w ((x.fdiv 4).fdiv 9) k))
noncomputable def rawOps (w place : Nat) (ns : List Int) : List Op := (List.range ns.length).map fun i => opOf w place i (ns.getD i 0)
noncomputable def widthL (ns : List Int) : Nat := (2 + (ns.sum.fdiv 64).fmod 7).toNat
noncomputable def placeL (ns : List Int) : Nat := (ns.sum.fmod (((ns.length : Int) + 1).fdiv 2 + 1)).toNat
noncomputable def opsL (ns : List Int) : List Op := [.add (.int 0) [], .add (.str "0") [.int 0]] ++ (rawOps (widthL ns) (placeL ns) ns).take (placeL ns) ++ [.prep] ++ (rawOps (widthL ns) (placeL ns) ns).drop (placeL ns)
theorem names_at {i : Nat} (h8 : i < 8) : (namesT.map Key.d)[i]? = some (nameAt i).d := by
  rw [List.getElem?_map]
  unfold nameAt
  rw [Int.toNat_natCast, List.getD_eq_getElem?_getD, List.getElem?_eq_getElem (show i < namesT.length from h8)]; rfl
section
variable {c : Cx} {A : Around}

inductive InvCalls (ns : List Int) (wd pl : Nat) (ca L : Addr) (i : Nat) : Frm → Led → Prop
  | mk (loc) (vm vn vr : Option D) (xs : List D) (hx : xs = ((rawOps wd pl ns).take i).map Op.d) (h1 : List.lookup ("calls" : Str) loc = some (.ref ca)) (h2 : List.lookup ("place" : Str) loc = some (.int pl)) :
      InvCalls ns wd pl ca L i ⟨L, loc, [("more", L + 1 + 1 + 1 + 1 + 1, vm), ("node", L + 1 + 1 + 1 + 1, vn), ("rest", L + 1 + 1 + 1, vr), ("names", L + 1 + 1, some (.list (namesT.map Key.d))), ("width", L + 1, some (.int wd))]⟩ [(ca, .list xs)]
theorem raw_at {ns : List Int} {wd pl i : Nat} {x : Int} (hx : ns[i]? = some x) : ((rawOps wd pl ns).take (i + 1)).map Op.d = ((rawOps wd pl ns).take i).map Op.d ++ [(opOf wd pl i x).d] := by
  have hi := (List.getElem?_eq_some_iff.mp hx).1
  have e : (rawOps wd pl ns)[i]? = some (opOf wd pl i x) := by
    unfold rawOps
    rw [List.getElem?_map, List.getElem?_range hi]
    show some (opOf wd pl i (ns.getD i 0)) = _
    rw [List.getD_eq_getElem?_getD, hx]; rfl
  rw [List.take_add_one, e, List.map_append]; rfl
theorem raw_len {ns : List Int} {wd pl i : Nat} (hi : i ≤ ns.length) : (((rawOps wd pl ns).take i).map Op.d).length = i := by
  rw [List.length_map, List.length_take]
  unfold rawOps
  rw [List.length_map, List.length_range]; walk_at "o"
theorem ac_calls {n : Nat} (T : Top c) (hR : Rm (n + 1) A) (ns : List Int) (hn : ns.length ≤ 1000) :
    AC c A (.ref 146) [.list (ns.map .int)] [] (fun d G' => d = .list ((opsL ns).map Op.d) ∧ G' = []) (fun _ _ _ => False) := by
  obtain ⟨wd, hwd, hw2, hw8⟩ : ∃ wd : Nat, 2 + (ns.sum.fdiv 64).fmod 7 = (wd : Int) ∧ 2 ≤ wd ∧ wd ≤ 8 := by
    refine e1a2 (fmod_nat (k := 7) (ns.sum.fdiv 64) (by decide)) fun m h1 h2 => ?_
    exact ⟨2 + m, by rw [show (7 : Int) = ((7 : Nat) : Int) from rfl, h1]; rfl, Nat.le_add_right _ _, Nat.add_le_add_left (Nat.le_of_lt_succ h2) 2⟩
  have hw0 : 0 < wd := Nat.lt_of_lt_of_le (by decide) hw2
  obtain ⟨pl, hpl, hpn⟩ : ∃ pl : Nat, ns.sum.fmod (((ns.length : Int) + 1).fdiv 2 + 1) = (pl : Int) ∧ pl ≤ 1000 := by
    have hd : 0 ≤ ((ns.length : Int) + 1).fdiv 2 ∧ ((ns.length : Int) + 1).fdiv 2 ≤ 501 := by
      rw [Int.fdiv_eq_ediv_of_nonneg _ (by walk_at "o")]; walk_at "o"
    have := fmod_rng (x := ns.sum) (k := ((ns.length : Int) + 1).fdiv 2 + 1) (by walk_at "o")
    exact ⟨(ns.sum.fmod (((ns.length : Int) + 1).fdiv 2 + 1)).toNat, by walk_at "o", by walk_at "o"⟩
  have hops : opsL ns = [.add (.int 0) [], .add (.str "0") [.int 0]] ++ (rawOps wd pl ns).take pl ++ [.prep] ++ (rawOps wd pl ns).drop pl := by
    unfold opsL
    rw [show widthL ns = wd by unfold widthL; rw [hwd]; exact Int.toNat_natCast _, show placeL ns = pl by unfold placeL; rw [hpl]; exact Int.toNat_natCast _]
  rw [hops]
  have b1 := b_range T
  have b2 := b_sum T
  have b3 := b_len T
  refine AC.shed (ac_fun (bs := [("numbers", .list (ns.map .int))]) (fun L => ⟨L, [("numbers", .list (ns.map .int))], [("more", L + 1 + 1 + 1 + 1 + 1, none), ("node", L + 1 + 1 + 1 + 1, none), ("rest", L + 1 + 1 + 1, none), ("names", L + 1 + 1, none), ("width", L + 1, none)]⟩) T.ok hR (DefOk.mk ⟨_, T.in (by with_unfolding_all rfl), by with_unfolding_all rfl⟩ ⟨_, _, _, _, rfl, T.in (by with_unfolding_all rfl), rfl, rfl⟩ rfl rfl rfl rfl rfl rfl rfl (by decide) (by decide)) (fun w vs hvs => ?_) (by show (["numbers"] : List Str).Nodup; decide) (hk_of (by with_unfolding_all rfl)) (fun L => by with_unfolding_all rfl) (fun L env A' he hR' hA => ?_))
  · simp only [Rels] at hvs
    refine e2a3 hvs ?_
    try clear hvs
    intro v1 r1 zq263 h1 zq264
    subst zq263
    subst zq264
    exact bind_pure (by with_unfolding_all rfl) ⟨_, _, rfl, h1, rfl⟩
  · have k1 : env.kindOf "numbers" = some .local := kind_of he (by with_unfolding_all rfl)
    have k2 : env.kindOf "head" = some .local := kind_of he (by with_unfolding_all rfl)
    have k3 : env.kindOf "width" = some .cell := kind_of he (by with_unfolding_all rfl)
    have k4 : env.kindOf "names" = some .cell := kind_of he (by with_unfolding_all rfl)
    have k5 : env.kindOf "place" = some .local := kind_of he (by with_unfolding_all rfl)
    have k6 : env.kindOf "calls" = some .local := kind_of he (by with_unfolding_all rfl)
    have k7 : env.kindOf "x" = some .local := kind_of he (by with_unfolding_all rfl)
    have k8 : env.kindOf "rest" = some .cell := kind_of he (by with_unfolding_all rfl)
    have k9 : env.kindOf "node" = some .cell := kind_of he (by with_unfolding_all rfl)
    have k10 : env.kindOf "more" = some .cell := kind_of he (by with_unfolding_all rfl)
    have k11 : env.kindOf "ahead" = some .local := kind_of he (by with_unfolding_all rfl)
    have k12 : env.kindOf "sum" = some .globalImplicit := kind_of he (by with_unfolding_all rfl)
    have k13 : env.kindOf "len" = some .globalImplicit := kind_of he (by with_unfolding_all rfl)
    have k14 : env.kindOf "range" = some .globalImplicit := kind_of he (by with_unfolding_all rfl)
    have hi : interactive env = false := by rw [he]; with_unfolding_all rfl
    walk_at "M"
    refine callk_bi (call_sum hR' seq_list ?_)
    walk_at "M"
    refine op_div (by decide) (by decide) ?_
    walk_at "M"
    refine op_mod (by decide) ?_
    refine op_addE hwd ?_
    walk_at "M"
    refine ae_List ?_
    walk_at "M"
    refine ⟨by decide, ?_⟩
    refine (show kAsg c A' env _ _ _ (.list (namesT.map Key.d)) _ _ from ?_)
    walk_at "M"
    refine callk_bi (call_len (T := "list") (xs := ns.map .int) seq_list (.inl rfl) (by simp; walk_at "o") ?_)
    rw [List.length_map]
    walk_at "M"
    refine op_add ?_
    walk_at "M"
    refine op_div (by decide) (by decide) ?_
    walk_at "M"
    refine op_add ?_
    refine op_modE (by have : 0 ≤ ((ns.length : Int) + 1).fdiv 2 := by rw [Int.fdiv_eq_ediv_of_nonneg _ (by walk_at "o")]; walk_at "o"
                       walk_at "o") hpl ?_
    walk_at "M"
    refine ae_ListM ?_
    walk_at "M"
    refine ⟨by decide, fun ca => ?_⟩
    walk_at "M"
    refine as_For hA ?_
    walk_at "M"
    refine ForK.ofE ns (fun _ => True) (InvCalls ns wd pl ca L) (iter_list hR') ⟨_, _, _, _, _, rfl, by with_unfolding_all rfl, by with_unfolding_all rfl⟩ (fun _ _ _ _ => trivial) ?_ ?_
    · intro i x F G hx z
      have hop := raw_at (wd := wd) (pl := pl) hx
      have hin := (List.getElem?_eq_some_iff.mp hx).1
      induction z with
      | mk loc vm vn vr xs hxs l1 l2 =>
      have hl : xs.length = i := by rw [hxs]; exact raw_len (by walk_at "o")
      rw [← hxs] at hop
      walk_at "M"
      refine op_div (by decide) (by decide) ?_
      walk_at "M"
      refine op_mod (by decide) ?_
      walk_at "M"
      refine op_eqi ?_
      walk_at "M"
      by_cases q : x.fmod 4 = 0
      · refine kIf_t (decide_eq_true q) ?_
        walk_at "M"
        refine meth_list PySem.F.slot_list_append (by with_unfolding_all rfl) (seq_mut (xs := xs) (by walk_at "h")) ?_
        refine args_plain (al_cons (ae_List ?_))
        walk_at "M"
        refine op_mod (by decide) ?_
        walk_at "M"
        refine op_eqi ?_
        walk_at "M"
        have hov : opOf wd pl i x = if (x.fdiv 4).fmod 32 = 31 then .prep else .ready := by unfold opOf; rw [if_pos q]
        rw [hov] at hop
        by_cases r : (x.fdiv 4).fmod 32 = 31
        · rw [if_pos r] at hop
          refine kIte_t (decide_eq_true r) ?_
          walk_at "M"
          refine ⟨by decide, ?_⟩
          walk_at "M"
          refine callk_bi (call_append (G1 := []) (by walk_at "o") ?_)
          walk_at "M"
          exact ⟨_, _, _, _, _, hop.symm, by with_unfolding_all assumption, by with_unfolding_all assumption⟩
        · rw [if_neg r] at hop
          refine kIte_f (decide_eq_false r) ?_
          walk_at "M"
          refine ⟨by decide, ?_⟩
          walk_at "M"
          refine callk_bi (call_append (G1 := []) (by walk_at "o") ?_)
          walk_at "M"
          exact ⟨_, _, _, _, _, hop.symm, by with_unfolding_all assumption, by with_unfolding_all assumption⟩
      · refine kIf_f (decide_eq_false q) ?_
        walk_at "M"
        refine ai_keep (decide (x.fmod 4 = 1 ∨ (x.fmod 4 = 3 ∧ i < pl))) ?_ ?_
        · refine ai_BoolOp (all_Or ?_)
          walk_at "M"
          refine op_mod (by decide) ?_
          walk_at "M"
          refine op_eqi ?_
          walk_at "M"
          by_cases r : x.fmod 4 = 1
          · exact kOr_t (decide_eq_true r) ⟨(decide_eq_true (.inl r)).symm, rfl, rfl⟩
          · refine kOr_f (decide_eq_false r) (all_Or (ai_BoolOp (all_And ?_)))
            walk_at "M"
            refine op_mod (by decide) ?_
            walk_at "M"
            refine op_eqi ?_
            walk_at "M"
            by_cases r3 : x.fmod 4 = 3
            · refine kAnd_t (decide_eq_true r3) (all_And ?_)
              walk_at "M"
              refine callk_bi (call_len (T := "list") (seq_mut (xs := xs) (by walk_at "h")) (.inl rfl) (by walk_at "o") ?_)
              walk_at "M"
              refine op_lt ?_
              walk_at "M"
              by_cases r4 : i < pl
              · exact kAnd_t (decide_eq_true (by walk_at "o")) (all_nil (kOr_t rfl ⟨(decide_eq_true (.inr ⟨r3, r4⟩)).symm, rfl, rfl⟩))
              · exact kAnd_f (decide_eq_false (by walk_at "o")) (kOr_f rfl (all_nil ⟨(decide_eq_false (by walk_at "o")).symm, rfl, rfl⟩))
            · exact kAnd_f (decide_eq_false r3) (kOr_f rfl (all_nil ⟨(decide_eq_false (by walk_at "o")).symm, rfl, rfl⟩))
        by_cases r : x.fmod 4 = 1 ∨ (x.fmod 4 = 3 ∧ i < pl)
        · have hov : opOf wd pl i x = .add (nameAt ((x.fdiv 4).fmod wd)) ((ahdL wd ((x.fdiv 4).fmod wd) ((x.fdiv 4).fdiv wd)).map nameAt) := by unfold opOf; rw [if_neg q, if_pos r]
          rw [hov] at hop
          obtain ⟨nd, hnd, hnl⟩ : ∃ nd : Nat, (x.fdiv 4).fmod wd = (nd : Int) ∧ nd < wd := fmod_nat _ hw0
          obtain ⟨m4, hm4, hml⟩ : ∃ m4 : Nat, ((x.fdiv 4).fdiv wd).fmod 4 = (m4 : Int) ∧ m4 < 4 := fmod_nat (k := 4) _ (by decide)
          generalize hmo : (x.fdiv 4).fdiv wd = mo at hop hm4
          have ham : ahdL wd nd mo = (((List.range m4).map (dgt wd (mo.fdiv 4))).filter fun k => decide (k < (nd : Int)) || decide (((mo.fdiv 4).fdiv ((wd : Int) ^ 3)).fmod 8 = 7)) := by unfold ahdL; rw [hm4, Int.toNat_natCast]
          rw [hnd, ham] at hop
          have hal : (((List.range m4).map (dgt wd (mo.fdiv 4))).filter fun k => decide (k < (nd : Int)) || decide (((mo.fdiv 4).fdiv ((wd : Int) ^ 3)).fmod 8 = 7)).length ≤ 10 := Nat.le_trans (List.length_filter_le _ _) (by rw [List.length_map, List.length_range]; walk_at "o")
          have hax : ∀ k ∈ (((List.range m4).map (dgt wd (mo.fdiv 4))).filter fun k => decide (k < (nd : Int)) || decide (((mo.fdiv 4).fdiv ((wd : Int) ^ 3)).fmod 8 = 7)), ∃ kn : Nat, (kn : Int) = k ∧ kn < wd := fun k hk => by
            refine e1a2 (List.mem_map.mp (List.mem_filter.mp hk).1) fun j _ zq265 => ?_
            subst zq265
            refine e1a2 (fmod_nat ((mo.fdiv 4).fdiv ((wd : Int) ^ j)) hw0) fun m h1 h2 => ?_
            exact ⟨m, h1.symm, h2⟩
          refine kIf_t (decide_eq_true r) ?_
          walk_at "M"
          refine as_Assign1 (hw := by rw [he]; with_unfolding_all rfl) ?_
          walk_at "M"
          refine op_modE (by walk_at "o") hnd ?_
          walk_at "M"
          refine op_divN (by walk_at "o") (by walk_at "o") ?_
          rw [hmo]
          walk_at "M"
          refine ⟨show 2 ≤ 1000000 by decide, asg_T2 hR' ?_⟩
          walk_at "M"
          refine as_AssignCompE nat_inj T.ok ⟨by rw [he]; with_unfolding_all rfl, rfl, by decide, by decide⟩ k11 ?_ (by rw [he]; with_unfolding_all rfl)
          walk_at "M"
          refine op_modE (by decide) hm4 ?_
          walk_at "M"
          refine callk_typ (call_range1 ?_)
          refine .all (List.range m4) (fun k => .int (dgt wd (mo.fdiv 4) k)) ⟨by rw [he]; exact ⟨fun _ => rfl, fun _ => rfl, fun _ => rfl, fun _ => rfl, trivial⟩, ⟨_, iter_rng hR' (by walk_at "o"), trivial, fun _ _ _ _ => trivial⟩, by simp; walk_at "o", fun C a1 ys loc' k hk => ?_⟩ ?_
          · generalize hce : compEnvC _ _ C env = ce
            have kc1 : ce.kindOf "k" = some .local := kind_of hce.symm (by rw [he]; with_unfolding_all rfl)
            have kc2 : ce.kindOf "more" = some .cell := kind_of hce.symm (by rw [he]; with_unfolding_all rfl)
            have kc3 : ce.kindOf "width" = some .cell := kind_of hce.symm (by rw [he]; with_unfolding_all rfl)
            have hk4 : k < m4 := List.mem_range.mp hk
            walk_at "M"
            refine tst_nil ⟨rfl, ?_⟩
            refine ite_t rfl ?_
            walk_at "M"
            refine op_div (by decide) (by decide) ?_
            walk_at "M"
            refine op_powN hw8 (by walk_at "o") ?_
            refine op_divP (by walk_at "o") hw8 (by walk_at "o") ?_
            walk_at "M"
            refine op_modN (by walk_at "o") ?_
            exact ⟨rfl, ⟨_, rfl⟩, rfl⟩
          walk_at "M"
          refine as_AssignCompE int_inj T.ok ⟨by rw [he]; with_unfolding_all rfl, rfl, by decide, by decide⟩ k11 ?_ (by rw [he]; with_unfolding_all rfl)
          walk_at "M"
          refine ⟨(List.range m4).map (dgt wd (mo.fdiv 4)), fun k => decide (k < (nd : Int)) || decide (((mo.fdiv 4).fdiv ((wd : Int) ^ 3)).fmod 8 = 7), D.int, ⟨by rw [he]; exact ⟨fun _ => rfl, fun _ => rfl, fun _ => rfl, fun _ => rfl, fun _ => rfl, trivial⟩, ⟨_, (by rw [List.map_map]; exact iter_list hR'), trivial, fun _ _ _ _ => trivial⟩, by simp; walk_at "o", fun C a1 ys loc' k hk => ?_⟩, ?_⟩
          · generalize hce : compEnvC _ _ C env = ce
            have kc1 : ce.kindOf "k" = some .local := kind_of hce.symm (by rw [he]; with_unfolding_all rfl)
            have kc2 : ce.kindOf "node" = some .cell := kind_of hce.symm (by rw [he]; with_unfolding_all rfl)
            have kc3 : ce.kindOf "more" = some .cell := kind_of hce.symm (by rw [he]; with_unfolding_all rfl)
            have kc4 : ce.kindOf "width" = some .cell := kind_of hce.symm (by rw [he]; with_unfolding_all rfl)
            walk_at "M"
            refine tst_one (ai_keep (decide (k < (nd : Int)) || decide (((mo.fdiv 4).fdiv ((wd : Int) ^ 3)).fmod 8 = 7)) ?_ ?_)
            · refine ai_BoolOp (all_Or ?_)
              walk_at "M"
              refine op_lt ?_
              walk_at "M"
              by_cases z : k < (nd : Int)
              · exact kOr_t (decide_eq_true z) ⟨by rw [decide_eq_true z]; rfl, rfl, rfl⟩
              · refine kOr_f (decide_eq_false z) (all_Or ?_)
                walk_at "M"
                refine op_div (by decide) (by decide) ?_
                walk_at "M"
                refine op_powN (k := 3) hw8 (by decide) ?_
                refine op_divP (by walk_at "o") hw8 (by decide) ?_
                walk_at "M"
                refine op_mod (by decide) ?_
                walk_at "M"
                refine op_eqi ?_
                walk_at "M"
                rw [decide_eq_false z, Bool.false_or]
                by_cases z7 : ((mo.fdiv 4).fdiv ((wd : Int) ^ 3)).fmod 8 = 7
                · exact kOr_t (decide_eq_true z7) ⟨(decide_eq_true z7).symm, rfl, rfl⟩
                · exact kOr_f (decide_eq_false z7) (all_nil ⟨(decide_eq_false z7).symm, rfl, rfl⟩)
            · refine ⟨rfl, ?_⟩
              split
              · walk_at "M"
                exact ⟨rfl, ⟨_, rfl⟩, rfl⟩
              · exact ⟨⟨_, rfl⟩, rfl⟩
          walk_at "M"
          refine meth_list PySem.F.slot_list_append (by with_unfolding_all rfl) (seq_mut (xs := xs) (by walk_at "h")) ?_
          refine args_plain (al_cons (ae_BinOp (ae_List ?_)))
          walk_at "M"
          refine geti_nat (T := "list") (xs := namesT.map Key.d) seq_list (.inl rfl) nd (by walk_at "o") (names_at (by walk_at "o")) ?_
          walk_at "M"
          refine ⟨show 2 ≤ 1000000 by decide, ?_⟩
          refine ae_CompE int_inj T.ok ⟨by rw [he]; with_unfolding_all rfl, rfl, by decide, by decide⟩ ?_
          walk_at "M"
          refine .all (((List.range m4).map (dgt wd (mo.fdiv 4))).filter fun k => decide (k < (nd : Int)) || decide (((mo.fdiv 4).fdiv ((wd : Int) ^ 3)).fmod 8 = 7)) (fun k => (nameAt k).d) ⟨by rw [he]; exact ⟨fun _ => rfl, fun _ => rfl, fun _ => rfl, trivial⟩, ⟨_, iter_list hR', trivial, fun _ _ _ _ => trivial⟩, by walk_at "o", fun C a1 ys loc' k hk => ?_⟩ ?_
          · generalize hce : compEnvC _ _ C env = ce
            have kc1 : ce.kindOf "k" = some .local := kind_of hce.symm (by rw [he]; with_unfolding_all rfl)
            have kc2 : ce.kindOf "names" = some .cell := kind_of hce.symm (by rw [he]; with_unfolding_all rfl)
            refine e1a2 (hax k hk) fun kn zq266 hkn => ?_
            subst zq266
            walk_at "M"
            refine tst_nil ⟨rfl, ?_⟩
            refine ite_t rfl ?_
            walk_at "M"
            refine geti_nat (T := "list") (xs := namesT.map Key.d) seq_list (.inl rfl) kn (by walk_at "o") (names_at (by walk_at "o")) ?_
            exact ⟨rfl, ⟨_, rfl⟩, rfl⟩
          refine op_addL seq_list seq_list (by rw [List.length_map]; show 2 + _ ≤ _; walk_at "o") ?_
          walk_at "M"
          refine callk_bi (call_append (G1 := []) (by walk_at "o") ?_)
          walk_at "M"
          refine ⟨_, _, _, _, _, ?_, by with_unfolding_all assumption, by with_unfolding_all assumption⟩
          rw [hop]
          simp [Op.d, cD, Op.call, List.map_map, Function.comp_def, Key.d]
        · have hov : opOf wd pl i x = .done ((List.range ((x.fdiv 4).fmod 9).toNat).map fun k => nameAt (dgt wd ((x.fdiv 4).fdiv 9) k)) := by unfold opOf; rw [if_neg q, if_neg r]
          rw [hov] at hop
          obtain ⟨m9, hm9, hml⟩ : ∃ m9 : Nat, (x.fdiv 4).fmod 9 = (m9 : Int) ∧ m9 < 9 := fmod_nat (k := 9) _ (by decide)
          refine kIf_f (decide_eq_false r) ?_
          walk_at "M"
          refine meth_list PySem.F.slot_list_append (by with_unfolding_all rfl) (seq_mut (xs := xs) (by walk_at "h")) ?_
          refine args_plain (al_cons (ae_BinOp (ae_List ?_)))
          walk_at "M"
          refine ⟨show 1 ≤ 1000000 by decide, ?_⟩
          refine ae_CompE nat_inj T.ok ⟨by rw [he]; with_unfolding_all rfl, rfl, by decide, by decide⟩ ?_
          walk_at "M"
          refine op_modE (by decide) hm9 ?_
          walk_at "M"
          refine callk_typ (call_range1 ?_)
          refine .all (List.range m9) (fun k => (nameAt (dgt wd ((x.fdiv 4).fdiv 9) k)).d) ⟨by rw [he]; exact ⟨fun _ => rfl, fun _ => rfl, fun _ => rfl, fun _ => rfl, fun _ => rfl, trivial⟩, ⟨_, iter_rng hR' (by walk_at "o"), trivial, fun _ _ _ _ => trivial⟩, by simp; walk_at "o", fun C a1 ys loc' k hk => ?_⟩ ?_
          · generalize hce : compEnvC _ _ C env = ce
            have kc1 : ce.kindOf "k" = some .local := kind_of hce.symm (by rw [he]; with_unfolding_all rfl)
            have kc2 : ce.kindOf "names" = some .cell := kind_of hce.symm (by rw [he]; with_unfolding_all rfl)
            have kc3 : ce.kindOf "rest" = some .cell := kind_of hce.symm (by rw [he]; with_unfolding_all rfl)
            have kc4 : ce.kindOf "width" = some .cell := kind_of hce.symm (by rw [he]; with_unfolding_all rfl)
            have hk9 : k < m9 := List.mem_range.mp hk
            obtain ⟨kn, hkn, hkl⟩ : ∃ kn : Nat, dgt wd ((x.fdiv 4).fdiv 9) k = (kn : Int) ∧ kn < wd := fmod_nat (((x.fdiv 4).fdiv 9).fdiv ((wd : Int) ^ k)) hw0
            walk_at "M"
            refine tst_nil ⟨rfl, ?_⟩
            refine ite_t rfl ?_
            walk_at "M"
            refine op_div (by decide) (by decide) ?_
            walk_at "M"
            refine op_powN hw8 (by walk_at "o") ?_
            refine op_divP (by walk_at "o") hw8 (by walk_at "o") ?_
            walk_at "M"
            refine op_modE (by walk_at "o") hkn ?_
            refine geti_nat (T := "list") (xs := namesT.map Key.d) seq_list (.inl rfl) kn (by walk_at "o") (names_at (by walk_at "o")) ?_
            exact ⟨by rw [hkn], ⟨_, rfl⟩, rfl⟩
          refine op_addL seq_list seq_list (by rw [List.length_map, List.length_range]; show 1 + _ ≤ _; walk_at "o") ?_
          walk_at "M"
          refine callk_bi (call_append (G1 := []) (by walk_at "o") ?_)
          walk_at "M"
          refine ⟨_, _, _, _, _, ?_, by with_unfolding_all assumption, by with_unfolding_all assumption⟩
          rw [hop, hm9]
          simp [Op.d, cD, Op.call, List.map_map, Function.comp_def, Key.d]
    · intro F G z
      induction z with
      | mk loc vm vn vr xs hxs l1 l2 =>
      rw [List.take_of_length_le (show (rawOps wd pl ns).length ≤ ns.length by unfold rawOps; simp)] at hxs
      refine as_nil (after_next ?_)
      walk_at "M"
      refine ae_List ?_
      walk_at "M"
      refine ae_List ?_
      walk_at "M"
      refine ⟨show 2 ≤ 1000000 by decide, ?_⟩
      walk_at "M"
      refine ae_List ?_
      walk_at "M"
      refine ⟨show 3 ≤ 1000000 by decide, ?_⟩
      walk_at "M"
      refine ⟨show 2 ≤ 1000000 by decide, ?_⟩
      refine ae_Slice (fun o i => .inr (by with_unfolding_all rfl)) ?_
      walk_at "M"
      refine sl_upto (e := Op.d) (xs := rawOps wd pl ns) (seq_mut (by rw [← hxs]; exact .head _)) (by unfold rawOps; simp; walk_at "o") ?_
      refine op_addL seq_list seq_list (by rw [List.length_map, List.length_take]; show 2 + _ ≤ _; walk_at "o") ?_
      refine ae_List ?_
      walk_at "M"
      refine ae_List ?_
      walk_at "M"
      refine ⟨show 1 ≤ 1000000 by decide, ?_⟩
      walk_at "M"
      refine ⟨show 1 ≤ 1000000 by decide, ?_⟩
      refine op_addL seq_list seq_list (by rw [List.length_append, List.length_map, List.length_take]; show 2 + _ + 1 ≤ _; walk_at "o") ?_
      refine ae_Slice (fun o i => .inr (by with_unfolding_all rfl)) ?_
      walk_at "M"
      refine sl_from (e := Op.d) (xs := rawOps wd pl ns) (seq_mut (by rw [← hxs]; exact .head _)) (by unfold rawOps; simp; walk_at "o") ?_
      refine op_addL seq_list seq_list (by rw [List.length_append, List.length_append, List.length_map, List.length_take, List.length_map, List.length_drop]; unfold rawOps; rw [List.length_map, List.length_range]; show 2 + _ + 1 + _ ≤ _; walk_at "o") ?_
      refine ⟨[(ca, .list xs)], [], .refl _, ?_, rfl⟩
      rw [List.map_append, List.map_append, List.map_append]
      rfl
end
section
variable {c : Cx} {A : Around} {env : Env} {F : Frm} {G : Led} {E : LX} {Q : D → Frm → Led → Prop}
theorem excQ (T : Top c) : ∃ N nm q bs hdct sn sub ab col dd k0 k1 k2 k3 k5 mN, c.base.get? 55 = some (excClassObj nm q 55 N bs [.type "ValueError", .type "Exception", .type "BaseException", .type "object"] hdct sn sub ab col dd k0 k1 k2 k3 k5 "ValueError.__new__") ∧ c.base.Ns N mN ∧ ∀ n ∈ quietNames, mN n = none := by
  have X := T.ok.kin
  refine ⟨_, _, _, _, _, _, _, _, _, _, _, _, _, _, _, _, T.in (by with_unfolding_all rfl), .of_isNs (isNs_of_in X (by rw [T.K]; with_unfolding_all rfl)), fun n hn => ?_⟩
  refine nsMap_none_of_in X (by rw [T.K]; with_unfolding_all rfl) ?_
  rw [T.K]
  unfold quietNames at hn
  simp only [List.mem_cons, List.not_mem_nil, or_false] at hn
  rcases hn with rfl | rfl | rfl | rfl <;> with_unfolding_all rfl
theorem geta_argsO {x : Addr} {args : List D} (T : Top c) (hx : (x, O.exc (.ref 55) args) ∈ G) (hq : Q (.tuple args) F G) : GetA c A env F G (.ref x) "args" Q E := fun w v hv f l hl w1 R s hs S => by
  simp only [Rel] at hv; subst hv
  obtain ⟨N, nm, q, bs, hdct, sn, sub, ab, col, dd, k0, k1, k2, k3, k5, mN, hC, hN, hmN⟩ := excQ T
  refine e3a5 (S.get (List.mem_append_left R (List.mem_append_right F.led hx))) fun ob vs t h1 h2 h3 h4 zq267 => ?_
  obtain ⟨us, n, h5, h6⟩ := zq267
  refine args_attr_own PySem.F.attrBase_ValueError (S.keep _ _ hC) (hN.keeps S.keep) hmN .base h1 h2 h3 h4 ⟨w1, .tuple args, _, .refl _, ?_, S.toks _, F, G, f, rfl, hq⟩
  simp only [Rel]; exact ⟨t, us, n, rfl, h5, h6⟩
end
section
variable {c : Cx} {A : Around}
theorem ac_bool {n : Nat} (T : Top c) (hR : Rm (n + 3) A) (so : So) (r : Addr) (ks : List Key) (hr : so.rdy = some (r, ks)) (hks : ks.length ≤ 100000) :
    AC c A (.ref 113) [.ref so.x] so.led (fun d G' => d = .bool (decide (so.fin < so.out) || !ks.isEmpty) ∧ G' = so.led) (fun _ _ _ => False) := by
  refine ac_fun (bs := [("self", .ref so.x)]) (fun L => ⟨L, [("self", .ref so.x)], []⟩) T.ok hR (DefOk.mk ⟨_, T.in (by with_unfolding_all rfl), by with_unfolding_all rfl⟩ ⟨_, _, _, _, rfl, T.in (by with_unfolding_all rfl), rfl, rfl⟩ rfl rfl rfl rfl rfl rfl rfl (by decide) (by decide)) (fun w vs hvs => ?_) (by show (["self"] : List Str).Nodup; decide) (hk_of (by with_unfolding_all rfl)) (fun L => by with_unfolding_all rfl) (fun L env A' he hR' hA => ?_)
  · simp only [Rels] at hvs
    refine e2a3 hvs ?_
    try clear hvs
    intro v1 r1 zq268 h1 zq269
    subst zq268
    subst zq269
    exact bind_pure (by with_unfolding_all rfl) ⟨_, _, rfl, h1, rfl⟩
  · have k1 : env.kindOf "self" = some .local := kind_of he (by with_unfolding_all rfl)
    have m106 : findIn c.K (.ref 137) "is_active" = some (some (.ref 106)) := by rw [T.K]; with_unfolding_all rfl
    have t106 : typeIn c.K (.ref 106) = some (.type "function") := by rw [T.K]; with_unfolding_all rfl
    have kp106 : keepIn c.K (.ref 106) = true := by rw [T.K]; with_unfolding_all rfl
    clear he
    walk_at "M"
    refine meth_inst T.ok (cls137 T) m106 t106 (dx := so.dx) (es := so.at) (by walk_at "h") (by walk_at "h") (by with_unfolding_all rfl) ?_
    walk_at "M"
    refine callk_ac (kok_K T.ok kp106) (ac_active T hR' so r ks hr hks) (Rest := []) (by first | walk_at "h" | simp) ?_ (fun _ _ _ z => z.elim)
    intro d G' zr18
    refine e0a2 zr18 ?_
    try clear zr18
    intro zq270 zq271
    subst zq270
    subst zq271
    rw [List.append_nil]
    exact ⟨rfl, rfl⟩
theorem ac_bool_early {n : Nat} (T : Top c) (hR : Rm (n + 3) A) (so : So) (hr : so.rdy = none) :
    AC c A (.ref 113) [.ref so.x] so.led (fun _ _ => False) (fun cls args G' => cls = .type "ValueError" ∧ args = [.str "prepare() must be called first"] ∧ G' = so.led) := by
  refine ac_fun (bs := [("self", .ref so.x)]) (fun L => ⟨L, [("self", .ref so.x)], []⟩) T.ok hR (DefOk.mk ⟨_, T.in (by with_unfolding_all rfl), by with_unfolding_all rfl⟩ ⟨_, _, _, _, rfl, T.in (by with_unfolding_all rfl), rfl, rfl⟩ rfl rfl rfl rfl rfl rfl rfl (by decide) (by decide)) (fun w vs hvs => ?_) (by show (["self"] : List Str).Nodup; decide) (hk_of (by with_unfolding_all rfl)) (fun L => by with_unfolding_all rfl) (fun L env A' he hR' hA => ?_)
  · simp only [Rels] at hvs
    refine e2a3 hvs ?_
    try clear hvs
    intro v1 r1 zq272 h1 zq273
    subst zq272
    subst zq273
    exact bind_pure (by with_unfolding_all rfl) ⟨_, _, rfl, h1, rfl⟩
  · have k1 : env.kindOf "self" = some .local := kind_of he (by with_unfolding_all rfl)
    have m106 : findIn c.K (.ref 137) "is_active" = some (some (.ref 106)) := by rw [T.K]; with_unfolding_all rfl
    have t106 : typeIn c.K (.ref 106) = some (.type "function") := by rw [T.K]; with_unfolding_all rfl
    have kp106 : keepIn c.K (.ref 106) = true := by rw [T.K]; with_unfolding_all rfl
    clear he
    walk_at "M"
    refine meth_inst T.ok (cls137 T) m106 t106 (dx := so.dx) (es := so.at) (by walk_at "h") (by walk_at "h") (by with_unfolding_all rfl) ?_
    walk_at "M"
    refine callk_ac (kok_K T.ok kp106) (ac_active_early T hR' so hr) (Rest := []) (by first | walk_at "h" | simp) (fun _ _ z => z.elim) ?_
    intro x y G' zr19
    refine e0a3 zr19 ?_
    try clear zr19
    intro zq274 zq275 zq276
    subst zq274
    subst zq275
    subst zq276
    rw [List.append_nil]
    exact ⟨rfl, rfl, rfl⟩
end
set_option genInjectivity false in
structure Bk where
  s : LS
  rl : List Key
  over : Bool
structure BkOk (b : Bk) : Prop where
  ok : LOk b.s
  fresh : b.over = false → b.s.out = []
  rdy : b.over = true → RdyOk b.s b.rl
inductive Res where
  | gave (d : D)
  | refused (w : Str)
  | raised (ring : List Key)
noncomputable def Res.d : Res → D
  | .gave d => .tuple [.str "gave", d]
  | .refused w => .tuple [.str "refused", .bool true, .str w]
  | .raised ring => .tuple [.str "raised", .str "nodes are in a cycle", .list (ring.map Key.d)]
noncomputable def resO : Option Str → Res
  | none => .gave .none
  | some w => .refused w
noncomputable def Bk.gone (b : Bk) (ks : List Key) : LS := { b.s with gone := (lawDone b.s.row b.s.out ks b.s.gone).1 }
noncomputable def Bk.act (b : Bk) : Bool := decide ((b.s.gone.length : Int) < b.s.out.length) || !b.rl.isEmpty
noncomputable def Op.late : Op → Bool
  | .add _ _ => false
  | .prep => false
  | _ => true
noncomputable def wLate : Str := "Nodes cannot be added after a call to prepare()"
noncomputable def wTwice : Str := "cannot prepare() more than once"
noncomputable def wEarly : Str := "prepare() must be called first"
inductive Told (b : Bk) : Op → Res → Bk → Prop
  | add {k ps} (h : b.over = false) : Told b (.add k ps) (.gave .none) ⟨b.s.add k ps, b.rl, false⟩
  | addLate {k ps} (h : b.over = true) : Told b (.add k ps) (.refused wLate) b
  | prep (h : b.over = false) (fin) (hf : FinOk (sucs (mkL b.s)) fin) (hr : ∀ x ∈ b.s.row, x ∈ fin) : Told b .prep (.gave .none) ⟨b.s, ready0 (mkL b.s), true⟩
  | ring (h : b.over = false) (ring) (hr : RingOk b.s ring) : Told b .prep (.raised ring) ⟨b.s, ready0 (mkL b.s), true⟩
  | prepLate (h : b.over = true) : Told b .prep (.refused wTwice) b
  | early {o} (ho : o.late = true) (h : b.over = false) : Told b o (.refused wEarly) b
  | ready (h : b.over = true) : Told b .ready (.gave (.tuple (b.rl.map Key.d))) ⟨b.s.give b.rl, [], true⟩
  | done {ks} (h : b.over = true) (rl') (h1 : LOk (b.gone ks)) (h2 : RdyOk (b.gone ks) rl') : Told b (.done ks) (resO (lawDone b.s.row b.s.out ks b.s.gone).2) ⟨b.gone ks, rl', true⟩
  | act (h : b.over = true) : Told b .act (.gave (.bool b.act)) b
  | boo (h : b.over = true) : Told b .boo (.gave (.bool b.act)) b
theorem Told.ok {b b' : Bk} {o : Op} {r : Res} (h : BkOk b) (t : Told b o r b') : BkOk b' := by
  cases t with
  | add e => exact ⟨h.ok.add _ _ (h.fresh e), fun _ => h.fresh e, fun z => nomatch z⟩
  | addLate e => exact h
  | prep e fin hf hr => exact ⟨h.ok, fun z => (Bool.noConfusion z), fun _ => RdyOk.first h.ok (h.fresh e)⟩
  | ring e ring hr => exact ⟨h.ok, fun z => (Bool.noConfusion z), fun _ => RdyOk.first h.ok (h.fresh e)⟩
  | prepLate e => exact h
  | early ho e => exact h
  | ready e => exact ⟨h.ok.give (h.rdy e), fun z => (Bool.noConfusion z), fun _ => (h.rdy e).give⟩
  | done e rl' h1 h2 => exact ⟨h1, fun z => (Bool.noConfusion z), fun _ => h2⟩
  | act e => exact h
  | boo e => exact h
structure Fits (N : Nat) (b : Bk) (so : So) : Prop where
  pn : pn so.nds = mkL b.s
  n : NOk N so.nds
  out : so.out = (b.s.out.length : Int)
  fin : so.fin = (b.s.gone.length : Int)
  rdy : if b.over = true then ∃ r, so.rdy = some (r, b.rl) else so.rdy = none
theorem Fits.mono {N M : Nat} {b : Bk} {so : So} (h : Fits N b so) (hm : N ≤ M) : Fits M b so := ⟨h.pn, h.n.mono hm, h.out, h.fin, h.rdy⟩
theorem Fits.yet {N : Nat} {b : Bk} {so : So} (h : Fits N b so) (e : b.over = false) : so.rdy = none := by have := h.rdy; rw [e] at this; exact this
theorem Fits.over {N : Nat} {b : Bk} {so : So} (h : Fits N b so) (e : b.over = true) : ∃ r, so.rdy = some (r, b.rl) := by have := h.rdy; rw [if_pos e] at this; exact this
theorem row_of {N : Nat} {b : Bk} {so : So} (h : Fits N b so) : so.nds.map (·.k) = b.s.row := by
  rw [← pn_keys, h.pn]; unfold mkL rowP; rw [List.map_map]; exact List.map_id _
theorem nf_of {N : Nat} {b : Bk} {so : So} (h : Fits N b so) {k : Key} : (nfind k so.nds).isSome = true ↔ k ∈ b.s.row := by
  rw [← row_of h]
  unfold nfind
  rw [List.find?_isSome, List.mem_map]
  exact ⟨fun ⟨n, h1, h2⟩ => ⟨n, h1, of_decide_eq_true h2⟩, fun ⟨n, h1, h2⟩ => ⟨n, h1, decide_eq_true h2⟩⟩
theorem su_of {N : Nat} {b : Bk} {so : So} (h : Fits N b so) {nd : Nd} (hn : nd ∈ so.nds) : nd.su = succs b.s.st nd.k := by
  have h1 : (nd.k, nd.np, nd.su) ∈ mkL b.s := by rw [← h.pn]; exact List.mem_map.mpr ⟨nd, hn, rfl⟩
  unfold mkL rowP at h1
  refine e1a2 (List.mem_map.mp h1) fun x _ e => ?_
  simp only [Prod.mk.injEq] at e
  rw [← e.2.2, e.1]
theorem Fits.cl {N : Nat} {b : Bk} {so : So} (h : Fits N b so) (hb : BkOk b) : ∀ nd ∈ so.nds, ∀ s ∈ nd.su, (nfind s so.nds).isSome = true := fun nd hn s hs => by
  rw [nf_of h]
  rw [su_of h hn] at hs
  exact (hb.ok.st _ (mem_succs.mp hs)).2
theorem Fits.rowlen {N : Nat} {b : Bk} {so : So} (h : Fits N b so) : b.s.row.length ≤ N := by rw [← row_of h, List.length_map]; exact h.n.len
theorem nodup_sub : ∀ {l m : List Key}, l.Nodup → (∀ x ∈ l, x ∈ m) → l.length ≤ m.length
  | [], _, _, _ => Nat.zero_le _
  | x :: r, m, h, s => by
    rw [List.nodup_cons] at h
    have hx := s x (.head _)
    have := nodup_sub (l := r) (m := m.erase x) h.2 fun y hy => (List.mem_erase_of_ne (fun e => h.1 (by rw [← e]; exact hy))).mpr (s y (.tail _ hy))
    rw [List.length_erase_of_mem hx] at this
    have : 0 < m.length := List.length_pos_of_mem hx
    rw [List.length_cons]; omega
theorem rl_len {N : Nat} {b : Bk} {so : So} (h : Fits N b so) (hb : BkOk b) (e : b.over = true) : b.rl.length ≤ N :=
  Nat.le_trans (nodup_sub ((hb.rdy e).nodup hb.ok) fun x hx => (((hb.rdy e).mem x).mp hx).1) h.rowlen
inductive ToldTo (x : Addr) (N : Nat) (b : Bk) (o : Op) (res : Res) (G : Led) : Prop
  | mk (b' : Bk) (so' : So) (h1 : Told b o res b') (h2 : so'.x = x) (h3 : Fits N b' so') (h4 : G = so'.led)
noncomputable def OpOk : Op → Prop
  | .add _ ps => ps.length ≤ 3
  | .done ks => ks.length ≤ 8 ∧ ∀ k ∈ ks, k.fine
  | _ => True
section
variable {c : Cx} {A : Around}
theorem ge_done (T : Top c) : ∀ od, lookIn "done" od = some none → findObj c.K 137 (some od) "done" = some (.bind (.builtin "function.__get__") (.ref 120)) := fun od h => by
  refine findObj_meth (cd := _) (by rw [T.K]; with_unfolding_all rfl) (by rw [T.K]; with_unfolding_all rfl) (by rw [T.K]; with_unfolding_all rfl) (by rw [T.K]; with_unfolding_all rfl) ?_ (by decide)
  unfold W.ownOf
  rw [if_pos (by with_unfolding_all rfl)]
  exact h
theorem ge_add (T : Top c) : ∀ od, lookIn "add" od = some none → findObj c.K 137 (some od) "add" = some (.bind (.builtin "function.__get__") (.ref 87)) := fun od h => by
  refine findObj_meth (cd := _) (by rw [T.K]; with_unfolding_all rfl) (by rw [T.K]; with_unfolding_all rfl) (by rw [T.K]; with_unfolding_all rfl) (by rw [T.K]; with_unfolding_all rfl) ?_ (by decide)
  unfold W.ownOf
  rw [if_pos (by with_unfolding_all rfl)]
  exact h
theorem as_testT {n : Nat} {env : Env} {F : Frm} {G : Led} {E : LX} {Q : Fl → Frm → Led → Prop} {w lit : Str} {rest : List D} {body orelse : List Stmt} {k1 k2 : Nat} {p1 p2 p3 p4 p5 pos : Pos} (hR : Rm n A) (hk : env.kindOf "call" = some .local) (hl : F.loc.lookup ("call" : Str) = some (.list (.str w :: rest))) (hs : PyData.strOk lit = true) (hw : (w == lit) = true) (h : AS c A env F G body Q E) :
    AS1 c A env F G (.If (.Compare (.Subscript (.Name "call" p1) (.Constant (.int 0) k1 p2) p3) [.Eq] [.Constant (.str lit) k2 p4] p5) body orelse pos) Q E :=
  as_If (ai_Compare1 (ae_Sub (ae_local hk hl (ae_int (geti_nat (T := "list") seq_list (.inl rfl) 0 (by decide) rfl (ae_str hs (op_eqS hR (tr_bool (kIf_t hw h)))))))))
theorem as_testF {n : Nat} {env : Env} {F : Frm} {G : Led} {E : LX} {Q : Fl → Frm → Led → Prop} {w lit : Str} {rest : List D} {body orelse : List Stmt} {k1 k2 : Nat} {p1 p2 p3 p4 p5 pos : Pos} (hR : Rm n A) (hk : env.kindOf "call" = some .local) (hl : F.loc.lookup ("call" : Str) = some (.list (.str w :: rest))) (hs : PyData.strOk lit = true) (hw : (w == lit) = false) (h : AS c A env F G orelse Q E) :
    AS1 c A env F G (.If (.Compare (.Subscript (.Name "call" p1) (.Constant (.int 0) k1 p2) p3) [.Eq] [.Constant (.str lit) k2 p4] p5) body orelse pos) Q E :=
  as_If (ai_Compare1 (ae_Sub (ae_local hk hl (ae_int (geti_nat (T := "list") seq_list (.inl rfl) 0 (by decide) rfl (ae_str hs (op_eqS hR (tr_bool (kIf_f hw h)))))))))
inductive TryQ (x L : Addr) (loc : List (Str × D)) (N : Nat) (b : Bk) (o : Op) : Fl → Frm → Led → Prop
  | mk {d G} (Rest : Led) (G1 : Led) (h1 : ToldTo x N b o (.gave d) G1) (h2 : G.Perm (Rest ++ G1)) : TryQ x L loc N b o (.ret (Res.gave d).d) ⟨L, loc, []⟩ G
inductive TryE (x L : Addr) (loc : List (Str × D)) (N : Nat) (b : Bk) (o : Op) : Value → List D → Frm → Led → Prop
  | ve {w G} (Rest : Led) (G1 : Led) (h1 : ToldTo x N b o (.refused w) G1) (h2 : G.Perm (Rest ++ G1)) : TryE x L loc N b o (.type "ValueError") [.str w] ⟨L, loc, []⟩ G
  | ce {ring G} (Rest : Led) (G1 : Led) (h1 : ToldTo x N b o (.raised ring) G1) (h2 : G.Perm (Rest ++ G1)) : TryE x L loc N b o (.ref 55) [.str "nodes are in a cycle", .list (ring.map Key.d)] ⟨L, loc, []⟩ G
theorem ring_ok {N : Nat} {b : Bk} {so : So} (h : Fits N b so) {ring : List Key} (h1 : Ring (sucs (pn so.nds)) ring) (h2 : ∀ k ∈ ring, (nfind k so.nds).isSome = true) : RingOk b.s ring := by
  rw [h.pn] at h1
  exact .of h1 fun k hk => (nf_of h).mp (h2 k hk)
theorem fin_ok {N : Nat} {b : Bk} {so : So} (h : Fits N b so) {fin : List Key} (h2 : ∀ nd ∈ so.nds, nd.k ∈ fin) : ∀ x ∈ b.s.row, x ∈ fin := fun x hx => by
  rw [← row_of h] at hx
  refine e1a2 (List.mem_map.mp hx) fun nd hn zq277 => ?_
  subst zq277
  exact h2 nd hn
theorem ac_told {n N : Nat} (T : Top c) (hR : Rm (n + 6) A) (so : So) (b : Bk) (hb : BkOk b) (hf : Fits N b so) (hN : N ≤ 880) (o : Op) (ho : OpOk o) :
    AC c A (.ref 153) [.ref so.x, o.d] so.led (fun d G' => ∃ res, d = res.d ∧ ToldTo so.x (N + 7) b o res G') (fun _ _ _ => False) := by
  refine AC.shed (ac_fun (bs := [("sorter", .ref so.x), ("call", o.d)]) (fun L => ⟨L, [("sorter", .ref so.x), ("call", o.d)], []⟩) T.ok hR (DefOk.mk ⟨_, T.in (by with_unfolding_all rfl), by with_unfolding_all rfl⟩ ⟨_, _, _, _, rfl, T.in (by with_unfolding_all rfl), rfl, rfl⟩ rfl rfl rfl rfl rfl rfl rfl (by decide) (by decide)) (fun w vs hvs => ?_) (by show (["sorter", "call"] : List Str).Nodup; decide) (hk_of (by with_unfolding_all rfl)) (fun L => by with_unfolding_all rfl) (fun L env A' he hR' hA => ?_))
  · simp only [Rels] at hvs
    refine e2a3 hvs ?_
    try clear hvs
    intro v1 r1 zq278 h1 zq279
    subst zq278
    obtain ⟨v2, r2, rfl, h2, rfl⟩ := zq279
    exact bind_pure (by with_unfolding_all rfl) ⟨_, _, rfl, h1, _, _, rfl, h2, rfl⟩
  · have k1 : env.kindOf "sorter" = some .local := kind_of he (by with_unfolding_all rfl)
    have k2 : env.kindOf "call" = some .local := kind_of he (by with_unfolding_all rfl)
    have k3 : env.kindOf "fault" = some .local := kind_of he (by with_unfolding_all rfl)
    have k4 : env.kindOf "ValueError" = some .globalImplicit := kind_of he (by with_unfolding_all rfl)
    have k5 : env.kindOf "CycleError" = some .globalImplicit := kind_of he (by with_unfolding_all rfl)
    have k6 : env.kindOf "bool" = some .globalImplicit := kind_of he (by with_unfolding_all rfl)
    have k7 : env.kindOf "type" = some .globalImplicit := kind_of he (by with_unfolding_all rfl)
    have hi : interactive env = false := by rw [he]; with_unfolding_all rfl
    clear he
    have g1 := b_VE T
    have g2 := b_bool T
    have g3 := b_type T
    have g4 := g_CE T
    have m92 : findIn c.K (.ref 137) "prepare" = some (some (.ref 92)) := by rw [T.K]; with_unfolding_all rfl
    have t92 : typeIn c.K (.ref 92) = some (.type "function") := by rw [T.K]; with_unfolding_all rfl
    have kp92 : keepIn c.K (.ref 92) = true := by rw [T.K]; with_unfolding_all rfl
    have m99 : findIn c.K (.ref 137) "get_ready" = some (some (.ref 99)) := by rw [T.K]; with_unfolding_all rfl
    have t99 : typeIn c.K (.ref 99) = some (.type "function") := by rw [T.K]; with_unfolding_all rfl
    have kp99 : keepIn c.K (.ref 99) = true := by rw [T.K]; with_unfolding_all rfl
    have m106 : findIn c.K (.ref 137) "is_active" = some (some (.ref 106)) := by rw [T.K]; with_unfolding_all rfl
    have t106 : typeIn c.K (.ref 106) = some (.type "function") := by rw [T.K]; with_unfolding_all rfl
    have kp106 : keepIn c.K (.ref 106) = true := by rw [T.K]; with_unfolding_all rfl
    have m113 : findIn c.K (.ref 137) "__bool__" = some (some (.ref 113)) := by rw [T.K]; with_unfolding_all rfl
    have t113 : typeIn c.K (.ref 113) = some (.type "function") := by rw [T.K]; with_unfolding_all rfl
    have t87 : typeIn c.K (.ref 87) = some (.type "function") := by rw [T.K]; with_unfolding_all rfl
    have f87 : fnIn c.K 87 = true := by rw [T.K]; with_unfolding_all rfl
    have t120 : typeIn c.K (.ref 120) = some (.type "function") := by rw [T.K]; with_unfolding_all rfl
    have f120 : fnIn c.K 120 = true := by rw [T.K]; with_unfolding_all rfl
    have hcl := hf.cl hb
    have early : ∀ {o : Op}, o.late = true → b.over = false → ToldTo so.x (N + 7) b o (.refused wEarly) so.led := fun h1 h2 => ⟨b, so, .early h1 h2, rfl, hf.mono (by walk_at "q"), rfl⟩
    refine as_cons (as_Try hA (AT.mono (Q := TryQ so.x L [("sorter", .ref so.x), ("call", o.d)] (N + 7) b o) (E := TryE so.x L [("sorter", .ref so.x), ("call", o.d)] (N + 7) b o) ?_ ?_ ?_))
    · cases o with
      | add k ps =>
        have hp3 : ps.length ≤ 3 := ho
        refine as_cons (as_testT hR' k2 (by with_unfolding_all rfl) (by decide +kernel) (by decide) ?_)
        walk_at "M"
        refine ae_MethS ?_
        walk_at "M"
        refine geta_meth T.ok (cls137 T) (ge_add T) t87 (dx := so.dx) (es := so.at) (by walk_at "h") (by walk_at "h") (by with_unfolding_all rfl) fun ba => ?_
        refine args_star ?_
        refine ae_Slice (fun o i => .inr (by with_unfolding_all rfl)) ?_
        walk_at "M"
        refine sl_from (a := 1) (e := Key.d) (xs := Key.str "add" :: k :: ps) seq_list (by simp; walk_at "q") ?_
        refine col_list (by simp; walk_at "q") ?_
        cases hov : b.over with
        | false =>
          refine callk_bound T.ok f87 (.head _) (ac_add T hR' so (hf.yet hov) hf.n k ps (by have : ps.length ≤ 3 := ho; walk_at "q") (by walk_at "q")) (Rest := [(ba, .raw (methodObj (.ref 87) (.ref so.x)))]) (List.perm_append_comm (l₁ := [_])) ?_ (fun _ _ _ z => z.elim)
          intro d G' zr20
          refine e0a2 zr20 ?_
          try clear zr20
          intro zq280 zq281
          subst zq280
          obtain ⟨so', y1, y2, y3, y4, y5, y6, rfl⟩ := zq281
          have ho : ps.length ≤ 3 := ho
          walk_at "M"
          refine ⟨show 2 ≤ 1000000 by decide, ?_⟩
          walk_at "M"
          refine .mk [(ba, .raw (methodObj (.ref 87) (.ref so.x)))] so'.led ⟨_, so', .add hov, y1, ⟨?_, y5.mono (by walk_at "q"), y3.trans hf.out, y4.trans hf.fin, y2⟩, rfl⟩ List.perm_append_comm
          rw [y6, hf.pn]; exact add_mkL hb.ok k ps (hb.fresh hov)
        | true =>
          refine e1a1 (hf.over hov) fun r hr => ?_
          refine callk_bound T.ok f87 (.head _) (ac_add_late T hR' so (r, b.rl) hr k ps (by have : ps.length ≤ 3 := ho; walk_at "q")) (Rest := [(ba, .raw (methodObj (.ref 87) (.ref so.x)))]) (List.perm_append_comm (l₁ := [_])) (fun _ _ z => z.elim) ?_
          intro x y G' zr21
          refine e0a3 zr21 ?_
          try clear zr21
          intro zq282 zq283 zq284
          subst zq282
          subst zq283
          subst zq284
          exact .ve [(ba, .raw (methodObj (.ref 87) (.ref so.x)))] so.led ⟨b, so, .addLate hov, rfl, hf.mono (by walk_at "q"), rfl⟩ List.perm_append_comm
      | prep =>
        refine as_cons (as_testF hR' k2 (by with_unfolding_all rfl) (by decide +kernel) (by decide) (as_nil (after_next ?_)))
        refine as_cons (as_testT hR' k2 (by with_unfolding_all rfl) (by decide +kernel) (by decide) ?_)
        walk_at "M"
        refine meth_inst T.ok (cls137 T) m92 t92 (dx := so.dx) (es := so.at) (by walk_at "h") (by walk_at "h") (by with_unfolding_all rfl) ?_
        walk_at "M"
        cases hov : b.over with
        | false =>
          refine callk_ac (kok_K T.ok kp92) (ac_prep T hR' so (hf.yet hov) (hf.n.mono (M := N + 7) (by walk_at "q")) (by walk_at "q") hcl) (Rest := []) (by simp) ?_ ?_
          · intro d G' zr22
            refine e0a3 zr22 ?_
            try clear zr22
            intro zq285 zq286 zq287
            subst zq285
            obtain ⟨fin, h1, h2⟩ := zq286
            obtain ⟨r, rfl⟩ := zq287
            walk_at "M"
            refine ⟨show 2 ≤ 1000000 by decide, ?_⟩
            walk_at "M"
            rw [hf.pn] at h1 ⊢
            exact .mk [] ({ so with rdy := some (r, ready0 (mkL b.s)) } : So).led ⟨_, { so with rdy := some (r, ready0 (mkL b.s)) }, .prep hov fin h1 (fin_ok hf h2), rfl, ⟨hf.pn, hf.n.mono (by walk_at "q"), hf.out, hf.fin, ⟨r, rfl⟩⟩, rfl⟩ (by simp)
          · intro x y G' zr23
            refine e0a3 zr23 ?_
            try clear zr23
            intro zq288 zq289 zq290
            subst zq288
            obtain ⟨ring, rfl, h1, h2⟩ := zq289
            obtain ⟨r, rfl⟩ := zq290
            rw [hf.pn]
            exact .ce [] ({ so with rdy := some (r, ready0 (mkL b.s)) } : So).led ⟨_, { so with rdy := some (r, ready0 (mkL b.s)) }, .ring hov ring (ring_ok hf h1 h2), rfl, ⟨hf.pn, hf.n.mono (by walk_at "q"), hf.out, hf.fin, ⟨r, rfl⟩⟩, rfl⟩ (by simp)
        | true =>
          refine e1a1 (hf.over hov) fun r hr => ?_
          refine callk_ac (kok_K T.ok kp92) (ac_prep_late T hR' so (r, b.rl) hr) (Rest := []) (by simp) (fun _ _ z => z.elim) ?_
          intro x y G' zr24
          refine e0a3 zr24 ?_
          try clear zr24
          intro zq291 zq292 zq293
          subst zq291
          subst zq292
          subst zq293
          exact .ve [] so.led ⟨b, so, .prepLate hov, rfl, hf.mono (by walk_at "q"), rfl⟩ (by simp)
      | ready =>
        refine as_cons (as_testF hR' k2 (by with_unfolding_all rfl) (by decide +kernel) (by decide) (as_nil (after_next ?_)))
        refine as_cons (as_testF hR' k2 (by with_unfolding_all rfl) (by decide +kernel) (by decide) (as_nil (after_next ?_)))
        refine as_cons (as_testT hR' k2 (by with_unfolding_all rfl) (by decide +kernel) (by decide) ?_)
        walk_at "M"
        refine meth_inst T.ok (cls137 T) m99 t99 (dx := so.dx) (es := so.at) (by walk_at "h") (by walk_at "h") (by with_unfolding_all rfl) ?_
        walk_at "M"
        cases hov : b.over with
        | false =>
          refine callk_ac (kok_K T.ok kp99) (ac_early T hR' so (hf.yet hov)) (Rest := []) (by simp) (fun _ _ z => z.elim) ?_
          intro x y G' zr25
          refine e0a3 zr25 ?_
          try clear zr25
          intro zq294 zq295 zq296
          subst zq294
          subst zq295
          subst zq296
          exact .ve [] so.led (early rfl hov) (by simp)
        | true =>
          refine e1a1 (hf.over hov) fun r hr => ?_
          refine callk_ac (kok_K T.ok kp99) (ac_ready T hR' so r b.rl hr hf.n (Nat.le_trans (rl_len hf hb hov) (by walk_at "q")) fun x hx => (nf_of hf).mpr ((((hb.rdy hov).mem x).mp hx).1)) (Rest := []) (by simp) ?_ (fun _ _ _ z => z.elim)
          intro d G' zr26
          refine e0a2 zr26 ?_
          try clear zr26
          intro zq297 zq298
          subst zq297
          obtain ⟨so', y1, y2, y3, y4, y5, y6, rfl⟩ := zq298
          walk_at "M"
          refine ⟨show 2 ≤ 1000000 by decide, ?_⟩
          walk_at "M"
          refine .mk [] _ ⟨_, so', .ready hov, y1, ⟨?_, y5.mono (by walk_at "q"), ?_, y4.trans hf.fin, ⟨r, y2⟩⟩, rfl⟩ (by simp)
          · rw [y6, hf.pn]; exact give_mkL hb.ok (hb.rdy hov)
          · rw [y3, hf.out]; simp [LS.give]
      | done ks =>
        have hl8 : ks.length ≤ 8 := ho.1
        refine as_cons (as_testF hR' k2 (by with_unfolding_all rfl) (by decide +kernel) (by decide) (as_nil (after_next ?_)))
        refine as_cons (as_testF hR' k2 (by with_unfolding_all rfl) (by decide +kernel) (by decide) (as_nil (after_next ?_)))
        refine as_cons (as_testF hR' k2 (by with_unfolding_all rfl) (by decide +kernel) (by decide) (as_nil (after_next ?_)))
        refine as_cons (as_testT hR' k2 (by with_unfolding_all rfl) (by decide +kernel) (by decide) ?_)
        walk_at "M"
        refine ae_MethS ?_
        walk_at "M"
        refine geta_meth T.ok (cls137 T) (ge_done T) t120 (dx := so.dx) (es := so.at) (by walk_at "h") (by walk_at "h") (by with_unfolding_all rfl) fun ba => ?_
        refine args_star ?_
        refine ae_Slice (fun o i => .inr (by with_unfolding_all rfl)) ?_
        walk_at "M"
        refine sl_from (a := 1) (e := Key.d) (xs := Key.str "done" :: ks) seq_list (by simp; walk_at "q") ?_
        refine col_list (by simp; walk_at "q") ?_
        cases hov : b.over with
        | false =>
          refine callk_bound T.ok f120 (.head _) (ac_done_early T hR' so (hf.yet hov) ks (by have : ks.length ≤ 8 := ho.1; walk_at "q")) (Rest := [(ba, .raw (methodObj (.ref 120) (.ref so.x)))]) (List.perm_append_comm (l₁ := [_])) (fun _ _ z => z.elim) ?_
          intro x y G' zr27
          refine e0a3 zr27 ?_
          try clear zr27
          intro zq299 zq300 zq301
          subst zq299
          subst zq300
          subst zq301
          exact .ve [(ba, .raw (methodObj (.ref 120) (.ref so.x)))] so.led (early rfl hov) List.perm_append_comm
        | true =>
          refine e1a1 (hf.over hov) fun r hr => ?_
          refine e2a4 (doneP_mkL (fun s rl => RdyOk s rl) (fun s rl k h R ho hk => R.done h ho hk) ks b.s b.rl hb.ok (hb.rdy hov)) fun rl' m e1 e2 e3 e4 => ?_
          have hl8 : ks.length ≤ 8 := ho.1
          have hfin : ∀ so' : So, so'.fin = so.fin + m → so'.fin = ((b.gone ks).gone.length : Int) := fun so' e => by
            rw [e, hf.fin]; show _ = ((lawDone b.s.row b.s.out ks b.s.gone).1.length : Int); rw [e2]; walk_at "q"
          have to : ∀ so' : So, so'.x = so.x → so'.rdy = some (r, rl') → so'.out = so.out → so'.fin = so.fin + m → NOk N so'.nds → pn so'.nds = mkL (b.gone ks) → ToldTo so.x (N + 7) b (.done ks) (resO (lawDone b.s.row b.s.out ks b.s.gone).2) so'.led := fun so' y1 y2 y3 y4 y5 y6 =>
            ⟨_, so', .done hov rl' e3 e4, y1, ⟨y6, y5.mono (by walk_at "q"), y3.trans hf.out, hfin so' y4, ⟨r, y2⟩⟩, rfl⟩
          refine callk_bound T.ok f120 (.head _) (ac_done (B := N) T hR' so r b.rl hr hf.n (rl_len hf hb hov) ks (by walk_at "q") (by have := Nat.mul_le_mul_right N hl8; walk_at "q") hcl ho.2 _ m _ (hf.pn ▸ e1)) (Rest := [(ba, .raw (methodObj (.ref 120) (.ref so.x)))]) (List.perm_append_comm (l₁ := [_])) ?_ ?_
          · intro d G' zr28
            refine e0a3 zr28 ?_
            try clear zr28
            intro hn zq302 zq303
            subst zq302
            obtain ⟨so', y1, y2, y3, y4, y5, y6, y7, rfl⟩ := zq303
            walk_at "M"
            refine ⟨show 2 ≤ 1000000 by decide, ?_⟩
            walk_at "M"
            have z := to so' y1 y2 y3 y4 y5 y6
            rw [hn] at z
            exact .mk [(ba, .raw (methodObj (.ref 120) (.ref so.x)))] so'.led z List.perm_append_comm
          · intro x y G' zr29
            refine e0a2 zr29 ?_
            try clear zr29
            intro zq304 zq305
            subst zq304
            obtain ⟨w, hn, rfl, so', y1, y2, y3, y4, y5, y6, y7, rfl⟩ := zq305
            have z := to so' y1 y2 y3 y4 y5 y6
            rw [hn] at z
            exact .ve [(ba, .raw (methodObj (.ref 120) (.ref so.x)))] so'.led z List.perm_append_comm
      | act =>
        refine as_cons (as_testF hR' k2 (by with_unfolding_all rfl) (by decide +kernel) (by decide) (as_nil (after_next ?_)))
        refine as_cons (as_testF hR' k2 (by with_unfolding_all rfl) (by decide +kernel) (by decide) (as_nil (after_next ?_)))
        refine as_cons (as_testF hR' k2 (by with_unfolding_all rfl) (by decide +kernel) (by decide) (as_nil (after_next ?_)))
        refine as_cons (as_testF hR' k2 (by with_unfolding_all rfl) (by decide +kernel) (by decide) (as_nil (after_next ?_)))
        walk_at "M"
        refine geti_nat (T := "list") (xs := [Key.str "is_active"].map Key.d) seq_list (.inl rfl) 0 (by decide) rfl ?_
        walk_at "M"
        refine op_eqS hR' ?_
        walk_at "M"
        refine kIte_t (by decide) ?_
        walk_at "M"
        refine meth_inst T.ok (cls137 T) m106 t106 (dx := so.dx) (es := so.at) (by walk_at "h") (by walk_at "h") (by with_unfolding_all rfl) ?_
        walk_at "M"
        cases hov : b.over with
        | false =>
          refine callk_ac (kok_K T.ok kp106) (ac_active_early T hR' so (hf.yet hov)) (Rest := []) (by simp) (fun _ _ z => z.elim) ?_
          intro x y G' zr30
          refine e0a3 zr30 ?_
          try clear zr30
          intro zq306 zq307 zq308
          subst zq306
          subst zq307
          subst zq308
          exact .ve [] so.led (early rfl hov) (by simp)
        | true =>
          refine e1a1 (hf.over hov) fun r hr => ?_
          refine callk_ac (kok_K T.ok kp106) (ac_active T hR' so r b.rl hr (Nat.le_trans (rl_len hf hb hov) (by walk_at "q"))) (Rest := []) (by simp) ?_ (fun _ _ _ z => z.elim)
          intro d G' zr31
          refine e0a2 zr31 ?_
          try clear zr31
          intro zq309 zq310
          subst zq309
          subst zq310
          walk_at "M"
          refine ⟨show 2 ≤ 1000000 by decide, ?_⟩
          walk_at "M"
          have hact : (decide (so.fin < so.out) || !b.rl.isEmpty) = b.act := by unfold Bk.act; rw [hf.fin, hf.out]
          rw [hact]
          exact .mk [] so.led ⟨b, so, .act hov, rfl, hf.mono (by walk_at "q"), rfl⟩ (by simp)
      | boo =>
        refine as_cons (as_testF hR' k2 (by with_unfolding_all rfl) (by decide +kernel) (by decide) (as_nil (after_next ?_)))
        refine as_cons (as_testF hR' k2 (by with_unfolding_all rfl) (by decide +kernel) (by decide) (as_nil (after_next ?_)))
        refine as_cons (as_testF hR' k2 (by with_unfolding_all rfl) (by decide +kernel) (by decide) (as_nil (after_next ?_)))
        refine as_cons (as_testF hR' k2 (by with_unfolding_all rfl) (by decide +kernel) (by decide) (as_nil (after_next ?_)))
        walk_at "M"
        refine geti_nat (T := "list") (xs := [Key.str "bool"].map Key.d) seq_list (.inl rfl) 0 (by decide) rfl ?_
        walk_at "M"
        refine op_eqS hR' ?_
        walk_at "M"
        refine kIte_f (by decide) ?_
        walk_at "M"
        cases hov : b.over with
        | false =>
          refine callk_typ (call_boolI T.ok m113 t113 (dx := so.dx) (es := so.at) (by walk_at "h") (by walk_at "h") (ac_bool_early T hR'.in1.in1 so (hf.yet hov)) (Rest := []) (by simp) (fun _ _ z => z.elim) ?_)
          intro x y G' zr32
          refine e0a3 zr32 ?_
          try clear zr32
          intro zq311 zq312 zq313
          subst zq311
          subst zq312
          subst zq313
          exact .ve [] so.led (early rfl hov) (by simp)
        | true =>
          refine e1a1 (hf.over hov) fun r hr => ?_
          refine callk_typ (call_boolI T.ok m113 t113 (dx := so.dx) (es := so.at) (by walk_at "h") (by walk_at "h") (ac_bool T hR'.in1.in1 so r b.rl hr (Nat.le_trans (rl_len hf hb hov) (by walk_at "q"))) (Rest := []) (by simp) ?_ (fun _ _ _ z => z.elim))
          intro d G' zr33
          refine e0a2 zr33 ?_
          try clear zr33
          intro zq314 zq315
          subst zq314
          subst zq315
          refine ⟨_, rfl, ?_⟩
          walk_at "M"
          refine ⟨show 2 ≤ 1000000 by decide, ?_⟩
          walk_at "M"
          have hact : (decide (so.fin < so.out) || !b.rl.isEmpty) = b.act := by unfold Bk.act; rw [hf.fin, hf.out]
          rw [hact]
          exact .mk [] so.led ⟨b, so, .boo hov, rfl, hf.mono (by walk_at "q"), rfl⟩ (by simp)
    · intro fl F G zr34
      obtain ⟨Rest, G1, h1, h2⟩ := zr34
      refine after_ret ?_
      exact ⟨_, G1, h2, _, rfl, h1⟩
    · rintro cls args F G z
      cases z with
      | ve Rest G1 h1 h2 =>
        refine ah_miss (match_ownMiss k5 g4 T.exc (by decide) (VE_notOwn 55)) ?_
        refine ah_hitAs (match_type k4 g1 (by with_unfolding_all rfl) (by with_unfolding_all rfl) (by with_unfolding_all rfl)) k3 fun e => ?_
        walk_at "M"
        refine callk_typ (call_typeX (X := "ValueError") (by decide) (.head _) ?_)
        walk_at "M"
        refine op_isTyp ?_
        walk_at "M"
        refine ⟨show 2 ≤ 1000000 by decide, ?_⟩
        walk_at "M"
        refine geta_args (X := "ValueError") PySem.F.attr_ValueError (.head _) ?_
        walk_at "M"
        refine op_addT (by simp) (by simp) (by simp) ?_
        walk_at "M"
        exact ⟨_, rfl, _, G1, h2, _, rfl, h1⟩
      | ce Rest G1 h1 h2 =>
        refine ah_hitAs (match_own k5 g4 T.exc (by decide)) k3 fun e => ?_
        walk_at "M"
        refine ⟨show 1 ≤ 1000000 by decide, ?_⟩
        walk_at "M"
        refine geta_argsO T (.head _) ?_
        walk_at "M"
        refine op_addT (by simp) (by simp) (by simp) ?_
        walk_at "M"
        exact ⟨_, rfl, _, G1, h2, _, rfl, h1⟩
end
section
variable {c : Cx} {A : Around}
theorem nl {P : Prop} (z : PySem.NameKind.local = .cell ∨ PySem.NameKind.local = .free) : P := by rcases z with z | z <;> cases z
noncomputable def rdyB (s : LS) (x : Key) : Bool := !decide (x ∈ s.out) && ((preds s.st x).filter fun a => !decide (a ∈ s.gone)).isEmpty
inductive ReadyTo (s : LS) (G : Led) : D → Led → Prop
  | mk (ts : List Tri) (h1 : ∀ t ∈ ts, IsRank s t) (h2 : ts.map (·.2.2) = s.row.filter (rdyB s)) : ReadyTo s G (.tuple (((srt ord2 kT ts).map (·.2.2)).map Key.d)) G
theorem ready_of {s : LS} {rl : List Key} (h : LOk s) (R : RdyOk s rl) {G G' : Led} {d : D} (t : ReadyTo s G d G') : d = .tuple (rl.map Key.d) ∧ G' = G := by
  obtain ⟨ts, h1, h2⟩ := t
  refine ⟨?_, rfl⟩
  rw [ready_eq h R h1 (h2.trans ?_)]
  refine List.filter_congr fun x hx => ?_
  rw [Bool.eq_iff_iff, decide_eq_true_iff, R.mem x]
  unfold rdyB Rdy
  rw [Bool.and_eq_true, Bool.not_eq_true', decide_eq_false_iff_not, List.isEmpty_iff, List.filter_eq_nil_iff]
  exact ⟨fun ⟨a, b⟩ => ⟨hx, a, fun y hy => by simpa using b y hy⟩, fun ⟨_, a, b⟩ => ⟨a, fun y hy => by simpa using b y hy⟩⟩
noncomputable abbrev ledB (s : LS) (ra sa oa ga : Addr) : Led := [(ra, .list (s.row.map Key.d)), (sa, .list (s.st.map pK)), (oa, .list (s.out.map Key.d)), (ga, .list (s.gone.map Key.d))]
inductive InvR (s : LS) (ra sa oa ga rd L : Addr) (i : Nat) : Frm → Led → Prop
  | mk (loc) (vl vx : Option D) (ts : List Tri) (xs : List D) (hxs : xs = ts.map pT) (h1 : ∀ t ∈ ts, IsRank s t) (h2 : ts.map (·.2.2) = (s.row.take i).filter (rdyB s)) (l1 : List.lookup ("row" : Str) loc = some (.ref ra)) (l2 : List.lookup ("out" : Str) loc = some (.ref oa)) (l3 : List.lookup ("ready" : Str) loc = some (.ref rd)) :
      InvR s ra sa oa ga rd L i ⟨L, loc, [("last", L + 1 + 1 + 1 + 1, vl), ("x", L + 1 + 1 + 1, vx), ("gone", L + 1 + 1, some (.ref ga)), ("steps", L + 1, some (.ref sa))]⟩ ((rd, .list xs) :: ledB s ra sa oa ga)
theorem ac_rdy {n : Nat} (T : Top c) (hR : Rm (n + 1) A) (s : LS) (h : LOk s) (hrl : s.row.length ≤ 60) (hsl : s.st.length ≤ 1000) (hgl : s.gone.length ≤ 1000) (ra sa oa ga : Addr) :
    AC c A (.ref 158) [.ref ra, .ref sa, .ref oa, .ref ga] (ledB s ra sa oa ga) (ReadyTo s (ledB s ra sa oa ga)) (fun _ _ _ => False) := by
  refine AC.shed (ac_fun (bs := [("row", .ref ra), ("steps", .ref sa), ("out", .ref oa), ("gone", .ref ga)]) (fun L => ⟨L, [("row", .ref ra), ("out", .ref oa)], [("last", L + 1 + 1 + 1 + 1, none), ("x", L + 1 + 1 + 1, none), ("gone", L + 1 + 1, some (.ref ga)), ("steps", L + 1, some (.ref sa))]⟩) T.ok hR (DefOk.mk ⟨_, T.in (by with_unfolding_all rfl), by with_unfolding_all rfl⟩ ⟨_, _, _, _, rfl, T.in (by with_unfolding_all rfl), rfl, rfl⟩ rfl rfl rfl rfl rfl rfl rfl (by decide) (by decide)) (fun w vs hvs => ?_) (by show (["row", "steps", "out", "gone"] : List Str).Nodup; decide) (hk_of (by with_unfolding_all rfl)) (fun L => by with_unfolding_all rfl) (fun L env A' he hR' hA => ?_))
  · simp only [Rels] at hvs
    refine e2a3 hvs ?_
    try clear hvs
    intro v1 r1 zq316 h1 zq317
    subst zq316
    obtain ⟨v2, r2, rfl, h2, v3, r3, rfl, h3, v4, r4, rfl, h4, rfl⟩ := zq317
    exact bind_pure (by with_unfolding_all rfl) ⟨_, _, rfl, h1, _, _, rfl, h2, _, _, rfl, h3, _, _, rfl, h4, rfl⟩
  · have k_row : env.kindOf "row" = some .local := kind_of he (by with_unfolding_all rfl)
    have k_steps : env.kindOf "steps" = some .cell := kind_of he (by with_unfolding_all rfl)
    have k_out : env.kindOf "out" = some .local := kind_of he (by with_unfolding_all rfl)
    have k_gone : env.kindOf "gone" = some .cell := kind_of he (by with_unfolding_all rfl)
    have k_ready : env.kindOf "ready" = some .local := kind_of he (by with_unfolding_all rfl)
    have k_x : env.kindOf "x" = some .cell := kind_of he (by with_unfolding_all rfl)
    have k_ahead : env.kindOf "ahead" = some .local := kind_of he (by with_unfolding_all rfl)
    have k_last : env.kindOf "last" = some .cell := kind_of he (by with_unfolding_all rfl)
    have k_max : env.kindOf "max" = some .globalImplicit := kind_of he (by with_unfolding_all rfl)
    have k_range : env.kindOf "range" = some .globalImplicit := kind_of he (by with_unfolding_all rfl)
    have k_len : env.kindOf "len" = some .globalImplicit := kind_of he (by with_unfolding_all rfl)
    have k_tuple : env.kindOf "tuple" = some .globalImplicit := kind_of he (by with_unfolding_all rfl)
    have k_sorted : env.kindOf "sorted" = some .globalImplicit := kind_of he (by with_unfolding_all rfl)
    have hi : interactive env = false := by rw [he]; with_unfolding_all rfl
    have b1 := b_max T
    have b2 := b_range T
    have b3 := b_len T
    have b4 := b_tuple T
    have b5 := b_sorted T
    have pl : ∀ x, (preds s.st x).length ≤ 1000 := fun x => by unfold preds; rw [List.length_map]; exact Nat.le_trans (List.length_filter_le _ _) hsl
    walk_at "M"
    refine ae_ListM ?_
    walk_at "M"
    refine ⟨by simp, fun rd => ?_⟩
    walk_at "M"
    refine as_For hA ?_
    walk_at "M"
    refine ForK.ofE (e := Key.d) s.row (fun G => (ra, O.list (s.row.map Key.d)) ∈ G) (InvR s ra sa oa ga rd L) (iter_mut (xs := s.row.map Key.d) hR') ⟨_, none, none, [], [], rfl, fun _ z => (by cases z), by simp, by with_unfolding_all rfl, by with_unfolding_all rfl, by with_unfolding_all rfl⟩ ?_ ?_ ?_
    · intro i F G zr35
      obtain ⟨loc, vl, vx, ts, _, _, _, _, _, _, _⟩ := zr35
      exact List.mem_append_right _ (by walk_at "h")
    · intro i x F G hx z
      induction z with
      | mk loc vl vx ts xs hxs h1 h2 l1 l2 l3 =>
      subst hxs
      have hxr : x ∈ s.row := List.mem_of_getElem? hx
      have hil : i < s.row.length := (List.getElem?_eq_some_iff.mp hx).1
      have htl : ts.length ≤ 60 := by
        have e := congrArg List.length h2
        rw [List.length_map] at e
        rw [e]
        exact Nat.le_trans (List.length_filter_le _ _) (by rw [List.length_take]; walk_at "q")
      have h2' : (s.row.take (i + 1)).filter (rdyB s) = (s.row.take i).filter (rdyB s) ++ if rdyB s x then [x] else [] := by
        rw [List.take_add_one, hx, List.filter_append]
        congr 1
        show List.filter (rdyB s) [x] = _
        rw [List.filter_cons, List.filter_nil]
      walk_at "M"
      refine as_AssignCompE pK_inj T.ok ⟨by rw [he]; with_unfolding_all rfl, rfl, by decide, by decide⟩ k_ahead ?_ (by rw [he]; with_unfolding_all rfl)
      walk_at "M"
      refine ⟨s.st, fun p => decide (p.2 = x), fun p => p.1.d, ⟨by rw [he]; exact ⟨fun _ => rfl, fun _ => rfl, fun _ => rfl, fun _ => rfl, trivial⟩, ⟨_, iter_mut (xs := s.st.map pK) hR', List.mem_append_right _ (by walk_at "h"), fun C loc' a o => List.mem_append_right _ (by walk_at "h")⟩, by walk_at "q", fun C a1 ys loc' p hp => ?_⟩, ?_⟩
      · generalize hce : compEnvC _ _ C env = ce
        have c_a : ce.kindOf "a" = some .local := kind_of hce.symm (by rw [he]; with_unfolding_all rfl)
        have c_b : ce.kindOf "b" = some .local := kind_of hce.symm (by rw [he]; with_unfolding_all rfl)
        have c_x : ce.kindOf "x" = some .cell := kind_of hce.symm (by rw [he]; with_unfolding_all rfl)
        refine asg_T2 hR' ?_
        walk_at "M"
        refine tst_one ?_
        walk_at "M"
        refine op_eqK hR' ?_
        walk_at "M"
        refine ⟨rfl, ?_⟩
        by_cases q : p.2 = x
        · refine ite_t (decide_eq_true q) ?_
          walk_at "M"
          exact ⟨rfl, ⟨_, rfl⟩, rfl⟩
        · refine ite_f (by rw [decide_eq_false q]; decide) ?_
          exact ⟨⟨_, rfl⟩, rfl⟩
      rw [show (s.st.filter fun p => decide (p.2 = x)).map (fun p => p.1.d) = (preds s.st x).map Key.d by unfold preds; rw [List.map_map]; rfl]
      have hpl := pl x
      walk_at "M"
      refine ai_keep (!decide (x ∈ s.out) && (preds s.st x).isEmpty) ?_ ?_
      · refine ai_BoolOp (all_And ?_)
        walk_at "M"
        refine op_ninK hR' (seq_mut (xs := s.out.map Key.d) (by walk_at "h")) (.inl rfl) ?_
        walk_at "M"
        by_cases q : x ∈ s.out
        · exact kAnd_f (by rw [decide_eq_true q]; rfl) ⟨by rw [decide_eq_true q]; rfl, rfl, rfl⟩
        · refine kAnd_t (by rw [decide_eq_false q]; rfl) (all_And ?_)
          walk_at "M"
          refine ae_List ?_
          walk_at "M"
          refine ⟨by decide, ?_⟩
          refine op_eqNil hR' seq_list (keys_data (preds s.st x)) ?_
          walk_at "M"
          rw [decide_eq_false q, List.isEmpty_map]
          cases hz : (preds s.st x).isEmpty with
          | true => exact kAnd_t rfl (all_nil ⟨rfl, rfl, rfl⟩)
          | false => exact kAnd_f rfl ⟨rfl, rfl, rfl⟩
      by_cases qo : x ∈ s.out
      · have hb : rdyB s x = false := by unfold rdyB; rw [decide_eq_true qo]; rfl
        refine kIf_f (by rw [decide_eq_true qo]; rfl) ?_
        walk_at "M"
        refine ai_keep false ?_ ?_
        · refine ai_BoolOp (all_And ?_)
          walk_at "M"
          refine op_ninK hR' (seq_mut (xs := s.out.map Key.d) (by walk_at "h")) (.inl rfl) ?_
          walk_at "M"
          exact kAnd_f (by rw [decide_eq_true qo]; rfl) ⟨rfl, rfl, rfl⟩
        refine kIf_f rfl ?_
        walk_at "M"
        exact ⟨_, _, _, ts, _, rfl, h1, by rw [h2', hb, h2]; simp, by with_unfolding_all assumption, by with_unfolding_all assumption, by with_unfolding_all assumption⟩
      by_cases qp : preds s.st x = []
      · have hb : rdyB s x = true := by unfold rdyB; rw [decide_eq_false qo, qp]; rfl
        refine kIf_t (by rw [decide_eq_false qo, qp]; rfl) ?_
        walk_at "M"
        refine meth_list PySem.F.slot_list_append (by with_unfolding_all rfl) (seq_mut (xs := ts.map pT) (by walk_at "h")) ?_
        walk_at "M"
        refine meth_list PySem.F.slot_list_index (by with_unfolding_all rfl) (seq_mut (xs := s.row.map Key.d) (by walk_at "h")) ?_
        walk_at "M"
        refine callk_bi (call_index (ks := s.row) (seq_mut (by walk_at "h")) hxr (by walk_at "q") ?_)
        walk_at "M"
        refine ⟨show 3 ≤ 1000000 by decide, ?_⟩
        walk_at "M"
        refine callk_bi (call_append (G1 := []) (by simp; walk_at "q") ?_)
        walk_at "M"
        refine ⟨_, _, _, ts ++ [(-1, ((s.row.idxOf x : Nat) : Int), x)], _, (by rw [List.map_append]; rfl), fun t ht => ?_, ?_, by with_unfolding_all assumption, by with_unfolding_all assumption, by with_unfolding_all assumption⟩
        · rcases List.mem_append.mp ht with z | z
          · exact h1 t z
          · obtain rfl := List.mem_singleton.mp z
            exact .inl ⟨qp, rfl, rfl⟩
        · rw [List.map_append, h2, h2', hb]; rfl
      have hne : (preds s.st x).isEmpty = false := List.isEmpty_eq_false_iff.mpr qp
      refine kIf_f (by rw [hne, Bool.and_false]) ?_
      walk_at "M"
      refine ai_keep ((preds s.st x).filter fun a => !decide (a ∈ s.gone)).isEmpty ?_ ?_
      · refine ai_BoolOp (all_And ?_)
        walk_at "M"
        refine op_ninK hR' (seq_mut (xs := s.out.map Key.d) (by walk_at "h")) (.inl rfl) ?_
        walk_at "M"
        refine kAnd_t (by rw [decide_eq_false qo]; rfl) (all_And ?_)
        walk_at "M"
        refine ae_CompE key_inj T.ok ⟨by rw [he]; with_unfolding_all rfl, rfl, by decide, by decide⟩ ?_
        walk_at "M"
        refine ⟨preds s.st x, fun a => !decide (a ∈ s.gone), Key.d, ⟨by rw [he]; exact ⟨fun _ => rfl, fun _ => rfl, fun _ => rfl, trivial⟩, ⟨_, iter_list hR', trivial, fun _ _ _ _ => trivial⟩, by walk_at "q", fun C a1 ys loc' a ha => ?_⟩, ?_⟩
        · generalize hce : compEnvC _ _ C env = ce
          have c_a : ce.kindOf "a" = some .local := kind_of hce.symm (by rw [he]; with_unfolding_all rfl)
          have c_gone : ce.kindOf "gone" = some .cell := kind_of hce.symm (by rw [he]; with_unfolding_all rfl)
          walk_at "M"
          refine tst_one ?_
          walk_at "M"
          refine op_ninK hR' (seq_mut (xs := s.gone.map Key.d) (by walk_at "h")) (.inl rfl) ?_
          walk_at "M"
          refine ⟨rfl, ?_⟩
          by_cases q : a ∈ s.gone
          · refine ite_f (by rw [decide_eq_true q]; decide) ?_
            exact ⟨⟨_, rfl⟩, rfl⟩
          · refine ite_t (by rw [decide_eq_false q]; rfl) ?_
            walk_at "M"
            exact ⟨rfl, ⟨_, rfl⟩, rfl⟩
        walk_at "M"
        refine ae_List ?_
        walk_at "M"
        refine ⟨by decide, ?_⟩
        refine op_eqNil hR' seq_list (keys_data _) ?_
        walk_at "M"
        rw [List.isEmpty_map]
        cases hz : ((preds s.st x).filter fun a => !decide (a ∈ s.gone)).isEmpty with
        | true => exact kAnd_t rfl (all_nil ⟨rfl, rfl, rfl⟩)
        | false => exact kAnd_f rfl ⟨rfl, rfl, rfl⟩
      cases hz : ((preds s.st x).filter fun a => !decide (a ∈ s.gone)).isEmpty with
      | false =>
        have hb : rdyB s x = false := by unfold rdyB; rw [hz, Bool.and_false]
        refine kIf_f rfl ?_
        walk_at "M"
        exact ⟨_, _, _, ts, _, rfl, h1, by rw [h2', hb, h2]; simp, by with_unfolding_all assumption, by with_unfolding_all assumption, by with_unfolding_all assumption⟩
      | true =>
        have hb : rdyB s x = true := by unfold rdyB; rw [decide_eq_false qo, hz]; rfl
        have hg : ∀ a ∈ preds s.st x, a ∈ s.gone := fun a ha => by
          rw [List.isEmpty_iff, List.filter_eq_nil_iff] at hz
          simpa using hz a ha
        refine kIf_t rfl ?_
        walk_at "M"
        refine ae_CompE key_inj T.ok ⟨by rw [he]; with_unfolding_all rfl, rfl, by decide, by decide⟩ ?_
        walk_at "M"
        refine .all (preds s.st x) (fun a => .int ((s.gone.idxOf a : Nat) : Int)) ⟨by rw [he]; exact ⟨fun _ => rfl, fun _ => rfl, fun _ => rfl, trivial⟩, ⟨_, iter_list hR', trivial, fun _ _ _ _ => trivial⟩, by walk_at "q", fun C a1 ys loc' a ha => ?_⟩ ?_
        · generalize hce : compEnvC _ _ C env = ce
          have c_a : ce.kindOf "a" = some .local := kind_of hce.symm (by rw [he]; with_unfolding_all rfl)
          have c_gone : ce.kindOf "gone" = some .cell := kind_of hce.symm (by rw [he]; with_unfolding_all rfl)
          walk_at "M"
          refine tst_nil ⟨rfl, ?_⟩
          refine ite_t rfl ?_
          walk_at "M"
          refine meth_list PySem.F.slot_list_index (by with_unfolding_all rfl) (seq_mut (xs := s.gone.map Key.d) (by walk_at "h")) ?_
          walk_at "M"
          refine callk_bi (call_index (ks := s.gone) (seq_mut (by walk_at "h")) (hg a ha) (by walk_at "q") ?_)
          exact ⟨rfl, ⟨_, rfl⟩, rfl⟩
        rw [show (preds s.st x).map (fun a => D.int ((s.gone.idxOf a : Nat) : Int)) = ((preds s.st x).map fun a => ((s.gone.idxOf a : Nat) : Int)).map D.int by rw [List.map_map]; rfl]
        walk_at "M"
        refine callk_bi (call_max hR' seq_list (by simpa using qp) fun Mx hM hle => ?_)
        refine e1a2 (List.mem_map.mp hM) fun g hgp zq318 => ?_
        subst zq318
        have hgi : s.gone.idxOf g < s.gone.length := List.idxOf_lt_length_of_mem (hg g hgp)
        have hgg : s.gone[s.gone.idxOf g]? = some g := by rw [List.getElem?_eq_getElem hgi, List.getElem_idxOf]
        have hle2 : ∀ a ∈ preds s.st x, s.gone.idxOf a ≤ s.gone.idxOf g := fun a ha => by
          have := hle _ (List.mem_map_of_mem ha)
          walk_at "q"
        walk_at "M"
        refine meth_list PySem.F.slot_list_append (by with_unfolding_all rfl) (seq_mut (xs := ts.map pT) (by walk_at "h")) ?_
        walk_at "M"
        refine ae_CompE nat_inj T.ok ⟨by rw [he]; with_unfolding_all rfl, rfl, by decide, by decide⟩ ?_
        walk_at "M"
        refine callk_bi (call_len (T := "list") (seq_mut (xs := s.st.map pK) (by walk_at "h")) (.inl rfl) (by simp; walk_at "q") ?_)
        rw [List.length_map]
        walk_at "M"
        refine callk_typ (call_range1 ?_)
        refine ⟨List.range s.st.length, fun k => decide (s.st[k]? = some (g, x)), fun k => .int k, ⟨by rw [he]; exact ⟨fun _ => rfl, fun _ => rfl, fun _ => rfl, fun _ => rfl, fun _ => rfl, fun _ => rfl, trivial⟩, ⟨_, iter_rng hR' (by walk_at "q"), trivial, fun _ _ _ _ => trivial⟩, by simp; walk_at "q", fun C a1 ys loc' k hk => ?_⟩, ?_⟩
        · generalize hce : compEnvC _ _ C env = ce
          have c_k : ce.kindOf "k" = some .local := kind_of hce.symm (by rw [he]; with_unfolding_all rfl)
          have c_gone : ce.kindOf "gone" = some .cell := kind_of hce.symm (by rw [he]; with_unfolding_all rfl)
          have c_last : ce.kindOf "last" = some .cell := kind_of hce.symm (by rw [he]; with_unfolding_all rfl)
          have c_steps : ce.kindOf "steps" = some .cell := kind_of hce.symm (by rw [he]; with_unfolding_all rfl)
          have c_x : ce.kindOf "x" = some .cell := kind_of hce.symm (by rw [he]; with_unfolding_all rfl)
          have hkl : k < s.st.length := List.mem_range.mp hk
          walk_at "M"
          refine tst_one ?_
          walk_at "M"
          refine geti_nat (T := "list") (seq_mut (xs := s.st.map pK) (by walk_at "h")) (.inl rfl) k (by walk_at "q") (e := pK (s.st[k])) (by rw [List.getElem?_map, List.getElem?_eq_getElem hkl]; rfl) ?_
          walk_at "M"
          refine geti_nat (T := "list") (seq_mut (xs := s.gone.map Key.d) (by walk_at "h")) (.inl rfl) (s.gone.idxOf g) (by walk_at "q") (e := g.d) (by rw [List.getElem?_map, hgg]; rfl) ?_
          walk_at "M"
          refine ⟨show 2 ≤ 1000000 by decide, ?_⟩
          refine op_eqP (b := (g, x)) hR' ?_
          walk_at "M"
          refine ⟨by rw [List.getElem?_eq_getElem hkl]; simp only [Option.some.injEq], ?_⟩
          by_cases q : s.st[k] = (g, x)
          · refine ite_t (decide_eq_true q) ?_
            walk_at "M"
            exact ⟨rfl, ⟨_, rfl⟩, rfl⟩
          · refine ite_f (by rw [decide_eq_false q]; decide) ?_
            exact ⟨⟨_, rfl⟩, rfl⟩
        rw [show ((List.range s.st.length).filter fun k => decide (s.st[k]? = some (g, x))).map (fun (k : Nat) => D.int (k : Int)) = (((List.range s.st.length).filter fun k => decide (s.st[k]? = some (g, x))).map fun k => ((k : Nat) : Int)).map D.int by rw [List.map_map]; rfl]
        walk_at "M"
        refine callk_bi (call_max hR' seq_list ?_ fun Mx hM2 hmx => ?_)
        · refine e1a1 (List.getElem?_of_mem (mem_preds.mp hgp)) fun j hj => ?_
          refine List.ne_nil_of_mem (a := (j : Int)) (List.mem_map.mpr ⟨j, List.mem_filter.mpr ⟨List.mem_range.mpr (List.getElem?_eq_some_iff.mp hj).1, decide_eq_true hj⟩, rfl⟩)
        refine e1a2 (List.mem_map.mp hM2) fun m hm zq319 => ?_
        subst zq319
        have hm2 : s.st[m]? = some (g, x) := of_decide_eq_true (List.mem_filter.mp hm).2
        walk_at "M"
        refine ⟨show 3 ≤ 1000000 by decide, ?_⟩
        walk_at "M"
        refine callk_bi (call_append (G1 := []) (by simp; walk_at "q") ?_)
        walk_at "M"
        refine ⟨_, _, _, ts ++ [(((s.gone.idxOf g : Nat) : Int), ((m : Nat) : Int), x)], _, (by rw [List.map_append]; rfl), fun t ht => ?_, ?_, by with_unfolding_all assumption, by with_unfolding_all assumption, by with_unfolding_all assumption⟩
        · rcases List.mem_append.mp ht with z | z
          · exact h1 t z
          · obtain rfl := List.mem_singleton.mp z
            refine .inr ⟨qp, _, m, g, rfl, rfl, hgg, hgp, hle2, hm2, fun k hk => ?_⟩
            have := hmx (k : Int) (List.mem_map.mpr ⟨k, List.mem_filter.mpr ⟨List.mem_range.mpr (List.getElem?_eq_some_iff.mp hk).1, decide_eq_true hk⟩, rfl⟩)
            walk_at "q"
        · rw [List.map_append, h2, h2', hb]; rfl
    · intro F G zr36
      obtain ⟨loc, vl, vx, ts, xs, rfl, h1, h2, l1, l2, l3⟩ := zr36
      rw [List.take_of_length_le (Nat.le_refl _)] at h2
      have htl : ts.length ≤ 60 := by
        have e := congrArg List.length h2
        rw [List.length_map] at e
        rw [e]
        exact Nat.le_trans (List.length_filter_le _ _) hrl
      walk_at "M"
      refine ae_CompE pT_inj T.ok ⟨by rw [he]; with_unfolding_all rfl, rfl, by decide, by decide⟩ ?_
      walk_at "M"
      refine callk_bi (call_sortedT (ts := ts) (T := "list") (rank_inj h fun t ht => ⟨h1 t ht, ?_⟩) (seq_mut (by walk_at "h")) (.inl rfl) (by walk_at "q") ?_)
      · have hz : t.2.2 ∈ ts.map (·.2.2) := List.mem_map_of_mem (f := fun u : Tri => u.2.2) ht
        rw [h2] at hz
        exact (List.mem_filter.mp hz).1
      have hsl2 : (srt ord2 kT ts).length = ts.length := (List.mergeSort_perm _ _).length_eq
      refine .all (srt ord2 kT ts) (fun t => t.2.2.d) ⟨by rw [he]; exact ⟨fun _ => rfl, nl, nl, trivial⟩, ⟨_, iter_list hR', trivial, fun _ _ _ _ => trivial⟩, by walk_at "q", fun C a1 ys loc' t ht => ?_⟩ ?_
      · generalize hce : compEnvC _ _ C env = ce
        have c__ : ce.kindOf "_" = some .local := kind_of hce.symm (by rw [he]; with_unfolding_all rfl)
        have c_x : ce.kindOf "x" = some .local := kind_of hce.symm (by rw [he]; with_unfolding_all rfl)
        refine asg_T3 hR' ?_
        walk_at "M"
        refine tst_nil ⟨rfl, ?_⟩
        refine ite_t rfl ?_
        walk_at "M"
        exact ⟨rfl, ⟨_, rfl⟩, rfl⟩
      walk_at "M"
      refine callk_typ (call_tuple (T := "list") seq_list (.inl rfl) (by simp; walk_at "q") ?_)
      walk_at "M"
      rw [show (srt ord2 kT ts).map (fun t => t.2.2.d) = ((srt ord2 kT ts).map (·.2.2)).map Key.d by rw [List.map_map]; rfl]
      exact ⟨[(rd, .list (ts.map pT))], ledB s ra sa oa ga, .refl _, .mk ts h1 h2⟩
end
section
variable {c : Cx} {A : Around} {F : Frm} {G : Led}
theorem IterOf.any {d : D} {items : List D} {P : Led → Prop} (h : IterOf c A d items fun _ => True) : IterOf c A d items P :=
  fun l hl w v G R s hr _ S => wpAny_mono (h l hl w v G R s hr trivial S) (fun u s' ⟨it, en, w', e, nx, z⟩ => ⟨it, en, w', e, fun l hl tg i G w R s hs _ S => nx l hl tg i G w R s hs trivial S, z⟩) fun _ _ z => z
noncomputable def LeftD (ra : Addr) (row : List Key) (d : D) (l : List Key) : Prop := (d = .ref ra ∧ l = row) ∨ d = .list (l.map Key.d)
theorem LeftD.seq {ra : Addr} {row l : List Key} {d : D} (h : LeftD ra row d l) (hm : (ra, O.list (row.map Key.d)) ∈ G) : SeqD c F G d "list" (l.map Key.d) := by
  rcases h with ⟨rfl, rfl⟩ | rfl
  · exact seq_mut hm
  · exact seq_list
theorem LeftD.iter {n : Nat} {ra : Addr} {row l : List Key} {d : D} (hR : Rm n A) (h : LeftD ra row d l) : IterOf c A d (l.map Key.d) (fun G => (ra, O.list (row.map Key.d)) ∈ G) := by
  rcases h with ⟨rfl, rfl⟩ | rfl
  · exact iter_mut hR
  · exact (iter_list hR).any
inductive InvP (s : LS) (ra sa L : Addr) (t : D) (i : Nat) : Frm → Led → Prop
  | mk (loc) (dl : D) (hl : LeftD ra s.row dl (leftIt s.st s.row i)) (l1 : List.lookup ("told" : Str) loc = some t) (l2 : List.lookup ("row" : Str) loc = some (.ref ra)) :
      InvP s ra sa L t i ⟨L, loc, [("ring", L + 1 + 1 + 1, none), ("left", L + 1 + 1, some dl), ("steps", L + 1, some (.ref sa))]⟩ [(ra, .list (s.row.map Key.d)), (sa, .list (s.st.map pK))]
theorem sl_last {E : LX} {α : Type} {e : α → D} {xs : List α} {d : D} {Q : D → Frm → Led → Prop} (h1 : SeqD c F G d "list" (xs.map e)) (h2 : xs.length ≤ 1000000) (hq : Q (.list ((xs.drop (xs.length - 1)).map e)) F G) : kSl4 c d (.int (-1)) .none Q .none F G :=
  ⟨xs.map e, some (-1), none, none, h1, by simpa using h2, rfl, rfl, rfl, by simp, by
    have := pick_last (xs.map e) 1 (Nat.le_refl _)
    rw [show (-(1 : Nat) : Int) = -1 from rfl] at this
    rw [this, List.length_map, ← List.map_drop]; exact hq⟩
end
theorem depth_le {xs : List D} {k : Nat} (h : ∀ x ∈ xs, x.py.depth ≤ k) : PyData.depthAll (pys xs) ≤ k := depthAll_le (by rw [pys_map]; intro p hp; obtain ⟨x, hx, rfl⟩ := List.mem_map.mp hp; exact h x hx)
theorem data_keys (ks : List Key) : (D.list (ks.map Key.d)).data = true := by simp only [D.data]; exact keys_data ks
theorem depth_keys (ks : List Key) : (D.list (ks.map Key.d)).py.depth ≤ 90 := by
  simp only [D.py, PyData.depth]
  have : PyData.depthAll (pys (ks.map Key.d)) ≤ 5 := depth_le (by intro x hx; obtain ⟨p, _, rfl⟩ := List.mem_map.mp hx; rw [Key.depth]; walk_at "q")
  walk_at "q"
theorem leftIt_len2 {st : List (Key × Key)} {l : List Key} : ∀ n, (leftIt st l n).length ≤ l.length
  | 0 => Nat.le_refl _
  | n + 1 => Nat.le_trans (List.length_filter_le _ _) (leftIt_len2 n)
theorem RingOk.last {s : LS} {ring : List Key} (h : RingOk s ring) : ring.take 1 = ring.drop (ring.length - 1) := by
  have h2 := h.two
  have e := h.ends
  rw [List.head?_eq_getElem?, List.getLast?_eq_getElem?] at e
  apply List.ext_getElem?
  intro i
  rw [List.getElem?_take, List.getElem?_drop]
  cases i with
  | zero => rw [if_pos (by decide)]; exact e
  | succ i => rw [if_neg (by walk_at "q"), List.getElem?_eq_none (by walk_at "q")]
theorem RingOk.met {s : LS} {ring : List Key} (h : RingOk s ring) : (metL ring).length = ring.length - 1 := by
  have h2 := h.two
  have hm : ∀ x, x ∈ metL ring ↔ x ∈ ring.dropLast := fun x => by
    unfold metL
    rw [mem_metTo]
    constructor
    · intro zr37
      refine e1a2 zr37 ?_
      try clear zr37
      intro j hj zq320
      subst zq320
      rw [List.getD_eq_getElem?_getD, List.getElem?_eq_getElem hj, Option.getD_some]
      by_cases q : j < ring.length - 1
      · exact List.mem_of_getElem? (i := j) (by rw [List.getElem?_dropLast, if_pos q, List.getElem?_eq_getElem])
      · have e := h.ends
        rw [List.head?_eq_getElem?, List.getLast?_eq_getElem?] at e
        have : j = ring.length - 1 := by walk_at "q"
        subst this
        refine List.mem_of_getElem? (i := 0) ?_
        rw [List.getElem?_dropLast, if_pos (by walk_at "q"), e, List.getElem?_eq_getElem]
    · intro hx
      refine e1a1 (List.getElem?_of_mem hx) fun j hj => ?_
      rw [List.getElem?_dropLast] at hj
      split at hj
      · exact ⟨j, by walk_at "q", by rw [List.getD_eq_getElem?_getD, hj]; rfl⟩
      · cases hj
  have hp : (metL ring).Perm ring.dropLast := (List.perm_ext_iff_of_nodup (metTo_nodup _ _) h.nd).mpr hm
  rw [hp.length_eq, List.length_dropLast]
inductive PrepR (s : LS) : D → Res → Prop
  | none (t : D) (h : leftIt s.st s.row s.row.length = []) : PrepR s t (.gave .none)
  | ring (ring : List Key) (h : RingOk s ring) (hl : ring.length ≤ 1000) (hok : ∀ k ∈ ring, k.ok = true) : PrepR s (Res.raised ring).d (.raised ring)
section
variable {c : Cx} {A : Around}
theorem ac_lprep {n : Nat} (T : Top c) (hR : Rm (n + 1) A) (s : LS) (hrl : s.row.length ≤ 60) (hsl : s.st.length ≤ 1000) (ra sa : Addr) (t : D) (res : Res) (ht : PrepR s t res) :
    AC c A (.ref 163) [t, .ref ra, .ref sa] [(ra, .list (s.row.map Key.d)), (sa, .list (s.st.map pK))] (fun d G' => d = res.d ∧ G' = [(ra, .list (s.row.map Key.d)), (sa, .list (s.st.map pK))]) (fun _ _ _ => False) := by
  refine AC.shed (ac_fun (bs := [("told", t), ("row", .ref ra), ("steps", .ref sa)]) (fun L => ⟨L, [("told", t), ("row", .ref ra)], [("ring", L + 1 + 1 + 1, none), ("left", L + 1 + 1, none), ("steps", L + 1, some (.ref sa))]⟩) T.ok hR (DefOk.mk ⟨_, T.in (by with_unfolding_all rfl), by with_unfolding_all rfl⟩ ⟨_, _, _, _, rfl, T.in (by with_unfolding_all rfl), rfl, rfl⟩ rfl rfl rfl rfl rfl rfl rfl (by decide) (by decide)) (fun w vs hvs => ?_) (by show (["told", "row", "steps"] : List Str).Nodup; decide) (hk_of (by with_unfolding_all rfl)) (fun L => by with_unfolding_all rfl) (fun L env A' he hR' hA => ?_))
  · simp only [Rels] at hvs
    refine e2a3 hvs ?_
    try clear hvs
    intro v1 r1 zq321 h1 zq322
    subst zq321
    obtain ⟨v2, r2, rfl, h2, v3, r3, rfl, h3, rfl⟩ := zq322
    exact bind_pure (by with_unfolding_all rfl) ⟨_, _, rfl, h1, _, _, rfl, h2, _, _, rfl, h3, rfl⟩
  · have k_told : env.kindOf "told" = some .local := kind_of he (by with_unfolding_all rfl)
    have k_row : env.kindOf "row" = some .local := kind_of he (by with_unfolding_all rfl)
    have k_steps : env.kindOf "steps" = some .cell := kind_of he (by with_unfolding_all rfl)
    have k_left : env.kindOf "left" = some .cell := kind_of he (by with_unfolding_all rfl)
    have k__ : env.kindOf "_" = some .local := kind_of he (by with_unfolding_all rfl)
    have k_ring : env.kindOf "ring" = some .cell := kind_of he (by with_unfolding_all rfl)
    have k_len : env.kindOf "len" = some .globalImplicit := kind_of he (by with_unfolding_all rfl)
    have k_type : env.kindOf "type" = some .globalImplicit := kind_of he (by with_unfolding_all rfl)
    have k_list : env.kindOf "list" = some .globalImplicit := kind_of he (by with_unfolding_all rfl)
    have k_set : env.kindOf "set" = some .globalImplicit := kind_of he (by with_unfolding_all rfl)
    have k_range : env.kindOf "range" = some .globalImplicit := kind_of he (by with_unfolding_all rfl)
    have hi : interactive env = false := by rw [he]; with_unfolding_all rfl
    have b1 := b_len T
    have b2 := b_type T
    have b3 := b_list T
    have b4 := b_set T
    have b5 := b_range T
    walk_at "M"
    refine as_For hA ?_
    walk_at "M"
    refine ForK.ofE (e := Key.d) s.row (fun G => (ra, O.list (s.row.map Key.d)) ∈ G) (InvP s ra sa L t) (iter_mut (xs := s.row.map Key.d) hR') ⟨_, _, .inl ⟨rfl, rfl⟩, by with_unfolding_all rfl, by with_unfolding_all rfl⟩ ?_ ?_ ?_
    · intro i F G zr38
      obtain ⟨loc, dl, _, _, _⟩ := zr38
      exact List.mem_append_right _ (by walk_at "h")
    · intro i x F G hx z
      induction z with
      | mk loc dl hl l1 l2 =>
      have hll := leftIt_len2 (st := s.st) (l := s.row) i
      generalize hle : leftIt s.st s.row i = l at hl hll
      walk_at "M"
      refine as_Assign1 (hs := by rw [he]; with_unfolding_all rfl) ?_
      refine ae_CompE1 (e := Key.d) (xn := "x") T.ok ⟨by rw [he]; with_unfolding_all rfl, rfl, by decide, fun _ _ => by with_unfolding_all rfl, fun _ => by with_unfolding_all rfl⟩ ?_
      walk_at "M"
      refine ⟨l, fun x => !(aheadL s.st l x).isEmpty, Key.d, ⟨fun C v => by rw [he]; exact ⟨fun _ => rfl, fun _ => rfl, fun _ => rfl, fun _ => rfl, trivial⟩, ⟨_, hl.iter hR', List.mem_append_right _ (by walk_at "h"), fun C loc' v a o => List.mem_append_right _ (by walk_at "h")⟩, by walk_at "q", fun C a1 ys loc' v x hx => ?_⟩, ?_⟩
      · generalize hce : compEnvC _ _ C env = ce
        have c_x : ce.kindOf "x" = some .cell := kind_of hce.symm (by rw [he]; with_unfolding_all rfl)
        have c_left : ce.kindOf "left" = some .cell := kind_of hce.symm (by rw [he]; with_unfolding_all rfl)
        have c_steps : ce.kindOf "steps" = some .cell := kind_of hce.symm (by rw [he]; with_unfolding_all rfl)
        walk_at "M"
        refine tst_one ?_
        walk_at "M"
        refine ae_CompE pK_inj T.ok ⟨by rw [← hce, he]; with_unfolding_all rfl, rfl, by decide, by decide⟩ ?_
        walk_at "M"
        refine ⟨s.st, fun p => decide (p.2 = x) && decide (p.1 ∈ l), fun p => p.1.d, ⟨by rw [← hce, he]; exact ⟨fun _ => rfl, fun _ => rfl, fun _ => rfl, fun _ => rfl, fun _ => rfl, trivial⟩, ⟨_, iter_mut (xs := s.st.map pK) hR', List.mem_append_right _ (by walk_at "h"), fun C loc' a o => List.mem_append_right _ (by walk_at "h")⟩, by walk_at "q", fun C2 a2 ys2 loc2 p hp => ?_⟩, ?_⟩
        · generalize hce2 : compEnvC _ _ C2 ce = ce2
          have d_a : ce2.kindOf "a" = some .local := by rw [← hce2, ← hce, he]; with_unfolding_all rfl
          have d_b : ce2.kindOf "b" = some .local := by rw [← hce2, ← hce, he]; with_unfolding_all rfl
          have d_left : ce2.kindOf "left" = some .cell := by rw [← hce2, ← hce, he]; with_unfolding_all rfl
          have d_x : ce2.kindOf "x" = some .cell := by rw [← hce2, ← hce, he]; with_unfolding_all rfl
          refine asg_T2 hR' ?_
          walk_at "M"
          refine tst_one (ai_keep (decide (p.2 = x) && decide (p.1 ∈ l)) ?_ ?_)
          · refine ai_BoolOp (all_And ?_)
            walk_at "M"
            refine op_eqK hR' ?_
            walk_at "M"
            by_cases q : p.2 = x
            · refine kAnd_t (decide_eq_true q) (all_And ?_)
              walk_at "M"
              refine op_inK hR' (hl.seq (by walk_at "h")) (.inl rfl) ?_
              walk_at "M"
              rw [decide_eq_true q, Bool.true_and]
              by_cases q2 : p.1 ∈ l
              · exact kAnd_t (decide_eq_true q2) (all_nil ⟨(decide_eq_true q2).symm, rfl, rfl⟩)
              · exact kAnd_f (decide_eq_false q2) ⟨(decide_eq_false q2).symm, rfl, rfl⟩
            · exact kAnd_f (decide_eq_false q) ⟨by rw [decide_eq_false q]; rfl, rfl, rfl⟩
          refine ⟨rfl, ?_⟩
          split
          · walk_at "M"
            exact ⟨rfl, ⟨_, rfl⟩, rfl⟩
          · exact ⟨⟨_, rfl⟩, rfl⟩
        rw [show (s.st.filter fun p => decide (p.2 = x) && decide (p.1 ∈ l)).map (fun p => p.1.d) = (aheadL s.st l x).map Key.d by unfold aheadL; rw [List.map_map]; rfl]
        walk_at "M"
        refine ae_List ?_
        walk_at "M"
        refine ⟨by decide, ?_⟩
        refine op_neNil hR' seq_list (keys_data _) ?_
        walk_at "M"
        rw [List.isEmpty_map]
        refine ⟨rfl, ?_⟩
        split
        · walk_at "M"
          exact ⟨rfl, ⟨_, _, rfl⟩, rfl⟩
        · exact ⟨⟨_, _, rfl⟩, rfl⟩
      walk_at "M"
      exact ⟨_, _, .inr (by rw [← hle]; rfl), by with_unfolding_all assumption, by with_unfolding_all assumption⟩
    · intro F G zr39
      obtain ⟨loc, dl, hl, l1, l2⟩ := zr39
      walk_at "M"
      refine ae_List ?_
      walk_at "M"
      refine ⟨by decide, ?_⟩
      refine op_eqNil hR' (hl.seq (by walk_at "h")) (keys_data _) ?_
      walk_at "M"
      rw [List.isEmpty_map]
      cases ht with
      | none t h =>
        refine kIf_t (by rw [h]; rfl) ?_
        walk_at "M"
        refine ⟨show 2 ≤ 1000000 by decide, ?_⟩
        walk_at "M"
        exact ⟨[], _, .refl _, rfl, rfl⟩
      | ring ring h hrl2 hok =>
        have h2 := h.two
        refine kIf_f (List.isEmpty_eq_false_iff.mpr h.left_ne) ?_
        walk_at "M"
        refine callk_bi (call_len (T := "tuple") seq_tuple (.inr rfl) (by simp) ?_)
        walk_at "M"
        refine op_eqi ?_
        walk_at "M"
        refine kIte_t (by simp) ?_
        walk_at "M"
        refine geti_nat (T := "tuple") seq_tuple (.inr rfl) 2 (by decide) rfl ?_
        walk_at "M"
        refine ai_BoolOp (all_Or ?_)
        walk_at "M"
        refine callk_typ (call_type (by simpa [D.data] using keys_data ring) ?_)
        walk_at "M"
        refine op_isNotTyp ?_
        walk_at "M"
        refine kOr_f (by simp [D.ty]) (all_Or ?_)
        walk_at "M"
        refine ae_Slice (fun o i => .inr (by with_unfolding_all rfl)) ?_
        walk_at "M"
        refine sl_upto (b := 1) (e := Key.d) (xs := ring) seq_list (by walk_at "q") ?_
        refine ae_Slice (fun o i => .inr (by with_unfolding_all rfl)) ?_
        walk_at "M"
        refine sl_last (E := noE) (e := Key.d) (xs := ring) seq_list (by walk_at "q") ?_
        rw [← h.last]
        refine op_neSame hR' (data_keys _) (depth_keys _) ?_
        walk_at "M"
        refine kOr_f rfl (all_Or ?_)
        walk_at "M"
        refine callk_typ (call_setK hR' seq_list hrl2 hok fun sa2 => ?_)
        walk_at "M"
        refine callk_bi (call_lenS (.head _) (by rw [h.met]; walk_at "q") ?_)
        walk_at "M"
        refine callk_bi (call_len (T := "list") (xs := ring.map Key.d) seq_list (.inl rfl) (by simp; walk_at "q") ?_)
        walk_at "M"
        refine op_sub ?_
        refine op_nei ?_
        walk_at "M"
        refine kOr_f (by rw [h.met, List.length_map]; simp; walk_at "q") (all_nil ?_)
        refine kIf_f rfl ?_
        walk_at "M"
        refine ae_CompE (e := fun k : Nat => .int ((1 + k : Nat) : Int)) (fun a b h => by simp at h; walk_at "q") T.ok ⟨by rw [he]; with_unfolding_all rfl, rfl, by decide, by decide⟩ ?_
        walk_at "M"
        refine callk_bi (call_len (T := "list") (xs := ring.map Key.d) seq_list (.inl rfl) (by simp; walk_at "q") ?_)
        rw [List.length_map]
        walk_at "M"
        refine callk_typ (call_range2 ?_)
        refine ⟨List.range (ring.length - 1), fun k => false, fun k => .int ((1 + k : Nat) : Int), ⟨by rw [he]; exact ⟨fun _ => rfl, fun _ => rfl, fun _ => rfl, fun _ => rfl, trivial⟩, ⟨_, iter_rng2 (a := 1) hR' (by walk_at "q") (by decide), trivial, fun _ _ _ _ => trivial⟩, by simp; walk_at "q", fun C a1 ys loc' k hk => ?_⟩, ?_⟩
        · generalize hce : compEnvC _ _ C env = ce
          have c_k : ce.kindOf "k" = some .local := kind_of hce.symm (by rw [he]; with_unfolding_all rfl)
          have c_ring : ce.kindOf "ring" = some .cell := kind_of hce.symm (by rw [he]; with_unfolding_all rfl)
          have c_steps : ce.kindOf "steps" = some .cell := kind_of hce.symm (by rw [he]; with_unfolding_all rfl)
          have hkl : k < ring.length - 1 := List.mem_range.mp hk
          walk_at "M"
          refine tst_one ?_
          walk_at "M"
          refine op_sub ?_
          rw [show (((1 + k : Nat) : Int) - 1) = ((k : Nat) : Int) by walk_at "q"]
          refine geti_nat (T := "list") (xs := ring.map Key.d) seq_list (.inl rfl) k (by walk_at "q") (e := (ring[k]'(by walk_at "q")).d) (by rw [List.getElem?_map, List.getElem?_eq_getElem (by walk_at "q")]; rfl) ?_
          walk_at "M"
          refine geti_nat (T := "list") (xs := ring.map Key.d) seq_list (.inl rfl) (1 + k) (by walk_at "q") (e := (ring[1 + k]'(by walk_at "q")).d) (by rw [List.getElem?_map, List.getElem?_eq_getElem (by walk_at "q")]; rfl) ?_
          walk_at "M"
          refine ⟨show 2 ≤ 1000000 by decide, ?_⟩
          have hin : (ring[k]'(by walk_at "q"), ring[1 + k]'(by walk_at "q")) ∈ s.st := h.step k _ _ (List.getElem?_eq_getElem _) (by rw [show k + 1 = 1 + k by walk_at "q"]; exact List.getElem?_eq_getElem _)
          walk_at "M"
          refine op_ninP (a := (ring[k]'(by walk_at "q"), ring[1 + k]'(by walk_at "q"))) hR' (seq_mut (xs := s.st.map pK) (by walk_at "h")) ?_
          walk_at "M"
          rw [decide_eq_true hin]
          exact ⟨rfl, ⟨_, rfl⟩, rfl⟩
        rw [List.filter_eq_nil_iff.mpr (by simp)]
        walk_at "M"
        refine ae_List ?_
        walk_at "M"
        refine ⟨by decide, ?_⟩
        refine op_neNil hR' (xs := []) seq_list rfl ?_
        walk_at "M"
        refine kIf_f rfl ?_
        walk_at "M"
        refine ⟨show 3 ≤ 1000000 by decide, ?_⟩
        walk_at "M"
        exact ⟨[(sa2, .set (metL ring))], _, .refl _, rfl, rfl⟩
end
section
variable {c : Cx} {A : Around}
noncomputable abbrev ledD (s : LS) (ra sa oa ga : Addr) (gone : List Key) : Led := [(ra, .list (s.row.map Key.d)), (sa, .list (s.st.map pK)), (oa, .list (s.out.map Key.d)), (ga, .list (gone.map Key.d))]
inductive InvDn (s : LS) (ks : List Key) (ra sa oa ga L : Addr) (i : Nat) : Frm → Led → Prop
  | mk (loc) (gone : List Key) (xs : List D) (hxs : xs = gone.map Key.d) (hg : gone.length ≤ 900 + i) (h : lawDone s.row s.out (ks.drop i) gone = lawDone s.row s.out ks s.gone) (l1 : List.lookup ("row" : Str) loc = some (.ref ra)) (l2 : List.lookup ("out" : Str) loc = some (.ref oa)) (l3 : List.lookup ("gone" : Str) loc = some (.ref ga)) :
      InvDn s ks ra sa oa ga L i ⟨L, loc, []⟩ [(ra, .list (s.row.map Key.d)), (sa, .list (s.st.map pK)), (oa, .list (s.out.map Key.d)), (ga, .list xs)]
theorem ac_ldone {n : Nat} (T : Top c) (hR : Rm (n + 1) A) (s : LS) (hrl : s.row.length ≤ 60) (hol : s.out.length ≤ 1000) (hgl : s.gone.length ≤ 900) (ra sa oa ga : Addr) (ks : List Key) (hk : ks.length ≤ 8) (hf : ∀ k ∈ ks, k.fine) :
    AC c A (.ref 170) [.list (ks.map Key.d), .ref ra, .ref oa, .ref ga] (ledD s ra sa oa ga s.gone) (fun d G' => d = (resO (lawDone s.row s.out ks s.gone).2).d ∧ G' = ledD s ra sa oa ga (lawDone s.row s.out ks s.gone).1) (fun _ _ _ => False) := by
  refine (ac_fun (bs := [("names", .list (ks.map Key.d)), ("row", .ref ra), ("out", .ref oa), ("gone", .ref ga)]) (fun L => ⟨L, [("names", .list (ks.map Key.d)), ("row", .ref ra), ("out", .ref oa), ("gone", .ref ga)], []⟩) T.ok hR (DefOk.mk ⟨_, T.in (by with_unfolding_all rfl), by with_unfolding_all rfl⟩ ⟨_, _, _, _, rfl, T.in (by with_unfolding_all rfl), rfl, rfl⟩ rfl rfl rfl rfl rfl rfl rfl (by decide) (by decide)) (fun w vs hvs => ?_) (by show (["names", "row", "out", "gone"] : List Str).Nodup; decide) (hk_of (by with_unfolding_all rfl)) (fun L => by with_unfolding_all rfl) (fun L env A' he hR' hA => ?_))
  · simp only [Rels] at hvs
    refine e2a3 hvs ?_
    try clear hvs
    intro v1 r1 zq323 h1 zq324
    subst zq323
    obtain ⟨v2, r2, rfl, h2, v3, r3, rfl, h3, v4, r4, rfl, h4, rfl⟩ := zq324
    exact bind_pure (by with_unfolding_all rfl) ⟨_, _, rfl, h1, _, _, rfl, h2, _, _, rfl, h3, _, _, rfl, h4, rfl⟩
  · have k_names : env.kindOf "names" = some .local := kind_of he (by with_unfolding_all rfl)
    have k_row : env.kindOf "row" = some .local := kind_of he (by with_unfolding_all rfl)
    have k_out : env.kindOf "out" = some .local := kind_of he (by with_unfolding_all rfl)
    have k_gone : env.kindOf "gone" = some .local := kind_of he (by with_unfolding_all rfl)
    have k_x : env.kindOf "x" = some .local := kind_of he (by with_unfolding_all rfl)
    have hi : interactive env = false := by rw [he]; with_unfolding_all rfl
    walk_at "M"
    refine as_For hA ?_
    walk_at "M"
    refine ForK.ofE (e := Key.d) ks (fun _ => True) (InvDn s ks ra sa oa ga L) (iter_list hR') ⟨_, s.gone, _, rfl, by walk_at "q", rfl, by with_unfolding_all rfl, by with_unfolding_all rfl, by with_unfolding_all rfl⟩ (fun _ _ _ _ => trivial) ?_ ?_
    · intro i x F G hx z
      induction z with
      | mk loc gone xs hxs hg h l1 l2 l3 =>
      subst hxs
      have hil : i < ks.length := (List.getElem?_eq_some_iff.mp hx).1
      have hdrop : ks.drop i = x :: ks.drop (i + 1) := by
        rw [List.drop_eq_getElem_cons hil, (List.getElem?_eq_some_iff.mp hx).2]
      rw [hdrop, lawDone] at h
      walk_at "M"
      refine op_ninK hR' (seq_mut (xs := s.row.map Key.d) (by walk_at "h")) (.inl rfl) ?_
      walk_at "M"
      by_cases q1 : x ∈ s.row
      · rw [if_neg (fun z => z q1)] at h
        refine kIf_f (by rw [decide_eq_true q1]; rfl) ?_
        walk_at "M"
        refine op_inK hR' (seq_mut (xs := gone.map Key.d) (by walk_at "h")) (.inl rfl) ?_
        walk_at "M"
        by_cases q2 : x ∈ gone
        · rw [if_pos q2] at h
          refine kIf_t (decide_eq_true q2) ?_
          walk_at "M"
          refine ae_msg (hf _ (List.mem_of_getElem? hx)) (by decide +kernel) (by decide) ?_
          walk_at "M"
          refine ⟨rfl, ?_⟩
          walk_at "M"
          refine ⟨show 3 ≤ 1000000 by decide, ?_⟩
          walk_at "M"
          exact ⟨by rw [← h]; rfl, by rw [← h]⟩
        · rw [if_neg q2] at h
          refine kIf_f (decide_eq_false q2) ?_
          walk_at "M"
          refine op_ninK hR' (seq_mut (xs := s.out.map Key.d) (by walk_at "h")) (.inl rfl) ?_
          walk_at "M"
          by_cases q3 : x ∈ s.out
          · rw [if_neg (fun z => z q3)] at h
            refine kIf_f (by rw [decide_eq_true q3]; rfl) ?_
            walk_at "M"
            refine meth_list PySem.F.slot_list_append (by with_unfolding_all rfl) (seq_mut (xs := gone.map Key.d) (by walk_at "h")) ?_
            walk_at "M"
            refine callk_bi (call_append (G1 := [(ra, .list (s.row.map Key.d)), (sa, .list (s.st.map pK)), (oa, .list (s.out.map Key.d))]) (G2 := []) (by simp; walk_at "q") ?_)
            walk_at "M"
            exact ⟨_, gone ++ [x], _, by rw [List.map_append]; rfl, by rw [List.length_append]; simp; walk_at "q", h, by with_unfolding_all assumption, by with_unfolding_all assumption, by with_unfolding_all assumption⟩
          · rw [if_pos q3] at h
            refine kIf_t (by rw [decide_eq_false q3]; rfl) ?_
            walk_at "M"
            refine ae_msg (hf _ (List.mem_of_getElem? hx)) (by decide +kernel) (by decide) ?_
            walk_at "M"
            refine ⟨rfl, ?_⟩
            walk_at "M"
            refine ⟨show 3 ≤ 1000000 by decide, ?_⟩
            walk_at "M"
            exact ⟨by rw [← h]; rfl, by rw [← h]⟩
      · rw [if_pos q1] at h
        refine kIf_t (by rw [decide_eq_false q1]; rfl) ?_
        walk_at "M"
        refine ae_msg (hf _ (List.mem_of_getElem? hx)) (by decide +kernel) (by decide) ?_
        walk_at "M"
        refine ⟨rfl, ?_⟩
        walk_at "M"
        refine ⟨show 3 ≤ 1000000 by decide, ?_⟩
        walk_at "M"
        exact ⟨by rw [← h]; rfl, by rw [← h]⟩
    · intro F G zr40
      obtain ⟨loc, gone, xs, rfl, hg, h, l1, l2, l3⟩ := zr40
      rw [List.drop_length] at h
      walk_at "M"
      refine ⟨show 2 ≤ 1000000 by decide, ?_⟩
      walk_at "M"
      exact ⟨by rw [← h]; rfl, by rw [← h]; rfl⟩
end
noncomputable def Op.deg : Op → Nat
  | .add _ ps => ps.length
  | _ => 0
noncomputable def OpIn : Op → Prop
  | .add k ps => k ∈ namesT ∧ (∀ p ∈ ps, p ∈ namesT) ∧ ps.length ≤ 3
  | .done ks => ks.length ≤ 8 ∧ ∀ k ∈ ks, k ∈ namesT
  | _ => True
theorem names_fine {k : Key} (h : k ∈ namesT) : k.fine ∧ k.ok = true := by
  unfold namesT at h
  simp only [List.mem_cons, List.not_mem_nil, or_false] at h
  rcases h with rfl | rfl | rfl | rfl | rfl | rfl | rfl | rfl
  all_goals exact ⟨by first | exact ⟨by decide +kernel, by decide +kernel, by decide +kernel⟩ | exact ⟨by decide +kernel, by decide +kernel⟩, by decide +kernel⟩
theorem OpIn.ok : ∀ {o : Op}, OpIn o → OpOk o
  | .add _ _, h => h.2.2
  | .done _, h => ⟨h.1, fun k hk => (names_fine (h.2 k hk)).1⟩
  | .prep, _ => trivial
  | .ready, _ => trivial
  | .act, _ => trivial
  | .boo, _ => trivial
theorem Told.row {b b' : Bk} {o : Op} {r : Res} (t : Told b o r b') (h : OpIn o) (hr : ∀ x ∈ b.s.row, x ∈ namesT) : ∀ x ∈ b'.s.row, x ∈ namesT := by
  cases t with
  | add e =>
    intro x hx
    rcases mem_newR.mp hx with q | q
    · exact hr x q
    · rcases List.mem_cons.mp q with rfl | q
      · exact h.1
      · exact h.2.1 x q
  | _ => exact hr
theorem Told.st {b b' : Bk} {o : Op} {r : Res} (t : Told b o r b') : b'.s.st.length ≤ b.s.st.length + o.deg := by
  cases t with
  | add e => show (b.s.st ++ _).length ≤ _; rw [List.length_append, List.length_map]; exact Nat.le_refl _
  | _ => exact Nat.le_add_right _ _
theorem row_len {s : LS} (h : LOk s) (hr : ∀ x ∈ s.row, x ∈ namesT) : s.row.length ≤ 8 := nodup_sub h.row hr
theorem out_len {s : LS} (h : LOk s) (hr : ∀ x ∈ s.row, x ∈ namesT) : s.out.length ≤ 8 := nodup_sub h.ond fun x hx => hr x (h.out x hx)
theorem gone_len {s : LS} (h : LOk s) (hr : ∀ x ∈ s.row, x ∈ namesT) : s.gone.length ≤ 8 := nodup_sub h.gnd fun x hx => hr x (h.out x (h.gone x hx))
theorem Fits.re {N : Nat} {b : Bk} {so : So} (hf : Fits N b so) (hb : BkOk b) (hr : ∀ x ∈ b.s.row, x ∈ namesT) (hs : b.s.st.length ≤ 800) : Fits 800 b so :=
  ⟨hf.pn, ⟨by rw [row_of hf]; exact hb.ok.row, by
      have := row_len hb.ok hr
      rw [← row_of hf, List.length_map] at this; (first | lia | omega), fun nd hn => by
      rw [su_of hf hn]; unfold succs; rw [List.length_map]; exact Nat.le_trans (List.length_filter_le _ _) hs⟩, hf.out, hf.fin, hf.rdy⟩
structure ResOk (r : Res) : Prop where
  data : r.d.data = true
  depth : r.d.py.depth ≤ 90
  two : ∃ h e t, r.d = .tuple (h :: e :: t) ∧ e.data = true
theorem tup_ok (l : List Key) : (D.tuple (l.map Key.d)).data = true ∧ (D.tuple (l.map Key.d)).py.depth ≤ 7 := by
  refine ⟨by simp only [D.data]; exact keys_data l, ?_⟩
  simp only [D.py, PyData.depth]
  have : PyData.depthAll (pys (l.map Key.d)) ≤ 5 := depth_le (by intro x hx; obtain ⟨p, _, rfl⟩ := List.mem_map.mp hx; rw [Key.depth]; (first | lia | omega))
  (first | lia | omega)
theorem ResOk.gave {d : D} (h : d.data = true) (h2 : d.py.depth ≤ 7) : ResOk (.gave d) :=
  ⟨by simp [Res.d, D.data, datas, h], by simp [Res.d, D.py, pys, PyData.depth, PyData.depthAll]; (first | lia | omega), _, _, _, rfl, h⟩
theorem ResOk.refused (w : Str) : ResOk (.refused w) := ⟨by simp [Res.d, D.data, datas], by simp [Res.d, D.py, pys, PyData.depth, PyData.depthAll], _, _, _, rfl, rfl⟩
theorem ResOk.raised (l : List Key) : ResOk (.raised l) := by
  have h1 := data_keys l
  have h2 : (D.list (l.map Key.d)).py.depth ≤ 7 := by
    simp only [D.py, PyData.depth]
    have : PyData.depthAll (pys (l.map Key.d)) ≤ 5 := depth_le (by intro x hx; obtain ⟨p, _, rfl⟩ := List.mem_map.mp hx; rw [Key.depth]; (first | lia | omega))
    (first | lia | omega)
  exact ⟨by simp only [Res.d, D.data, datas] at h1 ⊢; simp [h1], by simp only [Res.d, D.py, pys, PyData.depth, PyData.depthAll] at h2 ⊢; (first | lia | omega), _, _, _, rfl, rfl⟩
theorem Told.rok {b b' : Bk} {o : Op} {r : Res} (t : Told b o r b') : ResOk r := by
  cases t with
  | add e => exact .gave rfl (by simp [D.py, PyData.depth])
  | addLate e => exact .refused _
  | prep e fin hf hr => exact .gave rfl (by simp [D.py, PyData.depth])
  | ring e ring hr => exact .raised _
  | prepLate e => exact .refused _
  | early ho e => exact .refused _
  | ready e => exact .gave (tup_ok _).1 (tup_ok _).2
  | done e rl' h1 h2 =>
    unfold resO
    split
    · exact .gave rfl (by simp [D.py, PyData.depth])
    · exact .refused _
  | act e => exact .gave rfl (by simp [D.py, PyData.depth])
  | boo e => exact .gave rfl (by simp [D.py, PyData.depth])
theorem act_eq {b : Bk} (hb : BkOk b) : (!b.rl.isEmpty || !(b.s.out.filter fun x => !decide (x ∈ b.s.gone)).isEmpty) = b.act := by
  unfold Bk.act
  rw [out_gone hb.ok, Bool.or_comm]
section
variable {c : Cx} {A : Around}
theorem g_TS (T : Top c) : Glob c "TopologicalSorter" (.ref 137) := T.glob (v := .ref 137) (by with_unfolding_all rfl) (by simp [Rel])
theorem g_told (T : Top c) : Glob c "_law_told" (.ref 153) := T.glob (v := .ref 153) (by with_unfolding_all rfl) (by simp [Rel])
theorem g_rdy (T : Top c) : Glob c "_law_ready" (.ref 158) := T.glob (v := .ref 158) (by with_unfolding_all rfl) (by simp [Rel])
theorem g_lprep (T : Top c) : Glob c "_law_prepare" (.ref 163) := T.glob (v := .ref 163) (by with_unfolding_all rfl) (by simp [Rel])
theorem g_ldone (T : Top c) : Glob c "_law_done" (.ref 170) := T.glob (v := .ref 170) (by with_unfolding_all rfl) (by simp [Rel])
inductive InvG (os : List Op) (x ra sa oa ga L : Addr) (i : Nat) : Frm → Led → Prop
  | mk (b : Bk) (so : So) (loc) (vc : Option D) (hb : BkOk b) (hf : Fits 800 b so) (hx : so.x = x) (hr : ∀ x ∈ b.s.row, x ∈ namesT) (hs : b.s.st.length ≤ ((os.take i).map Op.deg).sum)
      (l1 : List.lookup ("sorter" : Str) loc = some (.ref x)) (l2 : List.lookup ("steps" : Str) loc = some (.ref sa)) (l3 : List.lookup ("out" : Str) loc = some (.ref oa)) (l4 : List.lookup ("over" : Str) loc = some (.bool b.over)) :
      InvG os x ra sa oa ga L i ⟨L, loc, [("call", L + 1 + 1 + 1, vc), ("gone", L + 1 + 1, some (.ref ga)), ("row", L + 1, some (.ref ra))]⟩ (ledB b.s ra sa oa ga ++ so.led)
inductive MidG (b' : Bk) (so' : So) (o : Op) (r : Res) (x ra sa oa ga L : Addr) : Fl → Frm → Led → Prop
  | mk (loc) (l1 : List.lookup ("sorter" : Str) loc = some (.ref x)) (l2 : List.lookup ("steps" : Str) loc = some (.ref sa)) (l3 : List.lookup ("out" : Str) loc = some (.ref oa)) (l4 : List.lookup ("over" : Str) loc = some (.bool b'.over)) (l5 : List.lookup ("told" : Str) loc = some r.d) (l6 : List.lookup ("due" : Str) loc = some r.d) :
      MidG b' so' o r x ra sa oa ga L .next ⟨L, loc, [("call", L + 1 + 1 + 1, some o.d), ("gone", L + 1 + 1, some (.ref ga)), ("row", L + 1, some (.ref ra))]⟩ (ledB b'.s ra sa oa ga ++ so'.led)
theorem asg_T5 {n k : Nat} {pos : Pos} {t1 t2 t3 t4 t5 : Expr} {d1 d2 d3 d4 d5 : D} {env : Env} {F : Frm} {G : Led} {E : LX} {Q : Frm → Led → Prop} (hR : Rm n A) (h : Asg c A env F G t1 d1 (fun F1 G1 => Asg c A env F1 G1 t2 d2 (fun F2 G2 => Asg c A env F2 G2 t3 d3 (fun F3 G3 => Asg c A env F3 G3 t4 d4 (fun F4 G4 => Asg c A env F4 G4 t5 d5 Q E) E) E) E) E)
    (hs : (assignEach [t1, t2, t3, t4, t5] env).map (·.2) = [assign t1 env, assign t2 env, assign t3 env, assign t4 env, assign t5 env] := by with_unfolding_all rfl) (hn : (assignEach [t1, t2, t3, t4, t5] env).length = 5 := by with_unfolding_all rfl) (hst : (assignEach [t1, t2, t3, t4, t5] env).findIdx? (·.1) = none := by with_unfolding_all rfl) : Asg c A env F G (.Tuple [t1, t2, t3, t4, t5] k pos) (.tuple [d1, d2, d3, d4, d5]) Q E := by
  refine asg_Tuple hR ?_ hn hst
  rw [hs]
  refine asgn_cons fun w v hr => (h w v hr).mono (fun _ F1 G1 h1 => ?_) (fun _ _ _ _ z => z)
  refine asgn_cons fun w v hr => (h1 w v hr).mono (fun _ F2 G2 h2 => ?_) (fun _ _ _ _ z => z)
  refine asgn_cons fun w v hr => (h2 w v hr).mono (fun _ F3 G3 h3 => ?_) (fun _ _ _ _ z => z)
  refine asgn_cons fun w v hr => (h3 w v hr).mono (fun _ F4 G4 h4 => ?_) (fun _ _ _ _ z => z)
  refine asgn_cons fun w v hr => (h4 w v hr).mono (fun _ F5 G5 h5 => ?_) (fun _ _ _ _ z => z)
  exact asgn_nil h5
theorem ac_goes {n : Nat} (T : Top c) (hR : Rm (n + 8) A) (os : List Op) (hos : os.length ≤ 1000) (hin : ∀ o ∈ os, OpIn o) (hdeg : (os.map Op.deg).sum ≤ 800) :
    AC c A (.ref 175) [.list (os.map Op.d)] [] (fun d _ => d = .bool true) (fun _ _ _ => False) := by
  refine AC.shed (ac_fun (bs := [("calls", .list (os.map Op.d))]) (fun L => ⟨L, [("calls", .list (os.map Op.d))], [("call", L + 1 + 1 + 1, none), ("gone", L + 1 + 1, none), ("row", L + 1, none)]⟩) T.ok hR (DefOk.mk ⟨_, T.in (by with_unfolding_all rfl), by with_unfolding_all rfl⟩ ⟨_, _, _, _, rfl, T.in (by with_unfolding_all rfl), rfl, rfl⟩ rfl rfl rfl rfl rfl rfl rfl (by decide) (by decide)) (fun w vs hvs => ?_) (by show (["calls"] : List Str).Nodup; decide) (hk_of (by with_unfolding_all rfl)) (fun L => by with_unfolding_all rfl) (fun L env A' he hR' hA => ?_))
  · simp only [Rels] at hvs
    refine e2a3 hvs ?_
    try clear hvs
    intro v1 r1 zq325 h1 zq326
    subst zq325
    subst zq326
    exact bind_pure (by with_unfolding_all rfl) ⟨_, _, rfl, h1, rfl⟩
  · have k_calls : env.kindOf "calls" = some .local := kind_of he (by with_unfolding_all rfl)
    have k_sorter : env.kindOf "sorter" = some .local := kind_of he (by with_unfolding_all rfl)
    have k_row : env.kindOf "row" = some .cell := kind_of he (by with_unfolding_all rfl)
    have k_steps : env.kindOf "steps" = some .local := kind_of he (by with_unfolding_all rfl)
    have k_out : env.kindOf "out" = some .local := kind_of he (by with_unfolding_all rfl)
    have k_gone : env.kindOf "gone" = some .cell := kind_of he (by with_unfolding_all rfl)
    have k_over : env.kindOf "over" = some .local := kind_of he (by with_unfolding_all rfl)
    have k_call : env.kindOf "call" = some .cell := kind_of he (by with_unfolding_all rfl)
    have k_told : env.kindOf "told" = some .local := kind_of he (by with_unfolding_all rfl)
    have k_ready : env.kindOf "ready" = some .local := kind_of he (by with_unfolding_all rfl)
    have k_due : env.kindOf "due" = some .local := kind_of he (by with_unfolding_all rfl)
    have k_TopologicalSorter : env.kindOf "TopologicalSorter" = some .globalImplicit := kind_of he (by with_unfolding_all rfl)
    have k__law_told : env.kindOf "_law_told" = some .globalImplicit := kind_of he (by with_unfolding_all rfl)
    have k__law_ready : env.kindOf "_law_ready" = some .globalImplicit := kind_of he (by with_unfolding_all rfl)
    have k_range : env.kindOf "range" = some .globalImplicit := kind_of he (by with_unfolding_all rfl)
    have k_len : env.kindOf "len" = some .globalImplicit := kind_of he (by with_unfolding_all rfl)
    have k__law_prepare : env.kindOf "_law_prepare" = some .globalImplicit := kind_of he (by with_unfolding_all rfl)
    have k__law_done : env.kindOf "_law_done" = some .globalImplicit := kind_of he (by with_unfolding_all rfl)
    have k_type : env.kindOf "type" = some .globalImplicit := kind_of he (by with_unfolding_all rfl)
    have hi : interactive env = false := by rw [he]; with_unfolding_all rfl
    have b1 := b_range T
    have b2 := b_len T
    have b3 := b_type T
    have g1 := g_TS T
    have g2 := g_told T
    have g3 := g_rdy T
    have g4 := g_lprep T
    have g5 := g_ldone T
    have kp137 : keepIn c.K (.ref 137) = true := by rw [T.K]; with_unfolding_all rfl
    have kp153 : keepIn c.K (.ref 153) = true := by rw [T.K]; with_unfolding_all rfl
    have kp158 : keepIn c.K (.ref 158) = true := by rw [T.K]; with_unfolding_all rfl
    have kp163 : keepIn c.K (.ref 163) = true := by rw [T.K]; with_unfolding_all rfl
    have kp170 : keepIn c.K (.ref 170) = true := by rw [T.K]; with_unfolding_all rfl
    walk_at "M"
    refine callk_ac (kok_K T.ok kp137) (ac_new T hR') (Rest := []) (.refl _) ?_ (fun _ _ _ z => z.elim)
    intro d G' zr41
    refine e3a2 zr41 ?_
    try clear zr41
    intro sx dx dd zq327 zq328
    subst zq327
    subst zq328
    rw [List.append_nil]
    walk_at "M"
    refine ae_ListM ?_
    walk_at "M"
    refine ⟨by simp, fun ra => ?_⟩
    walk_at "M"
    refine ae_ListM ?_
    walk_at "M"
    refine ⟨by simp, fun sa => ?_⟩
    walk_at "M"
    refine ae_ListM ?_
    walk_at "M"
    refine ⟨by simp, fun oa => ?_⟩
    walk_at "M"
    refine ae_ListM ?_
    walk_at "M"
    refine ⟨by simp, fun ga => ?_⟩
    walk_at "M"
    refine ⟨show 5 ≤ 1000000 by decide, ?_⟩
    refine asg_T5 hR' ?_
    walk_at "M"
    refine AT.reorder (G' := ledB ⟨[], [], [], []⟩ ra sa oa ga ++ (⟨sx, dx, dd, 0, [], none, 0, 0⟩ : So).led) ?_ (perm_cnt fun p => by simp only [cnt_cons, cnt_append, cnt_nil, List.map_nil]; walk_at "q")
    refine as_For hA ?_
    walk_at "M"
    refine ForK.ofE (e := Op.d) os (fun _ => True) (InvG os sx ra sa oa ga L) (iter_list hR') ⟨⟨⟨[], [], [], []⟩, [], false⟩, ⟨sx, dx, dd, 0, [], none, 0, 0⟩, _, _, ⟨⟨.nil, fun _ z => (nomatch z), fun _ z => (nomatch z), fun _ z => (nomatch z), .nil, .nil, fun _ z => (nomatch z)⟩, fun _ => rfl, fun z => (nomatch z)⟩, ⟨rfl, ⟨.nil, Nat.zero_le _, fun _ z => (nomatch z)⟩, rfl, rfl, rfl⟩, rfl, fun _ z => (nomatch z), Nat.zero_le _, by with_unfolding_all rfl, by with_unfolding_all rfl, by with_unfolding_all rfl, by with_unfolding_all rfl⟩ (fun _ _ _ _ => trivial) ?_ ?_
    · intro i o F G hi2 z
      induction z with
      | mk b so loc vc hb hf hx hr hs l1 l2 l3 l4 =>
      subst hx
      have hoi : o ∈ os := List.mem_of_getElem? hi2
      have hil : i < os.length := (List.getElem?_eq_some_iff.mp hi2).1
      have hsum : ((os.take (i + 1)).map Op.deg).sum = ((os.take i).map Op.deg).sum + o.deg := by
        rw [List.take_add_one, hi2, List.map_append, List.sum_append]; simp
      have hle : ((os.take (i + 1)).map Op.deg).sum ≤ 800 := by
        refine Nat.le_trans ?_ hdeg
        conv => rhs; rw [← List.take_append_drop (i + 1) os, List.map_append, List.sum_append]
        exact Nat.le_add_right _ _
      have hrow := row_len hb.ok hr
      have hout := out_len hb.ok hr
      have hgon := gone_len hb.ok hr
      have hst : b.s.st.length ≤ 800 := by walk_at "q"
      walk_at "M"
      refine callk_ac (kok_K T.ok kp153) (ac_told T hR' so b hb hf (by walk_at "q") o (hin _ hoi).ok) (Rest := ledB b.s ra sa oa ga) List.perm_append_comm ?_ (fun _ _ _ z => z.elim)
      intro d G' zr42
      refine e1a2 zr42 ?_
      try clear zr42
      intro r zq329 zq330
      subst zq329
      obtain ⟨b', so', ht, hx', hf', rfl⟩ := zq330
      walk_at "M"
      refine callk_ac (kok_K T.ok kp158) (ac_rdy T hR' b.s hb.ok (by walk_at "q") (by walk_at "q") (by walk_at "q") ra sa oa ga) (Rest := so'.led) List.perm_append_comm ?_ (fun _ _ _ z => z.elim)
      rintro d G' hd
      obtain rfl : G' = ledB b.s ra sa oa ga := by cases hd; rfl
      have hb' := ht.ok hb
      have hr' := ht.row (hin _ hoi) hr
      have hst' := ht.st
      have hf2 := hf'.re hb' hr' (by walk_at "q")
      have hrl : b.over = true → b.rl.length ≤ 800 := rl_len hf hb
      walk_at "M"
      refine ⟨show 2 ≤ 1000000 by decide, ?_⟩
      refine asg_local k_due (after_next ?_)
      refine as_cons ?_
      refine AT.mono (Q := MidG b' so' o r so.x ra sa oa ga L) (E := fun _ _ _ _ => False) ?_ ?_ (fun _ _ _ _ z => z.elim)
      · clear hf2 hst' hr' hb' hf'
        refine as_If ?_
        cases ht with
        | @add k ps e =>
          refine ai_keep false ?_ ?_
          · refine ai_BoolOp (all_And ?_)
            walk_at "M"
            refine geti_nat (T := "list") (xs := (Key.str "add" :: k :: ps).map Key.d) seq_list (.inl rfl) 0 (by decide) rfl ?_
            walk_at "M"
            refine op_eqS hR' ?_
            walk_at "M"
            refine kAnd_t (by decide) (all_And ?_)
            refine ai_value (by with_unfolding_all rfl) ?_
            walk_at "M"
            rw [e]
            exact kAnd_f rfl ⟨rfl, rfl, rfl⟩
          refine kIf_f rfl ?_
          walk_at "M"
          refine geti_nat (T := "list") (xs := (Key.str "add" :: k :: ps).map Key.d) seq_list (.inl rfl) 0 (by decide) rfl ?_
          walk_at "M"
          refine op_eqS hR' ?_
          walk_at "M"
          refine kIf_t (by decide) ?_
          walk_at "M"
          have hps : ps.length ≤ 3 := (hin _ hoi).2.2
          refine meth_list PySem.F.slot_list_extend (by with_unfolding_all rfl) (seq_mut (xs := b.s.row.map Key.d) (by walk_at "h")) ?_
          walk_at "M"
          refine ae_CompE (e := fun k : Nat => .int ((1 + k : Nat) : Int)) (fun a b h => by simp at h; walk_at "q") T.ok ⟨by rw [he]; with_unfolding_all rfl, rfl, by decide, by decide⟩ ?_
          walk_at "M"
          refine callk_bi (call_len (T := "list") (xs := (Key.str "add" :: k :: ps).map Key.d) seq_list (.inl rfl) (by simp; walk_at "q") ?_)
          walk_at "M"
          refine callk_typ (call_range2 ?_)
          rw [List.length_map]
          refine ⟨List.range (ps.length + 1), fun i => !decide ((k :: ps).getD i (.int 0) ∈ b.s.row ++ (k :: ps).take i), fun i => ((k :: ps).getD i (.int 0)).d, ⟨by rw [he]; exact ⟨fun _ => rfl, fun _ => rfl, fun _ => rfl, fun _ => rfl, trivial⟩, ⟨_, (by rw [show ps.length + 1 = (Key.str "add" :: k :: ps).length - 1 from rfl]; exact iter_rng2 (a := 1) hR' (by simp; walk_at "q") (by decide)), trivial, fun _ _ _ _ => trivial⟩, by simp; walk_at "q", fun C a1 ys loc' j hj => ?_⟩, ?_⟩
          · generalize hce : compEnvC _ _ C env = ce
            have c_k : ce.kindOf "k" = some .local := kind_of hce.symm (by rw [he]; with_unfolding_all rfl)
            have c_call : ce.kindOf "call" = some .cell := kind_of hce.symm (by rw [he]; with_unfolding_all rfl)
            have c_row : ce.kindOf "row" = some .cell := kind_of hce.symm (by rw [he]; with_unfolding_all rfl)
            have hjl : j < ps.length + 1 := List.mem_range.mp hj
            have hgj : ((Key.str "add" :: k :: ps).map Key.d)[1 + j]? = some ((k :: ps).getD j (.int 0)).d := by
              rw [Nat.add_comm 1 j, List.map_cons, List.getElem?_cons_succ, List.getElem?_map, List.getElem?_eq_getElem (by simpa using hjl), List.getD_eq_getElem?_getD, List.getElem?_eq_getElem (by simpa using hjl)]; rfl
            walk_at "M"
            refine tst_one ?_
            walk_at "M"
            refine geti_nat (T := "list") (xs := (Key.str "add" :: k :: ps).map Key.d) seq_list (.inl rfl) (1 + j) (by walk_at "q") hgj ?_
            walk_at "M"
            refine ae_Slice (fun o i => .inr (by with_unfolding_all rfl)) ?_
            walk_at "M"
            refine ⟨(Key.str "add" :: k :: ps).map Key.d, some 1, some ((1 + j : Nat) : Int), none, seq_list, by simp; walk_at "q", rfl, rfl, rfl, by simp, ?_⟩
            rw [show pick ((Key.str "add" :: k :: ps).map Key.d) (some 1) (some ((1 + j : Nat) : Int)) none = ((k :: ps).take j).map Key.d by
              rw [show (some (1 : Int)) = some (((1 : Nat) : Int)) from rfl, pick_run2, ← List.map_take, ← List.map_drop, Nat.add_comm 1 j]; rfl]
            refine op_addL (xs := b.s.row.map Key.d) (ys := ((k :: ps).take j).map Key.d) (seq_mut (by walk_at "h")) seq_list (by rw [List.length_map, List.length_map, List.length_take]; walk_at "q") ?_
            rw [← List.map_append]
            refine op_ninK hR' seq_list (.inl rfl) ?_
            walk_at "M"
            refine ⟨rfl, ?_⟩
            by_cases q : (k :: ps).getD j (.int 0) ∈ b.s.row ++ (k :: ps).take j
            · refine ite_f (by rw [decide_eq_true q]; decide) ?_
              exact ⟨⟨_, rfl⟩, rfl⟩
            · refine ite_t (by rw [decide_eq_false q]; rfl) ?_
              walk_at "M"
              refine geti_nat (T := "list") (xs := (Key.str "add" :: k :: ps).map Key.d) seq_list (.inl rfl) (1 + j) (by walk_at "q") hgj ?_
              exact ⟨rfl, ⟨_, rfl⟩, rfl⟩
          have hfresh : b.s.row ++ freshL b.s.row (k :: ps) (ps.length + 1) = newR b.s.row (k :: ps) := by
            have := fresh_row (row := b.s.row) (ks := k :: ps) (ps.length + 1) (Nat.le_refl _)
            rw [this]
            show newR b.s.row ((k :: ps).take (k :: ps).length) = _
            rw [List.take_length]
          rw [show ((List.range (ps.length + 1)).filter fun i => !decide ((k :: ps).getD i (.int 0) ∈ b.s.row ++ (k :: ps).take i)).map (fun i => ((k :: ps).getD i (.int 0)).d) = (freshL b.s.row (k :: ps) (ps.length + 1)).map Key.d by unfold freshL; rw [List.map_map]; rfl]
          have hfl : (freshL b.s.row (k :: ps) (ps.length + 1)).length ≤ 8 := by
            unfold freshL; rw [List.length_map]; exact Nat.le_trans (List.length_filter_le _ _) (by rw [List.length_range]; walk_at "q")
          walk_at "M"
          refine callk_bi (call_extend (G1 := []) (.inl rfl) seq_list (by rw [List.length_map, List.length_map]; walk_at "q") ?_)
          rw [← List.map_append, hfresh]
          walk_at "M"
          refine meth_list PySem.F.slot_list_extend (by with_unfolding_all rfl) (seq_mut (xs := b.s.st.map pK) (by walk_at "h")) ?_
          walk_at "M"
          refine ae_CompE key_inj T.ok ⟨by rw [he]; with_unfolding_all rfl, rfl, by decide, by decide⟩ ?_
          refine ae_Slice (fun o i => .inr (by with_unfolding_all rfl)) ?_
          walk_at "M"
          refine sl_from (a := 2) (e := Key.d) (xs := Key.str "add" :: k :: ps) seq_list (by simp; walk_at "q") ?_
          refine .all ps (fun p => pK (p, k)) ⟨by rw [he]; exact ⟨fun _ => rfl, fun _ => rfl, fun _ => rfl, trivial⟩, ⟨_, iter_list hR', trivial, fun _ _ _ _ => trivial⟩, by walk_at "q", fun C a1 ys loc' p hp => ?_⟩ ?_
          · generalize hce : compEnvC _ _ C env = ce
            have c_x : ce.kindOf "x" = some .local := kind_of hce.symm (by rw [he]; with_unfolding_all rfl)
            have c_call : ce.kindOf "call" = some .cell := kind_of hce.symm (by rw [he]; with_unfolding_all rfl)
            walk_at "M"
            refine tst_nil ⟨rfl, ?_⟩
            refine ite_t rfl ?_
            walk_at "M"
            refine geti_nat (T := "list") (xs := (Key.str "add" :: k :: ps).map Key.d) seq_list (.inl rfl) 1 (by decide) rfl ?_
            walk_at "M"
            exact ⟨show 2 ≤ 1000000 by decide, rfl, ⟨_, rfl⟩, rfl⟩
          rw [show ps.map (fun p => pK (p, k)) = (ps.map fun p => (p, k)).map pK by rw [List.map_map]; rfl]
          walk_at "M"
          refine callk_bi (call_extend (G1 := [(ra, .list ((newR b.s.row (k :: ps)).map Key.d))]) (.inl rfl) seq_list (by rw [List.length_map, List.length_map, List.length_map]; walk_at "q") ?_)
          rw [← List.map_append]
          walk_at "M"
          exact ⟨_, by with_unfolding_all assumption, by with_unfolding_all assumption, by with_unfolding_all assumption, by rw [e] at l4; with_unfolding_all assumption, by with_unfolding_all rfl, by with_unfolding_all rfl⟩
        | @addLate k ps e =>
          refine ai_keep true ?_ ?_
          · refine ai_BoolOp (all_And ?_)
            walk_at "M"
            refine geti_nat (T := "list") (xs := (Key.str "add" :: k :: ps).map Key.d) seq_list (.inl rfl) 0 (by decide) rfl ?_
            walk_at "M"
            refine op_eqS hR' ?_
            walk_at "M"
            refine kAnd_t (by decide) (all_And ?_)
            refine ai_value (by with_unfolding_all rfl) ?_
            walk_at "M"
            rw [e]
            exact kAnd_t rfl (all_nil ⟨rfl, rfl, rfl⟩)
          refine kIf_t rfl ?_
          walk_at "M"
          refine ⟨show 3 ≤ 1000000 by decide, ?_⟩
          walk_at "M"
          exact ⟨_, by with_unfolding_all assumption, by with_unfolding_all assumption, by with_unfolding_all assumption, by with_unfolding_all assumption, by with_unfolding_all rfl, by with_unfolding_all rfl⟩
        | prep e fin hfin hall =>
          refine ai_keep false ?_ ?_
          · refine ai_BoolOp (all_And ?_)
            walk_at "M"
            refine geti_nat (T := "list") (xs := [Key.str "prepare"].map Key.d) seq_list (.inl rfl) 0 (by decide) rfl ?_
            walk_at "M"
            refine op_eqS hR' ?_
            walk_at "M"
            exact kAnd_f (by decide) ⟨rfl, rfl, rfl⟩
          refine kIf_f rfl ?_
          walk_at "M"
          refine geti_nat (T := "list") (xs := [Key.str "prepare"].map Key.d) seq_list (.inl rfl) 0 (by decide) rfl ?_
          walk_at "M"
          refine op_eqS hR' ?_
          walk_at "M"
          refine kIf_f (by decide) ?_
          walk_at "M"
          refine geti_nat (T := "list") (xs := [Key.str "prepare"].map Key.d) seq_list (.inl rfl) 0 (by decide) rfl ?_
          walk_at "M"
          refine op_eqS hR' ?_
          walk_at "M"
          refine kIf_t (by decide) ?_
          walk_at "M"
          refine ai_value (by with_unfolding_all rfl) ?_
          walk_at "M"
          rw [e]
          refine kIte_f rfl ?_
          walk_at "M"
          have hpr : PrepR b.s (Res.gave .none).d (.gave .none) := .none _ (left_nil hfin hall hb.ok)
          refine callk_ac (kok_K T.ok kp163) (ac_lprep T hR' b.s (by walk_at "q") (by walk_at "q") ra sa _ _ hpr) (Rest := (oa, .list (b.s.out.map Key.d)) :: (ga, .list (b.s.gone.map Key.d)) :: so'.led) (.refl _) ?_ (fun _ _ _ z => z.elim)
          intro d G' zr43
          refine e0a2 zr43 ?_
          try clear zr43
          intro zq331 zq332
          subst zq331
          subst zq332
          walk_at "M"
          exact ⟨_, by with_unfolding_all assumption, by with_unfolding_all assumption, by with_unfolding_all assumption, by with_unfolding_all rfl, by with_unfolding_all rfl, by with_unfolding_all rfl⟩
        | ring e ring hro =>
          refine ai_keep false ?_ ?_
          · refine ai_BoolOp (all_And ?_)
            walk_at "M"
            refine geti_nat (T := "list") (xs := [Key.str "prepare"].map Key.d) seq_list (.inl rfl) 0 (by decide) rfl ?_
            walk_at "M"
            refine op_eqS hR' ?_
            walk_at "M"
            exact kAnd_f (by decide) ⟨rfl, rfl, rfl⟩
          refine kIf_f rfl ?_
          walk_at "M"
          refine geti_nat (T := "list") (xs := [Key.str "prepare"].map Key.d) seq_list (.inl rfl) 0 (by decide) rfl ?_
          walk_at "M"
          refine op_eqS hR' ?_
          walk_at "M"
          refine kIf_f (by decide) ?_
          walk_at "M"
          refine geti_nat (T := "list") (xs := [Key.str "prepare"].map Key.d) seq_list (.inl rfl) 0 (by decide) rfl ?_
          walk_at "M"
          refine op_eqS hR' ?_
          walk_at "M"
          refine kIf_t (by decide) ?_
          walk_at "M"
          refine ai_value (by with_unfolding_all rfl) ?_
          walk_at "M"
          rw [e]
          refine kIte_f rfl ?_
          walk_at "M"
          have hpr : PrepR b.s (Res.raised ring).d (.raised ring) := .ring ring hro (by
            have := nodup_sub hro.nd fun x hx => hro.inr x (List.dropLast_subset _ hx)
            rw [List.length_dropLast] at this; walk_at "q") fun k hk => (names_fine (hr k (hro.inr k hk))).2
          refine callk_ac (kok_K T.ok kp163) (ac_lprep T hR' b.s (by walk_at "q") (by walk_at "q") ra sa _ _ hpr) (Rest := (oa, .list (b.s.out.map Key.d)) :: (ga, .list (b.s.gone.map Key.d)) :: so'.led) (.refl _) ?_ (fun _ _ _ z => z.elim)
          intro d G' zr44
          refine e0a2 zr44 ?_
          try clear zr44
          intro zq333 zq334
          subst zq333
          subst zq334
          walk_at "M"
          exact ⟨_, by with_unfolding_all assumption, by with_unfolding_all assumption, by with_unfolding_all assumption, by with_unfolding_all rfl, by with_unfolding_all rfl, by with_unfolding_all rfl⟩
        | prepLate e =>
          refine ai_keep false ?_ ?_
          · refine ai_BoolOp (all_And ?_)
            walk_at "M"
            refine geti_nat (T := "list") (xs := [Key.str "prepare"].map Key.d) seq_list (.inl rfl) 0 (by decide) rfl ?_
            walk_at "M"
            refine op_eqS hR' ?_
            walk_at "M"
            exact kAnd_f (by decide) ⟨rfl, rfl, rfl⟩
          refine kIf_f rfl ?_
          walk_at "M"
          refine geti_nat (T := "list") (xs := [Key.str "prepare"].map Key.d) seq_list (.inl rfl) 0 (by decide) rfl ?_
          walk_at "M"
          refine op_eqS hR' ?_
          walk_at "M"
          refine kIf_f (by decide) ?_
          walk_at "M"
          refine geti_nat (T := "list") (xs := [Key.str "prepare"].map Key.d) seq_list (.inl rfl) 0 (by decide) rfl ?_
          walk_at "M"
          refine op_eqS hR' ?_
          walk_at "M"
          refine kIf_t (by decide) ?_
          walk_at "M"
          refine ai_value (by with_unfolding_all rfl) ?_
          walk_at "M"
          rw [e]
          refine kIte_t rfl ?_
          walk_at "M"
          refine ⟨show 3 ≤ 1000000 by decide, ?_⟩
          walk_at "M"
          exact ⟨_, by with_unfolding_all assumption, by with_unfolding_all assumption, by with_unfolding_all assumption, by rw [e]; with_unfolding_all rfl, by with_unfolding_all rfl, by with_unfolding_all rfl⟩
        | @early o ho e =>
          cases o with
          | add k ps => cases ho
          | prep => cases ho
          | ready =>
            refine ai_keep false ?_ ?_
            · refine ai_BoolOp (all_And ?_)
              walk_at "M"
              refine geti_nat (T := "list") (xs := [Key.str "get_ready"].map Key.d) seq_list (.inl rfl) 0 (by decide) rfl ?_
              walk_at "M"
              refine op_eqS hR' ?_
              walk_at "M"
              exact kAnd_f (by decide) ⟨rfl, rfl, rfl⟩
            refine kIf_f rfl ?_
            walk_at "M"
            refine geti_nat (T := "list") (xs := [Key.str "get_ready"].map Key.d) seq_list (.inl rfl) 0 (by decide) rfl ?_
            walk_at "M"
            refine op_eqS hR' ?_
            walk_at "M"
            refine kIf_f (by decide) ?_
            walk_at "M"
            refine geti_nat (T := "list") (xs := [Key.str "get_ready"].map Key.d) seq_list (.inl rfl) 0 (by decide) rfl ?_
            walk_at "M"
            refine op_eqS hR' ?_
            walk_at "M"
            refine kIf_f (by decide) ?_
            walk_at "M"
            refine ai_value (by with_unfolding_all rfl) ?_
            walk_at "M"
            rw [e]
            refine kIf_t rfl ?_
            walk_at "M"
            refine ⟨show 3 ≤ 1000000 by decide, ?_⟩
            walk_at "M"
            exact ⟨_, by with_unfolding_all assumption, by with_unfolding_all assumption, by with_unfolding_all assumption, by with_unfolding_all assumption, by with_unfolding_all rfl, by with_unfolding_all rfl⟩
          | done ks =>
            refine ai_keep false ?_ ?_
            · refine ai_BoolOp (all_And ?_)
              walk_at "M"
              refine geti_nat (T := "list") (xs := (Key.str "done" :: ks).map Key.d) seq_list (.inl rfl) 0 (by decide) rfl ?_
              walk_at "M"
              refine op_eqS hR' ?_
              walk_at "M"
              exact kAnd_f (by decide) ⟨rfl, rfl, rfl⟩
            refine kIf_f rfl ?_
            walk_at "M"
            refine geti_nat (T := "list") (xs := (Key.str "done" :: ks).map Key.d) seq_list (.inl rfl) 0 (by decide) rfl ?_
            walk_at "M"
            refine op_eqS hR' ?_
            walk_at "M"
            refine kIf_f (by decide) ?_
            walk_at "M"
            refine geti_nat (T := "list") (xs := (Key.str "done" :: ks).map Key.d) seq_list (.inl rfl) 0 (by decide) rfl ?_
            walk_at "M"
            refine op_eqS hR' ?_
            walk_at "M"
            refine kIf_f (by decide) ?_
            walk_at "M"
            refine ai_value (by with_unfolding_all rfl) ?_
            walk_at "M"
            rw [e]
            refine kIf_t rfl ?_
            walk_at "M"
            refine ⟨show 3 ≤ 1000000 by decide, ?_⟩
            walk_at "M"
            exact ⟨_, by with_unfolding_all assumption, by with_unfolding_all assumption, by with_unfolding_all assumption, by with_unfolding_all assumption, by with_unfolding_all rfl, by with_unfolding_all rfl⟩
          | act =>
            refine ai_keep false ?_ ?_
            · refine ai_BoolOp (all_And ?_)
              walk_at "M"
              refine geti_nat (T := "list") (xs := [Key.str "is_active"].map Key.d) seq_list (.inl rfl) 0 (by decide) rfl ?_
              walk_at "M"
              refine op_eqS hR' ?_
              walk_at "M"
              exact kAnd_f (by decide) ⟨rfl, rfl, rfl⟩
            refine kIf_f rfl ?_
            walk_at "M"
            refine geti_nat (T := "list") (xs := [Key.str "is_active"].map Key.d) seq_list (.inl rfl) 0 (by decide) rfl ?_
            walk_at "M"
            refine op_eqS hR' ?_
            walk_at "M"
            refine kIf_f (by decide) ?_
            walk_at "M"
            refine geti_nat (T := "list") (xs := [Key.str "is_active"].map Key.d) seq_list (.inl rfl) 0 (by decide) rfl ?_
            walk_at "M"
            refine op_eqS hR' ?_
            walk_at "M"
            refine kIf_f (by decide) ?_
            walk_at "M"
            refine ai_value (by with_unfolding_all rfl) ?_
            walk_at "M"
            rw [e]
            refine kIf_t rfl ?_
            walk_at "M"
            refine ⟨show 3 ≤ 1000000 by decide, ?_⟩
            walk_at "M"
            exact ⟨_, by with_unfolding_all assumption, by with_unfolding_all assumption, by with_unfolding_all assumption, by with_unfolding_all assumption, by with_unfolding_all rfl, by with_unfolding_all rfl⟩
          | boo =>
            refine ai_keep false ?_ ?_
            · refine ai_BoolOp (all_And ?_)
              walk_at "M"
              refine geti_nat (T := "list") (xs := [Key.str "bool"].map Key.d) seq_list (.inl rfl) 0 (by decide) rfl ?_
              walk_at "M"
              refine op_eqS hR' ?_
              walk_at "M"
              exact kAnd_f (by decide) ⟨rfl, rfl, rfl⟩
            refine kIf_f rfl ?_
            walk_at "M"
            refine geti_nat (T := "list") (xs := [Key.str "bool"].map Key.d) seq_list (.inl rfl) 0 (by decide) rfl ?_
            walk_at "M"
            refine op_eqS hR' ?_
            walk_at "M"
            refine kIf_f (by decide) ?_
            walk_at "M"
            refine geti_nat (T := "list") (xs := [Key.str "bool"].map Key.d) seq_list (.inl rfl) 0 (by decide) rfl ?_
            walk_at "M"
            refine op_eqS hR' ?_
            walk_at "M"
            refine kIf_f (by decide) ?_
            walk_at "M"
            refine ai_value (by with_unfolding_all rfl) ?_
            walk_at "M"
            rw [e]
            refine kIf_t rfl ?_
            walk_at "M"
            refine ⟨show 3 ≤ 1000000 by decide, ?_⟩
            walk_at "M"
            exact ⟨_, by with_unfolding_all assumption, by with_unfolding_all assumption, by with_unfolding_all assumption, by with_unfolding_all assumption, by with_unfolding_all rfl, by with_unfolding_all rfl⟩
        | ready e =>
          have hrl2 := hrl e
          obtain rfl := (ready_of hb.ok (hb.rdy e) hd).1
          refine ai_keep false ?_ ?_
          · refine ai_BoolOp (all_And ?_)
            walk_at "M"
            refine geti_nat (T := "list") (xs := [Key.str "get_ready"].map Key.d) seq_list (.inl rfl) 0 (by decide) rfl ?_
            walk_at "M"
            refine op_eqS hR' ?_
            walk_at "M"
            exact kAnd_f (by decide) ⟨rfl, rfl, rfl⟩
          refine kIf_f rfl ?_
          walk_at "M"
          refine geti_nat (T := "list") (xs := [Key.str "get_ready"].map Key.d) seq_list (.inl rfl) 0 (by decide) rfl ?_
          walk_at "M"
          refine op_eqS hR' ?_
          walk_at "M"
          refine kIf_f (by decide) ?_
          walk_at "M"
          refine geti_nat (T := "list") (xs := [Key.str "get_ready"].map Key.d) seq_list (.inl rfl) 0 (by decide) rfl ?_
          walk_at "M"
          refine op_eqS hR' ?_
          walk_at "M"
          refine kIf_f (by decide) ?_
          walk_at "M"
          refine ai_value (by with_unfolding_all rfl) ?_
          walk_at "M"
          rw [e]
          refine kIf_f rfl ?_
          walk_at "M"
          refine geti_nat (T := "list") (xs := [Key.str "get_ready"].map Key.d) seq_list (.inl rfl) 0 (by decide) rfl ?_
          walk_at "M"
          refine op_eqS hR' ?_
          walk_at "M"
          refine kIf_t (by decide) ?_
          walk_at "M"
          refine ⟨show 2 ≤ 1000000 by decide, ?_⟩
          walk_at "M"
          refine meth_list PySem.F.slot_list_extend (by with_unfolding_all rfl) (seq_mut (xs := b.s.out.map Key.d) (by walk_at "h")) ?_
          walk_at "M"
          refine callk_bi (call_extend (G1 := [(ra, .list (b.s.row.map Key.d)), (sa, .list (b.s.st.map pK))]) (.inr rfl) seq_tuple (by rw [List.length_map, List.length_map]; walk_at "q") ?_)
          rw [← List.map_append]
          walk_at "M"
          exact ⟨_, by with_unfolding_all assumption, by with_unfolding_all assumption, by with_unfolding_all assumption, by rw [e] at l4; with_unfolding_all assumption, by with_unfolding_all rfl, by with_unfolding_all rfl⟩
        | @done ks e rl' hz1 hz2 =>
          refine ai_keep false ?_ ?_
          · refine ai_BoolOp (all_And ?_)
            walk_at "M"
            refine geti_nat (T := "list") (xs := (Key.str "done" :: ks).map Key.d) seq_list (.inl rfl) 0 (by decide) rfl ?_
            walk_at "M"
            refine op_eqS hR' ?_
            walk_at "M"
            exact kAnd_f (by decide) ⟨rfl, rfl, rfl⟩
          refine kIf_f rfl ?_
          walk_at "M"
          refine geti_nat (T := "list") (xs := (Key.str "done" :: ks).map Key.d) seq_list (.inl rfl) 0 (by decide) rfl ?_
          walk_at "M"
          refine op_eqS hR' ?_
          walk_at "M"
          refine kIf_f (by decide) ?_
          walk_at "M"
          refine geti_nat (T := "list") (xs := (Key.str "done" :: ks).map Key.d) seq_list (.inl rfl) 0 (by decide) rfl ?_
          walk_at "M"
          refine op_eqS hR' ?_
          walk_at "M"
          refine kIf_f (by decide) ?_
          walk_at "M"
          refine ai_value (by with_unfolding_all rfl) ?_
          walk_at "M"
          rw [e]
          refine kIf_f rfl ?_
          walk_at "M"
          refine geti_nat (T := "list") (xs := (Key.str "done" :: ks).map Key.d) seq_list (.inl rfl) 0 (by decide) rfl ?_
          walk_at "M"
          refine op_eqS hR' ?_
          walk_at "M"
          refine kIf_f (by decide) ?_
          walk_at "M"
          refine geti_nat (T := "list") (xs := (Key.str "done" :: ks).map Key.d) seq_list (.inl rfl) 0 (by decide) rfl ?_
          walk_at "M"
          refine op_eqS hR' ?_
          walk_at "M"
          refine kIf_t (by decide) ?_
          walk_at "M"
          have hko := hin _ hoi
          refine ae_Slice (fun o i => .inr (by with_unfolding_all rfl)) ?_
          walk_at "M"
          refine sl_from (a := 1) (e := Key.d) (xs := Key.str "done" :: ks) seq_list (by simp; have := hko.1; walk_at "q") ?_
          walk_at "M"
          refine callk_ac (kok_K T.ok kp170) (ac_ldone T hR' b.s (by walk_at "q") (by walk_at "q") (by walk_at "q") ra sa oa ga ks hko.1 fun k hk => (names_fine (hko.2 k hk)).1) (Rest := so'.led) (.refl _) ?_ (fun _ _ _ z => z.elim)
          intro d G' zr45
          refine e0a2 zr45 ?_
          try clear zr45
          intro zq335 zq336
          subst zq335
          subst zq336
          walk_at "M"
          exact ⟨_, by with_unfolding_all assumption, by with_unfolding_all assumption, by with_unfolding_all assumption, by rw [e] at l4; with_unfolding_all assumption, by with_unfolding_all rfl, by with_unfolding_all rfl⟩
        | act e =>
          obtain rfl := (ready_of hb.ok (hb.rdy e) hd).1
          refine ai_keep false ?_ ?_
          · refine ai_BoolOp (all_And ?_)
            walk_at "M"
            refine geti_nat (T := "list") (xs := [Key.str "is_active"].map Key.d) seq_list (.inl rfl) 0 (by decide) rfl ?_
            walk_at "M"
            refine op_eqS hR' ?_
            walk_at "M"
            exact kAnd_f (by decide) ⟨rfl, rfl, rfl⟩
          refine kIf_f rfl ?_
          walk_at "M"
          refine geti_nat (T := "list") (xs := [Key.str "is_active"].map Key.d) seq_list (.inl rfl) 0 (by decide) rfl ?_
          walk_at "M"
          refine op_eqS hR' ?_
          walk_at "M"
          refine kIf_f (by decide) ?_
          walk_at "M"
          refine geti_nat (T := "list") (xs := [Key.str "is_active"].map Key.d) seq_list (.inl rfl) 0 (by decide) rfl ?_
          walk_at "M"
          refine op_eqS hR' ?_
          walk_at "M"
          refine kIf_f (by decide) ?_
          walk_at "M"
          refine ai_value (by with_unfolding_all rfl) ?_
          walk_at "M"
          rw [e]
          refine kIf_f rfl ?_
          walk_at "M"
          refine geti_nat (T := "list") (xs := [Key.str "is_active"].map Key.d) seq_list (.inl rfl) 0 (by decide) rfl ?_
          walk_at "M"
          refine op_eqS hR' ?_
          walk_at "M"
          refine kIf_f (by decide) ?_
          walk_at "M"
          refine geti_nat (T := "list") (xs := [Key.str "is_active"].map Key.d) seq_list (.inl rfl) 0 (by decide) rfl ?_
          walk_at "M"
          refine op_eqS hR' ?_
          walk_at "M"
          refine kIf_f (by decide) ?_
          walk_at "M"
          refine ae_Or2 ?_
          walk_at "M"
          refine ⟨show 0 ≤ 1000000 by decide, ?_⟩
          refine op_neNilT hR' seq_tuple (keys_data b.rl) ?_
          walk_at "M"
          have hact := act_eq hb
          rw [List.isEmpty_map]
          cases hz : b.rl.isEmpty with
          | false =>
            rw [hz] at hact
            refine ite_t rfl ?_
            walk_at "M"
            refine ⟨show 2 ≤ 1000000 by decide, ?_⟩
            walk_at "M"
            rw [← hact]
            exact ⟨_, by with_unfolding_all assumption, by with_unfolding_all assumption, by with_unfolding_all assumption, by with_unfolding_all assumption, by with_unfolding_all rfl, by with_unfolding_all rfl⟩
          | true =>
            rw [hz] at hact
            refine ite_f (by decide) ?_
            walk_at "M"
            refine ae_CompE key_inj T.ok ⟨by rw [he]; with_unfolding_all rfl, rfl, by decide, by decide⟩ ?_
            walk_at "M"
            refine ⟨b.s.out, fun x => !decide (x ∈ b.s.gone), Key.d, ⟨by rw [he]; exact ⟨fun _ => rfl, fun _ => rfl, fun _ => rfl, trivial⟩, ⟨_, iter_mut (xs := b.s.out.map Key.d) hR', List.mem_append_right _ (by walk_at "h"), fun C loc' a o => List.mem_append_right _ (by walk_at "h")⟩, by walk_at "q", fun C a1 ys loc' x hx => ?_⟩, ?_⟩
            · generalize hce : compEnvC _ _ C env = ce
              have c_x : ce.kindOf "x" = some .local := kind_of hce.symm (by rw [he]; with_unfolding_all rfl)
              have c_gone : ce.kindOf "gone" = some .cell := kind_of hce.symm (by rw [he]; with_unfolding_all rfl)
              walk_at "M"
              refine tst_one ?_
              walk_at "M"
              refine op_ninK hR' (seq_mut (xs := b.s.gone.map Key.d) (by walk_at "h")) (.inl rfl) ?_
              walk_at "M"
              refine ⟨rfl, ?_⟩
              by_cases q : x ∈ b.s.gone
              · refine ite_f (by rw [decide_eq_true q]; decide) ?_
                exact ⟨⟨_, rfl⟩, rfl⟩
              · refine ite_t (by rw [decide_eq_false q]; rfl) ?_
                walk_at "M"
                exact ⟨rfl, ⟨_, rfl⟩, rfl⟩
            walk_at "M"
            refine ae_List ?_
            walk_at "M"
            refine ⟨by decide, ?_⟩
            refine op_neNil hR' seq_list (keys_data _) ?_
            rw [List.isEmpty_map]
            walk_at "M"
            refine ⟨show 2 ≤ 1000000 by decide, ?_⟩
            walk_at "M"
            rw [← hact]
            exact ⟨_, by with_unfolding_all assumption, by with_unfolding_all assumption, by with_unfolding_all assumption, by with_unfolding_all assumption, by with_unfolding_all rfl, by with_unfolding_all rfl⟩
        | boo e =>
          obtain rfl := (ready_of hb.ok (hb.rdy e) hd).1
          refine ai_keep false ?_ ?_
          · refine ai_BoolOp (all_And ?_)
            walk_at "M"
            refine geti_nat (T := "list") (xs := [Key.str "bool"].map Key.d) seq_list (.inl rfl) 0 (by decide) rfl ?_
            walk_at "M"
            refine op_eqS hR' ?_
            walk_at "M"
            exact kAnd_f (by decide) ⟨rfl, rfl, rfl⟩
          refine kIf_f rfl ?_
          walk_at "M"
          refine geti_nat (T := "list") (xs := [Key.str "bool"].map Key.d) seq_list (.inl rfl) 0 (by decide) rfl ?_
          walk_at "M"
          refine op_eqS hR' ?_
          walk_at "M"
          refine kIf_f (by decide) ?_
          walk_at "M"
          refine geti_nat (T := "list") (xs := [Key.str "bool"].map Key.d) seq_list (.inl rfl) 0 (by decide) rfl ?_
          walk_at "M"
          refine op_eqS hR' ?_
          walk_at "M"
          refine kIf_f (by decide) ?_
          walk_at "M"
          refine ai_value (by with_unfolding_all rfl) ?_
          walk_at "M"
          rw [e]
          refine kIf_f rfl ?_
          walk_at "M"
          refine geti_nat (T := "list") (xs := [Key.str "bool"].map Key.d) seq_list (.inl rfl) 0 (by decide) rfl ?_
          walk_at "M"
          refine op_eqS hR' ?_
          walk_at "M"
          refine kIf_f (by decide) ?_
          walk_at "M"
          refine geti_nat (T := "list") (xs := [Key.str "bool"].map Key.d) seq_list (.inl rfl) 0 (by decide) rfl ?_
          walk_at "M"
          refine op_eqS hR' ?_
          walk_at "M"
          refine kIf_f (by decide) ?_
          walk_at "M"
          refine ae_Or2 ?_
          walk_at "M"
          refine ⟨show 0 ≤ 1000000 by decide, ?_⟩
          refine op_neNilT hR' seq_tuple (keys_data b.rl) ?_
          walk_at "M"
          have hact := act_eq hb
          rw [List.isEmpty_map]
          cases hz : b.rl.isEmpty with
          | false =>
            rw [hz] at hact
            refine ite_t rfl ?_
            walk_at "M"
            refine ⟨show 2 ≤ 1000000 by decide, ?_⟩
            walk_at "M"
            rw [← hact]
            exact ⟨_, by with_unfolding_all assumption, by with_unfolding_all assumption, by with_unfolding_all assumption, by with_unfolding_all assumption, by with_unfolding_all rfl, by with_unfolding_all rfl⟩
          | true =>
            rw [hz] at hact
            refine ite_f (by decide) ?_
            walk_at "M"
            refine ae_CompE key_inj T.ok ⟨by rw [he]; with_unfolding_all rfl, rfl, by decide, by decide⟩ ?_
            walk_at "M"
            refine ⟨b.s.out, fun x => !decide (x ∈ b.s.gone), Key.d, ⟨by rw [he]; exact ⟨fun _ => rfl, fun _ => rfl, fun _ => rfl, trivial⟩, ⟨_, iter_mut (xs := b.s.out.map Key.d) hR', List.mem_append_right _ (by walk_at "h"), fun C loc' a o => List.mem_append_right _ (by walk_at "h")⟩, by walk_at "q", fun C a1 ys loc' x hx => ?_⟩, ?_⟩
            · generalize hce : compEnvC _ _ C env = ce
              have c_x : ce.kindOf "x" = some .local := kind_of hce.symm (by rw [he]; with_unfolding_all rfl)
              have c_gone : ce.kindOf "gone" = some .cell := kind_of hce.symm (by rw [he]; with_unfolding_all rfl)
              walk_at "M"
              refine tst_one ?_
              walk_at "M"
              refine op_ninK hR' (seq_mut (xs := b.s.gone.map Key.d) (by walk_at "h")) (.inl rfl) ?_
              walk_at "M"
              refine ⟨rfl, ?_⟩
              by_cases q : x ∈ b.s.gone
              · refine ite_f (by rw [decide_eq_true q]; decide) ?_
                exact ⟨⟨_, rfl⟩, rfl⟩
              · refine ite_t (by rw [decide_eq_false q]; rfl) ?_
                walk_at "M"
                exact ⟨rfl, ⟨_, rfl⟩, rfl⟩
            walk_at "M"
            refine ae_List ?_
            walk_at "M"
            refine ⟨by decide, ?_⟩
            refine op_neNil hR' seq_list (keys_data _) ?_
            rw [List.isEmpty_map]
            walk_at "M"
            refine ⟨show 2 ≤ 1000000 by decide, ?_⟩
            walk_at "M"
            rw [← hact]
            exact ⟨_, by with_unfolding_all assumption, by with_unfolding_all assumption, by with_unfolding_all assumption, by with_unfolding_all assumption, by with_unfolding_all rfl, by with_unfolding_all rfl⟩
      · intro fl F G zr46
        obtain ⟨loc, l1, l2, l3, l4, l5, l6⟩ := zr46
        obtain ⟨q1, q2, hh, ee, tt, q3, q4⟩ := ht.rok
        refine after_next ?_
        refine as_cons (as_If (ai_BoolOp (all_Or ?_)))
        walk_at "M"
        refine op_neSame hR' q1 q2 ?_
        walk_at "M"
        refine kOr_f rfl (all_Or ?_)
        rw [q3] at l5 l6
        walk_at "M"
        refine geti_nat (T := "tuple") seq_tuple (.inr rfl) 1 (by decide) rfl ?_
        walk_at "M"
        refine callk_typ (call_type q4 ?_)
        walk_at "M"
        refine geti_nat (T := "tuple") seq_tuple (.inr rfl) 1 (by decide) rfl ?_
        walk_at "M"
        refine callk_typ (call_type q4 ?_)
        walk_at "M"
        refine op_isNotTyp ?_
        walk_at "M"
        refine kOr_f (by simp) (all_nil ?_)
        refine kIf_f rfl ?_
        walk_at "M"
        exact ⟨b', so', _, _, hb', hf2, hx', hr', by walk_at "q", l1, l2, l3, l4⟩
    · intro F G zr47
      obtain ⟨b, so, loc, vc, hb, hf, hx, hr, hs, l1, l2, l3, l4⟩ := zr47
      walk_at "M"
      exact ⟨[], _, .refl _, rfl⟩
end
theorem nameAt_in (i : Int) : nameAt i ∈ namesT := by
  unfold nameAt
  rw [List.getD_eq_getElem?_getD]
  by_cases h : i.toNat < namesT.length
  · rw [List.getElem?_eq_getElem h]; exact List.getElem_mem h
  · rw [List.getElem?_eq_none (by walk_at "q")]; exact .head _
theorem opOf_in (w place len : Nat) (x : Int) : OpIn (opOf w place len x) := by
  unfold opOf
  split
  · split <;> trivial
  · split
    · refine ⟨nameAt_in _, fun p hp => ?_, ?_⟩
      · refine e1a2 (List.mem_map.mp hp) fun k _ zq337 => ?_
        subst zq337
        exact nameAt_in _
      · rw [List.length_map]
        unfold ahdL
        refine Nat.le_trans (List.length_filter_le _ _) ?_
        rw [List.length_map, List.length_range]
        refine e1a2 (fmod_nat (k := 4) ((x.fdiv 4).fdiv w) (by decide)) fun m h1 h2 => ?_
        rw [show (4 : Int) = ((4 : Nat) : Int) from rfl] at *
        rw [h1, Int.toNat_natCast]; exact Nat.le_of_lt_succ h2
    · refine ⟨?_, fun p hp => ?_⟩
      · rw [List.length_map, List.length_range]
        refine e1a2 (fmod_nat (k := 9) (x.fdiv 4) (by decide)) fun m h1 h2 => ?_
        rw [show (9 : Int) = ((9 : Nat) : Int) from rfl, h1, Int.toNat_natCast]; exact Nat.le_of_lt_succ h2
      · refine e1a2 (List.mem_map.mp hp) fun k _ zq338 => ?_
        subst zq338
        exact nameAt_in _
theorem raw_in {w pl : Nat} {ns : List Int} : ∀ o ∈ rawOps w pl ns, OpIn o := fun o ho => by
  unfold rawOps at ho
  refine e1a2 (List.mem_map.mp ho) fun i _ zq339 => ?_
  subst zq339
  exact opOf_in _ _ _ _
theorem ops_in {ns : List Int} : ∀ o ∈ opsL ns, OpIn o := fun o ho => by
  unfold opsL at ho
  simp only [List.mem_append, List.mem_cons, List.not_mem_nil, or_false] at ho
  rcases ho with (((rfl | rfl) | h) | rfl) | h
  · exact ⟨.head _, fun p hp => (nomatch hp), Nat.zero_le _⟩
  · exact ⟨.tail _ (.head _), fun p hp => by rw [List.mem_singleton.mp hp]; exact .head _, by decide⟩
  · exact raw_in o (List.mem_of_mem_take h)
  · trivial
  · exact raw_in o (List.mem_of_mem_drop h)
theorem ops_len (ns : List Int) : (opsL ns).length = ns.length + 3 := by
  unfold opsL
  have h : (rawOps (widthL ns) (placeL ns) ns).length = ns.length := by unfold rawOps; simp
  simp only [List.length_append, List.length_cons, List.length_nil, List.length_take, List.length_drop, h]
  walk_at "q"
theorem deg_le {o : Op} (h : OpIn o) : o.deg ≤ 3 := by
  cases o with
  | add k ps => exact h.2.2
  | _ => exact Nat.zero_le _
theorem deg_sum {os : List Op} (h : ∀ o ∈ os, OpIn o) : (os.map Op.deg).sum ≤ 3 * os.length := by
  induction os with
  | nil => exact Nat.le_refl _
  | cons o r ih =>
    have h1 := deg_le (h o (.head _))
    have h2 := ih fun x hx => h x (.tail _ hx)
    simp only [List.map_cons, List.sum_cons, List.length_cons]; walk_at "q"
noncomputable def looked (os : List Op) : List Op := (os.flatMap fun o => [.act, .boo, o]) ++ [.act, .boo]
theorem looked_in {os : List Op} (h : ∀ o ∈ os, OpIn o) : ∀ o ∈ looked os, OpIn o := fun o ho => by
  unfold looked at ho
  simp only [List.mem_append, List.mem_flatMap, List.mem_cons, List.not_mem_nil, or_false] at ho
  rcases ho with ⟨x, hx, rfl | rfl | rfl⟩ | rfl | rfl
  · trivial
  · trivial
  · exact h _ hx
  · trivial
  · trivial
theorem looked_len (os : List Op) : (looked os).length = 3 * os.length + 2 := by
  unfold looked
  rw [List.length_append]
  have : (os.flatMap fun o => [Op.act, Op.boo, o]).length = 3 * os.length := by
    induction os with
    | nil => rfl
    | cons o r ih => simp only [List.flatMap_cons, List.length_append, List.length_cons, List.length_nil, ih]; walk_at "q"
  rw [this]; rfl
section
variable {c : Cx} {A : Around}
theorem g_calls (T : Top c) : Glob c "_law_calls" (.ref 146) := T.glob (v := .ref 146) (by with_unfolding_all rfl) (by simp [Rel])
theorem g_goes (T : Top c) : Glob c "_law_goes" (.ref 175) := T.glob (v := .ref 175) (by with_unfolding_all rfl) (by simp [Rel])
theorem ac_law {n : Nat} (T : Top c) (hR : Rm (n + 9) A) (ns : List Int) (hn : ns.length ≤ 63) :
    AC c A (.ref 180) [.list (ns.map .int)] [] (fun d _ => d = .bool true) (fun _ _ _ => False) := by
  refine AC.shed (ac_fun (bs := [("script", .list (ns.map .int))]) (fun L => ⟨L, [("script", .list (ns.map .int))], [("looks", L + 1, none)]⟩) T.ok hR (DefOk.mk ⟨_, T.in (by with_unfolding_all rfl), by with_unfolding_all rfl⟩ ⟨_, _, _, _, rfl, T.in (by with_unfolding_all rfl), rfl, rfl⟩ rfl rfl rfl rfl rfl rfl rfl (by decide) (by decide)) (fun w vs hvs => ?_) (by show (["script"] : List Str).Nodup; decide) (hk_of (by with_unfolding_all rfl)) (fun L => by with_unfolding_all rfl) (fun L env A' he hR' hA => ?_))
  · simp only [Rels] at hvs
    refine e2a3 hvs ?_
    try clear hvs
    intro v1 r1 zq340 h1 zq341
    subst zq340
    subst zq341
    exact bind_pure (by with_unfolding_all rfl) ⟨_, _, rfl, h1, rfl⟩
  · have k_script : env.kindOf "script" = some .local := kind_of he (by with_unfolding_all rfl)
    have k_calls : env.kindOf "calls" = some .local := kind_of he (by with_unfolding_all rfl)
    have k_looks : env.kindOf "looks" = some .cell := kind_of he (by with_unfolding_all rfl)
    have k__law_calls : env.kindOf "_law_calls" = some .globalImplicit := kind_of he (by with_unfolding_all rfl)
    have k__law_goes : env.kindOf "_law_goes" = some .globalImplicit := kind_of he (by with_unfolding_all rfl)
    have hi : interactive env = false := by rw [he]; with_unfolding_all rfl
    have g1 := g_calls T
    have g2 := g_goes T
    have kp146 : keepIn c.K (.ref 146) = true := by rw [T.K]; with_unfolding_all rfl
    have kp175 : keepIn c.K (.ref 175) = true := by rw [T.K]; with_unfolding_all rfl
    walk_at "M"
    obtain ⟨ms, hms, hml⟩ : ∃ ms : List Int, ms = (if ns.isEmpty then [0, 6] else ns) ∧ ms.length ≤ 63 := ⟨_, rfl, by split <;> first | exact hn | decide⟩
    refine AT.mono (Q := fun d F1 G1 => d = .list (ms.map D.int) ∧ F1 = ⟨L, [("script", .list (ns.map .int))], [("looks", L + 1, none)]⟩ ∧ G1 = []) (E := fun _ _ _ _ => False) ?_ ?_ (fun _ _ _ _ z => z.elim)
    · refine ae_Or2 ?_
      walk_at "M"
      refine tr_seq (T := "list") seq_list (.inl rfl) (by simp; walk_at "q") ?_
      rw [List.isEmpty_map]
      cases hz : ns.isEmpty with
      | false =>
        rw [hz] at hms
        refine ite_t rfl ⟨by rw [hms]; rfl, rfl, rfl⟩
      | true =>
        rw [hz] at hms
        refine ite_f (by decide) ?_
        refine ae_List ?_
        walk_at "M"
        exact ⟨by decide, by rw [hms]; rfl, rfl, rfl⟩
    intro d F1 G1 zr48
    refine e0a3 zr48 ?_
    try clear zr48
    intro zq342 zq343 zq344
    subst zq342
    subst zq343
    subst zq344
    walk_at "M"
    refine callk_ac (kok_K T.ok kp146) (ac_calls T hR' ms (by walk_at "q")) (Rest := []) (.refl _) ?_ (fun _ _ _ z => z.elim)
    intro d G' zr49
    refine e0a2 zr49 ?_
    try clear zr49
    intro zq345 zq346
    subst zq345
    subst zq346
    rw [List.append_nil]
    have hin := ops_in (ns := ms)
    have hlen := ops_len ms
    generalize opsL ms = os at hin hlen
    walk_at "M"
    refine ae_List ?_
    walk_at "M"
    refine ae_List ?_
    walk_at "M"
    refine ⟨show 1 ≤ 1000000 by decide, ?_⟩
    walk_at "M"
    refine ae_List ?_
    walk_at "M"
    refine ⟨show 1 ≤ 1000000 by decide, ?_⟩
    walk_at "M"
    refine ⟨show 2 ≤ 1000000 by decide, ?_⟩
    walk_at "M"
    refine ae_And2 ?_
    walk_at "M"
    refine ae_Comp2 (e1 := Op.d) (e2 := Op.d) T.ok ⟨by rw [he]; with_unfolding_all rfl, rfl, by decide, by decide⟩ ?_
    walk_at "M"
    refine ⟨os, fun o => [.act, .boo, o], fun _ _ => true, fun _ y => y.d, ⟨by rw [he]; exact ⟨fun _ => rfl, fun _ => rfl, fun _ => rfl, fun _ => rfl, trivial⟩, ⟨_, iter_list hR', trivial, fun _ _ _ _ => trivial⟩, ?_, fun C a1 zs loc' o ho => ?_⟩, ?_⟩
    · have hl := looked_len os
      unfold looked at hl
      rw [List.length_append] at hl
      have : (os.flatMap fun x => (([Op.act, Op.boo, x] : List Op).filter fun _ => true).map fun y => y.d) = (os.flatMap fun x => [Op.act, Op.boo, x]).map Op.d := by
        rw [List.map_flatMap]; rfl
      rw [this, List.length_map]
      simp only [List.length_cons, List.length_nil] at hl
      walk_at "q"
    · generalize hce : compEnvC _ _ C env = ce
      have c_call : ce.kindOf "call" = some .local := kind_of hce.symm (by rw [he]; with_unfolding_all rfl)
      have c_one : ce.kindOf "one" = some .local := kind_of hce.symm (by rw [he]; with_unfolding_all rfl)
      have c_looks : ce.kindOf "looks" = some .cell := kind_of hce.symm (by rw [he]; with_unfolding_all rfl)
      walk_at "M"
      refine ⟨⟨_, rfl⟩, rfl, ?_⟩
      walk_at "M"
      refine ae_List ?_
      walk_at "M"
      refine ⟨show 1 ≤ 1000000 by decide, ?_⟩
      refine op_addL (xs := [Op.act.d, Op.boo.d]) (ys := [o.d]) seq_list seq_list (by simp) ?_
      refine ⟨rfl, rfl, fun _ => True, iter_list (xs := [Op.act.d, Op.boo.d, o.d]) hR', fun _ _ => trivial, fun _ => True, trivial, fun zs2 loc2 y _ hy => ?_⟩
      walk_at "M"
      refine tst_nil ⟨rfl, ?_⟩
      refine ite_t rfl ?_
      walk_at "M"
      exact ⟨rfl, ⟨_, rfl, trivial⟩, rfl⟩
    rw [show (os.flatMap fun x => (([Op.act, Op.boo, x] : List Op).filter fun _ => true).map fun y => y.d) = (os.flatMap fun x => [Op.act, Op.boo, x]).map Op.d by rw [List.map_flatMap]; rfl]
    have hll := looked_len os
    walk_at "M"
    refine op_addL (xs := (os.flatMap fun x => [Op.act, Op.boo, x]).map Op.d) (ys := [Op.act, Op.boo].map Op.d) seq_list seq_list (by rw [← List.length_append, ← List.map_append, List.length_map]; show (looked os).length ≤ _; walk_at "q") ?_
    rw [← List.map_append]
    walk_at "M"
    have hd1 := deg_sum hin
    have hd2 : ((looked os).map Op.deg).sum ≤ 800 := by
      have : ((looked os).map Op.deg).sum = (os.map Op.deg).sum := by
        unfold looked
        rw [List.map_append, List.sum_append]
        have : ((os.flatMap fun o => [Op.act, Op.boo, o]).map Op.deg).sum = (os.map Op.deg).sum := by
          clear hd1 hin hlen hll
          induction os with
          | nil => rfl
          | cons o r ih =>
            rw [List.flatMap_cons, List.map_append, List.sum_append, ih]
            simp [Op.deg]
        rw [this]; rfl
      walk_at "q"
    refine callk_ac (kok_K T.ok kp175) (ac_goes T hR' (looked os) (by walk_at "q") (looked_in hin) hd2) (Rest := []) (.refl _) ?_ (fun _ _ _ z => z.elim)
    rintro d G' rfl
    walk_at "M"
    refine ite_t rfl ?_
    walk_at "M"
    refine op_addL (xs := os.map Op.d) (ys := [Op.act, Op.boo].map Op.d) seq_list seq_list (by simp; walk_at "q") ?_
    rw [← List.map_append]
    walk_at "M"
    have hin2 : ∀ o ∈ os ++ [Op.act, Op.boo], OpIn o := fun o ho => by
      rcases List.mem_append.mp ho with h | h
      · exact hin o h
      · simp only [List.mem_cons, List.not_mem_nil, or_false] at h
        rcases h with rfl | rfl <;> trivial
    refine callk_ac (kok_K T.ok kp175) (ac_goes T hR' (os ++ [Op.act, Op.boo]) (by simp; walk_at "q") hin2 (by have := deg_sum hin2; rw [List.length_append] at this; simp only [List.length_cons, List.length_nil] at this; walk_at "q")) (Rest := G') (by simp) ?_ (fun _ _ _ z => z.elim)
    rintro d G2 rfl
    walk_at "M"
    exact ⟨_, [], (by rw [List.append_nil]), rfl⟩
end
end Mine
theorem PySem.Challenge.cw_dv0014_01_holds : PySem.Challenge.rw_dv0014_01.Holds :=
  Mine.glue fun c T A hR ns hn => Mine.ac_law (n := 91) T hR ns hn
